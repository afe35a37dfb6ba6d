/-
  Part 44 of the proof of the law FnExpSum: XMi, XRsN. Conditions: those of each statement.
-/
import Derived.Test.YthecibbmbnpegaaGreatDoorK43
import Derived.Laws.Bits64
import Derived.Deep.DeepCutAuto
import Derived.Deep.RegionWith
set_option linter.unusedSimpArgs false
set_option linter.unusedVariables false
set_option maxRecDepth 100000
set_option maxHeartbeats 1000000
namespace Go.Proofs.YthecibbmbnpegaaGreatDoor
open Go.Big Go.RowKit
attribute [local go_sem ↓] Go.wp_at_zero Go.wp_at_succ
section
variable {w0 w:World}{pd px:Nat}{a b g n:In}{M:Int}
def GcP(w0:World)(pd px:Nat)(a b:Int)(e:Ending)(w':World):Prop:=
 e= .returned (.pointer (some ⟨pd,0,none⟩))/\ ∃d' x':In,d'.p=pd/\x'.p=px/\d'.v=1/\Cg b (a*x'.v) 1/\ -b<=x'.v/\x'.v<=b/\Li w0 w' [d',x']
theorem gcd_any(h:Li w0 w [newIn pd,newIn px])(ha:InOk w0 a)(hb:InOk w0 b)(ha0:0<a.v)(hb0:0<b.v)(haM:a.v<=M)(hbM:b.v<=M)(hM:M<18446744073709551616^78)(hc: ∀d:Int,d∣a.v->d∣b.v->d∣1)(hg:Gl w0):
 Calls Tryz.prog 60 #[.pointer (some ⟨pd,0,none⟩),.pointer (some ⟨px,0,none⟩),.pointer none,.pointer (some ⟨a.p,0,none⟩),.pointer (some ⟨b.p,0,none⟩)] w (GcP w0 pd px a.v b.v):=by
 have C:=κ (show Calls _ _ _ _ (GcP w0 pd px a.v b.v)from lehGCD h ha hb ha0 hb0 haM hbM hM hc hg);have ka:=ha.fr0 h.fr;have kb:=hb.fr0 h.fr;have a1:=ka.ib.cell1;have b1:=kb.ib.cell1;have la:=(In.pos ha ha0).2.1;have lb:=(In.pos hb hb0).2.1;have hca:=ka.c9;have hcb:=kb.c9;have hla:=ka.nm.le;have hlb:=kb.nm.le;have ea:((a.xs.length:Int)==0)=false:=by rw[beq_eq_false_iff_ne];omega
 have eb:((b.xs.length:Int)==0)=false:=by rw[beq_eq_false_iff_ne];omega
 clear h ha hb ha0 hb0 haM hbM hM hc hg ka kb;go_enter Tryz.func60,Tryz.ntmps60;go_wp2_with (go_at_call 91;refine(C.out).mono ?_;rintro e w1 ⟨rfl,hp⟩;have HP:=κ hp;clear hp);first|go_ret2|go_ret
 exact⟨rfl,HP.out⟩
theorem intOne_any(w:World):Calls Tryz.prog 62 #[] w fun e w'=> ∃p A c,e= .returned (.pointer (some ⟨p,0,none⟩))/\IntB w' p false A 1 c/\SW w' (.slice A 1 c) 1/\Fr [] w w'/\w.heap.size<=p:=by
 go_enter Tryz.func62,Tryz.ntmps62;go_wp2_with (go_at_call 92;refine(natOne_any w).mono ?_;rintro e w1 ⟨v,rfl,hs,f1⟩;obtain⟨A,c,rfl⟩:=hs.one;have HS:=κ hs;have F1:=κ f1;clear hs f1);first|go_ret2|go_ret
 exact⟨w1.heap.size,A,c,rfl,heap_alloc_new w1 _,HS.out.fr0 ((Fr.refl _ _).alloc _),F1.out.alloc _,F1.out.size⟩
theorem intCmp_eq{p r l1 c1 l2 c2:Nat}{A1 A2:Option Addr}{V:Int}(hne:p≠r)(h1:IntB w p false A1 l1 c1)(s1:SW w (.slice A1 l1 c1) V)(h2:IntB w r false A2 l2 c2)(s2:SW w (.slice A2 l2 c2) V):
 Calls Tryz.prog 61 #[.pointer (some ⟨p,0,none⟩),.pointer (some ⟨r,0,none⟩)] w fun e w'=>e= .returned (.int .i64 0)/\Fr [] w w':=by
 have hq:=eql_ptrI (a:=⟨p,0,none⟩) (c:=⟨r,0,none⟩) w (by intro e;injection e with e;exact hne e) h1 h2;have CC:=κ (fun W (f:Fr [] w W)=>bcmp_any (.slice A1 l1 c1) (.slice A2 l2 c2) V V W (s1.fr0 f) (s2.fr0 f));have hc:cmpI V V=0:=by unfold cmpI;simp
 rw[hc]at CC;have p0:=h1.cell0;have r0:=h2.cell0;have p1:=h1.cell1;have r1:=h2.cell1;have H1:=κ h1;have H2:=κ h2;clear hc s1 s2 h1 h2 hne;go_enter Tryz.func61,Tryz.ntmps61;go_upto_region 3 with fail;clear hq;go_quiet (fail);go_upto_region 4 with fail;go_region_held3 (fun w'=>w'.cell? ⟨p,1,none⟩=some (.slice A1 l1 c1)/\w'.cell? ⟨r,1,none⟩=some (.slice A2 l2 c2)/\w'.cell? ⟨p,0,none⟩=some (.bool false)) (first|exact⟨by assumption,by assumption,by assumption⟩|go_keep) ((go_at_call 47;refine(CC.out _ ((Fr.refl _ _).drewN _).drew).mono ?_;rintro e w7 ⟨rfl,f7⟩;have F7:=κ (show Fr [] w w7 from⟨f7.os,f7.tape,f7.output,f7.size,f7.block⟩);clear f7;have p71:=(H1.out.fr0 F7.out).cell1;have p70:=(H1.out.fr0 F7.out).cell0;have r71:=(H2.out.fr0 F7.out).cell1));all_goals (go_wp2_with fail)
 all_goals (first|go_ret2|go_ret)
 all_goals exact⟨rfl,F7.out⟩
def MiP(w:World)(pz:Nat)(g n:Int)(e:Ending)(w':World):Prop:=
 e= .returned (.pointer (some ⟨pz,0,none⟩))/\ ∃ng A b o c zs,IntB w' pz ng A zs.length c/\Nm w' A b o c zs/\DG 18446744073709551616 zs/\NZ zs/\0<=val 18446744073709551616 zs/\val 18446744073709551616 zs<=n/\Cg n (g*val 18446744073709551616 zs) 1/\(c=0\/w.heap.size<=b)/\Fc 51 (fun b _=>b=pz) w w'
theorem mi_fin{w1 w2:World}{pz k:Nat}{G N V:Int}{e:Ending}{A:Option Addr}(f:Fr [] w w1)(hp:IntP w1 pz A w1.heap.size 0 0 k V e w2)(h0:0<=V)(h1:V<=N)(hc:Cg N (G*V) 1):MiP w pz G N e w2:=by
 obtain⟨ng,A',b',o',c',zs,rfl,i1,i2,i3,i4,i5,i6,i7⟩:=hp;have hz:=val_nonneg (B:=18446744073709551616) (by omega) i3
 have hv:val 18446744073709551616 zs=V:=by
  cases ng with
  |false=>rw[sg_f]at i5;exact i5
  |true=>rw[sg_t]at i5;omega
 refine⟨rfl,ng,A',b',o',c',zs,i1,i2,i3,i4,hz,by omega,by rw[hv];exact hc,?_,(Fc.fr0 f _ _).t (i7.mono (fun b i hh hlt=> ?_))⟩
 ·rcases i6 with⟨_,_,_,e4⟩|⟨e1,_⟩
  ·exact .inl e4
  ·exact .inr (Nat.le_trans f.size e1)
 ·rcases hh with hh|hh
  ·exact hh
  ·have:=hh.1;omega
theorem cg_shift{N G x:Int}(h:Cg N (G*x) 1):Cg N (G*(x+N)) 1:=by
 obtain⟨k,hk⟩:=h;exact⟨k+G,by rw[Int.mul_add,Int.mul_add,Int.mul_comm G N];omega⟩
theorem int_second(w:World):IntB ((w.alloc (.cells #[.bool false,.slice none 0 0] 45)).alloc (.cells #[.bool false,.slice none 0 0] 45)) (w.heap.size+1) false none 0 0:=by
 have h:=heap_alloc_new (w.alloc (.cells #[.bool false,.slice none 0 0] 45)) (.cells #[.bool false,.slice none 0 0] 45);have e:(w.alloc (.cells #[.bool false,.slice none 0 0] 45)).heap.size=w.heap.size+1:=by simp
 rw[e]at h;exact h
theorem mi_cmp{w2 w3:World}{d' x':In}{p1 c1:Nat}{A1:Option Addr}(l:Li w w2 [d',x'])(hv:d'.v=1)(f:Fr [] w2 w3)(hp:w2.heap.size<=p1)(i1:IntB w3 p1 false A1 1 c1)(s1:SW w3 (.slice A1 1 c1) 1):
 Calls Tryz.prog 61 #[.pointer (some ⟨d'.p,0,none⟩),.pointer (some ⟨p1,0,none⟩)] w3 fun e w'=>e= .returned (.int .i64 0)/\Fr [] w3 w':=by
 have ho:=l.ok d' (by simp);have h3:=ho.fr0 f;have hlt:=ho.ib.lt;obtain⟨hn,_,hvv⟩:=In.pos ho (by omega);have ib:=h3.ib;rw[hn]at ib;have hs:=h3.nm.sw h3.dg h3.nz;rw[<-hvv,hv]at hs;exact intCmp_eq (by omega) ib hs i1 s1
theorem IntP.eq{w w':World}{pz:Nat}{A:Option Addr}{bz oz cz k:Nat}{V:Int}{e:Ending}(h:IntP w pz A bz oz cz k V e w'): .returned (.pointer (some ⟨pz,0,none⟩))=e:=by
 obtain⟨_,_,_,_,_,_,h,_⟩:=h;exact h.symm
theorem mi_add{w4:World}{pz:Nat}{x':In}(hz:IntB w4 pz false none 0 0)(hx:InOk w4 x')(hn:InOk w4 n)(hpn:pz≠n.p)(hpx:pz≠x'.p)(hn9:n.xs.length<=1000)(hx9:x'.xs.length<=1000):
 Calls Tryz.prog 63 #[.pointer (some ⟨pz,0,none⟩),.pointer (some ⟨x'.p,0,none⟩),.pointer (some ⟨n.p,0,none⟩)] w4 (IntP w4 pz none w4.heap.size 0 0 1001 (x'.v+n.v))/\
 Calls Tryz.prog 38 #[.pointer (some ⟨pz,0,none⟩),.pointer (some ⟨x'.p,0,none⟩)] w4 (IntP w4 pz none w4.heap.size 0 0 0 x'.v):=by
 have h1:=hz.lt;have h2:=hx.ib.lt;have h3:=hn.ib.lt
 have al: ∀(u:In),InOk w4 u->0<u.xs.length->Al w4.heap.size 0 1001 u.b u.o u.xs.length:=fun u hu hl=>by
  have:=hu.blt (by have:=hu.nm.le;omega);unfold Al Dj;omega
 refine⟨intAddS_any 1001 pz false none 0 w4.heap.size 0 0 x'.p x'.ng x'.A x'.b x'.o x'.c x'.xs n.p n.ng n.A n.b n.o n.c n.xs w4 hz (Rcv.nil _ _ _) (Nat.le_refl _) (by omega) hpn (by omega) (by omega) hx.ib hx.nm hx.dg hx.nz hn.ib hn.nm hn.dg hn.nz (by omega) (by omega) (by omega) hx.c9 hn.c9 (by omega) (al x' hx) (al n hn),?_⟩;refine(intSet_any hz (Rcv.nil _ w4.heap.size 0) (Nat.le_refl _) (by omega) (by omega) hpx hx.ib hx.nm hx.dg hx.nz (by omega)).mono ?_;rintro e w' ⟨rfl,hp⟩;exact hp
theorem modInv_any{pz:Nat}(hz:IntB w pz false none 0 0)(hgo:InOk w g)(hno:InOk w n)(hpg:pz≠g.p)(hpn:pz≠n.p)(hg0:0<g.v)(hn0:0<n.v)(hgM:g.v<=M)(hnM:n.v<=M)(hM:M<18446744073709551616^78)(hc: ∀d:Int,d∣g.v->d∣n.v->d∣1)(hgl:Gl w):
 Calls Tryz.prog 36 #[.pointer (some ⟨pz,0,none⟩),.pointer (some ⟨g.p,0,none⟩),.pointer (some ⟨n.p,0,none⟩)] w (MiP w pz g.v n.v):=by
 have g0:w.cell? ⟨g.p,0,none⟩=some (.bool false):=by have:=hgo.ib.cell0;rwa[(In.pos hgo hg0).1]at this
 have n0:w.cell? ⟨n.p,0,none⟩=some (.bool false):=by have:=hno.ib.cell0;rwa[(In.pos hno hn0).1]at this
 have CG:=κ (fun(o:Obj) (h1:IntB (w.alloc o) w.heap.size false none 0 0) (h2:IntB ((w.alloc o).alloc o) (w.heap.size+1) false none 0 0)=>
  gcd_any (pd:=w.heap.size) (px:=w.heap.size+1) (Li.p2 (((Li.nil w).new ((Fr.refl [] w).alloc o) (Nat.le_refl _) h1).new ((Fr.refl [] _).alloc o) (by simp) h2)) hgo hno hg0 hn0 hgM hnM hM hc hgl);have HZ:=κ hz;have HGO:=κ hgo;have HNO:=κ hno;have HPG:=κ hpg;have HPN:=κ hpn;have HN0:=κ hn0;have HNM:=κ hnM;have HM:=κ hM;clear hz hgo hno hpg hpn hg0 hn0 hgM hnM hM hc hgl;go_enter Tryz.func36,Tryz.ntmps36
 go_upto_if 29 with(first
  |(go_at_call 60;refine(CG.out _ (heap_alloc_new w _) (int_second w)).mono ?_;rintro e w2 ⟨rfl,d',x',e1,e2,v1,hcg,h3,h4,l2⟩;rw[<-e2,<- e1];have L2:=κ l2;have V1:=κ v1;have HCG:=κ hcg;have H3:=κ h3;have H4:=κ h4;clear e1 e2 v1 hcg h3 h4 l2)
  |(go_at_call 62;refine(intOne_any w2).mono ?_;rintro e w3 ⟨p1,A1,c1,rfl,i1,s1,f3,hp1⟩;have I1:=κ i1;have S1:=κ s1;have F3:=κ f3;have HP1:=κ hp1;have CC:=κ (mi_cmp L2.out V1.out F3.out HP1.out I1.out S1.out);clear i1 s1 f3 hp1)
  |(go_at_call 61;refine(CC.out).mono ?_;rintro e w4 ⟨rfl,f4⟩;have F4:=κ (F3.out.t f4);clear f4));have x0:w4.cell? ⟨x'.p,0,none⟩=some (.bool x'.ng):=((L2.out.ok x' (by simp)).fr0 F4.out).ib.cell0;have CA:=κ (mi_add (HZ.out.fr0 (L2.out.fr.t F4.out)) ((L2.out.ok x' (by simp)).fr0 F4.out) (HNO.out.fr0 (L2.out.fr.t F4.out)) HPN.out (by have h1:=(L2.out.nw x' (by simp)).1;have h2:=HZ.out.lt;omega) (by have:=In.len (k:=78) HNO.out (by have:=HNM.out;have:=HM.out;omega) (by have:=HN0.out;have:=pow_pos_ (B:=18446744073709551616) (by omega) 78;omega);omega) (by have:=In.len (k:=78) (L2.out.ok x' (by simp)) (by have:=H4.out;have:=HNM.out;have:=HM.out;omega) (by have:=H3.out;have:=HNM.out;have:=HM.out;omega);omega));cases hx:x'.ng with
 |true=>
  have hv:x'.v<=0:=by
   have:=val_nonneg (B:=18446744073709551616) (by omega) (L2.out.ok x' (by simp)).dg;unfold In.v;rw[hx,sg_t];omega
  have HV:=κ hv;rw[hx]at x0;clear hv hx;go_wp2_with (go_at_call 63;refine(CA.out.1).mono ?_;rintro e w5 hp;obtain rfl:=hp.eq;have HP:=κ hp;clear hp);first|go_ret2|go_ret
  refine mi_fin (L2.out.fr.t F4.out) HP.out (by have:=H3.out;omega) (by have:=HV.out;omega) ?_;exact cg_shift HCG.out
 |false=>
  have hv:0<=x'.v:=by
   have:=val_nonneg (B:=18446744073709551616) (by omega) (L2.out.ok x' (by simp)).dg;unfold In.v;rw[hx,sg_f];omega
  have HV:=κ hv;rw[hx]at x0;clear hv hx;go_wp2_with (go_at_call 38;refine(CA.out.2).mono ?_;rintro e w5 hp;obtain rfl:=hp.eq;have HP:=κ hp;clear hp);first|go_ret2|go_ret
  exact mi_fin (L2.out.fr.t F4.out) HP.out HV.out H4.out HCG.out
def MiN(w:World)(g n:Int)(e:Ending)(w':World):Prop:=
 ∃p:Pn,e= .returned p.v/\PnE w' p/\Fr [] w w'/\(p.c=0\/w.heap.size<=p.b)/\0<=p.n/\p.n<=n/\Cg n (g*p.n) 1
theorem mi_world(w:World)(a b:Value):Fr [] w (((w.alloc (.cells #[.bool false,.slice none 0 0] 45)).alloc (.cells #[.bool false,a] 45)).alloc (.cells #[.bool false,b] 45)):=(((Fr.refl [] w).alloc _).alloc _).alloc _
theorem mi_start{Ag An:Option Addr}{bg og cg bn on_ cn:Nat}{gs ns:List Int}(hgo:PnE w ⟨Ag,bg,og,cg,gs⟩)(hno:PnE w ⟨An,bn,on_,cn,ns⟩)(hg0:0<val 18446744073709551616 gs)(hn0:0<val 18446744073709551616 ns)(hgM:val 18446744073709551616 gs<=M)(hnM:val 18446744073709551616 ns<=M)(hM:M<18446744073709551616^78)(hc: ∀d:Int,d∣val 18446744073709551616 gs->d∣val 18446744073709551616 ns->d∣1)(hgl:Gl w):
 Calls Tryz.prog 36 #[.pointer (some ⟨w.heap.size,0,none⟩),.pointer (some ⟨w.heap.size+1,0,none⟩),.pointer (some ⟨w.heap.size+1+1,0,none⟩)] (((w.alloc (.cells #[.bool false,.slice none 0 0] 45)).alloc (.cells #[.bool false,.slice Ag gs.length cg] 45)).alloc (.cells #[.bool false,.slice An ns.length cn] 45))
  fun e w'=> ∃A l c p,e= .returned (.pointer (some ⟨w.heap.size,0,none⟩))/\w'.cell? ⟨w.heap.size,1,none⟩=some (.slice A l c)/\(.slice A l c=Pn.v p)/\PnE w' p/\Fr [] w w'/\(p.c=0\/w.heap.size<=p.b)/\0<=p.n/\p.n<=val 18446744073709551616 ns/\Cg (val 18446744073709551616 ns) (val 18446744073709551616 gs*p.n) 1:=by
 have f:=mi_world w (.slice Ag gs.length cg) (.slice An ns.length cn);have e1:(w.alloc (.cells #[.bool false,.slice none 0 0] 45)).heap.size=w.heap.size+1:=by simp
 have e2:((w.alloc (.cells #[.bool false,.slice none 0 0] 45)).alloc (.cells #[.bool false,.slice Ag gs.length cg] 45)).heap.size=w.heap.size+1+1:=by simp
 have i0:IntB (((w.alloc (.cells #[.bool false,.slice none 0 0] 45)).alloc (.cells #[.bool false,.slice Ag gs.length cg] 45)).alloc (.cells #[.bool false,.slice An ns.length cn] 45)) w.heap.size false none 0 0:=by
  have h:IntB (w.alloc (.cells #[.bool false,.slice none 0 0] 45)) w.heap.size false none 0 0:=heap_alloc_new w _;exact h.fr0 (((Fr.refl [] _).alloc _).alloc _)
 have i1:IntB (((w.alloc (.cells #[.bool false,.slice none 0 0] 45)).alloc (.cells #[.bool false,.slice Ag gs.length cg] 45)).alloc (.cells #[.bool false,.slice An ns.length cn] 45)) (w.heap.size+1) false Ag gs.length cg:=by
  have h:IntB ((w.alloc (.cells #[.bool false,.slice none 0 0] 45)).alloc (.cells #[.bool false,.slice Ag gs.length cg] 45)) (w.heap.size+1) false Ag gs.length cg:=by
   have h:=heap_alloc_new (w.alloc (.cells #[.bool false,.slice none 0 0] 45)) (.cells #[.bool false,.slice Ag gs.length cg] 45);rw[e1]at h;exact h
  exact h.fr0 ((Fr.refl [] _).alloc _)
 have i2:IntB (((w.alloc (.cells #[.bool false,.slice none 0 0] 45)).alloc (.cells #[.bool false,.slice Ag gs.length cg] 45)).alloc (.cells #[.bool false,.slice An ns.length cn] 45)) (w.heap.size+1+1) false An ns.length cn:=by
  have h:=heap_alloc_new ((w.alloc (.cells #[.bool false,.slice none 0 0] 45)).alloc (.cells #[.bool false,.slice Ag gs.length cg] 45)) (.cells #[.bool false,.slice An ns.length cn] 45);rw[e2]at h;exact h
 have kg:=hgo.fr0 f;have kn:=hno.fr0 f;refine(modInv_any (g:=⟨w.heap.size+1,false,Ag,bg,og,cg,gs⟩) (n:=⟨w.heap.size+1+1,false,An,bn,on_,cn,ns⟩) i0 ⟨i1,kg.nm,kg.dg,kg.nz⟩ ⟨i2,kn.nm,kn.dg,kn.nz⟩ (by simp only;omega) (by simp only;omega) hg0 hn0 hgM hnM hM hc (hgl.fr0 f)).mono ?_;rintro e w' ⟨rfl,ng,A,b,o,c,zs,h1,h2,h3,h4,h5,h6,h7,h8,h9⟩;exact⟨A,zs.length,c,⟨A,b,o,c,zs⟩,rfl,h1.cell1,rfl,⟨h2,h3,h4⟩,Fc.fr_new' h9 f (fun b i hh=>by omega),h8.imp id (fun hh=>Nat.le_trans f.size hh),h5,h6,h7⟩
theorem modInverse_any{Ag An:Option Addr}{bg og cg bn on_ cn:Nat}{gs ns:List Int}(hgo:PnE w ⟨Ag,bg,og,cg,gs⟩)(hno:PnE w ⟨An,bn,on_,cn,ns⟩)(hg0:0<val 18446744073709551616 gs)(hn0:0<val 18446744073709551616 ns)(hgM:val 18446744073709551616 gs<=M)(hnM:val 18446744073709551616 ns<=M)(hM:M<18446744073709551616^78)(hc: ∀d:Int,d∣val 18446744073709551616 gs->d∣val 18446744073709551616 ns->d∣1)(hgl:Gl w):
 Calls Tryz.prog 100 #[.slice none 0 0,.slice Ag gs.length cg,.slice An ns.length cn] w (MiN w (val 18446744073709551616 gs) (val 18446744073709551616 ns)):=by
 have C:=κ (mi_start hgo hno hg0 hn0 hgM hnM hM hc hgl);clear hgo hno hg0 hn0 hgM hnM hM hc hgl;go_enter Tryz.func100,Tryz.ntmps100;go_wp2_with (go_at_call 36;refine(C.out).mono ?_;rintro e w1 ⟨A,l,c,p,rfl,c1,hv,hp⟩;have HV:=κ hv;have HP:=κ hp;clear hv hp);first|go_ret2|go_ret
 rw[HV.out];exact⟨p,rfl,HP.out⟩
end
theorem rsh_norm{z c n:Nat}{zs:List Int}{w1:World}(hr:Row .u64 51 w1 z (spl (List.replicate c 0) 0 zs))(hzl:zs.length=n)(hc1:n<=c)(hc9:c<=2000000)(hd:DG 18446744073709551616 zs):
 Calls Tryz.prog 34 #[.slice (some ⟨z,0,none⟩) n c] w1 fun e w'=>(∃ys,e= .returned (.slice (some ⟨z,0,none⟩) ys.length c)/\Nm w1 (some ⟨z,0,none⟩) z 0 c ys/\DG 18446744073709551616 ys/\NZ ys/\val 18446744073709551616 ys=val 18446744073709551616 zs)/\w1=w':=by
 have hn:=normN_any (some ⟨z,0,none⟩) z 0 c zs w1 (Nm.of_wr (Wr.of_spl hr (by rw[hzl];simp;omega)) (Rcv.of_row hr (by rw[spl_len (by rw[hzl];simp;omega)];simp) (by unfold maxLen;omega)) (by rw[hzl];exact hc1)) hd;rw[hzl]at hn;refine hn.mono ?_;rintro e w' ⟨⟨ys,g1,g2,g3,g4,g5,_⟩,g6⟩;exact⟨⟨ys,g1,g2,g3,g4,g5⟩,g6⟩
theorem rshN_any(v:Value)(X:Int)(s:Nat)(w:World)(h:SW w v X)(hX:X<BIG)(hs0:0<s)(hs9:s<=1000000)(hpos:0<X/2^s):Calls Tryz.prog 98 #[.slice none 0 0,v,.int .u64 (s:Int)] w (RetNm (X/2^s) w):=by
 have H:=κ h;obtain⟨xs,sl,dx,zx,rfl⟩:=h;have hl:=len_BIG64 dx zx hX;have SL:=κ sl;obtain⟨A,cap,rfl,hlc,hm,hsrc⟩:=sl;unfold maxLen at hm;have DX:=κ dx;have HXB:=κ hX;have hse:((s:Int)==0)=false:=by rw[beq_eq_false_iff_ne];omega
 obtain⟨q,hq⟩: ∃q,q=s/64:=⟨_,rfl⟩;obtain⟨r,hr⟩: ∃r,r=s%64:=⟨_,rfl⟩;have hkq:(s:Int)/64=(q:Int):=by omega
 have hkr:(s:Int)%64=(r:Int):=by omega
 have hr64:r<64:=by omega
 have hq9:q<=20000:=by omega
 have hn2:s=64*q+r:=by omega
 by_cases hl0:xs.length<=q
 ·rw[shr_zero (B:=18446744073709551616) (a:=64) (by decide) dx (by omega)]at hpos
  omega
 obtain⟨n,hn⟩: ∃n,xs.length=n+q:=⟨xs.length-q,by omega⟩;have hn0:0<n:=by omega
 have hv:val 18446744073709551616 xs/2^s=val 18446744073709551616 (xs.drop q)/2^r:=by
  have e:(2:Int)^s=18446744073709551616^q*2^r:=by rw[hn2,Int.pow_add,Int.pow_mul];rfl
  rw[e,<- Int.ediv_ediv_of_nonneg (Int.le_of_lt (pow_pos_ (by omega) q)),div_drop (by omega) dx (by omega)]
 rw[hv];obtain⟨b,off,rfl,hb,hs⟩:=hsrc (by omega);have HSD:=κ (hs.drop q);have HLD:=κ (show(xs.drop q).length=n by rw[List.length_drop];omega);have HDD:=κ (dx.drop q);have HM:=κ (fun W=>make_any n W hn0 (by omega));have hcx: ¬cap=q:=by omega
 have hlc2:n<=cap-q:=by omega
 have hl9:n<=1000000:=by omega
 rw[hn]at hl hlc hl0 ⊢
 have hw:IntKind.i64.wrap (((n+q:Nat):Int)-(q:Int))=(n:Int):=by rw[IntKind.wrap_i64];omega
 have hw1:((n+q:Nat):Int)-(q:Int)=(n:Int):=by omega
 have hw2:((n+q:Nat):Int)-(n:Int)=(q:Int):=by omega
 have hw3:IntKind.i64.wrap (((n+q:Nat):Int)-(n:Int))=(q:Int):=by rw[IntKind.wrap_i64];omega
 have hw4:(n:Int)+(q:Int)-(q:Int)=(n:Int):=by omega
 have hw5:(n:Int)+(q:Int)-(n:Int)=(q:Int):=by omega
 have hw6:n+q-q=n:=by omega
 by_cases hr0:r=0
 ·subst hr0
  have hkr:(s:Int)%64=0:=by omega
  rw[show(2:Int)^0=1 from rfl,Int.ediv_one];clear hsrc dx zx hX hq hr hn2 hs hv hn SL H hpos;go_enter Tryz.func98,Tryz.ntmps98
  go_wp2_with (first
   |(go_at_call 42;refine(HM.out _).mono ?_;rintro e w1 ⟨z,c,rfl,hc1,hc2,row,hz,f⟩;have HROW:=κ row;clear row)
   |(refine wp_copy rfl (.tmp 40) (.tmp 45) _ _ rfl .u64 51 Tryz.underlying43 size_wordS z 0 n c rfl _ (xs.drop q) rfl ((HSD.out.fr f (by simp)).sl HLD.out hlc2 (by unfold maxLen;omega)) (List.replicate c 0) HROW.out (by simp;omega) ?_;intro w2 row2 f2;rw[List.take_of_length_le (by rw[HLD.out];omega)]at row2;have HR2:=κ row2;clear row2)
   |(go_at_call 34;refine(rsh_norm HR2.out HLD.out hc1 (by omega) HDD.out).mono ?_;rintro e w4 ⟨⟨ys,rfl,g1,g2,g3,g4⟩,rfl⟩;have G1:=κ g1;have G2:=κ g2;have G3:=κ g3;have G4:=κ g4;clear g1 g2 g3 g4));go_ret;exact⟨z,c,ys,rfl,G1.out,G2.out,G3.out,G4.out,hz,by omega,fr_new'' f f2 hz⟩
 ·have hre:((r:Int)==0)=false:=by rw[beq_eq_false_iff_ne];omega
  clear hsrc dx zx hX hq hr hn2 hs hv hn SL H hpos;go_enter Tryz.func98,Tryz.ntmps98
  go_wp2_with (first
   |(go_at_call 42;refine(HM.out _).mono ?_;rintro e w1 ⟨z,c,rfl,hc1,hc2,row,hz,f⟩;have HROW:=κ row;clear row)
   |(go_at_call 80;go_in)
   |(go_at_call 115;refine(rshVU_any z 0 c b (off+q) (cap-q) n r (List.replicate c 0) (xs.drop q) _ HROW.out (by simp;omega) HLD.out (HSD.out.fr f (by simp)) HDD.out hr64 (.inl (by omega)) hc1 hlc2 (by unfold maxLen;omega) (by omega)).mono ?_;rintro e w2 ⟨zs,k,rfl,row2,f2,hzl,hzd,hk0,hk1,hv⟩;have HZL:=κ hzl;have HV:=κ (rsh_val hr64 hk0 hk1 hv);have HR2:=κ row2;have HZD:=κ hzd;clear row2 hzl hzd hv)
   |(go_at_call 34;refine(rsh_norm HR2.out HZL.out hc1 (by omega) HZD.out).mono ?_;rw[HV.out];rintro e w4 ⟨⟨ys,rfl,g1,g2,g3,g4⟩,rfl⟩;have G1:=κ g1;have G2:=κ g2;have G3:=κ g3;have G4:=κ g4;clear g1 g2 g3 g4));go_ret;exact⟨z,c,ys,rfl,G1.out,G2.out,G3.out,G4.out,hz,by omega,fr_new'' f f2 hz⟩
end Go.Proofs.YthecibbmbnpegaaGreatDoor
