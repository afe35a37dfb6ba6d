/-
  Part 47 of the proof of the law FnExpSum: XIf, XIg, XMulL, XDvM. Conditions: those of each statement.
-/
import Derived.Test.YthecibbmbnpegaaGreatDoorK46
import Derived.Laws.Bits64
import Derived.Deep.DeepCutAuto
import Derived.Deep.RegionWith
set_option linter.unusedSimpArgs false
set_option linter.unusedVariables false
set_option maxRecDepth 100000
set_option maxHeartbeats 4000000
namespace Go.Proofs.YthecibbmbnpegaaGreatDoor
open Go.Big Go.RowKit
attribute [local go_sem ↓] Go.wp_at_zero Go.wp_at_succ
def In.pn(x:In):Pn:=⟨x.A,x.b,x.o,x.c,x.xs⟩
section
variable {w0 w w':World}{x y m z:In}{pz:Nat}{V:Int}{e:Ending}{Y:Nat}
theorem InOk.pn(h:InOk w x):PnE w x.pn:=⟨h.nm,h.dg,h.nz⟩
def XpP(w:World)(pz:Nat)(V:Int)(e:Ending)(w':World):Prop:=
 e= .returned (.pointer (some ⟨pz,0,none⟩))/\ ∃p:Pn,IntB w' pz false p.A p.xs.length p.c/\PnE w' p/\p.n=V/\Fr [pz] w w'
theorem xp_mid{w1 w2:World}{p:Pn}(hz:IntB w pz false none 0 0)(f1:Fr [] w w1)(he:PnE w2 p)(f2:Fr [] w1 w2)(hb:p.c=0\/w1.heap.size<=p.b):
 IntB w2 pz false none 0 0/\IntB (w2.setCell ⟨pz,1,none⟩ (.slice p.A p.xs.length p.c)) pz false p.A p.xs.length p.c:=by
 have h:=hz.fr0 (f1.t f2);exact⟨h,h.set1 _ _ _⟩
theorem xp_fin{w1 w2 w3:World}{p:Pn}(hz:IntB w pz false none 0 0)(f1:Fr [] w w1)(he:PnE w2 p)(hv:p.n=V)(f2:Fr [] w1 w2)(hb:p.c=0\/w1.heap.size<=p.b)(hw:w3=(w2.setCell ⟨pz,1,none⟩ (.slice p.A p.xs.length p.c)).setCell ⟨pz,0,none⟩ (.bool false)):XpP w pz V (.returned (.pointer (some ⟨pz,0,none⟩))) w3:=by
 obtain⟨h1,h2⟩:=xp_mid hz f1 he f2 hb;have hlt:=hz.lt;have hs:=f1.size;have g1:=h1.fc_set (a:=⟨pz,1,none⟩) rfl (.slice p.A p.xs.length p.c);have g2:=h2.fc_set (a:=⟨pz,0,none⟩) rfl (.bool false)
 have off: ∀i,p.o<=i->i<p.o+p.xs.length-> ¬p.b=pz:=fun i a1 a2=>by
  have:=he.nm.le;rcases hb with hb|hb<;>omega
 subst hw;refine⟨rfl,p,h2.set0 false,⟨(he.nm.fc g1 off).fc g2 off,he.dg,he.nz⟩,hv,?_⟩;have k1:Fr [pz] w2 (w2.setCell ⟨pz,1,none⟩ (.slice p.A p.xs.length p.c)):=(Fr.refl _ _).set (.inl (by simp)) _;have k2:=k1.set (p:=⟨pz,0,none⟩) (.inl (by simp)) (.bool false);exact Fr.trans ((f1.t f2).mono (by simp)) k2 (fun x hx _=>hx)
theorem intExp_any(hz:IntB w pz false none 0 0)(hx:InOk w x)(hy:InOk w y)(hm:InOk w m)(nx:x.ng=false)(ny:y.ng=false)(hpm:pz≠m.p)(hpx:pz≠x.p)(hd:[x.pn,y.pn,m.pn].Pairwise PDj)(hg:Gl w)(hT:TabW w)(hx9:x.xs.length<=60)(hy9:y.xs.length<=100)(hm9:m.xs.length<=60)(hm0:0<m.pn.n)(hY:y.pn.n=(Y:Int)):
 Calls Tryz.prog 25 #[.pointer (some ⟨pz,0,none⟩),.pointer (some ⟨x.p,0,none⟩),.pointer (some ⟨y.p,0,none⟩),.pointer (some ⟨m.p,0,none⟩),.bool false] w (XpP w pz (x.pn.n^Y%m.pn.n)):=by
 have CE:=κ (fun(W:World) (f:Fr [] w W)=>expNN_all (x:=x.pn) (y:=y.pn) (m:=m.pn) (hx.pn.fr0 f) (hy.pn.fr0 f) (hm.pn.fr0 f) hd (hg.fr0 f) (hT.fr0 f) hx9 hy9 hm9 hm0 hY);have hq:=eql_ptrI (a:=⟨pz,0,none⟩) (c:=⟨m.p,0,none⟩) w.drew (by intro e;injection e with e;exact hpm e) hz hm.ib;have x1:=hx.ib.cell1;have x0:=hx.ib.cell0;have y1:=hy.ib.cell1;have y0:=hy.ib.cell0;have m1:=hm.ib.cell1;have z1:=hz.cell1;rw[nx]at x0;rw[ny]at y0;have HX:=κ hx;have HY:=κ hy;have HM:=κ hm;have HZ:=κ hz;have NX:=κ nx;have HPM:=κ hpm;have HPX:=κ hpx;have hmc:=hm.c9;have hmn:=hm.nm.le;have hyc:=hy.c9;have hyn:=hy.nm.le;clear hx hy hm hz nx ny hpm hpx hd hg hT hm0 hY;go_enter Tryz.func25,Tryz.ntmps25;go_upto_region 12 with fail;go_region_with (go_at_call 37;refine(alias_nil _ _ _ _).mono ?_;rintro e w1 ⟨rfl,f1⟩;have F1:=κ (show Fr [] w w1 from⟨f1.os,f1.tape,f1.output,f1.size,f1.block⟩);clear f1)
 all_goals (
  have m2:w1.cell? ⟨m.p,1,none⟩=some (.slice m.A m.xs.length m.c):=(HM.out.fr0 F1.out).ib.cell1;have z2:w1.cell? ⟨pz,1,none⟩=some (.slice none 0 0):=(HZ.out.fr0 F1.out).cell1;go_upto_region 16 with(go_at_call 39;refine(CE.out _ F1.out).mono ?_;rintro e w3 ⟨p,he,pe,pv,f3,pb⟩;obtain rfl:e= .returned (.slice p.A p.xs.length p.c):=he;obtain⟨i3,i4⟩:=xp_mid HZ.out F1.out pe f3 pb;have PE:=κ pe;have PV:=κ pv;have F3:=κ f3;have PB:=κ pb;have z3:=i3.cell1;have y3:=i3.frozen 1;have z4:=i4.cell1;have z40:=i4.cell0;have y40:=i4.frozen 0;have x4:(w3.setCell ⟨pz,1,none⟩ (.slice p.A p.xs.length p.c)).cell? ⟨x.p,0,none⟩=some (.bool false):=(by have:=((HX.out.ib.fr0 (F1.out.t f3)).far (r:=pz) (i:=1) HPX.out (.slice p.A p.xs.length p.c)).cell0;rwa[NX.out]at this);have i5:=(i4.set0 false).cell0;clear pe pv f3 pb i3 i4);rcases Nat.eq_zero_or_pos p.xs.length with hl|hl
  ·have hd0:decide ((0:Int)<(p.xs.length:Int))=false:=decide_eq_false (by omega)
   have hd1:decide (0<p.xs.length)=false:=decide_eq_false (by omega);have HL:=κ hl;clear hl;go_wp2_with fail;first|go_ret2|go_ret
   exact xp_fin HZ.out F1.out PE.out PV.out F3.out PB.out rfl
  ·have hd0:decide ((0:Int)<(p.xs.length:Int))=true:=decide_eq_true (by omega)
   have hd1:decide (0<p.xs.length)=true:=decide_eq_true (by omega);go_wp2_with fail;first|go_ret2|go_ret
   exact xp_fin HZ.out F1.out PE.out PV.out F3.out PB.out rfl)
end
theorem ty_Words:IntTy Tryz.prog .u64 42 51 8:=⟨Tryz.underlying42,by kernel_rfl⟩
section
variable {w0 w w':World}{x y m z:In}{pz:Nat}{V:Int}{e:Ending}{Y:Nat}{xs:List Int}
theorem appZ_nm{v:Value}(h:AppZ .u64 51 w0 w v xs): ∃A b o c,v= .slice A xs.length c/\Nm w A b o c xs/\(c=0\/w0.heap.size<=b):=by
 rcases h with⟨rfl,rfl⟩|⟨g,cap,L,rfl,h2,h3,h4,h5,h6,h7⟩
 ·exact⟨none,0,0,0,rfl,Nm.nil (Rcv.nil _ _ _),.inl rfl⟩
 ·exact⟨some ⟨g,0,none⟩,g,0,cap,rfl,Nm.of_wr (Wr.of_row h3 (by omega) (fun j hj=>by rw[Nat.zero_add];exact appZ_get h7 hj)) (Rcv.of_row h3 (by omega) h6) h5,.inr h2⟩
def NewI(w:World)(V:Int)(e:Ending)(w':World):Prop:= ∃x:In,e= .returned (.pointer (some ⟨x.p,0,none⟩))/\InOk w' x/\x.ng=false/\x.pn.n=V/\Fr [] w w'/\w.heap.size<=x.p/\(x.c=0\/w.heap.size<=x.b)
theorem setBits_any{p b o c:Nat}{A:Option Addr}(hz:IntB w p false none 0 0)(hn:Nm w A b o c xs)(hd:DG 18446744073709551616 xs)(hb:b≠p\/c=0):
 Calls Tryz.prog 23 #[.pointer (some ⟨p,0,none⟩),.slice A xs.length c] w fun e w'=>e= .returned (.pointer (some ⟨p,0,none⟩))/\ ∃zs,IntB w' p false A zs.length c/\Nm w' A b o c zs/\DG 18446744073709551616 zs/\NZ zs/\val 18446744073709551616 zs=val 18446744073709551616 xs/\Fr [p] w w':=by
 have C:=κ (normN_any A b o c xs w hn hd);have HZ:=κ hz;have HB:=κ hb;have f1:=hz.frozen 1;have c1:=hz.cell1;have hcx:=hn.max;have hcl:=hn.le;unfold maxLen at hcx;clear hn hd hz hb;go_enter Tryz.func23,Tryz.ntmps23;go_wp2_with (go_at_call 34;refine(C.out).mono ?_;rintro e w1 ⟨⟨zs,rfl,g1,g2,g3,g4,g5⟩,rfl⟩;have G1:=κ g1;have G2:=κ g2;have G3:=κ g3;have G4:=κ g4;have I1:=κ (HZ.out.set1 A zs.length c);have c10:=I1.out.cell0;have f10:=I1.out.frozen 0;clear g1 g2 g3 g4 g5);first|go_ret2|go_ret
 have g1:=HZ.out.fc_set (a:=⟨p,1,none⟩) rfl (.slice A zs.length c);have g2:=I1.out.fc_set (a:=⟨p,0,none⟩) rfl (.bool false)
 have off: ∀i,o<=i->i<o+zs.length-> ¬b=p:=fun i a1 a2=>by
  have:=G1.out.le;rcases HB.out with hb|hb
  ·exact hb
  ·omega
 exact⟨rfl,zs,I1.out.set0 false,(G1.out.fc g1 off).fc g2 off,G2.out,G3.out,G4.out,((Fr.refl [p] w).set (p:=⟨p,1,none⟩) (.inl (by simp)) _).set (p:=⟨p,0,none⟩) (.inl (by simp)) _⟩
def IoRel(xs:List Int)(w0:World)(g:Nat)(v3 _v5 v9:Value)(wr:World):Prop:=
 ∃(v:Value) (i:Nat),v=v3/\g=xs.length-i/\v9= .int .i64 (i:Int)/\i<=xs.length/\AppZ .u64 51 w0 wr v (xs.take i)/\Fr [] w0 wr
theorem intOf_any(v:Value)(xs:List Int)(w:World)(hx:Sl .u64 w v xs)(hd:DG 18446744073709551616 xs)(hl:xs.length<=1000):Calls Tryz.prog 14 #[v] w (NewI w (val 18446744073709551616 xs)):=by
 have CN:=κ (normed_any v xs w hx hd (by omega));clear hx hd;go_enter Tryz.func14,Tryz.ntmps14;go_upto_region 2 with fail;go_upto_region 3 with(go_at_call 19;refine(CN.out).mono ?_;rintro e w1 ⟨v1,ys,rfl,sl1,dy,nzy,hvy,hly,f1⟩;obtain⟨A0,c0,rfl,hlc,hm,hsrc⟩:=sl1;have HS:=κ hsrc;have DY:=κ dy;have NY:=κ nzy;have VY:=κ hvy;have F1:=κ f1;have hmx:c0<=9223372036854775807:=(by unfold maxLen at hm;omega);clear hsrc dy nzy hvy f1 hm);obtain⟨n,hn⟩: ∃n,n=ys.length:=⟨_,rfl⟩;have HN:=κ hn;rw[<-hn]at hly hlc ⊢
 clear hn;go_loopg [3,5,9] n (IoRel ys w1);case atStart=>exact⟨_,0,rfl,by rw[HN.out];rfl,rfl,Nat.zero_le _,AppZ.nil _ _ _ _,Fr.refl _ _⟩
 case round=>
  obtain⟨v,i,rfl,rfl,rfl,hi,hz,hf⟩:=hrel;rw[<-HN.out]at hi;try rw[<-HN.out]
  have HZ:=κ hz;have HF:=κ hf;have hfs:=hf.size;by_cases h1:i<n
  ·obtain⟨b,off,rfl,hb,hs⟩:=HS.out (by rw[<-HN.out];omega)
   have hc:=(hs.fr hf (by simp)) i (by rw[<-HN.out];exact h1);obtain⟨x,hx⟩: ∃x,x=ys.getD i 0:=⟨_,rfl⟩;rw[<-hx]at hc;have HX:=κ hx;have HT:=κ (show(ys.take i).length<1000000 by rw[List.length_take];omega);have hI:(i:Int)<(n:Int):=by omega
   clear hx hs hz hf;go_wp2_with (refine wp_appZ rfl (.tmp 13) (.tmp 15) _ rfl .u64 51 8 ty_Words (by omega) v (ys.take i) x rfl HZ.out hfs rfl HT.out ?_;intro v' w6 hz6 hf6;have Z6:=κ hz6;have F6:=κ (hf6.fr HF.out);clear hz6 hf6);go_roundg (n-(i+1));case measure=>(have:=HN.out;omega)
   case rel=>
    refine⟨v',i+1,rfl,by rw[HN.out],by go_num,by rw[<-HN.out];omega,?_,F6.out⟩;have h:=Z6.out;rwa[HX.out,take_snoc (by rw[<-HN.out];exact h1)]at h
  ·have hI: ¬(i:Int)<(n:Int):=by omega
   have hz':AppZ .u64 51 w1 wr v ys:=by
    have h:=HZ.out;rwa[show ys.take i=ys from List.take_of_length_le (by rw[<-HN.out];omega)]at h
   obtain⟨A,b,o,c,rfl,hnm,hbb⟩:=appZ_nm hz'
   have CB:=κ (fun(ob:Obj) (h:IntB (wr.alloc ob) wr.heap.size false none 0 0)=>setBits_any h (hnm.fr0 ((Fr.refl [] wr).alloc ob)) DY.out (by
    by_cases hc:c=0
    ·exact .inr hc
    ·have:=hnm.rcv.lt (by omega);exact .inl (by omega)));have HBB:=κ hbb;clear hz hf hz' hnm hbb;go_wp2_with (go_at_call 23;refine(CB.out _ (heap_alloc_new wr _)).mono ?_;rintro e w7 ⟨rfl,zs,g1,g2,g3,g4,g5,g6⟩;have G:=κ (And.intro g1 (And.intro g2 (And.intro g3 (And.intro g4 (And.intro g5 g6)))));clear g1 g2 g3 g4 g5 g6);first|go_ret2|go_ret
   obtain⟨g1,g2,g3,g4,g5,g6⟩:=G.out;have s1:=F1.out.size;have fw:Fr [] w w7:=(F1.out.t HF.out).t (Fr.trans ((Fr.refl [] wr).alloc _) g6 (fun x hx hlt=>by simp at hx;omega));exact⟨⟨wr.heap.size,false,A,b,o,c,zs⟩,rfl,⟨g1,g2,g3,g4⟩,rfl,by show val 18446744073709551616 zs=_;rw[g5,VY.out],fw,by show w.heap.size<=wr.heap.size;omega,HBB.out.imp id (fun h=>by show w.heap.size<=b;omega)⟩
theorem intExpW{px py pm:Nat}(h:Calls Tryz.prog 25 #[.pointer (some ⟨pz,0,none⟩),.pointer (some ⟨px,0,none⟩),.pointer (some ⟨py,0,none⟩),.pointer (some ⟨pm,0,none⟩),.bool false] w (XpP w pz V)):
 Calls Tryz.prog 17 #[.pointer (some ⟨pz,0,none⟩),.pointer (some ⟨px,0,none⟩),.pointer (some ⟨py,0,none⟩),.pointer (some ⟨pm,0,none⟩)] w (XpP w pz V):=by
 have H:=κ h;clear h;go_enter Tryz.func17,Tryz.ntmps17;go_wp2_with (go_at_call 25;refine(H.out).mono ?_;rintro e w1 ⟨rfl,hp⟩;have HP:=κ hp;clear hp);first|go_ret2|go_ret
 exact⟨rfl,HP.out⟩
theorem NewI.len{k:Nat}{w1:World}(h:InOk w1 x)(hv:x.pn.n=val 18446744073709551616 xs)(hd:DG 18446744073709551616 xs)(hl:xs.length<=k):x.xs.length<=k:=by
 have h1:=val_lt (B:=18446744073709551616) (by omega) hd;have h2:=pow_le_pow_ (B:=18446744073709551616) (by omega) hl;refine len_le (by omega) h.dg h.nz ?_;have:val 18446744073709551616 x.xs=val 18446744073709551616 xs:=hv;omega
theorem xp_len{p:Pn}{w5:World}{X M:Int}{ms:List Int}(h:PnE w5 p)(hv:p.n=X%M)(hM:0<M)(hl:ms.length<=60)(hm:M=val 18446744073709551616 ms)(dm:DG 18446744073709551616 ms):p.xs.length<=900000:=by
 have h1:=Int.emod_lt_of_pos X hM;have h2:=len_sm h.dg dm h.nz (by unfold Pn.n at hv;omega);omega
def RetX(V:Int)(w:World)(e:Ending)(w':World):Prop:= ∃v zs,e= .returned (.tuple #[v,.bool true])/\Sl .u64 w' v zs/\DG 18446744073709551616 zs/\NZ zs/\val 18446744073709551616 zs=V/\Fr [] w w'
theorem xp_call{w5:World}(l:Li w w5 [y,x,newIn pz,m])(nx:x.ng=false)(ny:y.ng=false)(hg:Gl w)(hT:TabW w)(hx9:x.xs.length<=60)(hy9:y.xs.length<=100)(hm9:m.xs.length<=60)(hm0:0<m.pn.n)(hY:y.pn.n=(Y:Int)):
 Calls Tryz.prog 17 #[.pointer (some ⟨pz,0,none⟩),.pointer (some ⟨x.p,0,none⟩),.pointer (some ⟨y.p,0,none⟩),.pointer (some ⟨m.p,0,none⟩)] w5 (XpP w5 pz (x.pn.n^Y%m.pn.n)):=by
 have dj:=l.dj;simp only[List.pairwise_cons,List.mem_cons,List.not_mem_nil,or_false,forall_eq_or_imp,forall_eq]at dj
 have pd: ∀{a b:In},InDj a b->PDj a.pn b.pn:=fun h=>by
  have:=h.2;unfold PDj Dj In.pn;simp only;omega
 refine intExpW (intExp_any (l.ok (newIn pz) (by simp)).ib (l.ok x (by simp)) (l.ok y (by simp)) (l.ok m (by simp)) nx ny dj.2.2.1.1 dj.2.1.1.1.symm ?_ (hg.fr0 l.fr) (hT.fr0 l.fr) hx9 hy9 hm9 hm0 hY);rw[List.pairwise_cons,List.pairwise_cons];refine⟨fun p hp=> ?_,fun p hp=> ?_,List.pairwise_singleton _ _⟩
 ·simp only[List.mem_cons,List.not_mem_nil,or_false]at hp
  rcases hp with rfl|rfl
  ·exact pd dj.1.1.symm
  ·exact pd dj.2.1.2
 ·simp only[List.mem_cons,List.not_mem_nil,or_false]at hp
  subst hp;exact pd dj.1.2.2
theorem implExp_any(vx vy vm:Value)(xs ys ms:List Int)(w:World)(hx:Sl .u64 w vx xs)(hy:Sl .u64 w vy ys)(hm:Sl .u64 w vm ms)(dx:DG 18446744073709551616 xs)(dy:DG 18446744073709551616 ys)(dm:DG 18446744073709551616 ms)(hx9:xs.length<=60)(hy9:ys.length<=100)(hm9:ms.length<=60)(hm0:0<val 18446744073709551616 ms)(hg:Gl w)(hT:TabW w)(hY:val 18446744073709551616 ys=(Y:Int)):
 Calls Tryz.prog 7 #[vx,vy,vm] w (RetX (val 18446744073709551616 xs^Y%val 18446744073709551616 ms) w):=by
 have CM:=κ (intOf_any vm ms w hm dm (by omega));have CX:=κ (fun W (f:Fr [] w W)=>intOf_any vx xs W (hx.fr0 f) dx (by omega));have CY:=κ (fun W (f:Fr [] w W)=>intOf_any vy ys W (hy.fr0 f) dy (by omega));have HG:=κ hg;have HT:=κ hT;have HM0:=κ hm0;have HYV:=κ hY;have DX:=κ dx;have DY:=κ dy;have DM:=κ dm;have T1:True:=trivial;have T2:True:=trivial;clear hx hy hm dx dy dm hm0 hg hT hY;go_enter Tryz.func7,Tryz.ntmps7;go_upto_region 2 with(go_at_call 14;clear T1;refine(CM.out).mono ?_;rintro e w1 ⟨m,rfl,o1,n1,v1,f1,p1,b1⟩;have O1:=κ o1;have N1:=κ n1;have V1:=κ v1;have L1:=κ ((Li.nil w).add f1 o1 p1 b1);clear n1 v1 f1 p1 b1 o1)
 have hml:0<m.xs.length:=by
  rcases Nat.eq_zero_or_pos m.xs.length with h0|h0
  ·have h1:val 18446744073709551616 m.xs=val 18446744073709551616 ms:=V1.out
   have h2:=HM0.out;rw[List.eq_nil_of_length_eq_zero h0,val_nil]at h1;omega
  ·exact h0
 have hm9':=NewI.len O1.out V1.out DM.out hm9;have CS:=κ (sign_pos (w:=w1) (p:=m.p) (l:=m.xs.length) (c:=m.c) (A:=m.A) (by have:=O1.out.ib;rwa[N1.out]at this) hml (by omega))
 go_wp2_with (first
  |(go_at_call 15;refine(CS.out).mono ?_;rintro e w2 ⟨rfl,rfl⟩)
  |(go_at_call 14;clear T2;have l2:=L1.out.new ((Fr.refl [] w1).alloc (.cells #[.bool false,.slice none 0 0] 45)) (Nat.le_refl _) (heap_alloc_new w1 _);refine(CX.out _ l2.fr).mono ?_;rintro e w3 ⟨x,rfl,o3,n3,v3,f3,p3,b3⟩;have O3:=κ o3;have N3:=κ n3;have V3:=κ v3;have L3:=κ (l2.add f3 o3 p3 b3);clear n3 v3 f3 p3 b3 o3 l2)
  |(go_at_call 14;refine(CY.out _ L3.out.fr).mono ?_;rintro e w4 ⟨y,rfl,o4,n4,v4,f4,p4,b4⟩;have O4:=κ o4;have N4:=κ n4;have V4:=κ v4;have L4:=κ (L3.out.add f4 o4 p4 b4);clear n4 v4 f4 p4 b4 o4)
  |(go_at_call 17;refine(xp_call (Y:=Y) L4.out N3.out N4.out HG.out HT.out (NewI.len O3.out V3.out DX.out hx9) (NewI.len O4.out V4.out DY.out hy9) hm9' (by rw[V1.out];exact HM0.out) (by rw[V4.out];exact HYV.out)).mono ?_;rintro e w5 ⟨rfl,p5,i5,pe5,v5,f5⟩;have I5:=κ i5;have E5:=κ pe5;have V5:=κ v5;have F5:=κ f5;have CW:=κ (wordsOf_any p5.xs i5 pe5.nm.sl (xp_len pe5 v5 (by rw[V1.out];exact HM0.out) hm9 (by rw[V1.out]) DM.out));clear i5 pe5 v5 f5)
  |(go_at_call 16;refine(CW.out).mono ?_;rintro e w6 ⟨v6,rfl,s6,f6⟩;have S6:=κ s6;have F6:=κ f6;clear s6 f6));first|go_ret2|go_ret
 have hp:=(L1.out.new ((Fr.refl [] w1).alloc (.cells #[.bool false,.slice none 0 0] 45)) (Nat.le_refl _) (heap_alloc_new w1 _)).nw (newIn w1.heap.size) (by simp);have fw:Fr [] w w5:=Fr.trans L4.out.fr F5.out (fun x hx hlt=>by simp at hx;have:=hp.1;have:(newIn w1.heap.size).p=w1.heap.size:=rfl;omega);have hv:=V5.out;rw[V3.out,V1.out]at hv;exact⟨v6,p5.xs,rfl,S6.out,E5.out.dg,E5.out.nz,hv,fw.t F6.out⟩
end
end Go.Proofs.YthecibbmbnpegaaGreatDoor
namespace Go.Proofs.YthecibbmbnpegaaGreatDoor
open Go.Big Go.RowKit
theorem SW.list{w:World}{v:Value}{n:Int}{k:Nat}(h:SW w v n)(hn:n<18446744073709551616^k): ∃ys,Sl .u64 w v ys/\DG 18446744073709551616 ys/\val 18446744073709551616 ys=n/\ys.length<=k:=by
 obtain⟨ys,h1,h2,h3,h4⟩:=h;exact⟨ys,h1,h2,h4,len_le (by omega) h2 h3 (by rw[h4];exact hn)⟩
theorem mul_call(s bx by_:Nat)(xs ys:List Int)(W:World)(h1:StkAt W s none)(h2:Glo W 0 40)(h3:Row .u64 51 W bx xs)(h4:Row .u64 51 W by_ ys)(hd:DG 18446744073709551616 xs)(hd':DG 18446744073709551616 ys)(hl:xs.length<=900)(hl':ys.length<=900):
 Calls Tryz.prog 33 #[.slice none 0 0,.pointer (some ⟨s,0,none⟩),.slice (some ⟨bx,0,none⟩) xs.length xs.length,.slice (some ⟨by_,0,none⟩) ys.length ys.length] W (MulP s none none W.heap.size 0 0 (xs.length+ys.length) (val 18446744073709551616 xs*val 18446744073709551616 ys) W):=by
 have b1:=h3.lt;have b2:=h4.lt;have b3:=heap_lt h1;have n1:=h1.row_ne h3;have n2:=h1.row_ne h4;exact mul_ok _ _ s none none 0 W.heap.size 0 0 _ bx 0 xs.length xs _ by_ 0 ys.length ys W ⟨h1,fun _=>by simp only[lenS];omega,fun _=>by simp only[lenS];omega,h2,Rcv.nil _ _ _,Nat.le_refl _,by omega,Nm.of_wr (Wr.row h3) (Rcv.of_row h3 (by omega) (by unfold maxLen;omega)) (Nat.le_refl _),rfl,hd,by omega,Nm.of_wr (Wr.row h4) (Rcv.of_row h4 (by omega) (by unfold maxLen;omega)) (Nat.le_refl _),rfl,hd',by omega,by omega,by omega,by omega,.inl (by omega),.inl (by omega),fun h=>absurd h (by omega),fun h=>absurd h (by omega),fun i _ h=>by omega,fun i _ _ hh=>n1 hh,fun i _ _ hh=>n2 hh,⟨by omega,fun _ h=>by cases h⟩⟩
theorem zzMul_any(v u:Value)(xs ys:List Int)(w:World)(hx:Sl .u64 w v xs)(hd:DG 18446744073709551616 xs)(hl:xs.length<=900)(hy:Sl .u64 w u ys)(hd':DG 18446744073709551616 ys)(hl':ys.length<=900)(hT:Glo w 0 40):
 Calls Tryz.prog 21 #[v,u] w (RetW (val 18446744073709551616 xs*val 18446744073709551616 ys) w):=by
 have HX:=κ hx;have HY:=κ hy;have HT:=κ hT;have HB:=κ (prod_BIG hd hd' (by omega) (by omega));have CM:=κ (fun s bx by_ W h1 h2 h3 h4=>mul_call s bx by_ xs ys W h1 h2 h3 h4 hd hd' hl hl');have T1:True:=trivial;clear hx hy hd hd' hT;go_enter Tryz.func21,Tryz.ntmps21
 go_wp2_with (first
  |(go_at_call 31;refine(getStackQ_any _).mono ?_;rintro e w1 ⟨s,rfl,hst1,f1,hs⟩;have HST1:=κ hst1;have HS:=κ hs;clear hst1 hs)
  |(go_at_call 28;clear T1;refine(zzIn_any _ xs _ (HX.out.fr0 f1) (by omega)).mono ?_;rintro e w2 ⟨b2,rfl,row2,hb2,f2⟩;have HR2:=κ row2;clear row2 hb2)
  |(go_at_call 28;refine(zzIn_any _ ys _ ((HY.out.fr0 f1).fr0 f2) (by omega)).mono ?_;rintro e w3 ⟨b3,rfl,row3,hb3,f3⟩;have HR3:=κ row3;clear row3 hb3)
  |(go_at_call 33;refine(CM.out s b2 b3 _ ((HST1.out.fr0 f2).fr0 f3) (((HT.out.fr0 f1).fr0 f2).fr0 f3) (HR2.out.fr f3 (by simp)) HR3.out).mono ?_;rintro e w4 ⟨A',b',o',c',zs,q',rfl,g1,g2,g3,g4,_,_,_,_,g5,_⟩;have SW4:=κ (show SW w4 (.slice A' zs.length c') (val 18446744073709551616 xs*val 18446744073709551616 ys)by(have:=g1.sw g2 g3;rwa[g4]at this));have HF4:=κ (Fc.fr_new' g5 ((f1.t f2).t f3) (fun b i hh=>by rcases hh with hh|hh;exact hh▸HS.out;exact hh.1▸((f1.t f2).t f3).size));clear g1 g2 g3 g4 g5)
  |(go_at_call 26;refine(zzOutW_any _ _ _ SW4.out HB.out).mono ?_;rintro e w5 ⟨v5,rfl,sw5,f5⟩));go_ret;exact⟨_,rfl,sw5,HF4.out.t f5⟩
theorem implMul_any(v u:Value)(xs ys:List Int)(w:World)(hx:Sl .u64 w v xs)(hd:DG 18446744073709551616 xs)(hl:xs.length<=900)(hy:Sl .u64 w u ys)(hd':DG 18446744073709551616 ys)(hl':ys.length<=900)(hT:Glo w 0 40):
 Calls Tryz.prog 10 #[v,u] w (RetW (val 18446744073709551616 xs*val 18446744073709551616 ys) w):=by
 have HX:=κ hx;have HD:=κ hd;have HY:=κ hy;have HD':=κ hd';have HT:=κ hT;obtain⟨X,hX⟩: ∃X,val 18446744073709551616 xs=X:=⟨_,rfl⟩;obtain⟨Y,hY⟩: ∃Y,val 18446744073709551616 ys=Y:=⟨_,rfl⟩;have HV:=κ hX;have HV':=κ hY;rw[hX,hY];have T1:True:=trivial;clear hx hd hX hy hd' hY hT;go_enter Tryz.func10,Tryz.ntmps10
 go_wp2_with (first
  |(go_at_call 19;clear T1;refine(normed_any _ xs _ HX.out HD.out (by omega)).mono ?_;rintro e w1 ⟨v1,xs1,rfl,sl1,dx,nzx,hvx,hlx,f1⟩;have HVX:=κ hvx;clear hvx)
  |(go_at_call 19;refine(normed_any _ ys _ (HY.out.fr0 f1) HD'.out (by omega)).mono ?_;rintro e w2 ⟨v2,ys1,rfl,sl2,dy,nzy,hvy,hly,f2⟩;have HVY:=κ hvy;clear hvy)
  |(go_at_call 21;refine(zzMul_any _ _ xs1 ys1 _ (sl1.fr0 f2) dx (by omega) sl2 dy (by omega) ((HT.out.fr0 f1).fr0 f2)).mono ?_;rw[HVX.out,HV.out,HVY.out,HV'.out];rintro e w5 ⟨v5,rfl,sw5,f5⟩));go_ret;exact⟨_,rfl,sw5,(f1.t f2).t f5⟩
def RetQQ(q r:Int)(w:World)(e:Ending)(w':World):Prop:= ∃v1 v2,e= .returned (.tuple #[v1,v2])/\SW w' v1 q/\SW w' v2 r/\Fr [] w w'
def RetQB(q r:Int)(w:World)(e:Ending)(w':World):Prop:= ∃v1 v2,e= .returned (.tuple #[v1,v2,.bool true])/\SW w' v1 q/\SW w' v2 r/\Fr [] w w'
theorem div_call(s bx by_:Nat)(xs ys:List Int)(W:World)(h1:StkAt W s none)(hT:Glo W 0 40/\Glo W 1 40)(h3:Row .u64 51 W bx xs)(h4:Row .u64 51 W by_ ys)(hd:DG 18446744073709551616 xs)(hz:NZ xs)(hl:xs.length<=900)(hd':DG 18446744073709551616 ys)(hz':NZ ys)(hp:1<=ys.length)(hl':ys.length<=900):
 Calls Tryz.prog 32 #[.slice none 0 0,.pointer (some ⟨s,0,none⟩),.slice none 0 0,.slice (some ⟨bx,0,none⟩) xs.length xs.length,.slice (some ⟨by_,0,none⟩) ys.length ys.length] W (DvPost s none none W.heap.size 0 0 none W.heap.size 0 0 (val 18446744073709551616 xs) (val 18446744073709551616 ys) W):=by
 have n1:=h1.row_ne h3;have n2:=h1.row_ne h4;exact div_any ⟨h1,by simp only[lenS];omega,hT.1,hT.2,Rcv.nil _ _ _,Nat.le_refl _,by omega,Rcv.nil _ _ _,Nat.le_refl _,by omega,Nm.of_wr (Wr.row h3) (Rcv.of_row h3 (by omega) (by unfold maxLen;omega)) (Nat.le_refl _),hd,hz,by omega,by omega,Nm.of_wr (Wr.row h4) (Rcv.of_row h4 (by omega) (by unfold maxLen;omega)) (Nat.le_refl _),hd',hz',hp,hl',by omega,fun i _ h=>by omega,fun i _ h=>by omega,fun i _ _ hh=>n1 hh,fun i _ _ hh=>n2 hh,.inr (.inr (.inr (.inl rfl))),.inr (.inr (.inr (.inl rfl))),.inr (.inr (.inr (.inl rfl))),.inr (.inr (.inr (.inl rfl)))⟩
theorem zzDiv_any(v u:Value)(xs ys:List Int)(w:World)(hx:Sl .u64 w v xs)(hd:DG 18446744073709551616 xs)(hz:NZ xs)(hl:xs.length<=900)(hy:Sl .u64 w u ys)(hd':DG 18446744073709551616 ys)(hz':NZ ys)(hp:1<=ys.length)(hl':ys.length<=900)(hT:Glo w 0 40/\Glo w 1 40):
 Calls Tryz.prog 20 #[v,u] w (RetQQ (val 18446744073709551616 xs/val 18446744073709551616 ys) (val 18446744073709551616 xs%val 18446744073709551616 ys) w):=by
 have HX:=κ hx;have HY:=κ hy;have HT:=κ hT;have hX0:=val_nonneg (B:=18446744073709551616) (by omega) hd;have hYp:=nz_pos (B:=18446744073709551616) (by omega) hd' hz' (by intro e;rw[e]at hp;simp at hp);have hq:=Int.ediv_le_self (val 18446744073709551616 ys) hX0;have hr:=Int.emod_lt_of_pos (val 18446744073709551616 xs) hYp;have HQB:=κ (show val 18446744073709551616 xs/val 18446744073709551616 ys<BIG by have:=words_BIG hd (show xs.length<=1000000 by omega);omega);have HRB:=κ (show val 18446744073709551616 xs%val 18446744073709551616 ys<BIG by have:=words_BIG hd' (show ys.length<=1000000 by omega);omega);have CM:=κ (fun s bx by_ W h1 h2 h3 h4=>div_call s bx by_ xs ys W h1 h2 h3 h4 hd hz hl hd' hz' hp hl');obtain⟨Q,hQ⟩: ∃Q,Q=val 18446744073709551616 xs/val 18446744073709551616 ys:=⟨_,rfl⟩;obtain⟨R,hR⟩: ∃R,R=val 18446744073709551616 xs%val 18446744073709551616 ys:=⟨_,rfl⟩;rw[<-hQ]at HQB ⊢
 rw[<-hR]at HRB ⊢
 have HQ:=κ hQ;have HR:=κ hR;have T1:True:=trivial;have T2:True:=trivial;clear hx hy hd hd' hT hz hz' hX0 hYp hq hr hQ hR;go_enter Tryz.func20,Tryz.ntmps20
 go_wp2_with (first
  |(go_at_call 31;refine(getStackQ_any _).mono ?_;rintro e w1 ⟨s,rfl,hst1,f1,hs⟩;have HST1:=κ hst1;have HS:=κ hs;clear hst1 hs)
  |(go_at_call 28;clear T1;refine(zzIn_any _ xs _ (HX.out.fr0 f1) (by omega)).mono ?_;rintro e w2 ⟨b2,rfl,row2,hb2,f2⟩;have HR2:=κ row2;clear row2 hb2)
  |(go_at_call 28;refine(zzIn_any _ ys _ ((HY.out.fr0 f1).fr0 f2) (by omega)).mono ?_;rintro e w3 ⟨b3,rfl,row3,hb3,f3⟩;have HR3:=κ row3;clear row3 hb3)
  |(go_at_call 32;refine(CM.out s b2 b3 _ ((HST1.out.fr0 f2).fr0 f3) ⟨((HT.out.1.fr0 f1).fr0 f2).fr0 f3,((HT.out.2.fr0 f1).fr0 f2).fr0 f3⟩ (HR2.out.fr f3 (by simp)) HR3.out).mono ?_;rintro e w4 ⟨A1,b1,o1,c1,qs,A2,b4,o4,c4,rs,q',rfl,hr⟩;have SQ:=κ (show SW w4 (.slice A1 qs.length c1) Q by(have:=hr.qn.sw hr.qd hr.qz;rwa[hr.qv,<- HQ.out]at this));have SR:=κ (show SW w4 (.slice A2 rs.length c4) R by(have:=hr.rn.sw hr.rd hr.rz;rwa[hr.rv,<- HR.out]at this));have HF4:=κ (Fc.fr_new' hr.fc ((f1.t f2).t f3) (fun b i hh=>by rcases hh with hh|hh|hh;exact hh▸HS.out;exact hh.1▸((f1.t f2).t f3).size;exact hh.1▸((f1.t f2).t f3).size));clear hr)
  |(go_at_call 26;clear T2;refine(zzOutW_any _ _ _ SQ.out HQB.out).mono ?_;rintro e w5 ⟨v5,rfl,sw5,f5⟩)
  |(go_at_call 26;refine(zzOutW_any _ _ _ (SR.out.fr0 f5) HRB.out).mono ?_;rintro e w6 ⟨v6,rfl,sw6,f6⟩));go_ret2;exact⟨_,_,rfl,sw5.fr0 f6,sw6,(HF4.out.t f5).t f6⟩
theorem implDiv_any(v u:Value)(xs ys:List Int)(w:World)(hx:Sl .u64 w v xs)(hd:DG 18446744073709551616 xs)(hl:xs.length<=900)(hy:Sl .u64 w u ys)(hd':DG 18446744073709551616 ys)(hl':ys.length<=900)(hp:0<val 18446744073709551616 ys)(hT:Glo w 0 40/\Glo w 1 40):
 Calls Tryz.prog 9 #[v,u] w (RetQB (val 18446744073709551616 xs/val 18446744073709551616 ys) (val 18446744073709551616 xs%val 18446744073709551616 ys) w):=by
 have HX:=κ hx;have HD:=κ hd;have HY:=κ hy;have HD':=κ hd';have HT:=κ hT;obtain⟨X,hX⟩: ∃X,val 18446744073709551616 xs=X:=⟨_,rfl⟩;obtain⟨Y,hY⟩: ∃Y,val 18446744073709551616 ys=Y:=⟨_,rfl⟩;have HV:=κ hX;have HV':=κ hY;have HP:=κ hp;rw[hX,hY];have T1:True:=trivial;clear hx hd hX hy hd' hY hT hp;go_enter Tryz.func9,Tryz.ntmps9
 go_wp2_with (first
  |(go_at_call 19;clear T1;refine(normed_any _ ys _ HY.out HD'.out (by omega)).mono ?_;rintro e w1 ⟨v1,ys1,rfl,sl1,dy,nzy,hvy,hly,f1⟩;have HVY:=κ hvy;have hyne:1<=ys1.length:=(by rcases Nat.eq_zero_or_pos ys1.length with hh|hh;(exfalso;have e0:=List.eq_nil_of_length_eq_zero hh;have:=HP.out;rw[e0,val_nil]at hvy;omega);exact hh);have SL1:=κ sl1;obtain⟨A1,c1,rfl,hc1,hc1m,_⟩:=sl1;unfold maxLen at hc1m;have hyb:((ys1.length:Int)==0)=false:=(by rw[beq_eq_false_iff_ne];omega);clear hvy)
  |(go_at_call 19;refine(normed_any _ xs _ (HX.out.fr0 f1) HD.out (by omega)).mono ?_;rintro e w2 ⟨v2,xs1,rfl,sl2,dx,nzx,hvx,hlx,f2⟩;have HVX:=κ hvx;clear hvx)
  |(go_at_call 20;refine(zzDiv_any _ _ xs1 ys1 _ sl2 dx nzx (by omega) (SL1.out.fr0 f2) dy nzy hyne (by omega) ⟨(HT.out.1.fr0 f1).fr0 f2,(HT.out.2.fr0 f1).fr0 f2⟩).mono ?_;rw[HVX.out,HV.out,HVY.out,HV'.out];rintro e w5 ⟨v5,v6,rfl,sw5,sw6,f5⟩));refine bodyPost_ret (v:= .tuple #[v5,v6,.bool true]) (by simp[results,Tryz.results9,go_sem]) rfl ⟨v5,v6,rfl,sw5,sw6,(f1.t f2).t f5⟩
end Go.Proofs.YthecibbmbnpegaaGreatDoor
