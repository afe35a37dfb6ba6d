/-
  Part 11 of the proof of the law FnExpSum: XgMul. Conditions: those of each statement.
-/
import Derived.Test.YthecibbmbnpegaaGreatDoorK10
import Derived.StillTailTactics
import Derived.Deep.DeepCutAuto
import Derived.Laws.Bits64
set_option linter.unusedSimpArgs false
set_option linter.unusedVariables false
set_option maxRecDepth 100000
set_option maxHeartbeats 8000000
section
namespace Go.Big
open Go.RowKit
def Glo(w:World)(g:Nat)(v:Int):Prop:=w.cell? ⟨g,0,none⟩=some (.int .i64 v)
theorem Glo.lt{w:World}{g:Nat}{v:Int}(h:Glo w g v):g<w.heap.size:=by
 rcases Nat.lt_or_ge g w.heap.size with hlt|hge
 ·exact hlt
 ·unfold Glo World.cell? at h;rw[Array.getElem?_eq_none hge]at h;cases h
theorem Glo.fc{w w':World}{g:Nat}{v:Int}{T:TypeId}{S:Nat->Nat->Prop}(h:Glo w g v)(hf:Fc T S w w')(hS: ¬S g 0):Glo w' g v:=(hf.cell g 0 h.lt hS).trans h
theorem Glo.fr0{w w':World}{g:Nat}{v:Int}(h:Glo w g v)(hf:Fr [] w w'):Glo w' g v:=hf.cell_some h (by simp)
theorem Glo.row_ne{w:World}{g b:Nat}{v:Int}{T:TypeId}{L:List Int}(h:Glo w g v)(hr:Row .u64 T w b L):g≠b:=by
 rintro rfl;unfold Row at hr;unfold Glo World.cell? at h;rw[hr]at h;cases L<;>simp at h
end Go.Big
namespace Go.Proofs.YthecibbmbnpegaaGreatDoor
open Go.Big Go.RowKit
attribute [local go_sem ↓] Go.wp_at_zero Go.wp_at_succ
theorem glo_stk{w:World}{g s:Nat}{v:Int}{q:Option StkSt}(h:Glo w g v)(hs:StkAt w s q)(i:Nat): ¬StS s q g i:=by
 unfold Glo World.cell? at h;cases q with
 |none=>
  rintro rfl;unfold StkAt at hs;rw[hs]at h;simp at h
 |some q=>
  obtain⟨h1,h2,⟨L,hL,_⟩,_⟩:=hs;rintro(rfl|rfl|⟨rfl,_⟩)
  ·rw[h1]at h;simp at h
  ·rw[h2]at h;simp at h
  ·exact Glo.row_ne (w:=w) (v:=v) h hL rfl
theorem stk_lt{w:World}{s:Nat}{q:Option StkSt}(hs:StkAt w s q){b i:Nat}(h:StS s q b i):b<w.heap.size:=by
 cases q with
 |none=>unfold StS at h;subst h;exact heap_lt hs
 |some q=>
  obtain⟨h1,h2,⟨L,hL,_⟩,_⟩:=hs;rcases h with rfl|rfl|⟨rfl,_⟩
  ·exact heap_lt h1
  ·exact heap_lt h2
  ·exact hL.lt
theorem glo_rcv{w:World}{g:Nat}{v:Int}{A:Option Addr}{b o c:Nat}(h:Glo w g v)(hr:Rcv w A b o c)(hc:0<c):g≠b:=by
 obtain⟨L,hL,_⟩:=hr.row hc;exact h.row_ne hL
def NewS(s:Nat)(q:Option StkSt)(b:Nat):Prop:=b≠s/\ ∀p,q=some p->b≠p.si/\b≠p.g
theorem NewS.off{s b o n:Nat}{q:Option StkSt}(h:NewS s q b):Off (StS s q) b o n:=fun i _ _ hh=>by
 cases q with
 |none=>exact h.1 hh
 |some p=>
  have:=h.2 p rfl;rcases hh with hh|hh|⟨hh,_⟩
  ·exact h.1 hh
  ·exact this.1 hh
  ·exact this.2 hh
theorem NewS.of{w:World}{s b:Nat}{q:Option StkSt}(hst:StkAt w s q)(hb:w.heap.size<=b):NewS s q b:=by
 cases q with
 |none=>exact⟨by have:=heap_lt hst;omega,fun p hp=>by cases hp⟩
 |some q=>
  obtain⟨h1,h2,⟨L,hL,_⟩,_⟩:=hst;have e1:=heap_lt h1;have e2:=heap_lt h2;have e3:=hL.lt;exact⟨by omega,fun p hp=>by cases hp;omega⟩
theorem NewS.le{s b N:Nat}{q q':Option StkSt}(h:NewS s q b)(hl:StkLe N q q')(hb:b<N):NewS s q' b:=by
 refine⟨h.1,fun p hp=> ?_⟩;subst hp;cases q with
 |none=>simp only[StkLe]at hl;omega
 |some r=>
  have:=h.2 r rfl;simp only[StkLe]at hl;omega
def rm(k c:Nat):Nat:=if k<=c then k else 0
theorem rm_le(k c:Nat):rm k c<=k:=by unfold rm;split<;>omega
theorem rm_eq{k c:Nat}(h:k<=c):rm k c=k:=if_pos h
theorem dj_rm{b o n bz oz k:Nat}(c:Nat)(h:Dj b o n bz oz k):Dj b o n bz oz (rm k c):=h.sub1 (Nat.le_refl _) (rm_le k c)
theorem in_rm{b o k c x i:Nat}(h:In1 b o (rm k c) x i):In1 b o k x i:=⟨h.1,h.2.1,by have:=h.2.2;have:=rm_le k c;omega⟩
def MulP(s:Nat)(q:Option StkSt)(A:Option Addr)(bz oz cz k:Nat)(V:Int)(w:World)(e:Ending)(w':World):Prop:=
 ∃A' b' o' c' zs q',e= .returned (.slice A' zs.length c')/\Nm w' A' b' o' c' zs/\DG 18446744073709551616 zs/\NZ zs/\val 18446744073709551616 zs=V/\((A'=A/\b'=bz/\o'=oz/\c'=cz)\/(cz<k/\c'<=k+4/\w.heap.size<=b'/\NewS s q' b'))/\
  StkAt w' s q'/\StkLe w.heap.size q q'/\lenS q'=lenS q/\Fc 51 (fun b i=>StS s q b i\/In1 bz oz (rm k cz) b i) w w'/\((V=0/\Fc 51 (StS s q) w w')\/ ∃Z,Wr 51 w' b' o' Z/\Z.length=k/\DG 18446744073709551616 Z/\val 18446744073709551616 Z=V)
structure MulPre(m n s:Nat)(q:Option StkSt)(A:Option Addr)(l bz oz cz:Nat)(Ax:Option Addr)(bx ox cx:Nat)(xs:List Int)(Ay:Option Addr)(by_ oy cy:Nat)(ys:List Int)(w:World):Prop where
 st:StkAt w s q
 leq:m=n->lenS q+1500*(n+1)<=100000000000
 lne:m≠n->lenS q+2000*(min m n+1)<=100000000000
 thr:Glo w 0 40
 rz:Rcv w A bz oz cz
 lz:l<=cz
 cz9:cz<=9223372036854775807
 x:Nm w Ax bx ox cx xs
 xm:xs.length=m
 xd:DG 18446744073709551616 xs
 cx9:cx<=9223372036854775807
 y:Nm w Ay by_ oy cy ys
 yn:ys.length=n
 yd:DG 18446744073709551616 ys
 cy9:cy<=9223372036854775807
 m9:m<=100000
 n9:n<=100000
 few:min m n<=900
 dx:Dj bx ox m bz oz (rm (m+n) cz)
 dy:Dj by_ oy n bz oz (rm (m+n) cz)
 ex:0<cz->0<cx->bz≠bx\/oz+cz≠ox+cx
 ey:0<cz->0<cy->bz≠by_\/oz+cz≠oy+cy
 oz_:Off (StS s q) bz oz cz
 ox_:Off (StS s q) bx ox cx
 oy_:Off (StS s q) by_ oy cy
 bs:bz≠s/\ ∀p,q=some p->bz≠p.si
def MulOK(m n:Nat):Prop:= ∀(s:Nat) (q:Option StkSt) (A:Option Addr) (l bz oz cz:Nat) (Ax:Option Addr) (bx ox cx:Nat) (xs:List Int) (Ay:Option Addr) (by_ oy cy:Nat) (ys:List Int) (w:World),
 MulPre m n s q A l bz oz cz Ax bx ox cx xs Ay by_ oy cy ys w->
  Calls Tryz.prog 33 #[.slice A l cz,.pointer (some ⟨s,0,none⟩),.slice Ax m cx,.slice Ay n cy] w (MulP s q A bz oz cz (m+n) (val 18446744073709551616 xs*val 18446744073709551616 ys) w)
def KarP(s:Nat)(q:Option StkSt)(bz oz n2:Nat)(V:Int)(w:World)(e:Ending)(w':World):Prop:=
 ∃q' zs,e= .returned (.tuple #[])/\StkAt w' s q'/\StkLe w.heap.size q q'/\lenS q'=lenS q/\Wr 51 w' bz oz zs/\zs.length=n2/\DG 18446744073709551616 zs/\val 18446744073709551616 zs=V/\Fc 51 (fun b i=>StS s q b i\/In1 bz oz n2 b i) w w'
structure KarPre(n s:Nat)(q:Option StkSt)(bz oz cz bx ox cx:Nat)(xs:List Int)(by_ oy cy:Nat)(ys:List Int)(w:World):Prop where
 st:StkAt w s q
 len:lenS q+1500*(n+1)<=100000000000
 thr:Glo w 0 40
 rz:Rcv w (some ⟨bz,oz,none⟩) bz oz cz
 lz:2*n<=cz
 cz9:cz<=9223372036854775807
 x:Nm w (some ⟨bx,ox,none⟩) bx ox cx xs
 xn:xs.length=n
 xd:DG 18446744073709551616 xs
 cx9:cx<=9223372036854775807
 y:Nm w (some ⟨by_,oy,none⟩) by_ oy cy ys
 yn:ys.length=n
 yd:DG 18446744073709551616 ys
 cy9:cy<=9223372036854775807
 n1:1<=n
 few:n<=900
 dx:Dj bx ox n bz oz (2*n)
 dy:Dj by_ oy n bz oz (2*n)
 ex:bz≠bx\/oz+cz≠ox+cx
 ey:bz≠by_\/oz+cz≠oy+cy
 oz_:Off (StS s q) bz oz cz
 ox_:Off (StS s q) bx ox cx
 oy_:Off (StS s q) by_ oy cy
def KarOK(n:Nat):Prop:= ∀(s:Nat) (q:Option StkSt) (bz oz cz bx ox cx:Nat) (xs:List Int) (by_ oy cy:Nat) (ys:List Int) (w:World),
 KarPre n s q bz oz cz bx ox cx xs by_ oy cy ys w->
  Calls Tryz.prog 52 #[.pointer (some ⟨s,0,none⟩),.slice (some ⟨bz,oz,none⟩) (2*n:Nat) cz,.slice (some ⟨bx,ox,none⟩) n cx,.slice (some ⟨by_,oy,none⟩) n cy] w (KarP s q bz oz (2*n) (val 18446744073709551616 xs*val 18446744073709551616 ys) w)
theorem MulP.val{s:Nat}{q:Option StkSt}{A:Option Addr}{bz oz cz k:Nat}{V:Int}{w:World}{e:Ending}{w':World}(h:MulP s q A bz oz cz k V w e w'): ∃A' n c',e= .returned (.slice A' n c'):=by
 obtain⟨A',b',o',c',zs,q',h1,_⟩:=h;exact⟨A',_,c',h1⟩
theorem basicMulW_any(bz oz nz cz bx ox cx by_ oy cy m n:Nat)(Z xs ys:List Int)(w:World)(hz:Wr 51 w bz oz Z)(hZ:Z.length=nz)(hmn:m+n<=nz)(hcz:nz<=cz)(hxm:xs.length=m)(hx:Go.Big.Src .u64 w bx ox xs)(hd:DG 18446744073709551616 xs)(hax:Dj bx ox m bz oz (m+n))
 (hyn:ys.length=n)(hy:Go.Big.Src .u64 w by_ oy ys)(hd':DG 18446744073709551616 ys)(hay:Dj by_ oy n bz oz (m+n))(hm0:0<m)(hn0:0<n)(hm9:m<=1000000)(hn9:n<=1000000)(hcz9:cz<=9223372036854775807)(hcx:m<=cx)(hcy:n<=cy):
 Calls Tryz.prog 51 #[.slice (some ⟨bz,oz,none⟩) nz cz,.slice (some ⟨bx,ox,none⟩) m cx,.slice (some ⟨by_,oy,none⟩) n cy] w fun e w'=>e= .returned (.tuple #[])/\ ∃zs,Wr 51 w' bz oz zs/\zs.length=m+n/\DG 18446744073709551616 zs/\val 18446744073709551616 zs=val 18446744073709551616 xs*val 18446744073709551616 ys/\Fc 51 (In1 bz oz (m+n)) w w':=by
 obtain⟨_,M,hM,hl⟩:=hz;refine(basicMul_any bz oz nz cz bx ox cx by_ oy cy m n M xs ys w hM (by omega) hmn hcz hxm hx hd (by unfold Dj at hax;unfold Apart;omega) hyn hy hd' (by unfold Dj at hay;unfold Apart;omega) hm0 hn0 hm9 hn9 hcz9 hcx hcy).mono ?_;rintro e w' ⟨zs,rfl,hr,hf,hzl,hzd,hzv⟩;exact⟨rfl,zs,Wr.of_spl hr (by omega),hzl,hzd,hzv,fc_row (L':=M) hM hr hf (by omega) (fun i a1 a2=>⟨rfl,a1,by omega⟩)⟩
theorem aliasN_any(A:Option Addr)(l bz oz cz:Nat)(Ax:Option Addr)(bx ox cx:Nat)(xs:List Int)(w:World)(h:Rcv w A bz oz cz)(hl:l<=cz)(hx:Nm w Ax bx ox cx xs)(hne:0<cz->0<cx->bz≠bx\/oz+cz≠ox+cx):
 Calls Tryz.prog 37 #[.slice A l cz,.slice Ax xs.length cx] w fun e w'=>e= .returned (.bool false)/\Fr [] w w':=by
 by_cases h0:cz=0\/cx=0
 ·exact alias_no0 A Ax l xs.length cz cx w h0 h.1 hx.max
 ·obtain⟨Z,hZ,_⟩:=h.row (by omega)
  obtain⟨X,hX,_⟩:=hx.rcv.row (by omega);obtain rfl:=h.addr (by omega);obtain rfl:=hx.rcv.addr (by omega);exact alias_no bz oz l cz bx ox xs.length cx w Z X hZ hX hl hx.le h.1 hx.max (by omega) (by omega) (hne (by omega) (by omega))
theorem setWord0_any(A:Option Addr)(l c:Nat)(w:World)(hc:c<=maxLen):Calls Tryz.prog 46 #[.slice A l c,.int .u64 0] w fun e w'=>e= .returned (.slice A 0 c)/\w=w':=by
 unfold maxLen at hc;go_enter Tryz.func46,Tryz.ntmps46;go_wp2_with fail;go_ret;exact⟨rfl,rfl⟩
def Mul1P(w:World)(A:Option Addr)(bz oz cz k:Nat)(V:Int)(e:Ending)(w':World):Prop:=
 ∃A' b' o' c' zs,e= .returned (.slice A' zs.length c')/\Nm w' A' b' o' c' zs/\DG 18446744073709551616 zs/\NZ zs/\val 18446744073709551616 zs=V/\((A'=A/\b'=bz/\o'=oz/\c'=cz)\/(cz<k/\c'<=k+4/\w.heap.size<=b'))/\Fc 51 (In1 bz oz (rm k cz)) w w'/\((V=0/\Fr [] w w')\/ ∃Z,Wr 51 w' b' o' Z/\Z.length=k/\DG 18446744073709551616 Z/\val 18446744073709551616 Z=V)
theorem MadeR.out2{A:Option Addr}{b o c n:Nat}{w:World}{e:Ending}{w':World}(h:MadeR A b o c n w e w')(hlt:0<c->b<w.heap.size):
 ∃b' o' c' Z,e= .returned (.slice (some ⟨b',o',none⟩) n c')/\n<=c'/\Rcv w' (some ⟨b',o',none⟩) b' o' c'/\Wr 51 w' b' o' Z/\Z.length=n/\Fr [] w w'/\(∀x i,In1 b' o' n x i->x<w.heap.size->In1 b o (rm n c) x i)/\((some ⟨b',o',none⟩=A/\b'=b/\o'=o/\c'=c)\/(c<n/\c'<=n+4/\w.heap.size<=b')):=by
 obtain⟨b',o',c',Z,rfl,h1,h2,hZ,hl,hf,hh⟩:=h;refine⟨b',o',c',Z.take n,rfl,h1,⟨h2,.inr ⟨rfl,Z,hZ,hl⟩⟩,hZ.take n (by omega),by rw[List.length_take];omega,hf,?_,?_⟩
 ·intro x i hx hlt'
  rcases hh with⟨_,rfl,rfl,hcc,_⟩|⟨_,_,hb⟩
  ·rw[rm_eq (by omega)];exact hx
  ·obtain⟨rfl,_⟩:=hx;omega
 ·rcases hh with⟨hA,rfl,rfl,rfl,_⟩|⟨h3,h4,hb⟩
  ·exact .inl ⟨hA.symm,rfl,rfl,rfl⟩
  ·exact .inr ⟨h3,h4,hb⟩
theorem made_dj{A:Option Addr}{z o1 c1 bz oz cz k bx ox m sz:Nat}(hk1:k<=c1)(h:(some (⟨z,o1,none⟩:Addr)=A/\z=bz/\o1=oz/\c1=cz)\/(cz<k/\c1<=k+4/\sz<=z))(hal:Dj bx ox m bz oz (rm k cz))(hlt:bx<sz):Dj bx ox m z o1 k:=by
 rcases h with⟨_,rfl,rfl,rfl⟩|⟨_,_,h⟩
 ·rwa[rm_eq hk1]at hal
 ·exact .inl (by omega)
theorem nmulR_any(A:Option Addr)(l bz oz cz bx ox cx m:Nat)(xs:List Int)(y:Int)(w:World)(h:Rcv w A bz oz cz)(hl:l<=cz)(hx:Wr 51 w bx ox xs)(hd:DG 18446744073709551616 xs)(hm:xs.length=m)(hm0:0<m)(hm9:m<=1000000)(hy0:0<=y)(hy1:y<18446744073709551616)(hal:Dj bx ox m bz oz (rm (m+1) cz)):
 Calls Tryz.prog 50 #[.slice A l cz,.slice (some ⟨bx,ox,none⟩) m cx,.int .u64 y,.int .u64 0] w (Mul1P w A bz oz cz (m+1) (val 18446744073709551616 xs*y)):=by
 have hm0':((m:Int)==0)=false:=by rw[beq_eq_false_iff_ne];omega
 by_cases hy:y=0
 ·subst hy
  have C:=κ (setWord0_any A l cz w h.1);have HR:=κ h;clear h hx hd hm hal;go_enter Tryz.func50,Tryz.ntmps50;go_wp2_with (go_at_call 46;refine(C.out).mono ?_;rintro e w1 ⟨rfl,rfl⟩);go_ret;exact⟨A,bz,oz,cz,[],rfl,Nm.nil HR.out,DG.nil _,NZ.nil,by rw[val_nil,Int.mul_zero],.inl ⟨rfl,rfl,rfl,rfl⟩,Fc.refl _ _ _,.inl ⟨Int.mul_zero _,Fr.refl _ _⟩⟩
 ·have hy0':(y==0)=false:=by rw[beq_eq_false_iff_ne];exact hy
  have hw:IntKind.i64.wrap ((m:Int)+1)=((m+1:Nat):Int):=by rw[IntKind.wrap_i64];omega
  have HM:=κ (makeR_any A l bz oz cz (m+1) w h hl (by omega) (by omega));have HX:=κ hx;have HD:=κ hd;have HN:=κ hm;have HR:=κ h;have HAL:=κ hal;have hxlt:=hx.lt;clear hx hd hm h hal;go_enter Tryz.func50,Tryz.ntmps50
  go_wp2_with (first
   |(go_at_call 42;refine(HM.out).mono ?_;intro e w1 hm;obtain⟨z,o1,c1,Z,rfl,h1,h2,h3,h4,h5,h6,h7⟩:=hm.out2 (fun hc=>HR.out.lt hc);have H2:=κ h2;have H3:=κ h3;have H4:=κ h4;have H5:=κ h5;have H6:=κ h6;have H7:=κ h7;have hcm:c1<=9223372036854775807:=(by have:=h2.1;unfold maxLen at this;omega);have CV:=κ (mulAddVWWw_any z o1 c1 bx ox cx m (Z.take m) xs y 0 w1 (h3.take m (by omega)) (by rw[List.length_take];omega) HN.out (HX.out.fr0 h5).src HD.out (.inl ((made_dj h1 h7 HAL.out hxlt).sub1 (Nat.le_refl _) (by omega))) (by omega) hy0 hy1 (by omega) (by omega));clear hm h2 h3 h4 h5 h6 h7 HM)
   |(go_at_call 81;refine(CV.out).mono ?_;rintro e w2 ⟨zs,k,rfl,hz2,f2,hzl,hzd,hk0,hk1,hv⟩;have HZ2:=κ hz2;have F2:=κ f2;have HZL:=κ hzl;have HZD:=κ hzd;have HV:=κ hv;clear hz2 f2 hzl hzd hv CV;have HU:=κ (H3.out.upd (i:=0) (zs:=zs) HZ2.out (by rw[HZL.out];exact F2.out) (by rw[HZL.out,H4.out];omega));have ZL:=κ (show(spl Z 0 zs).length=m+1 by rw[spl_len (by rw[HZL.out,H4.out];omega),H4.out]);have cz3:=HU.out.cell (j:=m) (by rw[ZL.out];omega);have fz3:=HU.out.frozen (o1+m);obtain⟨old,hold⟩: ∃old,old=(spl Z 0 zs).getD m 0:=⟨_,rfl⟩;rw[<-hold]at cz3;clear hold)
   |(go_at_call 34;have hU4:=HU.out.set (j:=m) (by rw[ZL.out];omega) k;have e4:(spl Z 0 zs).set m k=zs++[k]:=(by have:=spl_set_end (L:=Z) (o:=0) (cs:=zs) (by rw[HZL.out,H4.out];omega) k;rw[Nat.zero_add,HZL.out]at this;rw[this,spl_whole (by rw[List.length_append,HZL.out,H4.out];rfl)]);rw[e4]at hU4;have HU4:=κ hU4;have F34:=κ (show Fc 51 (In1 z o1 (m+1)) w1 (w2.setCell ⟨z,o1+m,none⟩ (.int .u64 k))from(F2.out.mono (fun x i hh _=>by unfold In1 at *;omega)).t ((Fc.set1 HU.out (j:=m) (by rw[ZL.out];omega) k).mono (fun x i hh _=>by unfold In1 at *;omega)));have ZL4:=κ (show(zs++[k]).length=m+1 by rw[List.length_append,HZL.out];rfl);have ZD4:=κ (HZD.out.append (DG.cons hk0 hk1 (DG.nil _)));clear hU4 e4;have CN:=normN_any (some ⟨z,o1,none⟩) z o1 c1 (zs++[k]) _ (Nm.of_wr HU4.out (H2.out.fc F34.out) (by rw[ZL4.out];exact h1)) ZD4.out;rw[ZL4.out]at CN;refine CN.mono ?_;rintro e w5 ⟨⟨us,rfl,g1,g2,g3,g4,g5⟩,rfl⟩;have G1:=κ g1;have G2:=κ g2;have G3:=κ g3;have G4:=κ g4;clear g1 g2 g3 g4 g5 CN));go_ret
  have hv:val 18446744073709551616 (zs++[k])=val 18446744073709551616 xs*y:=by
   have:=HV.out;rw[val_snoc,HZL.out];omega
  exact⟨_,z,o1,c1,us,rfl,G1.out,G2.out,G3.out,G4.out.trans hv,H7.out,(Fc.fr0 H5.out _ _).trans F34.out H6.out,.inr ⟨_,HU4.out,ZL4.out,ZD4.out,hv⟩⟩
end Go.Proofs.YthecibbmbnpegaaGreatDoor
end
section
namespace Go.Proofs.YthecibbmbnpegaaGreatDoor
open Go.Big Go.RowKit
attribute [local go_sem ↓] Go.wp_at_zero Go.wp_at_succ
theorem MulPre.swap{m n s:Nat}{q:Option StkSt}{A:Option Addr}{l bz oz cz:Nat}{Ax:Option Addr}{bx ox cx:Nat}{xs:List Int}{Ay:Option Addr}{by_ oy cy:Nat}{ys:List Int}{w:World}(h:MulPre m n s q A l bz oz cz Ax bx ox cx xs Ay by_ oy cy ys w):MulPre n m s q A l bz oz cz Ay by_ oy cy ys Ax bx ox cx xs w:=
 ⟨h.st,fun e=>by rw[<-e];exact h.leq e.symm,fun e=>by rw[Nat.min_comm];exact h.lne (fun e'=>e e'.symm),h.thr,h.rz,h.lz,h.cz9,h.y,h.yn,h.yd,h.cy9,h.x,h.xm,h.xd,h.cx9,h.n9,h.m9,by rw[Nat.min_comm];exact h.few,by rw[Nat.add_comm];exact h.dy,by rw[Nat.add_comm];exact h.dx,h.ey,h.ex,h.oz_,h.oy_,h.ox_,h.bs⟩
theorem mul_lt{m n:Nat}(hmn:m<n)(H:MulOK n m):MulOK m n:=by
 intro s q A l bz oz cz Ax bx ox cx xs Ay by_ oy cy ys w h;have C:=H s q A l bz oz cz Ay by_ oy cy ys Ax bx ox cx xs w h.swap;rw[Nat.add_comm n m,Int.mul_comm]at C;have C:=κ C;have hI:(m:Int)<(n:Int):=by omega
 have m9:=h.m9;have n9:=h.n9;have lz:=h.lz;have cz9:=h.cz9;have cx9:=h.cx9;have cy9:=h.cy9;have hxc:m<=cx:=by have:=h.x.le;rw[h.xm]at this;exact this
 have hyc:n<=cy:=by have:=h.y.le;rw[h.yn]at this;exact this
 clear h;go_enter_defers Tryz.func33,Tryz.ntmps33;refine wp_mono ?_ bodyPostN_D;go_wp2_with (go_at_call 33;refine(C.out).mono ?_;intro e w1 hm;have HM:=κ hm;obtain⟨A',n0,c',rfl⟩:=hm.val;clear hm);show Leaves _ _ _ _ _ _ _;refine⟨.slice A' n0 c',?_,HM.out⟩;simp[results,Tryz.results33,go_sem]
theorem MulP.none{s:Nat}{q:Option StkSt}{A:Option Addr}{bz oz cz k:Nat}{w:World}(hr:Rcv w A bz oz cz)(hst:StkAt w s q)(ho:Off (StS s q) bz oz cz):MulP s q A bz oz cz k 0 w (.returned (.slice A 0 cz)) w:=
 ⟨A,bz,oz,cz,[],q,rfl,Nm.nil hr,DG.nil _,NZ.nil,rfl,.inl ⟨rfl,rfl,rfl,rfl⟩,hst,StkLe.refl _ _,rfl,Fc.refl _ _ _,.inl ⟨rfl,Fc.refl _ _ _⟩⟩
theorem mul_zero{m:Nat}:MulOK m 0:=by
 intro s q A l bz oz cz Ax bx ox cx xs Ay by_ oy cy ys w h
 have hv:val 18446744073709551616 xs*val 18446744073709551616 ys=0:=by
  rw[List.eq_nil_of_length_eq_zero h.yn,val_nil,Int.mul_zero]
 rw[hv];have F:=κ (MulP.none (k:=m+0) h.rz h.st h.oz_);have m9:=h.m9;have lz:=h.lz;have cz9:=h.cz9;clear h hv;by_cases h0:m=0
 ·subst h0
  go_enter_defers Tryz.func33,Tryz.ntmps33;refine wp_mono ?_ bodyPostN_D;go_wp2_with fail;show Leaves _ _ _ _ _ _ _;exact⟨.slice A 0 cz,by simp[results,Tryz.results33,go_sem],F.out⟩
 ·have hm0:((m:Int)==0)=false:=by rw[beq_eq_false_iff_ne];omega
  have hm1: ¬(m:Int)<0:=by omega
  go_enter_defers Tryz.func33,Tryz.ntmps33;refine wp_mono ?_ bodyPostN_D;go_wp2_with fail;show Leaves _ _ _ _ _ _ _;exact⟨.slice A 0 cz,by simp[results,Tryz.results33,go_sem],F.out⟩
theorem made_off{w:World}{s:Nat}{q:Option StkSt}{A:Option Addr}{z o1 c1 bz oz cz k sz:Nat}(h:(some (⟨z,o1,none⟩:Addr)=A/\z=bz/\o1=oz/\c1=cz)\/(cz<k/\c1<=k+4/\sz<=z))(ho:Off (StS s q) bz oz cz)(hst:StkAt w s q)(hsz:w.heap.size<=sz):Off (StS s q) z o1 c1:=by
 rcases h with⟨_,rfl,rfl,rfl⟩|⟨_,_,h⟩
 ·exact ho
 ·intro i _ _ hi
  have:=stk_lt hst hi;omega
theorem Mul1P.out{w:World}{s:Nat}{q:Option StkSt}{A:Option Addr}{bz oz cz k:Nat}{V:Int}{e:Ending}{w':World}(h:Mul1P w A bz oz cz k V e w')(hst:StkAt w s q)(hbs: ∀i,¬ In1 bz oz k s i)(hbi: ∀p,q=some p-> ∀i,¬ In1 bz oz k p.si i):MulP s q A bz oz cz k V w e w':=by
 obtain⟨A',b',o',c',zs,h1,h2,h3,h4,h5,h6,h7,h8⟩:=h;exact⟨A',b',o',c',zs,q,h1,h2,h3,h4,h5,h6.imp id (fun h=>⟨h.1,h.2.1,h.2.2,NewS.of hst h.2.2⟩),hst.fc h7 (fun i hh=>hbs i (in_rm hh)) (fun p hp i hh=>hbi p hp i (in_rm hh)),StkLe.refl _ _,rfl,h7.mono (fun _ _ h _=> .inr h),h8.imp (fun h=>⟨h.1,Fc.fr0 h.2 _ _⟩) id⟩
theorem rcv_stk{w:World}{s:Nat}{q:Option StkSt}{A:Option Addr}{bz oz cz:Nat}(hst:StkAt w s q)(h:Rcv w A bz oz cz)(hb:0<cz\/(bz≠s/\ ∀p,q=some p->bz≠p.si)):bz≠s/\ ∀p,q=some p->bz≠p.si:=by
 by_cases hc:0<cz
 ·obtain⟨L,hL,_⟩:=h.row hc
  refine⟨hst.row_ne hL,fun p hp=> ?_⟩;subst hp;exact hst.2.row_ne hL
 ·exact hb.resolve_left hc
theorem MulPre.xw{m n s:Nat}{q:Option StkSt}{A:Option Addr}{l bz oz cz:Nat}{Ax:Option Addr}{bx ox cx:Nat}{xs:List Int}{Ay:Option Addr}{by_ oy cy:Nat}{ys:List Int}{w:World}(h:MulPre m n s q A l bz oz cz Ax bx ox cx xs Ay by_ oy cy ys w)(hm:0<m):Ax=some ⟨bx,ox,none⟩/\Wr 51 w bx ox xs/\m<=cx:=
 ⟨h.x.addr (by rw[h.xm];exact hm),h.x.wr (by rw[h.xm];exact hm),by have:=h.x.le;rw[h.xm]at this;exact this⟩
theorem mul_one{m:Nat}(hm:0<m):MulOK m 1:=by
 intro s q A l bz oz cz Ax bx ox cx xs Ay by_ oy cy ys w h;obtain⟨rfl,hxw,hcx⟩:=h.xw hm;obtain⟨rfl,hyw,hcy⟩:=h.swap.xw (by omega);have cy0:=hyw.cell (j:=0) (by rw[h.yn];omega);rw[Nat.add_zero]at cy0;obtain⟨d,hd⟩: ∃d,d=ys.getD 0 0:=⟨_,rfl⟩;rw[<-hd]at cy0;have hdd:=h.yd.getD (by omega) 0;rw[<-hd]at hdd;obtain⟨hd0,hd1⟩:=hdd
 have hyv:val 18446744073709551616 ys=d:=by
  have e:=val_take_succ' 18446744073709551616 ys 0;rw[<-hd,List.take_of_length_le (by rw[h.yn];omega)]at e;simpa[val_nil]using e
 rw[hyv];have C:=κ ((nmulR_any A l bz oz cz bx ox cx m xs d w h.rz h.lz hxw h.xd h.xm hm (by have:=h.m9;omega) hd0 hd1 h.dx).mono fun e w' hh=>hh.out (s:=s) (q:=q) h.st (fun i hi=>h.bs.1 hi.1.symm) (fun p hp i hi=>h.bs.2 p hp hi.1.symm));have m9:=h.m9;have lz:=h.lz;have cz9:=h.cz9;have cx9:=h.cx9;have cy9:=h.cy9;clear h hxw hyw hd hyv;have hm0:((m:Int)==0)=false:=by rw[beq_eq_false_iff_ne];omega
 have hm1: ¬(m:Int)<1:=by omega
 go_enter_defers Tryz.func33,Tryz.ntmps33;refine wp_mono ?_ bodyPostN_D;go_wp2_with (go_at_call 50;refine(C.out).mono ?_;intro e w1 hm;have HM:=κ hm;obtain⟨A',n0,c',rfl⟩:=hm.val;clear hm);show Leaves _ _ _ _ _ _ _;exact⟨.slice A' n0 c',by simp[results,Tryz.results33,go_sem],HM.out⟩
theorem StkLe.le{N M:Nat}{q q':Option StkSt}(h:StkLe M q q')(hN:N<=M):StkLe N q q':=by
 cases q<;>cases q'<;>simp only[StkLe]at* <;>omega
theorem mul_fin{w w2 w3 w4:World}{s:Nat}{q q':Option StkSt}{A:Option Addr}{bz oz cz k z o1 c1:Nat}{V:Int}{vs us:List Int}(F2:Fr [] w w2)(F3:Fr [] w w3)(H6: ∀x i,In1 z o1 k x i->x<w2.heap.size->In1 bz oz (rm k cz) x i)
 (H7:(some (⟨z,o1,none⟩:Addr)=A/\z=bz/\o1=oz/\c1=cz)\/(cz<k/\c1<=k+4/\w2.heap.size<=z))(HO:StkAt w s q)(HZ:z<w3.heap.size)(st:StkAt w4 s q')(le:StkLe w3.heap.size q q')(len:lenS q'=lenS q)(G5:Fc 51 (fun b i=>StS s q b i\/In1 z o1 k b i) w3 w4)
 (P1:Nm w4 (some ⟨z,o1,none⟩) z o1 c1 vs)(P2:DG 18446744073709551616 vs)(P3:NZ vs)(P4:val 18446744073709551616 vs=V)(G1:Wr 51 w4 z o1 us)(G2:us.length=k)(G3:DG 18446744073709551616 us)(G4:val 18446744073709551616 us=V):
 MulP s q A bz oz cz k V w (.returned (.slice (some ⟨z,o1,none⟩) vs.length c1)) w4:=
 ⟨_,z,o1,c1,vs,q',rfl,P1,P2,P3,P4,H7.imp id (fun h=>⟨h.1,h.2.1,Nat.le_trans F2.size h.2.2,(NewS.of HO (Nat.le_trans F2.size h.2.2)).le le HZ⟩),st,le.le F3.size,len,(Fc.fr0 F3 _ _).trans G5 (fun b i hb hlt=>hb.imp id (fun h=>H6 b i h (Nat.lt_of_lt_of_le hlt F2.size))),.inr ⟨us,G1,G2,G3,G4⟩⟩
theorem mul_small{m n:Nat}(hn2:2<=n)(hn40:n<40)(hmn:n<=m):MulOK m n:=by
 intro s q A l bz oz cz Ax bx ox cx xs Ay by_ oy cy ys w h;obtain⟨rfl,hxw,hcx⟩:=h.xw (by omega);obtain⟨rfl,hyw,hcy⟩:=h.swap.xw (by omega);obtain⟨k,hk⟩: ∃k,k=m+n:=⟨_,rfl⟩;have a1:(m:Int)+(n:Int)=(k:Int):=by omega
 have H:=κ h;have CA1:=κ (fun W (f:Fr [] w W)=>aliasN_any A l bz oz cz (some ⟨bx,ox,none⟩) bx ox cx xs W (h.rz.fc (Fc.fr0 f 51 (fun _ _=>False))) h.lz (h.x.fr0 f) h.ex);have CA2:=κ (fun W (f:Fr [] w W)=>aliasN_any A l bz oz cz (some ⟨by_,oy,none⟩) by_ oy cy ys W (h.rz.fc (Fc.fr0 f 51 (fun _ _=>False))) h.lz (h.y.fr0 f) h.ey);rw[h.xm]at CA1;rw[h.yn]at CA2;have CM:=κ (fun W (f:Fr [] w W)=>makeR_any A l bz oz cz k W (h.rz.fc (Fc.fr0 f 51 (fun _ _=>False))) h.lz (by omega) (by have:=h.m9;omega));have HXW:=κ hxw;have HYW:=κ hyw;have HK:=κ hk;have m9:=h.m9;have lz:=h.lz;have cz9:=h.cz9;have cx9:=h.cx9;have cy9:=h.cy9;have thr:w.cell? ⟨0,0,none⟩=some (.int .i64 40):=h.thr;have hm0:((m:Int)==0)=false:=by rw[beq_eq_false_iff_ne];omega
 have hn0:((n:Int)==0)=false:=by rw[beq_eq_false_iff_ne];omega
 have hn1:((n:Int)==1)=false:=by rw[beq_eq_false_iff_ne];omega
 have hmnI: ¬(m:Int)<(n:Int):=by omega
 have hnI:(n:Int)<40:=by omega
 have hk9:k<=200000:=by omega
 clear h hxw hyw hk;have T1:True:=trivial;go_enter_defers Tryz.func33,Tryz.ntmps33;refine wp_mono ?_ bodyPostN_D
 go_wp2_with (first
  |(go_at_call 37;clear T1;refine(CA1.out _ (Fr.refl _ _)).mono ?_;rintro e w1 ⟨rfl,f1⟩;have F1:=κ f1;have thr1:=f1.cell_some thr (by simp);clear f1 thr)
  |(go_at_call 37;refine(CA2.out _ F1.out).mono ?_;rintro e w2 ⟨rfl,f2⟩;have F2:=κ (F1.out.t f2);have thr2:=f2.cell_some thr1 (by simp);clear f2 thr1)
  |(go_at_call 42;refine(CM.out _ F2.out).mono ?_;intro e w3 hm;obtain⟨z,o1,c1,Z,rfl,h1,h2,h3,h4,h5,h6,h7⟩:=hm.out2 (fun hc=>(H.out.rz.fc (Fc.fr0 F2.out 51 (fun _ _=>False))).lt hc);have F3:=κ (F2.out.t h5);have hc9:c1<=9223372036854775807:=(by rcases h7 with⟨_,_,_,h7⟩|⟨_,h7,_⟩<;>omega);have H2:=κ h2;have H3:=κ h3;have H4:=κ h4;have H5:=κ h5;have H6:=κ h6;have H7:=κ h7;have thr3:=h5.cell_some thr2 (by simp);clear thr2 hm h2 h3 h4 h5 h6 h7)
  |(go_at_call 51;have hs2:=F2.out.size;refine(basicMulW_any z o1 k c1 bx ox cx by_ oy cy m n Z xs ys _ H3.out H4.out (by rw[HK.out];exact Nat.le_refl _) h1 H.out.xm (HXW.out.fr0 F3.out).src H.out.xd (by have:=made_dj (m:=m) h1 H7.out (HK.out▸H.out.dx) (Nat.lt_of_lt_of_le HXW.out.lt hs2);rwa[HK.out]at this) H.out.yn (HYW.out.fr0 F3.out).src H.out.yd (by have:=made_dj (m:=n) h1 H7.out (HK.out▸H.out.dy) (Nat.lt_of_lt_of_le HYW.out.lt hs2);rwa[HK.out]at this) (by omega) (by omega) (by omega) (by omega) hc9 hcx hcy).mono ?_;rintro e w4 ⟨rfl,us,g1,g2,g3,g4,g5⟩;rw[<-HK.out]at g2 g5;have G1:=κ g1;have G2:=κ g2;have G3:=κ g3;have G4:=κ g4;have G5:=κ g5;clear g1 g2 g3 g4 g5)
  |(go_at_call 34;have CN:=normN_any (some ⟨z,o1,none⟩) z o1 c1 us _ (Nm.of_wr G1.out (H2.out.fc G5.out) (by rw[G2.out];exact h1)) G3.out;rw[G2.out]at CN;refine CN.mono ?_;rintro e w5 ⟨⟨vs,rfl,p1,p2,p3,p4,p5⟩,rfl⟩;have P1:=κ p1;have P2:=κ p2;have P3:=κ p3;have P4:=κ p4;clear p1 p2 p3 p4 p5 CN));show Leaves _ _ _ _ _ _ _;refine⟨.slice (some ⟨z,o1,none⟩) vs.length c1,by simp[results,Tryz.results33,go_sem],?_⟩;have st3:=H.out.st.fr0 F3.out;have hzs:=rcv_stk st3 H2.out (.inl (by omega));rw[<-HK.out];exact mul_fin F2.out F3.out H6.out H7.out H.out.st (H2.out.lt (by omega)) (st3.fc G5.out (fun i hi=>hzs.1 hi.1.symm) (fun p hp i hi=>hzs.2 p hp hi.1.symm)) (StkLe.refl _ _) rfl (G5.out.mono (fun _ _ h _=> .inr h)) P1.out P2.out P3.out (P4.out.trans G4.out) G1.out G2.out G3.out G4.out
end Go.Proofs.YthecibbmbnpegaaGreatDoor
end
section
namespace Go.Proofs.YthecibbmbnpegaaGreatDoor
open Go.Big Go.RowKit
attribute [local go_sem ↓] Go.wp_at_zero Go.wp_at_succ
def IntMP(s:Nat)(q:Option StkSt)(pz:Nat)(same:Bool)(A:Option Addr)(bz oz cz k:Nat)(V:Int)(w:World)(e:Ending)(w':World):Prop:=
 ∃neg' A' b' o' c' zs q',e= .returned (.tuple #[])/\IntB w' pz neg' A' zs.length c'/\Nm w' A' b' o' c' zs/\DG 18446744073709551616 zs/\NZ zs/\sg neg' (val 18446744073709551616 zs)=V/\(same=true->neg'=false)/\((A'=A/\b'=bz/\o'=oz/\c'=cz)\/(cz<k/\c'<=k+4/\w.heap.size<=b'))/\
  StkAt w' s q'/\StkLe w.heap.size q q'/\lenS q'=lenS q/\Fc 51 (fun b i=>b=pz\/StS s q b i\/In1 bz oz k b i) w w'/\((V=0/\Fc 51 (fun b i=>b=pz\/StS s q b i) w w')\/ ∃Z,Wr 51 w' b' o' Z/\Z.length=k/\DG 18446744073709551616 Z/\sg neg' (val 18446744073709551616 Z)=V)
theorem eql_ptrI{a c:Addr}{na nc:Bool}{A C:Option Addr}{la lc ca cc:Nat}(w:World)(hne:a≠c)(hz:IntB w a.block na A la ca)(hx:IntB w c.block nc C lc cc):
 (binOp .eql 38 (.pointer (some a)) (.pointer (some c))).run Tryz.prog w= .ok (.bool false) w:=by
 obtain⟨j,hj,hjs⟩: ∃j,Tryz.prog.info? 45=some j/\j.size=2:=by
  have h:(Tryz.prog.info? 45).map (·.size)=some 2:=by kernel_rfl
  cases e:Tryz.prog.info? 45 with
  |none=>rw[e]at h;cases h
  |some j=>rw[e]at h;exact⟨j,rfl,by simpa using h⟩
 exact run_eql_ptr_other w Tryz.underlying38 hj (by omega) hne hz hx
theorem mul_mid{s:Nat}{q:Option StkSt}{A A0:Option Addr}{bz oz cz k p l0 c0:Nat}{n0:Bool}{V:Int}{w W w2:World}{e:Ending}(hr:MulP s q A bz oz cz k V W e w2)(h:IntB w p n0 A0 l0 c0)(f:Fr [] w W)(hst:StkAt w s q)(hpb:p≠bz):IntB w2 p n0 A0 l0 c0:=by
 obtain⟨A',b',o',c',zs,q',_,_,_,_,_,_,_,_,_,hf,_⟩:=hr;exact(h.fr0 f).fc hf (fun i hh=>hh.elim (h.stk hst i) (fun hh=>hpb hh.1))
theorem mul_fin2{s:Nat}{q:Option StkSt}{A A':Option Addr}{l bz oz cz k pz n c':Nat}{nz:Bool}{V U:Int}{same neg':Bool}{w W w2 w4:World}(h:IntB w pz nz A l cz)(f:Fr [] w W)(hst:StkAt w s q)(hpb:pz≠bz)(hr:MulP s q A bz oz cz k V W (.returned (.slice A' n c')) w2)
 (hV:sg neg' V=U)(hs:same=true->neg'=false)(hw:w4=((w2.setCell ⟨pz,1,none⟩ (.slice A' n c')).setCell ⟨pz,0,none⟩ (.bool neg'))):IntMP s q pz same A bz oz cz k U w (.returned (.tuple #[])) w4:=by
 have h2:=mul_mid hr h f hst hpb;subst hw;obtain⟨A1,b1,o1,c1,zs,q',e,hn,hd,hz,hv,hs1,st2,le2,l2,hf,hfull⟩:=hr;injection e with e;injection e with e1 e2 e3;subst e1 e2 e3;have h3:=h2.set1 A' zs.length c';have g2:=h2.fc_set (a:=⟨pz,1,none⟩) rfl (.slice A' zs.length c');have g3:=h3.fc_set (a:=⟨pz,0,none⟩) rfl (.bool neg');have g23:=g2.t g3;have hn1:=hn.fc g2 (hn.off_int h2);have hn2:=hn1.fc g3 (hn1.off_int h3);have st4:=st2.fc g23 (fun i hh=>h2.stk st2 0 (by subst hh;cases q' with|none=>exact rfl|some p=>exact .inl rfl)) (fun p hp i hh=>h2.stk st2 0 (by subst hp;subst hh;exact .inr (.inl rfl)));refine⟨neg',A',b1,o1,c',zs,q',rfl,h3.set0 neg',hn2,hd,hz,by rw[hv];exact hV,hs,hs1.imp id (fun h=>⟨h.1,h.2.1,Nat.le_trans f.size h.2.2.1⟩),st4,?_,l2,?_,?_⟩
 ·exact le2.le f.size
 ·exact(Fc.fr0 f _ _).t ((hf.mono (fun _ _ h _=> .inr (h.imp id in_rm))).t (g23.mono (fun _ _ h _=> .inl h)))
 ·rcases hfull with⟨h0,hf0⟩|⟨Z,hZ,hZl,hZd,hZv⟩
  ·refine .inl ⟨by rw[<-hV,h0];cases neg'<;>rfl,(Fc.fr0 f _ _).t ((hf0.mono (fun _ _ h _=> .inr h)).t (g23.mono (fun _ _ h _=> .inl h)))⟩
  ·refine .inr ⟨Z,hZ.fc g23 (fun i _ _ hh=> ?_),hZl,hZd,by rw[hZv];exact hV⟩
   obtain⟨_,L,hL,_⟩:=hZ;exact h2.row_ne hL hh
theorem IntMP.fr{s:Nat}{q:Option StkSt}{pz:Nat}{same:Bool}{A:Option Addr}{bz oz cz k:Nat}{V:Int}{w:World}{e:Ending}{w1 w2:World}(h:IntMP s q pz same A bz oz cz k V w e w1)(f:Fr [] w1 w2):IntMP s q pz same A bz oz cz k V w e w2:=by
 obtain⟨neg',A',b',o',c',zs,q',h1,h2,h3,h4,h5,h6,h7,h8,h9,h10,h11,h12,h13⟩:=h;exact⟨neg',A',b',o',c',zs,q',h1,h2.fr0 f,h3.fr0 f,h4,h5,h6,h7,h8,h9.fr0 f,h10,h11,h12.t (Fc.fr0 f _ _),h13.imp (fun h=>⟨h.1,h.2.t (Fc.fr0 f _ _)⟩) (fun⟨Z,a,b⟩=>⟨Z,a.fr0 f,b⟩)⟩
theorem MulPre.fr0{m n s:Nat}{q:Option StkSt}{A:Option Addr}{l bz oz cz:Nat}{Ax:Option Addr}{bx ox cx:Nat}{xs:List Int}{Ay:Option Addr}{by_ oy cy:Nat}{ys:List Int}{w W:World}(P:MulPre m n s q A l bz oz cz Ax bx ox cx xs Ay by_ oy cy ys w)(f:Fr [] w W):MulPre m n s q A l bz oz cz Ax bx ox cx xs Ay by_ oy cy ys W:=
 ⟨P.st.fr0 f,P.leq,P.lne,P.thr.fr0 f,P.rz.fc (Fc.fr0 f 51 (fun _ _=>False)),P.lz,P.cz9,P.x.fr0 f,P.xm,P.xd,P.cx9,P.y.fr0 f,P.yn,P.yd,P.cy9,P.m9,P.n9,P.few,P.dx,P.dy,P.ex,P.ey,P.oz_,P.ox_,P.oy_,P.bs⟩
theorem MulP.zero{s:Nat}{q:Option StkSt}{A A':Option Addr}{bz oz cz k c':Nat}{V:Int}{w w':World}(h:MulP s q A bz oz cz k V w (.returned (.slice A' 0 c')) w'):V=0:=by
 obtain⟨A1,b1,o1,c1,zs,q',e,hn,hd,hz,hv,_⟩:=h;injection e with e;injection e with e1 e2 e3;rw[List.eq_nil_of_length_eq_zero e2.symm,val_nil]at hv;exact hv.symm
theorem sg_zero{b:Bool}{V U:Int}(h:V=0)(e:sg b V=U):sg false V=U:=by
 subst h;rw[<-e];cases b<;>rfl
theorem same_ne(a b:Bool)(h:(a==b)=true):(a !=b)=false:=by revert h;cases a<;>cases b<;>decide
theorem cell_far{w:World}{p r i j:Nat}{v u:Value}(h:w.cell? ⟨r,j,none⟩=some u)(hne: ¬p=r):(w.setCell ⟨p,i,none⟩ v).cell? ⟨r,j,none⟩=some u:=by
 have f:Fr [p] w (w.setCell ⟨p,i,none⟩ v):=by apply Fr.set _ (.inl (by simp));exact Fr.refl _ _
 exact f.cell_some h (by simpa using fun e=>hne e.symm)
theorem sg_mul(a b:Bool)(x y:Int):sg (a !=b) (x*y)=sg a x*sg b y:=by
 cases a<;>cases b<;>simp[sg,Int.neg_mul,Int.mul_neg]
theorem intMul_any(pz:Nat)(nz:Bool)(px:Nat)(sx:Bool)(py:Nat)(sy:Bool){m n s:Nat}{q:Option StkSt}{A:Option Addr}{l bz oz cz:Nat}{Ax:Option Addr}{bx ox cx:Nat}{xs:List Int}{Ay:Option Addr}{by_ oy cy:Nat}{ys:List Int}{w:World}
 (P:MulPre m n s q A l bz oz cz Ax bx ox cx xs Ay by_ oy cy ys w)(M:MulOK m n)(hz:IntB w pz nz A l cz)(hX:IntB w px sx Ax m cx)(hY:IntB w py sy Ay n cy)(hxy:px≠py)(hzx:pz≠px)(hzy:pz≠py)(hpb:pz≠bz)(hxb:px≠bz)(hyb:py≠bz):
 Calls Tryz.prog 84 #[.pointer (some ⟨pz,0,none⟩),.pointer (some ⟨s,0,none⟩),.pointer (some ⟨px,0,none⟩),.pointer (some ⟨py,0,none⟩)] w (IntMP s q pz (sx==sy) A bz oz cz (m+n) (sg sx (val 18446744073709551616 xs)*sg sy (val 18446744073709551616 ys)) w):=by
 have hq:=eql_ptrI (a:=⟨px,0,none⟩) (c:=⟨py,0,none⟩) w (by intro e;injection e with e;exact hxy e) hX hY;have PW:MulPre m n s q A l bz oz cz Ax bx ox cx xs Ay by_ oy cy ys w.drew:=P.fr0 (Fr.refl _ _).drew;have CM:=κ (M s q A l bz oz cz Ax bx ox cx xs Ay by_ oy cy ys w.drew PW);have HZ:=κ hz;have HX:=κ hX;have HY:=κ hY;have HST:=κ P.st;have HPB:=κ hpb;have HXB:=κ hxb;have HYB:=κ hyb;have cz1:=hz.cell1;have cx1:=hX.cell1;have cy1:=hY.cell1;have hzx1: ¬pz=px:=hzx;have hzx2: ¬px=pz:=fun e=>hzx e.symm
 have hzy1: ¬pz=py:=hzy;have hzy2: ¬py=pz:=fun e=>hzy e.symm
 obtain⟨k,hk⟩: ∃k,k=m+n:=⟨_,rfl⟩;obtain⟨V,hV⟩: ∃V,V=val 18446744073709551616 xs*val 18446744073709551616 ys:=⟨_,rfl⟩;obtain⟨U,hU⟩: ∃U,U=sg sx (val 18446744073709551616 xs)*sg sy (val 18446744073709551616 ys):=⟨_,rfl⟩;rw[<-hk,<- hV]at CM;rw[<-hk,<- hU];have HUV:=κ (show sg (sx !=sy) V=U by rw[hU,hV];exact sg_mul _ _ _ _);clear P M PW hz hX hY hxy hzx hzy hpb hxb hyb hk hV hU;go_enter Tryz.func84,Tryz.ntmps84;go_wp2_with fail;clear hq;go_region_with (go_at_call 33;refine(CM.out).mono ?_;intro e w2 hm;have HM:=κ hm;obtain⟨A',n0,c',rfl⟩:=hm.val;have HI:=κ (mul_mid hm HZ.out (Fr.refl _ _).drew HST.out HPB.out);have HIX:=κ (mul_mid hm HX.out (Fr.refl _ _).drew HST.out HXB.out);have HIY:=κ (mul_mid hm HY.out (Fr.refl _ _).drew HST.out HYB.out);have z1:=HI.out.cell1;have y1:=HI.out.frozen 1;clear hm)
 all_goals (
  clear cz1 cx1 cy1 z1 y1;go_wp2_with fail;obtain⟨w3,hw3⟩: ∃w3,w3=w2.setCell ⟨pz,1,none⟩ (.slice A' n0 c'):=⟨_,rfl⟩;have z1:w3.cell? ⟨pz,1,none⟩=some (.slice A' n0 c'):=by rw[hw3];exact(HI.out.set1 A' n0 c').cell1
  have z0:w3.cell? ⟨pz,0,none⟩=some (.bool nz):=by rw[hw3];exact(HI.out.set1 A' n0 c').cell0
  have y0:w3.frozen? ⟨pz,0,none⟩=false:=by rw[hw3];exact(HI.out.set1 A' n0 c').frozen 0
  have x0:w3.cell? ⟨px,0,none⟩=some (.bool sx):=by rw[hw3];exact cell_far HIX.out.cell0 hzx1
  have x1:w3.cell? ⟨py,0,none⟩=some (.bool sy):=by rw[hw3];exact cell_far HIY.out.cell0 hzy1
  have HW3:=κ hw3;rw[<-hw3];clear hw3;rcases Nat.eq_zero_or_pos n0 with rfl|hn0)
 all_goals (
  go_region;go_wp2_with fail;first|go_end0|refine bodyPost_ret (results_none rfl _ _ _) rfl ?_
  have HMM:=HM.out;have HUU:=HUV.out
  first
   |exact(mul_fin2 (neg':=false) HZ.out (Fr.refl _ _).drew HST.out HPB.out HMM (sg_zero HMM.zero HUU) (fun _=>rfl) (by rw[HW3.out])).fr (Fr.refl _ _).drew
   |exact(mul_fin2 (neg':=sx !=sy) HZ.out (Fr.refl _ _).drew HST.out HPB.out HMM HUU (same_ne sx sy) (by rw[HW3.out];rfl)).fr (Fr.refl _ _).drew)
end Go.Proofs.YthecibbmbnpegaaGreatDoor
end
section
namespace Go.Big
open Go.RowKit
theorem Wr.upd2{T:TypeId}{S:Nat->Nat->Prop}{w w1:World}{b o i:Nat}{xs zs:List Int}(h:Wr T w b o xs)(h':Wr T w1 b (o+i) zs)(hf:Fc T S w w1)(hS: ∀j,o<=j->j<o+xs.length-> ¬(o+i<=j/\j<o+i+zs.length)-> ¬S b j)(hi:i+zs.length<=xs.length):Wr T w1 b o (spl xs i zs):=by
 obtain⟨h1,L,hL,hl⟩:=h;obtain⟨L',hL',hl'⟩:=hf.row _ _ hL;have e:(spl xs i zs).length=xs.length:=spl_len hi;refine⟨fun j hj=> ?_,L',hL',by omega⟩;rw[e]at hj;by_cases hin:i<=j/\j<i+zs.length
 ·obtain⟨k,rfl⟩: ∃k,j=i+k:=⟨j-i,by omega⟩
  have:=h'.1 k (by omega);rw[Nat.add_assoc]at this;rw[this,spl_get_in (by omega) (by omega)]
 ·rw[spl_getD_out hi hin,hf.cell b (o+j) hL.lt (hS (o+j) (by omega) (by omega) (by omega))]
  exact h1 j hj
end Go.Big
namespace Go.Proofs.YthecibbmbnpegaaGreatDoor
open Go.Big Go.RowKit
attribute [local go_sem ↓] Go.wp_at_zero Go.wp_at_succ
theorem made_ne{A:Option Addr}{z o1 c1 bz oz cz k bx ox cx sz:Nat}(h:(some (⟨z,o1,none⟩:Addr)=A/\z=bz/\o1=oz/\c1=cz)\/(cz<k/\c1<=k+4/\sz<=z))(he:0<cz->0<cx->bz≠bx\/oz+cz≠ox+cx)(hc:0<c1)(hcx:0<cx)(hlt:bx<sz):z≠bx\/o1+c1≠ox+cx:=by
 rcases h with⟨_,rfl,rfl,rfl⟩|⟨_,_,h⟩
 ·exact he hc hcx
 ·exact .inl (by omega)
theorem kar_pre{m n k s:Nat}{q:Option StkSt}{A:Option Addr}{l bz oz cz bx ox cx by_ oy cy z o1 c1:Nat}{xs ys:List Int}{w w2 W:World}(H:MulPre m n s q A l bz oz cz (some ⟨bx,ox,none⟩) bx ox cx xs (some ⟨by_,oy,none⟩) by_ oy cy ys w)(hmn:n<=m)(hn:40<=n)(hk:k=m+n)
 (F2:Fr [] w w2)(F:Fr [] w W)(h1:k<=c1)(hc9:c1<=9223372036854775807)(H2:Rcv W (some ⟨z,o1,none⟩) z o1 c1)(H7:(some (⟨z,o1,none⟩:Addr)=A/\z=bz/\o1=oz/\c1=cz)\/(cz<k/\c1<=k+4/\w2.heap.size<=z)):
 KarPre n s q z o1 c1 bx ox cx (xs.take n) by_ oy cy ys W:=by
 have hs2:=F2.size;have hxm:=H.xm;have hyn:=H.yn;have hbx:=H.x.lt (by omega);have hby:=H.y.lt (by omega);have hcx:=H.x.le;have hcy:=H.y.le;have hmin:min m n=n:=by omega
 have hfew:=H.few;have hl1:=H.leq;have hl2:=H.lne;rw[hmin]at hl2 hfew;have hd1:=made_dj h1 H7 (hk▸H.dx) (Nat.lt_of_lt_of_le hbx hs2);have hd2:=made_dj h1 H7 (hk▸H.dy) (Nat.lt_of_lt_of_le hby hs2);refine⟨H.st.fr0 F,?_,H.thr.fr0 F,H2,by omega,hc9,(H.x.fr0 F).cut (by omega),by rw[List.length_take];omega,H.xd.take n,H.cx9,H.y.fr0 F,H.yn,H.yd,H.cy9,by omega,hfew,hd1.sub1 hmn (by omega),hd2.sub1 (Nat.le_refl _) (by omega),made_ne H7 H.ex (by omega) (by omega) (by omega),made_ne H7 H.ey (by omega) (by omega) (by omega),made_off H7 H.oz_ H.st hs2,H.ox_,H.oy_⟩;by_cases e:m=n
 ·exact hl1 e
 ·have:=hl2 e;omega
theorem KarP.val{s:Nat}{q:Option StkSt}{bz oz k:Nat}{V:Int}{w:World}{e:Ending}{w':World}(h:KarP s q bz oz k V w e w'):e= .returned (.tuple #[]):=by
 obtain⟨_,_,h,_⟩:=h;exact h
theorem mul_eq{n:Nat}(hn40:40<=n)(K:KarOK n):MulOK n n:=by
 intro s q A l bz oz cz Ax bx ox cx xs Ay by_ oy cy ys w h;obtain⟨rfl,hxw,hcx⟩:=h.xw (by omega);obtain⟨rfl,hyw,hcy⟩:=h.swap.xw (by omega);obtain⟨k,hk⟩: ∃k,k=n+n:=⟨_,rfl⟩;have a1:(n:Int)+(n:Int)=(k:Int):=by omega
 have a2:2*(n:Int)=(k:Int):=by omega
 have H:=κ h;have KK:=κ K;have CA1:=κ (fun W (f:Fr [] w W)=>aliasN_any A l bz oz cz (some ⟨bx,ox,none⟩) bx ox cx xs W (h.rz.fc (Fc.fr0 f 51 (fun _ _=>False))) h.lz (h.x.fr0 f) h.ex);have CA2:=κ (fun W (f:Fr [] w W)=>aliasN_any A l bz oz cz (some ⟨by_,oy,none⟩) by_ oy cy ys W (h.rz.fc (Fc.fr0 f 51 (fun _ _=>False))) h.lz (h.y.fr0 f) h.ey);rw[h.xm]at CA1;rw[h.yn]at CA2;have CM:=κ (fun W (f:Fr [] w W)=>makeR_any A l bz oz cz k W (h.rz.fc (Fc.fr0 f 51 (fun _ _=>False))) h.lz (by omega) (by have:=h.m9;omega));have HK:=κ hk;have m9:=h.m9;have lz:=h.lz;have cz9:=h.cz9;have cx9:=h.cx9;have cy9:=h.cy9;have thr:w.cell? ⟨0,0,none⟩=some (.int .i64 40):=h.thr;have hn0:((n:Int)==0)=false:=by rw[beq_eq_false_iff_ne];omega
 have hn1:((n:Int)==1)=false:=by rw[beq_eq_false_iff_ne];omega
 have hnI: ¬(n:Int)<40:=by omega
 have hk9:k<=200000:=by omega
 have hk2:k=2*n:=by omega
 have HK2:=κ hk2;clear h hxw hyw hk K hk2;have T1:True:=trivial;go_enter_defers Tryz.func33,Tryz.ntmps33;refine wp_mono ?_ bodyPostN_D
 go_wp2_with (first
  |(go_at_call 37;clear T1;refine(CA1.out _ (Fr.refl _ _)).mono ?_;rintro e w1 ⟨rfl,f1⟩;have F1:=κ f1;have thr1:=f1.cell_some thr (by simp);clear f1 thr)
  |(go_at_call 37;refine(CA2.out _ F1.out).mono ?_;rintro e w2 ⟨rfl,f2⟩;have F2:=κ (F1.out.t f2);have thr2:=f2.cell_some thr1 (by simp);clear f2 thr1)
  |(go_at_call 42;refine(CM.out _ F2.out).mono ?_;intro e w3 hm;obtain⟨z,o1,c1,Z,rfl,h1,h2,h3,h4,h5,h6,h7⟩:=hm.out2 (fun hc=>(H.out.rz.fc (Fc.fr0 F2.out 51 (fun _ _=>False))).lt hc);have F3:=κ (F2.out.t h5);have hc9:c1<=9223372036854775807:=(by rcases h7 with⟨_,_,_,h7⟩|⟨_,h7,_⟩<;>omega);have H2:=κ h2;have H3:=κ h3;have H4:=κ h4;have H5:=κ h5;have H6:=κ h6;have H7:=κ h7;have thr3:=h5.cell_some thr2 (by simp);clear thr2 hm h2 h3 h4 h5 h6 h7));have CK:=KK.out s q z o1 c1 bx ox cx (xs.take n) by_ oy cy ys w3.drew (kar_pre (m:=n) H.out (Nat.le_refl _) hn40 HK.out F2.out F3.out.drew h1 hc9 (H2.out.fc (Fc.fr0 (Fr.refl _ _).drew 51 (fun _ _=>False))) H7.out);rw[<-HK2.out,List.take_of_length_le (by rw[H.out.xm];exact Nat.le_refl _)]at CK;have CK:=κ CK;have hkc:(k:Int)<=(c1:Int):=by omega
 have hw1:IntKind.i64.wrap (2*(n:Int))=(k:Int):=by rw[IntKind.wrap_i64];omega
 have hw2:IntKind.i64.wrap (k:Int)=(k:Int):=by rw[IntKind.wrap_i64];omega
 have hnc:(n:Int)<=(cx:Int):=by omega
 go_region_with (go_at_call 52;refine(CK.out).mono ?_;intro e w4 hm;have HM:=κ hm;obtain rfl:=hm.val;clear hm);obtain⟨q4,us,_,g1,g2,g3,g4,g5,g6,g7,g8⟩:=HM.out;have G1:=κ g1;have G2:=κ g2;have G3:=κ g3;have G4:=κ g4;have G5:=κ g5;have G6:=κ g6;have G7:=κ g7;have G8:=κ (show Fc 51 (fun b i=>StS s q b i\/In1 z o1 k b i) w3 w4 from g8.of_drew);clear g1 g2 g3 g4 g5 g6 g7 g8 CK HM;go_wp2_with (go_at_call 34;have CN:=normN_any (some ⟨z,o1,none⟩) z o1 c1 us _ (Nm.of_wr G4.out (H2.out.fc G8.out) (by rw[G5.out];exact h1)) G6.out;rw[G5.out]at CN;refine CN.mono ?_;rintro e w5 ⟨⟨vs,rfl,p1,p2,p3,p4,p5⟩,rfl⟩;have P1:=κ p1;have P2:=κ p2;have P3:=κ p3;have P4:=κ p4;clear p1 p2 p3 p4 p5 CN);show Leaves _ _ _ _ _ _ _;refine⟨.slice (some ⟨z,o1,none⟩) vs.length c1,by simp[results,Tryz.results33,go_sem],?_⟩;rw[<-HK.out];exact mul_fin F2.out F3.out H6.out H7.out H.out.st (H2.out.lt (by omega)) G1.out G2.out G3.out G8.out P1.out P2.out P3.out (P4.out.trans G7.out) G4.out G5.out G6.out G7.out
end Go.Proofs.YthecibbmbnpegaaGreatDoor
end
section
namespace Go.Proofs.YthecibbmbnpegaaGreatDoor
open Go.Big Go.RowKit
attribute [local go_sem ↓] Go.wp_at_zero Go.wp_at_succ
def MgS(s:Nat)(q:Option StkSt)(z o1 k bt ot n2:Nat)(b i:Nat):Prop:=StS s q b i\/In1 z o1 k b i\/In1 bt ot n2 b i
structure MgC(m n k n2 s:Nat)(q:Option StkSt)(z o1 c1 bt ot ct bx ox cx by_ oy cy:Nat)(xs ys:List Int)(w:World):Prop where
 n40:40<=n
 few:n<=900
 nm:n<m
 m9:m<=100000
 kk:k=m+n
 nn:n2=2*n
 c1k:k<=c1
 ct2:ct=n2
 cx9:cx<=9223372036854775807
 cy9:cy<=9223372036854775807
 len:lenS q+2000*n<=100000000000
 thr:Glo w 0 40
 st:StkAt w s q
 x:Nm w (some ⟨bx,ox,none⟩) bx ox cx xs
 xm:xs.length=m
 xd:DG 18446744073709551616 xs
 y:Nm w (some ⟨by_,oy,none⟩) by_ oy cy ys
 yn:ys.length=n
 yd:DG 18446744073709551616 ys
 rt:Rcv w (some ⟨bt,ot,none⟩) bt ot ct
 xz:Dj bx ox m z o1 k
 yz:Dj by_ oy n z o1 k
 xt:Dj bx ox m bt ot n2
 yt:Dj by_ oy n bt ot n2
 tz:Dj bt ot n2 z o1 k
 ex:bt≠bx\/ot+ct≠ox+cx
 ey:bt≠by_\/ot+ct≠oy+cy
 ot_:Off (StS s q) bt ot ct
 ox_:Off (StS s q) bx ox cx
 oy_:Off (StS s q) by_ oy cy
 oz_:Off (StS s q) z o1 c1
 bz:z<w.heap.size
 gz:0≠z
structure MgW(m n k n2 s:Nat)(q:Option StkSt)(z o1 bt ot ct:Nat)(xs:List Int)(Y:Int)(w:World)(i lt:Nat)(q':Option StkSt)(zs:List Int)(wr:World):Prop where
 ni:n<=i
 im:i<=m+n
 lt:lt<=ct
 wz:Wr 51 wr z o1 zs
 zk:zs.length=k
 zd:DG 18446744073709551616 zs
 zv:val 18446744073709551616 zs=val 18446744073709551616 (xs.take i)*Y
 st:StkAt wr s q'
 le:StkLe w.heap.size q q'
 ll:lenS q'=lenS q
 fc:Fc 51 (MgS s q z o1 k bt ot n2) w wr
def MgR(m n k n2 s:Nat)(q:Option StkSt)(z o1 bt ot ct:Nat)(xs:List Int)(Y:Int)(w:World)(g:Nat)(tv iv:Value)(wr:World):Prop:=
 ∃(i lt:Nat) (q':Option StkSt) (zs:List Int),g=m-i/\tv= .slice (some ⟨bt,ot,none⟩) lt ct/\iv= .int .i64 (i:Int)/\MgW m n k n2 s q z o1 bt ot ct xs Y w i lt q' zs wr
section
variable {m n k n2 s:Nat}{q:Option StkSt}{z o1 c1 bt ot ct bx ox cx by_ oy cy:Nat}{xs ys:List Int}{w:World}{i lt:Nat}{q':Option StkSt}{zs:List Int}{wr:World}
theorem Off.take{S:Nat->Nat->Prop}{b o n m:Nat}(h:Off S b o n)(hm:m<=n):Off S b o m:=fun i h1 h2=>h i h1 (by omega)
theorem MgC.sub{Y:Int}(C:MgC m n k n2 s q z o1 c1 bt ot ct bx ox cx by_ oy cy xs ys w)(W:MgW m n k n2 s q z o1 bt ot ct xs Y w i lt q' zs wr){b o c:Nat}(h:Off (StS s q) b o c)(hb:b<w.heap.size):Off (StS s q') b o c:=fun j h1 h2 hh=>h j h1 h2 (W.le.sub (Nat.le_of_eq W.ll.symm) b j hh hb)
theorem mg_pre{Y:Int}(C:MgC m n k n2 s q z o1 c1 bt ot ct bx ox cx by_ oy cy xs ys w)(W:MgW m n k n2 s q z o1 bt ot ct xs Y w i lt q' zs wr){a:Nat}(ha0:0<a)(han:a<=n)(hai:i+a<=m):
 MulPre a n s q' (some ⟨bt,ot,none⟩) lt bt ot ct (some ⟨bx,ox+i,none⟩) bx (ox+i) (cx-i) ((xs.drop i).take a) (some ⟨by_,oy,none⟩) by_ oy cy ys wr:=by
 have hxm:=C.xm;have hyn:=C.yn;have hn40:=C.n40;have hfew:=C.few;have hnn:=C.nn;have hct:=C.ct2;have hkk:=C.kk;have hni:=W.ni;have hll:=W.ll;have hlen:=C.len;have hm9:=C.m9;have hxc:=C.x.le;have hyc:=C.y.le;have hbx:=C.x.lt (by omega);have hby:=C.y.lt (by omega);have hbt:=C.rt.lt (by omega);have hcx9:=C.cx9;have hpl:((xs.drop i).take a).length=a:=by rw[List.length_take,List.length_drop];omega
 have hmin:min a n=a:=by omega
 have oxs:Off (MgS s q z o1 k bt ot n2) bx ox m:=fun j h1 h2 hh=>by
  rcases hh with hh|hh|hh
  ·exact C.ox_ j h1 (by omega) hh
  ·exact C.xz.off j h1 h2 hh
  ·exact C.xt.off j h1 h2 hh
 have oys:Off (MgS s q z o1 k bt ot n2) by_ oy n:=fun j h1 h2 hh=>by
  rcases hh with hh|hh|hh
  ·exact C.oy_ j h1 (by omega) hh
  ·exact C.yz.off j h1 h2 hh
  ·exact C.yt.off j h1 h2 hh
 have gts: ¬MgS s q z o1 k bt ot n2 0 0:=fun hh=>by
  rcases hh with hh|hh|hh
  ·exact glo_stk C.thr C.st 0 hh
  ·exact C.gz hh.1
  ·exact glo_rcv C.thr C.rt (by omega) hh.1
 have hxn:Nm wr (some ⟨bx,ox+i,none⟩) bx (ox+i) (cx-i) ((xs.drop i).take a):=by
  have hx1:=C.x.fc W.fc (by rw[hxm];exact oxs);refine⟨by rw[hpl];omega,hx1.rcv.drop (by omega),fun _=> ?_⟩;exact((hx1.2.2 (by omega)).drop i).take a
 have rt':=C.rt.fc W.fc;refine⟨W.st,fun e=>by omega,fun e=>by rw[hmin];omega,C.thr.fc W.fc gts,rt',W.lt,by omega,hxn,hpl,(C.xd.drop i).take a,by omega,C.y.fc W.fc (by rw[hyn];exact oys),C.yn,C.yd,C.cy9,by omega,by omega,by omega,dj_rm _ ?_,dj_rm _ (C.yt.sub1 (Nat.le_refl _) (by omega)),fun _ _=> ?_,fun _ _=>C.ey,C.sub W C.ot_ hbt,?_,C.sub W C.oy_ hby,rcv_stk W.st rt' (.inl (by omega))⟩
 ·have:=C.xt;unfold Dj at *;omega
 ·have:=C.ex;omega
 ·exact(C.sub W C.ox_ hbx).sub (by omega)
def MgQ(m n k n2 s:Nat)(q:Option StkSt)(z o1 bt ot ct:Nat)(xs:List Int)(Y:Int)(w:World)(i a:Nat)(zs:List Int)(tl:Nat)(w1:World):Prop:=
 ∃q1 ts,tl=ts.length/\Nm w1 (some ⟨bt,ot,none⟩) bt ot ct ts/\DG 18446744073709551616 ts/\ts.length<=a+n/\val 18446744073709551616 ts=val 18446744073709551616 ((xs.drop i).take a)*Y/\StkAt w1 s q1/\StkLe w.heap.size q q1/\lenS q1=lenS q/\Fc 51 (MgS s q z o1 k bt ot n2) w w1/\Wr 51 w1 z o1 zs
theorem mg_mid{Y:Int}(C:MgC m n k n2 s q z o1 c1 bt ot ct bx ox cx by_ oy cy xs ys w)(W:MgW m n k n2 s q z o1 bt ot ct xs Y w i lt q' zs wr){a:Nat}(ha0:0<a)(han:a<=n)(hai:i+a<=m)(hY:Y=val 18446744073709551616 ys){e:Ending}{w1:World}
 (h:MulP s q' (some ⟨bt,ot,none⟩) bt ot ct (a+n) (val 18446744073709551616 ((xs.drop i).take a)*val 18446744073709551616 ys) wr e w1): ∃tl,e= .returned (.slice (some ⟨bt,ot,none⟩) tl ct)/\Hid (MgQ m n k n2 s q z o1 bt ot ct xs Y w i a zs tl w1):=by
 subst hY;obtain⟨A',b',o',c',ts,q1,rfl,h2,h3,h4,h5,h6,h7,h8,h9,h10,_⟩:=h;have h11:=h10.mono (S':=fun b i=>StS s q' b i\/In1 bt ot (a+n) b i) (fun _ _ h _=>h.imp id in_rm);clear h10;have hct:=C.ct2;have hnn:=C.nn;have hxm:=C.xm;rcases h6 with⟨rfl,rfl,rfl,rfl⟩|⟨h6,_⟩
 ·have hpl:((xs.drop i).take a).length=a:=by rw[List.length_take,List.length_drop];omega
  have hle:ts.length<=a+n:=by
   refine len_le (by omega) h3 h4 ?_;rw[h5,Int.pow_add];have b1:=val_lt (by omega) ((C.xd.drop i).take a);have b2:=val_lt (by omega) C.yd;have b3:=val_nonneg (by omega) ((C.xd.drop i).take a);have b4:=val_nonneg (by omega) C.yd;rw[hpl]at b1;rw[C.yn]at b2;have h1:val 18446744073709551616 ((xs.drop i).take a)*val 18446744073709551616 ys<=val 18446744073709551616 ((xs.drop i).take a)*18446744073709551616^n:=Int.mul_le_mul_of_nonneg_left (by omega) b3;have hpp:=pow_pos_ (B:=18446744073709551616) (by omega) n;have h2:val 18446744073709551616 ((xs.drop i).take a)*18446744073709551616^n<18446744073709551616^a*18446744073709551616^n:=Int.mul_lt_mul_of_pos_right b1 hpp;omega
  have hsz:=W.fc.size
  have hall:Fc 51 (MgS s q z o1 k b' o' n2) w w1:=W.fc.trans h11 (fun b j hh hlt=>by
   rcases hh with hh|hh
   ·exact .inl (W.le.sub (Nat.le_of_eq W.ll.symm) b j hh hlt)
   ·exact .inr (.inr ⟨hh.1,hh.2.1,by have:=hh.2.2;omega⟩));refine⟨ts.length,rfl,κ ⟨q1,ts,rfl,h2,h3,hle,h5,h7,W.le.trans h8 hsz,h9.trans W.ll,hall,W.wz.fc h11 (fun j h1 h2 hh=> ?_)⟩⟩;rw[W.zk]at h2;have hck:=C.c1k;rcases hh with hh|hh
  ·exact C.oz_ j h1 (by omega) (W.le.sub (Nat.le_of_eq W.ll.symm) z j hh C.bz)
  ·exact C.tz.symm.off j h1 h2 ⟨hh.1,hh.2.1,by have:=hh.2.2;omega⟩
 ·omega
theorem mg_add{Y:Int}(C:MgC m n k n2 s q z o1 c1 bt ot ct bx ox cx by_ oy cy xs ys w)(W:MgW m n k n2 s q z o1 bt ot ct xs Y w i lt q' zs wr){a:Nat}(ha0:0<a)(han:a<=n)(hai:i+a<=m)(hi2:i+a=i+n\/i+a=m)(hY:Y=val 18446744073709551616 ys)(hc9:c1<=9223372036854775807){tl:Nat}{w1:World}(Q:MgQ m n k n2 s q z o1 bt ot ct xs Y w i a zs tl w1):
 Calls Tryz.prog 56 #[.slice (some ⟨z,o1+i,none⟩) (k-i:Nat) (c1-i:Nat),.slice (some ⟨bt,ot,none⟩) tl ct] w1 fun e w2=>e= .returned (.tuple #[])/\MgR m n k n2 s q z o1 bt ot ct xs Y w (m-(i+n)) (.slice (some ⟨bt,ot,none⟩) tl ct) (.int .i64 ((i+n:Nat):Int)) w2:=by
 obtain⟨q1,ts,rfl,h1,h2,h3,h4,h5,h6,h7,h8,h9⟩:=Q;have hkk:=C.kk;have hck:=C.c1k;have hzk:=W.zk;have hct:=C.ct2;have hnn:=C.nn;have hm9:=C.m9;have hni:=W.ni;have hfew:=C.few;have hxm:=C.xm;refine(addTo_any z (o1+i) (c1-i) (k-i) (some ⟨bt,ot,none⟩) bt ot ct ts.length (zs.drop i) ts w1 (h9.drop i (by omega)) (by rw[List.length_drop,hzk]) (W.zd.drop i) h1 h2 rfl (by omega) (by omega) (by omega) (by unfold maxLen;omega) (fun _=>by have:=C.tz;unfold Dj at *;omega)).mono ?_;rintro e w2 ⟨us,c,rfl,g1,g2,g3,g4,g5,g6,g7⟩;have hU:=h9.upd g1 (by rw[g2];exact g4) (by rw[g2];omega)
 have hvz:val 18446744073709551616 (spl zs i us)+18446744073709551616^k*c=val 18446744073709551616 (xs.take (i+a))*Y:=by
  have e1:=val_split 18446744073709551616 zs i (by omega);have e2:=val_split 18446744073709551616 (xs.take (i+a)) i (by rw[List.length_take];omega);have e3:(xs.take (i+a)).take i=xs.take i:=by rw[List.take_take];congr 1;omega
  have e4:(xs.take (i+a)).drop i=(xs.drop i).take a:=by rw[List.drop_take];congr 1;omega
  have e5:(18446744073709551616:Int)^k=18446744073709551616^i*18446744073709551616^(k-i):=by rw[<-Int.pow_add];congr 1;omega
  have hzv:=W.zv;rw[e3,e4]at e2;rw[val_spl (by rw[g2];omega),g2,List.take_of_length_le (by rw[List.length_drop];omega),e2,e5];rw[h4]at g7;generalize(18446744073709551616:Int)^i=P at*;generalize(18446744073709551616:Int)^(k-i)=R at*;generalize val 18446744073709551616 us=U at*;generalize val 18446744073709551616 (zs.drop i)=D at*;generalize val 18446744073709551616 ((xs.drop i).take a)=X at*;have e6:U=D+X*Y-R*c:=by omega
  subst e6;rw[hzv]at e1;rw[hzv];grind
 have hc:c=0:=by
  rcases(by omega:c=0\/c=1)with h|h
  ·exact h
  ·exfalso
   subst h;have b1:=val_lt (by omega) (C.xd.take (i+a));have b2:=val_lt (by omega) C.yd;have b3:=val_nonneg (by omega) (C.xd.take (i+a));have b4:=val_nonneg (by omega) C.yd;have b5:=val_nonneg (B:=18446744073709551616) (by omega) (spl_dg (o:=i) W.zd g3);rw[List.length_take,Nat.min_eq_left (by omega)]at b1;rw[C.yn]at b2;have e5:(18446744073709551616:Int)^k=18446744073709551616^m*18446744073709551616^n:=by rw[<-Int.pow_add,hkk]
   have hle:(18446744073709551616:Int)^(i+a)<=18446744073709551616^m:=pow_le_pow_ (by omega) hai;have hpp:=pow_pos_ (B:=18446744073709551616) (by omega) n;have h1:val 18446744073709551616 (xs.take (i+a))*val 18446744073709551616 ys<=val 18446744073709551616 (xs.take (i+a))*18446744073709551616^n:=Int.mul_le_mul_of_nonneg_left (by omega) b3;have h2:val 18446744073709551616 (xs.take (i+a))*18446744073709551616^n<18446744073709551616^m*18446744073709551616^n:=Int.mul_lt_mul_of_pos_right (by omega) hpp;rw[<-hY]at h1;rw[hvz.symm]at h1;omega
 subst hc;rw[Int.mul_zero,Int.add_zero]at hvz
 have htk:xs.take (i+a)=xs.take (i+n):=by
  rcases hi2 with h|h
  ·rw[h]
  ·rw[List.take_of_length_le (by omega),List.take_of_length_le (by omega)]
 rw[htk]at hvz;have hz2:=rcv_stk h5 (Rcv.fc (A:=some ⟨z,o1,none⟩) (b:=z) (o:=o1) (c:=k) ⟨by unfold maxLen;omega,.inr ⟨rfl,zs,h9,hzk⟩⟩ (Fc.refl _ (fun _ _=>False) _)) (.inl (by omega));refine⟨rfl,i+n,ts.length,q1,spl zs i us,rfl,rfl,rfl,by omega,by omega,h1.le,hU,by rw[spl_len (by rw[g2];omega)];exact hzk,spl_dg W.zd g3,hvz,h5.fc g4 (fun j hj=>hz2.1 hj.1.symm) (fun p hp j hj=>hz2.2 p hp hj.1.symm),h6,h7,h8.t (g4.mono (fun b j hh _=> .inr (.inl ⟨hh.1,by have:=hh.2.1;omega,by have:=hh.2.2;omega⟩)))⟩
end
end Go.Proofs.YthecibbmbnpegaaGreatDoor
end
section
namespace Go.Proofs.YthecibbmbnpegaaGreatDoor
open Go.Big Go.RowKit
attribute [local go_sem ↓] Go.wp_at_zero Go.wp_at_succ
section
variable {w w1 w':World}{s n b o c:Nat}{q q':Option StkSt}
theorem nat_dj(hnw:b<w.heap.size-> ∀i,o<=i->i<o+c->StS s q b i){bx ox nx:Nat}(hlt:bx<w.heap.size)(hof:Off (StS s q) bx ox nx):Dj bx ox nx b o c:=by
 unfold Dj;by_cases e:bx=b
 ·subst e
  by_cases h1:ox+nx<=o
  ·omega
  ·by_cases h2:o+c<=ox
   ·omega
   ·by_cases h3:nx=0\/c=0
    ·omega
    ·exact absurd (hnw hlt (max ox o) (by omega) (by omega)) (hof (max ox o) (by omega) (by omega))
 ·exact .inl e
theorem nat_ne(hnw:b<w.heap.size-> ∀i,o<=i->i<o+c->StS s q b i){bx ox nx:Nat}(hlt:bx<w.heap.size)(hof:Off (StS s q) bx ox nx)(hc:0<c)(hn:0<nx):b≠bx\/o+c≠ox+nx:=by
 by_cases e:b=bx
 ·subst e
  refine .inr (fun e2=> ?_);exact hof (o+c-1) (by omega) (by omega) (hnw hlt _ (by omega) (by omega))
 ·exact .inl e
theorem off_le{N:Nat}(h:StkLe N q q')(hl:lenS q<=lenS q'){bx ox nx:Nat}(hof:Off (StS s q) bx ox nx)(hlt:bx<N):Off (StS s q') bx ox nx:=fun i h1 h2 hh=>hof i h1 h2 (h.sub hl bx i hh hlt)
end
def MzS(s:Nat)(q:Option StkSt)(z o1 k b i:Nat):Prop:=StS s q b i\/In1 z o1 k b i
theorem mg_ctx{m n k n2 s:Nat}{q q4 q5:Option StkSt}{A:Option Addr}{l bz oz cz bx ox cx by_ oy cy z o1 c1 bt ot ct:Nat}{xs ys Z5:List Int}{w w2 w3 w5 w6:World}
 (H:MulPre m n s q A l bz oz cz (some ⟨bx,ox,none⟩) bx ox cx xs (some ⟨by_,oy,none⟩) by_ oy cy ys w)(hn40:40<=n)(hnm:n<m)(hk:k=m+n)(hn2:n2=2*n)(F2:Fr [] w w2)(F3:Fr [] w w3)(F23:w2.heap.size<=w3.heap.size)(h1:k<=c1)
 (H2:Rcv w3 (some ⟨z,o1,none⟩) z o1 c1)(H7:(some (⟨z,o1,none⟩:Addr)=A/\z=bz/\o1=oz/\c1=cz)\/(cz<k/\c1<=k+4/\w2.heap.size<=z))
 (L4:StkLe w3.heap.size q q4)(l4:lenS q4=lenS q)(F35:Fc 51 (MzS s q z o1 k) w3 w5)(ct2:ct=n2)(hT: ∃L,Row .u64 51 w6 bt L/\ot+ct<=L.length)(st6:StkAt w6 s q5)(L5:StkLe w5.heap.size q4 q5)(l5:lenS q4<=lenS q5)(l5':lenS q5<=lenS q4+n2+3)(F56:Fc 51 (StS s q4) w5 w6)
 (hnw:bt<w5.heap.size-> ∀i,ot<=i->i<ot+ct->StS s q4 bt i)(hoff: ∀i,ot<=i->i<ot+ct-> ¬StS s q5 bt i)(st5:StkAt w5 s q4)(Hz5:Wr 51 w5 z o1 Z5):
 MgC m n k n2 s q5 z o1 c1 bt ot ct bx ox cx by_ oy cy xs ys w6/\Fc 51 (MzS s q z o1 k) w3 w6/\Off (StS s q4) z o1 c1:=by
 have hs2:=F2.size;have hs3:=F3.size;have hs5:=F35.size;have hs6:=F56.size;have hxm:=H.xm;have hyn:=H.yn;have hxc:=H.x.le;have hyc:=H.y.le;have hbx:=H.x.lt (by omega);have hby:=H.y.lt (by omega);have hmin:min m n=n:=by omega
 have hfew:=H.few;have hl2:=H.lne;have hm9:=H.m9;rw[hmin]at hl2 hfew;have xz:=made_dj h1 H7 (hk▸H.dx) (Nat.lt_of_lt_of_le hbx hs2);have yz:=made_dj h1 H7 (hk▸H.dy) (Nat.lt_of_lt_of_le hby hs2);have oz3:=made_off H7 H.oz_ H.st hs2;have hz3:z<w3.heap.size:=H2.lt (by omega);have oz4:Off (StS s q4) z o1 c1:=off_le L4 (Nat.le_of_eq l4.symm) oz3 hz3;have ox4:Off (StS s q4) bx ox cx:=off_le L4 (Nat.le_of_eq l4.symm) H.ox_ (by omega);have oy4:Off (StS s q4) by_ oy cy:=off_le L4 (Nat.le_of_eq l4.symm) H.oy_ (by omega);have F36:Fc 51 (MzS s q z o1 k) w3 w6:=F35.trans F56 (fun b i hh hlt=> .inl (L4.sub (Nat.le_of_eq l4.symm) b i hh hlt));have gz:0≠z:=glo_rcv (H.thr.fr0 F3) H2 (by omega);have thr6:Glo w6 0 40:=(H.thr.fr0 F3).fc F36 (fun hh=>hh.elim (glo_stk (H.thr.fr0 F3) (H.st.fr0 F3) 0) (fun hh=>gz hh.1));have hx6:=(H.x.fr0 F3).fc F36 (fun i a1 a2 hh=>hh.elim (H.ox_ i a1 (by omega)) (by rw[hxm]at a2;exact xz.off i a1 a2));have hy6:=(H.y.fr0 F3).fc F36 (fun i a1 a2 hh=>hh.elim (H.oy_ i a1 (by omega)) (by rw[hyn]at a2;exact yz.off i a1 a2));obtain⟨L,hL,hLl⟩:=hT;have xt:=nat_dj hnw (by omega) (Off.take ox4 (m:=m) (by omega));have yt:=nat_dj hnw (by omega) (Off.take oy4 (m:=n) (by omega));have zt:=nat_dj hnw (by omega) (Off.take oz4 (m:=k) h1);rw[ct2]at xt yt zt;refine⟨⟨hn40,hfew,hnm,H.m9,hk,hn2,h1,ct2,H.cx9,H.cy9,by have:=hl2 (by omega);omega,thr6,st6,hx6,hxm,H.xd,hy6,hyn,H.yd,Rcv.of_row hL hLl (by unfold maxLen;omega),xz,yz,xt,yt,zt.symm,nat_ne hnw (by omega) ox4 (by omega) (by omega),nat_ne hnw (by omega) oy4 (by omega) (by omega),hoff,off_le L5 l5 ox4 (by omega),off_le L5 l5 oy4 (by omega),off_le L5 l5 oz4 (by omega),by omega,gz⟩,F36,oz4⟩
theorem mul_gt{m n:Nat}(hn40:40<=n)(hnm:n<m)(K:KarOK n)(R: ∀a,0<a->a<=n->MulOK a n):MulOK m n:=by
 intro s q A l bz oz cz Ax bx ox cx xs Ay by_ oy cy ys w h;obtain⟨rfl,hxw,hcx⟩:=h.xw (by omega);obtain⟨rfl,hyw,hcy⟩:=h.swap.xw (by omega);obtain⟨k,hk⟩: ∃k,k=m+n:=⟨_,rfl⟩;obtain⟨n2,hn2⟩: ∃n2,n2=2*n:=⟨_,rfl⟩;have a1:(m:Int)+(n:Int)=(k:Int):=by omega
 have a2:2*(n:Int)=(n2:Int):=by omega
 have H:=κ h;have KK:=κ K;have RR:=κ R;have CA1:=κ (fun W (f:Fr [] w W)=>aliasN_any A l bz oz cz (some ⟨bx,ox,none⟩) bx ox cx xs W (h.rz.fc (Fc.fr0 f 51 (fun _ _=>False))) h.lz (h.x.fr0 f) h.ex);have CA2:=κ (fun W (f:Fr [] w W)=>aliasN_any A l bz oz cz (some ⟨by_,oy,none⟩) by_ oy cy ys W (h.rz.fc (Fc.fr0 f 51 (fun _ _=>False))) h.lz (h.y.fr0 f) h.ey);rw[h.xm]at CA1;rw[h.yn]at CA2;have CM:=κ (fun W (f:Fr [] w W)=>makeR_any A l bz oz cz k W (h.rz.fc (Fc.fr0 f 51 (fun _ _=>False))) h.lz (by omega) (by have:=h.m9;have:=h.n9;omega));have HK:=κ hk;have HN2:=κ hn2;have m9:=h.m9;have n9:=h.n9;have lz:=h.lz;have cz9:=h.cz9;have cx9:=h.cx9;have cy9:=h.cy9;have thr:w.cell? ⟨0,0,none⟩=some (.int .i64 40):=h.thr;have hm0:((m:Int)==0)=false:=by rw[beq_eq_false_iff_ne];omega
 have hn0:((n:Int)==0)=false:=by rw[beq_eq_false_iff_ne];omega
 have hn1:((n:Int)==1)=false:=by rw[beq_eq_false_iff_ne];omega
 have hnI: ¬(n:Int)<40:=by omega
 have hmnI: ¬(m:Int)<(n:Int):=by omega
 have hnmI:(n:Int)<(m:Int):=by omega
 have hk9:k<=200000:=by omega
 have hn2k:n2<k:=by omega
 clear h hxw hyw hk hn2 K R;have T1:True:=trivial;go_enter_defers Tryz.func33,Tryz.ntmps33;refine wp_mono ?_ bodyPostN_D
 go_wp2_with (first
  |(go_at_call 37;clear T1;refine(CA1.out _ (Fr.refl _ _)).mono ?_;rintro e w1 ⟨rfl,f1⟩;have F1:=κ f1;have thr1:=f1.cell_some thr (by simp);clear f1 thr)
  |(go_at_call 37;refine(CA2.out _ F1.out).mono ?_;rintro e w2 ⟨rfl,f2⟩;have F2:=κ (F1.out.t f2);have thr2:=f2.cell_some thr1 (by simp);clear f2 thr1)
  |(go_at_call 42;refine(CM.out _ F2.out).mono ?_;intro e w3 hm;obtain⟨z,o1,c1,Z,rfl,h1,h2,h3,h4,h5,h6,h7⟩:=hm.out2 (fun hc=>(H.out.rz.fc (Fc.fr0 F2.out 51 (fun _ _=>False))).lt hc);have F3:=κ (F2.out.t h5);have hc9:c1<=9223372036854775807:=(by rcases h7 with⟨_,_,_,h7⟩|⟨_,h7,_⟩<;>omega);have H2:=κ h2;have H3:=κ h3;have H4:=κ h4;have H5:=κ h5;have H6:=κ h6;have H7:=κ h7;have thr3:=h5.cell_some thr2 (by simp);clear thr2 hm h2 h3 h4 h5 h6 h7));have CK:=KK.out s q z o1 c1 bx ox cx (xs.take n) by_ oy cy ys w3.drew (kar_pre (m:=m) H.out (by omega) hn40 HK.out F2.out F3.out.drew h1 hc9 (H2.out.fc (Fc.fr0 (Fr.refl _ _).drew 51 (fun _ _=>False))) H7.out);rw[<-HN2.out]at CK;have CK:=κ CK;have hkc:(k:Int)<=(c1:Int):=by omega
 have hn2c:(n2:Int)<=(c1:Int):=by omega
 have hn2kI:(n2:Int)<=(k:Int):=by omega
 have hw1:IntKind.i64.wrap (2*(n:Int))=(n2:Int):=by rw[IntKind.wrap_i64];omega
 have hw2:IntKind.i64.wrap (n2:Int)=(n2:Int):=by rw[IntKind.wrap_i64];omega
 have hnc:(n:Int)<=(cx:Int):=by omega
 go_region_with (go_at_call 52;refine(CK.out).mono ?_;intro e w4 hm;have HM:=κ hm;obtain rfl:=hm.val;clear hm);obtain⟨q4,us,_,g1,g2,g3,g4,g5,g6,g7,g8⟩:=HM.out;have G1:=κ g1;have G2:=κ g2;have G3:=κ g3;have G5:=κ g5;have G6:=κ g6;have G7:=κ g7;have G8:=κ (show Fc 51 (fun b i=>StS s q b i\/In1 z o1 n2 b i) w3 w4 from g8.of_drew);have oz3:=κ (made_off H7.out H.out.oz_ H.out.st F2.out.size)
 have G4:=κ (H3.out.upd2 (i:=0) (zs:=us) g4 G8.out (fun j a1 a2 a3 hh=>by
  rw[H4.out]at a2;rw[g5]at a3;exact hh.elim (oz3.out j a1 (by omega)) (fun hh=>a3 ⟨by omega,by have:=hh.2.2;omega⟩)) (by rw[g5,H4.out];omega));have U4:=κ (show(spl Z 0 us).length=k by rw[spl_len (by rw[G5.out,H4.out];omega),H4.out]);obtain⟨L4,hL4,hL4l⟩:=G4.out.2;have HL4:=κ hL4;have HL4l:=κ (show o1+k<=L4.length by rw[<-U4.out];exact hL4l);clear g1 g2 g3 g4 g5 g6 g7 g8 CK HM hL4 hL4l hw1;have hc1n: ¬c1=n2:=by omega
 go_wp2_with (refine wp_clear rfl (.tmp 86) _ rfl .u64 51 8 ty_big (some ⟨z,o1+n2,none⟩) z (o1+n2) (k-n2) (c1-n2) rfl (fun _=>rfl) L4 HL4.out (by have:=HL4l.out;omega) ?_;intro w5 row5 f5;have HR5:=κ row5;have HF5:=κ f5;clear row5 f5);have R5:=κ (show Wr 51 w5 z (o1+n2) (List.replicate (k-n2) 0)from Wr.of_spl HR5.out (by rw[List.length_replicate];have:=HL4l.out;omega));have F45:=κ (show Fc 51 (In1 z (o1+n2) (k-n2)) w4 w5 from fc_row (L':=L4) HL4.out HR5.out HF5.out (by rw[List.length_replicate];have:=HL4l.out;omega) (fun i a1 a2=>⟨rfl,a1,by rw[List.length_replicate]at a2;exact a2⟩));obtain⟨Z5,hZ5⟩: ∃Z5,Z5=us++List.replicate (k-n2) (0:Int):=⟨_,rfl⟩;have ZL5:=κ (show Z5.length=k by rw[hZ5,List.length_append,G5.out,List.length_replicate];omega);have ZD5:=κ (show DG 18446744073709551616 Z5 by rw[hZ5];exact G6.out.append (DG.rep (by omega) _));have ZV5:=κ (show val 18446744073709551616 Z5=val 18446744073709551616 (xs.take n)*val 18446744073709551616 ys by rw[hZ5,val_append,val_rep,Int.mul_zero,Int.add_zero];exact G7.out)
 have WZ5:=κ (show Wr 51 w5 z o1 Z5 by
  have hu:=G4.out.upd (i:=n2) (zs:=List.replicate (k-n2) 0) R5.out (by rw[List.length_replicate];exact F45.out) (by rw[List.length_replicate,U4.out];omega);have e:=spl_app (L:=Z) (o:=0) (cs:=us) (ds:=List.replicate (k-n2) 0) (by rw[G5.out,H4.out];omega);rw[Nat.zero_add,G5.out]at e;rw[e,spl_whole (by rw[List.length_append,G5.out,List.length_replicate,H4.out];omega),<- hZ5]at hu;exact hu);have F35:=κ (show Fc 51 (MzS s q z o1 k) w3 w5 from(G8.out.mono (S':=MzS s q z o1 k) (fun b i hh _=>hh.imp id (fun hh=>⟨hh.1,hh.2.1,by have:=hh.2.2;omega⟩))).trans F45.out (fun b i hh _=> .inr ⟨hh.1,by have:=hh.2.1;omega,by have:=hh.2.2;omega⟩));have hz5:=κ (rcv_stk G1.out (H2.out.fc G8.out) (.inl (by omega)));have ST5:=κ (G1.out.fc F45.out (fun i hi=>hz5.out.1 hi.1.symm) (fun p hp i hi=>hz5.out.2 p hp hi.1.symm));have hl4:=G3.out
 have hq9:lenS q4<=100000000000:=by
  rw[hl4];have:=H.out.lne (by omega);omega
 clear hZ5 hl4
 go_wp2_with (first
  |(go_at_call 54;refine(save_any s q4 _ ST5.out).mono ?_;rintro e w6 ⟨rfl,rfl⟩)
  |(go_at_call 55;refine(nat_anyE s n2 q4 _ ST5.out (by omega) (by omega) hq9).mono ?_;rintro e w6 ⟨bt,ot,ct,q5,rfl,p1,p2,p3,p4,p5,p6,p7,p8,p9,p10,p11⟩;obtain rfl:n2=ct:=(p11 (by omega)).symm;have P3:=κ p3;have P4:=κ p4;have P5:=κ p5;have P6:=κ p6;have P7:=κ p7;have P8:=κ p8;have P9:=κ p9;have P10:=κ p10;clear p1 p2 p3 p4 p5 p6 p7 p8 p9 p10 p11));have CTX:=mg_ctx H.out hn40 hnm HK.out HN2.out F2.out F3.out H5.out.size h1 H2.out H7.out G2.out G3.out F35.out rfl P3.out P4.out P5.out P6.out P7.out P8.out P9.out P10.out ST5.out WZ5.out;obtain⟨c1_,c2_,c3_⟩:=CTX;have C:=κ c1_;have F36:=κ c2_;have oz4:=κ c3_;have WZ6:=κ (WZ5.out.fc P8.out (by rw[ZL5.out];exact Off.take oz4.out h1));clear c1_ c2_ c3_ HL4 HL4l G4 U4 HR5 HF5 R5 F45 hz5 CM CA1 CA2;go_loopg [11,12] (m-n) (MgR m n k n2 s q5 z o1 bt ot n2 xs (val 18446744073709551616 ys) w6);case atStart=>exact⟨n,n2,q5,Z5,rfl,rfl,rfl,⟨Nat.le_refl _,by omega,Nat.le_refl _,WZ6.out,ZL5.out,ZD5.out,ZV5.out,P4.out,StkLe.refl _ _,rfl,Fc.refl _ _ _⟩⟩
 case round=>
  obtain⟨i,lt,q',zs,rfl,rfl,rfl,hW⟩:=hrel;have hni:=hW.ni;have him:=hW.im;have hlt:=hW.lt;have HW:=κ hW;clear hW;by_cases hi:i<m
  ·obtain⟨i2,hi2⟩: ∃i2,i2=i+n:=⟨_,rfl⟩
   have a3:(i:Int)+(n:Int)=(i2:Int):=by omega
   have hiI:(i:Int)<(m:Int):=by omega
   have hcxi: ¬cx=i:=by omega
   have hc1i: ¬c1=i:=by omega
   have hicx:(i:Int)<=(cx:Int):=by omega
   have hik:(i:Int)<=(k:Int):=by omega
   have hic1:(i:Int)<=(c1:Int):=by omega
   have hi2b:i2<=1000000:=by omega
   have HI2:=κ hi2;by_cases he:i2<=m
   ·have CMU:=κ ((RR.out n (by omega) (Nat.le_refl _) s q' (some ⟨bt,ot,none⟩) lt bt ot n2 (some ⟨bx,ox+i,none⟩) bx (ox+i) (cx-i) ((xs.drop i).take n) (some ⟨by_,oy,none⟩) by_ oy cy ys wr (mg_pre C.out HW.out (by omega) (Nat.le_refl _) (by omega))).mono fun e w1 h=>mg_mid C.out HW.out (by omega) (Nat.le_refl _) (by omega) rfl h)
    have hsub:i2-i=n:=by omega
    have heI:(i2:Int)<=(m:Int):=by omega
    have heI2: ¬(m:Int)<(i2:Int):=by omega
    have hi2cx:(i2:Int)<=(cx:Int):=by omega
    have hii2:(i:Int)<=(i2:Int):=by omega
    have CAD:=κ (fun tl w1 hq=>mg_add C.out HW.out (a:=n) (tl:=tl) (w1:=w1) (by omega) (Nat.le_refl _) (by omega) (.inl rfl) rfl hc9 hq);clear hi2
    go_wp2_with (first
     |(go_at_call 33;refine(CMU.out).mono ?_;rintro e w7 ⟨tl,rfl,hq⟩;have HQ:=κ (CAD.out tl w7 hq.out);clear hq CMU CAD)
     |(go_at_call 56;refine(HQ.out).mono ?_;rintro e w8 ⟨rfl,hr⟩;have HR:=κ hr;clear hr HQ));go_roundg (m-(i+n));case measure=>omega
    case rel=>rw[HI2.out];exact HR.out
   ·obtain⟨a,ha⟩: ∃a,a=m-i:=⟨_,rfl⟩
    have CMU:=κ ((RR.out a (by omega) (by omega) s q' (some ⟨bt,ot,none⟩) lt bt ot n2 (some ⟨bx,ox+i,none⟩) bx (ox+i) (cx-i) ((xs.drop i).take a) (some ⟨by_,oy,none⟩) by_ oy cy ys wr (mg_pre C.out HW.out (by omega) (by omega) (by omega))).mono fun e w1 h=>mg_mid C.out HW.out (by omega) (by omega) (by omega) rfl h);have hsub:m-i=a:=by omega
    have heI:(m:Int)<(i2:Int):=by omega
    have heI2: ¬(i2:Int)<=(m:Int):=by omega
    have himI:(i:Int)<=(m:Int):=by omega
    have hmcx:(m:Int)<=(cx:Int):=by omega
    have CAD:=κ (fun tl w1 hq=>mg_add C.out HW.out (a:=a) (tl:=tl) (w1:=w1) (by omega) (by omega) (by omega) (.inr (by omega)) rfl hc9 hq);have HA:=κ ha;clear hi2 ha
    go_wp2_with (first
     |(go_at_call 33;refine(CMU.out).mono ?_;rintro e w7 ⟨tl,rfl,hq⟩;have HQ:=κ (CAD.out tl w7 hq.out);clear hq CMU CAD)
     |(go_at_call 56;refine(HQ.out).mono ?_;rintro e w8 ⟨rfl,hr⟩;have HR:=κ hr;clear hr HQ));go_roundg (m-(i+n));case measure=>omega
    case rel=>rw[HI2.out];exact HR.out
  ·have hiI: ¬(i:Int)<(m:Int):=by omega
   have hzv:val 18446744073709551616 zs=val 18446744073709551616 xs*val 18446744073709551616 ys:=by
    have:=HW.out.zv;rwa[List.take_of_length_le (by rw[H.out.xm];omega)]at this
   have HZV:=κ hzv
   have F37:=κ (show Fc 51 (MzS s q z o1 k) w3 wr from F36.out.trans HW.out.fc (fun b j hh hlt=>by
    rcases hh with hh|hh|hh
    ·exact .inl (G2.out.sub (Nat.le_of_eq G3.out.symm) b j (P5.out.sub P6.out b j hh (Nat.lt_of_lt_of_le hlt F35.out.size)) hlt)
    ·exact .inr hh
    ·obtain⟨rfl,hh1,hh2⟩:=hh
     exact .inl (G2.out.sub (Nat.le_of_eq G3.out.symm) _ j (P9.out (Nat.lt_of_lt_of_le hlt F35.out.size) j hh1 hh2) hlt)));clear hzv;go_wp2_with (go_at_call 34;have CN:=normN_any (some ⟨z,o1,none⟩) z o1 c1 zs _ (Nm.of_wr HW.out.wz (H2.out.fc F37.out) (by rw[HW.out.zk];exact h1)) HW.out.zd;rw[HW.out.zk]at CN;refine CN.mono ?_;rintro e w9 ⟨⟨vs,rfl,v1,v2,v3,v4,v5⟩,rfl⟩;have V1:=κ v1;have V2:=κ v2;have V3:=κ v3;have V4:=κ v4;clear v1 v2 v3 v4 v5 CN);show Leaves _ _ _ _ _ _ _
   have hcap: ∀p,q'=some p->lenS q4<=p.cap:=fun p hp=>by
    have h1:=HW.out.ll;have h2:=P6.out;have h3:=HW.out.st;subst hp;have:=h3.2.2.2.1;have e:lenS (some p)=p.len:=rfl;omega
   refine leaves_cons (f:=53) (args:= #[.pointer (some ⟨s,0,none⟩),.int .i64 ((lenS q4:Nat):Int)]) (by simp) (by simp[go_sem]) ?_;refine(restore_deferred s (lenS q4) q' .returning _ HW.out.st hcap).mono ?_;rintro e u' w10 ⟨rfl,rfl,hst10,hf10⟩;refine⟨.slice (some ⟨z,o1,none⟩) vs.length c1,by simp[results,Tryz.results33,go_sem],?_⟩
   have hlq:lenS (resS (lenS q4) q')=lenS q4:=lenS_res (fun hh=>by
    have h1:=HW.out.ll;have h2:=P6.out;rw[hh]at h1;have e:lenS none=0:=rfl;omega);have hzlt:z<w6.heap.size:=C.out.bz;have ozq:Off (StS s q') z o1 c1:=C.out.sub HW.out C.out.oz_ hzlt;have hF:Fc 51 (MzS s q z o1 k) w3 w10:=F37.out.trans hf10 (fun b j hh hlt=> .inl (G2.out.sub (Nat.le_of_eq G3.out.symm) b j (P5.out.sub P6.out b j (HW.out.le.sub (Nat.le_of_eq HW.out.ll.symm) b j hh (Nat.lt_of_lt_of_le hlt (Nat.le_trans F35.out.size P8.out.size))) (Nat.lt_of_lt_of_le hlt F35.out.size)) hlt));have hle:StkLe w3.heap.size q (resS (lenS q4) q'):=((G2.out.trans P5.out F35.out.size).trans HW.out.le (Nat.le_trans F35.out.size P8.out.size)).res;rw[<-HK.out];exact mul_fin F2.out F3.out H6.out H7.out H.out.st (H2.out.lt (by omega)) hst10 hle (hlq.trans G3.out) hF (V1.out.fc hf10 (fun j a1 a2=>ozq j a1 (by have:=V1.out.1;omega))) V2.out V3.out (V4.out.trans HZV.out) (HW.out.wz.fc hf10 (fun j a1 a2=>ozq j a1 (by rw[HW.out.zk]at a2;omega))) HW.out.zk HW.out.zd HZV.out
end Go.Proofs.YthecibbmbnpegaaGreatDoor
end
