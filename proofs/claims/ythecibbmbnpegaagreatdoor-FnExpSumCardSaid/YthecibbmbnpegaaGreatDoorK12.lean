/-
  Part 12 of the proof of the law FnExpSum: XgKar. Conditions: those of each statement.
-/
import Derived.Test.YthecibbmbnpegaaGreatDoorK11
import Derived.Deep.DeepCutAuto
import Derived.Deep.RegionWith
import Derived.Laws.Bits64
set_option linter.unusedSimpArgs false
set_option linter.unusedVariables false
set_option maxRecDepth 100000
set_option maxHeartbeats 8000000
section
namespace Go.Proofs.YthecibbmbnpegaaGreatDoor
open Go.Big Go.RowKit
theorem StS.up{s:Nat}{q:Option StkSt}{b i j:Nat}(h:StS s q b i)(hj:i<=j):StS s q b j:=by
 cases q with
 |none=>exact h
 |some q=>
  rcases h with h|h|⟨h,h2⟩
  ·exact .inl h
  ·exact .inr (.inl h)
  ·exact .inr (.inr ⟨h,Nat.le_trans h2 hj⟩)
structure KC(n h r s:Nat)(q:Option StkSt)(z oz cz bx ox cx by_ oy cy bt ot:Nat)(u0 u1 v0 v1:List Int)(p0 p1 r0 r1 t0 t1 t2 tx ty:Nat)(w:World):Prop where
 n40:40<=n
 few:n<=900
 hh:h=(n+1)/2
 hr:h+r=n
 cz2:2*n<=cz
 cxn:n<=cx
 cyn:n<=cy
 cz9:cz<=9223372036854775807
 cx9:cx<=9223372036854775807
 cy9:cy<=9223372036854775807
 thr:Glo w 0 40
 st:StkAt w s q
 len:lenS q+2000*(h+1)<=100000000000
 rz:Rcv w (some ⟨z,oz,none⟩) z oz cz
 rt:Rcv w (some ⟨bt,ot,none⟩) bt ot (2*h+1)
 ip0:IntB w p0 false (some ⟨bx,ox,none⟩) u0.length cx
 ip1:IntB w p1 false (some ⟨bx,ox+h,none⟩) u1.length (cx-h)
 ir0:IntB w r0 false (some ⟨by_,oy,none⟩) v0.length cy
 ir1:IntB w r1 false (some ⟨by_,oy+h,none⟩) v1.length (cy-h)
 np0:Nm w (some ⟨bx,ox,none⟩) bx ox cx u0
 np1:Nm w (some ⟨bx,ox+h,none⟩) bx (ox+h) (cx-h) u1
 nr0:Nm w (some ⟨by_,oy,none⟩) by_ oy cy v0
 nr1:Nm w (some ⟨by_,oy+h,none⟩) by_ (oy+h) (cy-h) v1
 du0:DG 18446744073709551616 u0
 du1:DG 18446744073709551616 u1
 dv0:DG 18446744073709551616 v0
 dv1:DG 18446744073709551616 v1
 zu0:NZ u0
 zu1:NZ u1
 zv0:NZ v0
 zv1:NZ v1
 lu0:u0.length<=h
 lu1:u1.length<=r
 lv0:v0.length<=h
 lv1:v1.length<=r
 ix:IntB w tx false (some ⟨z,oz,none⟩) h cz
 iy:IntB w ty false (some ⟨z,oz+h,none⟩) h (cz-h)
 i0:IntB w t0 false (some ⟨z,oz,none⟩) (2*h) cz
 i1:IntB w t1 false (some ⟨bt,ot,none⟩) (2*h+1) (2*h+1)
 i2:IntB w t2 false (some ⟨z,oz+2*h,none⟩) (2*r) (cz-2*h)
 nd:[p0,p1,r0,r1,t0,t1,t2,tx,ty].Nodup
 xz:Dj bx ox n z oz (2*n)
 yz:Dj by_ oy n z oz (2*n)
 xo:Off (StS s q) bx ox cx
 yo:Off (StS s q) by_ oy cy
 zo:Off (StS s q) z oz cz
 to_:Off (StS s q) bt ot (2*h+1)
 xt:Dj bx ox n bt ot (2*h+2)
 yt:Dj by_ oy n bt ot (2*h+2)
 zt:Dj z oz (2*n) bt ot (2*h+2)
 ex:z≠bx\/oz+cz≠ox+cx
 ey:z≠by_\/oz+cz≠oy+cy
 et:bt≠z\/ot+(2*h+1)≠oz+cz
def KS(n h s:Nat)(q:Option StkSt)(z oz bt ot t0 t1 t2 tx ty b i:Nat):Prop:=b=t0\/b=t1\/b=t2\/b=tx\/b=ty\/StS s q b i\/In1 z oz (2*n) b i\/In1 bt ot (2*h+2) b i
structure KW(n h s:Nat)(q:Option StkSt)(z oz bt ot t0 t1 t2 tx ty:Nat)(w:World)(q':Option StkSt)(w':World):Prop where
 fc:Fc 51 (KS n h s q z oz bt ot t0 t1 t2 tx ty) w w'
 st:StkAt w' s q'
 le:StkLe w.heap.size q q'
 ll:lenS q'=lenS q
structure KN(N:Nat)(p:Nat)(b0 o0 c0 k:Nat)(V:Int)(w:World)(neg:Bool)(A:Option Addr)(b o c:Nat)(d:List Int):Prop where
 i:IntB w p neg A d.length c
 n:Nm w A b o c d
 dg:DG 18446744073709551616 d
 nz:NZ d
 v:sg neg (val 18446744073709551616 d)=V
 l:d.length<=k
 pl:(A=some ⟨b0,o0,none⟩/\b=b0/\o=o0/\c=c0)\/(N<=b/\c<=2000000)
section
variable {n h r s:Nat}{q:Option StkSt}{z oz cz bx ox cx by_ oy cy bt ot:Nat}{u0 u1 v0 v1:List Int}{p0 p1 r0 r1 t0 t1 t2 tx ty:Nat}{w:World}{q':Option StkSt}{w' w1:World}
theorem KN.fc{N p b0 o0 c0 k:Nat}{V:Int}{neg:Bool}{A:Option Addr}{b o c:Nat}{d:List Int}{S:Nat->Nat->Prop}(h:KN N p b0 o0 c0 k V w neg A b o c d)(hf:Fc 51 S w w1)(hp: ∀i,¬ S p i)(ho:Off S b o d.length):KN N p b0 o0 c0 k V w1 neg A b o c d:=
 ⟨h.i.fc hf hp,h.n.fc hf ho,h.dg,h.nz,h.v,h.l,h.pl⟩
theorem KC.pn(C:KC n h r s q z oz cz bx ox cx by_ oy cy bt ot u0 u1 v0 v1 p0 p1 r0 r1 t0 t1 t2 tx ty w){p:Nat}{ng:Bool}{A:Option Addr}{l c:Nat}(hi:IntB w p ng A l c)(h0:p≠t0)(h1:p≠t1)(h2:p≠t2)(h3:p≠tx)(h4:p≠ty)(i:Nat): ¬KS n h s q z oz bt ot t0 t1 t2 tx ty p i:=by
 rintro(e|e|e|e|e|e|e|e)
 ·exact h0 e
 ·exact h1 e
 ·exact h2 e
 ·exact h3 e
 ·exact h4 e
 ·exact hi.stk C.st i e
 ·exact hi.rcv_ne C.rz (by have:=C.cz2;have:=C.n40;omega) e.1.symm
 ·exact hi.rcv_ne C.rt (by omega) e.1.symm
theorem KC.on(C:KC n h r s q z oz cz bx ox cx by_ oy cy bt ot u0 u1 v0 v1 p0 p1 r0 r1 t0 t1 t2 tx ty w){A:Option Addr}{b o c:Nat}{d:List Int}(hn:Nm w A b o c d)(hz:Dj b o d.length z oz (2*n))(ht:Dj b o d.length bt ot (2*h+2))(ho:Off (StS s q) b o d.length):Off (KS n h s q z oz bt ot t0 t1 t2 tx ty) b o d.length:=by
 rintro i h1 h2 (e|e|e|e|e|e|e|e)
 ·exact hn.off_int C.i0 i h1 h2 e
 ·exact hn.off_int C.i1 i h1 h2 e
 ·exact hn.off_int C.i2 i h1 h2 e
 ·exact hn.off_int C.ix i h1 h2 e
 ·exact hn.off_int C.iy i h1 h2 e
 ·exact ho i h1 h2 e
 ·exact hz.off i h1 h2 e
 ·exact ht.off i h1 h2 e
structure KO(h:Nat)(bx ox cx by_ oy cy:Nat)(u0 u1 v0 v1:List Int)(p0 p1 r0 r1:Nat)(w:World):Prop where
 ip0:IntB w p0 false (some ⟨bx,ox,none⟩) u0.length cx
 ip1:IntB w p1 false (some ⟨bx,ox+h,none⟩) u1.length (cx-h)
 ir0:IntB w r0 false (some ⟨by_,oy,none⟩) v0.length cy
 ir1:IntB w r1 false (some ⟨by_,oy+h,none⟩) v1.length (cy-h)
 np0:Nm w (some ⟨bx,ox,none⟩) bx ox cx u0
 np1:Nm w (some ⟨bx,ox+h,none⟩) bx (ox+h) (cx-h) u1
 nr0:Nm w (some ⟨by_,oy,none⟩) by_ oy cy v0
 nr1:Nm w (some ⟨by_,oy+h,none⟩) by_ (oy+h) (cy-h) v1
theorem KC.ops(C:KC n h r s q z oz cz bx ox cx by_ oy cy bt ot u0 u1 v0 v1 p0 p1 r0 r1 t0 t1 t2 tx ty w)(hf:Fc 51 (KS n h s q z oz bt ot t0 t1 t2 tx ty) w w1):KO h bx ox cx by_ oy cy u0 u1 v0 v1 p0 p1 r0 r1 w1:=by
 have nd:=C.nd;simp only[List.nodup_cons,List.mem_cons,List.not_mem_nil,or_false,not_or]at nd;obtain⟨⟨a1,a2,a3,a4,a5,a6,a7,a8⟩,⟨b1,b2,b3,b4,b5,b6,b7⟩,⟨c1,c2,c3,c4,c5,c6⟩,⟨d1,d2,d3,d4,d5⟩,_⟩:=nd;have hr:=C.hr;have lu0:=C.lu0;have lu1:=C.lu1;have lv0:=C.lv0;have lv1:=C.lv1;have m0:=C.np0.le;have m1:=C.np1.le;have k0:=C.nr0.le;have k1:=C.nr1.le;have xz:=C.xz;have yz:=C.yz;have xt:=C.xt;have yt:=C.yt
 exact⟨C.ip0.fc hf (C.pn C.ip0 a4 a5 a6 a7 a8),C.ip1.fc hf (C.pn C.ip1 b3 b4 b5 b6 b7),C.ir0.fc hf (C.pn C.ir0 c2 c3 c4 c5 c6),C.ir1.fc hf (C.pn C.ir1 d1 d2 d3 d4 d5),
  C.np0.fc hf (C.on C.np0 (xz.sub1 (by omega) (Nat.le_refl _)) (xt.sub1 (by omega) (Nat.le_refl _)) (Off.take C.xo m0)),
  C.np1.fc hf (C.on C.np1 (by unfold Dj at *;omega) (by unfold Dj at *;omega) (by
   by_cases e:u1.length=0
   ·intro i h1 h2;omega
   ·exact C.xo.sub (by omega))),
  C.nr0.fc hf (C.on C.nr0 (yz.sub1 (by omega) (Nat.le_refl _)) (yt.sub1 (by omega) (Nat.le_refl _)) (Off.take C.yo k0)),
  C.nr1.fc hf (C.on C.nr1 (by unfold Dj at *;omega) (by unfold Dj at *;omega) (by
   by_cases e:v1.length=0
   ·intro i h1 h2;omega
   ·exact C.yo.sub (by omega)))⟩
end
end Go.Proofs.YthecibbmbnpegaaGreatDoor
end
section
namespace Go.Proofs.YthecibbmbnpegaaGreatDoor
open Go.Big Go.RowKit
theorem glo_int{w:World}{g p:Nat}{v:Int}{ng:Bool}{A:Option Addr}{l c:Nat}(h:Glo w g v)(hi:IntB w p ng A l c):g≠p:=by
 rintro rfl;have:=hi.cell0;unfold Glo at h;rw[h]at this;simp at this
theorem sg_abs{a b:Bool}{x y:Int}(hx:0<=x)(hy:0<=y)(h:sg a x=sg b y):x=y:=by
 unfold sg at h;cases a<;>cases b<;>simp at h<;>omega
theorem sg_bd{a:Bool}{x V M:Int}(hx:0<=x)(h:sg a x=V)(h1:V<M)(h2: -M<V):x<M:=by
 unfold sg at h;cases a<;>simp at h<;>omega
theorem st_keep{w1 w2:World}{s p b0 o0 c0:Nat}{q:Option StkSt}{ng:Bool}{A A0:Option Addr}{l c:Nat}{S:Nat->Nat->Prop}(st:StkAt w1 s q)(hf:Fc 51 S w1 w2)(hp:IntB w1 p ng A l c)(hr:Rcv w1 A0 b0 o0 c0)(hc:0<c0)(hS: ∀b i,S b i->b=p\/b=b0):StkAt w2 s q:=by
 obtain⟨L,hL,_⟩:=hr.row hc;refine st.fc hf (fun i hh=> ?_) (fun x hx i hh=> ?_)
 ·rcases hS _ _ hh with e|e
  ·subst e;exact hp.stk st 0 (by cases q with|none=>exact rfl|some x=>exact .inl rfl)
  ·exact st.row_ne hL e.symm
 ·subst hx
  rcases hS _ _ hh with e|e
  ·exact hp.stk st 0 (by rw[<-e];exact .inr (.inl rfl))
  ·exact st.2.row_ne hL e.symm
section
variable {n h r s:Nat}{q:Option StkSt}{z oz cz bx ox cx by_ oy cy bt ot:Nat}{u0 u1 v0 v1:List Int}{p0 p1 r0 r1 t0 t1 t2 tx ty:Nat}{w:World}
structure KD(z bt p0 p1 r0 r1 t0 t1 t2 tx ty:Nat):Prop where
 a:p0≠p1/\p0≠r0/\p0≠r1/\p1≠r0/\p1≠r1/\r0≠r1
 t:t0≠t1/\t0≠t2/\t0≠tx/\t0≠ty/\t1≠t2/\t1≠tx/\t1≠ty/\t2≠tx/\t2≠ty/\tx≠ty
 p:p0≠t0/\p0≠t1/\p0≠t2/\p0≠tx/\p0≠ty/\p1≠t0/\p1≠t1/\p1≠t2/\p1≠tx/\p1≠ty
 r:r0≠t0/\r0≠t1/\r0≠t2/\r0≠tx/\r0≠ty/\r1≠t0/\r1≠t1/\r1≠t2/\r1≠tx/\r1≠ty
 z:p0≠z/\p1≠z/\r0≠z/\r1≠z/\t0≠z/\t1≠z/\t2≠z/\tx≠z/\ty≠z
 b:p0≠bt/\p1≠bt/\r0≠bt/\r1≠bt/\t0≠bt/\t1≠bt/\t2≠bt/\tx≠bt/\ty≠bt
theorem KC.kd(C:KC n h r s q z oz cz bx ox cx by_ oy cy bt ot u0 u1 v0 v1 p0 p1 r0 r1 t0 t1 t2 tx ty w):KD z bt p0 p1 r0 r1 t0 t1 t2 tx ty:=by
 have nd:=C.nd;simp only[List.nodup_cons,List.mem_cons,List.not_mem_nil,or_false,not_or]at nd;obtain⟨⟨a1,a2,a3,a4,a5,a6,a7,a8⟩,⟨b1,b2,b3,b4,b5,b6,b7⟩,⟨c1,c2,c3,c4,c5,c6⟩,⟨d1,d2,d3,d4,d5⟩,⟨e1,e2,e3,e4⟩,⟨f1,f2,f3⟩,⟨g1,g2⟩,h1,_⟩:=nd;have zc:0<cz:=by have:=C.cz2;have:=C.n40;omega
 have Z: ∀{p:Nat} {ng:Bool} {A:Option Addr} {l c:Nat},IntB w p ng A l c->p≠z:=fun hi e=>hi.rcv_ne C.rz zc e.symm
 have B: ∀{p:Nat} {ng:Bool} {A:Option Addr} {l c:Nat},IntB w p ng A l c->p≠bt:=fun hi e=>hi.rcv_ne C.rt (by omega) e.symm
 exact⟨⟨a1,a2,a3,b1,b2,c1⟩,⟨e1,e2,e3,e4,f1,f2,f3,g1,g2,h1⟩,⟨a4,a5,a6,a7,a8,b3,b4,b5,b6,b7⟩,⟨c2,c3,c4,c5,c6,d1,d2,d3,d4,d5⟩,⟨Z C.ip0,Z C.ip1,Z C.ir0,Z C.ir1,Z C.i0,Z C.i1,Z C.i2,Z C.ix,Z C.iy⟩,⟨B C.ip0,B C.ip1,B C.ir0,B C.ir1,B C.i0,B C.i1,B C.i2,B C.ix,B C.iy⟩⟩
structure KC0(n h r s:Nat)(q:Option StkSt)(z oz cz bx ox cx bt ot:Nat)(u0 u1 v0 v1:List Int)(p0 p1 r0 r1 t0 t1 t2 tx ty:Nat)(w:World):Prop where
 n40:40<=n
 few:n<=900
 hh:h=(n+1)/2
 hr:h+r=n
 cz2:2*n<=cz
 cxn:n<=cx
 cz9:cz<=9223372036854775807
 cx9:cx<=9223372036854775807
 st:StkAt w s q
 len:lenS q+2000*(h+1)<=100000000000
 rz:Rcv w (some ⟨z,oz,none⟩) z oz cz
 rt:Rcv w (some ⟨bt,ot,none⟩) bt ot (2*h+1)
 ip0:IntB w p0 false (some ⟨bx,ox,none⟩) u0.length cx
 ip1:IntB w p1 false (some ⟨bx,ox+h,none⟩) u1.length (cx-h)
 np0:Nm w (some ⟨bx,ox,none⟩) bx ox cx u0
 np1:Nm w (some ⟨bx,ox+h,none⟩) bx (ox+h) (cx-h) u1
 du0:DG 18446744073709551616 u0
 du1:DG 18446744073709551616 u1
 dv0:DG 18446744073709551616 v0
 dv1:DG 18446744073709551616 v1
 zu0:NZ u0
 zu1:NZ u1
 lu0:u0.length<=h
 lu1:u1.length<=r
 lv0:v0.length<=h
 lv1:v1.length<=r
 ix:IntB w tx false (some ⟨z,oz,none⟩) h cz
 i0:IntB w t0 false (some ⟨z,oz,none⟩) (2*h) cz
 i1:IntB w t1 false (some ⟨bt,ot,none⟩) (2*h+1) (2*h+1)
 i2:IntB w t2 false (some ⟨z,oz+2*h,none⟩) (2*r) (cz-2*h)
 kd:KD z bt p0 p1 r0 r1 t0 t1 t2 tx ty
 xz:Dj bx ox n z oz (2*n)
 xo:Off (StS s q) bx ox cx
 zo:Off (StS s q) z oz cz
 to_:Off (StS s q) bt ot (2*h+1)
 xt:Dj bx ox n bt ot (2*h+2)
 zt:Dj z oz (2*n) bt ot (2*h+2)
 ex:z≠bx\/oz+cz≠ox+cx
 et:bt≠z\/ot+(2*h+1)≠oz+cz
theorem KC.base(C:KC n h r s q z oz cz bx ox cx by_ oy cy bt ot u0 u1 v0 v1 p0 p1 r0 r1 t0 t1 t2 tx ty w):KC0 n h r s q z oz cz bx ox cx bt ot u0 u1 v0 v1 p0 p1 r0 r1 t0 t1 t2 tx ty w:=
 ⟨C.n40,C.few,C.hh,C.hr,C.cz2,C.cxn,C.cz9,C.cx9,C.st,C.len,C.rz,C.rt,C.ip0,C.ip1,C.np0,C.np1,C.du0,C.du1,C.dv0,C.dv1,C.zu0,C.zu1,C.lu0,C.lu1,C.lv0,C.lv1,C.ix,C.i0,C.i1,C.i2,C.kd,C.xz,C.xo,C.zo,C.to_,C.xt,C.zt,C.ex,C.et⟩
theorem KC.gn(C:KC n h r s q z oz cz bx ox cx by_ oy cy bt ot u0 u1 v0 v1 p0 p1 r0 r1 t0 t1 t2 tx ty w): ¬KS n h s q z oz bt ot t0 t1 t2 tx ty 0 0:=by
 rintro(e|e|e|e|e|e|e|e)
 ·exact glo_int C.thr C.i0 e
 ·exact glo_int C.thr C.i1 e
 ·exact glo_int C.thr C.i2 e
 ·exact glo_int C.thr C.ix e
 ·exact glo_int C.thr C.iy e
 ·exact glo_stk C.thr C.st 0 e
 ·exact glo_rcv C.thr C.rz (by have:=C.cz2;have:=C.n40;omega) e.1
 ·exact glo_rcv C.thr C.rt (by omega) e.1
theorem val_pow{d:List Int}{k h:Nat}(hd:DG 18446744073709551616 d)(hl:d.length<=k)(hk:k<=h):0<=val 18446744073709551616 d/\val 18446744073709551616 d<18446744073709551616^h:=by
 refine⟨val_nonneg (by omega) hd,Int.lt_of_lt_of_le (val_lt (by omega) hd) (pow_le_pow_ (by omega) (by omega))⟩
structure K1(n h r s:Nat)(q:Option StkSt)(z oz cz bt ot t0 t1 t2 tx ty:Nat)(V:Int)(w:World)(nx:Bool)(Ad:Option Addr)(bd od cd:Nat)(d:List Int)(w1:World):Prop where
 kw:KW n h s q z oz bt ot t0 t1 t2 tx ty w q w1
 dx:KN w.heap.size tx z oz cz h V w1 nx Ad bd od cd d
 iy:IntB w1 ty false (some ⟨z,oz+h,none⟩) h (cz-h)
 i0:IntB w1 t0 false (some ⟨z,oz,none⟩) (2*h) cz
 i1:IntB w1 t1 false (some ⟨bt,ot,none⟩) (2*h+1) (2*h+1)
 i2:IntB w1 t2 false (some ⟨z,oz+2*h,none⟩) (2*r) (cz-2*h)
theorem kar_tx(C:KC n h r s q z oz cz bx ox cx by_ oy cy bt ot u0 u1 v0 v1 p0 p1 r0 r1 t0 t1 t2 tx ty w):
 Calls Tryz.prog 83 #[.pointer (some ⟨tx,0,none⟩),.pointer (some ⟨p0,0,none⟩),.pointer (some ⟨p1,0,none⟩)] w fun e w1=>e= .returned (.pointer (some ⟨tx,0,none⟩))/\ ∃nx Ad bd od cd d,K1 n h r s q z oz cz bt ot t0 t1 t2 tx ty (val 18446744073709551616 u0-val 18446744073709551616 u1) w nx Ad bd od cd d w1:=by
 have D:=C.kd;obtain⟨e1,e2,e3,e4,e5,e6,e7,e8,e9,e10⟩:=D.t;obtain⟨z1,z2,z3,z4,z5,z6,z7,z8,z9⟩:=D.z;obtain⟨x1,x2,x3,x4,x5,x6,x7,x8,x9,x10⟩:=D.p;have n40:=C.n40;have few:=C.few;have hh:=C.hh;have hr:=C.hr;have cz2:=C.cz2;have lu0:=C.lu0;have lu1:=C.lu1;have xz:=C.xz;have cx9:=C.cx9;have m0:=C.np0.le;refine(intSub_any h tx false (some ⟨z,oz,none⟩) h z oz cz p0 _ bx ox cx u0 p1 _ bx (ox+h) (cx-h) u1 w C.ix C.rz (by omega) z8 (fun e=>x4 e.symm) (fun e=>x9 e.symm) z1 z2 C.ip0 C.np0 C.du0 C.zu0 C.ip1 C.np1 C.du1 C.zu1 lu0 (by omega) (by omega) C.cx9 (by omega) C.cz9 (fun _=> .inl (by unfold Dj at *;omega)) (fun _=> .inl (by unfold Dj at *;omega))).mono ?_;rintro e w1 ⟨nx,Ad,bd,od,cd,d,rfl,hi,hn,hd,hz,hv,hp,hf⟩;have b0:=val_pow C.du0 lu0 (Nat.le_refl _);have b1:=val_pow C.du1 lu1 (show r<=h by omega);have hl:d.length<=h:=len_le (by omega) hd hz (sg_bd (val_nonneg (by omega) hd) hv (by omega) (by omega));refine⟨rfl,nx,Ad,bd,od,cd,d,⟨hf.mono (fun b i hh _=> ?_),st_keep C.st hf C.ix C.rz (by omega) (fun b i hh=>hh.imp id (fun hh=>hh.1)),StkLe.refl _ _,rfl⟩,⟨hi,hn,hd,hz,hv,hl,hp⟩,C.iy.fc hf (fun i hh=>hh.elim (fun e=>e10 e.symm) (fun hh=>z9 hh.1)),C.i0.fc hf (fun i hh=>hh.elim e3 (fun hh=>z5 hh.1)),C.i1.fc hf (fun i hh=>hh.elim e6 (fun hh=>z6 hh.1)),C.i2.fc hf (fun i hh=>hh.elim e8 (fun hh=>z7 hh.1))⟩;rcases hh with hh|⟨rfl,h2,h3⟩
 ·exact .inr (.inr (.inr (.inl hh)))
 ·exact .inr (.inr (.inr (.inr (.inr (.inr (.inl ⟨rfl,h2,by omega⟩))))))
structure K2(n h r s:Nat)(q:Option StkSt)(z oz cz bt ot t0 t1 t2 tx ty:Nat)(V U:Int)(w:World)(nx:Bool)(Ad:Option Addr)(bd od cd:Nat)(d:List Int)(ny:Bool)(Ae:Option Addr)(be oe ce:Nat)(e:List Int)(w1:World):Prop where
 kw:KW n h s q z oz bt ot t0 t1 t2 tx ty w q w1
 dx:KN w.heap.size tx z oz cz h V w1 nx Ad bd od cd d
 dy:KN w.heap.size ty z (oz+h) (cz-h) h U w1 ny Ae be oe ce e
 i0:IntB w1 t0 false (some ⟨z,oz,none⟩) (2*h) cz
 i1:IntB w1 t1 false (some ⟨bt,ot,none⟩) (2*h+1) (2*h+1)
 i2:IntB w1 t2 false (some ⟨z,oz+2*h,none⟩) (2*r) (cz-2*h)
theorem kar_ty(C:KC n h r s q z oz cz bx ox cx by_ oy cy bt ot u0 u1 v0 v1 p0 p1 r0 r1 t0 t1 t2 tx ty w){V:Int}{nx:Bool}{Ad:Option Addr}{bd od cd:Nat}{d:List Int}{w1:World}(K:K1 n h r s q z oz cz bt ot t0 t1 t2 tx ty V w nx Ad bd od cd d w1):
 Calls Tryz.prog 83 #[.pointer (some ⟨ty,0,none⟩),.pointer (some ⟨r1,0,none⟩),.pointer (some ⟨r0,0,none⟩)] w1 fun e w2=>e= .returned (.pointer (some ⟨ty,0,none⟩))/\ ∃ny Ae be oe ce f,K2 n h r s q z oz cz bt ot t0 t1 t2 tx ty V (val 18446744073709551616 v1-val 18446744073709551616 v0) w nx Ad bd od cd d ny Ae be oe ce f w2:=by
 have D:=C.kd;obtain⟨e1,e2,e3,e4,e5,e6,e7,e8,e9,e10⟩:=D.t;obtain⟨z1,z2,z3,z4,z5,z6,z7,z8,z9⟩:=D.z;obtain⟨x1,x2,x3,x4,x5,x6,x7,x8,x9,x10⟩:=D.r;have O:=C.ops K.kw.fc;have n40:=C.n40;have few:=C.few;have hh:=C.hh;have hr:=C.hr;have cz2:=C.cz2;have lv0:=C.lv0;have lv1:=C.lv1;have yz:=C.yz;have cy9:=C.cy9;have cz9:=C.cz9;have rz1:=(C.rz.fc K.kw.fc).drop (n:=h) (by omega);refine(intSub_any h ty false (some ⟨z,oz+h,none⟩) h z (oz+h) (cz-h) r1 _ by_ (oy+h) (cy-h) v1 r0 _ by_ oy cy v0 w1 K.iy rz1 (by omega) z9 (fun e=>x10 e.symm) (fun e=>x5 e.symm) z4 z3 O.ir1 O.nr1 C.dv1 C.zv1 O.ir0 O.nr0 C.dv0 C.zv0 (by omega) lv0 (by omega) (by omega) C.cy9 (by omega) (fun _=> .inl (by unfold Dj at *;omega)) (fun _=> .inl (by unfold Dj at *;omega))).mono ?_;rintro e w2 ⟨ny,Ae,be,oe,ce,f,rfl,hi,hn,hd,hz,hv,hp,hf⟩;have b0:=val_pow C.dv0 lv0 (Nat.le_refl _);have b1:=val_pow C.dv1 lv1 (show r<=h by omega);have hl:f.length<=h:=len_le (by omega) hd hz (sg_bd (val_nonneg (by omega) hd) hv (by omega) (by omega))
 have hmono:Fc 51 (KS n h s q z oz bt ot t0 t1 t2 tx ty) w1 w2:=hf.mono (fun b i hh _=>by
  rcases hh with hh|⟨rfl,h2,h3⟩
  ·exact .inr (.inr (.inr (.inr (.inl hh))))
  ·exact .inr (.inr (.inr (.inr (.inr (.inr (.inl ⟨rfl,by omega,by omega⟩)))))));have hsz:=K.kw.fc.size;refine⟨rfl,ny,Ae,be,oe,ce,f,⟨K.kw.fc.t hmono,st_keep K.kw.st hf K.iy rz1 (by omega) (fun b i hh=>hh.imp id (fun hh=>hh.1)),StkLe.refl _ _,rfl⟩,K.dx.fc hf (fun i hh=>hh.elim e10 (fun hh=>z8 hh.1)) (fun i a1 a2 hh=> ?_),⟨hi,hn,hd,hz,hv,hl,hp.imp id (fun hh=>⟨Nat.le_trans hsz hh.1,hh.2⟩)⟩,K.i0.fc hf (fun i hh=>hh.elim e4 (fun hh=>z5 hh.1)),K.i1.fc hf (fun i hh=>hh.elim e7 (fun hh=>z6 hh.1)),K.i2.fc hf (fun i hh=>hh.elim e9 (fun hh=>z7 hh.1))⟩;rcases hh with hh|⟨g1,g2,g3⟩
 ·exact K.dx.n.off_int K.iy i a1 a2 hh
 ·have hdl:=K.dx.l
  rcases K.dx.pl with⟨_,_,rfl,_⟩|⟨hb,_⟩
  ·omega
  ·have:=C.rz.lt (by omega);omega
structure K3(n h r s:Nat)(q:Option StkSt)(z oz cz bt ot t0 t1 t2 tx ty k:Nat)(V:Int)(w:World)(q':Option StkSt)(n1:Bool)(A1:Option Addr)(b1 o1 c1:Nat)(f:List Int)(w1:World):Prop where
 kw:KW n h s q z oz bt ot t0 t1 t2 tx ty w q' w1
 d1:KN w.heap.size t1 bt ot (2*h+1) k V w1 n1 A1 b1 o1 c1 f
 pe:b1=bt/\o1=ot/\c1=2*h+1
 i0:IntB w1 t0 false (some ⟨z,oz,none⟩) (2*h) cz
 i2:IntB w1 t2 false (some ⟨z,oz+2*h,none⟩) (2*r) (cz-2*h)
theorem k3_post(C:KC0 n h r s q z oz cz bx ox cx bt ot u0 u1 v0 v1 p0 p1 r0 r1 t0 t1 t2 tx ty w){w1:World}(kw:KW n h s q z oz bt ot t0 t1 t2 tx ty w q w1)(i0:IntB w1 t0 false (some ⟨z,oz,none⟩) (2*h) cz)(i2:IntB w1 t2 false (some ⟨z,oz+2*h,none⟩) (2*r) (cz-2*h)){d e:List Int}(dd:DG 18446744073709551616 d)(de:DG 18446744073709551616 e)(dl:d.length<=h)(el:e.length<=h){same ng:Bool}{U:Int}(hU:U=sg ng (val 18446744073709551616 d*val 18446744073709551616 e)){en:Ending}{w2:World}(hI:IntMP s q t1 same (some ⟨bt,ot,none⟩) bt ot (2*h+1) (d.length+e.length) U w1 en w2):
 en= .returned (.tuple #[])/\ ∃q' n1 A1 b1 o1 c1 f,K3 n h r s q z oz cz bt ot t0 t1 t2 tx ty (2*h) U w q' n1 A1 b1 o1 c1 f w2:=by
 have D:=C.kd;obtain⟨e1,e2,e3,e4,e5,e6,e7,e8,e9,e10⟩:=D.t;obtain⟨x1,x2,x3,x4,x5,x6,x7,x8,x9⟩:=D.b;have hh:=C.hh;have hr:=C.hr;have hll:=kw.ll;have hsz:=kw.fc.size;obtain⟨n1,A1,b1,o1,c1,f,q',rfl,hi,hn,hd,hz,hv,_,hp,st2,le2,l2,hf,_⟩:=hI
 have hmono:Fc 51 (KS n h s q z oz bt ot t0 t1 t2 tx ty) w1 w2:=hf.mono (fun b i hh _=>by
  rcases hh with hh|hh|⟨rfl,h2,h3⟩
  ·exact .inr (.inl hh)
  ·exact .inr (.inr (.inr (.inr (.inr (.inl hh)))))
  ·exact .inr (.inr (.inr (.inr (.inr (.inr (.inr ⟨rfl,h2,by omega⟩)))))))
 have hpe:A1=some ⟨bt,ot,none⟩/\b1=bt/\o1=ot/\c1=2*h+1:=by
  rcases hp with hp|hp
  ·exact hp
  ·omega
 have vd:=val_pow dd dl (Nat.le_refl _);have ve:=val_pow de el (Nat.le_refl _);have vf:=val_nonneg (by omega) hd
 have hvf:val 18446744073709551616 f=val 18446744073709551616 d*val 18446744073709551616 e:=by
  rw[hU]at hv;exact sg_abs vf (Int.mul_nonneg vd.1 ve.1) hv
 have hl:f.length<=2*h:=by
  refine len_le (by omega) hd hz ?_;rw[hvf,show 2*h=h+h by omega,Int.pow_add];have hpp:=pow_pos_ (B:=18446744073709551616) (by omega) h;have g1:val 18446744073709551616 d*val 18446744073709551616 e<=val 18446744073709551616 d*18446744073709551616^h:=Int.mul_le_mul_of_nonneg_left (by omega) vd.1;have g2:val 18446744073709551616 d*18446744073709551616^h<18446744073709551616^h*18446744073709551616^h:=Int.mul_lt_mul_of_pos_right vd.2 hpp;omega
 have keep: ∀{p:Nat} {ng:Bool} {A:Option Addr} {l c:Nat},IntB w1 p ng A l c->p≠t1->p≠bt->IntB w2 p ng A l c:=fun hI h1 h2=>hI.fc hf (fun i hh=>by
  rcases hh with hh|hh|hh
  ·exact h1 hh
  ·exact hI.stk kw.st i hh
  ·exact h2 hh.1)
 exact⟨rfl,q',n1,A1,b1,o1,c1,f,⟨kw.fc.t hmono,st2,kw.le.trans le2 hsz,l2.trans hll⟩,⟨hi,hn,hd,hz,hv,hl,.inl hpe⟩,hpe.2,keep i0 e1 x5,keep i2 (fun e=>e5 e.symm) x7⟩
theorem kar_m1(M: ∀a b,a<=h->b<=h->MulOK a b)(C:KC n h r s q z oz cz bx ox cx by_ oy cy bt ot u0 u1 v0 v1 p0 p1 r0 r1 t0 t1 t2 tx ty w){V U:Int}{nx:Bool}{Ad:Option Addr}{bd od cd:Nat}{d:List Int}{ny:Bool}{Ae:Option Addr}{be oe ce:Nat}{e:List Int}{w1:World}(K:K2 n h r s q z oz cz bt ot t0 t1 t2 tx ty V U w nx Ad bd od cd d ny Ae be oe ce e w1):
 Calls Tryz.prog 84 #[.pointer (some ⟨t1,0,none⟩),.pointer (some ⟨s,0,none⟩),.pointer (some ⟨tx,0,none⟩),.pointer (some ⟨ty,0,none⟩)] w1 fun e w2=>e= .returned (.tuple #[])/\ ∃q' n1 A1 b1 o1 c1 f,K3 n h r s q z oz cz bt ot t0 t1 t2 tx ty (2*h) (V*U) w q' n1 A1 b1 o1 c1 f w2:=by
 have D:=C.kd
 obtain⟨e1,e2,e3,e4,e5,e6,e7,e8,e9,e10⟩:=D.t
 obtain⟨z1,z2,z3,z4,z5,z6,z7,z8,z9⟩:=D.z
 obtain⟨x1,x2,x3,x4,x5,x6,x7,x8,x9⟩:=D.b
 have n40:=C.n40
 have few:=C.few
 have hh:=C.hh
 have hr:=C.hr
 have cz2:=C.cz2
 have cz9:=C.cz9
 have hlen:=C.len
 have hll:=K.kw.ll
 have dl:=K.dx.l
 have el:=K.dy.l
 have zt:=C.zt
 have et:=C.et
 have hsz:=K.kw.fc.size
 have btlt:=C.rt.lt (by omega)
 have rt1:=C.rt.fc K.kw.fc
 have dxm:=K.dx.n.le
 have dym:=K.dy.n.le
 have pd:(bd=z/\od=oz/\cd=cz)\/(w.heap.size<=bd/\cd<=2000000):=K.dx.pl.imp (fun h=>h.2) id
 have pe:(be=z/\oe=oz+h/\ce=cz-h)\/(w.heap.size<=be/\ce<=2000000):=K.dy.pl.imp (fun h=>h.2) id
 have offN: ∀{b o c:Nat},w.heap.size<=b->Off (StS s q) b o c:=fun hb i _ _ hh=>by have:=stk_lt C.st hh;omega
 have dd:Dj bd od d.length bt ot (d.length+e.length):=by unfold Dj at *;omega
 have de:Dj be oe e.length bt ot (d.length+e.length):=by unfold Dj at *;omega
 have txz:tx<w.heap.size:=C.ix.lt
 have tyz:ty<w.heap.size:=C.iy.lt
 refine(intMul_any t1 false tx nx ty ny (m:=d.length) (n:=e.length) (q:=q) (A:=some ⟨bt,ot,none⟩) (l:=2*h+1) (bz:=bt) (oz:=ot) (cz:=2*h+1) (xs:=d) (ys:=e)
  ⟨K.kw.st,fun _=>by omega,fun _=>by omega,C.thr.fc K.kw.fc C.gn,rt1,Nat.le_refl _,by omega,K.dx.n,rfl,K.dx.dg,by rcases pd with h|h<;>omega,K.dy.n,rfl,K.dy.dg,by rcases pe with h|h<;>omega,by omega,by omega,by omega,dj_rm _ dd,dj_rm _ de,fun _ _=> ?_,fun _ _=> ?_,C.to_,?_,?_,rcv_stk K.kw.st rt1 (.inl (by omega))⟩
  (M _ _ dl el) K.i1 K.dx.i K.dy.i e10 e6 e7 x6 x8 x9).mono ?_
 ·rcases pd with⟨rfl,rfl,rfl⟩|h
  ·exact et
  ·exact .inl (by omega)
 ·rcases pe with⟨rfl,rfl,rfl⟩|h
  ·rcases et with h|h
   ·exact .inl h
   ·exact .inr (by omega)
  ·exact .inl (by omega)
 ·rcases pd with⟨rfl,rfl,rfl⟩|h
  ·exact C.zo
  ·exact offN h.1
 ·rcases pe with⟨rfl,rfl,rfl⟩|h
  ·exact C.zo.sub (by omega)
  ·exact offN h.1
 rintro en w2 hI
 have hU:sg nx (val 18446744073709551616 d)*sg ny (val 18446744073709551616 e)=sg (nx !=ny) (val 18446744073709551616 d*val 18446744073709551616 e):=(sg_mul _ _ _ _).symm
 have:=k3_post C.base K.kw K.i0 K.i2 K.dx.dg K.dy.dg dl el hU hI
 rwa[K.dx.v,K.dy.v]at this
end
end Go.Proofs.YthecibbmbnpegaaGreatDoor
end
section
namespace Go.Big
open Go.RowKit
theorem getD_rep{L j:Nat}:(List.replicate L (0:Int)).getD j 0=0:=by
 simp only[List.getD_eq_getElem?_getD,List.getElem?_replicate];split<;>rfl
theorem spl_zeros{Zs Z:List Int}{i L:Nat}(hi:i+L<=Zs.length)(hz:(Zs.drop i).take L=List.replicate L 0)(hk:Z.length<=L):spl Zs i (Z++List.replicate (L-Z.length) 0)=spl Zs i Z:=by
 have hl:(Z++List.replicate (L-Z.length) (0:Int)).length=L:=by rw[List.length_append,List.length_replicate];omega
 have a1:=spl_len (L:=Zs) (o:=i) (cs:=Z++List.replicate (L-Z.length) 0) (by omega);have a2:=spl_len (L:=Zs) (o:=i) (cs:=Z) (by omega);refine List.ext_getElem (a1.trans a2.symm) (fun j h1 h2=> ?_)
 have e:(spl Zs i (Z++List.replicate (L-Z.length) 0)).getD j 0=(spl Zs i Z).getD j 0:=by
  rw[a1]at h1;by_cases hin:i<=j/\j<i+L
  ·obtain⟨m,rfl⟩: ∃m,j=i+m:=⟨j-i,by omega⟩
   rw[spl_get_in (by omega) (by omega)];by_cases hm:m<Z.length
   ·rw[spl_get_in (by omega) hm]
    simp[List.getD_eq_getElem?_getD,List.getElem?_append_left hm]
   ·rw[spl_getD_out (by omega) (by omega)]
    have e1:(Z++List.replicate (L-Z.length) (0:Int)).getD m 0=0:=by
     have:=getD_rep (L:=L-Z.length) (j:=m-Z.length);simp only[List.getD_eq_getElem?_getD]at this ⊢
     rw[List.getElem?_append_right (by omega)];exact this
    have e2:Zs.getD (i+m) 0=0:=by
     have:=getD_drop_take (xs:=Zs) (i:=i) (m:=L) (j:=m) (by omega);rw[hz,getD_rep]at this;exact this.symm
    rw[e1,e2]
  ·rw[spl_getD_out (by omega) (by omega),spl_getD_out (by omega) (by omega)]
 rwa[getD_in h1,getD_in h2]at e
theorem spl_part{Zs:List Int}{i L:Nat}(hi:i+L<=Zs.length):spl Zs i ((Zs.drop i).take L)=Zs:=by
 unfold spl;have h:((Zs.drop i).take L).length=L:=by rw[List.length_take,List.length_drop];omega
 rw[h];have:(Zs.drop i).take L++Zs.drop (i+L)=Zs.drop i:=by rw[<-List.drop_drop];exact List.take_append_drop _ _
 rw[this,List.take_append_drop]
end Go.Big
namespace Go.Proofs.YthecibbmbnpegaaGreatDoor
open Go.Big Go.RowKit
section
variable {n h r s:Nat}{q:Option StkSt}{z oz cz bx ox cx by_ oy cy bt ot:Nat}{u0 u1 v0 v1:List Int}{p0 p1 r0 r1 t0 t1 t2 tx ty:Nat}{w:World}
structure KZ(n h s:Nat)(q:Option StkSt)(z oz cz bt ot t0 t1 t2 tx ty t i L:Nat)(V:Int)(w:World)(q1:Option StkSt)(Zs:List Int)(w1:World)(q2:Option StkSt)(g F:List Int)(w2:World):Prop where
 kw:KW n h s q z oz bt ot t0 t1 t2 tx ty w q2 w2
 ib:IntB w2 t false (some ⟨z,oz+i,none⟩) g.length (cz-i)
 nm:Nm w2 (some ⟨z,oz+i,none⟩) z (oz+i) (cz-i) g
 dg:DG 18446744073709551616 g
 nz:NZ g
 v:val 18446744073709551616 g=V
 l:g.length<=L
 wz:Wr 51 w2 z oz (spl Zs i F)
 fl:F.length=L
 fd:DG 18446744073709551616 F
 fv:val 18446744073709551616 F=V
 fc:Fc 51 (fun b j=>b=t\/StS s q1 b j\/In1 z (oz+i) L b j) w1 w2
theorem kz_post(C:KC0 n h r s q z oz cz bx ox cx bt ot u0 u1 v0 v1 p0 p1 r0 r1 t0 t1 t2 tx ty w){q1:Option StkSt}{w1:World}(kw:KW n h s q z oz bt ot t0 t1 t2 tx ty w q1 w1){t i L:Nat}{ua ub Zs:List Int}
 (ht:t=t0\/t=t2)(hiL:i+L<=2*n)(DA:DG 18446744073709551616 ua)(DB:DG 18446744073709551616 ub)(lab:ua.length+ub.length<=L)(htz:t≠z)
 (WZ:Wr 51 w1 z oz Zs)(ZL:Zs.length=2*n)(Z0:(Zs.drop i).take L=List.replicate L 0){en:Ending}{w2:World}(hI:IntMP s q1 t true (some ⟨z,oz+i,none⟩) z (oz+i) (cz-i) (ua.length+ub.length) (sg false (val 18446744073709551616 ua)*sg false (val 18446744073709551616 ub)) w1 en w2):
 en= .returned (.tuple #[])/\ ∃q2 g F,KZ n h s q z oz cz bt ot t0 t1 t2 tx ty t i L (val 18446744073709551616 ua*val 18446744073709551616 ub) w q1 Zs w1 q2 g F w2:=by
 have n40:=C.n40;have hh:=C.hh;have cz2:=C.cz2;have hsz:=kw.fc.size;have zlt:=C.rz.lt (by omega);have zo1:Off (StS s q1) z oz cz:=off_le kw.le (Nat.le_of_eq kw.ll.symm) C.zo zlt;obtain⟨n1,A1,b1,o1,c1,g,q2,rfl,hi,hn,hd,hz,hv,hs,hp,st2,le2,l2,hf,hfull⟩:=hI;obtain rfl:n1=false:=hs rfl;rw[sg_f,sg_f,sg_f]at hv
 obtain⟨rfl,rfl,rfl,rfl⟩:A1=some ⟨z,oz+i,none⟩/\b1=z/\o1=oz+i/\c1=cz-i:=by
  rcases hp with hp|hp
  ·exact hp
  ·omega
 have va:=val_pow DA (Nat.le_refl _) (Nat.le_refl _);have vb:=val_pow DB (Nat.le_refl _) (Nat.le_refl _)
 have hl:g.length<=L:=by
  refine Nat.le_trans (len_le (k:=ua.length+ub.length) (by omega) hd hz ?_) lab;rw[hv,Int.pow_add];have hpp:=pow_pos_ (B:=18446744073709551616) (by omega) ub.length;have g1:val 18446744073709551616 ua*val 18446744073709551616 ub<=val 18446744073709551616 ua*18446744073709551616^ub.length:=Int.mul_le_mul_of_nonneg_left (by omega) va.1;have g2:val 18446744073709551616 ua*18446744073709551616^ub.length<18446744073709551616^ua.length*18446744073709551616^ub.length:=Int.mul_lt_mul_of_pos_right va.2 hpp;omega
 have hfm:Fc 51 (fun b j=>b=t\/StS s q1 b j\/In1 b1 (oz+i) L b j) w1 w2:=hf.mono (fun b j hh _=>hh.imp id (fun hh=>hh.imp id (fun hh=>⟨hh.1,hh.2.1,by have:=hh.2.2;omega⟩)))
 have hmono:Fc 51 (KS n h s q b1 oz bt ot t0 t1 t2 tx ty) w w2:=kw.fc.trans hfm (fun b j hh hlt=>by
  rcases hh with hh|hh|⟨rfl,h2,h3⟩
  ·rcases ht with rfl|rfl
   ·exact .inl hh
   ·exact .inr (.inr (.inl hh))
  ·exact .inr (.inr (.inr (.inr (.inr (.inl (kw.le.sub (Nat.le_of_eq kw.ll.symm) b j hh hlt))))))
  ·exact .inr (.inr (.inr (.inr (.inr (.inr (.inl ⟨rfl,by omega,by omega⟩)))))));have KWn:KW n h s q b1 oz bt ot t0 t1 t2 tx ty w q2 w2:=⟨hmono,st2,kw.le.trans le2 hsz,l2.trans kw.ll⟩;rcases hfull with⟨hv0,hf0⟩|⟨Z,hZ,hZl,hZd,hZv⟩
 ·have hW:Wr 51 w2 b1 oz Zs:=WZ.fc hf0 (fun j h1 h2 hh=>hh.elim (fun e=>htz e.symm) (zo1 j h1 (by omega)))
  refine⟨rfl,q2,g,List.replicate L 0,KWn,hi,hn,hd,hz,hv,hl,by rw[<-Z0,spl_part (by omega)];exact hW,List.length_replicate,DG.rep (by omega) _,?_,hfm⟩;rw[val_rep];rw[sg_f,sg_f]at hv0;exact hv0.symm
 ·rw[sg_f,sg_f,sg_f]at hZv
  have hW:Wr 51 w2 b1 oz (spl Zs i Z):=WZ.upd2 hZ hf (fun j h1 h2 h3 hh=>by
   rcases hh with hh|hh|hh
   ·exact htz hh.symm
   ·exact zo1 j h1 (by omega) hh
   ·exact h3 ⟨hh.2.1,by have:=hh.2.2;omega⟩) (by omega);refine⟨rfl,q2,g,Z++List.replicate (L-Z.length) 0,KWn,hi,hn,hd,hz,hv,hl,by rw[spl_zeros (by omega) Z0 (by omega)];exact hW,by rw[List.length_append,List.length_replicate];omega,hZd.append (DG.rep (by omega) _),?_,hfm⟩;rw[val_append,val_rep,Int.mul_zero,Int.add_zero];exact hZv
theorem kar_mz(M: ∀a b,a<=h->b<=h->MulOK a b)(C:KC n h r s q z oz cz bx ox cx by_ oy cy bt ot u0 u1 v0 v1 p0 p1 r0 r1 t0 t1 t2 tx ty w){q1:Option StkSt}{w1:World}(kw:KW n h s q z oz bt ot t0 t1 t2 tx ty w q1 w1){t i L pa pb:Nat}{Aa:Option Addr}{ba oa ca:Nat}{ua:List Int}{Ab:Option Addr}{bb ob cb:Nat}{ub Zs:List Int}
 (ht:t=t0\/t=t2)(it:IntB w1 t false (some ⟨z,oz+i,none⟩) L (cz-i))(hiL:i+L<=2*n)(hL0:0<L)(IA:IntB w1 pa false Aa ua.length ca)(NA:Nm w1 Aa ba oa ca ua)(DA:DG 18446744073709551616 ua)(la:ua.length<=h)(IB:IntB w1 pb false Ab ub.length cb)(NB:Nm w1 Ab bb ob cb ub)(DB:DG 18446744073709551616 ub)(lb:ub.length<=h)(lab:ua.length+ub.length<=L)
 (hab:pa≠pb)(hta:t≠pa)(htb:t≠pb)(htz:t≠z)(haz:pa≠z)(hbz:pb≠z)(xa:Dj ba oa ua.length z oz (2*n))(xb:Dj bb ob ub.length z oz (2*n))(ea:z≠ba\/oz+cz≠oa+ca)(eb:z≠bb\/oz+cz≠ob+cb)(fa:Off (StS s q) ba oa ca)(fb:Off (StS s q) bb ob cb)(ga:0<ca->ba<w.heap.size)(gb:0<cb->bb<w.heap.size)(ca9:ca<=9223372036854775807)(cb9:cb<=9223372036854775807)
 (WZ:Wr 51 w1 z oz Zs)(ZL:Zs.length=2*n)(Z0:(Zs.drop i).take L=List.replicate L 0):
 Calls Tryz.prog 84 #[.pointer (some ⟨t,0,none⟩),.pointer (some ⟨s,0,none⟩),.pointer (some ⟨pa,0,none⟩),.pointer (some ⟨pb,0,none⟩)] w1 fun e w2=>e= .returned (.tuple #[])/\ ∃q2 g F,KZ n h s q z oz cz bt ot t0 t1 t2 tx ty t i L (val 18446744073709551616 ua*val 18446744073709551616 ub) w q1 Zs w1 q2 g F w2:=by
 have n40:=C.n40
 have few:=C.few
 have hh:=C.hh
 have cz2:=C.cz2
 have cz9:=C.cz9
 have hlen:=C.len
 have hll:=kw.ll
 have hsz:=kw.fc.size
 have zlt:=C.rz.lt (by omega)
 have rz1:=C.rz.fc kw.fc
 have rzi:Rcv w1 (some ⟨z,oz+i,none⟩) z (oz+i) (cz-i):=rz1.drop (by omega)
 have zo1:Off (StS s q1) z oz cz:=off_le kw.le (Nat.le_of_eq kw.ll.symm) C.zo zlt
 have offq: ∀{b o c:Nat},Off (StS s q) b o c->(0<c->b<w.heap.size)->Off (StS s q1) b o c:=fun ho hb j h1 h2 hh=>off_le kw.le (Nat.le_of_eq kw.ll.symm) ho (hb (by omega)) j h1 h2 hh
 refine(intMul_any t false pa false pb false (m:=ua.length) (n:=ub.length) (q:=q1) (A:=some ⟨z,oz+i,none⟩) (l:=L) (bz:=z) (oz:=oz+i) (cz:=cz-i) (xs:=ua) (ys:=ub)
  ⟨kw.st,fun _=>by omega,fun _=>by omega,C.thr.fc kw.fc C.gn,rzi,by omega,by omega,NA,rfl,DA,ca9,NB,rfl,DB,cb9,by omega,by omega,by omega,dj_rm _ (by unfold Dj at *;omega),dj_rm _ (by unfold Dj at *;omega),fun _ _=> ?_,fun _ _=> ?_,zo1.sub (by omega),offq fa ga,offq fb gb,rcv_stk kw.st rzi (.inl (by omega))⟩
  (M _ _ la lb) it IA IB hab hta htb htz haz hbz).mono ?_
 ·rcases ea with h|h
  ·exact .inl h
  ·exact .inr (by omega)
 ·rcases eb with h|h
  ·exact .inl h
  ·exact .inr (by omega)
 exact fun en w2 hI=>kz_post C.base kw ht hiL DA DB lab htz WZ ZL Z0 hI
theorem kar_add0(C:KC0 n h r s q z oz cz bx ox cx bt ot u0 u1 v0 v1 p0 p1 r0 r1 t0 t1 t2 tx ty w){q1:Option StkSt}{w1:World}(kw:KW n h s q z oz bt ot t0 t1 t2 tx ty w q1 w1){k k':Nat}{V:Int}{n1:Bool}{A1:Option Addr}{b1 o1 c1:Nat}{f:List Int}(K:KN w.heap.size t1 bt ot (2*h+1) k V w1 n1 A1 b1 o1 c1 f)
 {t i:Nat}{g:List Int}(ht:t=t0\/t=t2)(ig:IntB w1 t false (some ⟨z,oz+i,none⟩) g.length (cz-i))(ng:Nm w1 (some ⟨z,oz+i,none⟩) z (oz+i) (cz-i) g)(dg:DG 18446744073709551616 g)(zg:NZ g)(lg:i+g.length<=2*n)(hc:0<c1\/w1.heap.size<=b1)(hk:k<k')(hk':k'<=2*h+2)(hgk:g.length<k')(hV: -18446744073709551616^k'<V+val 18446744073709551616 g/\V+val 18446744073709551616 g<18446744073709551616^k'):
 Calls Tryz.prog 63 #[.pointer (some ⟨t1,0,none⟩),.pointer (some ⟨t1,0,none⟩),.pointer (some ⟨t,0,none⟩)] w1 fun e w2=>e= .returned (.pointer (some ⟨t1,0,none⟩))/\ ∃n2 A2 b2 o2 c2 f2,KW n h s q z oz bt ot t0 t1 t2 tx ty w q1 w2/\KN w.heap.size t1 bt ot (2*h+1) k' (V+val 18446744073709551616 g) w2 n2 A2 b2 o2 c2 f2/\Fc 51 (fun b j=>b=t1\/In1 bt ot (2*h+2) b j\/w.heap.size<=b) w1 w2:=by
 have D:=C.kd;obtain⟨e1,e2,e3,e4,e5,e6,e7,e8,e9,e10⟩:=D.t;obtain⟨z1,z2,z3,z4,z5,z6,z7,z8,z9⟩:=D.z;obtain⟨x1,x2,x3,x4,x5,x6,x7,x8,x9⟩:=D.b;have n40:=C.n40;have few:=C.few;have hh:=C.hh;have cz2:=C.cz2;have cz9:=C.cz9;have zt:=C.zt;have hsz:=kw.fc.size;have zlt:=C.rz.lt (by omega);have btlt:=C.rt.lt (by omega);have t1lt:=C.i1.lt
 have tlt:t<w.heap.size:=by
  rcases ht with rfl|rfl
  ·exact C.i0.lt
  ·exact C.i2.lt
 have tz:t≠z:=by
  rcases ht with rfl|rfl
  ·exact z5
  ·exact z7
 have tb:t≠bt:=by
  rcases ht with rfl|rfl
  ·exact x5
  ·exact x7
 have t1t:t1≠t:=by
  rcases ht with rfl|rfl
  ·exact fun e=>e1 e.symm
  ·exact e5
 have pl:(b1=bt/\o1=ot/\c1=2*h+1)\/(w.heap.size<=b1/\c1<=2000000):=K.pl.imp (fun h=>h.2) id;have fl:=K.l;have lgm:=ng.le
 refine(intAdd_any k' t1 n1 A1 f.length b1 o1 c1 t1 n1 A1 b1 o1 c1 f t _ z (oz+i) (cz-i) g w1 K.i K.n.rcv K.n.le (by omega) t1t (by omega) (by omega) K.i K.n K.dg K.nz ig ng dg zg (by omega) hgk (by omega) (by omega) (by omega) (by omega) (fun _=> .inr ⟨rfl,rfl⟩) (fun _=> .inl (by
  rcases pl with⟨rfl,rfl,_⟩|hp
  ·unfold Dj at *;omega
  ·exact .inl (by omega)))).mono ?_;rintro e w2 ⟨n2,A2,b2,o2,c2,f2,rfl,hi,hn,hd,hz,hv,hp,hf⟩;rw[K.v]at hv;have hl:f2.length<=k':=len_le (by omega) hd hz (sg_bd (val_nonneg (by omega) hd) hv hV.2 hV.1);have hst:=kw.st;have hbs:=rcv_stk hst K.n.rcv (hc.imp id (fun hb=>⟨fun e=>by have:=stk_lt hst (i:=0) (show StS s q1 s 0 by cases q1 with|none=>exact rfl|some x=>exact .inl rfl);omega,fun x hx e=>by subst hx;have:=stk_lt hst (b:=x.si) (i:=0) (.inr (.inl rfl));omega⟩))
 have hkst:StkAt w2 s q1:=by
  refine hst.fc hf (fun j hh=> ?_) (fun x hx j hh=> ?_)
  ·rcases hh with hh|hh
   ·exact K.i.stk hst 0 (by rw[<-hh];cases q1 with|none=>exact rfl|some x=>exact .inl rfl)
   ·exact hbs.1 hh.1.symm
  ·subst hx
   rcases hh with hh|hh
   ·exact K.i.stk hst 0 (by rw[<-hh];exact .inr (.inl rfl))
   ·exact hbs.2 x rfl hh.1.symm
 refine⟨rfl,n2,A2,b2,o2,c2,f2,⟨kw.fc.trans hf (fun b j hh hlt=> ?_),hkst,kw.le,kw.ll⟩,⟨hi,hn,hd,hz,hv,hl,?_⟩,hf.mono (fun b j hh _=>hh.imp id (fun hh=> ?_))⟩
 ·rcases hh with hh|⟨rfl,h2,h3⟩
  ·exact .inr (.inl hh)
  ·rcases pl with⟨rfl,rfl,_⟩|hp
   ·exact .inr (.inr (.inr (.inr (.inr (.inr (.inr ⟨rfl,h2,by omega⟩))))))
   ·omega
 ·rcases hp with⟨rfl,rfl,rfl,rfl⟩|hp
  ·exact K.pl
  ·exact .inr ⟨Nat.le_trans hsz hp.1,hp.2⟩
 ·rcases pl with⟨rfl,rfl,_⟩|hp
  ·exact .inl ⟨hh.1,hh.2.1,by have:=hh.2.2;omega⟩
  ·exact .inr (by have:=hh.1;omega)
theorem kar_add(C:KC0 n h r s q z oz cz bx ox cx bt ot u0 u1 v0 v1 p0 p1 r0 r1 t0 t1 t2 tx ty w){q1:Option StkSt}{w1:World}(kw:KW n h s q z oz bt ot t0 t1 t2 tx ty w q1 w1){k k':Nat}{V:Int}{n1:Bool}{A1:Option Addr}{b1 o1 c1:Nat}{f:List Int}(K:KN w.heap.size t1 bt ot (2*h+1) k V w1 n1 A1 b1 o1 c1 f)
 {t i:Nat}{g:List Int}(ht:t=t0\/t=t2)(ig:IntB w1 t false (some ⟨z,oz+i,none⟩) g.length (cz-i))(ng:Nm w1 (some ⟨z,oz+i,none⟩) z (oz+i) (cz-i) g)(dg:DG 18446744073709551616 g)(zg:NZ g)(lg:i+g.length<=2*n)(hk:k<k')(hk':k'<=2*h+2)(hgk:g.length<k')(hV: -18446744073709551616^k'<V+val 18446744073709551616 g/\V+val 18446744073709551616 g<18446744073709551616^k'):
 Calls Tryz.prog 63 #[.pointer (some ⟨t1,0,none⟩),.pointer (some ⟨t1,0,none⟩),.pointer (some ⟨t,0,none⟩)] w1 fun e w2=>e= .returned (.pointer (some ⟨t1,0,none⟩))/\ ∃n2 A2 b2 o2 c2 f2,KW n h s q z oz bt ot t0 t1 t2 tx ty w q1 w2/\KN w.heap.size t1 bt ot (2*h+1) k' (V+val 18446744073709551616 g) w2 n2 A2 b2 o2 c2 f2/\Fc 51 (fun b j=>b=t1\/In1 bt ot (2*h+2) b j\/w.heap.size<=b) w1 w2:=by
 by_cases hc:0<c1
 ·exact kar_add0 C kw K ht ig ng dg zg lg (.inl hc) hk hk' hgk hV
 ·obtain rfl:c1=0:=by omega
  have hf0:f=[]:=List.eq_nil_of_length_eq_zero (by have:=K.n.le;omega);subst hf0;exact kar_add0 C kw (b1:=w1.heap.size) (o1:=0) ⟨K.i,⟨by simp,⟨by simp[maxLen],.inl rfl⟩,fun hp=>by simp at hp⟩,K.dg,K.nz,K.v,K.l,.inr ⟨kw.fc.size,by omega⟩⟩ ht ig ng dg zg lg (.inr (Nat.le_refl _)) hk hk' hgk hV
end
end Go.Proofs.YthecibbmbnpegaaGreatDoor
end
section
namespace Go.Proofs.YthecibbmbnpegaaGreatDoor
open Go.Big Go.RowKit
theorem KN.bd{N p b0 o0 c0 k:Nat}{V:Int}{w:World}{neg:Bool}{A:Option Addr}{b o c:Nat}{d:List Int}(K:KN N p b0 o0 c0 k V w neg A b o c d): -18446744073709551616^k<V/\V<18446744073709551616^k:=by
 have h:=val_pow K.dg K.l (Nat.le_refl _);have hv:=K.v;unfold sg at hv;cases neg<;>simp at hv<;>omega
theorem two_pow{x y:Int}{k k':Nat}(hx:x<18446744073709551616^k)(hy:y<18446744073709551616^k')(hk:k'<=k):x+y<18446744073709551616^(k+1):=by
 have h:=pow_le_pow_ (B:=18446744073709551616) (by omega) hk;have hp:=pow_pos_ (B:=18446744073709551616) (by omega) k;rw[Int.pow_succ];omega
theorem low_pow{x:Int}{k:Nat}(hx: -18446744073709551616^k<x): -18446744073709551616^(k+1)<x:=by
 have h:=pow_pos_ (B:=18446744073709551616) (by omega) k;rw[Int.pow_succ];omega
section
variable {n h r s:Nat}{q:Option StkSt}{z oz cz bx ox cx by_ oy cy bt ot:Nat}{u0 u1 v0 v1:List Int}{p0 p1 r0 r1 t0 t1 t2 tx ty:Nat}{w:World}
def S3(n h r s:Nat)(q:Option StkSt)(z oz cz bt ot t0 t1 t2 tx ty:Nat)(V:Int)(w w1:World):Prop:= ∃q' n1 A1 b1 o1 c1 f,K3 n h r s q z oz cz bt ot t0 t1 t2 tx ty (2*h) V w q' n1 A1 b1 o1 c1 f w1
def S4(n h r s:Nat)(q:Option StkSt)(z oz cz bt ot t0 t1 t2 tx ty:Nat)(V:Int)(w w1:World):Prop:=S3 n h r s q z oz cz bt ot t0 t1 t2 tx ty V w w1/\Wr 51 w1 z oz (List.replicate (2*n) 0)
structure KG(z oz cz t i L:Nat)(V:Int)(g:List Int)(w1:World):Prop where
 ib:IntB w1 t false (some ⟨z,oz+i,none⟩) g.length (cz-i)
 nm:Nm w1 (some ⟨z,oz+i,none⟩) z (oz+i) (cz-i) g
 dg:DG 18446744073709551616 g
 nz:NZ g
 v:val 18446744073709551616 g=V
 l:g.length<=L
structure KF(L:Nat)(V:Int)(F:List Int):Prop where
 fl:F.length=L
 fd:DG 18446744073709551616 F
 fv:val 18446744073709551616 F=V
def S5(n h r s:Nat)(q:Option StkSt)(z oz cz bt ot t0 t1 t2 tx ty:Nat)(V Z0:Int)(w w1:World):Prop:=
 ∃q' n1 A1 b1 o1 c1 f g0 F0,KW n h s q z oz bt ot t0 t1 t2 tx ty w q' w1/\KN w.heap.size t1 bt ot (2*h+1) (2*h) V w1 n1 A1 b1 o1 c1 f/\(b1=bt/\o1=ot/\c1=2*h+1)/\IntB w1 t2 false (some ⟨z,oz+2*h,none⟩) (2*r) (cz-2*h)/\KG z oz cz t0 0 (2*h) Z0 g0 w1/\KF (2*h) Z0 F0/\Wr 51 w1 z oz (F0++List.replicate (2*r) 0)
def S6(n h r s:Nat)(q:Option StkSt)(z oz cz bt ot t0 t1 t2 tx ty k:Nat)(V Z0 Z2:Int)(w w1:World):Prop:=
 ∃q' n1 A1 b1 o1 c1 f g0 g2 F0 F2,KW n h s q z oz bt ot t0 t1 t2 tx ty w q' w1/\KN w.heap.size t1 bt ot (2*h+1) k V w1 n1 A1 b1 o1 c1 f/\KG z oz cz t0 0 (2*h) Z0 g0 w1/\KG z oz cz t2 (2*h) (2*r) Z2 g2 w1/\KF (2*h) Z0 F0/\KF (2*r) Z2 F2/\Wr 51 w1 z oz (F0++F2)
theorem KG.keep{t i L:Nat}{V:Int}{g:List Int}{S:Nat->Nat->Prop}{w1 w2:World}(G:KG z oz cz t i L V g w1)(hf:Fc 51 S w1 w2)(ht: ∀j,¬ S t j)(ho:Off S z (oz+i) g.length):KG z oz cz t i L V g w2:=
 ⟨G.ib.fc hf ht,G.nm.fc hf ho,G.dg,G.nz,G.v,G.l⟩
theorem kar_clear(C:KC0 n h r s q z oz cz bx ox cx bt ot u0 u1 v0 v1 p0 p1 r0 r1 t0 t1 t2 tx ty w){V:Int}{w1 w2:World}(K:S3 n h r s q z oz cz bt ot t0 t1 t2 tx ty V w w1){L:List Int}(hL:Row .u64 51 w1 z L)(hl:oz+2*n<=L.length)(row:Row .u64 51 w2 z (spl L oz (List.replicate (2*n) 0)))(f:Fr [z] w1 w2):
 S4 n h r s q z oz cz bt ot t0 t1 t2 tx ty V w w2:=by
 obtain⟨q',n1,A1,b1,o1,c1,g,K⟩:=K;have D:=C.kd;obtain⟨z1,z2,z3,z4,z5,z6,z7,z8,z9⟩:=D.z;have zt:=C.zt;have gl:=K.d1.l;have zlt:=C.rz.lt (by have:=C.cz2;have:=C.n40;omega);have hlr:(List.replicate (2*n) (0:Int)).length=2*n:=List.length_replicate;have hf:Fc 51 (In1 z oz (2*n)) w1 w2:=fc_row (L':=L) hL row f (by rw[hlr];exact hl) (fun i h1 h2=>⟨rfl,h1,by rw[hlr]at h2;exact h2⟩);have hst:StkAt w2 s q':=K.kw.st.fc hf (fun i hh=>K.kw.st.row_ne hL hh.1.symm) (fun x hx i hh=>by subst hx;exact K.kw.st.2.row_ne hL hh.1.symm);refine⟨⟨q',n1,A1,b1,o1,c1,g,⟨⟨K.kw.fc.t (hf.mono (fun b j hh _=> .inr (.inr (.inr (.inr (.inr (.inr (.inl hh)))))))),hst,K.kw.le,K.kw.ll⟩,K.d1.fc hf (fun i hh=>z6 hh.1) (fun i h1 h2 hh=> ?_),K.pe,K.i0.fc hf (fun i hh=>z5 hh.1),K.i2.fc hf (fun i hh=>z7 hh.1)⟩⟩,Wr.of_spl row (by rw[hlr];exact hl)⟩;obtain⟨rfl,rfl,_⟩:=K.pe;exact zt.symm.off i h1 (by omega) hh
theorem s5_post(C:KC0 n h r s q z oz cz bx ox cx bt ot u0 u1 v0 v1 p0 p1 r0 r1 t0 t1 t2 tx ty w){V U:Int}{w1 w2:World}{q' q2:Option StkSt}{n1:Bool}{A1:Option Addr}{b1 o1 c1:Nat}{f g F:List Int}(K:K3 n h r s q z oz cz bt ot t0 t1 t2 tx ty (2*h) V w q' n1 A1 b1 o1 c1 f w1)(G:KZ n h s q z oz cz bt ot t0 t1 t2 tx ty t0 0 (2*h) U w q' (List.replicate (2*n) 0) w1 q2 g F w2):
 S5 n h r s q z oz cz bt ot t0 t1 t2 tx ty V U w w2:=by
 have D:=C.kd;obtain⟨e1,e2,e3,e4,e5,e6,e7,e8,e9,e10⟩:=D.t;obtain⟨z1,z2,z3,z4,z5,z6,z7,z8,z9⟩:=D.z;obtain⟨x1,x2,x3,x4,x5,x6,x7,x8,x9⟩:=D.b;have n40:=C.n40;have hh:=C.hh;have hr:=C.hr;have zt:=C.zt;have gl:=K.d1.l;have zlt:=C.rz.lt (by have:=C.cz2;omega);refine⟨q2,n1,A1,b1,o1,c1,f,g,F,G.kw,K.d1.fc G.fc (fun i hh=> ?_) (fun i h1 h2 hh=> ?_),K.pe,K.i2.fc G.fc (fun i hh=> ?_),⟨G.ib,G.nm,G.dg,G.nz,G.v,G.l⟩,⟨G.fl,G.fd,G.fv⟩,?_⟩
 ·rcases hh with hh|hh|hh
  ·exact e1 hh.symm
  ·exact K.d1.i.stk K.kw.st i hh
  ·exact z6 hh.1
 ·obtain⟨rfl,rfl,_⟩:=K.pe
  rcases hh with hh|hh|hh
  ·exact x5 hh.symm
  ·exact off_le K.kw.le (Nat.le_of_eq K.kw.ll.symm) C.to_ (C.rt.lt (by omega)) i h1 (by omega) hh
  ·exact zt.symm.off i h1 (by omega) ⟨hh.1,by have:=hh.2.1;omega,by have:=hh.2.2;omega⟩
 ·rcases hh with hh|hh|hh
  ·exact e2 hh.symm
  ·exact K.i2.stk K.kw.st i hh
  ·exact z7 hh.1
 ·have:=G.wz
  have e:spl (List.replicate (2*n) (0:Int)) 0 F=F++List.replicate (2*r) 0:=by
   unfold spl;rw[List.take_zero,List.nil_append,Nat.zero_add,G.fl,List.drop_replicate];congr 2;omega
  rwa[e]at this
theorem kar_m0(M: ∀a b,a<=h->b<=h->MulOK a b)(C:KC n h r s q z oz cz bx ox cx by_ oy cy bt ot u0 u1 v0 v1 p0 p1 r0 r1 t0 t1 t2 tx ty w){V:Int}{w1:World}(K:S4 n h r s q z oz cz bt ot t0 t1 t2 tx ty V w w1):
 Calls Tryz.prog 84 #[.pointer (some ⟨t0,0,none⟩),.pointer (some ⟨s,0,none⟩),.pointer (some ⟨p0,0,none⟩),.pointer (some ⟨r0,0,none⟩)] w1 fun e w2=>e= .returned (.tuple #[])/\S5 n h r s q z oz cz bt ot t0 t1 t2 tx ty V (val 18446744073709551616 u0*val 18446744073709551616 v0) w w2:=by
 obtain⟨⟨q',n1,A1,b1,o1,c1,f,K⟩,WZ⟩:=K;have D:=C.kd;obtain⟨e1,e2,e3,e4,e5,e6,e7,e8,e9,e10⟩:=D.t;obtain⟨z1,z2,z3,z4,z5,z6,z7,z8,z9⟩:=D.z;obtain⟨x1,x2,x3,x4,x5,x6,x7,x8,x9⟩:=D.b;obtain⟨a1,a2,a3,a4,a5,a6⟩:=D.a;have O:=C.ops K.kw.fc;have n40:=C.n40;have hh:=C.hh;have hr:=C.hr;have lu0:=C.lu0;have lv0:=C.lv0;have m0:=C.np0.le;have k0:=C.nr0.le;have zt:=C.zt;have gl:=K.d1.l;have zlt:=C.rz.lt (by have:=C.cz2;omega)
 have z0:(List.drop 0 (List.replicate (2*n) (0:Int))).take (2*h)=List.replicate (2*h) 0:=by
  rw[List.drop_zero,List.take_replicate];congr 1;omega
 refine(kar_mz M C K.kw (t:=t0) (i:=0) (L:=2*h) (.inl rfl) K.i0 (by omega) (by omega) O.ip0 O.np0 C.du0 lu0 O.ir0 O.nr0 C.dv0 lv0 (by omega) a2 (fun e=>D.p.1 e.symm) (fun e=>D.r.1 e.symm) z5 z1 z3 (C.xz.sub1 (by omega) (Nat.le_refl _)) (C.yz.sub1 (by omega) (Nat.le_refl _)) C.ex C.ey C.xo C.yo (fun hc=>C.np0.rcv.lt hc) (fun hc=>C.nr0.rcv.lt hc) C.cx9 C.cy9 WZ List.length_replicate z0).mono ?_;rintro e w2 ⟨rfl,q2,g,F,G⟩;exact⟨rfl,s5_post C.base K G⟩
theorem s6_post(C:KC0 n h r s q z oz cz bx ox cx bt ot u0 u1 v0 v1 p0 p1 r0 r1 t0 t1 t2 tx ty w){V Z0 U:Int}{w1 w2:World}{q' q2:Option StkSt}{n1:Bool}{A1:Option Addr}{b1 o1 c1:Nat}{f g0 F0 g F:List Int}(kw:KW n h s q z oz bt ot t0 t1 t2 tx ty w q' w1)(d1:KN w.heap.size t1 bt ot (2*h+1) (2*h) V w1 n1 A1 b1 o1 c1 f)(pe:b1=bt/\o1=ot/\c1=2*h+1)(G0:KG z oz cz t0 0 (2*h) Z0 g0 w1)(KF0:KF (2*h) Z0 F0)(G:KZ n h s q z oz cz bt ot t0 t1 t2 tx ty t2 (2*h) (2*r) U w q' (F0++List.replicate (2*r) 0) w1 q2 g F w2):
 S6 n h r s q z oz cz bt ot t0 t1 t2 tx ty (2*h) V Z0 U w w2:=by
 have D:=C.kd;obtain⟨e1,e2,e3,e4,e5,e6,e7,e8,e9,e10⟩:=D.t;obtain⟨z1,z2,z3,z4,z5,z6,z7,z8,z9⟩:=D.z;obtain⟨x1,x2,x3,x4,x5,x6,x7,x8,x9⟩:=D.b;have n40:=C.n40;have hh:=C.hh;have hr:=C.hr;have cz2:=C.cz2;have zt:=C.zt;have gl:=d1.l;have zlt:=C.rz.lt (by omega);have g0l:=G0.l;have hF0:=KF0.fl;refine⟨q2,n1,A1,b1,o1,c1,f,g0,g,F0,F,G.kw,d1.fc G.fc (fun i hh=> ?_) (fun i h1 h2 hh=> ?_),G0.keep G.fc (fun i hh=> ?_) (fun i h1 h2 hh=> ?_),⟨G.ib,G.nm,G.dg,G.nz,G.v,G.l⟩,KF0,⟨G.fl,G.fd,G.fv⟩,?_⟩
 ·rcases hh with hh|hh|hh
  ·exact e5 hh
  ·exact d1.i.stk kw.st i hh
  ·exact z6 hh.1
 ·obtain⟨rfl,rfl,_⟩:=pe
  rcases hh with hh|hh|hh
  ·exact x7 hh.symm
  ·exact off_le kw.le (Nat.le_of_eq kw.ll.symm) C.to_ (C.rt.lt (by omega)) i h1 (by omega) hh
  ·exact zt.symm.off i h1 (by omega) ⟨hh.1,by have:=hh.2.1;omega,by have:=hh.2.2;omega⟩
 ·rcases hh with hh|hh|hh
  ·exact e2 hh
  ·exact G0.ib.stk kw.st i hh
  ·exact z5 hh.1
 ·rcases hh with hh|hh|hh
  ·exact z7 hh.symm
  ·exact off_le kw.le (Nat.le_of_eq kw.ll.symm) C.zo zlt i (by omega) (by omega) hh
  ·have:=hh.2.1;omega
 ·have:=G.wz
  have e:spl (F0++List.replicate (2*r) (0:Int)) (2*h) F=F0++F:=by
   unfold spl;rw[G.fl,<- hF0,List.take_left,List.drop_append,List.drop_eq_nil_of_le (by omega),List.nil_append,List.drop_replicate,show 2*r-(F0.length+2*r-F0.length)=0 by omega,List.replicate_zero,List.append_nil]
  rwa[e]at this
theorem kar_m2(M: ∀a b,a<=h->b<=h->MulOK a b)(C:KC n h r s q z oz cz bx ox cx by_ oy cy bt ot u0 u1 v0 v1 p0 p1 r0 r1 t0 t1 t2 tx ty w){V Z0:Int}{w1:World}(K:S5 n h r s q z oz cz bt ot t0 t1 t2 tx ty V Z0 w w1):
 Calls Tryz.prog 84 #[.pointer (some ⟨t2,0,none⟩),.pointer (some ⟨s,0,none⟩),.pointer (some ⟨p1,0,none⟩),.pointer (some ⟨r1,0,none⟩)] w1 fun e w2=>e= .returned (.tuple #[])/\S6 n h r s q z oz cz bt ot t0 t1 t2 tx ty (2*h) V Z0 (val 18446744073709551616 u1*val 18446744073709551616 v1) w w2:=by
 obtain⟨q',n1,A1,b1,o1,c1,f,g0,F0,kw,d1,pe,i2,G0,KF0,WZ⟩:=K;have D:=C.kd;obtain⟨e1,e2,e3,e4,e5,e6,e7,e8,e9,e10⟩:=D.t;obtain⟨z1,z2,z3,z4,z5,z6,z7,z8,z9⟩:=D.z;obtain⟨x1,x2,x3,x4,x5,x6,x7,x8,x9⟩:=D.b;obtain⟨a1,a2,a3,a4,a5,a6⟩:=D.a;have O:=C.ops kw.fc;have n40:=C.n40;have few:=C.few;have hh:=C.hh;have hr:=C.hr;have cz2:=C.cz2;have lu1:=C.lu1;have lv1:=C.lv1;have m1:=C.np1.le;have k1:=C.nr1.le;have zt:=C.zt;have xz:=C.xz;have yz:=C.yz;have gl:=d1.l;have cx9:=C.cx9;have cy9:=C.cy9;have zlt:=C.rz.lt (by omega);have g0l:=G0.l;have hF0:=KF0.fl;have ex:=C.ex;have ey:=C.ey
 have z0:(List.drop (2*h) (F0++List.replicate (2*r) (0:Int))).take (2*r)=List.replicate (2*r) 0:=by
  rw[<-hF0,List.drop_left,List.take_of_length_le (by rw[List.length_replicate];exact Nat.le_refl _)]
 have offC: ∀{b o c:Nat},h<=c\/c<h->Off (StS s q) b o c->Off (StS s q) b (o+h) (c-h):=fun _ ho j a1 a2 hh=>ho j (by omega) (by omega) hh
 refine(kar_mz M C kw (t:=t2) (i:=2*h) (L:=2*r) (.inr rfl) i2 (by omega) (by omega) O.ip1 O.np1 C.du1 (by omega) O.ir1 O.nr1 C.dv1 (by omega) (by omega) a5 (fun e=>D.p.2.2.2.2.2.2.2.1 e.symm) (fun e=>D.r.2.2.2.2.2.2.2.1 e.symm) z7 z2 z4 (by unfold Dj at *;omega) (by unfold Dj at *;omega) ?_ ?_ (offC (by omega) C.xo) (offC (by omega) C.yo) (fun hc=>C.np1.rcv.lt hc) (fun hc=>C.nr1.rcv.lt hc) (by omega) (by omega) WZ (by rw[List.length_append,hF0,List.length_replicate];omega) z0).mono ?_
 ·have:=C.cxn;omega
 ·have:=C.cyn;omega
 rintro e w2 ⟨rfl,q2,g,F,G⟩;exact⟨rfl,s6_post C.base kw d1 pe G0 KF0 G⟩
theorem add_keep(C:KC0 n h r s q z oz cz bx ox cx bt ot u0 u1 v0 v1 p0 p1 r0 r1 t0 t1 t2 tx ty w){w1 w2:World}{t i L:Nat}{V:Int}{g:List Int}(ht:t=t0\/t=t2)(hL:i+L<=2*n)(G:KG z oz cz t i L V g w1)(hf:Fc 51 (fun b j=>b=t1\/In1 bt ot (2*h+2) b j\/w.heap.size<=b) w1 w2):KG z oz cz t i L V g w2:=by
 have D:=C.kd;obtain⟨e1,e2,e3,e4,e5,e6,e7,e8,e9,e10⟩:=D.t;obtain⟨z1,z2,z3,z4,z5,z6,z7,z8,z9⟩:=D.z;obtain⟨x1,x2,x3,x4,x5,x6,x7,x8,x9⟩:=D.b;have zt:=C.zt;have gl:=G.l;have zlt:=C.rz.lt (by have:=C.cz2;have:=C.n40;omega);refine G.keep hf (fun j hh=> ?_) (fun j h1 h2 hh=> ?_)
 ·rcases hh with hh|hh|hh
  ·rcases ht with rfl|rfl
   ·exact e1 hh
   ·exact e5 hh.symm
  ·rcases ht with rfl|rfl
   ·exact x5 hh.1
   ·exact x7 hh.1
  ·rcases ht with rfl|rfl
   ·have:=C.i0.lt;omega
   ·have:=C.i2.lt;omega
 ·rcases hh with hh|hh|hh
  ·exact z6 hh.symm
  ·exact zt.off j (by omega) (by omega) hh
  ·omega
theorem add_keepW(C:KC0 n h r s q z oz cz bx ox cx bt ot u0 u1 v0 v1 p0 p1 r0 r1 t0 t1 t2 tx ty w){w1 w2:World}{Z:List Int}(W:Wr 51 w1 z oz Z)(hZ:Z.length=2*n)(hf:Fc 51 (fun b j=>b=t1\/In1 bt ot (2*h+2) b j\/w.heap.size<=b) w1 w2):Wr 51 w2 z oz Z:=by
 have D:=C.kd;obtain⟨z1,z2,z3,z4,z5,z6,z7,z8,z9⟩:=D.z;have zlt:=C.rz.lt (by have:=C.cz2;have:=C.n40;omega);refine W.fc hf (fun j h1 h2 hh=> ?_);rw[hZ]at h2;rcases hh with hh|hh|hh
 ·exact z6 hh.symm
 ·exact C.zt.off j h1 h2 hh
 ·omega
theorem kar_a0(C:KC0 n h r s q z oz cz bx ox cx bt ot u0 u1 v0 v1 p0 p1 r0 r1 t0 t1 t2 tx ty w){V Z0 Z2:Int}{w1:World}(K:S6 n h r s q z oz cz bt ot t0 t1 t2 tx ty (2*h) V Z0 Z2 w w1):
 Calls Tryz.prog 63 #[.pointer (some ⟨t1,0,none⟩),.pointer (some ⟨t1,0,none⟩),.pointer (some ⟨t0,0,none⟩)] w1 fun e w2=>e= .returned (.pointer (some ⟨t1,0,none⟩))/\S6 n h r s q z oz cz bt ot t0 t1 t2 tx ty (2*h+1) (V+Z0) Z0 Z2 w w2:=by
 obtain⟨q',n1,A1,b1,o1,c1,f,g0,g2,F0,F2,kw,d1,G0,G2,KF0,KF2,WZ⟩:=K;have hr:=C.hr;have hh:=C.hh;have n40:=C.n40;have bd:=d1.bd;have g0l:=G0.l;have bg:=val_pow G0.dg G0.l (Nat.le_refl _);rw[G0.v]at bg;refine(kar_add C kw d1 (t:=t0) (i:=0) (g:=g0) (.inl rfl) G0.ib G0.nm G0.dg G0.nz (by omega) (k':=2*h+1) (by omega) (by omega) (by omega) ?_).mono ?_
 ·rw[G0.v]
  exact⟨by have:=low_pow bd.1;omega,two_pow bd.2 bg.2 (Nat.le_refl _)⟩
 rintro e w2 ⟨rfl,n2,A2,b2,o2,c2,f2,kw2,d2,hf⟩;rw[G0.v]at d2;exact⟨rfl,q',n2,A2,b2,o2,c2,f2,g0,g2,F0,F2,kw2,d2,add_keep C (.inl rfl) (by omega) G0 hf,add_keep C (.inr rfl) (by omega) G2 hf,KF0,KF2,add_keepW C WZ (by rw[List.length_append,KF0.fl,KF2.fl];omega) hf⟩
theorem kar_a2(C:KC0 n h r s q z oz cz bx ox cx bt ot u0 u1 v0 v1 p0 p1 r0 r1 t0 t1 t2 tx ty w){V Z0 Z2:Int}{w1:World}(K:S6 n h r s q z oz cz bt ot t0 t1 t2 tx ty (2*h+1) V Z0 Z2 w w1):
 Calls Tryz.prog 63 #[.pointer (some ⟨t1,0,none⟩),.pointer (some ⟨t1,0,none⟩),.pointer (some ⟨t2,0,none⟩)] w1 fun e w2=>e= .returned (.pointer (some ⟨t1,0,none⟩))/\S6 n h r s q z oz cz bt ot t0 t1 t2 tx ty (2*h+2) (V+Z2) Z0 Z2 w w2:=by
 obtain⟨q',n1,A1,b1,o1,c1,f,g0,g2,F0,F2,kw,d1,G0,G2,KF0,KF2,WZ⟩:=K;have hr:=C.hr;have hh:=C.hh;have n40:=C.n40;have bd:=d1.bd;have g2l:=G2.l;have bg:=val_pow G2.dg G2.l (Nat.le_refl _);rw[G2.v]at bg;refine(kar_add C kw d1 (t:=t2) (i:=2*h) (g:=g2) (.inr rfl) G2.ib G2.nm G2.dg G2.nz (by omega) (k':=2*h+2) (by omega) (by omega) (by omega) ?_).mono ?_
 ·rw[G2.v]
  exact⟨by have h9: -18446744073709551616^(2*h+2)<V:=low_pow bd.1;omega,two_pow bd.2 bg.2 (by omega)⟩
 rintro e w2 ⟨rfl,n2,A2,b2,o2,c2,f2,kw2,d2,hf⟩;rw[G2.v]at d2;exact⟨rfl,q',n2,A2,b2,o2,c2,f2,g0,g2,F0,F2,kw2,d2,add_keep C (.inl rfl) (by omega) G0 hf,add_keep C (.inr rfl) (by omega) G2 hf,KF0,KF2,add_keepW C WZ (by rw[List.length_append,KF0.fl,KF2.fl];omega) hf⟩
def S9(n h s:Nat)(q:Option StkSt)(z oz bt ot t0 t1 t2 tx ty:Nat)(V:Int)(w w1:World):Prop:=
 ∃q' zs,KW n h s q z oz bt ot t0 t1 t2 tx ty w q' w1/\Wr 51 w1 z oz zs/\zs.length=2*n/\DG 18446744073709551616 zs/\val 18446744073709551616 zs=V
theorem kar_alg(X0 X1 Y0 Y1 P:Int):X0*Y0+P*P*(X1*Y1)+P*((X0-X1)*(Y1-Y0)+X0*Y0+X1*Y1)=(X0+P*X1)*(Y0+P*Y1):=by grind
theorem kar_at(C:KC0 n h r s q z oz cz bx ox cx bt ot u0 u1 v0 v1 p0 p1 r0 r1 t0 t1 t2 tx ty w){X0 X1 Y0 Y1:Int}(hX0:X0=val 18446744073709551616 u0)(hX1:X1=val 18446744073709551616 u1)(hY0:Y0=val 18446744073709551616 v0)(hY1:Y1=val 18446744073709551616 v1){w1:World}
 (K:S6 n h r s q z oz cz bt ot t0 t1 t2 tx ty (2*h+2) ((X0-X1)*(Y1-Y0)+X0*Y0+X1*Y1) (X0*Y0) (X1*Y1) w w1):
 ∃n1 A1 l1 c1,IntB w1 t1 n1 A1 l1 c1/\ ∀W,Fr [] w1 W->Calls Tryz.prog 56 #[.slice (some ⟨z,oz+h,none⟩) (2*n-h:Nat) (cz-h:Nat),.slice A1 l1 c1] W fun e w2=>e= .returned (.tuple #[])/\S9 n h s q z oz bt ot t0 t1 t2 tx ty ((X0+18446744073709551616^h*X1)*(Y0+18446744073709551616^h*Y1)) w w2:=by
 obtain⟨q',n1,A1,b1,o1,c1,f,g0,g2,F0,F2,kw,d1,G0,G2,KF0,KF2,WZ⟩:=K;refine⟨n1,A1,f.length,c1,d1.i,fun W fW=> ?_⟩;have D:=C.kd;obtain⟨z1,z2,z3,z4,z5,z6,z7,z8,z9⟩:=D.z;have n40:=C.n40;have few:=C.few;have hh:=C.hh;have hr:=C.hr;have cz2:=C.cz2;have cz9:=C.cz9;have zt:=C.zt;have hF0:=KF0.fl;have hF2:=KF2.fl;have zlt:=C.rz.lt (by omega);have ZL:(F0++F2).length=2*n:=by rw[List.length_append];omega
 have ZD:DG 18446744073709551616 (F0++F2):=KF0.fd.append KF2.fd;have bu0:=val_pow C.du0 C.lu0 (Nat.le_refl _);have bu1:=val_pow C.du1 C.lu1 (Nat.le_refl _);have bv0:=val_pow C.dv0 C.lv0 (Nat.le_refl _);have bv1:=val_pow C.dv1 C.lv1 (Nat.le_refl _);rw[<-hX0]at bu0;rw[<-hX1]at bu1;rw[<-hY0]at bv0;rw[<-hY1]at bv1;obtain⟨P,hP⟩: ∃P,P=(18446744073709551616:Int)^h:=⟨_,rfl⟩;obtain⟨R,hR⟩: ∃R,R=(18446744073709551616:Int)^r:=⟨_,rfl⟩;have hP0:0<P:=by rw[hP];exact pow_pos_ (by omega) _
 have hR0:0<R:=by rw[hR];exact pow_pos_ (by omega) _
 have e2h:(18446744073709551616:Int)^(2*h)=P*P:=by rw[hP,<- Int.pow_add];congr 1;omega
 have e2n:(18446744073709551616:Int)^(2*n)=P*R*(P*R):=by
  rw[hP,hR,<- Int.pow_add,<- Int.pow_add];congr 1;omega
 have enh:(18446744073709551616:Int)^(2*n)=P*18446744073709551616^(2*n-h):=by
  rw[hP,<- Int.pow_add];congr 1;omega
 rw[<-hP]at bu0 bv0;rw[<-hR]at bu1 bv1;obtain⟨M,hM⟩: ∃M,M=(X0-X1)*(Y1-Y0)+X0*Y0+X1*Y1:=⟨_,rfl⟩;rw[<-hM]at d1;have hM2:M=X0*Y1+X1*Y0:=by rw[hM];grind
 have hM0:0<=M:=by
  rw[hM2];have:=Int.mul_nonneg bu0.1 bv1.1;have:=Int.mul_nonneg bu1.1 bv0.1;omega
 have alg:=kar_alg X0 X1 Y0 Y1 P;rw[<-hM]at alg;obtain⟨XX,hXX⟩: ∃XX,XX=X0+P*X1:=⟨_,rfl⟩;obtain⟨YY,hYY⟩: ∃YY,YY=Y0+P*Y1:=⟨_,rfl⟩;rw[<-hXX,<- hYY]at alg
 have bX:0<=XX/\XX<P*R:=by
  have h1:P*X1<=P*(R-1):=Int.mul_le_mul_of_nonneg_left (by omega) (by omega);have h2:=Int.mul_nonneg (Int.le_of_lt hP0) bu1.1;rw[Int.mul_sub,Int.mul_one]at h1;omega
 have bY:0<=YY/\YY<P*R:=by
  have h1:P*Y1<=P*(R-1):=Int.mul_le_mul_of_nonneg_left (by omega) (by omega);have h2:=Int.mul_nonneg (Int.le_of_lt hP0) bv1.1;rw[Int.mul_sub,Int.mul_one]at h1;omega
 have bXY:XX*YY<18446744073709551616^(2*n):=by
  rw[e2n];have h1:XX*YY<=XX*(P*R):=Int.mul_le_mul_of_nonneg_left (by omega) bX.1;have h2:XX*(P*R)<P*R*(P*R):=Int.mul_lt_mul_of_pos_right bX.2 (Int.mul_pos hP0 hR0);omega
 have p00:=Int.mul_nonneg bu0.1 bv0.1;have p11:=Int.mul_nonneg (Int.mul_nonneg (Int.le_of_lt hP0) (Int.le_of_lt hP0)) (Int.mul_nonneg bu1.1 bv1.1);have hPM:P*M<P*18446744073709551616^(2*n-h):=by rw[<-enh];omega
 have hMb:M<18446744073709551616^(2*n-h):=Int.lt_of_mul_lt_mul_left hPM (Int.le_of_lt hP0)
 have hfv:val 18446744073709551616 f=M:=by
  have h0:=val_nonneg (B:=18446744073709551616) (by omega) d1.dg;have hv:=d1.v;unfold sg at hv;cases n1<;>simp at hv<;>omega
 have hfl:f.length<=2*n-h:=len_le (by omega) d1.dg d1.nz (by rw[hfv];exact hMb);have WZW:=WZ.fr0 fW;refine(addTo_any z (oz+h) (cz-h) (2*n-h) A1 b1 o1 c1 f.length ((F0++F2).drop h) f W (WZW.drop h (by omega)) (by rw[List.length_drop,ZL]) (ZD.drop h) (d1.n.fr0 fW) d1.dg rfl hfl (by omega) (by omega) (by unfold maxLen;omega) (fun hp=> ?_)).mono ?_
 ·have fl:=d1.l
  have hn:=d1.n.le;rcases d1.pl with⟨_,rfl,rfl,_⟩|hp2
  ·unfold Dj at *;omega
  ·exact .inl (by omega)
 rintro e w2 ⟨us,c,rfl,g1,g2',g3,g4,g5,g6,g7⟩;have hU:=WZW.upd g1 (by rw[g2'];exact g4) (by rw[g2'];omega);have hUl:(spl (F0++F2) h us).length=2*n:=by rw[spl_len (by rw[g2'];omega),ZL]
 have hUd:=spl_dg (o:=h) ZD g3
 have hvz:val 18446744073709551616 (spl (F0++F2) h us)+18446744073709551616^(2*n)*c=XX*YY:=by
  rw[<-alg,val_spl (by rw[g2'];omega),g2',List.take_of_length_le (by rw[List.length_drop,ZL];omega),val_append,hF0,e2h,KF0.fv,KF2.fv,enh,<- hP];rw[hfv]at g7;generalize val 18446744073709551616 us=U at*;generalize val 18446744073709551616 ((F0++F2).drop h)=DD at*;generalize(18446744073709551616:Int)^(2*n-h)=Q at*;have e6:U=DD+M-Q*c:=by omega
  subst e6;grind
 have hc:c=0:=by
  rcases(by omega:c=0\/c=1)with h|h
  ·exact h
  ·exfalso
   subst h;have:=val_nonneg (B:=18446744073709551616) (by omega) hUd;omega
 subst hc;rw[Int.mul_zero,Int.add_zero]at hvz;have kwW:StkAt W s q':=kw.st.fr0 fW;have hzs:=rcv_stk kwW ((C.rz.fc kw.fc).fc (Fc.fr0 fW 51 (fun _ _=>False))) (.inl (by omega));refine⟨rfl,q',_,⟨(kw.fc.t (Fc.fr0 fW _ _)).t (g4.mono (fun b j hh _=> .inr (.inr (.inr (.inr (.inr (.inr (.inl ⟨hh.1,by have:=hh.2.1;omega,by have:=hh.2.2;omega⟩)))))))),kwW.fc g4 (fun j hj=>hzs.1 hj.1.symm) (fun p hp j hj=>hzs.2 p hp hj.1.symm),kw.le,kw.ll⟩,hU,hUl,hUd,?_⟩;rw[hvz,hXX,hYY,hP]
end
end Go.Proofs.YthecibbmbnpegaaGreatDoor
end
section
namespace Go.Proofs.YthecibbmbnpegaaGreatDoor
open Go.Big Go.RowKit
structure KHs(w:World)(b o c h:Nat)(d u0 u1:List Int)(p0 p1:Nat)(wx:World):Prop where
 i0:IntB wx p0 false (some ⟨b,o,none⟩) u0.length c
 i1:IntB wx p1 false (some ⟨b,o+h,none⟩) u1.length (c-h)
 n0:Nm w (some ⟨b,o,none⟩) b o c u0
 n1:Nm w (some ⟨b,o+h,none⟩) b (o+h) (c-h) u1
 d0:DG 18446744073709551616 u0
 d1:DG 18446744073709551616 u1
 z0:NZ u0
 z1:NZ u1
 l0:u0.length<=h
 l1:u1.length<=d.length-h
 v0:val 18446744073709551616 u0=val 18446744073709551616 (d.take h)
 v1:val 18446744073709551616 u1=val 18446744073709551616 (d.drop h)
 ne:p0≠p1
 g0:w.heap.size<=p0
 g1:w.heap.size<=p1
 s0:p0<wx.heap.size
 s1:p1<wx.heap.size
 f:Fr [] w wx
def KH(w:World)(b o c h:Nat)(d:List Int)(p0 p1:Nat)(wx:World):Prop:= ∃u0 u1,KHs w b o c h d u0 u1 p0 p1 wx
def KHalf(w:World)(b o c:Nat)(d u:List Int):Prop:=Nm w (some ⟨b,o,none⟩) b o c u/\DG 18446744073709551616 u/\NZ u/\val 18446744073709551616 u=val 18446744073709551616 d/\u.length<=d.length
theorem half_any(b o c:Nat)(d:List Int)(w W:World)(h:Nm w (some ⟨b,o,none⟩) b o c d)(hd:DG 18446744073709551616 d)(f:Fr [] w W):Calls Tryz.prog 34 #[.slice (some ⟨b,o,none⟩) d.length c] W fun e w'=>(∃u,e= .returned (.slice (some ⟨b,o,none⟩) u.length c)/\Hid (KHalf w b o c d u))/\W=w':=by
 refine(bnorm_any _ c d W h.1 h.max (fun hp=>⟨b,o,rfl,((h.fr0 f).2.2 hp)⟩)).mono ?_;rintro e w' ⟨i,hc,rfl,rfl⟩;obtain⟨h1,h2,h3,h4⟩:=cut_facts hd hc;exact⟨⟨d.take i,by rw[h1],κ ⟨h.cut hc.1,h2,h3,h4,by rw[h1];exact hc.1⟩⟩,rfl⟩
theorem two_alloc(w:World)(a b:Obj):((w.alloc a).alloc b).heap[w.heap.size]? =some a/\((w.alloc a).alloc b).heap[w.heap.size+1]? =some b/\Fr [] w ((w.alloc a).alloc b)/\((w.alloc a).alloc b).heap.size=w.heap.size+2:=by
 have h1:=heap_alloc_new w a;have h2:=heap_alloc_new (w.alloc a) b;have hs:(w.alloc a).heap.size=w.heap.size+1:=by simp
 refine⟨(Below.heap_alloc (w.alloc a) b w.heap.size (by omega)).trans h1,by rwa[hs]at h2,((Fr.refl _ _).alloc a).alloc b,by simp⟩
theorem kh_a{w:World}{b o c h:Nat}{d u0 u1:List Int}(H0:KHalf w b o c (d.take h) u0)(H1:KHalf w b (o+h) (c-h) (d.drop h) u1)(hl:h<=d.length):
 KH w b o c h d w.heap.size (w.heap.size+1) ((w.alloc (.cells #[.bool false,.slice (some ⟨b,o,none⟩) u0.length c] 45)).alloc (.cells #[.bool false,.slice (some ⟨b,o+h,none⟩) u1.length (c-h)] 45)):=by
 obtain⟨h1,h2,h3,h4⟩:=two_alloc w (.cells #[.bool false,.slice (some ⟨b,o,none⟩) u0.length c] 45) (.cells #[.bool false,.slice (some ⟨b,o+h,none⟩) u1.length (c-h)] 45);obtain⟨a1,a2,a3,a4,a5⟩:=H0;obtain⟨b1,b2,b3,b4,b5⟩:=H1;rw[List.length_take]at a5;rw[List.length_drop]at b5;exact⟨u0,u1,h1,h2,a1,b1,a2,b2,a3,b3,by omega,b5,a4,b4,by omega,by omega,by omega,by omega,by omega,h3⟩
theorem kh_b{w:World}{b o c h:Nat}{d u0 u1:List Int}(H0:KHalf w b o c (d.take h) u0)(H1:KHalf w b (o+h) (c-h) (d.drop h) u1)(hl:h<=d.length):
 KH w b o c h d (w.heap.size+1) w.heap.size ((w.alloc (.cells #[.bool false,.slice (some ⟨b,o+h,none⟩) u1.length (c-h)] 45)).alloc (.cells #[.bool false,.slice (some ⟨b,o,none⟩) u0.length c] 45)):=by
 obtain⟨h1,h2,h3,h4⟩:=two_alloc w (.cells #[.bool false,.slice (some ⟨b,o+h,none⟩) u1.length (c-h)] 45) (.cells #[.bool false,.slice (some ⟨b,o,none⟩) u0.length c] 45);obtain⟨a1,a2,a3,a4,a5⟩:=H0;obtain⟨b1,b2,b3,b4,b5⟩:=H1;rw[List.length_take]at a5;rw[List.length_drop]at b5;exact⟨u0,u1,h2,h1,a1,b1,a2,b2,a3,b3,by omega,b5,a4,b4,by omega,by omega,by omega,by omega,by omega,h3⟩
theorem KH.fr{w:World}{b o c h:Nat}{d:List Int}{p0 p1:Nat}{wx wy:World}(K:KH w b o c h d p0 p1 wx)(f:Fr [] wx wy):KH w b o c h d p0 p1 wy:=by
 obtain⟨u0,u1,K⟩:=K;exact⟨u0,u1,K.i0.fr0 f,K.i1.fr0 f,K.n0,K.n1,K.d0,K.d1,K.z0,K.z1,K.l0,K.l1,K.v0,K.v1,K.ne,K.g0,K.g1,Nat.lt_of_lt_of_le K.s0 f.size,Nat.lt_of_lt_of_le K.s1 f.size,K.f.t f⟩
structure KB(w:World)(p:Nat)(A:Option Addr)(l c:Nat)(wx:World):Prop where
 ib:IntB wx p false A l c
 g:w.heap.size<=p
 s:p<wx.heap.size
 f:Fr [] w wx
theorem kb_mk(w:World)(A:Option Addr)(l c:Nat):KB w w.heap.size A l c (w.alloc (.cells #[.bool false,.slice A l c] 45)):=
 ⟨heap_alloc_new w _,Nat.le_refl _,by simp,(Fr.refl _ _).alloc _⟩
theorem nat_dj2{w:World}{s b o c:Nat}{q:Option StkSt}(hnw:b<w.heap.size-> ∀i,o<=i->i<o+c->StS s q b i)(hc:0<c){bx ox nx:Nat}(hlt:bx<w.heap.size)(hof:Off (StS s q) bx ox nx):Dj bx ox nx b o (c+1):=
 nat_dj (c:=c+1) (fun hb i h1 _=>(hnw hb o (Nat.le_refl _) (by omega)).up h1) hlt hof
theorem kar_ctx{n h r s:Nat}{q q1:Option StkSt}{z oz cz bx ox cx by_ oy cy bt ot ct:Nat}{xs ys u0 u1 v0 v1:List Int}{p0 p1 r0 r1 t0 t1 t2 tx ty:Nat}{w w6 w7 w8 w9 w10 w11 w12 w13:World}
 (H:KarPre n s q z oz cz bx ox cx xs by_ oy cy ys w)(n40:40<=n)(hh:h=(n+1)/2)(hr:h+r=n)(KX:KHs w bx ox cx h xs u0 u1 p0 p1 w6)(KY:KHs w6 by_ oy cy h ys v0 v1 r0 r1 w7)(B0:KB w7 t0 (some ⟨z,oz,none⟩) (2*h) cz w8)(B2:KB w8 t2 (some ⟨z,oz+2*h,none⟩) (2*r) (cz-2*h) w9)
 (hct:ct=2*h+1)(hT: ∃L,Row .u64 51 w10 bt L/\ot+ct<=L.length)(st10:StkAt w10 s q1)(L5:StkLe w9.heap.size q q1)(l5:lenS q<=lenS q1)(l5':lenS q1<=lenS q+(2*h+1)+3)(F9:Fc 51 (StS s q) w9 w10)
 (hnw:bt<w9.heap.size-> ∀i,ot<=i->i<ot+ct->StS s q bt i)(hoff: ∀i,ot<=i->i<ot+ct-> ¬StS s q1 bt i)
 (B1:KB w10 t1 (some ⟨bt,ot,none⟩) (2*h+1) (2*h+1) w11)(BX:KB w11 tx (some ⟨z,oz,none⟩) h cz w12)(BY:KB w12 ty (some ⟨z,oz+h,none⟩) h (cz-h) w13):
 KC n h r s q1 z oz cz bx ox cx by_ oy cy bt ot u0 u1 v0 v1 p0 p1 r0 r1 t0 t1 t2 tx ty w13:=by
 have few:=H.few;have hlen:=H.len;have hxn:=H.xn;have hyn:=H.yn;have hxc:=H.x.le;have hyc:=H.y.le;have hcz:=H.lz;have hbx:=H.x.lt (by omega);have hby:=H.y.lt (by omega);have hbz:=H.rz.lt (by omega);have F7:Fr [] w w7:=KX.f.t KY.f;have F9':Fr [] w w9:=(F7.t B0.f).t B2.f;have F79:Fr [] w7 w9:=B0.f.t B2.f;have F69:Fr [] w6 w9:=KY.f.t F79;have FZ:Fr [] w10 w13:=(B1.f.t BX.f).t BY.f;have s6:=KX.f.size;have s7:=KY.f.size;have s8:=B0.f.size;have s9:=B2.f.size;have s10:=F9.size;have s11:=B1.f.size;have s12:=BX.f.size;have st9:=H.st.fr0 F9';have keep: ∀{p:Nat} {ng:Bool} {A:Option Addr} {l c:Nat},IntB w9 p ng A l c->IntB w13 p ng A l c:=fun hI=>(hI.fc F9 (hI.stk st9)).fr0 FZ
 have keepN: ∀{A:Option Addr} {b o c:Nat} {d:List Int},Nm w9 A b o c d->Off (StS s q) b o d.length->Nm w13 A b o c d:=fun hN ho=>(hN.fc F9 ho).fr0 FZ
 have offC: ∀{b o c m:Nat},Off (StS s q) b o c->m<=c-h->Off (StS s q) b (o+h) m:=fun ho hm j a1 a2 hx=>ho j (by omega) (by omega) hx
 have n0l:=KX.n0.le;have n1l:=KX.n1.le;have m0l:=KY.n0.le;have m1l:=KY.n1.le;have l1:=KX.l1;have k1:=KY.l1;obtain⟨L,hL,hLl⟩:=hT;have g0:=KX.g0;have g1:=KX.g1;have e0:=KX.s0;have e1:=KX.s1;have g2:=KY.g0;have g3:=KY.g1;have e2:=KY.s0;have e3:=KY.s1;have g4:=B0.g;have e4:=B0.s;have g5:=B2.g;have e5:=B2.s;have g6:=B1.g;have e6:=B1.s;have g7:=BX.g;have e7:=BX.s;have g8:=BY.g;have ne1:=KX.ne;have ne2:=KY.ne;have hct1:0<ct:=by omega
 subst hct
 refine⟨n40,few,hh,hr,H.lz,by omega,by omega,H.cz9,H.cx9,H.cy9,((H.thr.fr0 F9').fc F9 (glo_stk (H.thr.fr0 F9') st9 0)).fr0 FZ,st10.fr0 FZ,by omega,((H.rz.fc (Fc.fr0 F9' 51 (fun _ _=>False))).fc F9).fc (Fc.fr0 FZ 51 (fun _ _=>False)),(Rcv.of_row hL hLl (by unfold maxLen;omega)).fc (Fc.fr0 FZ 51 (fun _ _=>False)),
  keep (KX.i0.fr0 F69),keep (KX.i1.fr0 F69),keep (KY.i0.fr0 F79),keep (KY.i1.fr0 F79),keepN (KX.n0.fr0 F9') (Off.take H.ox_ n0l),keepN (KX.n1.fr0 F9') (offC H.ox_ n1l),keepN (KY.n0.fr0 F69) (Off.take H.oy_ m0l),keepN (KY.n1.fr0 F69) (offC H.oy_ m1l),
  KX.d0,KX.d1,KY.d0,KY.d1,KX.z0,KX.z1,KY.z0,KY.z1,KX.l0,by omega,KY.l0,by omega,BX.ib.fr0 BY.f,BY.ib,keep (B0.ib.fr0 B2.f),B1.ib.fr0 (BX.f.t BY.f),keep B2.ib,?_,H.dx,H.dy,off_le L5 l5 H.ox_ (by omega),off_le L5 l5 H.oy_ (by omega),off_le L5 l5 H.oz_ (by omega),hoff,
  nat_dj2 hnw (by omega) (by omega) (Off.take H.ox_ (by omega)),nat_dj2 hnw (by omega) (by omega) (Off.take H.oy_ (by omega)),nat_dj2 hnw (by omega) (by omega) (Off.take H.oz_ (by omega)),H.ex,H.ey,nat_ne hnw (by omega) H.oz_ (by omega) (by omega)⟩;simp only[List.nodup_cons,List.mem_cons,List.not_mem_nil,or_false,not_or,List.nodup_nil,not_false_eq_true,and_true];omega
end Go.Proofs.YthecibbmbnpegaaGreatDoor
end
section
namespace Go.Proofs.YthecibbmbnpegaaGreatDoor
open Go.Big Go.RowKit
section
variable {n h r s:Nat}{q q1:Option StkSt}{z oz cz bx ox cx by_ oy cy bt ot:Nat}{xs ys u0 u1 v0 v1:List Int}{p0 p1 r0 r1 t0 t1 t2 tx ty:Nat}{w w6 w7 w8 w9 w10 w11 w12 w13:World}
theorem kar_ctx2{h2 h21 r2 n2:Nat}(H:KarPre n s q z oz cz bx ox cx xs by_ oy cy ys w)(n40:40<=n)(hh:h=(n+1)/2)(hr:h+r=n)(e1:n2=2*n)(e2:h2=2*h)(e3:h21=2*h+1)(e4:r2=n2-h2)(KX:KHs w bx ox cx h xs u0 u1 p0 p1 w6)(KY:KHs w6 by_ oy cy h ys v0 v1 r0 r1 w7)(B0:KB w7 t0 (some ⟨z,oz,none⟩) h2 cz w8)(B2:KB w8 t2 (some ⟨z,oz+h2,none⟩) r2 (cz-h2) w9)
 (hT: ∃L,Row .u64 51 w10 bt L/\ot+h21<=L.length)(st10:StkAt w10 s q1)(L5:StkLe w9.heap.size q q1)(l5:lenS q<=lenS q1)(l5':lenS q1<=lenS q+h21+3)(F9:Fc 51 (StS s q) w9 w10)
 (hnw:bt<w9.heap.size-> ∀i,ot<=i->i<ot+h21->StS s q bt i)(hoff: ∀i,ot<=i->i<ot+h21-> ¬StS s q1 bt i)
 (B1:KB w10 t1 (some ⟨bt,ot,none⟩) h21 h21 w11)(BX:KB w11 tx (some ⟨z,oz,none⟩) h cz w12)(BY:KB w12 ty (some ⟨z,oz+h,none⟩) h (cz-h) w13):
 KC n h r s q1 z oz cz bx ox cx by_ oy cy bt ot u0 u1 v0 v1 p0 p1 r0 r1 t0 t1 t2 tx ty w13:=by
 obtain rfl:r2=2*r:=by omega
 subst e2 e3;exact kar_ctx H n40 hh hr KX KY B0 B2 rfl hT st10 L5 l5 l5' F9 hnw hoff B1 BX BY
theorem kar_fin{h21 n2 h2 r2:Nat}(H:KarPre n s q z oz cz bx ox cx xs by_ oy cy ys w)(n40:40<=n)(e1:n2=2*n)(e3:h21=2*h+1)(KX:KHs w bx ox cx h xs u0 u1 p0 p1 w6)(KY:KHs w6 by_ oy cy h ys v0 v1 r0 r1 w7)(B0:KB w7 t0 (some ⟨z,oz,none⟩) h2 cz w8)(B2:KB w8 t2 (some ⟨z,oz+h2,none⟩) r2 (cz-h2) w9)
 (L5:StkLe w9.heap.size q q1)(l5:lenS q<=lenS q1)(F9:Fc 51 (StS s q) w9 w10)
 (hnw:bt<w9.heap.size-> ∀i,ot<=i->i<ot+h21->StS s q bt i)
 (B1:KB w10 t1 (some ⟨bt,ot,none⟩) h21 h21 w11)(BX:KB w11 tx (some ⟨z,oz,none⟩) h cz w12)(BY:KB w12 ty (some ⟨z,oz+h,none⟩) h (cz-h) w13)
 (C:KC n h r s q1 z oz cz bx ox cx by_ oy cy bt ot u0 u1 v0 v1 p0 p1 r0 r1 t0 t1 t2 tx ty w13){w20:World}
 (K:S9 n h s q1 z oz bt ot t0 t1 t2 tx ty ((val 18446744073709551616 u0+18446744073709551616^h*val 18446744073709551616 u1)*(val 18446744073709551616 v0+18446744073709551616^h*val 18446744073709551616 v1)) w13 w20):
 ∃q',StkAt w20 s q'/\(∀p,q'=some p->lenS q<=p.cap)/\ ∀w21,StkAt w21 s (resS (lenS q) q')->Fc 51 (StS s q') w20 w21->KarP s q z oz n2 (val 18446744073709551616 xs*val 18446744073709551616 ys) w (.returned (.tuple #[])) w21:=by
 obtain⟨q',zs,kw,wz,zl,zd,zv⟩:=K;have hcz:=H.lz;have zlt:z<w13.heap.size:=C.rz.lt (by omega);have hh:=C.hh;have F9':Fr [] w w9:=((KX.f.t KY.f).t B0.f).t B2.f;have FZ:Fr [] w10 w13:=(B1.f.t BX.f).t BY.f;have s6:=KX.f.size;have s7:=KY.f.size;have s8:=B0.f.size;have s9:=B2.f.size;have s10:=F9.size;have s11:=B1.f.size;have s12:=BX.f.size;have s13:=BY.f.size;have g4:=B0.g;have g5:=B2.g;have g6:=B1.g;have g7:=BX.g;have g8:=BY.g;have ll:=kw.ll;refine⟨q',kw.st,fun p hp=> ?_,fun w21 h21' hf=> ?_⟩
 ·subst hp
  have h3:=kw.st.2.2.2.1;have e:lenS (some p)=p.len:=rfl;omega
 ·have hlq:lenS (resS (lenS q) q')=lenS q:=lenS_res (fun hh=>by
   subst hh;have e:lenS none=0:=rfl;omega)
  have hle:StkLe w.heap.size q (resS (lenS q) q'):=((L5.le (show w.heap.size<=w9.heap.size by omega)).trans kw.le (by omega)).res;have zo:Off (StS s q') z oz cz:=off_le kw.le (Nat.le_of_eq ll.symm) C.zo zlt;refine⟨_,zs,rfl,h21',hle,hlq,wz.fc hf (fun i a1 a2=>zo i a1 (by omega)),zl.trans e1.symm,zd,?_,?_⟩
  ·rw[zv,KX.v0,KX.v1,KY.v0,KY.v1,val_split 18446744073709551616 xs h (by have:=H.xn;omega),val_split 18446744073709551616 ys h (by have:=H.yn;omega)]
  ·have q_sub: ∀b i,StS s q1 b i->b<w.heap.size->StS s q b i:=fun b i hb hlt=>L5.sub l5 b i hb (by omega)
   have A1:Fc 51 (fun b i=>StS s q b i\/In1 z oz n2 b i) w w10:=(Fc.fr0 F9' 51 _).trans F9 (fun b i hb _=> .inl hb);have A2:Fc 51 (fun b i=>StS s q b i\/In1 z oz n2 b i) w w13:=A1.t (Fc.fr0 FZ 51 _)
   have A3:Fc 51 (fun b i=>StS s q b i\/In1 z oz n2 b i) w w20:=A2.trans kw.fc (fun b i hb hlt=>by
    rcases hb with hb|hb|hb|hb|hb|hb|hb|hb
    ·omega
    ·omega
    ·omega
    ·omega
    ·omega
    ·exact .inl (q_sub b i hb hlt)
    ·rw[e1];exact .inr hb
    ·obtain⟨rfl,b1,b2⟩:=hb
     exact .inl ((hnw (by omega) ot (Nat.le_refl _) (by omega)).up b1));exact A3.trans hf (fun b i hb hlt=> .inl (q_sub b i (kw.le.sub (Nat.le_of_eq ll.symm) b i hb (by omega)) hlt))
theorem s3_row{V:Int}{w w1:World}(C:KC0 n h r s q z oz cz bx ox cx bt ot u0 u1 v0 v1 p0 p1 r0 r1 t0 t1 t2 tx ty w)(K:S3 n h r s q z oz cz bt ot t0 t1 t2 tx ty V w w1): ∃L,Row .u64 51 w1 z L/\oz+2*n<=L.length:=by
 obtain⟨_,_,_,_,_,_,_,K⟩:=K;have:=C.cz2;have:=C.n40;obtain⟨L,hL,hl⟩:=(C.rz.fc K.kw.fc).row (by omega);exact⟨L,hL,by omega⟩
end
end Go.Proofs.YthecibbmbnpegaaGreatDoor
end
section
namespace Go.Proofs.YthecibbmbnpegaaGreatDoor
open Go.Big Go.RowKit
attribute [local go_sem ↓] Go.wp_at_zero Go.wp_at_succ
def CutKH(w:World)(b o c h:Nat)(d:List Int)(s0 s1:Value)(wx:World):Prop:= ∃p0 p1,s0= .pointer (some ⟨p0,0,none⟩)/\s1= .pointer (some ⟨p1,0,none⟩)/\KH w b o c h d p0 p1 wx
def CutKB(w:World)(A:Option Addr)(l c:Nat)(s0:Value)(wx:World):Prop:= ∃t,s0= .pointer (some ⟨t,0,none⟩)/\KB w t A l c wx
def CutK1(s:Nat)(q:Option StkSt)(m:Nat)(w:World)(s0:Value)(wx:World):Prop:= ∃t bt ot q1 w10,s0= .pointer (some ⟨t,0,none⟩)/\NatPostE s m q w (.returned (.slice (some ⟨bt,ot,none⟩) m m)) w10/\(∃L,Row .u64 51 w10 bt L/\ot+m<=L.length)/\StkAt w10 s q1/\StkLe w.heap.size q q1/\lenS q<=lenS q1/\lenS q1<=lenS q+m+3/\Fc 51 (StS s q) w w10/\(bt<w.heap.size-> ∀i,ot<=i->i<ot+m->StS s q bt i)/\(∀i,ot<=i->i<ot+m-> ¬StS s q1 bt i)/\KB w10 t (some ⟨bt,ot,none⟩) m m wx
theorem kar_step{n:Nat}(n40:40<=n)(M: ∀a b,a<=(n+1)/2->b<=(n+1)/2->MulOK a b):KarOK n:=by
 intro s q z oz cz bx ox cx xs by_ oy cy ys w H;obtain⟨n2,hn2⟩: ∃n2,n2=2*n:=⟨_,rfl⟩;obtain⟨h,hh⟩: ∃h,h=(n+1)/2:=⟨_,rfl⟩;obtain⟨h2,hh2⟩: ∃h2,h2=2*h:=⟨_,rfl⟩;obtain⟨h21,hh21⟩: ∃h21,h21=2*h+1:=⟨_,rfl⟩;obtain⟨r,hr⟩: ∃r,h+r=n:=⟨n-h,by omega⟩;have a1:2*(n:Int)=(n2:Int):=by omega
 have a2:2*(h:Int)=(h2:Int):=by omega
 have a3:(h2:Int)+1=(h21:Int):=by omega
 have a4:((n:Int)+1)/2=(h:Int):=by omega
 have HM:=κ (fun a b (ha:a<=h) (hb:b<=h)=>M a b (by omega) (by omega));have hxn:=H.xn;have hyn:=H.yn;have lz:=H.lz;have few:=H.few;have cz9:=H.cz9;have cx9:=H.cx9;have cy9:=H.cy9;have hxc:=H.x.le;have hyc:=H.y.le;have thr:w.cell? ⟨0,0,none⟩=some (.int .i64 40):=H.thr;have hxc':n<=cx:=by omega
 have hyc':n<=cy:=by omega
 have hN0:Nm w (some ⟨bx,ox,none⟩) bx ox cx (xs.take h):=H.x.cut (by omega);have hN1:Nm w (some ⟨bx,ox+h,none⟩) bx (ox+h) (cx-h) (xs.drop h):=⟨by rw[List.length_drop];omega,H.x.rcv.drop (by omega),fun _=>(H.x.2.2 (by omega)).drop h⟩;have CN0:=fun W (f:Fr [] w W)=>half_any bx ox cx (xs.take h) w W hN0 (H.xd.take h) f
 have CN1:=fun W (f:Fr [] w W)=>half_any bx (ox+h) (cx-h) (xs.drop h) w W hN1 (H.xd.drop h) f
 rw[List.length_take,show min h xs.length=h by omega]at CN0;rw[List.length_drop,show xs.length-h=r by omega]at CN1;have HN0:=κ CN0;have HN1:=κ CN1;have HH:=κ H;have HN2:=κ hn2;have Hh:=κ hh;have Hh2:=κ hh2;have Hh21:=κ hh21;have Hr:=κ hr;have hI: ¬(n:Int)<40:=by omega
 have hI2: ¬(n:Int)<2:=by omega
 have hhn:(h:Int)<=(n:Int):=by omega
 have hhcx:(h:Int)<=(cx:Int):=by omega
 have hhcy:(h:Int)<=(cy:Int):=by omega
 have hcxh: ¬cx=h:=by omega
 have hcyh: ¬cy=h:=by omega
 have hsub:n-h=r:=by omega
 have hhb:h<=500/\20<=h:=by omega
 obtain⟨hhb,hhc⟩:=hhb;have hbb:h2<=n2/\n2<=1800/\h21<=1001/\h<=h2:=by omega
 obtain⟨hb1,hb2,hb3,hb4⟩:=hbb;have hlx:h<=xs.length:=by omega
 have hly:h<=ys.length:=by omega
 have hh2cz:(h2:Int)<=(cz:Int):=by omega
 have hhcz:(h:Int)<=(cz:Int):=by omega
 have hh2n2:(h2:Int)<=(n2:Int):=by omega
 have hczh2: ¬cz=h2:=by omega
 have hczh: ¬cz=h:=by omega
 obtain⟨r2,hr2⟩: ∃r2,r2=n2-h2:=⟨_,rfl⟩;have hs2:n2-h2=r2:=hr2.symm;have HR2:=κ hr2;have hs3:h2-h=h:=by omega
 have hhh2:(h:Int)<=(h2:Int):=by omega
 have HLX:=κ hlx;have HLY:=κ hly;have HXN:=κ hxn;have HYN:=κ hyn;rw[<-hn2];clear hxn hyn H hn2 hh hh2 hh21 hr hr2 hxc hyc CN0 CN1 hN0 hN1 M hlx hly;have T1:True:=trivial;go_enter_defers Tryz.func52,Tryz.ntmps52;refine wp_mono ?_ bodyPostN_D;go_upto_region 6 with fail;simp only[a4];clear a4;go_cut [10,11]from 47 to 58 (fun s10 s11 wx=>CutKH w bx ox cx h xs s10 s11 wx)
 case first=>
  go_region_with (first
   |(go_at_call 34;(with_reducible refine(HN0.out _ ?_).mono ?_);(repeat (first|exact Fr.refl _ _|apply Fr.drew|apply Fr.alloc));rintro e w1 ⟨⟨u0,rfl,K0⟩,rfl⟩)
   |(go_at_call 34;(with_reducible refine(HN1.out _ ?_).mono ?_);(repeat (first|exact Fr.refl _ _|apply Fr.drew|apply Fr.alloc));rintro e w1 ⟨⟨u1,rfl,K1⟩,rfl⟩))
  all_goals (
   (try go_simp);(try go_wp2_with fail);go_meet
   first
    |exact⟨_,_,rfl,rfl,(kh_a K0.out K1.out HLX.out).fr (Fr.refl _ _).drew⟩
    |exact⟨_,_,rfl,rfl,(kh_b K0.out K1.out HLX.out).fr (Fr.refl _ _).drew⟩)
 case rest=>
  obtain⟨p0,p1,rfl,rfl,kx⟩:=hcut;obtain⟨w6,hw6⟩: ∃w6,w6=wc:=⟨_,rfl⟩;subst hw6;have F6:=κ (show Fr [] w w6 by obtain⟨_,_,k⟩:=kx;exact k.f);have KX:=κ kx;have hN0:Nm w6 (some ⟨by_,oy,none⟩) by_ oy cy (ys.take h):=(HH.out.y.cut (by have:=HLY.out;omega)).fr0 F6.out;have hN1:Nm w6 (some ⟨by_,oy+h,none⟩) by_ (oy+h) (cy-h) (ys.drop h):=Nm.fr0 ⟨by rw[List.length_drop,HYN.out];omega,HH.out.y.rcv.drop (by omega),fun _=>(HH.out.y.2.2 (by rw[HYN.out];omega)).drop h⟩ F6.out;have CN0:=fun W (f:Fr [] w6 W)=>half_any by_ oy cy (ys.take h) w6 W hN0 (HH.out.yd.take h) f
  have CN1:=fun W (f:Fr [] w6 W)=>half_any by_ (oy+h) (cy-h) (ys.drop h) w6 W hN1 (HH.out.yd.drop h) f
  rw[List.length_take,HYN.out,show min h n=h by omega]at CN0;rw[List.length_drop,HYN.out,hsub]at CN1;have HM0:=κ CN0;have HM1:=κ CN1;clear kx CN0 CN1 hN0 hN1 HN0 HN1;go_upto_region 7 with fail;go_cut [12,13]from 59 to 70 (fun s12 s13 wx=>CutKH w6 by_ oy cy h ys s12 s13 wx)
  case first=>
   go_region_with (first
    |(go_at_call 34;(with_reducible refine(HM0.out _ ?_).mono ?_);(repeat (first|exact Fr.refl _ _|apply Fr.drew|apply Fr.alloc));rintro e w1 ⟨⟨u0,rfl,K0⟩,rfl⟩)
    |(go_at_call 34;(with_reducible refine(HM1.out _ ?_).mono ?_);(repeat (first|exact Fr.refl _ _|apply Fr.drew|apply Fr.alloc));rintro e w1 ⟨⟨u1,rfl,K1⟩,rfl⟩))
   all_goals (
    (try go_simp);(try go_wp2_with fail);go_meet
    first
     |exact⟨_,_,rfl,rfl,(kh_a K0.out K1.out HLY.out).fr (Fr.refl _ _).drew⟩
     |exact⟨_,_,rfl,rfl,(kh_b K0.out K1.out HLY.out).fr (Fr.refl _ _).drew⟩)
  case rest=>
   obtain⟨r0,r1,rfl,rfl,ky⟩:=hcut;obtain⟨w7,hw7⟩: ∃w7,w7=wc:=⟨_,rfl⟩;subst hw7;have KY:=κ ky;clear ky HM0 HM1;go_upto_region 8 with fail;go_cut [14]from 71 to 76 (fun s14 wx=>CutKB w7 (some ⟨z,oz,none⟩) h2 cz s14 wx)
   case first=>
    go_wp2_with fail;go_meet;exact⟨_,rfl,kb_mk _ _ _ _⟩
   case rest=>
    obtain⟨t0,rfl,b0⟩:=hcut;obtain⟨w8,hw8⟩: ∃w8,w8=wc:=⟨_,rfl⟩;subst hw8;have B0:=κ b0;clear b0;go_upto_region 9 with fail;go_cut [15]from 77 to 82 (fun s15 wx=>CutKB w8 (some ⟨z,oz+h2,none⟩) r2 (cz-h2) s15 wx)
    case first=>
     go_wp2_with fail;go_meet;exact⟨_,rfl,kb_mk _ _ _ _⟩
    case rest=>
     obtain⟨t2,rfl,b2⟩:=hcut;obtain⟨w9,hw9⟩: ∃w9,w9=wc:=⟨_,rfl⟩;subst hw9;have B2:=κ b2
     have F9:=κ (show Fr [] w w9 from by
      obtain⟨_,_,k⟩:=KY.out;exact((F6.out.t k.f).t B0.out.f).t b2.f);clear b2;have ST9:=κ (HH.out.st.fr0 F9.out);have hq9:lenS q<=100000000000:=by have:=HH.out.len;omega
     go_upto_region 11 with(go_at_call 54;refine(save_any s q _ ST9.out).mono ?_;rintro e wq ⟨rfl,rfl⟩);go_cut [16]from 86 to 92 (fun s16 wx=>CutK1 s q h21 w9 s16 wx)
     case first=>
      go_wp2_with (go_at_call 55;refine(nat_anyE s h21 q _ ST9.out (by omega) (by omega) hq9).mono ?_;rintro e w10 ⟨bt,ot,ct,q1,rfl,pp1,pp2,pp3,pp4,pp5,pp6,pp7,pp8,pp9,pp10,pp11⟩;obtain rfl:h21=ct:=(pp11 (by omega)).symm;have P3:=κ pp3;have P4:=κ pp4;have P5:=κ pp5;have P6:=κ pp6;have P7:=κ pp7;have P8:=κ pp8;have P9:=κ pp9;have P10:=κ pp10;clear pp1 pp2 pp3 pp4 pp5 pp6 pp7 pp8 pp9 pp10 pp11);go_meet;exact⟨_,bt,ot,q1,w10,rfl,⟨bt,ot,h21,q1,rfl,Nat.le_refl _,by unfold maxLen;omega,P3.out,P4.out,P5.out,P6.out,P7.out,P8.out,P9.out,P10.out,fun _=>rfl⟩,P3.out,P4.out,P5.out,P6.out,P7.out,P8.out,P9.out,P10.out,kb_mk _ _ _ _⟩
     case rest=>
      obtain⟨t1,bt,ot,q1,w10,rfl,_,p3,p4,p5,p6,p7,p8,p9,p10,b1⟩:=hcut;obtain⟨w11,hw11⟩: ∃w11,w11=wc:=⟨_,rfl⟩;subst hw11;have P3:=κ p3;have P4:=κ p4;have P5:=κ p5;have P6:=κ p6;have P7:=κ p7;have P8:=κ p8;have P9:=κ p9;have P10:=κ p10;have B1:=κ b1;clear p3 p4 p5 p6 p7 p8 p9 p10 b1 hq9;go_upto_region 12 with fail;go_cut [17]from 93 to 97 (fun s17 wx=>CutKB w11 (some ⟨z,oz,none⟩) h cz s17 wx)
      case first=>
       go_wp2_with fail;go_meet;exact⟨_,rfl,kb_mk _ _ _ _⟩
      case rest=>
       obtain⟨tx,rfl,bx_⟩:=hcut;obtain⟨w12,hw12⟩: ∃w12,w12=wc:=⟨_,rfl⟩;subst hw12;have BX:=κ bx_;clear bx_;go_upto_region 13 with fail;go_cut [18]from 98 to 104 (fun s18 wx=>CutKB w12 (some ⟨z,oz+h,none⟩) h (cz-h) s18 wx)
       case first=>
        go_wp2_with fail;go_meet;exact⟨_,rfl,kb_mk _ _ _ _⟩
       case rest=>
        obtain⟨ty,rfl,by__⟩:=hcut;obtain⟨w13,hw13⟩: ∃w13,w13=wc:=⟨_,rfl⟩;subst hw13;have BY:=κ by__;obtain⟨u0,u1,kx⟩:=KX.out;obtain⟨v0,v1,ky⟩:=KY.out;have CC:=κ (kar_ctx2 HH.out n40 Hh.out Hr.out HN2.out Hh2.out Hh21.out HR2.out kx ky B0.out B2.out P3.out P4.out P5.out P6.out P7.out P8.out P9.out P10.out B1.out BX.out by__);have FIN:=κ (fun w20 K=>kar_fin HH.out n40 HN2.out Hh21.out kx ky B0.out B2.out P5.out P6.out P8.out P9.out B1.out BX.out by__ CC.out (w20:=w20) K);have HSZ:=κ (show 2*n-h=n2-h by rw[HN2.out]);clear by__ hs3 kx ky KX KY B0 B2 B1 BX BY P3 P4 P5 P6 P7 P8 P9 P10 F6 F9 ST9 HLX HLY HXN HYN HR2;have hhn2:(h:Int)<=(n2:Int):=by omega
        have T2:True:=trivial;have T3:True:=trivial;have T4:True:=trivial
        go_upto_region 22 with(first
         |(go_at_call 83;clear T1;refine(kar_tx CC.out).mono ?_;rintro e w14 ⟨rfl,nx,Ad,bd,od,cd,d,k1⟩;have K1:=κ k1;clear k1)
         |(go_at_call 83;refine(kar_ty CC.out K1.out).mono ?_;rintro e w15 ⟨rfl,ny,Ae,be,oe,ce,f,k2⟩;have K2:=κ k2;clear k2 K1)
         |(go_at_call 84;clear T2;refine(kar_m1 HM.out CC.out K2.out).mono ?_;rintro e w16 ⟨rfl,k3⟩;obtain⟨LZ,hLZ,hLZl⟩:=s3_row CC.out.base k3;have K3:=κ (show S3 _ _ _ _ _ _ _ _ _ _ _ _ _ _ _ _ _ _ from k3);have HLZ:=κ hLZ;have HLZl:=κ (show oz+n2<=LZ.length by rw[HN2.out];exact hLZl);clear k3 hLZ hLZl K2)
         |(refine wp_clear rfl (.tmp 118) _ rfl .u64 51 8 ty_big (some ⟨z,oz,none⟩) z oz n2 cz rfl (fun _=>rfl) LZ HLZ.out HLZl.out ?_;intro w17 row17 f17;have K4:=κ (kar_clear CC.out.base K3.out HLZ.out (by rw[<-HN2.out];exact HLZl.out) (by rw[<-HN2.out];exact row17) f17);clear row17 f17 K3)
         |(go_at_call 84;clear T3;refine(kar_m0 HM.out CC.out K4.out).mono ?_;rintro e w18 ⟨rfl,k5⟩;have K5:=κ k5;clear k5 K4)
         |(go_at_call 84;refine(kar_m2 HM.out CC.out K5.out).mono ?_;rintro e w19 ⟨rfl,k6⟩;have K6:=κ k6;clear k6 K5)
         |(go_at_call 63;clear T4;refine(kar_a0 CC.out.base K6.out).mono ?_;rintro e w20 ⟨rfl,k7⟩;have K7:=κ k7;clear k7 K6)
         |(go_at_call 63;refine(kar_a2 CC.out.base K7.out).mono ?_;rintro e w21 ⟨rfl,k8⟩;have K8:=κ k8;clear k8 K7));obtain⟨n1,A1,l1,c1,ib1,cat⟩:=kar_at CC.out.base rfl rfl rfl rfl K8.out;rw[HSZ.out]at cat;have CAT:=κ cat;have cell1:=ib1.cell1;clear cat ib1 K8;go_region_with (go_at_call 56;refine(CAT.out _ (Fr.refl _ _).drew).mono ?_;rintro e w22 ⟨rfl,k9⟩;have K9:=κ k9;clear k9 CAT);go_wp2_with fail;obtain⟨q',st9,cap9,fin9⟩:=FIN.out _ K9.out;show Leaves _ _ _ _ _ _ _;refine leaves_cons (f:=53) (args:= #[.pointer (some ⟨s,0,none⟩),.int .i64 ((lenS q:Nat):Int)]) (by simp) (by simp[go_sem]) ?_;refine(restore_deferred s (lenS q) q' .returning _ st9 cap9).mono ?_;rintro e u' w23 ⟨rfl,rfl,hst10,hf10⟩;exact⟨_,results_none rfl _ _ _,fin9 _ hst10 hf10⟩
end Go.Proofs.YthecibbmbnpegaaGreatDoor
end
section
namespace Go.Proofs.YthecibbmbnpegaaGreatDoor
open Go.Big Go.RowKit
theorem mul_all: ∀N m n:Nat,min m n=N->MulOK m n:=by
 intro N;induction N using Nat.strongRecOn with
 |ind N ih=>
  have ge: ∀m n,n=N->n<=m->MulOK m n:=by
   rintro m n rfl hmn;by_cases h0:n=0
   ·subst h0;exact mul_zero
   by_cases h1:n=1
   ·subst h1;exact mul_one (by omega)
   by_cases h40:n<40
   ·exact mul_small (by omega) h40 hmn
   have K:KarOK n:=kar_step (by omega) (fun a b ha hb=>ih (min a b) (by omega) a b rfl);have E:MulOK n n:=mul_eq (by omega) K;by_cases e:m=n
   ·subst e;exact E
   refine mul_gt (by omega) (by omega) K (fun a ha0 han=> ?_);by_cases e2:a=n
   ·subst e2;exact E
   ·exact ih (min a n) (by omega) a n rfl
  intro m n h;by_cases hmn:n<=m
  ·exact ge m n (by omega) hmn
  ·exact mul_lt (by omega) (ge n m (by omega) (by omega))
theorem mul_ok(m n:Nat):MulOK m n:=mul_all _ m n rfl
end Go.Proofs.YthecibbmbnpegaaGreatDoor
end
