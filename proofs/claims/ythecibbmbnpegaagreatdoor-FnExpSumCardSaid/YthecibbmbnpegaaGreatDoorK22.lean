/-
  Part 22 of the proof of the law FnExpSum: XgDv. Conditions: those of each statement.
-/
import Derived.Test.YthecibbmbnpegaaGreatDoorK21
import Derived.Deep.DeepCutAuto
import Derived.StillTailTactics
import Derived.Laws.Bits64
set_option linter.unusedSimpArgs false
set_option linter.unusedVariables false
set_option maxRecDepth 100000
set_option maxHeartbeats 16000000
section
namespace Go.Proofs.YthecibbmbnpegaaGreatDoor
open Go.Big Go.RowKit
theorem dv_top{n:Nat}{V:List Int}(hd:DG 18446744073709551616 V)(hl:V.length=n)(h2:2<=n)(hlo:9223372036854775808*18446744073709551616^(n-1)<=val 18446744073709551616 V):KnV n V:=by
 refine⟨hl,h2,hd,?_⟩;have e:=val_take_succ' 18446744073709551616 V (n-1);rw[show n-1+1=n by omega,List.take_of_length_le (by rw[hl];exact Nat.le_refl _)]at e;have h3:=val_lt_of_len (B:=18446744073709551616) (by omega) (hd.take (n-1)) (k:=n-1) (by rw[List.length_take];omega);rcases Int.lt_or_le (V.getD (n-1) 0) 9223372036854775808 with h|h
 ·exfalso
  have hp:=pow_pos_ (B:=18446744073709551616) (by omega) (n-1);have h4:18446744073709551616^(n-1)*V.getD (n-1) 0<=18446744073709551616^(n-1)*9223372036854775807:=Int.mul_le_mul_of_nonneg_left (by omega) (by omega);rw[e]at hlo;generalize(18446744073709551616:Int)^(n-1)=P at*;omega
 ·exact h
theorem dv_scale{n L:Nat}{V:List Int}(hd:DG 18446744073709551616 V)(hl:V.length=n)(h1:1<=n)(ht:V.getD (n-1) 0≠0)(hL:IsLen (V.getD (n-1) 0) L)(hL9:L<=64):
 9223372036854775808*18446744073709551616^(n-1)<=2^(64-L)*val 18446744073709551616 V/\2^(64-L)*val 18446744073709551616 V<18446744073709551616^n/\64-L<64:=by
 have e:=val_take_succ' 18446744073709551616 V (n-1);rw[show n-1+1=n by omega,List.take_of_length_le (by rw[hl];exact Nat.le_refl _)]at e;have h0:=val_nonneg (B:=18446744073709551616) (by omega) (hd.take (n-1));have h3:=val_lt_of_len (B:=18446744073709551616) (by omega) (hd.take (n-1)) (k:=n-1) (by rw[List.length_take];omega);obtain⟨t,et⟩: ∃t,t=V.getD (n-1) 0:=⟨_,rfl⟩;rw[<-et]at e ht hL;rcases hL with⟨hh,_⟩|⟨g1,g2,g3⟩
 ·exact absurd hh ht
 have hp:=pow_pos_ (B:=18446744073709551616) (by omega) (n-1);have hs:=pow_pos_ (B:=2) (by omega) (64-L)
 have e1:(2:Int)^(64-L)*2^(L-1)=9223372036854775808:=by
  rw[<-Int.pow_add,show 64-L+(L-1)=63 by omega];rfl
 have e2:(2:Int)^(64-L)*2^L=18446744073709551616:=by
  rw[<-Int.pow_add,show 64-L+L=64 by omega];rfl
 have e3:(18446744073709551616:Int)^n=18446744073709551616*18446744073709551616^(n-1):=by
  conv=>lhs;rw[show n=n-1+1 by omega,Int.pow_succ,Int.mul_comm]
 generalize(18446744073709551616:Int)^(n-1)=P at*;generalize val 18446744073709551616 (V.take (n-1))=lo at*;generalize(2:Int)^(64-L)=S at*;generalize(2:Int)^(L-1)=A at*;generalize(2:Int)^L=C at*;refine⟨?_,?_,by omega⟩
 ·have k1:A*P<=t*P:=Int.mul_le_mul_of_nonneg_right g2 (by omega)
  have k2:S*(A*P)<=S*(t*P):=Int.mul_le_mul_of_nonneg_left k1 (by omega);have k3:S*(A*P)=9223372036854775808*P:=by rw[<-Int.mul_assoc,e1]
  have k4:0<=S*lo:=Int.mul_nonneg (by omega) h0;have k5:S*val 18446744073709551616 V=S*lo+S*(t*P):=by rw[e];grind
  omega
 ·have k1:(t+1)*P<=C*P:=Int.mul_le_mul_of_nonneg_right (by omega) (by omega)
  have k2:S*(C*P)=18446744073709551616*P:=by rw[<-Int.mul_assoc,e2]
  have k3:val 18446744073709551616 V<C*P:=by
   have:(t+1)*P=P*t+P:=by grind
   omega
  have k4:S*val 18446744073709551616 V<S*(C*P):=Int.mul_lt_mul_of_pos_left k3 hs;omega
theorem dv_fit{n m s:Nat}{X:Int}(hX0:0<=X)(hX:X<18446744073709551616^(m+n))(hs:s<64):2^s*X<9223372036854775808*18446744073709551616^(n+(m+1)-1):=by
 have h1:=pow_le_pow_ (B:=2) (by omega) (show s<=63 by omega);have h2:(2:Int)^s*X<=2^63*X:=Int.mul_le_mul_of_nonneg_right h1 hX0;rw[show n+(m+1)-1=m+n by omega];have e:(2:Int)^63=9223372036854775808:=rfl;rw[e]at h2;omega
theorem dv_same{S X Y:Int}(hS:0<S):(S*X)/(S*Y)=X/Y/\(S*X)%(S*Y)=S*(X%Y):=
 ⟨Int.mul_ediv_mul_of_pos X Y hS,Int.mul_emod_mul_of_pos X Y hS⟩
theorem dv_back{s:Nat}{z c R:Int}(hs:s<=64)(h0:0<=c)(h1:c<18446744073709551616)(h:z*18446744073709551616+c=(2^s*R)*2^(64-s)):z=R:=by
 have e:(2:Int)^s*2^(64-s)=18446744073709551616:=by rw[<-Int.pow_add,show s+(64-s)=64 by omega];rfl
 have e2:(2^s*R)*2^(64-s)=18446744073709551616*R:=by
  rw[<-e];generalize(2:Int)^s=a;generalize(2:Int)^(64-s)=b;grind
 omega
end Go.Proofs.YthecibbmbnpegaaGreatDoor
end
section
namespace Go.Big
open Go.RowKit
theorem run_copyE{P:Program}{w:World}{k:IntKind}{T:TypeId}{dT sT ty g off n dCap bx ox sCap:Nat}{xs L:List Int}(hu:P.underlying dT=some (.slice T))(hsz:(P.info? T).map (·.size)=some 1)(hn:xs.length=n)(hsl:Src k w bx ox xs)(hrow:Row k T w g L)(hfit:off+n<=L.length):
 ∃w',(Builtin.copy_ #[dT,sT] ty #[.slice (some ⟨g,off,none⟩) n dCap,.slice (some ⟨bx,ox,none⟩) n sCap]).run P w= .ok (goInt n) w'/\Row k T w' g (spl L off xs)/\Fr [g] w w':=by
 have hrun:=run_copy_row (P:=P) w dT sT ty T g off n dCap ⟨bx,ox,none⟩ n sCap _ T (xs.map (Value.int k)) hu hsz hrow (by simp[hn]) (by
  intro j v hj;rw[List.getElem?_map]at hj
  have hlt:j<xs.length:=by
   rcases Nat.lt_or_ge j xs.length with hl|hl
   ·exact hl
   ·rw[List.getElem?_eq_none hl]at hj;cases hj
  have hc:=hsl j hlt;rw[List.getElem?_eq_getElem hlt]at hj;simp only[Option.map_some,Option.some.injEq]at hj;subst hj;rw[getD_in hlt]at hc;rw[<-hc];unfold Addr.add;split
  ·rename_i hj0;subst hj0;rfl
  ·rfl) (by rw[List.length_map,hn];simpa using hfit) (ints_oneCell k _);rw[List.length_map,hn]at hrun;refine⟨_,hrun,?_,?_⟩
 ·unfold Row spl
  rw[setRow_heap w g _ _ T _ hrow];simp[List.map_take,List.map_drop,hn]
 ·exact⟨rfl,rfl,rfl,by simp[World.setRow],fun b hb hn=>setRow_other w g b _ (by simpa using hn)⟩
end Go.Big
namespace Go.Proofs.YthecibbmbnpegaaGreatDoor
open Go.Big Go.RowKit
attribute [local go_sem ↓] Go.wp_at_zero Go.wp_at_succ
structure DvPre(m n s:Nat)(q:Option StkSt)(A:Option Addr)(l bz oz cz:Nat)(Ay:Option Addr)(ly by_ oy cy:Nat)(Au:Option Addr)(bu ou cu:Nat)(us:List Int)(Av:Option Addr)(bv ov cv:Nat)(vs:List Int)(w:World):Prop where
 st:StkAt w s q
 len:lenS q+10000*(n+2)<=100000000000
 thr:Glo w 0 40
 td:Glo w 1 40
 z:Rcv w A bz oz cz
 zl:l<=cz
 cz9:cz<=9223372036854775807
 y:Rcv w Ay by_ oy cy
 yl:ly<=cy
 cy9:cy<=9223372036854775807
 u:Nm w Au bu ou cu us
 un:us.length=m+n
 ud:DG 18446744073709551616 us
 cu9:cu<=9223372036854775807
 v:Nm w Av bv ov cv vs
 vn:vs.length=n
 vd:DG 18446744073709551616 vs
 vt:vs.getD (n-1) 0≠0
 cv9:cv<=9223372036854775807
 n2:2<=n
 few:n<=900
 m9:m<=50000
 oz_:Off (StS s q) bz oz cz
 oy_:Off (StS s q) by_ oy cy
 ou_:Off (StS s q) bu ou (m+n)
 ov_:Off (StS s q) bv ov n
 dyz:Dj by_ oy cy bz oz cz
 dyu:Dj by_ oy cy bu ou (m+n)
 dyv:Dj by_ oy cy bv ov n
theorem off_new{w:World}{s N k z o c:Nat}{q1 q2:Option StkSt}(hst:StkAt w s q1)(h:w.heap.size<=z)(le:StkLe N q1 q2)(hz:z<N):Off (StS s (resS k q2)) z o c:=by
 intro i _ _ hi;have hs:s<w.heap.size:=stk_lt hst (b:=s) (i:=i) (by cases q1 with|none=>exact rfl|some p=>exact .inl rfl);cases q1 with
 |none=>
  cases q2 with
  |none=>have e:z=s:=hi;omega
  |some p=>
   obtain⟨h1,h2⟩:=le;rcases hi with e|e|⟨e,_⟩
   ·omega
   ·have e:z=p.si:=e;omega
   ·have e:z=p.g:=e;omega
 |some p1=>
  have h3:p1.si<w.heap.size:=stk_lt hst (b:=p1.si) (i:=i) (.inr (.inl rfl));have h4:p1.g<w.heap.size:=stk_lt hst (b:=p1.g) (i:=p1.len) (.inr (.inr ⟨rfl,Nat.le_refl _⟩));cases q2 with
  |none=>exact le
  |some p=>
   obtain⟨h1,h2⟩:=le;rcases hi with e|e|⟨e,_⟩
   ·omega
   ·have e:z=p.si:=e;omega
   ·have e:z=p.g:=e;omega
structure DvA(m n s:Nat)(q q1:Option StkSt)(Ay:Option Addr)(by_ oy cy b0 o0 c0 x ox cx:Nat)(X Y S:Int)(w:World)(V' U':List Int)(wx:World):Prop where
 fc:Fc 51 (fun b i=>StS s q b i\/In1 by_ oy cy b i) w wx
 st:StkAt wx s q1
 le:StkLe w.heap.size q q1
 l1:lenS q<=lenS q1
 l2:lenS q1<=lenS q+n+3
 vr:Rcv wx (some ⟨b0,o0,none⟩) b0 o0 c0
 nc:n<=c0
 c0e:4<n->c0=n
 v:Wr 51 wx b0 o0 V'
 vl:V'.length=n
 vd:DG 18446744073709551616 V'
 vv:val 18446744073709551616 V'=S*Y
 hnw:b0<w.heap.size-> ∀i,o0<=i->i<o0+c0->StS s q b0 i
 hoff:Off (StS s q1) b0 o0 c0
 u:Wr 51 wx x ox U'
 ul:U'.length=m+n+1
 ud:DG 18446744073709551616 U'
 uv:val 18446744073709551616 U'=S*X
 ur:Rcv wx (some ⟨x,ox,none⟩) x ox cx
 xc:m+n+1<=cx
 cx9:cx<=9223372036854775807
 xn:(some (⟨x,ox,none⟩:Addr)=Ay/\x=by_/\ox=oy/\cx=cy)\/(cy<m+n+1/\cx<=m+n+1+4/\w.heap.size<=x/\ ∀(N k:Nat) (q2:Option StkSt),StkLe N q1 q2->x<N->Off (StS s (resS k q2)) x ox cx)
 d0x:Dj b0 o0 c0 x ox cx
 xo:Off (StS s q1) x ox cx
def PlR(w:World)(A:Option Addr)(b o c:Nat)(A':Option Addr)(b' o' c':Nat):Prop:=(A'=A/\b'=b/\o'=o/\c'=c)\/(w.heap.size<=b'/\c'<=2000000)
structure DvR(s:Nat)(q:Option StkSt)(A:Option Addr)(bz oz cz:Nat)(Ay:Option Addr)(by_ oy cy:Nat)(X Y:Int)(w:World)(A1:Option Addr)(b1 o1 c1:Nat)(qs:List Int)(A2:Option Addr)(b2 o2 c2:Nat)(rs:List Int)(q':Option StkSt)(w':World):Prop where
 qn:Nm w' A1 b1 o1 c1 qs
 qd:DG 18446744073709551616 qs
 qz:NZ qs
 qv:val 18446744073709551616 qs=X/Y
 qp:PlR w A bz oz cz A1 b1 o1 c1
 rn:Nm w' A2 b2 o2 c2 rs
 rd:DG 18446744073709551616 rs
 rz:NZ rs
 rv:val 18446744073709551616 rs=X%Y
 rp:PlR w Ay by_ oy cy A2 b2 o2 c2
 dj:Dj b1 o1 c1 b2 o2 c2
 bn:(cz=0\/cy=0\/bz≠by_)->c1=0\/c2=0\/b1≠b2
 qo:Off (StS s q') b1 o1 c1
 ro:Off (StS s q') b2 o2 c2
 st:StkAt w' s q'
 le:StkLe w.heap.size q q'
 ll:lenS q'=lenS q
 fc:Fc 51 (fun b i=>StS s q b i\/In1 bz oz cz b i\/In1 by_ oy cy b i) w w'
def DvPost(s:Nat)(q:Option StkSt)(A:Option Addr)(bz oz cz:Nat)(Ay:Option Addr)(by_ oy cy:Nat)(X Y:Int)(w:World)(e:Ending)(w':World):Prop:=
 ∃A1 b1 o1 c1 qs A2 b2 o2 c2 rs q',e= .returned (.tuple #[.slice A1 qs.length c1,.slice A2 rs.length c2])/\DvR s q A bz oz cz Ay by_ oy cy X Y w A1 b1 o1 c1 qs A2 b2 o2 c2 rs q' w'
theorem nlzD_any(t:Int)(L:Nat)(w:World)(h0:0<=t)(h1:t<18446744073709551616)(hL:IsLen t L):Calls Tryz.prog 69 #[.int .u64 t] w fun e w'=>e= .returned (.int .u64 (64-(L:Int)))/\w=w':=by
 refine(nlz_any t w h0 h1).mono ?_;rintro e w' ⟨⟨M,rfl,hM,_⟩,rfl⟩;obtain rfl:=hL.unique hM;exact⟨rfl,rfl⟩
theorem lshD_any(bz oz cz bx ox cx n σ:Nat)(Z xs:List Int)(w:World)(hz:Wr 51 w bz oz Z)(hZ:Z.length=n)(hx:Go.Big.Src .u64 w bx ox xs)(hn:xs.length=n)(hd:DG 18446744073709551616 xs)(hs:σ<64)(hal:Dj bx ox n bz oz n)(hcz:n<=cz)(hcx:n<=cx)(hmx:cx<=maxLen)(hn9:n<=1000000000):
 Calls Tryz.prog 112 #[.slice (some ⟨bz,oz,none⟩) n cz,.slice (some ⟨bx,ox,none⟩) n cx,.int .u64 (σ:Int)] w fun e w'=> ∃zs c,e= .returned (.int .u64 c)/\Wr 51 w' bz oz zs/\Fc 51 (In1 bz oz n) w w'/\zs.length=n/\DG 18446744073709551616 zs/\0<=c/\c<18446744073709551616/\val 18446744073709551616 zs+18446744073709551616^n*c=2^σ*val 18446744073709551616 xs:=by
 obtain⟨_,L,hL,hl⟩:=hz;rw[hZ]at hl;refine(lshVU_any bz oz cz bx ox cx n σ L xs w hL hl hn hx hd hs (by unfold Dj at hal;omega) hcz hcx hmx hn9).mono ?_;rintro e w' ⟨zs,c,rfl,row,hf,hzl,hzd,h0,h1,hv⟩;have h2:=pow_le_pow_ (B:=2) (by omega) (show σ<=64 by omega);have e64:(2:Int)^64=18446744073709551616:=rfl;exact⟨zs,c,rfl,Wr.of_spl row (by omega),fc_row (L':=L) hL row hf (by omega) (fun i a1 a2=>⟨rfl,a1,by omega⟩),hzl,hzd,h0,by omega,hv⟩
theorem rshD_any(bz oz cz n σ:Nat)(Z:List Int)(w:World)(hz:Wr 51 w bz oz Z)(hZ:Z.length=n)(hd:DG 18446744073709551616 Z)(hs:σ<64)(hcz:n<=cz)(hmx:cz<=maxLen)(hn9:n<=1000000000):
 Calls Tryz.prog 115 #[.slice (some ⟨bz,oz,none⟩) n cz,.slice (some ⟨bz,oz,none⟩) n cz,.int .u64 (σ:Int)] w fun e w'=> ∃zs c,e= .returned (.int .u64 c)/\Wr 51 w' bz oz zs/\Fc 51 (In1 bz oz n) w w'/\zs.length=n/\DG 18446744073709551616 zs/\0<=c/\c<18446744073709551616/\val 18446744073709551616 zs*18446744073709551616+c=val 18446744073709551616 Z*2^(64-σ):=by
 have hsrc:=hz.src;obtain⟨_,L,hL,hl⟩:=hz;rw[hZ]at hl;refine(rshVU_any bz oz cz bz oz cz n σ L Z w hL hl hZ hsrc hd hs (.inr (.inl (Nat.le_refl _))) hcz hcz hmx hn9).mono ?_;rintro e w' ⟨zs,c,rfl,row,hf,hzl,hzd,h0,h1,hv⟩;exact⟨zs,c,rfl,Wr.of_spl row (by omega),fc_row (L':=L) hL row hf (by omega) (fun i a1 a2=>⟨rfl,a1,by omega⟩),hzl,hzd,h0,h1,hv⟩
section
variable {m n s m1 lu1:Nat}{q q1:Option StkSt}{A:Option Addr}{l bz oz cz:Nat}{Ay:Option Addr}{ly by_ oy cy:Nat}{Au:Option Addr}{bu ou cu:Nat}{us:List Int}{Av:Option Addr}{bv ov cv:Nat}{vs:List Int}{w w1 w2 w3 w4 w5 wb wx w':World}{b0 o0 c0 x ox cx z1 o1 c1:Nat}{S:Int}{V' U' Z:List Int}
theorem dv_pl(H:DvPre m n s q A l bz oz cz Ay ly by_ oy cy Au bu ou cu us Av bv ov cv vs w)(p1:n<=c0)(p3: ∃L,Row .u64 51 w1 b0 L/\o0+c0<=L.length)(p4:StkAt w1 s q1)(p5:StkLe w.heap.size q q1)(p6:lenS q<=lenS q1)(p8:Fc 51 (StS s q) w w1)(p9:b0<w.heap.size-> ∀i,o0<=i->i<o0+c0->StS s q b0 i)
 (hx:(some (⟨x,ox,none⟩:Addr)=Ay/\x=by_/\ox=oy/\cx=cy)\/(cy<m+n+1/\cx<=m+n+1+4/\w1.heap.size<=x))(hxc:m+n+1<=cx):
 Dj b0 o0 c0 x ox cx/\Off (StS s q1) x ox cx/\Dj bu ou (m+n) x ox cx/\Dj bv ov n x ox cx/\Dj bu ou (m+n) b0 o0 n/\Dj bv ov n b0 o0 n:=by
 obtain⟨LB,hLB,hLBl⟩:=p3;have s1:=p8.size;have hb0:=hLB.lt;have n2:=H.n2;have hu:=H.u.lt (by rw[H.un];omega);have hv:=H.v.lt (by rw[H.vn];omega);have du:=(nat_dj p9 hu H.ou_).sub1 (Nat.le_refl _) p1;have dv:=(nat_dj p9 hv H.ov_).sub1 (Nat.le_refl _) p1;rcases hx with⟨e1,rfl,rfl,rfl⟩|⟨_,_,hx⟩
 ·have hy:=H.y.lt (by omega)
  exact⟨(nat_dj p9 hy H.oy_).symm,off_le p5 p6 H.oy_ hy,H.dyu.symm,H.dyv.symm,du,dv⟩
 ·exact⟨.inl (by omega),fun i _ _ hi=>by have:=stk_lt p4 hi;omega,.inl (by omega),.inl (by omega),du,dv⟩
theorem dvA_mk(H:DvPre m n s q A l bz oz cz Ay ly by_ oy cy Au bu ou cu us Av bv ov cv vs w)
 (p1:n<=c0)(p2:c0<=maxLen)(p3: ∃L,Row .u64 51 w1 b0 L/\o0+c0<=L.length)(p4:StkAt w1 s q1)(p5:StkLe w.heap.size q q1)(p6:lenS q<=lenS q1)(p7:lenS q1<=lenS q+n+3)(p8:Fc 51 (StS s q) w w1)(p9:b0<w.heap.size-> ∀i,o0<=i->i<o0+c0->StS s q b0 i)(p10: ∀i,o0<=i->i<o0+c0-> ¬StS s q1 b0 i)(p11:4<n->c0=n)
 (f:Fr [] w1 w2)(rx:Rcv w2 (some ⟨x,ox,none⟩) x ox cx)(hxc:m+n+1<=cx)(hx:(some (⟨x,ox,none⟩:Addr)=Ay/\x=by_/\ox=oy/\cx=cy)\/(cy<m+n+1/\cx<=m+n+1+4/\w1.heap.size<=x))(fv:Fc 51 (In1 b0 o0 n) w2 w3)(v3:Wr 51 w3 b0 o0 V')(vl:V'.length=n)(vd:DG 18446744073709551616 V')(vv:val 18446744073709551616 V'=S*val 18446744073709551616 vs)
 (fu:Fc 51 (In1 x ox (m+n+1)) w3 w4)(u4:Wr 51 w4 x ox U')(ul:U'.length=m+n+1)(ud:DG 18446744073709551616 U')(uv:val 18446744073709551616 U'=S*val 18446744073709551616 us):
 DvA m n s q q1 Ay by_ oy cy b0 o0 c0 x ox cx (val 18446744073709551616 us) (val 18446744073709551616 vs) S w V' U' w4:=by
 have PL:=dv_pl H p1 p3 p4 p5 p6 p8 p9 hx hxc;obtain⟨LB,hLB,hLBl⟩:=p3;have s1:=p8.size;have hb0:=hLB.lt;have s2:=f.size;have r0:Rcv w2 (some ⟨b0,o0,none⟩) b0 o0 c0:=(Rcv.of_row hLB hLBl p2).fc (Fc.fr0 f 51 (fun _ _=>False));have st2:=p4.fr0 f;have fvu:Fc 51 (fun b i=>In1 b0 o0 n b i\/In1 x ox (m+n+1) b i) w2 w4:=(fv.mono (fun b i hh _=> .inl hh)).trans fu (fun b i hh _=> .inr hh);obtain⟨LX,hLX,_⟩:=r0.row (by have:=H.n2;omega);obtain⟨LY,hLY,_⟩:=rx.row (by omega)
 have hcx9:cx<=9223372036854775807:=by
  have:=H.cy9;have:=H.few;have:=H.m9;rcases hx with⟨_,_,_,h⟩|⟨_,h,_⟩<;>omega
 refine⟨((p8.mono (fun b i hh _=> .inl hh)).t (Fc.fr0 f _ _)).trans fvu (fun b i hh hlt=> ?_),st2.fc fvu (fun i hh=> ?_) (fun p hp i hh=> ?_),p5,p6,p7,r0.fc fvu,p1,p11,v3.fc fu (by rw[vl];exact(PL.1.sub1 p1 hxc).off),vl,vd,vv,p9,p10,u4,ul,ud,uv,rx.fc fvu,hxc,hcx9,?_,PL.1,PL.2.1⟩
 ·rcases hh with hh|hh
  ·exact .inl (hh.1▸p9 (by rw[<-hh.1];exact hlt) i hh.2.1 (by have:=hh.2.2;omega))
  ·rcases hx with⟨_,rfl,rfl,rfl⟩|⟨_,_,hx⟩
   ·exact .inr ⟨hh.1,hh.2.1,by have:=hh.2.2;omega⟩
   ·have:=hh.1;omega
 ·rcases hh with hh|hh
  ·exact st2.row_ne hLX hh.1.symm
  ·exact st2.row_ne hLY hh.1.symm
 ·subst hp
  rcases hh with hh|hh
  ·exact st2.2.row_ne hLX hh.1.symm
  ·exact st2.2.row_ne hLY hh.1.symm
 ·rcases hx with hx|⟨h1,h2,h3⟩
  ·exact .inl hx
  ·exact .inr ⟨h1,h2,by omega,fun N k q2 le hlt=>off_new p4 h3 le hlt⟩
theorem dv_plz(H:DvPre m n s q A l bz oz cz Ay ly by_ oy cy Au bu ou cu us Av bv ov cv vs w)(K:DvA m n s q q1 Ay by_ oy cy b0 o0 c0 x ox cx (val 18446744073709551616 us) (val 18446744073709551616 vs) S w V' U' w3)(f4:Fr [] w3 w4)(g1:m+1<=c1)(g7:(some (⟨z1,o1,none⟩:Addr)=A/\z1=bz/\o1=oz/\c1=cz)\/(cz<m+1/\c1<=m+1+4/\w4.heap.size<=z1)):
 c1<=9223372036854775807/\Dj z1 o1 c1 x ox cx/\Dj b0 o0 c0 z1 o1 c1/\Off (StS s q1) z1 o1 c1/\(∀y i,In1 z1 o1 (m+1) y i->y<w.heap.size->In1 bz oz cz y i)/\PlR w A bz oz cz (some ⟨z1,o1,none⟩) z1 o1 c1:=by
 have hm9:=H.m9;have s3:=K.fc.size;have s4:=f4.size;have hx:=K.u.lt;have h0:=K.v.lt;rcases g7 with⟨e1,rfl,rfl,rfl⟩|⟨h1,h2,h3⟩
 ·have hlt:=H.z.lt (by omega)
  refine⟨H.cz9,?_,(nat_dj K.hnw hlt H.oz_).symm,off_le K.le K.l1 H.oz_ hlt,fun y i hh _=>⟨hh.1,hh.2.1,by have:=hh.2.2;omega⟩,.inl ⟨e1,rfl,rfl,rfl⟩⟩;rcases K.xn with⟨_,rfl,rfl,rfl⟩|⟨_,_,h,_⟩
  ·exact H.dyz.symm
  ·exact .inl (by omega)
 ·exact⟨by omega,.inl (by omega),.inl (by omega),fun i _ _ hi=>by have:=stk_lt K.st hi;omega,fun y i hh hlt=>by have:=hh.1;omega,.inr ⟨by omega,by omega⟩⟩
theorem dv_glo(H:DvPre m n s q A l bz oz cz Ay ly by_ oy cy Au bu ou cu us Av bv ov cv vs w)(K:DvA m n s q q1 Ay by_ oy cy b0 o0 c0 x ox cx (val 18446744073709551616 us) (val 18446744073709551616 vs) S w V' U' w3){g:Nat}{v:Int}(hh:Glo w g v):Glo w3 g v:=
 hh.fc K.fc (fun hc=>hc.elim (glo_stk hh H.st 0) (fun hi=>by
  by_cases e:cy=0
  ·have:=hi.2.1;have:=hi.2.2;omega
  ·obtain⟨LY,hLY,_⟩:=H.y.row (by omega)
   exact hh.row_ne hLY hi.1))
theorem DrPost.ret{bq oq k b o lu:Nat}{X Y:Int}{e:Ending}(P:DrPost s q1 bq oq k b o lu X Y w5 e w'):e= .returned (.tuple #[]):=by
 obtain⟨_,_,_,h,_⟩:=P;exact h
theorem DivPost.dr{lu k bq oq b o:Nat}{Q0 U V:List Int}{e:Ending}(P:DivPost s q1 bq oq k b o lu k Q0 U V w5 e w'):DrPost s q1 bq oq k b o lu (val 18446744073709551616 U) (val 18446744073709551616 V) w5 e w':=by
 obtain⟨q2,Q',U2,rfl,h1,h2,h3,h4,h5,h6,h7,h8,h9,h10,h11,_,h12⟩:=P;rw[List.take_of_length_le (by omega)]at h10 h11;exact⟨q2,Q',U2,rfl,h1,h2,h3,h4,h5,h10,h11,h6,h7,h8,h9,h12⟩
theorem dv_bas(H:DvPre m n s q A l bz oz cz Ay ly by_ oy cy Au bu ou cu us Av bv ov cv vs w)(K:DvA m n s q q1 Ay by_ oy cy b0 o0 c0 x ox cx (val 18446744073709551616 us) (val 18446744073709551616 vs) S w V' U' w3)(kv:KnV n V')(hfit:S*val 18446744073709551616 us<9223372036854775808*18446744073709551616^(n+(m+1)-1))(f4:Fr [] w3 w4)(f5:Fr [] w4 w5)
 (g1:m+1<=c1)(g3:Wr 51 w5 z1 o1 Z)(g4:Z.length=m+1)(g7:(some (⟨z1,o1,none⟩:Addr)=A/\z1=bz/\o1=oz/\c1=cz)\/(cz<m+1/\c1<=m+1+4/\w4.heap.size<=z1)):
 Calls Tryz.prog 78 #[.slice (some ⟨z1,o1,none⟩) (m+1:Nat) c1,.pointer (some ⟨s,0,none⟩),.slice (some ⟨x,ox,none⟩) (m+n+1:Nat) cx,.slice (some ⟨b0,o0,none⟩) n c0] w5 (DrPost s q1 z1 o1 (m+1) x ox (m+n+1) (val 18446744073709551616 U') (val 18446744073709551616 V') w5):=by
 obtain⟨k1,k2,k3,k4,k5,k6⟩:=dv_plz H K f4 g1 g7;have hm9:=H.m9;have few:=H.few;have hlen:=H.len;have hl2:=K.l2;have hxc:=K.xc;have hnc:=K.nc;have hxm:=K.ur.max;have hvm:=K.vr.max;have f:=f4.t f5
 have hroom:val 18446744073709551616 U'<val 18446744073709551616 V'*18446744073709551616^(m+1):=by
  have h3:=kv.lo;have h4:9223372036854775808*18446744073709551616^(n-1)*18446744073709551616^(m+1)<=val 18446744073709551616 V'*18446744073709551616^(m+1):=Int.mul_le_mul_of_nonneg_right h3 (Int.le_of_lt (pow_pos_ (by omega) _));have hn2:=kv.two;rw[Int.mul_assoc,<- Int.pow_add,show n-1+(m+1)=n+(m+1)-1 by omega]at h4;rw[K.uv];omega
 exact(divBasic_any s q1 z1 o1 c1 x ox cx b0 o0 c0 n (m+1) (m+n+1) (m+1) Z U' V' w5 (K.st.fr0 f) (by omega) g3 g4 (K.u.fr0 f) (by omega) (by rw[K.ul];omega) K.ud (K.v.fr0 f).src (K.v.fr0 f).lt kv (by omega) (by omega) (.inr ⟨rfl,hroom⟩) (K.d0x.sub1 hnc hxc) (k2.sub1 g1 hxc) (k3.sub1 hnc g1) (Off.take K.xo hxc) (Off.take k4 g1) (Off.take K.hoff hnc) hxc hxm hnc hvm g1 (by unfold maxLen;omega)).mono (fun e w6 hp=>DivPost.dr hp)
theorem dv_rec(H:DvPre m n s q A l bz oz cz Ay ly by_ oy cy Au bu ou cu us Av bv ov cv vs w)(K:DvA m n s q q1 Ay by_ oy cy b0 o0 c0 x ox cx (val 18446744073709551616 us) (val 18446744073709551616 vs) S w V' U' w3)(kv:KnV n V')(hfit:S*val 18446744073709551616 us<9223372036854775808*18446744073709551616^(n+(m+1)-1))(f4:Fr [] w3 w4)(f5:Fr [] w4 w5)
 (g1:m+1<=c1)(g3:Wr 51 w5 z1 o1 Z)(g4:Z.length=m+1)(g7:(some (⟨z1,o1,none⟩:Addr)=A/\z1=bz/\o1=oz/\c1=cz)\/(cz<m+1/\c1<=m+1+4/\w4.heap.size<=z1))(hn:40<=n):
 Calls Tryz.prog 79 #[.slice (some ⟨z1,o1,none⟩) (m+1:Nat) c1,.pointer (some ⟨s,0,none⟩),.slice (some ⟨x,ox,none⟩) (m+n+1:Nat) cx,.slice (some ⟨b0,o0,none⟩) n c0] w5 (DrPost s q1 z1 o1 (m+1) x ox (m+n+1) (val 18446744073709551616 U') (val 18446744073709551616 V') w5):=by
 obtain⟨k1,k2,k3,k4,k5,k6⟩:=dv_plz H K f4 g1 g7;have hm9:=H.m9;have few:=H.few;have hlen:=H.len;have hl2:=K.l2;have hxc:=K.xc;have hnc:=K.nc;have hce:=K.c0e (by omega);have f:=f4.t f5;have hg: ∀g v,Glo w g v->Glo w5 g v:=fun g v hh=>(dv_glo H K hh).fr0 f
 exact divRecursive_any ⟨K.st.fr0 f,by omega,hg _ _ H.thr,hg _ _ H.td,⟨Z,g3,g4⟩,K.u.fr0 f,K.ul,K.ud,Nm.of_wr (K.v.fr0 f) (K.vr.fc (Fc.fr0 f 51 (fun _ _=>False))) (by rw[K.vl];exact hnc),kv,by rw[K.uv];exact hfit,few,by omega,by omega,g1,k1,hxc,K.cx9,by omega,K.d0x.sub1 hnc hxc,k2.sub1 g1 hxc,k3.sub1 hnc g1,Off.take k4 g1,Off.take K.xo hxc,K.hoff⟩
theorem dv_end{q2:Option StkSt}{qs rs:List Int}(H:DvPre m n s q A l bz oz cz Ay ly by_ oy cy Au bu ou cu us Av bv ov cv vs w)(K:DvA m n s q q1 Ay by_ oy cy b0 o0 c0 x ox cx (val 18446744073709551616 us) (val 18446744073709551616 vs) S w V' U' w3)(f4:Fr [] w3 w4)(f5:Fr [] w4 w5)
 (g1:m+1<=c1)(g7:(some (⟨z1,o1,none⟩:Addr)=A/\z1=bz/\o1=oz/\c1=cz)\/(cz<m+1/\c1<=m+1+4/\w4.heap.size<=z1))(g2:Rcv w5 (some ⟨z1,o1,none⟩) z1 o1 c1)
 (le2:StkLe w5.heap.size q1 q2)(ll2:lenS q2=lenS q1)(fcb:Fc 51 (fun b i=>StS s q1 b i\/In1 z1 o1 (m+1) b i\/In1 x ox (m+n+1) b i) w5 wb)
 (hz:Nm wb (some ⟨z1,o1,none⟩) z1 o1 c1 qs)(hzd:DG 18446744073709551616 qs)(hzn:NZ qs)(hzv:val 18446744073709551616 qs=val 18446744073709551616 us/val 18446744073709551616 vs)
 (fx:Fc 51 (In1 x ox (m+n+1)) wb wx)(hr:Nm wx (some ⟨x,ox,none⟩) x ox cx rs)(hrd:DG 18446744073709551616 rs)(hrn:NZ rs)(hrv:val 18446744073709551616 rs=val 18446744073709551616 us%val 18446744073709551616 vs)
 (fr:Fc 51 (StS s q2) wx w')(st':StkAt w' s (resS (lenS q) q2)):
 DvPost s q A bz oz cz Ay by_ oy cy (val 18446744073709551616 us) (val 18446744073709551616 vs) w (.returned (.tuple #[.slice (some ⟨z1,o1,none⟩) qs.length c1,.slice (some ⟨x,ox,none⟩) rs.length cx])) w':=by
 obtain⟨k1,k2,k3,k4,k5,k6⟩:=dv_plz H K f4 g1 g7;have s3:=K.fc.size;have s4:=f4.size;have s5:=f5.size;have hxc:=K.xc;have hx:=K.u.lt;have hll:lenS (resS (lenS q) q2)=lenS q:=lenS_res (fun h=>by subst h;have:=K.l1;have e:lenS none=0:=rfl;omega);have lz:z1<w5.heap.size:=g2.lt (by omega);have oz2:Off (StS s q2) z1 o1 c1:=off_le le2 (Nat.le_of_eq ll2.symm) k4 lz;have ox2:Off (StS s q2) x ox cx:=off_le le2 (Nat.le_of_eq ll2.symm) K.xo (by omega);have hle:StkLe w.heap.size q (resS (lenS q) q2):=(K.le.trans le2 (by omega)).res;have lwb:=fcb.size;have lwx:=fx.size
 have oz3:Off (StS s (resS (lenS q) q2)) z1 o1 c1:=by
  rcases g7 with⟨e1,rfl,rfl,rfl⟩|⟨h1,h2,h3⟩
  ·exact off_le hle (by rw[hll];exact Nat.le_refl _) H.oz_ (H.z.lt (by omega))
  ·exact off_new (K.st.fr0 f4) h3 le2 lz
 have ox3:Off (StS s (resS (lenS q) q2)) x ox cx:=by
  rcases K.xn with⟨_,rfl,rfl,rfl⟩|⟨_,_,_,h⟩
  ·exact off_le hle (by rw[hll];exact Nat.le_refl _) H.oy_ (H.y.lt (by omega))
  ·exact h _ _ _ le2 (by omega)
 have rp:PlR w Ay by_ oy cy (some ⟨x,ox,none⟩) x ox cx:=by
  have:=H.m9;have:=H.few;rcases K.xn with h|⟨_,h1,h2,_⟩
  ·exact .inl h
  ·exact .inr ⟨h2,by omega⟩
 have bn:(cz=0\/cy=0\/bz≠by_)->c1=0\/cx=0\/z1≠x:=fun hh=>by
  rcases g7 with⟨_,rfl,rfl,rfl⟩|⟨_,_,h3⟩
  ·rcases K.xn with⟨_,rfl,rfl,rfl⟩|⟨_,_,h2,_⟩
   ·exact hh
   ·exact .inr (.inr (by have:=H.z.lt (by omega);omega))
  ·exact .inr (.inr (by omega))
 refine⟨_,_,_,_,_,_,_,_,_,_,_,rfl,(hz.fc fx (fun i h1 h2=>(k2.sub1 (n:=c1) (by have:=hz.le;omega) hxc).off i h1 h2)).fc fr (Off.take oz2 hz.le),hzd,hzn,hzv,k6,hr.fc fr (Off.take ox2 hr.le),hrd,hrn,hrv,rp,k2,bn,oz3,ox3,st',hle,hll,?_⟩;have sub1: ∀b i,StS s q1 b i->b<w.heap.size->StS s q b i:=K.le.sub K.l1;have sub2: ∀b i,StS s q2 b i->b<w.heap.size->StS s q b i:=fun b i hh hlt=>sub1 b i (le2.sub (Nat.le_of_eq ll2.symm) b i hh (by omega)) hlt
 have subx: ∀b i,In1 x ox (m+n+1) b i->b<w.heap.size->In1 by_ oy cy b i:=fun b i hh hlt=>by
  rcases K.xn with⟨_,rfl,rfl,rfl⟩|⟨_,_,h,_⟩
  ·exact⟨hh.1,hh.2.1,by have:=hh.2.2;omega⟩
  ·have:=hh.1;omega
 refine(((((K.fc.mono (fun b i hh _=> ?_)).t (Fc.fr0 (f4.t f5) _ _)).trans fcb (fun b i hh hlt=> ?_)).trans fx (fun b i hh hlt=> .inr (.inr (subx b i hh hlt)))).trans fr (fun b i hh hlt=> .inl (sub2 b i hh hlt)))
 ·exact hh.elim .inl (fun h=> .inr (.inr h))
 ·rcases hh with hh|hh|hh
  ·exact .inl (sub1 b i hh hlt)
  ·exact .inr (.inl (k5 b i hh hlt))
  ·exact .inr (.inr (subx b i hh hlt))
end
end Go.Proofs.YthecibbmbnpegaaGreatDoor
end
section
namespace Go.Proofs.YthecibbmbnpegaaGreatDoor
open Go.Big Go.RowKit
attribute [local go_sem ↓] Go.wp_at_zero Go.wp_at_succ
theorem dv_large{m n s:Nat}{q:Option StkSt}{A:Option Addr}{l bz oz cz:Nat}{Ay:Option Addr}{ly by_ oy cy:Nat}{Au:Option Addr}{bu ou cu:Nat}{us:List Int}{Av:Option Addr}{bv ov cv:Nat}{vs:List Int}{w:World}(h:DvPre m n s q A l bz oz cz Ay ly by_ oy cy Au bu ou cu us Av bv ov cv vs w):
 Calls Tryz.prog 49 #[.slice A l cz,.pointer (some ⟨s,0,none⟩),.slice Ay ly cy,.slice Au (m+n) cu,.slice Av n cv] w (DvPost s q A bz oz cz Ay by_ oy cy (val 18446744073709551616 us) (val 18446744073709551616 vs) w):=by
 have hn2:=h.n2;have few:=h.few;have m9:=h.m9;have cz9:=h.cz9;have cy9:=h.cy9;have cu9:=h.cu9;have cv9:=h.cv9;have hzl:=h.zl;have hyl:=h.yl;have hun:=h.un;have hvn:=h.vn;have hul:=h.u.le;have hvl:=h.v.le;obtain rfl:=h.u.addr (by omega);obtain rfl:=h.v.addr (by omega);obtain⟨n1,hn1⟩: ∃x,x=n-1:=⟨_,rfl⟩;obtain⟨lu,hlu⟩: ∃x,x=m+n:=⟨_,rfl⟩;obtain⟨lu1,hlu1⟩: ∃x,x=lu+1:=⟨_,rfl⟩;obtain⟨m1,hm1⟩: ∃x,x=m+1:=⟨_,rfl⟩;obtain⟨t,ht⟩: ∃x,x=vs.getD n1 0:=⟨_,rfl⟩;have htb:=h.vd.getD (by omega) n1;rw[<-ht]at htb;obtain⟨L,hL,hL9⟩: ∃L,IsLen t L/\L<=64:=⟨_,isLen_word t htb.1 htb.2,bitLen_le64 t htb.1 htb.2⟩;obtain⟨σ,hσ⟩: ∃x,x=64-L:=⟨_,rfl⟩;have hsc:=dv_scale h.vd h.vn (by omega) h.vt (by rw[<-hn1,<- ht];exact hL) hL9;rw[<-hσ]at hsc;have ct:=(h.v.2.2 (by omega)) n1 (by omega);rw[<-ht]at ct;rw[<-hlu];have a1:(lu:Int)-(n:Int)=(m:Int):=by omega
 have a2:(n:Int)-1=(n1:Int):=by omega
 have a3:(lu:Int)+1=(lu1:Int):=by omega
 have a4:(m:Int)+1=(m1:Int):=by omega
 have b1:n1<n/\n<=cv/\lu<=cu/\lu<=60000/\0<lu/\lu<lu1:=by omega
 obtain⟨b1,b2,b3,b4,b5,b6⟩:=b1;have b1I:(n1:Int)<(n:Int)/\(lu:Int)<(lu1:Int)/\(lu:Int)<=(lu1:Int):=by omega
 obtain⟨b1I,b6I,b7I⟩:=b1I;have CZ0:=fun W=>nlzD_any t L W htb.1 htb.2 hL
 rw[show(64-(L:Int))=(σ:Int)by omega]at CZ0;have CZ:=κ CZ0;have CS:=κ (save_any s q w h.st);have CN:=κ (nat_anyE s n q w h.st (by omega) (by omega) (by have:=h.len;omega));have CM:=κ (fun W (hr:Rcv W Ay by_ oy cy)=>makeR_any Ay ly by_ oy cy lu1 W hr hyl (by omega) (by omega));have H:=κ h;have HSC:=κ hsc;have HLU:=κ hlu;have HLU1:=κ hlu1;have HM1:=κ hm1;have hs64:σ<64:=hsc.2.2;have hs64I:(σ:Int)<64/\0<=(σ:Int):=by omega
 clear h ht hL hσ hlu hlu1 hn1 hm1 CZ0 hun hvn hul hvl htb hL9 hsc hyl;go_enter_defers Tryz.func49,Tryz.ntmps49;refine wp_mono ?_ bodyPostN_D
 go_upto_if 40 with(first
  |(go_at_call 54;refine(CS.out).mono ?_;rintro e w1 ⟨rfl,rfl⟩)
  |(go_at_call 69;refine(CZ.out _).mono ?_;rintro e w1 ⟨rfl,rfl⟩)
  |(go_at_call 55;refine(CN.out).mono ?_;rintro e w1 ⟨b0,o0,c0,q1,rfl,p1,p2,p3,p4,p5,p6,p7,p8,p9,p10,p11⟩;have P2:=κ p2;have P3:=κ p3;have P4:=κ p4;have P5:=κ p5;have P6:=κ p6;have P7:=κ p7;have P8:=κ p8;have P9:=κ p9;have P10:=κ p10;have P11:=κ p11;clear p2 p3 p4 p5 p6 p7 p8 p9 p10 p11)
  |(go_at_call 42;refine(CM.out _ (H.out.y.fc P8.out)).mono ?_;intro e w2 hm;obtain⟨x,ox,cx,ZX,rfl,x1,x2,x3,x4,x5,x6,x7⟩:=hm.out2 (fun hc=>by have:=H.out.y.lt hc;have:=P8.out.size;omega);have X2:=κ x2;have X3:=κ x3;have X4:=κ x4;have X5:=κ x5;have X7:=κ x7;clear hm x2 x3 x4 x5 x6 x7));have hxc:m+n+1<=cx:=by have:=HLU.out;have:=HLU1.out;omega
 have hX7:(some (⟨x,ox,none⟩:Addr)=Ay/\x=by_/\ox=oy/\cx=cy)\/(cy<m+n+1/\cx<=m+n+1+4/\w1.heap.size<=x):=by have h:=X7.out;rw[HLU1.out,HLU.out]at h;exact h
 have PLH:=κ (dv_pl H.out p1 P3.out P4.out P5.out P6.out P8.out P9.out hX7 hxc);have hlucx:lu<=cx/\n<=c0/\lu1<=cx/\(lu:Int)<=(cx:Int):=by omega
 obtain⟨hlucx,_,hlu1cx,hlucxI⟩:=hlucx
 obtain⟨ZV,zv1,zv2⟩: ∃ZV,Wr 51 w2 b0 o0 ZV/\ZV.length=n:=by
  obtain⟨LB,hLB,hLBl⟩:=P3.out;exact((Rcv.of_row hLB hLBl P2.out).fc (Fc.fr0 X5.out 51 (fun _ _=>False))).wr p1 (by omega)
 have hsv:Go.Big.Src .u64 w2 bv ov vs:=((H.out.v.fc P8.out (by rw[H.out.vn];exact H.out.ov_)).fr0 X5.out).2.2 (by rw[H.out.vn];omega);have hsu:Go.Big.Src .u64 w2 bu ou us:=((H.out.u.fc P8.out (by rw[H.out.un];exact H.out.ou_)).fr0 X5.out).2.2 (by rw[H.out.un];omega);have SV:=κ hsv;have SU:=κ hsu;have ZV1:=κ zv1;have ZV2:=κ zv2;clear hsv hsu zv1 zv2 CS CN CM CZ hX7;go_cut [15]from 40 to 68 (fun s15 wx=>CutV (.slice (some ⟨b0,o0,none⟩) n c0) (fun wx=> ∃V' U',DvA m n s q q1 Ay by_ oy cy b0 o0 c0 x ox cx (val 18446744073709551616 us) (val 18446744073709551616 vs) (2^σ) w V' U' wx) s15 wx)
 case first=>
  have HXC:=κ hxc;have hX7:(some (⟨x,ox,none⟩:Addr)=Ay/\x=by_/\ox=oy/\cx=cy)\/(cy<m+n+1/\cx<=m+n+1+4/\w1.heap.size<=x):=by have h:=X7.out;rw[HLU1.out,HLU.out]at h;exact h
  have HX7:=κ hX7;have hzx:ZX.length=lu+1:=by rw[X4.out,HLU1.out]
  have HZX:=κ hzx;clear hX7 hxc hzx;by_cases hs0:σ=0
  ·subst hs0
   have hd:(((0:Nat):Int)==0)=true:=rfl;simp only[hd];clear hd;obtain⟨LV,hLV,hLVl⟩:=ZV1.out.2;rw[ZV2.out]at hLVl;have HLV:=κ hLV;have HLVL:=κ hLVl;clear hLV hLVl;go_upto_region 9 with(refine wp_copy rfl (.tmp 41) (.tmp 42) _ _ rfl .u64 51 Tryz.underlying43 size_wordS b0 o0 n c0 rfl (.slice (some ⟨bv,ov,none⟩) n cv) vs rfl (SV.out.sl H.out.vn b2 (by unfold maxLen;omega)) LV HLV.out HLVL.out ?_;intro w3 row3 f3;rw[List.take_of_length_le (by rw[H.out.vn];exact Nat.le_refl _)]at row3;have v1:Wr 51 w3 b0 o0 vs:=Wr.of_spl row3 (by rw[H.out.vn];exact HLVL.out);have v2:Fc 51 (In1 b0 o0 n) w2 w3:=fc_row (L':=LV) HLV.out row3 f3 (by rw[H.out.vn];exact HLVL.out) (fun i a1 a2=>⟨rfl,a1,by rw[H.out.vn]at a2;exact a2⟩);have x3:=X3.out.fc v2 (by rw[HZX.out];exact(PLH.out.1.sub1 p1 (by omega)).symm.off);have su3:=SU.out.fc v2 (by rw[H.out.un];exact PLH.out.2.2.2.2.1.off);obtain⟨LX,hLX,hLXl⟩:=x3.2;have HLX:=κ hLX;have HLXL:=κ (show ox+lu<=LX.length by rw[HZX.out]at hLXl;omega);have V1:=κ v1;have V2:=κ v2;have XX3:=κ x3;have SU3:=κ su3;clear row3 f3 v1 v2 x3 su3 hLX hLXl);have ul:us.length=lu:=by rw[H.out.un,HLU.out]
   have UL:=κ ul;clear ul;obtain⟨w4,hrun,row4,f4⟩:=run_copyE (P:=Tryz.prog) (dT:=43) (sT:=43) (ty:=3) (dCap:=cx) (sCap:=cu) Tryz.underlying43 size_wordS UL.out SU3.out HLX.out HLXL.out;have v1:Wr 51 w4 x ox us:=Wr.of_spl row4 (by rw[UL.out];exact HLXL.out);have v2:Fc 51 (In1 x ox lu) w3 w4:=fc_row (L':=LX) HLX.out row4 f4 (by rw[UL.out];exact HLXL.out) (fun i a1 a2=>⟨rfl,a1,by rw[UL.out]at a2;exact a2⟩);obtain⟨hfz,⟨old,cold⟩,u1,u2⟩:=snoc_put 0 XX3.out HZX.out v1 UL.out v2;have U1:=κ u1;have U2:=κ u2;clear row4 f4 v1 v2 u1 u2;go_wp2_with fail;all_goals go_meet
   all_goals exact⟨rfl,vs,us++[0],dvA_mk H.out p1 P2.out P3.out P4.out P5.out P6.out P7.out P8.out P9.out P10.out P11.out X5.out X2.out HXC.out HX7.out V2.out V1.out H.out.vn H.out.vd (by rw[Int.pow_zero,Int.one_mul]) (by rw[<-HLU.out];exact U2.out) U1.out (by rw[List.length_append,H.out.un];rfl) (H.out.ud.append (DG.cons (by omega) (by omega) (DG.nil _))) (by rw[val_snoc,Int.mul_zero,Int.add_zero,Int.pow_zero,Int.one_mul])⟩
  ·have hd:((σ:Int)==0)=false:=by rw[beq_eq_false_iff_ne];omega
   have T1:True:=trivial;simp only[hd];clear hd
   go_upto_region 12 with(first
    |(go_at_call 77;go_in)
    |(go_at_call 112;clear T1;refine(lshD_any b0 o0 c0 bv ov cv n σ ZV vs w2 ZV1.out ZV2.out SV.out H.out.vn H.out.vd hs64 PLH.out.2.2.2.2.2 p1 b2 (by unfold maxLen;omega) (by omega)).mono ?_;rintro e w3 ⟨zs,c,rfl,v1,v2,v3,v4,v5,v6,v7⟩;have V1:=κ v1;have V2:=κ v2;have V3:=κ v3;have V4:=κ v4;have V5:=κ v5;have V7:=κ v7;clear v1 v2 v3 v4 v5 v6 v7));have x3:=X3.out.fc V2.out (by rw[HZX.out];exact(PLH.out.1.sub1 p1 (by omega)).symm.off);have su3:=SU.out.fc V2.out (by rw[H.out.un];exact PLH.out.2.2.2.2.1.off);have XX3:=κ x3;have CL:=κ (lshD_any x ox cx bu ou cu lu σ (ZX.take lu) us w3 (x3.take lu (by rw[HZX.out];omega)) (by rw[List.length_take,HZX.out];omega) su3 (by rw[H.out.un,HLU.out]) H.out.ud hs64 (by rw[HLU.out];exact PLH.out.2.2.1.sub1 (Nat.le_refl _) (by omega)) hlucx b3 (by unfold maxLen;omega) (by omega));clear x3 su3
   go_wp2_with (first
    |(go_at_call 77;go_in)
    |(go_at_call 112;refine(CL.out).mono ?_;rintro e w4 ⟨ys,c4,rfl,y1,y2,y3,y4,y5,y6,y7⟩;obtain⟨hfz,⟨old,cold⟩,u1,u2⟩:=snoc_put c4 XX3.out HZX.out y1 y3 y2;have U1:=κ u1;have U2:=κ u2;have Y3:=κ y3;have Y4:=κ y4;have Y7:=κ y7;clear y1 y2 y3 y4 y7 u1 u2));go_meet
   have hv:val 18446744073709551616 zs=2^σ*val 18446744073709551616 vs:=by
    have e1:=V7.out;have e2:=HSC.out.2.1;have e3:=val_nonneg (B:=18446744073709551616) (by omega) V4.out;have e4:=V5.out;have hP:=pow_pos_ (B:=18446744073709551616) (by omega) n;rcases(show c=0\/1<=c by omega)with h|h
    ·rw[h,Int.mul_zero,Int.add_zero]at e1;exact e1
    ·have:18446744073709551616^n*1<=(18446744073709551616:Int)^n*c:=Int.mul_le_mul_of_nonneg_left h (by omega)
     omega
   exact⟨rfl,zs,ys++[c4],dvA_mk H.out p1 P2.out P3.out P4.out P5.out P6.out P7.out P8.out P9.out P10.out P11.out X5.out X2.out HXC.out HX7.out V2.out V1.out V3.out V4.out hv (by rw[<-HLU.out];exact U2.out) U1.out (by rw[List.length_append,Y3.out,HLU.out];rfl) (Y4.out.append (DG.cons y5 y6 (DG.nil _))) (by rw[val_snoc,Y3.out];exact Y7.out)⟩
 case rest=>
  obtain⟨rfl,V',U',ka⟩:=hcut;obtain⟨w3,hw3⟩: ∃w3,w3=wc:=⟨_,rfl⟩;subst hw3;have KA:=κ ka;have kv:KnV n V':=dv_top ka.vd ka.vl hn2 (by rw[ka.vv];exact HSC.out.1);have hfit:2^σ*val 18446744073709551616 us<9223372036854775808*18446744073709551616^(n+(m+1)-1):=dv_fit (val_nonneg (by omega) H.out.ud) (by have:=val_lt (B:=18446744073709551616) (by omega) H.out.ud;rwa[H.out.un]at this) hs64;have HKV:=κ kv;have HFIT:=κ hfit
  have CA0:=aliasN_any A l bz oz cz (some ⟨x,ox,none⟩) x ox cx U' w3 (H.out.z.fc ka.fc) H.out.zl (Nm.of_wr ka.u ka.ur (by rw[ka.ul];exact ka.xc)) (fun hcz hcx=>by
   rcases ka.xn with⟨_,rfl,rfl,rfl⟩|⟨_,_,hh,_⟩
   ·have:=H.out.dyz;unfold Dj at this;omega
   ·have:=H.out.z.lt hcz;exact .inl (by omega));rw[ka.ul,<- HLU.out,<- HLU1.out]at CA0;have CA:=κ CA0;have CK:=κ (fun W (f:Fr [] w3 W)=>makeR_any A l bz oz cz m1 W ((H.out.z.fc KA.out.fc).fc (Fc.fr0 f 51 (fun _ _=>False))) H.out.zl (by have:=HM1.out;omega) (by have:=HM1.out;omega));have tdc:w3.cell? ⟨1,0,none⟩=some (.int .i64 40):=dv_glo H.out KA.out H.out.td;clear ka CA0 kv hfit PLH SV SU ZV1 ZV2 P2 P3 P4 P5 P6 P7 P8 P9 P10 P11
  go_upto_region 16 with(first
   |(go_at_call 37;refine(CA.out).mono ?_;rintro e w4 ⟨rfl,f4⟩)
   |(go_at_call 42;refine(CK.out _ f4).mono ?_;intro e w5 hm;obtain⟨z1,o1,c1,Z,rfl,g1,g2,g3,g4,g5,g6,g7⟩:=hm.out2 (fun hcz=>by have:=H.out.z.lt hcz;have:=KA.out.fc.size;have:=f4.size;omega);have G2:=κ g2;have G3:=κ g3;have G4:=κ g4;have G5:=κ g5;have G7:=κ g7;clear hm g2 g3 g4 g5 g6 g7));have td5:w5.cell? ⟨1,0,none⟩=some (.int .i64 40):=(show Glo w3 1 40 from tdc).fr0 (f4.t G5.out);clear tdc CA CK;have G7':=G7.out;have G4':=G4.out;have g1':=g1;rw[HM1.out]at G7' G4' g1';go_upto_if 78 with fail;go_cut [10]from 78 to 88 (fun s10 wx=>CutV (.slice (some ⟨z1,o1,none⟩) m1 c1) (fun wx=>DrPost s q1 z1 o1 m1 x ox lu1 (val 18446744073709551616 U') (val 18446744073709551616 V') w5 (.returned (.tuple #[])) wx) s10 wx)
  case first=>
   by_cases hn40:n<40
   ·have CB0:=dv_bas H.out KA.out HKV.out HFIT.out f4 G5.out g1' G3.out G4' G7'
    rw[<-HLU.out,<- HLU1.out,<- HM1.out]at CB0;have CB:=κ CB0;have hd:decide ((n:Int)<40)=true:=decide_eq_true (by omega);clear CB0 G7' G4' g1';try simp only[hd]
    go_wp2_with (go_at_call 78;refine(CB.out).mono ?_;rintro e w6 hp;obtain rfl:=hp.ret;have HP:=κ hp;clear hp);go_meet;exact⟨rfl,HP.out⟩
   ·have CB0:=dv_rec H.out KA.out HKV.out HFIT.out f4 G5.out g1' G3.out G4' G7' (by omega)
    rw[<-HLU.out,<- HLU1.out,<- HM1.out]at CB0;have CB:=κ CB0;have hd:decide ((n:Int)<40)=false:=decide_eq_false (by omega);clear CB0 G7' G4' g1';try simp only[hd]
    go_wp2_with (go_at_call 79;refine(CB.out).mono ?_;rintro e w6 hp;obtain rfl:=hp.ret;have HP:=κ hp;clear hp);go_meet;exact⟨rfl,HP.out⟩
  case rest=>
   obtain⟨rfl,hp⟩:=hcut;obtain⟨w6,hw6⟩: ∃w6,w6=wc:=⟨_,rfl⟩;subst hw6;obtain⟨q2,Q',U2,-,st2,le2,ll2,wz,wzl,wzd,wzv,wu,wul,wud,wuv,fcb⟩:=hp;have hP2:=pow_pos_ (B:=2) (by omega) σ;rw[KA.out.uv,KA.out.vv,(dv_same hP2).1]at wzv;rw[KA.out.uv,KA.out.vv,(dv_same hP2).2]at wuv;have CN1:=normN_any (some ⟨z1,o1,none⟩) z1 o1 c1 Q' w6 (Nm.of_wr wz (G2.out.fc fcb) (by rw[wzl];exact g1)) wzd;rw[wzl,wzv]at CN1;have CQ:=κ CN1;have CR:=κ (rshD_any x ox cx lu1 σ U2 w6 wu wul wud hs64 hlu1cx (by have:=KA.out.cx9;unfold maxLen;omega) (by omega));have ST2:=κ st2;have LE2:=κ le2;have LL2:=κ ll2;have WU:=κ wu;have WUL:=κ wul;have WUD:=κ wud;have WUV:=κ wuv;have FCB:=κ fcb;have cx9:=KA.out.cx9;clear st2 le2 ll2 wz wzl wzd wzv wu wul wud wuv fcb CN1 hP2;go_upto_if 92 with(go_at_call 34;refine(CQ.out).mono ?_;rintro e w7 ⟨⟨qs,rfl,q1_,q2_,q3_,q4_,q5_⟩,rfl⟩;have Q1:=κ q1_;have Q2:=κ q2_;have Q3:=κ q3_;have Q4:=κ q4_;clear q1_ q2_ q3_ q4_ q5_);clear CQ;go_cut [2]from 92 to 96 (fun s2 wx=>CutV (.slice (some ⟨x,ox,none⟩) lu1 cx) (fun wx=> ∃U3,Wr 51 wx x ox U3/\U3.length=lu1/\DG 18446744073709551616 U3/\val 18446744073709551616 U3=val 18446744073709551616 us%val 18446744073709551616 vs/\Fc 51 (In1 x ox lu1) w6 wx) s2 wx)
   case first=>
    by_cases hs0:σ=0
    ·subst hs0
     have hd:(((0:Nat):Int) !=0)=false:=rfl;simp only[hd];go_wp2_with fail;go_meet;exact⟨rfl,U2,WU.out,WUL.out,WUD.out,by rw[WUV.out,Int.pow_zero,Int.one_mul],Fc.refl _ _ _⟩
    ·have hd:((σ:Int) !=0)=true:=by rw[bne_iff_ne];omega
     simp only[hd]
     go_wp2_with (first
      |(go_at_call 80;go_in)
      |(go_at_call 115;refine(CR.out).mono ?_;rintro e w8 ⟨ys,c8,rfl,y1,y2,y3,y4,y5,y6,y7⟩;have Y1:=κ y1;have Y2:=κ y2;have Y3:=κ y3;have Y4:=κ y4;have Y7:=κ y7;clear y1 y2 y3 y4 y7));go_meet;exact⟨rfl,ys,Y1.out,Y3.out,Y4.out,dv_back (s:=σ) (by omega) y5 y6 (by rw[<-WUV.out];exact Y7.out),Y2.out⟩
   case rest=>
    obtain⟨rfl,U3,v1,v2,v3,v4,v5⟩:=hcut;obtain⟨w8,hw8⟩: ∃w8,w8=wc:=⟨_,rfl⟩;subst hw8;have CN2:=normN_any (some ⟨x,ox,none⟩) x ox cx U3 w8 (Nm.of_wr v1 (((KA.out.ur.fc (Fc.fr0 (f4.t G5.out) 51 (fun _ _=>False))).fc FCB.out).fc v5) (by rw[v2];exact hlu1cx)) v3;rw[v2,v4]at CN2;have CU:=κ CN2;have HST:=κ (st_in1 ST2.out WU.out v5);have V5:=κ v5;clear CN2 v1 v2 v3 v4 v5;go_wp2_with (go_at_call 34;refine(CU.out).mono ?_;rintro e w9 ⟨⟨rs,rfl,q1_,q2_,q3_,q4_,q5_⟩,rfl⟩;have R1:=κ q1_;have R2:=κ q2_;have R3:=κ q3_;have R4:=κ q4_;clear q1_ q2_ q3_ q4_ q5_);show Leaves _ _ _ _ _ _ _;refine leaves_cons (f:=53) (args:= #[.pointer (some ⟨s,0,none⟩),.int .i64 ((lenS q:Nat):Int)]) (by simp) (by simp[go_sem]) ?_;refine(restore_deferred s (lenS q) q2 .returning _ HST.out (dr_cap HST.out (by rw[LL2.out];exact KA.out.l1))).mono ?_;rintro e u' w'' ⟨rfl,rfl,hst4,hf4⟩;refine⟨_,results_tmp2 rfl _ _ _,?_⟩;have hV5:=V5.out;have hFCB:=FCB.out;have hG7:=G7.out;have hg1:=g1;rw[HLU1.out,HLU.out]at hV5 hFCB;rw[HM1.out]at hFCB hG7 hg1;exact dv_end H.out KA.out f4 G5.out hg1 hG7 G2.out LE2.out LL2.out hFCB Q1.out Q2.out Q3.out Q4.out hV5 R1.out R2.out R3.out R4.out hf4 hst4
end Go.Proofs.YthecibbmbnpegaaGreatDoor
end
section
namespace Go.Proofs.YthecibbmbnpegaaGreatDoor
open Go.Big Go.RowKit
def DvRelR(xs:List Int)(y:Int)(z oz:Nat)(L:List Int)(w1:World)(g:Nat)(rv iv:Value)(wr:World):Prop:=
 ∃(i:Nat) (qs:List Int) (r:Int),i<=xs.length/\i=g/\iv= .int .i64 ((i:Int)-1)/\rv= .int .u64 r/\0<=r/\r<y/\Row .u64 51 wr z (spl L (oz+i) qs)/\Fr [z] w1 wr/\i+qs.length=xs.length/\DG 18446744073709551616 qs/\
  val 18446744073709551616 qs*y+r=val 18446744073709551616 (xs.drop i)
theorem divWVWR_any(z oz cz bx ox cap N:Nat)(Z xs:List Int)(y:Int)(w:World)(hz:Wr 51 w z oz Z)(hZ:Z.length=N)(hs:Go.Big.Src .u64 w bx ox xs)(hd:DG 18446744073709551616 xs)(hN:N=xs.length)(hal:Dj bx ox N z oz N)(hN0:0<N)(hl:N<=1000000)
 (hNcz:N<=cz)(hcz:cz<=maxLen)(hlc:N<=cap)(hm:cap<=maxLen)(hy0:0<y)(hyW:y<18446744073709551616):
 Calls Tryz.prog 75 #[.slice (some ⟨z,oz,none⟩) N cz,.int .u64 0,.slice (some ⟨bx,ox,none⟩) N cap,.int .u64 y] w fun e w'=> ∃qs,e= .returned (.int .u64 (val 18446744073709551616 xs%y))/\Wr 51 w' z oz qs/\qs.length=N/\DG 18446744073709551616 qs/\val 18446744073709551616 qs=val 18446744073709551616 xs/y/\Fc 51 (In1 z oz N) w w':=by
 unfold maxLen at hm hcz;obtain⟨_,LL,row,hLl⟩:=hz;rw[hZ]at hLl;have FIN: ∀w' qs,Row .u64 51 w' z (spl LL oz qs)->Fr [z] w w'->qs.length=N->Wr 51 w' z oz qs/\Fc 51 (In1 z oz N) w w':=fun w' qs h1 h2 h3=>⟨Wr.of_spl h1 (by omega),fc_row (L':=LL) row h1 h2 (by omega) (fun i a1 a2=>⟨rfl,a1,by omega⟩)⟩
 have HFIN:=κ FIN;have HN:=κ hN;have HD:=κ hd;have HS:=κ hs;have HAL:=κ hal;have HROW:=κ row;by_cases h1:N=1
 ·obtain⟨x,hx⟩: ∃x,x=xs.getD 0 0:=⟨_,rfl⟩
  have cx:=HS.out 0 (by rw[<-HN.out];omega);rw[Nat.add_zero]at cx;obtain⟨hx0,hx1⟩:=HD.out.getD (by omega) 0;rw[<-hx]at cx hx0 hx1
  have hxe:val 18446744073709551616 xs=x:=by
   obtain⟨a,rfl⟩:=List.length_eq_one_iff.1 (show xs.length=1 by omega);rw[hx];simp[val_cons,val_nil]
  rw[hxe];have C:=κ (fun W=>bitsDiv0_any x y W hx0 hx1 hy0 hyW);have hq0:0<=x/y:=Int.ediv_nonneg hx0 (by omega);have hq1:x/y<18446744073709551616:=Int.lt_of_le_of_lt (Int.ediv_le_self _ hx0) hx1;obtain⟨q,hq⟩: ∃q,q=x/y:=⟨_,rfl⟩;obtain⟨r,hr⟩: ∃r,r=x%y:=⟨_,rfl⟩;rw[<-hq]at hq0 hq1;simp only[<-hq,<- hr]at C ⊢
  obtain⟨old,hold⟩: ∃old,old=LL.getD oz 0:=⟨_,rfl⟩;have CZ:=κ (fun(W:World) (h:Row .u64 51 W z LL)=>(show W.cell? ⟨z,oz,none⟩=some (.int .u64 old)by rw[hold];exact h.cell (i:=oz) (by omega)));have HFZ:=κ (fun(W:World) (h:Row .u64 51 W z LL)=>h.frozen oz);clear hx hxe hold hq hr hs hd hN row FIN hal hZ;subst h1;go_enter Tryz.func75,Tryz.ntmps75;go_wp2_with (go_at_call 109;go_loud (refine(C.out _).mono ?_);rintro e w1 ⟨rfl,f1⟩;have row1:=HROW.out.fr f1 (by simp);have cz0:=CZ.out _ row1;have hfz:=HFZ.out _ row1;have HR1:=κ row1;clear row1);go_ret;have hsp:=spl_set_end (L:=LL) (o:=oz) (cs:=[]) (by simp;omega) q;rw[spl_nil]at hsp;have h:=HR1.out.set oz q
  have hrow:Row .u64 51 (w1.setCell ⟨z,oz,none⟩ (.int .u64 q)) z (spl LL oz [q]):=by
   rw[show spl LL oz [q]=LL.set oz q by simpa using hsp.symm];exact h
  have hF:=HFIN.out _ [q] hrow ((f1.mono (by simp)).set (.inl (by simp)) _) rfl;exact⟨[q],rfl,hF.1,rfl,DG.cons hq0 hq1 (DG.nil _),by simp[val_cons,val_nil],hF.2⟩
 ·have hL:=isLen_word y (by omega) hyW
  obtain⟨L,hLe⟩: ∃L,L=Lib.bitLen y.toNat:=⟨_,rfl⟩;rw[<-hLe]at hL;have C1:=κ (fun W=>recip_any y L W hy0 hyW hL);have C2:=κ (fun x1 x0 W h10 h1y h00 h0W=>divWW_any x1 x0 y L W h10 h1y h00 h0W hyW hL);obtain⟨rc,hrc⟩: ∃rc,rc=rcp (y*2^(64-L)):=⟨_,rfl⟩;simp only[<-hrc]at C1 C2;obtain⟨X,hX⟩: ∃X,X=val 18446744073709551616 xs:=⟨_,rfl⟩;have HX:=κ hX;rw[<-hX];have h1b:((N:Int)==1)=false:=by rw[beq_eq_false_iff_ne];omega
  clear hL hLe hrc hX hs hd hN row FIN hal hZ;go_enter Tryz.func75,Tryz.ntmps75;go_wp2_with (go_at_call 110;refine(C1.out _).mono ?_;rintro e w1 ⟨rfl,f1⟩);go_loopg [8,12] N (DvRelR xs y z oz LL w1);case atStart=>exact⟨N,[],0,by rw[<-HN.out];omega,rfl,rfl,rfl,by omega,by omega,by rw[spl_nil];exact HROW.out.fr f1 (by simp),Fr.refl _ _,by rw[HN.out];rfl,DG.nil _,by simp[val_nil,HN.out]⟩
  case round=>
   obtain⟨i,qs,r,hi,rfl,rfl,rfl,hr0,hr1,hrow,hf,hql,hqd,hqv⟩:=hrel;rw[<-HN.out]at hi hql;have HR:=κ hrow;have HF:=κ hf;have HQL:=κ hql;have HQD:=κ hqd;have HQV:=κ hqv;clear hrow hf hql hqd hqv;by_cases h2:0<i
   ·obtain⟨j,hj⟩: ∃j,i=j+1:=⟨i-1,by omega⟩
    have hij:(i:Int)-1=(j:Int):=by omega
    have hjN:(j:Int)<(N:Int):=by omega
    have hcapj:(j:Int)<(cap:Int):=by omega
    obtain⟨x,hx⟩: ∃x,x=xs.getD j 0:=⟨_,rfl⟩;have cx:=(HS.out.fr f1 (by simp)).spl (HROW.out.fr f1 (by simp)) HR.out HF.out (by have:=HQL.out;omega) (j:=j) (by rw[<-HN.out];omega) (by have:=HAL.out;unfold Dj at this;have:=HQL.out;omega);obtain⟨hx0,hx1⟩:=HD.out.getD (by omega) j;rw[<-hx]at cx hx0 hx1;have hfz:=HR.out.frozen (oz+j);have cz0:=HR.out.cell (i:=oz+j) (by rw[spl_len (by have:=HQL.out;omega)];omega);obtain⟨old,hold⟩: ∃old,old=(spl LL (oz+i) qs).getD (oz+j) 0:=⟨_,rfl⟩;rw[<-hold]at cz0;have CD:=κ (C2.out r x wr hr0 hr1 hx0 hx1);have hq0:0<=(r*18446744073709551616+x)/y:=Int.ediv_nonneg (by omega) (by omega);have hq1:(r*18446744073709551616+x)/y<18446744073709551616:=Int.ediv_lt_of_lt_mul hy0 (by rw[Int.mul_comm];omega);have hr0':0<=(r*18446744073709551616+x)%y:=Int.emod_nonneg _ (by omega);have hr1':(r*18446744073709551616+x)%y<y:=Int.emod_lt_of_pos _ hy0;have hst:=divw_step (x:=x) (r:=r) (y:=y) (qs:=qs) (xs:=xs) (j:=j) (V:=0) (by rw[<-HN.out];omega) hx rfl rfl (by rw[<-hj];exact HQV.out);obtain⟨q,hq⟩: ∃q,q=(r*18446744073709551616+x)/y:=⟨_,rfl⟩;obtain⟨r',hr'⟩: ∃r',r'=(r*18446744073709551616+x)%y:=⟨_,rfl⟩;rw[<-hq]at hq0 hq1 hst;rw[<-hr']at hr0' hr1' hst;rw[<-hq,<- hr']at CD;have HST:=κ hst;have HJ:=κ hj;clear hold hx hq hr' hst hj;go_wp2_with (go_at_call 111;refine(Hid.out CD).mono ?_;rintro e w2 ⟨rfl,rfl⟩);go_roundg j;case measure=>have:=HJ.out;omega
    case rel=>
     refine⟨j,q::qs,r',by rw[<-HN.out];omega,rfl,by first|rfl|go_num,rfl,hr0',hr1',?_,HF.out.set (.inl (by simp)) _,by rw[<-HN.out,List.length_cons];have:=HQL.out;have:=HJ.out;omega,DG.cons hq0 hq1 HQD.out,HST.out⟩;have h:=HR.out.set (oz+j) q;rw[HJ.out,<- Nat.add_assoc,spl_set_top (by omega)]at h;exact h
   ·obtain rfl:i=0:=by omega
    have hv:=HQV.out;rw[List.drop_zero,<- HX.out]at hv;have hfin:=divw_fin hy0 hv hr0 hr1;have HFI:=κ hfin;clear hv hfin;go_wp2_with fail;go_ret;have hF:=HFIN.out _ qs (by have:=HR.out;rwa[Nat.add_zero]at this) ((f1.mono (S':=[z]) (by simp)).trans HF.out (fun x hx _=>hx)) (by have:=HQL.out;omega);exact⟨qs,by rw[HFI.out.2];rfl,hF.1,by have:=HQL.out;omega,HQD.out,HFI.out.1,hF.2⟩
def DivWPost(A:Option Addr)(b o c:Nat)(X y:Int)(w:World)(e:Ending)(w':World):Prop:=
 ∃A' b' o' c' zs,e= .returned (.tuple #[.slice A' zs.length c',.int .u64 (X%y)])/\PutR w A b o c (X/y) A' b' o' c' zs w'
theorem divWR_any(A:Option Addr)(l b o c:Nat)(Ax:Option Addr)(bx ox cx:Nat)(xs:List Int)(y:Int)(w:World)(h:Rcv w A b o c)(hl:l<=c)(hx:Nm w Ax bx ox cx xs)(hd:DG 18446744073709551616 xs)(hzx:NZ xs)(hx9:xs.length<=1000000)(hal:Dj bx ox xs.length b o c)(hy0:0<y)(hyW:y<18446744073709551616):
 Calls Tryz.prog 45 #[.slice A l c,.slice Ax xs.length cx,.int .u64 y] w (DivWPost A b o c (val 18446744073709551616 xs) y w):=by
 have hy2:(y==0)=false:=by rw[beq_eq_false_iff_ne];omega
 have hc:=h.max;have hcx:=hx.max;have hxc:=hx.le;by_cases h1:y=1
 ·subst h1
  have C:=κ (setR_all A l b o c Ax bx ox cx xs w hx hd hzx h hl hx9);clear hd hzx hx h hal;unfold maxLen at hc hcx;go_enter Tryz.func45,Tryz.ntmps45;go_wp2_with (go_at_call 41;refine(Hid.out C).mono ?_;rintro e w1 ⟨A',b',o',c',zs,rfl,hp⟩;have HP:=κ hp;clear hp);go_ret2;refine⟨A',b',o',c',zs,by rw[Int.emod_one];rfl,?_⟩;rw[Int.ediv_one];exact HP.out
 have hy3:(y==1)=false:=by rw[beq_eq_false_iff_ne];omega
 by_cases h0:xs.length=0
 ·obtain rfl:xs=[]:=List.eq_nil_of_length_eq_zero h0
  have HR:=κ h;simp only[List.length_nil]at*;clear h0 hd hzx hx h hal;unfold maxLen at hc hcx;go_enter Tryz.func45,Tryz.ntmps45;go_wp2_with fail;go_ret2;exact⟨A,b,o,c,[],by rw[val_nil,Int.zero_emod];rfl,Nm.nil HR.out,DG.nil _,NZ.nil,by rw[val_nil,Int.zero_ediv],.inl ⟨rfl,rfl,rfl,rfl⟩,Fc.refl _ _ _⟩
 obtain rfl:=hx.addr (by omega);obtain⟨N,hN⟩: ∃N,N=xs.length:=⟨_,rfl⟩;have HX:=κ hx;have HR:=κ h;have CM:=κ (makeR_any A l b o c N w h hl (by omega) (by omega));have C:=κ (fun(z oz cz:Nat) (Z:List Int) (W:World) (f:Fr [] w W) (hz:Wr 51 W z oz Z) (hZ:Z.length=N) (ha:Dj bx ox N z oz N) (h1:N<=cz) (h2:cz<=maxLen)=>divWVWR_any z oz cz bx ox cx N Z xs y W hz hZ ((hx.fr0 f).2.2 (by omega)) hd hN ha (by omega) (by omega) h1 h2 (by omega) hcx hy0 hyW);have HAL:=κ (show Dj bx ox N b o c by rw[hN];exact hal);have hlt:=hx.lt (by omega);obtain⟨X,hXe⟩: ∃X,X=val 18446744073709551616 xs:=⟨_,rfl⟩;obtain⟨Q,hQ⟩: ∃Q,Q=X/y:=⟨_,rfl⟩;obtain⟨R,hR⟩: ∃R,R=X%y:=⟨_,rfl⟩;simp only[<-hXe,<- hQ,<- hR]at C ⊢
 rw[<-hN]at h0 hxc hx9 ⊢
 have hN0:((N:Int)==0)=false:=by rw[beq_eq_false_iff_ne];omega
 have HQ:=κ hQ;have HRR:=κ hR;unfold maxLen at hc hcx;clear hN hd hzx hx h hal hQ hR;go_enter Tryz.func45,Tryz.ntmps45
 go_wp2_with (first
  |(go_at_call 42;refine(Hid.out CM).mono ?_;clear CM;intro e w1 hm;obtain⟨b',o',c',Z,rfl,g1,h2,h3,h4,h5,h6,h7⟩:=hm.out (fun hc=>HR.out.lt hc);have H2:=κ h2;have H3:=κ h3;have H4:=κ h4;have H5:=κ h5;have H7:=κ h7;clear hm h2 h3 h4 h5 h6 h7)
  |(go_at_call 75;refine(C.out b' o' c' Z _ H5.out H3.out H4.out (by rcases H7.out with⟨_,e1,e2,e3⟩|⟨a,_⟩;(subst e1;subst e2;subst e3;exact HAL.out.sub1 (Nat.le_refl _) g1);exact .inl (by omega)) g1 H2.out.max).mono ?_;rintro e w2 ⟨qs,rfl,wr2,hql,hqd,hqv,f2⟩;have HW2:=κ wr2;have HQL:=κ hql;have HQD:=κ hqd;have HQV:=κ hqv;have HF2:=κ f2;have CN:=κ (normN_any (some ⟨b',o',none⟩) b' o' c' qs w2 (Nm.of_wr wr2 (H2.out.fc f2) (by omega)) hqd);rw[hql]at CN;clear wr2 hql hqd hqv f2)
  |(go_at_call 34;refine(CN.out).mono ?_;rintro e w4 ⟨⟨zs,rfl,n1,n2,n3,n4,n5⟩,rfl⟩;have N1:=κ n1;have N2:=κ n2;have N3:=κ n3;have N4:=κ n4;clear n1 n2 n3 n4 n5));go_ret2;refine⟨_,b',o',c',zs,by rw[<-HRR.out];rfl,N1.out,N2.out,N3.out,by rw[N4.out,HQV.out,HQ.out],H7.out.imp id (fun a=>⟨a.1,by have:=a.2;omega⟩),(Fc.fr0 H5.out _ _).trans HF2.out (fun x i hh hlt=> ?_)⟩;rcases H7.out with⟨_,rfl,rfl,rfl⟩|⟨a,_⟩
 ·exact In1.cap hh g1
 ·have:=hh.1;omega
end Go.Proofs.YthecibbmbnpegaaGreatDoor
end
section
namespace Go.Proofs.YthecibbmbnpegaaGreatDoor
open Go.Big Go.RowKit
attribute [local go_sem ↓] Go.wp_at_zero Go.wp_at_succ
structure DivPre(s:Nat)(q:Option StkSt)(A:Option Addr)(l bz oz cz:Nat)(Ay:Option Addr)(ly by_ oy cy:Nat)(Au:Option Addr)(bu ou cu:Nat)(us:List Int)(Av:Option Addr)(bv ov cv:Nat)(vs:List Int)(w:World):Prop where
 st:StkAt w s q
 len:lenS q+10000*(vs.length+2)<=100000000000
 thr:Glo w 0 40
 td:Glo w 1 40
 z:Rcv w A bz oz cz
 zl:l<=cz
 cz9:cz<=9223372036854775807
 y:Rcv w Ay by_ oy cy
 yl:ly<=cy
 cy9:cy<=9223372036854775807
 u:Nm w Au bu ou cu us
 ud:DG 18446744073709551616 us
 uz:NZ us
 u9:us.length<=50000
 cu9:cu<=9223372036854775807
 v:Nm w Av bv ov cv vs
 vd:DG 18446744073709551616 vs
 vz:NZ vs
 v1:1<=vs.length
 v9:vs.length<=900
 cv9:cv<=9223372036854775807
 oz_:Off (StS s q) bz oz cz
 oy_:Off (StS s q) by_ oy cy
 ou_:Off (StS s q) bu ou us.length
 ov_:Off (StS s q) bv ov vs.length
 dyz:Dj by_ oy cy bz oz cz
 dyu:Dj by_ oy cy bu ou us.length
 dyv:Dj by_ oy cy bv ov vs.length
 dzu:Dj bz oz cz bu ou us.length
section
variable {s:Nat}{q:Option StkSt}{A:Option Addr}{l bz oz cz:Nat}{Ay:Option Addr}{ly by_ oy cy:Nat}{Au:Option Addr}{bu ou cu:Nat}{us:List Int}{Av:Option Addr}{bv ov cv:Nat}{vs:List Int}{w:World}
theorem DivPre.vt(h:DivPre s q A l bz oz cz Ay ly by_ oy cy Au bu ou cu us Av bv ov cv vs w):vs.getD (vs.length-1) 0≠0:=by
 rcases h.vz with e|e
 ·have:=h.v1;rw[e]at this;exact absurd this (by simp)
 ·exact e
theorem st_rcv{w w2:World}{s b o c:Nat}{q:Option StkSt}{A:Option Addr}(st:StkAt w s q)(h:Rcv w A b o c)(hf:Fc 51 (In1 b o c) w w2):StkAt w2 s q:=by
 by_cases e:c=0
 ·exact st.fc hf (fun i hh=>by have:=hh.2.1;have:=hh.2.2;omega) (fun p _ i hh=>by have:=hh.2.1;have:=hh.2.2;omega)
 ·obtain⟨L,hL,_⟩:=h.row (by omega)
  refine st.fc hf (fun i hh=>st.row_ne hL hh.1.symm) (fun p hp i hh=> ?_);subst hp;exact st.2.row_ne hL hh.1.symm
theorem div_mk{w1 w2:World}{X Y:Int}{A1:Option Addr}{b1 o1 c1:Nat}{qs:List Int}{A2:Option Addr}{b2 o2 c2:Nat}{rs:List Int}(st:StkAt w s q)(z:Rcv w A bz oz cz)(y:Rcv w Ay by_ oy cy)(oz_:Off (StS s q) bz oz cz)(oy_:Off (StS s q) by_ oy cy)(dyz:Dj by_ oy cy bz oz cz)
 (P:PutR w A bz oz cz (X/Y) A1 b1 o1 c1 qs w1)(R:PutR w1 Ay by_ oy cy (X%Y) A2 b2 o2 c2 rs w2):DvR s q A bz oz cz Ay by_ oy cy X Y w A1 b1 o1 c1 qs A2 b2 o2 c2 rs q w2:=by
 obtain⟨p1,p2,p3,p4,p5,p6⟩:=P;obtain⟨r1,r2,r3,r4,r5,r6⟩:=R;have s1:=p6.size;have s2:=r6.size;have st1:=st_rcv st z p6;have st2:=st_rcv st1 (y.fc p6) r6;have newq: ∀{b o c:Nat},w.heap.size<=b->Off (StS s q) b o c:=fun hb i _ _ hi=>by have:=stk_lt st hi;omega
 have hyl:0<cy->by_<w.heap.size:=fun hc=>y.lt hc
 have hq1:0<c1->b1<w1.heap.size:=fun hc=>p1.rcv.lt hc
 have dj1:Dj b1 o1 c1 by_ oy cy:=by
  rcases p5 with⟨_,rfl,rfl,rfl⟩|⟨h,_⟩
  ·exact dyz.symm
  ·by_cases e:cy=0
   ·unfold Dj;omega
   ·have:=hyl (by omega);exact .inl (by omega)
 refine⟨p1.fc r6 (fun i h1 h2=>(dj1.sub1 p1.le (Nat.le_refl _)).off i h1 h2),p2,p3,p4,p5,r1,r2,r3,r4,r5.imp id (fun a=>⟨by omega,a.2⟩),?_,?_,?_,?_,st2,StkLe.refl _ _,rfl,(p6.mono (fun b i hh _=> .inr (.inl hh))).trans r6 (fun b i hh _=> .inr (.inr hh))⟩
 ·rcases r5 with⟨_,rfl,rfl,rfl⟩|⟨h,_⟩
  ·exact dj1
  ·by_cases e:c1=0
   ·unfold Dj;omega
   ·have:=hq1 (by omega);exact .inl (by omega)
 ·intro hh
  rcases r5 with⟨_,rfl,rfl,rfl⟩|⟨h,_⟩
  ·rcases p5 with⟨_,rfl,rfl,rfl⟩|⟨h,_⟩
   ·exact hh
   ·by_cases e:c2=0
    ·exact .inr (.inl e)
    ·have:=hyl (by omega);exact .inr (.inr (by omega))
  ·by_cases e:c1=0
   ·exact .inl e
   ·have:=hq1 (by omega);exact .inr (.inr (by omega))
 ·rcases p5 with⟨_,rfl,rfl,rfl⟩|⟨h,_⟩
  ·exact oz_
  ·exact newq h
 ·rcases r5 with⟨_,rfl,rfl,rfl⟩|⟨h,_⟩
  ·exact oy_
  ·exact newq (by omega)
theorem div_one(h:DivPre s q A l bz oz cz Ay ly by_ oy cy Au bu ou cu us Av bv ov cv vs w)(h1:vs.length=1):
 Calls Tryz.prog 32 #[.slice A l cz,.pointer (some ⟨s,0,none⟩),.slice Ay ly cy,.slice Au us.length cu,.slice Av vs.length cv] w (DvPost s q A bz oz cz Ay by_ oy cy (val 18446744073709551616 us) (val 18446744073709551616 vs) w):=by
 obtain⟨t,rfl⟩:=List.length_eq_one_iff.1 h1;have ht:=h.vd.getD (by omega) 0;have htn:t≠0:=by have:=h.vt;simpa using this
 rw[show([t]:List Int).getD 0 0=t from rfl]at ht;have hv:val 18446744073709551616 [t]=t:=by simp[val_cons,val_nil]
 obtain rfl:=h.v.addr (by simp);have ct:=(h.v.2.2 (by simp)) 0 (by simp);rw[Nat.add_zero,show([t]:List Int).getD 0 0=t from rfl]at ct;have CD:=κ (divWR_any A l bz oz cz Au bu ou cu us t w h.z h.zl h.u h.ud h.uz (by have:=h.u9;omega) h.dzu.symm (by omega) ht.2);have hr:=Int.emod_nonneg (val 18446744073709551616 us) htn;have hr2:=Int.emod_lt_of_pos (val 18446744073709551616 us) (show 0<t by omega);have CW:=κ (fun W (hy:Rcv W Ay by_ oy cy)=>setWordR_any Ay ly by_ oy cy (val 18446744073709551616 us%t) W hy h.yl hr (by omega));have H:=κ h;rw[hv];obtain⟨R,hR⟩: ∃R,R=val 18446744073709551616 us%t:=⟨_,rfl⟩;have HR:=κ hR;unfold DivWPost at CD;rw[<-hR]at CW CD;have hvl:=h.v.le;have cv9:=h.cv9;have cu9:=h.cu9;have cz9:=h.cz9;have cy9:=h.cy9;have hul:=h.u.le;have hzl:=h.zl;have hyl:=h.yl;have u9:=h.u9;simp only[List.length_cons,List.length_nil,Nat.zero_add]at hvl ⊢
 clear h hr hr2 hR ht htn hv h1;go_enter_defers Tryz.func32,Tryz.ntmps32;refine wp_mono ?_ bodyPostN_D
 go_wp2_with (first
  |(go_at_call 45;refine(CD.out).mono ?_;rintro e w1 ⟨A1,b1,o1,c1,qs,rfl,hp⟩;have HP:=κ hp;clear hp)
  |(go_at_call 46;refine(CW.out _ (H.out.y.fc HP.out.2.2.2.2.2)).mono ?_;rintro e w2 ⟨A2,b2,o2,c2,rs,rfl,hr⟩;have HRR:=κ hr;clear hr));show Leaves _ _ _ _ _ _ _;refine⟨_,results_tmp2 rfl _ _ _,?_⟩;have hrr:=HRR.out;rw[HR.out]at hrr;exact⟨A1,b1,o1,c1,qs,A2,b2,o2,c2,rs,q,rfl,div_mk H.out.st H.out.z H.out.y H.out.oz_ H.out.oy_ H.out.dyz HP.out hrr⟩
theorem DvR.back{w1 w':World}{X Y:Int}{A1:Option Addr}{b1 o1 c1:Nat}{qs:List Int}{A2:Option Addr}{b2 o2 c2:Nat}{rs:List Int}{q':Option StkSt}(f:Fr [] w w1)(h:DvR s q A bz oz cz Ay by_ oy cy X Y w1 A1 b1 o1 c1 qs A2 b2 o2 c2 rs q' w'):DvR s q A bz oz cz Ay by_ oy cy X Y w A1 b1 o1 c1 qs A2 b2 o2 c2 rs q' w':=by
 have hs:=f.size;exact⟨h.qn,h.qd,h.qz,h.qv,h.qp.imp id (fun a=>⟨by omega,a.2⟩),h.rn,h.rd,h.rz,h.rv,h.rp.imp id (fun a=>⟨by omega,a.2⟩),h.dj,h.bn,h.qo,h.ro,h.st,h.le.le hs,h.ll,(Fc.fr0 f _ _).t h.fc⟩
theorem div_lt(h:DivPre s q A l bz oz cz Ay ly by_ oy cy Au bu ou cu us Av bv ov cv vs w)(h1:2<=vs.length)(hlt:val 18446744073709551616 us<val 18446744073709551616 vs):
 Calls Tryz.prog 32 #[.slice A l cz,.pointer (some ⟨s,0,none⟩),.slice Ay ly cy,.slice Au us.length cu,.slice Av vs.length cv] w (DvPost s q A bz oz cz Ay by_ oy cy (val 18446744073709551616 us) (val 18446744073709551616 vs) w):=by
 have CC:=bcmp_any (.slice Au us.length cu) (.slice Av vs.length cv) _ _ w ⟨us,h.u.sl,h.ud,h.uz,rfl⟩ ⟨vs,h.v.sl,h.vd,h.vz,rfl⟩;rw[show cmpI (val 18446744073709551616 us) (val 18446744073709551616 vs)= -1 by unfold cmpI;rw[if_pos hlt]]at CC;have HC:=κ CC;have CS:=κ (fun W (f:Fr [] w W)=>setR_all Ay ly by_ oy cy Au bu ou cu us W (h.u.fr0 f) h.ud h.uz (h.y.fc (Fc.fr0 f 51 (fun _ _=>False))) h.yl (by have:=h.u9;omega));have H:=κ h;have HLT:=κ hlt;have hvl:=h.v.le;have cv9:=h.cv9;have cu9:=h.cu9;have cz9:=h.cz9;have cy9:=h.cy9;have hul:=h.u.le;have hzl:=h.zl;have hyl:=h.yl;have u9:=h.u9;have v9:=h.v9;have hvb:((vs.length:Int)==0)=false:=by rw[beq_eq_false_iff_ne];omega
 have hvb1:((vs.length:Int)==1)=false:=by rw[beq_eq_false_iff_ne];omega
 clear h hlt CC;go_enter_defers Tryz.func32,Tryz.ntmps32;refine wp_mono ?_ bodyPostN_D
 go_wp2_with (first
  |(go_at_call 47;refine(HC.out).mono ?_;rintro e w1 ⟨rfl,f1⟩)
  |(go_at_call 41;refine(CS.out _ f1).mono ?_;rintro e w2 ⟨A2,b2,o2,c2,rs,rfl,hr⟩;have HRR:=κ hr;clear hr));show Leaves _ _ _ _ _ _ _;refine⟨_,results_tmp2 rfl _ _ _,?_⟩;have hX0:=val_nonneg (B:=18446744073709551616) (by omega) H.out.ud;have hrr:=HRR.out;rw[<-Int.emod_eq_of_lt hX0 HLT.out]at hrr;exact⟨A,bz,oz,cz,[],A2,b2,o2,c2,rs,q,rfl,div_mk H.out.st H.out.z H.out.y H.out.oz_ H.out.oy_ H.out.dyz ⟨Nm.nil (H.out.z.fc (Fc.fr0 f1 51 (fun _ _=>False))),DG.nil _,NZ.nil,(Int.ediv_eq_zero_of_lt hX0 HLT.out).symm,.inl ⟨rfl,rfl,rfl,rfl⟩,Fc.fr0 f1 _ _⟩ hrr⟩
theorem div_ge(h:DivPre s q A l bz oz cz Ay ly by_ oy cy Au bu ou cu us Av bv ov cv vs w)(h1:2<=vs.length)(hge:val 18446744073709551616 vs<=val 18446744073709551616 us):
 Calls Tryz.prog 32 #[.slice A l cz,.pointer (some ⟨s,0,none⟩),.slice Ay ly cy,.slice Au us.length cu,.slice Av vs.length cv] w (DvPost s q A bz oz cz Ay by_ oy cy (val 18446744073709551616 us) (val 18446744073709551616 vs) w):=by
 have CC:=bcmp_any (.slice Au us.length cu) (.slice Av vs.length cv) _ _ w ⟨us,h.u.sl,h.ud,h.uz,rfl⟩ ⟨vs,h.v.sl,h.vd,h.vz,rfl⟩;obtain⟨ec,hec⟩: ∃x,x=cmpI (val 18446744073709551616 us) (val 18446744073709551616 vs):=⟨_,rfl⟩;have he0: ¬ec<0:=by rw[hec];unfold cmpI;rw[if_neg (by omega)];split<;>omega
 rw[<-hec]at CC;have HC:=κ CC
 have hlen:vs.length<=us.length:=by
  rcases Nat.lt_or_ge us.length vs.length with hh|hh
  ·exfalso
   have e1:=val_pos (B:=18446744073709551616) (by omega) h.vd h.vz (by intro e;rw[e]at h1;simp at h1);have e2:=val_lt_of_len (B:=18446744073709551616) (by omega) h.ud (k:=vs.length-1) (by omega);omega
  ·exact hh
 obtain⟨m,hm⟩: ∃m,us.length=m+vs.length:=⟨us.length-vs.length,by omega⟩;have CL:=κ (fun W (f:Fr [] w W)=>(dv_large (m:=m) (n:=vs.length) (s:=s) (q:=q) (A:=A) (l:=l) (bz:=bz) (oz:=oz) (cz:=cz) (Ay:=Ay) (ly:=ly) (by_:=by_) (oy:=oy) (cy:=cy) (Au:=Au) (bu:=bu) (ou:=ou) (cu:=cu) (us:=us) (Av:=Av) (bv:=bv) (ov:=ov) (cv:=cv) (vs:=vs) (w:=W) ⟨h.st.fr0 f,h.len,h.thr.fr0 f,h.td.fr0 f,h.z.fc (Fc.fr0 f 51 (fun _ _=>False)),h.zl,h.cz9,h.y.fc (Fc.fr0 f 51 (fun _ _=>False)),h.yl,h.cy9,h.u.fr0 f,hm,h.ud,h.cu9,h.v.fr0 f,rfl,h.vd,h.vt,h.cv9,h1,h.v9,by have:=h.u9;omega,h.oz_,h.oy_,by rw[<-hm];exact h.ou_,h.ov_,h.dyz,by rw[<-hm];exact h.dyu,h.dyv⟩));rw[<-hm]at CL;have hvl:=h.v.le;have cv9:=h.cv9;have cu9:=h.cu9;have cz9:=h.cz9;have cy9:=h.cy9;have hul:=h.u.le;have hzl:=h.zl;have hyl:=h.yl;have u9:=h.u9;have v9:=h.v9;have hvb:((vs.length:Int)==0)=false:=by rw[beq_eq_false_iff_ne];omega
 have hvb1:((vs.length:Int)==1)=false:=by rw[beq_eq_false_iff_ne];omega
 have hd:decide (ec<0)=false:=decide_eq_false he0;clear h CC hec he0 hge hm;go_enter_defers Tryz.func32,Tryz.ntmps32;refine wp_mono ?_ bodyPostN_D
 go_upto_if 35 with(first
  |(go_at_call 47;refine(HC.out).mono ?_;rintro e w1 ⟨rfl,f1⟩));try simp only[hd]
 go_wp2_with (go_at_call 49;refine(CL.out _ f1).mono ?_;rintro e w2 ⟨A1,b1,o1,c1,qs,A2,b2,o2,c2,rs,q',rfl,hr⟩;have HRR:=κ (hr.back f1);clear hr);show Leaves _ _ _ _ _ _ _;refine⟨_,results_tmp2 rfl _ _ _,?_⟩;exact⟨A1,b1,o1,c1,qs,A2,b2,o2,c2,rs,q',rfl,HRR.out⟩
theorem div_any(h:DivPre s q A l bz oz cz Ay ly by_ oy cy Au bu ou cu us Av bv ov cv vs w):
 Calls Tryz.prog 32 #[.slice A l cz,.pointer (some ⟨s,0,none⟩),.slice Ay ly cy,.slice Au us.length cu,.slice Av vs.length cv] w (DvPost s q A bz oz cz Ay by_ oy cy (val 18446744073709551616 us) (val 18446744073709551616 vs) w):=by
 by_cases h1:vs.length=1
 ·exact div_one h h1
 ·have:=h.v1
  rcases Int.lt_or_le (val 18446744073709551616 us) (val 18446744073709551616 vs)with hh|hh
  ·exact div_lt h (by omega) hh
  ·exact div_ge h (by omega) hh
end
end Go.Proofs.YthecibbmbnpegaaGreatDoor
end
