/-
  Part 23 of the proof of the law FnExpSum: XTrR, XExP, XLv. Conditions: those of each statement.
-/
import Derived.Test.YthecibbmbnpegaaGreatDoorK14
import Derived.Test.YthecibbmbnpegaaGreatDoorK22
import Derived.Laws.Bits64
import Derived.Deep.DeepCutAuto
import Derived.Deep.RegionWith
set_option linter.unusedSimpArgs false
set_option linter.unusedVariables false
set_option maxRecDepth 100000
set_option maxHeartbeats 2000000
namespace Go.Proofs.YthecibbmbnpegaaGreatDoor
open Go.Big Go.RowKit
theorem truncR_any(A:Option Addr)(l b o c:Nat)(Ax:Option Addr)(bx ox cx:Nat)(xs:List Int)(n:Nat)(w:World)(hxn:Nm w Ax bx ox cx xs)(hd:DG 18446744073709551616 xs)(hzx:NZ xs)(h:Rcv w A b o c)(hl:l<=c)(hx9:xs.length<=100000)(hn0:0<n)(hn:n<=1000000):
 Calls Tryz.prog 96 #[.slice A l c,.slice Ax xs.length cx,.int .u64 (n:Int)] w fun e w'=> ∃A' b' o' c' zs,e= .returned (.slice A' zs.length c')/\PutR w A b o c (val 18446744073709551616 xs%2^n) A' b' o' c' zs w':=by
 have hmx:=hxn.max;have hmc:=h.1;unfold maxLen at hmx hmc;obtain⟨q,hq⟩: ∃q,q=(n+63)/64:=⟨_,rfl⟩;obtain⟨r,hr⟩: ∃r,r=n%64:=⟨_,rfl⟩;have hq1:n<=64*q:=by omega
 have hq2:64*q<n+64:=by omega
 have hkq:((n:Int)+64-1)/64=(q:Int):=by omega
 have hkr:(n:Int)%64=(r:Int):=by omega
 have hr64:r<64:=by omega
 have hq9:q<=20000:=by omega
 by_cases h1:xs.length<q
 ·have hv:=trunc_full hd hq1 hq2 h1
  rw[hv];have CS:=κ (setR_all A l b o c Ax bx ox cx xs w hxn hd hzx h hl (by omega));clear hxn hd hzx h hr hq hv;go_enter Tryz.func96,Tryz.ntmps96;go_wp2_with (go_at_call 41;refine(CS.out).mono ?_;rintro e w1 ⟨A',b',o',c',zs,rfl,hp⟩;have HP:=κ hp;clear hp);go_ret;exact⟨A',b',o',c',zs,rfl,HP.out⟩
 obtain⟨m,hm1⟩: ∃m,q=m+1:=⟨q-1,by omega⟩;subst hm1;have C:=κ (makeR_any A l b o c (m+1) w h hl (by omega) (by omega));have HX:=κ hxn;have HD:=κ hd;have HR:=κ h;by_cases hr0:r=0
 ·have hn2:n=64*(m+1):=by omega
  have hv:=mod_words (B:=18446744073709551616) (s:=64) (q:=m+1) (by decide) hd (by omega);rw[<-hn2]at hv;rw[hv];subst hr0;clear hxn hd hzx h hr hq hv hn2;have HTL:=κ (show(xs.take (m+1)).length=m+1 by rw[List.length_take];omega);go_enter Tryz.func96,Tryz.ntmps96
  go_wp2_with (first
   |(go_at_call 42;refine(Hid.out C).mono ?_;clear C;intro e w1 hm;obtain⟨b',o',c',Z,rfl,h1,h2,h3,h4,h5,h6,h7⟩:=hm.out (fun hc=>HR.out.lt hc);have H2:=κ h2;have H4:=κ h4;have H5:=κ h5;have H7:=κ h7;have H1:=κ h1;obtain⟨_,L,hL,hLl⟩:=h3;have HL:=κ hL;have HLL:=κ (show o'+(m+1)<=L.length by omega);have hcm:c'<=9223372036854775807:=(by have:=h2.1;unfold maxLen at this;omega);clear hm h2 h4 h5 h6 h7 hL hLl)
   |(refine wp_copy rfl (.tmp 24) (.tmp 25) _ _ rfl .u64 51 Tryz.underlying43 size_wordS b' o' (m+1) c' rfl _ xs rfl (HX.out.fr0 H5.out).sl L HL.out HLL.out ?_;intro w2 row2 f2;have HR2:=κ row2;have HF2:=κ f2;clear row2 f2)
   |(go_at_call 34;have F2:=κ (show Fc 51 (In1 b' o' (m+1)) w1 w2 from fc_row (L':=L) HL.out HR2.out HF2.out (by rw[HTL.out];exact HLL.out) (fun i a1 a2=>⟨rfl,a1,by rw[HTL.out]at a2;exact a2⟩));have CN:=normN_any (some ⟨b',o',none⟩) b' o' c' (xs.take (m+1)) _ (Nm.of_wr (Wr.of_spl HR2.out (by rw[HTL.out];exact HLL.out)) (H2.out.fc F2.out) (by rw[HTL.out];exact h1)) (HD.out.take _);rw[HTL.out]at CN;refine CN.mono ?_;rintro e w5 ⟨⟨us,rfl,g1,g2,g3,g4,g5⟩,rfl⟩;have G1:=κ g1;have G2:=κ g2;have G3:=κ g3;have G4:=κ g4;clear g1 g2 g3 g4 g5 CN));go_ret;refine⟨_,b',o',c',us,rfl,G1.out,G2.out,G3.out,G4.out,H7.out.imp id (fun a=>⟨a.1,by have:=a.2;omega⟩),(Fc.fr0 H5.out _ _).trans F2.out (fun x i hh hlt=> ?_)⟩;rcases H7.out with⟨_,rfl,rfl,rfl⟩|⟨a,_⟩
  ·exact In1.cap hh h1
  ·have:=hh.1;omega
 ·have hn2:n=64*m+r:=by omega
  have hv:=mod_words' (B:=18446744073709551616) (s:=64) (q:=m) (r:=r) (by decide) hd (by omega);rw[<-hn2]at hv
  have hv:val 18446744073709551616 xs%2^n=val 18446744073709551616 (xs.take m++[xs.getD m 0%2^r]):=by
   rcases hv with h|h
   ·exact h
   ·omega
  rw[hv];obtain⟨x,hx⟩: ∃x,x=xs.getD m 0:=⟨_,rfl⟩;rw[<-hx];have hxd:=hd.getD (by omega) m;rw[<-hx]at hxd;obtain⟨hx0,hx1⟩:=hxd;have hmask:=u64_and_mask x r hx0 hx1 hr64;obtain⟨t,ht⟩: ∃t,t=x%2^r:=⟨_,rfl⟩;rw[<-ht]at hmask ⊢
  have ht0:0<=t/\t<18446744073709551616:=by
   have:=Int.emod_nonneg x (show(2:Int)^r≠0 by have:=pow_pos_ (B:=2) (by omega) r;omega);have:=Int.emod_lt_of_pos x (pow_pos_ (B:=2) (by omega) r);have:=pow_le_pow_ (B:=2) (by omega) (show r<=63 by omega);rw[ht];omega
  obtain⟨P,hP⟩: ∃P:Int,P=2^r:=⟨_,rfl⟩
  have hP0:1<=P/\P<=9223372036854775808:=by
   have:=pow_pos_ (B:=2) (by omega) r;have:=pow_le_pow_ (B:=2) (by omega) (show r<=63 by omega);rw[hP];omega
  obtain⟨hP0,hP1⟩:=hP0;rw[<-hP]at hmask;have hpow:(2:Int)^r=P:=hP.symm;have hmin:min r 64=r:=by omega
  have hw1:IntKind.u64.wrap (1*P)=P:=by rw[IntKind.wrap_u64];omega
  have hw2:IntKind.u64.wrap P=P:=by rw[IntKind.wrap_u64];omega
  have hrn:((r:Int)==0)=false:=by rw[beq_eq_false_iff_ne];omega
  have HXX:=κ hx;have HDT:Hid (DG 18446744073709551616 (xs.take m++[t])):=κ ((hd.take m).append (DG.cons ht0.1 ht0.2 (DG.nil _)));have HTL:=κ (show(xs.take (m+1)).length=m+1 by rw[List.length_take];omega);have HSL:=κ (show(xs.take m++[t]).length=m+1 by rw[List.length_append,List.length_take,List.length_singleton];omega);have HTS:=κ (show(xs.take (m+1)).set m t=xs.take m++[t]from take_set_top (by omega));clear hxn hd hzx h hr hq hv hn2 hx ht ht0 hP;go_enter Tryz.func96,Tryz.ntmps96
  go_wp2_with (first
   |(go_at_call 42;refine(Hid.out C).mono ?_;clear C;intro e w1 hm;obtain⟨b',o',c',Z,rfl,h1,h2,h3,h4,h5,h6,h7⟩:=hm.out (fun hc=>HR.out.lt hc);have H2:=κ h2;have H4:=κ h4;have H5:=κ h5;have H7:=κ h7;have H1:=κ h1;obtain⟨_,L,hL,hLl⟩:=h3;have HL:=κ hL;have HLL:=κ (show o'+(m+1)<=L.length by omega);have hcm:c'<=9223372036854775807:=(by have:=h2.1;unfold maxLen at this;omega);clear hm h2 h4 h5 h6 h7 hL hLl)
   |(refine wp_copy rfl (.tmp 24) (.tmp 25) _ _ rfl .u64 51 Tryz.underlying43 size_wordS b' o' (m+1) c' rfl _ xs rfl (HX.out.fr0 H5.out).sl L HL.out HLL.out ?_;intro w2 row2 f2;have F2:=κ (show Fc 51 (In1 b' o' (m+1)) w1 w2 from fc_row (L':=L) HL.out row2 f2 (by rw[HTL.out];exact HLL.out) (fun i a1 a2=>⟨rfl,a1,by rw[HTL.out]at a2;exact a2⟩));have WR2:=κ (Wr.of_spl row2 (by rw[HTL.out];exact HLL.out));have hfz:=WR2.out.frozen (o'+m);have cz:=WR2.out.cell (j:=m) (by rw[HTL.out];omega);rw[show(xs.take (m+1)).getD m 0=x by rw[HXX.out];simp[List.getD_eq_getElem?_getD]]at cz;clear row2 f2)
   |(go_at_call 34;have WR3:=WR2.out.set (j:=m) (by rw[HTL.out];omega) t;rw[HTS.out]at WR3;have F3:=κ (F2.out.t ((Fc.set1 WR2.out (j:=m) (by rw[HTL.out];omega) t).mono (S':=In1 b' o' (m+1)) (fun x i hh _=>⟨hh.1,by have:=hh.2.1;omega,by have:=hh.2.2;omega⟩)));have CN:=normN_any (some ⟨b',o',none⟩) b' o' c' (xs.take m++[t]) _ (Nm.of_wr WR3 (H2.out.fc F3.out) (by rw[HSL.out];exact h1)) HDT.out;rw[HSL.out]at CN;refine CN.mono ?_;rintro e w5 ⟨⟨us,rfl,g1,g2,g3,g4,g5⟩,rfl⟩;have G1:=κ g1;have G2:=κ g2;have G3:=κ g3;have G4:=κ g4;clear g1 g2 g3 g4 g5 CN WR3));go_ret;refine⟨_,b',o',c',us,rfl,G1.out,G2.out,G3.out,G4.out,H7.out.imp id (fun a=>⟨a.1,by have:=a.2;omega⟩),(Fc.fr0 H5.out _ _).trans F3.out (fun x i hh hlt=> ?_)⟩;rcases H7.out with⟨_,rfl,rfl,rfl⟩|⟨a,_⟩
  ·exact In1.cap hh h1
  ·have:=hh.1;omega
end Go.Proofs.YthecibbmbnpegaaGreatDoor
namespace Go.Big
def Cg(M a b:Int):Prop:=M∣a-b
theorem Cg.refl(M a:Int):Cg M a a:=⟨0,by omega⟩
theorem Cg.symm{M a b:Int}(h:Cg M a b):Cg M b a:=by obtain⟨k,hk⟩:=h;exact⟨-k,by rw[Int.mul_neg];omega⟩
theorem Cg.trans{M a b c:Int}(h:Cg M a b)(h':Cg M b c):Cg M a c:=by obtain⟨k,hk⟩:=h;obtain⟨l,hl⟩:=h';exact⟨k+l,by rw[Int.mul_add];omega⟩
theorem Cg.mul{M a b c d:Int}(h:Cg M a b)(h':Cg M c d):Cg M (a*c) (b*d):=by
 obtain⟨k,hk⟩:=h;obtain⟨l,hl⟩:=h';exact⟨k*c+b*l,by grind⟩
theorem Cg.add{M a b c d:Int}(h:Cg M a b)(h':Cg M c d):Cg M (a+c) (b+d):=by
 obtain⟨k,hk⟩:=h;obtain⟨l,hl⟩:=h';exact⟨k+l,by rw[Int.mul_add];omega⟩
theorem Cg.sub{M a b c d:Int}(h:Cg M a b)(h':Cg M c d):Cg M (a-c) (b-d):=by
 obtain⟨k,hk⟩:=h;obtain⟨l,hl⟩:=h';exact⟨k-l,by rw[Int.mul_sub];omega⟩
theorem Cg.pow{M a b:Int}(h:Cg M a b)(n:Nat):Cg M (a^n) (b^n):=by
 induction n with
 |zero=>rw[Int.pow_zero,Int.pow_zero];exact Cg.refl _ _
 |succ n ih=>rw[Int.pow_succ,Int.pow_succ];exact ih.mul h
theorem Cg.emod{M:Int}(a:Int):Cg M (a%M) a:=⟨-(a/M),by rw[Int.mul_neg];have:=Int.emod_add_mul_ediv a M;omega⟩
theorem Cg.eq{M a b:Int}(h:Cg M a b):a%M=b%M:=Int.emod_eq_emod_iff_emod_sub_eq_zero.2 (Int.emod_eq_zero_of_dvd h)
theorem Cg.emod_eq{M a b:Int}(h:Cg M a b)(h0:0<=a)(h1:a<M):a=b%M:=by rw[<-h.eq,Int.emod_eq_of_lt h0 h1]
def Inv(M R:Int):Prop:= ∃u,Cg M (R*u) 1
theorem Inv.cancel{M R a b:Int}(h:Inv M R)(hc:Cg M (a*R) (b*R)):Cg M a b:=by
 obtain⟨u,hu⟩:=h;have h1:=hc.mul (Cg.refl M u);have e: ∀x:Int,x*R*u=x*(R*u):=fun x=>by rw[Int.mul_assoc]
 rw[e,e]at h1;have h2:=(Cg.refl M a).mul hu;have h3:=(Cg.refl M b).mul hu;rw[Int.mul_one]at h2 h3;exact(h2.symm.trans h1).trans h3
theorem inv_two{M:Int}(h:M%2=1):Inv M 2:=⟨(M+1)/2,⟨1,by omega⟩⟩
theorem Inv.pow{M R:Int}(h:Inv M R)(n:Nat):Inv M (R^n):=by
 obtain⟨u,hu⟩:=h;refine⟨u^n,?_⟩;rw[<-Int.mul_pow];have:=hu.pow n;rwa[Int.one_pow]at this
theorem inv_word{M:Int}(h:M%2=1)(n:Nat):Inv M (18446744073709551616^n):=by
 have:=((inv_two h).pow 64).pow n;exact this
theorem mont_pow{M R x z1 z2 z:Int}{a b:Nat}(hi:Inv M R)(h1:Cg M z1 (x^a*R))(h2:Cg M z2 (x^b*R))(h:M∣z*R-z1*z2):Cg M z (x^(a+b)*R):=by
 refine hi.cancel ((show Cg M (z*R) (z1*z2)from h).trans ((h1.mul h2).trans ?_));rw[Int.pow_add];exact⟨0,by grind⟩
theorem mont_in{M R RR x z:Int}(hi:Inv M R)(hr:Cg M RR (R*R))(h:M∣z*R-x*RR):Cg M z (x*R):=by
 refine hi.cancel ((show Cg M (z*R) (x*RR)from h).trans (((Cg.refl M x).mul hr).trans ?_));exact⟨0,by grind⟩
theorem mont_out{M R x z z1:Int}(hi:Inv M R)(h1:Cg M z1 (x*R))(h:M∣z*R-z1*1):Cg M z x:=by
 refine hi.cancel ((show Cg M (z*R) (z1*1)from h).trans ?_);rw[Int.mul_one];exact h1
theorem odd_pow{x:Int}(hx:x%2=1)(L:Nat):Cg (2^(L+1)) (x^(2^L)) 1:=by
 induction L with
 |zero=>exact⟨x/2,by rw[show(2:Nat)^0=1 from rfl,show x^1=x by rw[Int.pow_succ,Int.pow_zero,Int.one_mul],show(2:Int)^(0+1)=2 from rfl];omega⟩
 |succ L ih=>
  obtain⟨k,hk⟩:=ih;have e:x^(2^(L+1))=x^(2^L)*x^(2^L):=by rw[<-Int.pow_add];congr 1;rw[Nat.pow_succ];omega
  have e2:x^(2^L)=1+2^(L+1)*k:=by omega
  have e3:(2:Int)^(L+1+1)=2^(L+1)*2:=Int.pow_succ _ _;have e4:(2:Int)^(L+1)=2^L*2:=Int.pow_succ _ _;refine⟨k+2^L*k*k,?_⟩;rw[e,e2,e3,e4];grind
theorem odd_cut{x:Int}(hx:x%2=1)(L e:Nat):Cg (2^(L+1)) (x^e) (x^(e%2^L)):=by
 have h:=Nat.mod_add_div e (2^L);have h1:x^e=x^(e%2^L)*(x^(2^L))^(e/2^L):=by rw[<-Int.pow_mul,<- Int.pow_add];congr 1;exact h.symm
 have h2:=(odd_pow hx L).pow (e/2^L);rw[Int.one_pow]at h2;have h3:=(Cg.refl (2^(L+1)) (x^(e%2^L))).mul h2;rw[Int.mul_one]at h3;rw[h1];exact h3
theorem even_pow{x:Int}(hx:x%2=0){L e:Nat}(h:L<=e):x^e%2^L=0:=by
 have e1:x=2*(x/2):=by omega
 have e2:x^e=2^L*(2^(e-L)*(x/2)^e):=by
  rw[<-Int.mul_assoc,<- Int.pow_add,show L+(e-L)=e by omega,<- Int.mul_pow,<- e1]
 rw[e2];exact Int.mul_emod_right _ _
theorem sq_mod{M z a:Int}{e:Nat}{x:Int}(h:z=x^e%M)(ha:a=z*z%M):a=x^(e+e)%M:=by
 have h2:Cg M z (x^e):=by rw[h];exact Cg.emod _
 have:=h2.mul h2;rw[<-Int.pow_add]at this;rw[ha];exact this.eq
theorem mul_mod_pow{M z p a x:Int}{e d:Nat}(h:z=x^e%M)(hp:p=x^d%M)(ha:a=z*p%M):a=x^(e+d)%M:=by
 have h2:Cg M z (x^e):=by rw[h];exact Cg.emod _
 have h3:Cg M p (x^d):=by rw[hp];exact Cg.emod _
 have:=h2.mul h3;rw[<-Int.pow_add]at this;rw[ha];exact this.eq
theorem crt_fin{m1 m2 z1 z2 u p X:Int}(h1:0<m1)(h2:0<m2)(hu:Cg m1 (m2*u) 1)(e1:z1=X%m1)(e2:z2=X%m2)(hp:p=((z1-z2)%m1*u)%m1):z2+p*m2=X%(m1*m2):=by
 have b1:0<=p/\p<m1:=by rw[hp];exact⟨Int.emod_nonneg _ (by omega),Int.emod_lt_of_pos _ h1⟩
 have b2:0<=z2/\z2<m2:=by rw[e2];exact⟨Int.emod_nonneg _ (by omega),Int.emod_lt_of_pos _ h2⟩
 have c1:Cg m1 (z2+p*m2) X:=by
  have k1:Cg m1 p ((z1-z2)*u):=by rw[hp];exact(Cg.emod _).trans ((Cg.emod _).mul (Cg.refl _ _))
  have k2:=(Cg.refl m1 z2).add (k1.mul (Cg.refl m1 m2))
  have k3:Cg m1 (z2+(z1-z2)*u*m2) (z2+(z1-z2)*1):=by
   have:=(Cg.refl m1 z2).add ((Cg.refl m1 (z1-z2)).mul hu);have e:(z1-z2)*u*m2=(z1-z2)*(m2*u):=by grind
   rw[e];exact this
  have k4:Cg m1 z1 X:=by rw[e1];exact Cg.emod _
  have e:z2+(z1-z2)*1=z1:=by omega
  rw[e]at k3;exact(k2.trans k3).trans k4
 have c2:Cg m2 (z2+p*m2) X:=by
  have k4:Cg m2 z2 X:=by rw[e2];exact Cg.emod _
  have k5:Cg m2 (p*m2) 0:=⟨p,by grind⟩;have:=k4.add k5;rwa[Int.add_zero]at this
 have c3:Cg (m1*m2) (z2+p*m2) X:=by
  obtain⟨k,hk⟩:=c1;obtain⟨l,hl⟩:=c2;obtain⟨v,hv⟩:=hu
  have e:l=m1*(k*u-l*v):=by
   have e1:m2*l=m1*k:=by rw[<-hl,hk]
   have e2:m2*u=1+m1*v:=by omega
   have e3:l*(m2*u)=u*(m2*l):=by grind
   rw[e2,e1]at e3;grind
  refine⟨k*u-l*v,?_⟩;rw[hl];generalize k*u-l*v=t at e;rw[e];grind
 have b3:p*m2<=(m1-1)*m2:=Int.mul_le_mul_of_nonneg_right (by omega) (by omega);have b4:(m1-1)*m2=m1*m2-m2:=by grind
 have b5:0<=p*m2:=Int.mul_nonneg b1.1 (by omega);exact c3.emod_eq (by omega) (by omega)
theorem bits_next{Y t s:Nat}(h:s<=t):Y/2^(t-s)=2^s*(Y/2^t)+(Y/2^(t-s))%2^s:=by
 have e:Y/2^t=(Y/2^(t-s))/2^s:=by rw[Nat.div_div_eq_div_mul,<- Nat.pow_add];congr 2;omega
 rw[e];exact(Nat.div_add_mod _ _).symm
structure Pn where
 A:Option Addr
 b:Nat
 o:Nat
 c:Nat
 xs:List Int
def Pn.v(p:Pn):Value:= .slice p.A p.xs.length p.c
def Pn.n(p:Pn):Int:=val 18446744073709551616 p.xs
def Pn.r(p:Pn)(l:Nat):Value:= .slice p.A l p.c
end Go.Big
namespace Go.Proofs.YthecibbmbnpegaaGreatDoor
open Go.Big Go.RowKit
structure PnOk(s:Nat)(q:Option StkSt)(w:World)(p:Pn):Prop where
 nm:Nm w p.A p.b p.o p.c p.xs
 dg:DG 18446744073709551616 p.xs
 c9:p.c<=9223372036854775807
 off:Off (StS s q) p.b p.o p.c
def PDj(p r:Pn):Prop:=Dj p.b p.o p.c r.b r.o r.c
theorem PDj.symm{p r:Pn}(h:PDj p r):PDj r p:=Dj.symm h
structure Gl(w:World):Prop where
 kt:Glo w 0 40
 dt:Glo w 1 40
 bt:Glo w 2 12
 st:Glo w 3 80
theorem Gl.fr0{w w1:World}(h:Gl w)(f:Fr [] w w1):Gl w1:=⟨h.kt.fr0 f,h.dt.fr0 f,h.bt.fr0 f,h.st.fr0 f⟩
structure Lv(s:Nat)(w0:World)(q0:Option StkSt)(w:World)(q:Option StkSt)(W R:List Pn):Prop where
 st:StkAt w s q
 le:StkLe w0.heap.size q0 q
 l0:lenS q0<=lenS q
 ln:lenS q<=90000000000
 fr:Fc 51 (StS s q0) w0 w
 gl:Gl w
 ok: ∀p,p∈W++R->PnOk s q w p
 dj:(W++R).Pairwise PDj
 nw: ∀p,p∈W-> ∀i,p.o<=i->i<p.o+p.c->p.b<w0.heap.size->StS s q0 p.b i
section
variable {s:Nat}{w0 w w':World}{q0 q q':Option StkSt}{W W' R R':List Pn}{z z' x y:Pn}
theorem Lv.perm(h:Lv s w0 q0 w q W R)(p:W.Perm W'):Lv s w0 q0 w q W' R:=
 ⟨h.st,h.le,h.l0,h.ln,h.fr,h.gl,fun r hr=>h.ok r (((p.append_right R).mem_iff).2 hr),((p.append_right R).pairwise_iff (fun h=>PDj.symm h)).1 h.dj,fun r hr=>h.nw r ((p.mem_iff).2 hr)⟩
theorem Lv.fr0(h:Lv s w0 q0 w q W R)(f:Fr [] w w'):Lv s w0 q0 w' q W R:=
 ⟨h.st.fr0 f,h.le,h.l0,h.ln,h.fr.t (Fc.fr0 f _ _),h.gl.fr0 f,fun r hr=>⟨(h.ok r hr).nm.fr0 f,(h.ok r hr).dg,(h.ok r hr).c9,(h.ok r hr).off⟩,h.dj,h.nw⟩
theorem Lv.sub(h:Lv s w0 q0 w q W R)(hs:(W'++R').Sublist (W++R))(hw: ∀p,p∈W'->p∈W):Lv s w0 q0 w q W' R':=
 ⟨h.st,h.le,h.l0,h.ln,h.fr,h.gl,fun r hr=>h.ok r (hs.subset hr),h.dj.sublist hs,fun r hr=>h.nw r (hw r hr)⟩
theorem PnOk.lt(h:PnOk s q w x)(hc:0<x.c):x.b<w.heap.size:=h.nm.rcv.lt hc
theorem PnOk.bs(h:PnOk s q w x)(hst:StkAt w s q)(hc:0<x.c):x.b≠s/\ ∀p,q=some p->x.b≠p.si:=by
 obtain⟨L,hL,_⟩:=h.nm.rcv.row hc;exact⟨hst.row_ne hL,fun p hp=>by subst hp;exact hst.2.row_ne hL⟩
theorem StkAt.lt(h:StkAt w s q):s<w.heap.size/\ ∀p,q=some p->p.si<w.heap.size:=by
 cases q with
 |none=>exact⟨heap_lt h,fun p hp=>by cases hp⟩
 |some q=>exact⟨heap_lt h.1,fun p hp=>by cases hp;exact heap_lt h.2.1⟩
theorem gl_fc{S:Nat->Nat->Prop}(h:Gl w)(hf:Fc 51 S w w')(hS: ∀g v,Glo w g v-> ¬S g 0):Gl w':=
 ⟨h.kt.fc hf (hS _ _ h.kt),h.dt.fc hf (hS _ _ h.dt),h.bt.fc hf (hS _ _ h.bt),h.st.fc hf (hS _ _ h.st)⟩
theorem Lv.putN{Z Z':List Pn}(h:Lv s w0 q0 w q (Z++W) R)(hst:StkAt w' s q')(hle:StkLe w.heap.size q q')(hll:lenS q'=lenS q)(hf:Fc 51 (fun b i=>StS s q b i\/ ∃z,z∈Z/\In1 z.b z.o z.c b i) w w')
 (hz: ∀z',z'∈Z'->PnOk s q' w' z'/\((∃z,z∈Z/\z'.b=z.b/\z'.o=z.o/\z'.c=z.c)\/w.heap.size<=z'.b))(hd':Z'.Pairwise PDj):Lv s w0 q0 w' q' (Z'++W) R:=by
 have hsz:=h.fr.size;have hd:=h.dj;rw[List.append_assoc,List.pairwise_append]at hd
 have keep: ∀p,p∈W++R->PnOk s q' w' p:=fun p hp'=>by
  have ho:=h.ok p (by rw[List.append_assoc,List.mem_append];exact .inr hp');refine⟨ho.nm.fc hf (fun i a1 a2 hh=>hh.elim (ho.off i a1 (by have:=ho.nm.le;omega)) (fun⟨z,hz,hh⟩=>(hd.2.2 z hz p hp').symm.off i a1 (by have:=ho.nm.le;omega) hh)),ho.dg,ho.c9,?_⟩;by_cases hc:0<p.c
  ·exact off_le hle (Nat.le_of_eq hll.symm) ho.off (ho.lt hc)
  ·intro i a1 a2;omega
 refine⟨hst,h.le.trans hle hsz,by have:=h.l0;omega,by have:=h.ln;omega,h.fr.trans hf (fun b i hh hlt=>hh.elim (fun hh=>h.le.sub h.l0 b i hh hlt) (fun⟨z,hz,hh⟩=>by obtain⟨rfl,a1,a2⟩:=hh;exact h.nw z (List.mem_append_left _ hz) i a1 a2 hlt)),?_,fun p hp'=> ?_,?_,fun p hp'=> ?_⟩
 ·exact gl_fc h.gl hf (fun g v hg hh=>hh.elim (glo_stk hg h.st 0) (fun⟨z,hz,hh⟩=>by
   by_cases hc:0<z.c
   ·exact glo_rcv hg (h.ok z (List.mem_append_left _ (List.mem_append_left _ hz))).nm.rcv hc hh.1
   ·have:=hh.2.1;have:=hh.2.2;omega))
 ·rw[List.append_assoc,List.mem_append]at hp'
  rcases hp' with hp'|hp'
  ·exact(hz p hp').1
  ·exact keep p hp'
 ·rw[List.append_assoc,List.pairwise_append]
  refine⟨hd',hd.2.1,fun z' hz' p hp'=> ?_⟩;rcases(hz z' hz').2 with⟨z,hzz,e1,e2,e3⟩|hp
  ·have:=hd.2.2 z hzz p hp'
   unfold PDj at*;rw[e1,e2,e3];exact this
  ·by_cases hc:0<p.c
   ·exact .inl (by have:=(h.ok p (by rw[List.append_assoc,List.mem_append];exact .inr hp')).lt hc;omega)
   ·unfold PDj Dj;omega
 ·rw[List.mem_append]at hp'
  rcases hp' with hp'|hp'
  ·intro i a1 a2 hlt
   rcases(hz p hp').2 with⟨z,hzz,e1,e2,e3⟩|hp
   ·rw[e1]at hlt ⊢;rw[e2]at a1;rw[e2,e3]at a2
    exact h.nw z (List.mem_append_left _ hzz) i a1 a2 hlt
   ·omega
  ·exact h.nw p (List.mem_append_right _ hp')
theorem Lv.put(h:Lv s w0 q0 w q (z::W) R)(hz:PnOk s q' w' z')(hst:StkAt w' s q')(hle:StkLe w.heap.size q q')(hll:lenS q'=lenS q)(hf:Fc 51 (fun b i=>StS s q b i\/In1 z.b z.o z.c b i) w w')(hp:(z'.b=z.b/\z'.o=z.o/\z'.c=z.c)\/w.heap.size<=z'.b):Lv s w0 q0 w' q' (z'::W) R:=
 Lv.putN (Z:=[z]) (Z':=[z']) h hst hle hll (hf.mono (fun b i hh _=>hh.imp id (fun hh=>⟨z,by simp,hh⟩))) (fun p hp'=>by
  rw[List.mem_singleton]at hp';subst hp';exact⟨hz,hp.imp (fun hh=>⟨z,by simp,hh⟩) id⟩) (List.pairwise_singleton _ _)
theorem Lv.rep(h:Lv s w0 q0 w q (z::W) R): ∃z2,(∀l,z2.r l=z.r l)/\z2.xs=z.xs/\z2.c=z.c/\Lv s w0 q0 w q (z2::W) R/\z2.b≠s/\(∀p,q=some p->z2.b≠p.si)/\(z.c≠0->z2.b=z.b/\z2.o=z.o):=by
 by_cases hc:0<z.c
 ·have:=(h.ok z (by simp)).bs h.st hc
  exact⟨z,fun _=>rfl,rfl,rfl,h,this.1,this.2,fun _=>⟨rfl,rfl⟩⟩
 ·have hx:=(h.ok z (by simp)).nm
  have hx0:z.xs=[]:=List.eq_nil_of_length_eq_zero (by have:=hx.le;omega);have hl:=StkAt.lt h.st;refine⟨⟨z.A,w.heap.size,0,z.c,z.xs⟩,fun _=>rfl,rfl,rfl,h.put ⟨?_,(h.ok z (by simp)).dg,(h.ok z (by simp)).c9,fun i a1 a2=>by simp only at a1 a2;omega⟩ h.st (StkLe.refl _ _) rfl (Fc.refl _ _ _) (.inr (Nat.le_refl _)),?_,fun p hp=> ?_,fun hh=>absurd hh (by omega)⟩
  ·simp only
   rw[hx0];exact Nm.nil ⟨hx.max,.inl (by omega)⟩
  ·simp only;omega
  ·have:=hl.2 p hp;simp only;omega
def PutL(s:Nat)(w0:World)(q0:Option StkSt)(w:World)(q:Option StkSt)(W R:List Pn)(z:Pn)(V:Int)(e:Ending)(w':World):Prop:=
 ∃z' q',e= .returned z'.v/\Lv s w0 q0 w' q' (z'::W) R/\NZ z'.xs/\z'.n=V/\lenS q'=lenS q/\StkLe w.heap.size q q'/\(z'.c=0\/(z'.b=z.b/\z'.o=z.o/\z'.c=z.c)\/(w.heap.size<=z'.b/\NewS s q' z'.b))/\Fc 51 (fun b i=>StS s q b i\/In1 z.b z.o z.c b i) w w'
theorem PutL.rep{V:Int}{e:Ending}{z2:Pn}(h:PutL s w0 q0 w q W R z2 V e w')(hc:z2.c=z.c)(hb:z.c≠0->z2.b=z.b/\z2.o=z.o):PutL s w0 q0 w q W R z V e w':=by
 obtain⟨z',q',h1,h2,h3,h4,h5,h6,h7,h8⟩:=h;refine⟨z',q',h1,h2,h3,h4,h5,h6,?_,h8.mono (fun b i hh _=>hh.imp id (fun hh=> ?_))⟩
 ·rcases h7 with h7|h7|h7
  ·exact .inl h7
  ·by_cases h0:z.c=0
   ·exact .inl (by omega)
   ·exact .inr (.inl (by have:=hb h0;omega))
  ·exact .inr (.inr h7)
 ·by_cases h0:z.c=0
  ·have:=hh.2.1;have:=hh.2.2;omega
  ·have:=hb h0;unfold In1 at *;omega
theorem MulP.put{A:Option Addr}{bz oz cz k:Nat}{V:Int}{e:Ending}(h:Lv s w0 q0 w q (z::W) R)(hz:z=⟨A,bz,oz,cz,z.xs⟩)(hk:k<=1000000)(hm:MulP s q A bz oz cz k V w e w'):PutL s w0 q0 w q W R z V e w':=by
 obtain⟨A',b',o',c',zs,q',rfl,h2,h3,h4,h5,h6,h7,h8,h9,h10,_⟩:=hm;have hzo:=h.ok z (by simp);have e1:z.b=bz:=by rw[hz]
 have e2:z.o=oz:=by rw[hz]
 have e3:z.c=cz:=by rw[hz]
 have hfc:Fc 51 (fun b i=>StS s q b i\/In1 z.b z.o z.c b i) w w':=h10.mono (fun b i hh _=>hh.imp id (fun hh=>by
  rw[e1,e2,e3];refine⟨hh.1,hh.2.1,?_⟩;have:=hh.2.2;unfold rm at this;split at this<;>omega));refine⟨⟨A',b',o',c',zs⟩,q',rfl,h.put ⟨h2,h3,?_,?_⟩ h7 h8 h9 hfc ?_,h4,h5,h9,h8,?_,hfc⟩
 ·have:=hzo.c9
  rcases h6 with⟨_,_,_,rfl⟩|⟨_,h,_,_⟩<;>simp only<;>omega
 ·rcases h6 with⟨_,rfl,rfl,rfl⟩|⟨_,_,_,ho⟩
  ·by_cases hc:0<c'
   ·have:=off_le h8 (Nat.le_of_eq h9.symm) (hzo.off) (hzo.lt (by omega))
    rw[e1,e2,e3]at this;exact this
   ·intro i a1 a2;simp only at a1 a2;omega
  ·exact ho.off
 ·rcases h6 with⟨_,rfl,rfl,rfl⟩|⟨_,_,hb,_⟩
  ·exact .inl ⟨e1.symm,e2.symm,e3.symm⟩
  ·exact .inr hb
 ·rcases h6 with⟨_,rfl,rfl,rfl⟩|⟨_,_,hb,ho⟩
  ·exact .inr (.inl ⟨e1.symm,e2.symm,e3.symm⟩)
  ·exact .inr (.inr ⟨hb,ho⟩)
theorem dj_rm'{b o m cx bz oz k cz:Nat}(h:Dj b o cx bz oz cz)(hm:m<=cx):Dj b o m bz oz (rm k cz):=by
 by_cases hk:k<=cz
 ·rw[rm_eq hk];exact h.sub1 hm hk
 ·unfold rm;rw[if_neg hk];unfold Dj;omega
theorem Lv.dj1(h:Lv s w0 q0 w q (z::W) R)(hx:x∈W++R):PDj x z:=by
 have hd:=h.dj;rw[List.cons_append,List.pairwise_cons]at hd;exact(hd.1 x hx).symm
theorem Lv.ok1(h:Lv s w0 q0 w q (z::W) R)(hx:x∈W++R):PnOk s q w x:=h.ok x (by simp only[List.cons_append,List.mem_cons];exact .inr hx)
theorem dj_ends{b o c b' o' c':Nat}(h:Dj b' o' c' b o c):0<c->0<c'->b≠b'\/o+c≠o'+c':=fun h1 h2=>by unfold Dj at h;omega
theorem mulL(h:Lv s w0 q0 w q (z::W) R)(hx:x∈W++R)(hy:y∈W++R)(hx9:x.xs.length<=800)(hy9:y.xs.length<=800){l:Nat}(hl:l<=z.c):
 Calls Tryz.prog 33 #[z.r l,.pointer (some ⟨s,0,none⟩),x.v,y.v] w (PutL s w0 q0 w q W R z (x.n*y.n)):=by
 obtain⟨z2,e1,e2,e3,h2,b1,b2,b3⟩:=h.rep;rw[<-e1 l];have ho:=h2.ok z2 (by simp);have ox:=h2.ok1 hx;have oy:=h2.ok1 hy;have dx:=h2.dj1 hx;have dy:=h2.dj1 hy;have hm:min x.xs.length y.xs.length<=x.xs.length:=Nat.min_le_left _ _;have hln:=h2.ln
 exact(mul_ok x.xs.length y.xs.length s q z2.A l z2.b z2.o z2.c x.A x.b x.o x.c x.xs y.A y.b y.o y.c y.xs w
  ⟨h2.st,fun _=>by omega,fun _=>by omega,h2.gl.kt,ho.nm.rcv,by omega,ho.c9,ox.nm,rfl,ox.dg,ox.c9,oy.nm,rfl,oy.dg,oy.c9,by omega,by omega,by omega,dj_rm' dx ox.nm.le,dj_rm' dy oy.nm.le,dj_ends dx,dj_ends dy,ho.off,ox.off,oy.off,⟨b1,b2⟩⟩).mono
  (fun e w' hh=>(hh.put h2 rfl (by omega)).rep e3 b3)
theorem sqrL(h:Lv s w0 q0 w q (z::W) R)(hx:x∈W++R)(hx9:x.xs.length<80){l:Nat}(hl:l<=z.c):
 Calls Tryz.prog 70 #[z.r l,.pointer (some ⟨s,0,none⟩),x.v] w (PutL s w0 q0 w q W R z (x.n*x.n)):=by
 obtain⟨z2,e1,e2,e3,h2,b1,b2,b3⟩:=h.rep;rw[<-e1 l];have ho:=h2.ok z2 (by simp);have ox:=h2.ok1 hx;have dx:=h2.dj1 hx;have hln:=h2.ln
 exact(sqr_lo x.xs.length hx9 s q z2.A l z2.b z2.o z2.c x.A x.b x.o x.c x.xs w
  ⟨h2.st,by omega,h2.gl.bt,h2.gl.st,ho.nm.rcv,by omega,ho.c9,ox.nm,rfl,ox.dg,ox.c9,by omega,dj_rm' dx ox.nm.le,dj_ends dx,ho.off,ox.off,⟨b1,b2⟩⟩).mono
  (fun e w' hh=>(hh.put h2 rfl (by omega)).rep e3 b3)
theorem In1.nil{b o c x i:Nat}(hc: ¬0<c)(h:In1 b o c x i):False:=by have:=h.2.1;have:=h.2.2;omega
theorem PutR.put{A':Option Addr}{b' o' c':Nat}{zs:List Int}{V:Int}(h:Lv s w0 q0 w q (z::W) R)(hp:PutR w z.A z.b z.o z.c V A' b' o' c' zs w'):PutL s w0 q0 w q W R z V (.returned (.slice A' zs.length c')) w':=by
 obtain⟨h1,h2,h3,h4,h5,h6⟩:=hp;have hzo:=h.ok z (by simp)
 have hs: ∀i,¬ In1 z.b z.o z.c s i:=fun i hh=>by
  by_cases hc:0<z.c
  ·exact(hzo.bs h.st hc).1 hh.1.symm
  ·exact In1.nil hc hh
 have hi: ∀p,q=some p-> ∀i,¬ In1 z.b z.o z.c p.si i:=fun p hp i hh=>by
  by_cases hc:0<z.c
  ·exact(hzo.bs h.st hc).2 p hp hh.1.symm
  ·exact In1.nil hc hh
 have hm:=h1.max;unfold maxLen at hm;refine⟨⟨A',b',o',c',zs⟩,q,rfl,h.put ⟨h1,h2,by simp only;omega,?_⟩ (h.st.fc h6 hs hi) (StkLe.refl _ _) rfl (h6.mono (fun b i hh _=> .inr hh)) (h5.imp (fun a=>a.2) (fun a=>a.1)),h3,h4,rfl,StkLe.refl _ _,.inr (h5.imp (fun a=>a.2) (fun a=>⟨a.1,NewS.of h.st a.1⟩)),h6.mono (fun b i hh _=> .inr hh)⟩;rcases h5 with⟨_,rfl,rfl,rfl⟩|⟨hb,_⟩
 ·exact hzo.off
 ·exact(NewS.of h.st hb).off
theorem setWordL(h:Lv s w0 q0 w q (z::W) R){v:Int}(h0:0<=v)(h1:v<18446744073709551616){l:Nat}(hl:l<=z.c):Calls Tryz.prog 46 #[z.r l,.int .u64 v] w (PutL s w0 q0 w q W R z v):=
 (setWordR_any z.A l z.b z.o z.c v w (h.ok z (by simp)).nm.rcv hl h0 h1).mono (fun e w' ⟨A',b',o',c',zs,he,hp⟩=>by subst he;exact PutR.put h hp)
theorem setL(h:Lv s w0 q0 w q (z::W) R)(hx:x∈z::(W++R))(hz:NZ x.xs)(h9:x.xs.length<=1000000){l:Nat}(hl:l<=z.c):Calls Tryz.prog 41 #[z.r l,x.v] w (PutL s w0 q0 w q W R z x.n):=
 (setR_all z.A l z.b z.o z.c x.A x.b x.o x.c x.xs w (h.ok x hx).nm (h.ok x hx).dg hz (h.ok z (by simp)).nm.rcv hl h9).mono (fun e w' ⟨A',b',o',c',zs,he,hp⟩=>by subst he;exact PutR.put h hp)
theorem truncL(h:Lv s w0 q0 w q (z::W) R)(hx:x∈z::(W++R))(hz:NZ x.xs)(h9:x.xs.length<=100000){n:Nat}(hn0:0<n)(hn:n<=1000000){l:Nat}(hl:l<=z.c):Calls Tryz.prog 96 #[z.r l,x.v,.int .u64 (n:Int)] w (PutL s w0 q0 w q W R z (x.n%2^n)):=
 (truncR_any z.A l z.b z.o z.c x.A x.b x.o x.c x.xs n w (h.ok x hx).nm (h.ok x hx).dg hz (h.ok z (by simp)).nm.rcv hl h9 hn0 hn).mono (fun e w' ⟨A',b',o',c',zs,he,hp⟩=>by subst he;exact PutR.put h hp)
def PlN(w:World)(z z':Pn):Prop:=(z'.b=z.b/\z'.o=z.o/\z'.c=z.c)\/w.heap.size<=z'.b
def Put2L(s:Nat)(w0:World)(q0:Option StkSt)(w:World)(q:Option StkSt)(W R:List Pn)(z0 y0:Pn)(V U:Int)(e:Ending)(w':World):Prop:=
 ∃z y q',e= .returned (.tuple #[z.v,y.v])/\Lv s w0 q0 w' q' (z::y::W) R/\NZ z.xs/\NZ y.xs/\z.n=V/\y.n=U/\lenS q'=lenS q/\PlN w z0 z/\PlN w y0 y/\StkLe w.heap.size q q'
theorem divL{u v:Pn}(h:Lv s w0 q0 w q (z::y::W) R)(hu:u∈W++R)(hv:v∈W++R)(huz:NZ u.xs)(hvz:NZ v.xs)(hu9:u.xs.length<=50000)(hv1:1<=v.xs.length)(hv9:v.xs.length<=800){l ly:Nat}(hl:l<=z.c)(hly:ly<=y.c):
 Calls Tryz.prog 32 #[z.r l,.pointer (some ⟨s,0,none⟩),y.r ly,u.v,v.v] w (Put2L s w0 q0 w q W R z y (u.n/v.n) (u.n%v.n)):=by
 have hz:=h.ok z (by simp);have hy:=h.ok y (by simp);have hu':=h.ok u (by simp only[List.cons_append,List.mem_cons];exact .inr (.inr hu));have hv':=h.ok v (by simp only[List.cons_append,List.mem_cons];exact .inr (.inr hv));have hd:=h.dj;simp only[List.cons_append,List.pairwise_cons]at hd;have hln:=h.ln;have dzy:PDj z y:=hd.1 y (by simp);have dzu:PDj z u:=hd.1 u (List.mem_cons_of_mem _ hu);have dzv:PDj z v:=hd.1 v (List.mem_cons_of_mem _ hv);have dyu:PDj y u:=hd.2.1 u hu;have dyv:PDj y v:=hd.2.1 v hv;unfold PDj at dzy dzu dzv dyu dyv
 refine(div_any (s:=s) (q:=q) (A:=z.A) (l:=l) (bz:=z.b) (oz:=z.o) (cz:=z.c) (Ay:=y.A) (ly:=ly) (by_:=y.b) (oy:=y.o) (cy:=y.c) (Au:=u.A) (bu:=u.b) (ou:=u.o) (cu:=u.c) (us:=u.xs) (Av:=v.A) (bv:=v.b) (ov:=v.o) (cv:=v.c) (vs:=v.xs) (w:=w)
  {st:=h.st,len:=by omega,thr:=h.gl.kt,td:=h.gl.dt,z:=hz.nm.rcv,zl:=hl,cz9:=hz.c9,y:=hy.nm.rcv,yl:=hly,cy9:=hy.c9,u:=hu'.nm,ud:=hu'.dg,uz:=huz,u9:=hu9,cu9:=hu'.c9,v:=hv'.nm,vd:=hv'.dg,vz:=hvz,v1:=hv1,v9:=by omega,cv9:=hv'.c9
   oz_:=hz.off,oy_:=hy.off,ou_:=Off.take hu'.off hu'.nm.le,ov_:=Off.take hv'.off hv'.nm.le,dyz:=dzy.symm,dyu:=dyu.sub1 (Nat.le_refl _) hu'.nm.le,dyv:=dyv.sub1 (Nat.le_refl _) hv'.nm.le,dzu:=dzu.sub1 (Nat.le_refl _) hu'.nm.le}).mono ?_;rintro e w' ⟨A1,b1,o1,c1,qs,A2,b2,o2,c2,rs,q',rfl,D⟩;have hm1:=D.qn.max;have hm2:=D.rn.max;unfold maxLen at hm1 hm2;refine⟨⟨A1,b1,o1,c1,qs⟩,⟨A2,b2,o2,c2,rs⟩,q',rfl,Lv.putN (Z:=[z,y]) (Z':=[⟨A1,b1,o1,c1,qs⟩,⟨A2,b2,o2,c2,rs⟩]) h D.st D.le D.ll (D.fc.mono (fun b i hh _=>hh.imp id (fun hh=>hh.elim (fun hh=>⟨z,by simp,hh⟩) (fun hh=>⟨y,by simp,hh⟩)))) (fun p hp=> ?_) ?_,D.qz,D.rz,D.qv,D.rv,D.ll,D.qp.imp (fun a=>a.2) (fun a=>a.1),D.rp.imp (fun a=>a.2) (fun a=>a.1),D.le⟩
 ·simp only[List.mem_cons,List.not_mem_nil,or_false]at hp
  rcases hp with rfl|rfl
  ·exact⟨⟨D.qn,D.qd,by simp only;omega,D.qo⟩,D.qp.imp (fun a=>⟨z,by simp,a.2⟩) (fun a=>a.1)⟩
  ·exact⟨⟨D.rn,D.rd,by simp only;omega,D.ro⟩,D.rp.imp (fun a=>⟨y,by simp,a.2⟩) (fun a=>a.1)⟩
 ·rw[List.pairwise_cons]
  exact⟨fun p hp=>by rw[List.mem_singleton]at hp;subst hp;exact D.dj,List.pairwise_singleton _ _⟩
theorem Lv.add(h:Lv s w0 q0 w q W R)(f:Fr [] w w')(hz:PnOk s q w' z)(hb:w.heap.size<=z.b):Lv s w0 q0 w' q (z::W) R:=
 Lv.putN (Z:=[]) (Z':=[z]) h (h.st.fr0 f) (StkLe.refl _ _) rfl (Fc.fr0 f _ _) (fun p hp=>by
  rw[List.mem_singleton]at hp;subst hp;exact⟨hz,.inr hb⟩) (List.pairwise_singleton _ _)
def nilP(b:Nat):Pn:=⟨none,b,0,0,[]⟩
theorem Lv.nil(h:Lv s w0 q0 w q W R):Lv s w0 q0 w q (nilP w.heap.size::W) R:=
 h.add (Fr.refl _ _) ⟨Nm.nil (Rcv.nil _ _ _),DG.nil _,by unfold nilP;simp only;omega,fun i a1 a2=>by unfold nilP at a1 a2;simp only at a1 a2;omega⟩ (Nat.le_refl _)
theorem take_get{L xs:List Int}{j:Nat}(h:L.take xs.length=xs)(hj:j<xs.length):L.getD j 0=xs.getD j 0:=by
 have h:=congrArg (fun l=>l.getD j 0) h;simp only[List.getD_eq_getElem?_getD,List.getElem?_take,if_pos hj]at h;simpa[List.getD_eq_getElem?_getD]using h
theorem pn_new{b c:Nat}{xs L:List Int}(hst:StkAt w s q)(f:Fr [] w w')(hb:w.heap.size<=b)(hr:Row .u64 51 w' b L)(hx:L.take xs.length=xs)(hl:xs.length<=c)(hc:c<=L.length)(hc9:c<=maxLen)(hd:DG 18446744073709551616 xs):PnOk s q w' ⟨some ⟨b,0,none⟩,b,0,c,xs⟩:=by
 have hw:Wr 51 w' b 0 xs:=Wr.of_row hr (by omega) (fun j hj=>by rw[Nat.zero_add];exact take_get hx hj);have hrc:Rcv w' (some ⟨b,0,none⟩) b 0 c:=Rcv.of_row hr (by omega) hc9;unfold maxLen at hc9;exact⟨Nm.of_wr hw hrc hl,hd,by simp only;omega,(NewS.of hst hb).off⟩
end
end Go.Proofs.YthecibbmbnpegaaGreatDoor
