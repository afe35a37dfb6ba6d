/-
  Part 15 of the proof of the law FnExpSum: XKnuth, XLen, XLNlz. Conditions: those of each statement.
-/
import Derived.Test.YthecibbmbnpegaaGreatDoorK02
import Derived.Test.YthecibbmbnpegaaGreatDoorProg
import Derived.Lib.Walk
import Derived.Lib.BitFns
import Derived.Lib.Hide
set_option linter.unusedSimpArgs false
set_option linter.unusedVariables false
set_option maxRecDepth 100000
set_option maxHeartbeats 200000
namespace Go.Big
theorem kn_top{B P v1 V D:Int}(hB:2<=B)(hP:0<P)(hv:B<=2*v1)(hV0:v1*P<=V)(hV1:V<(v1+1)*P)(hD0:v1*B*P<=D)(hD1:D<B*V)(hVp:0<V):D/V<=B-1/\B-1<=D/V+1:=by
 constructor
 ·have:=Int.ediv_lt_of_lt_mul hVp hD1
  omega
 ·have h1:(B-2)*V<=(B-2)*((v1+1)*P):=Int.mul_le_mul_of_nonneg_left (by omega) (by omega)
  have h2:(B-2)*((v1+1)*P)=(v1*B+(B-2*v1-2))*P:=by grind
  have h3:(v1*B+(B-2*v1-2))*P<=(v1*B)*P:=Int.mul_le_mul_of_nonneg_right (by omega) (by omega);have h4:(B-2)<=D/V:=Int.le_ediv_of_mul_le hVp (by omega);omega
theorem kn_mid{P A Bv V D v0 d0 q:Int}(hP:0<P)(hV:V=Bv*P+v0)(h0:0<=v0)(h1:v0<P)(hD:D=A*P+d0)(hd0:0<=d0)(hd1:d0<P)(hBv:0<Bv)(hq0:0<=q)(hq1:q<=Bv)(hlo:q*Bv<=A)(hhi:A<(q+1)*Bv):
 D/V<=q/\q<=D/V+1:=by
 have hBP:0<Bv*P:=Int.mul_pos hBv hP;have hVp:0<V:=by omega
 have hA:0<=A:=by have:=Int.mul_nonneg hq0 (show 0<=Bv by omega);omega
 have hDn:0<=D:=by have:=Int.mul_nonneg hA (show 0<=P by omega);omega
 constructor
 ·have e1:(A+1)*P<=((q+1)*Bv)*P:=Int.mul_le_mul_of_nonneg_right (by omega) (by omega)
  have e2:(q+1)*(Bv*P)<=(q+1)*V:=Int.mul_le_mul_of_nonneg_left (by omega) (by omega);have e3:((q+1)*Bv)*P=(q+1)*(Bv*P):=by grind
  have e4:(A+1)*P=A*P+P:=by grind
  have:D/V<q+1:=Int.ediv_lt_of_lt_mul hVp (by omega);omega
 ·by_cases hz:q=0
  ·have:=Int.ediv_nonneg hDn (show 0<=V by omega)
   omega
  ·have e1:(q-1)*v0<=(q-1)*P:=Int.mul_le_mul_of_nonneg_left (by omega) (by omega)
   have e2:(q-1)*V=((q*Bv)-Bv)*P+(q-1)*v0:=by rw[hV];grind
   have e3:((q*Bv)-Bv)*P<=(A-Bv)*P:=Int.mul_le_mul_of_nonneg_right (by omega) (by omega);have e4:(A-Bv)*P+(q-1)*P=(A-Bv+q-1)*P:=by grind
   have e5:(A-Bv+q-1)*P<=A*P:=Int.mul_le_mul_of_nonneg_right (by omega) (by omega);have:q-1<=D/V:=Int.le_ediv_of_mul_le hVp (by omega);omega
theorem kn_test{B q r v1 v2 d d3 A Bv:Int}(h:q*v1+r=d)(hA:A=d*B+d3)(hBv:Bv=v1*B+v2):A-q*Bv=r*B+d3-q*v2:=by
 rw[hA,hBv,<- h];grind
theorem kn_go{B q r v1 v2 d d3 A Bv:Int}(h:q*v1+r=d)(hA:A=d*B+d3)(hBv:Bv=v1*B+v2)(ht:r*B+d3<q*v2):A<((q-1)+1)*Bv/\(q-1)*v1+(r+v1)=d:=by
 have e:=kn_test h hA hBv;refine⟨by rw[Int.sub_add_cancel];omega,by rw[Int.sub_mul];omega⟩
theorem kn_stop{B q r v1 v2 d d3 A Bv:Int}(h:q*v1+r=d)(hA:A=d*B+d3)(hBv:Bv=v1*B+v2)(ht: ¬r*B+d3<q*v2):q*Bv<=A:=by
 have e:=kn_test h hA hBv;omega
theorem kn_break{B q r v1 v2 d d3 A Bv:Int}(h:q*v1+r=d)(hA:A=d*B+d3)(hBv:Bv=v1*B+v2)(hq0:0<=q)(hq:q<B)(hv0:0<=v2)(hv:v2<B)(hd3:0<=d3)(hr:B<=r):q*Bv<=A:=by
 have e:=kn_test h hA hBv;have e1:q*v2<=B*v2:=Int.mul_le_mul_of_nonneg_right (by omega) hv0;have e2:B*v2<=B*B:=Int.mul_le_mul_of_nonneg_left (by omega) (by omega);have e3:B*B<=r*B:=Int.mul_le_mul_of_nonneg_right hr (by omega);omega
theorem kn_sub0{D V q S:Int}(hV:0<V)(hS0:0<=S)(hq:D/V<=q)(h:S+q*V=D):q=D/V/\S=D%V:=by
 have h1:q<=D/V:=Int.le_ediv_of_mul_le hV (by omega);have e:q=D/V:=by omega
 refine⟨e,?_⟩;have:=Int.emod_add_mul_ediv D V;rw[<-e,Int.mul_comm]at this;omega
theorem kn_sub1{D V q S T:Int}(hV:0<V)(hST:S<T)(hq:q<=D/V+1)(h:S+q*V=D+T):q-1=D/V/\S+V=D%V+T:=by
 have h1:D<q*V:=by omega
 have h2:D/V<q:=Int.ediv_lt_of_lt_mul hV h1;have e:q-1=D/V:=by omega
 refine⟨e,?_⟩;have:=Int.emod_add_mul_ediv D V;rw[<-e,Int.mul_comm]at this;have e2:(q-1)*V=q*V-V:=by rw[Int.sub_mul,Int.one_mul]
 omega
theorem kn_step{B V D R X Y Q u:Int}(h:Y=R+V*Q)(hX:X=u+B*Y)(hD:D=u+B*R):X=D%V+V*(D/V+B*Q):=by
 have e:=Int.emod_add_mul_ediv D V;rw[hX,h,Int.mul_add,Int.mul_add];grind
theorem kn_D{B V R u:Int}(hu0:0<=u)(hu1:u<B)(hR0:0<=R)(hR1:R<V):0<=u+B*R/\u+B*R<B*V:=by
 have h1:B*(R+1)<=B*V:=Int.mul_le_mul_of_nonneg_left (by omega) (by omega);have h2:=Int.mul_nonneg (show 0<=B by omega) hR0;rw[Int.mul_add,Int.mul_one]at h1;omega
theorem kn_digit{B V D:Int}(hV:0<V)(h0:0<=D)(h1:D<B*V):0<=D/V/\D/V<B:=⟨Int.ediv_nonneg h0 (by omega),Int.ediv_lt_of_lt_mul hV h1⟩
theorem kn_fix1{lo c2 R T:Int}(h1:lo<T)(hc0:0<=c2)(hc1:c2<=1)(hR:0<=R)(h:lo+T*c2=R+T):lo=R:=by
 rcases(by omega:c2=0\/c2=1)with rfl|rfl
 ·rw[Int.mul_zero]at h;omega
 ·rw[Int.mul_one]at h;omega
theorem kn_fix2{B lo hi c2 k R P:Int}(h1:lo<P)(hP:0<P)(hh1:hi<B)(hc1:c2<=1)(hR:0<=R)(hk:k=(hi+c2)%B)(h:lo+P*(hi+c2)=R+B*P):lo+P*k=R:=by
 rcases Int.lt_or_le (hi+c2) B with hlt|hle
 ·exfalso
  have:P*(hi+c2)<=P*(B-1):=Int.mul_le_mul_of_nonneg_left (by omega) (by omega);rw[Int.mul_sub,Int.mul_one,Int.mul_comm P B]at this;omega
 ·have e:hi+c2=B:=by omega
  rw[e,Int.emod_self]at hk;rw[e,Int.mul_comm P B]at h;rw[hk,Int.mul_zero];omega
theorem val_of_getD{B:Int}{xs ys:List Int}(h: ∀i,xs.getD i 0=ys.getD i 0):val B xs=val B ys:=by
 induction xs generalizing ys with
 |nil=>
  refine(val_zeros B (fun y hy=> ?_)).symm;obtain⟨n,hn,rfl⟩:=List.mem_iff_getElem.1 hy;have:=h n;rw[getD_in hn]at this;simpa using this.symm
 |cons x xs ih=>
  cases ys with
  |nil=>
   refine val_zeros B (fun y hy=> ?_);obtain⟨n,hn,rfl⟩:=List.mem_iff_getElem.1 hy;have:=h n;rw[getD_in hn]at this;simpa using this
  |cons y ys=>
   have h0:=h 0;simp at h0;rw[val_cons,val_cons,h0,ih (fun i=>by have:=h (i+1);simpa using this)]
theorem val_drop_succ(B:Int)(xs:List Int)(j:Nat):val B (xs.drop j)=xs.getD j 0+B*val B (xs.drop (j+1)):=by
 by_cases h:j<xs.length
 ·rw[List.drop_eq_getElem_cons h,val_cons,getD_in h]
 ·rw[List.drop_eq_nil_of_le (by omega),List.drop_eq_nil_of_le (by omega),getD_out (by omega)]
  simp[val_nil]
theorem val_take_all{B:Int}(hB:0<B){xs:List Int}{k:Nat}(hd:DG B xs)(h:val B xs<B^k):val B (xs.take k)=val B xs/\val B (xs.drop k)=0:=by
 by_cases hk:k<=xs.length
 ·have e:=val_split B xs k hk
  have h1:=val_nonneg hB (hd.take k);have h2:=val_nonneg hB (hd.drop k);have hp:=pow_pos_ hB k
  have h3:val B (xs.drop k)=0:=by
   rcases Int.lt_or_le 0 (val B (xs.drop k))with hlt|hle
   ·have:B^k*1<=B^k*val B (xs.drop k):=Int.mul_le_mul_of_nonneg_left (by omega) (by omega)
    omega
   ·omega
  rw[h3]at e;exact⟨by omega,h3⟩
 ·exact⟨by rw[List.take_of_length_le (by omega)],by rw[List.drop_eq_nil_of_le (by omega)];rfl⟩
theorem val_top2(B:Int)(xs:List Int)(n:Nat)(h:2<=n):val B (xs.take n)=(xs.getD (n-1) 0*B+xs.getD (n-2) 0)*B^(n-2)+val B (xs.take (n-2)):=by
 obtain⟨k,rfl⟩: ∃k,n=k+2:=⟨n-2,by omega⟩;have e1:=val_take_succ' B xs k;have e2:=val_take_succ' B xs (k+1);rw[show k+2-1=k+1 by omega,show k+2-2=k by omega,show k+2=k+1+1 by omega,e2,e1,Int.pow_succ];grind
theorem val_top3(B:Int)(xs:List Int)(n:Nat)(h:2<=n):val B (xs.take (n+1))=((xs.getD n 0*B+xs.getD (n-1) 0)*B+xs.getD (n-2) 0)*B^(n-2)+val B (xs.take (n-2)):=by
 have e1:=val_take_succ' B xs n;rw[e1,val_top2 B xs n h];obtain⟨k,rfl⟩: ∃k,n=k+2:=⟨n-2,by omega⟩;rw[show k+2-2=k by omega,Int.pow_succ,Int.pow_succ];grind
theorem getD_drop{xs:List Int}{i k:Nat}:(xs.drop i).getD k 0=xs.getD (i+k) 0:=by
 simp[List.getD_eq_getElem?_getD]
structure KnInv(lq n m i:Nat)(Q0 U V Uc Qc qs:List Int):Prop where
 lU:Uc.length=m+n
 lQ:Qc.length=lq
 dU:DG 18446744073709551616 Uc
 rest:val 18446744073709551616 (Uc.drop i)<val 18446744073709551616 V
 low: ∀k,k<i->Uc.getD k 0=U.getD k 0
 eq:val 18446744073709551616 (U.drop i)=val 18446744073709551616 (Uc.drop i)+val 18446744073709551616 V*val 18446744073709551616 qs
 lq':qs.length=m+1-i
 dq:DG 18446744073709551616 qs
 dig: ∀k,i<=k->k<=m->Qc.getD k 0=qs.getD (k-i) 0
 up: ∀k,m<k->Qc.getD k 0=Q0.getD k 0
structure KnV(n:Nat)(V:List Int):Prop where
 len:V.length=n
 two:2<=n
 dg:DG 18446744073709551616 V
 top:9223372036854775808<=V.getD (n-1) 0
section
variable {lq n m j:Nat}{Q0 U V Uc Qc qs:List Int}
theorem KnV.bd(h:KnV n V):V.getD (n-1) 0<18446744073709551616/\0<=V.getD (n-2) 0/\V.getD (n-2) 0<18446744073709551616:=⟨(h.dg.getD (by omega) _).2,(h.dg.getD (by omega) _).1,(h.dg.getD (by omega) _).2⟩
theorem KnV.val(h:KnV n V):val 18446744073709551616 V=(V.getD (n-1) 0*18446744073709551616+V.getD (n-2) 0)*18446744073709551616^(n-2)+val 18446744073709551616 (V.take (n-2))/\
 0<=val 18446744073709551616 (V.take (n-2))/\val 18446744073709551616 (V.take (n-2))<18446744073709551616^(n-2):=by
 have e:=val_top2 18446744073709551616 V n h.two;rw[show V.take n=V from List.take_of_length_le (by rw[h.len];omega)]at e;have h2:=val_lt (by omega) (h.dg.take (n-2));rw[List.length_take,h.len,Nat.min_eq_left (by have:=h.two;omega)]at h2;exact⟨e,val_nonneg (by omega) (h.dg.take _),h2⟩
theorem KnV.lo(h:KnV n V):9223372036854775808*18446744073709551616^(n-1)<=Go.Big.val 18446744073709551616 V:=by
 obtain⟨e,h1,h2⟩:=h.val;have hb:=h.bd;have hp:=pow_pos_ (B:=18446744073709551616) (by omega) (n-2)
 have e2:(18446744073709551616:Int)^(n-1)=18446744073709551616*18446744073709551616^(n-2):=by
  rw[show n-1=n-2+1 by have:=h.two;omega,Int.pow_succ,Int.mul_comm]
 have h3:9223372036854775808*18446744073709551616*(18446744073709551616^(n-2):Int)<=(V.getD (n-1) 0*18446744073709551616+V.getD (n-2) 0)*18446744073709551616^(n-2):=
  Int.mul_le_mul_of_nonneg_right (by have:=h.top;omega) (by omega);rw[e2,e];generalize(18446744073709551616^(n-2):Int)=P at*;omega
theorem KnV.pos(h:KnV n V):0<Go.Big.val 18446744073709551616 V:=by
 have:=h.lo;have hp:=pow_pos_ (B:=18446744073709551616) (by omega) (n-1);omega
theorem KnV.hi(h:KnV n V):Go.Big.val 18446744073709551616 V<18446744073709551616^n:=by
 have:=val_lt (by omega) h.dg;rwa[h.len]at this
theorem KnInv.D(h:KnInv lq n m (j+1) Q0 U V Uc Qc qs)(hV:KnV n V):0<=val 18446744073709551616 (Uc.drop j)/\val 18446744073709551616 (Uc.drop j)<18446744073709551616*val 18446744073709551616 V:=by
 rw[val_drop_succ];have hu:=h.dU.getD (by omega) j;exact kn_D hu.1 hu.2 (val_nonneg (by omega) (h.dU.drop _)) h.rest
theorem KnInv.sec(h:KnInv lq n m (j+1) Q0 U V Uc Qc qs)(hV:KnV n V)(hj:j<=m){N:Nat}(hN:(j=m/\N=n)\/(j<m/\N=n+1)):val 18446744073709551616 ((Uc.drop j).take N)=val 18446744073709551616 (Uc.drop j)/\val 18446744073709551616 (Uc.drop (j+N))=0/\((Uc.drop j).take N).length=N:=by
 have hd:=h.D hV;have hv:=hV.hi;have hl:=h.lU;rcases hN with⟨rfl,rfl⟩|⟨hjm,rfl⟩
 ·refine⟨by rw[List.take_of_length_le (by rw[List.length_drop];omega)],?_,by rw[List.length_take,List.length_drop];omega⟩
  rw[List.drop_eq_nil_of_le (by omega)];rfl
 ·have hb:val 18446744073709551616 (Uc.drop j)<18446744073709551616^(n+1):=by rw[Int.pow_succ];omega
  obtain⟨h1,h2⟩:=val_take_all (by omega) (h.dU.drop j) hb;rw[List.drop_drop]at h2;exact⟨h1,h2,by rw[List.length_take,List.length_drop];omega⟩
theorem KnInv.top(h:KnInv lq n m (j+1) Q0 U V Uc Qc qs)(hV:KnV n V):val 18446744073709551616 (Uc.drop j)=((Uc.getD (j+n) 0*18446744073709551616+Uc.getD (j+n-1) 0)*18446744073709551616+Uc.getD (j+n-2) 0)*18446744073709551616^(n-2)+val 18446744073709551616 ((Uc.drop j).take (n-2))/\
 0<=val 18446744073709551616 ((Uc.drop j).take (n-2))/\val 18446744073709551616 ((Uc.drop j).take (n-2))<18446744073709551616^(n-2):=by
 have hd:=h.D hV;have hv:=hV.hi;have hb:val 18446744073709551616 (Uc.drop j)<18446744073709551616^(n+1):=by rw[Int.pow_succ];omega
 obtain⟨h1,h2⟩:=val_take_all (by omega) (h.dU.drop j) hb;have e:=val_top3 18446744073709551616 (Uc.drop j) n hV.two;rw[h1,getD_drop,getD_drop,getD_drop]at e;have h2:=hV.two;rw[show j+(n-1)=j+n-1 by omega,show j+(n-2)=j+n-2 by omega]at e;have h3:=val_lt_of_len (B:=18446744073709551616) (by omega) ((h.dU.drop j).take (n-2)) (k:=n-2) (by rw[List.length_take];omega);exact⟨e,val_nonneg (by omega) ((h.dU.drop j).take _),h3⟩
theorem kn_first{d1 d2 d3 v1 v2 q r:Int}(h1:0<=d1)(hd:d1<v1)(hd2:0<=d2)(hd2':d2<18446744073709551616)(hd3:0<=d3)(hd3':d3<18446744073709551616)(hv2:0<=v2)
 (hq:q=(d1*18446744073709551616+d2)/v1)(hr:r=(d1*18446744073709551616+d2)%v1):
 q*v1+r=d1*18446744073709551616+d2/\0<=q/\q<18446744073709551616/\0<=r/\r<v1/\(d1*18446744073709551616+d2)*18446744073709551616+d3<(q+1)*(v1*18446744073709551616+v2):=by
 have e:=Int.emod_add_mul_ediv (d1*18446744073709551616+d2) v1;have r0:=Int.emod_nonneg (d1*18446744073709551616+d2) (show v1≠0 by omega);have r1:=Int.emod_lt_of_pos (d1*18446744073709551616+d2) (show 0<v1 by omega);have q0:=Int.ediv_nonneg (show 0<=d1*18446744073709551616+d2 by omega) (show 0<=v1 by omega);have q1:=Int.ediv_lt_of_lt_mul (a:=d1*18446744073709551616+d2) (b:=18446744073709551616) (c:=v1) (by omega) (by omega);rw[<-hq,<- hr,Int.mul_comm]at e;rw[<-hr]at r0 r1;rw[<-hq]at q0 q1;refine⟨by omega,q0,q1,r0,r1,?_⟩;have e2:(q+1)*(v1*18446744073709551616+v2)=(q*v1+v1)*18446744073709551616+(q+1)*v2:=by grind
 have e3:=Int.mul_nonneg (show 0<=q+1 by omega) hv2;omega
theorem KnInv.guess(h:KnInv lq n m (j+1) Q0 U V Uc Qc qs)(hV:KnV n V)(hj:j<=m){D d1 d2 d3 v1 v2 X:Int}(hX:X=val 18446744073709551616 V)(hD:D=val 18446744073709551616 (Uc.drop j))(e1:d1=Uc.getD (j+n) 0)(e2:d2=Uc.getD (j+n-1) 0)(e3:d3=Uc.getD (j+n-2) 0)(f1:v1=V.getD (n-1) 0)(f2:v2=V.getD (n-2) 0):
 0<=D/X/\D/X<18446744073709551616/\d1<=v1/\(d1=v1->D/X<=18446744073709551615/\18446744073709551615<=D/X+1)/\
 (∀q,0<=q->q<18446744073709551616->q*(v1*18446744073709551616+v2)<=(d1*18446744073709551616+d2)*18446744073709551616+d3->(d1*18446744073709551616+d2)*18446744073709551616+d3<(q+1)*(v1*18446744073709551616+v2)->D/X<=q/\q<=D/X+1/\(j=m->q<=1))/\(j=m->d1=0):=by
 obtain⟨a1,a2,a3⟩:=h.top hV;obtain⟨b1,b2,b3⟩:=hV.val;obtain⟨c1,c2⟩:=h.D hV;obtain⟨g1,g2,g3⟩:=hV.bd;have g0:=hV.top;have hp:=pow_pos_ (B:=18446744073709551616) (by omega) (n-2);have hpos:=hV.pos;rw[<-hX]at b1 c2 hpos;rw[<-hD]at a1 c1 c2;rw[<-e1,<- e2,<- e3]at a1;rw[<-f1,<- f2]at b1;rw[<-f1]at g0 g1;rw[<-f2]at g2 g3;have u1:=h.dU.getD (by omega) (j+n);have u2:=h.dU.getD (by omega) (j+n-1);have u3:=h.dU.getD (by omega) (j+n-2);rw[<-e1]at u1;rw[<-e2]at u2;rw[<-e3]at u3;have hdz:j=m->d1=0:=fun e=>by rw[e1,getD_out (by rw[h.lU];omega)]
 obtain⟨k1,k2⟩:=kn_digit hpos c1 c2;generalize(18446744073709551616^(n-2):Int)=P at*;generalize val 18446744073709551616 ((Uc.drop j).take (n-2))=d0 at*;generalize val 18446744073709551616 (V.take (n-2))=v0 at*
 have hVlo:v1*(18446744073709551616*P)<=X:=by
  have:=Int.mul_nonneg g2 (show 0<=P by omega);rw[b1];have e:(v1*18446744073709551616+v2)*P=v1*(18446744073709551616*P)+v2*P:=by grind
  omega
 have hVhi:X<(v1+1)*(18446744073709551616*P):=by
  have h1:v2*P<=18446744073709551615*P:=Int.mul_le_mul_of_nonneg_right (by omega) (by omega);rw[b1];have e:(v1*18446744073709551616+v2)*P=v1*(18446744073709551616*P)+v2*P:=by grind
  have e2:(v1+1)*(18446744073709551616*P)=v1*(18446744073709551616*P)+18446744073709551616*P:=by grind
  omega
 have hDlo:d1*18446744073709551616*(18446744073709551616*P)<=D:=by
  have h1:=Int.mul_nonneg u2.1 (show 0<=P by omega);have h2:=Int.mul_nonneg u3.1 (show 0<=P by omega);rw[a1];have e:((d1*18446744073709551616+d2)*18446744073709551616+d3)*P=d1*18446744073709551616*(18446744073709551616*P)+18446744073709551616*(d2*P)+d3*P:=by grind
  omega
 refine⟨k1,k2,?_,fun e=> ?_,fun q hq0 hq1 hlo hhi=> ?_,hdz⟩
 ·rcases Int.lt_or_le v1 d1 with hlt|hle
  ·exfalso
   have h1:(v1+1)*(18446744073709551616*(18446744073709551616*P))<=d1*(18446744073709551616*(18446744073709551616*P)):=Int.mul_le_mul_of_nonneg_right (by omega) (by omega);have e:d1*18446744073709551616*(18446744073709551616*P)=d1*(18446744073709551616*(18446744073709551616*P)):=by grind
   have e2:(v1+1)*(18446744073709551616*(18446744073709551616*P))=18446744073709551616*((v1+1)*(18446744073709551616*P)):=by grind
   omega
  ·exact hle
 ·have:=kn_top (B:=18446744073709551616) (P:=18446744073709551616*P) (v1:=v1) (V:=X) (D:=D) (by omega) (by omega) (by omega) hVlo hVhi (by rw[<-e];exact hDlo) c2 hpos
  omega
 ·have hBv:18446744073709551616<=v1*18446744073709551616+v2:=by omega
  obtain⟨m1,m2⟩:=kn_mid (P:=P) (A:=(d1*18446744073709551616+d2)*18446744073709551616+d3) (Bv:=v1*18446744073709551616+v2) (V:=X) (D:=D) (v0:=v0) (d0:=d0) (q:=q) hp b1 b2 b3 a1 a2 a3 (by omega) hq0 (by omega) hlo hhi;refine⟨m1,m2,fun e=> ?_⟩;have hz:=hdz e;rw[hz]at hlo;rcases Int.lt_or_le q 2 with hlt|hle
  ·omega
  ·exfalso
   have:2*(v1*18446744073709551616+v2)<=q*(v1*18446744073709551616+v2):=Int.mul_le_mul_of_nonneg_right hle (by omega);omega
theorem KnInv.start(hU:U.length=m+n)(hUd:DG 18446744073709551616 U)(hV:KnV n V)(hQ:Q0.length=lq):KnInv lq n m (m+1) Q0 U V U Q0 []:=by
 refine⟨hU,hQ,hUd,?_,fun _ _=>rfl,by simp[val_nil],by simp,DG.nil _,fun k h1 h2=>by omega,fun _ _=>rfl⟩;have h1:=val_lt (by omega) (hUd.drop (m+1));rw[List.length_drop,hU,show m+n-(m+1)=n-1 by omega]at h1;have h2:=hV.lo;have hp:=pow_pos_ (B:=18446744073709551616) (by omega) (n-1);omega
theorem KnInv.next(h:KnInv lq n m (j+1) Q0 U V Uc Qc qs)(hV:KnV n V)(hj:j<=m)(hU:U.length=m+n){N:Nat}(hN:(j=m/\N=n)\/(j<m/\N=n+1)){S Qc':List Int}{Q:Int}(hS:S.length=N)(hSd:DG 18446744073709551616 S)
 (hSv:val 18446744073709551616 S=val 18446744073709551616 (Uc.drop j)%val 18446744073709551616 V)(hQ:Q=val 18446744073709551616 (Uc.drop j)/val 18446744073709551616 V)
 (hQc:(j<lq/\Qc'=Qc.set j Q)\/(j=m/\lq=m/\Q=0/\Qc'=Qc)):KnInv lq n m j Q0 U V (spl Uc j S) Qc' (Q::qs):=by
 have hl:=h.lU;have hfit:j+S.length<=Uc.length:=by rcases hN with⟨rfl,rfl⟩|⟨h1,rfl⟩<;>omega
 obtain⟨s1,s2,s3⟩:=h.sec hV hj hN;obtain⟨c1,c2⟩:=h.D hV
 have hdr:(spl Uc j S).drop j=S++Uc.drop (j+S.length):=by
  unfold spl;rw[List.drop_append_of_le_length (by rw[List.length_take];omega),List.drop_eq_nil_of_le (by rw[List.length_take];omega),List.nil_append]
 have hv:val 18446744073709551616 ((spl Uc j S).drop j)=val 18446744073709551616 (Uc.drop j)%val 18446744073709551616 V:=by
  rw[hdr,val_append,hS,s2,hSv];simp
 have hq:=kn_digit hV.pos c1 c2;refine⟨by rw[spl_len hfit];exact hl,?_,?_,?_,fun k hk=> ?_,?_,?_,DG.cons (by rw[hQ];exact hq.1) (by rw[hQ];exact hq.2) h.dq,fun k h1 h2=> ?_,fun k hk=> ?_⟩
 ·rcases hQc with⟨_,rfl⟩|⟨_,_,_,rfl⟩
  ·rw[List.length_set];exact h.lQ
  ·exact h.lQ
 ·unfold spl
  exact(h.dU.take _).append (hSd.append (h.dU.drop _))
 ·rw[hv];exact Int.emod_lt_of_pos _ hV.pos
 ·rw[spl_get hfit,if_pos hk];exact h.low k (by omega)
 ·rw[hv,val_cons,hQ]
  refine kn_step h.eq ?_ (val_drop_succ _ Uc j);rw[val_drop_succ,<- h.low j (by omega)]
 ·rw[List.length_cons,h.lq'];omega
 ·have hk0:Qc'.getD k 0=if k=j then Q else Qc.getD k 0:=by
   rcases hQc with⟨hlt,rfl⟩|⟨h3,h4,h5,rfl⟩
   ·by_cases e:k=j
    ·subst e;rw[if_pos rfl,getD_set_self _ (by rw[h.lQ];exact hlt)]
    ·rw[if_neg e,getD_set _ (fun q=>e q.symm)]
   ·by_cases e:k=j
    ·subst e;rw[if_pos rfl,getD_out (by rw[h.lQ];omega),h5]
    ·rw[if_neg e]
  rw[hk0];by_cases e:k=j
  ·subst e;simp
  ·rw[if_neg e,h.dig k (by omega) h2,show k-j=(k-(j+1))+1 by omega];simp
 ·rcases hQc with⟨hlt,rfl⟩|⟨_,_,_,rfl⟩
  ·rw[getD_set _ (by omega)];exact h.up k hk
  ·exact h.up k hk
theorem KnInv.fin(h:KnInv lq n m 0 Q0 U V Uc Qc qs)(hV:KnV n V)(hd:DG 18446744073709551616 U):val 18446744073709551616 Uc=val 18446744073709551616 U%val 18446744073709551616 V/\val 18446744073709551616 (Qc.take (m+1))=val 18446744073709551616 U/val 18446744073709551616 V/\DG 18446744073709551616 (Qc.take (m+1)):=by
 have e:=h.eq;have hr:=h.rest;rw[List.drop_zero]at e hr;rw[List.drop_zero]at e;have h0:=val_nonneg (by omega) h.dU;have hp:=hV.pos
 have hg: ∀i,(Qc.take (m+1)).getD i 0=qs.getD i 0:=fun i=>by
  by_cases hi:i<m+1
  ·have:=h.dig i (by omega) (by omega)
   rw[Nat.sub_zero]at this;rw[<-this];simp[List.getD_eq_getElem?_getD,List.getElem?_take,hi]
  ·rw[getD_out (by rw[List.length_take];omega),getD_out (by rw[h.lq'];omega)]
 refine⟨?_,?_,fun d hd'=> ?_⟩
 ·rw[e,Int.add_mul_emod_self_left];exact(Int.emod_eq_of_lt h0 hr).symm
 ·rw[val_of_getD hg,e,Int.add_mul_ediv_left _ _ (by omega),Int.ediv_eq_zero_of_lt h0 hr,Int.zero_add]
 ·obtain⟨k,hk,rfl⟩:=List.mem_iff_getElem.1 hd'
  have:=hg k;rw[getD_in hk]at this;rw[this];exact h.dq.getD (by omega) _
theorem KnInv.zero(h:KnInv lq n m (m+1) Q0 U V Uc Qc qs)(hV:KnV n V)(hd:DG 18446744073709551616 U)(hU:U.length=m+n)(hlt:val 18446744073709551616 U<val 18446744073709551616 V*18446744073709551616^m):val 18446744073709551616 (Uc.drop m)/val 18446744073709551616 V=0:=by
 have hl:=h.lU;have e:Uc.drop m=U.drop m\/True:= .inr trivial;have e1:=val_split 18446744073709551616 U m (by omega);have h1:=val_nonneg (by omega) (hd.take m);have e2:=val_drop_succ 18446744073709551616 Uc m;have e3:=val_drop_succ 18446744073709551616 U m;rw[h.low m (by omega)]at e2;have hq:qs=[]:=List.eq_nil_of_length_eq_zero (by rw[h.lq'];omega);have e4:=h.eq;rw[hq,val_nil,Int.mul_zero,Int.add_zero]at e4;rw[<-e4,<- e3]at e2;rw[e2];have hp:=pow_pos_ (B:=18446744073709551616) (by omega) m;have h0:=val_nonneg (by omega) (hd.drop m);refine Int.ediv_eq_zero_of_lt h0 ?_;have:18446744073709551616^m*val 18446744073709551616 (U.drop m)<18446744073709551616^m*val 18446744073709551616 V:=by rw[Int.mul_comm _ (val 18446744073709551616 V)];omega
 exact Int.lt_of_mul_lt_mul_left this (by omega)
end
end Go.Big
namespace Go.Proofs.YthecibbmbnpegaaGreatDoor
open Go.Big Go.RowKit
theorem len_way(X Y k D:Nat)(hX:X<18446744073709551616)(hk:k<=56)(hD:D=2^k)(hlo:D<=X\/k=0)(hY:Y=X/D)(hY1:Y<=255):
 RowKit.wrap64 ((k:Int)+RowKit.wrap64 (Lib.len8 (Y:Int)))=(Lib.bitLen X:Int):=by
 have l:=Lib.bitLen_le8' (Y:Int) (by omega) (by omega);rw[Lib.len8_of (Y:Int) (by omega) (by omega)];rw[Int.toNat_natCast]at l ⊢
 have e:Lib.bitLen X=k+Lib.bitLen Y:=by
  rcases hlo with hlo|rfl
  ·rw[hY,hD];exact Lib.bitLen_shift k X (by rw[<-hD];exact hlo) hX
  ·simp at hD;subst hD;rw[hY];simp
 rw[e];unfold RowKit.wrap64;omega
theorem len64_w111(X:Nat)(w:World)(hX:X<18446744073709551616)(t1:4294967296<=(X:Int))(t2:65536<=(X:Int)/4294967296)(t3:256<=(X:Int)/4294967296/65536):
 Calls Tryz.prog 137 #[.int .u64 (X:Int)] w fun e w'=>e= .returned (.int .i64 (Lib.bitLen X))/\w=w':=by
 have hy0:0<=(X:Int)/4294967296/65536/256:=by omega
 have hy1:(X:Int)/4294967296/65536/256<=255:=by omega
 have hq:(X:Int)/4294967296/65536/256=((X/4294967296/65536/256:Nat):Int):=by simp
 have hlo:72057594037927936<=X\/56=0:=by omega
 have hn:X/4294967296/65536/256=X/72057594037927936:=by simp[Nat.div_div_eq_div_mul]
 have hw:=len_way X (X/4294967296/65536/256) 56 72057594037927936 hX (by omega) (by decide) hlo hn (by omega);rw[<-hq]at hw;have HW:=κ hw;clear hw hn hlo hq;go_enter Tryz.func137,Tryz.ntmps137;go_wp2;go_ret;refine⟨congrArg Ending.returned (congrArg (Value.int IntKind.i64) ?_),rfl⟩;exact HW.out
theorem len64_w110(X:Nat)(w:World)(hX:X<18446744073709551616)(t1:4294967296<=(X:Int))(t2:65536<=(X:Int)/4294967296)(t3: ¬256<=(X:Int)/4294967296/65536):
 Calls Tryz.prog 137 #[.int .u64 (X:Int)] w fun e w'=>e= .returned (.int .i64 (Lib.bitLen X))/\w=w':=by
 have hy0:0<=(X:Int)/4294967296/65536:=by omega
 have hy1:(X:Int)/4294967296/65536<=255:=by omega
 have hq:(X:Int)/4294967296/65536=((X/4294967296/65536:Nat):Int):=by simp
 have hlo:281474976710656<=X\/48=0:=by omega
 have hn:X/4294967296/65536=X/281474976710656:=by simp[Nat.div_div_eq_div_mul]
 have hw:=len_way X (X/4294967296/65536) 48 281474976710656 hX (by omega) (by decide) hlo hn (by omega);rw[<-hq]at hw;have HW:=κ hw;clear hw hn hlo hq;go_enter Tryz.func137,Tryz.ntmps137;go_wp2;go_ret;refine⟨congrArg Ending.returned (congrArg (Value.int IntKind.i64) ?_),rfl⟩;exact HW.out
theorem len64_w101(X:Nat)(w:World)(hX:X<18446744073709551616)(t1:4294967296<=(X:Int))(t2: ¬65536<=(X:Int)/4294967296)(t3:256<=(X:Int)/4294967296):
 Calls Tryz.prog 137 #[.int .u64 (X:Int)] w fun e w'=>e= .returned (.int .i64 (Lib.bitLen X))/\w=w':=by
 have hy0:0<=(X:Int)/4294967296/256:=by omega
 have hy1:(X:Int)/4294967296/256<=255:=by omega
 have hq:(X:Int)/4294967296/256=((X/4294967296/256:Nat):Int):=by simp
 have hlo:1099511627776<=X\/40=0:=by omega
 have hn:X/4294967296/256=X/1099511627776:=by simp[Nat.div_div_eq_div_mul]
 have hw:=len_way X (X/4294967296/256) 40 1099511627776 hX (by omega) (by decide) hlo hn (by omega);rw[<-hq]at hw;have HW:=κ hw;clear hw hn hlo hq;go_enter Tryz.func137,Tryz.ntmps137;go_wp2;go_ret;refine⟨congrArg Ending.returned (congrArg (Value.int IntKind.i64) ?_),rfl⟩;exact HW.out
theorem len64_w100(X:Nat)(w:World)(hX:X<18446744073709551616)(t1:4294967296<=(X:Int))(t2: ¬65536<=(X:Int)/4294967296)(t3: ¬256<=(X:Int)/4294967296):
 Calls Tryz.prog 137 #[.int .u64 (X:Int)] w fun e w'=>e= .returned (.int .i64 (Lib.bitLen X))/\w=w':=by
 have hy0:0<=(X:Int)/4294967296:=by omega
 have hy1:(X:Int)/4294967296<=255:=by omega
 have hq:(X:Int)/4294967296=((X/4294967296:Nat):Int):=by simp
 have hlo:4294967296<=X\/32=0:=by omega
 have hn:X/4294967296=X/4294967296:=by simp[Nat.div_div_eq_div_mul]
 have hw:=len_way X (X/4294967296) 32 4294967296 hX (by omega) (by decide) hlo hn (by omega);rw[<-hq]at hw;have HW:=κ hw;clear hw hn hlo hq;go_enter Tryz.func137,Tryz.ntmps137;go_wp2;go_ret;refine⟨congrArg Ending.returned (congrArg (Value.int IntKind.i64) ?_),rfl⟩;exact HW.out
theorem len64_w011(X:Nat)(w:World)(hX:X<18446744073709551616)(t1: ¬4294967296<=(X:Int))(t2:65536<=(X:Int))(t3:256<=(X:Int)/65536):
 Calls Tryz.prog 137 #[.int .u64 (X:Int)] w fun e w'=>e= .returned (.int .i64 (Lib.bitLen X))/\w=w':=by
 have hy0:0<=(X:Int)/65536/256:=by omega
 have hy1:(X:Int)/65536/256<=255:=by omega
 have hq:(X:Int)/65536/256=((X/65536/256:Nat):Int):=by simp
 have hlo:16777216<=X\/24=0:=by omega
 have hn:X/65536/256=X/16777216:=by simp[Nat.div_div_eq_div_mul]
 have hw:=len_way X (X/65536/256) 24 16777216 hX (by omega) (by decide) hlo hn (by omega);rw[<-hq]at hw;have HW:=κ hw;clear hw hn hlo hq;go_enter Tryz.func137,Tryz.ntmps137;go_wp2;go_ret;refine⟨congrArg Ending.returned (congrArg (Value.int IntKind.i64) ?_),rfl⟩;exact HW.out
theorem len64_w010(X:Nat)(w:World)(hX:X<18446744073709551616)(t1: ¬4294967296<=(X:Int))(t2:65536<=(X:Int))(t3: ¬256<=(X:Int)/65536):
 Calls Tryz.prog 137 #[.int .u64 (X:Int)] w fun e w'=>e= .returned (.int .i64 (Lib.bitLen X))/\w=w':=by
 have hy0:0<=(X:Int)/65536:=by omega
 have hy1:(X:Int)/65536<=255:=by omega
 have hq:(X:Int)/65536=((X/65536:Nat):Int):=by simp
 have hlo:65536<=X\/16=0:=by omega
 have hn:X/65536=X/65536:=by simp[Nat.div_div_eq_div_mul]
 have hw:=len_way X (X/65536) 16 65536 hX (by omega) (by decide) hlo hn (by omega);rw[<-hq]at hw;have HW:=κ hw;clear hw hn hlo hq;go_enter Tryz.func137,Tryz.ntmps137;go_wp2;go_ret;refine⟨congrArg Ending.returned (congrArg (Value.int IntKind.i64) ?_),rfl⟩;exact HW.out
theorem len64_w001(X:Nat)(w:World)(hX:X<18446744073709551616)(t1: ¬4294967296<=(X:Int))(t2: ¬65536<=(X:Int))(t3:256<=(X:Int)):
 Calls Tryz.prog 137 #[.int .u64 (X:Int)] w fun e w'=>e= .returned (.int .i64 (Lib.bitLen X))/\w=w':=by
 have hy0:0<=(X:Int)/256:=by omega
 have hy1:(X:Int)/256<=255:=by omega
 have hq:(X:Int)/256=((X/256:Nat):Int):=by simp
 have hlo:256<=X\/8=0:=by omega
 have hn:X/256=X/256:=by simp[Nat.div_div_eq_div_mul]
 have hw:=len_way X (X/256) 8 256 hX (by omega) (by decide) hlo hn (by omega);rw[<-hq]at hw;have HW:=κ hw;clear hw hn hlo hq;go_enter Tryz.func137,Tryz.ntmps137;go_wp2;go_ret;refine⟨congrArg Ending.returned (congrArg (Value.int IntKind.i64) ?_),rfl⟩;exact HW.out
theorem len64_w000(X:Nat)(w:World)(hX:X<18446744073709551616)(t1: ¬4294967296<=(X:Int))(t2: ¬65536<=(X:Int))(t3: ¬256<=(X:Int)):
 Calls Tryz.prog 137 #[.int .u64 (X:Int)] w fun e w'=>e= .returned (.int .i64 (Lib.bitLen X))/\w=w':=by
 have hy0:0<=(X:Int):=by omega
 have hy1:(X:Int)<=255:=by omega
 have hq:(X:Int)=((X:Nat):Int):=by simp
 have hlo:1<=X\/0=0:=by omega
 have hn:X=X/1:=by simp
 have hw:=len_way X (X) 0 1 hX (by omega) (by decide) hlo hn (by omega);rw[<-hq]at hw;have HW:=κ hw;clear hw hn hlo hq;go_enter Tryz.func137,Tryz.ntmps137;go_wp2;go_ret;refine⟨congrArg Ending.returned (congrArg (Value.int IntKind.i64) ?_),rfl⟩;have h:=HW.out;rwa[show(((0:Nat):Int))=0 from rfl,Int.zero_add]at h
theorem len64_nat(X:Nat)(w:World)(hX:X<18446744073709551616):
 Calls Tryz.prog 137 #[.int .u64 (X:Int)] w fun e w'=>e= .returned (.int .i64 (Lib.bitLen X))/\w=w':=by
 by_cases t1:4294967296<=(X:Int)
 ·by_cases t2:65536<=(X:Int)/4294967296
  ·by_cases t3:256<=(X:Int)/4294967296/65536
   ·exact len64_w111 X w hX t1 t2 t3
   ·exact len64_w110 X w hX t1 t2 t3
  ·by_cases t3:256<=(X:Int)/4294967296
   ·exact len64_w101 X w hX t1 t2 t3
   ·exact len64_w100 X w hX t1 t2 t3
 ·by_cases t2:65536<=(X:Int)
  ·by_cases t3:256<=(X:Int)/65536
   ·exact len64_w011 X w hX t1 t2 t3
   ·exact len64_w010 X w hX t1 t2 t3
  ·by_cases t3:256<=(X:Int)
   ·exact len64_w001 X w hX t1 t2 t3
   ·exact len64_w000 X w hX t1 t2 t3
theorem len64_any(x:Int)(w:World)(h0:0<=x)(h1:x<18446744073709551616):
 Calls Tryz.prog 137 #[.int .u64 x] w fun e w'=>e= .returned (.int .i64 (Lib.bitLen x.toNat))/\w=w':=by
 obtain⟨X,rfl⟩:=Int.eq_ofNat_of_zero_le h0;exact len64_nat X w (by omega)
theorem blen_any(x:Int)(w:World)(h0:0<=x)(h1:x<18446744073709551616):
 Calls Tryz.prog 130 #[.int .u64 x] w fun e w'=>e= .returned (.int .i64 (Lib.bitLen x.toNat))/\w=w':=by
 go_enter Tryz.func130,Tryz.ntmps130;go_wp2_with (go_at_call 137;refine(len64_any x _ h0 h1).mono ?_;rintro e w' ⟨rfl,rfl⟩);go_ret;exact⟨rfl,rfl⟩
theorem bitLen_isLen: ∀x:Nat,x<2^64->IsLen (x:Int) (Lib.bitLen x):=by
 intro x;induction x using Nat.strongRecOn with
 |_ x ih=>
  intro hx;by_cases h:x=0
  ·subst h;left;exact⟨rfl,by decide⟩
  ·have e:=Lib.bitLen_half x h hx
   have i:=ih (x/2) (by omega) (by omega);right;rcases i with⟨h1,h2⟩|⟨h1,h2,h3⟩
   ·have:x=1:=by omega
    subst this;rw[e,h2];decide
   ·rw[e]
    obtain⟨m,hm⟩: ∃m,Lib.bitLen (x/2)=m+1:=⟨Lib.bitLen (x/2)-1,by omega⟩;rw[hm]at h2 h3 ⊢
    have e2:1+(m+1)-1=m+1:=by omega
    have e3:1+(m+1)=m+1+1:=by omega
    rw[e2,e3];rw[Nat.add_sub_cancel]at h2;refine⟨by omega,?_,?_⟩
    ·rw[Int.pow_succ];omega
    ·rw[Int.pow_succ];omega
theorem isLen_word(x:Int)(h0:0<=x)(h1:x<18446744073709551616):IsLen x (Lib.bitLen x.toNat):=by
 have:=bitLen_isLen x.toNat (by omega);rwa[Int.toNat_of_nonneg h0]at this
theorem bitLen_le64(x:Int)(h0:0<=x)(h1:x<18446744073709551616):Lib.bitLen x.toNat<=64:=Lib.bitLen_le _ 64 (by omega) (by omega)
theorem nlz_any(x:Int)(w:World)(h0:0<=x)(h1:x<18446744073709551616):
 Calls Tryz.prog 69 #[.int .u64 x] w fun e w'=>(∃L:Nat,e= .returned (.int .u64 (64-(L:Int)))/\IsLen x L/\L<=64)/\w=w':=by
 have C:=κ (blen_any x w h0 h1);have hb:=bitLen_le64 x h0 h1;have hi:=isLen_word x h0 h1;obtain⟨L,hL⟩: ∃L,L=Lib.bitLen x.toNat:=⟨_,rfl⟩;rw[<-hL]at C hb hi;have HI:=κ hi;clear hi hL;go_enter Tryz.func69,Tryz.ntmps69;go_wp2_with (first|(go_at_call 130;refine(Hid.out C).mono ?_;rintro e w' ⟨rfl,rfl⟩)|go_in);go_ret;exact⟨⟨L,rfl,HI.out,hb⟩,rfl⟩
end Go.Proofs.YthecibbmbnpegaaGreatDoor
