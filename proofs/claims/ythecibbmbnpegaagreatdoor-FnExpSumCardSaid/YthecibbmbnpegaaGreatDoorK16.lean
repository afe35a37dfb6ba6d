/-
  Part 16 of the proof of the law FnExpSum: XgDw. Conditions: those of each statement.
-/
import Derived.Test.YthecibbmbnpegaaGreatDoorK05
import Derived.Test.YthecibbmbnpegaaGreatDoorK15
import Derived.Laws.Bits64
set_option linter.unusedSimpArgs false
set_option linter.unusedVariables false
set_option maxRecDepth 100000
set_option maxHeartbeats 8000000
section
namespace Go.Big
theorem dig_start{H u n y y1 y0:Int}(hH:0<H)(hy:y=y1*H+y0)(h0:0<=y0)(h0H:y0<H)(h1:H<=2*y1)(hn:0<=n)(hnH:n<H)(hu:0<=u)(huy:u<y):
 (u*H+n)/y<=u/y1/\u/y1<=H+1/\0<=u/y1/\0<=u-u/y1*y1/\u-u/y1*y1<y1:=by
 have hy1:0<y1:=by omega
 have hyp:0<y:=by rw[hy];have:=Int.mul_pos hy1 hH;omega
 have e:=Int.emod_add_mul_ediv u y1;have e1:=Int.emod_nonneg u (show y1≠0 by omega);have e2:=Int.emod_lt_of_pos u hy1;rw[Int.mul_comm y1]at e;refine⟨?_,?_,Int.ediv_nonneg hu (by omega),by omega,by omega⟩
 ·refine Int.le_ediv_of_mul_le hy1 ?_
  obtain⟨Q,hQ⟩: ∃Q,Q=(u*H+n)/y:=⟨_,rfl⟩;rw[<-hQ];have f:=Int.emod_add_mul_ediv (u*H+n) y;have f1:=Int.emod_nonneg (u*H+n) (show y≠0 by omega);rw[<-hQ]at f;have hQ0:0<=Q:=by rw[hQ];exact Int.ediv_nonneg (by have:=Int.mul_nonneg hu (Int.le_of_lt hH);omega) (by omega)
  have g:Q*y1*H<=y*Q:=by
   have:0<=Q*y0:=Int.mul_nonneg hQ0 h0;rw[hy];grind
  have g2:Q*y1*H<(u+1)*H:=by rw[Int.add_mul,Int.one_mul];omega
  have:=Int.lt_of_mul_lt_mul_right g2 (Int.le_of_lt hH);omega
 ·have:u<y1*(H+2):=by rw[Int.mul_add];omega
  have h2:u/y1<H+2:=Int.ediv_lt_of_lt_mul hy1 (by rw[Int.mul_comm];exact this);omega
theorem dig_go{H u n y y1 y0 q r:Int}(hH:0<H)(hy:y=y1*H+y0)(hyp:0<y)(hn:0<=n)(hnH:n<H)(hu:0<=u)(huy:u<y)(hr:q*y1+r=u)(h:H<=q\/H*r+n<q*y0):
 (u*H+n)/y<=q-1:=by
 have f:=Int.emod_add_mul_ediv (u*H+n) y;have f1:=Int.emod_nonneg (u*H+n) (show y≠0 by omega);obtain⟨Q,hQ⟩: ∃Q,Q=(u*H+n)/y:=⟨_,rfl⟩;rw[<-hQ]at f ⊢
 rcases h with h|h
 ·have:Q<H:=by
   have h3:y*Q<y*H:=by
    have h4:(u+1)*H<=y*H:=Int.mul_le_mul_of_nonneg_right (by omega) (by omega);rw[Int.add_mul,Int.one_mul]at h4;omega
   exact Int.lt_of_mul_lt_mul_left h3 (by omega)
  omega
 ·have:y*Q<y*q:=by
   have e:y*q=u*H-H*r+q*y0:=by rw[hy,<- hr];grind
   omega
  have:=Int.lt_of_mul_lt_mul_left this (by omega);omega
theorem dig_stop{H u n y y1 y0 q r:Int}(hy:y=y1*H+y0)(hyp:0<y)(hr:q*y1+r=u)(hQ:(u*H+n)/y<=q)(h:q*y0<=H*r+n):q=(u*H+n)/y:=by
 have:q*y<=u*H+n:=by
  have e:q*y=u*H-H*r+q*y0:=by rw[hy,<- hr];grind
  omega
 have:=Int.le_ediv_of_mul_le hyp this;omega
theorem dig_break{H u n y y1 y0 q r:Int}(hH:0<H)(hy:y=y1*H+y0)(hyp:0<y)(h0:0<=y0)(h0H:y0<H)(hn:0<=n)(hr:q*y1+r=u)(hQ:(u*H+n)/y<=q)(hq0:0<=q)(hqH:q<=H)(h:H<=r):q=(u*H+n)/y:=by
 refine dig_stop hy hyp hr hQ ?_;have h1:q*y0<=H*(H-1):=Int.mul_le_mul hqH (by omega) h0 (by omega);have h2:H*H<=H*r:=Int.mul_le_mul_of_nonneg_left h (by omega);rw[Int.mul_sub]at h1;omega
theorem dig_rest{H u n y Q:Int}(hH:0<H)(hyp:0<y)(hn:0<=n)(hnH:n<H)(hu:0<=u)(huy:u<y)(hQ:Q=(u*H+n)/y):0<=Q/\Q<H/\0<=u*H+n-Q*y/\u*H+n-Q*y<y:=by
 have f:=Int.emod_add_mul_ediv (u*H+n) y;have f1:=Int.emod_nonneg (u*H+n) (show y≠0 by omega);have f2:=Int.emod_lt_of_pos (u*H+n) hyp;rw[<-hQ,Int.mul_comm y]at f;refine⟨?_,?_,by omega,by omega⟩
 ·rw[hQ];exact Int.ediv_nonneg (by have:=Int.mul_nonneg hu (Int.le_of_lt hH);omega) (by omega)
 ·have h3:Q*y<H*y:=by
   have h4:(u+1)*H<=y*H:=Int.mul_le_mul_of_nonneg_right (by omega) (by omega);rw[Int.add_mul,Int.one_mul,Int.mul_comm y]at h4;omega
  exact Int.lt_of_mul_lt_mul_right h3 (by omega)
theorem dig_two{H u n m y Q t R:Int}(hyp:0<y)(ht:t=u*H+n-Q*y)(hR:R=(t*H+m)/y):
 (u*(H*H)+(n*H+m))/y=Q*H+R/\(u*(H*H)+(n*H+m))%y=t*H+m-R*y:=by
 have e:u*(H*H)+(n*H+m)=(t*H+m)+y*(Q*H):=by rw[ht];grind
 have f:=Int.emod_add_mul_ediv (t*H+m) y;rw[<-hR]at f;rw[e,Int.add_mul_ediv_left _ _ (by omega),Int.add_mul_emod_self_left,<- hR];constructor
 ·omega
 ·rw[Int.mul_comm R];omega
theorem wrap_diff{W a b c t:Int}(h0:0<=t)(h1:t<W)(h:t=a+b-c):((a%W+b)%W-c%W)%W=t:=by
 rw[Int.sub_emod_emod]
 have e:((a%W+b)%W-c)%W=(a+b-c)%W:=by
  rw[<-Int.emod_sub_emod,Int.emod_emod_of_dvd _ (Int.dvd_refl W),Int.emod_add_emod,Int.emod_sub_emod]
 rw[e,<- h];exact Int.emod_eq_of_lt h0 h1
end Go.Big
end
section
namespace Go.Proofs.YthecibbmbnpegaaGreatDoor
open Go.Big Go.RowKit
theorem bd0_any(lo y:Int)(w:World)(h0:0<=lo)(h1:lo<18446744073709551616)(hy0:0<y)(hy1:y<18446744073709551616):
 Calls Tryz.prog 134 #[.int .u64 0,.int .u64 lo,.int .u64 y] w fun e w'=>e= .returned (.tuple #[.int .u64 (lo/y),.int .u64 (lo%y)])/\Fr [] w w':=by
 have hy2:(y==0)=false:=by rw[beq_eq_false_iff_ne];omega
 have q0:0<=lo/y:=Int.ediv_nonneg h0 (by omega);have q1:lo/y<18446744073709551616:=Int.lt_of_le_of_lt (Int.ediv_le_self _ h0) h1;have r0:0<=lo%y:=Int.emod_nonneg _ (by omega);have r1:lo%y<18446744073709551616:=by have:=Int.emod_lt_of_pos lo hy0;omega
 have e1:lo.tdiv y=lo/y:=Int.tdiv_eq_ediv_of_nonneg h0;have e2:lo.tmod y=lo%y:=Int.tmod_eq_emod_of_nonneg h0;go_enter Tryz.func134,Tryz.ntmps134;go_wp2_with fail;go_quiet (fail);go_wp2_with fail;go_ret2;exact⟨rfl,(Fr.refl _ _).drewN _⟩
def DigRel(u n y y1:Int)(g:Nat)(qv rv:Value)(wr:World)(w0:World):Prop:=
 ∃q r:Int,(u*4294967296+n)/y<=q/\q<=4294967297/\0<=q/\qv= .int .u64 q/\rv= .int .u64 r/\q*y1+r=u/\0<=r/\r<4294967296/\g=(4294967296-r).toNat/\w0=wr
theorem bitLen_top(y:Int)(h0:9223372036854775808<=y)(h1:y<18446744073709551616):Lib.bitLen y.toNat=64:=by
 have h:=isLen_word y (by omega) h1;have k:IsLen y 64:= .inr ⟨by omega,by simpa using h0,by simpa using h1⟩;exact h.unique k
theorem lz_top(y:Int)(w:World)(h0:9223372036854775808<=y)(h1:y<18446744073709551616):Calls Tryz.prog 140 #[.int .u64 y] w fun e w'=>e= .returned (.int .i64 0)/\w=w':=by
 have C:=κ (len64_any y w (by omega) h1);rw[bitLen_top y h0 h1]at C;go_enter Tryz.func140,Tryz.ntmps140;go_wp2_with (go_at_call 137;refine(Hid.out C).mono ?_;rintro e w' ⟨rfl,rfl⟩);go_ret;exact⟨rfl,rfl⟩
theorem bd1_any(u lo y:Int)(w:World)(hu0:0<u)(huy:u<y)(h0:0<=lo)(h1:lo<18446744073709551616)(hy0:9223372036854775808<=y)(hyW:y<18446744073709551616):
 Calls Tryz.prog 134 #[.int .u64 u,.int .u64 lo,.int .u64 y] w fun e w'=>e= .returned (.tuple #[.int .u64 ((u*18446744073709551616+lo)/y),.int .u64 ((u*18446744073709551616+lo)%y)])/\w=w':=by
 have C:=κ (lz_top y w hy0 hyW);obtain⟨y1,hy1⟩: ∃y1,y1=y/4294967296:=⟨_,rfl⟩;obtain⟨y0,hy0'⟩: ∃y0,y0=y%4294967296:=⟨_,rfl⟩;obtain⟨n,hn⟩: ∃n,n=lo/4294967296:=⟨_,rfl⟩;obtain⟨m,hm⟩: ∃m,m=lo%4294967296:=⟨_,rfl⟩;have hyd:y=y1*4294967296+y0:=by omega
 have hlod:lo=n*4294967296+m:=by omega
 have hy1b:2147483648<=y1/\y1<4294967296:=by omega
 obtain⟨hy1b,hy1c⟩:=hy1b;have hy0b:0<=y0/\y0<4294967296:=by omega
 obtain⟨hy0b,hy0c⟩:=hy0b;have hnb:0<=n/\n<4294967296:=by omega
 obtain⟨hnb,hnc⟩:=hnb;have hmb:0<=m/\m<4294967296:=by omega
 obtain⟨hmb,hmc⟩:=hmb;have e1:y/4294967296=y1:=hy1.symm;have e2:bits .and .u64 y 4294967295=y0:=by rw[hy0'];exact and_low32 y (by omega) hyW
 have e3:lo/4294967296=n:=hn.symm;have e4:bits .and .u64 lo 4294967295=m:=by rw[hm];exact and_low32 lo h0 h1
 have HY:=κ hyd;have HLO:=κ hlod;have HS:=κ (dig_start (H:=4294967296) (u:=u) (n:=n) (by omega) hyd hy0b hy0c (by omega) hnb hnc (by omega) huy)
 have hor:bits .or .u64 u 0=u:=by
  rw[u64_or u 0 (by omega) (by omega) (by omega) (by omega)];simp;omega
 obtain⟨q0,hq0⟩: ∃q0,q0=u/y1:=⟨_,rfl⟩;have eq1:u/y1=q0:=hq0.symm;have eq2:u.tdiv y1=q0:=by rw[Int.tdiv_eq_ediv_of_nonneg (by omega)];exact eq1
 have hS:=HS.out;rw[eq1]at hS;obtain⟨s1,s2,s3,s4,s5⟩:=hS;have eq3:0<=q0*y1:=by have:=Int.mul_nonneg s3 (show 0<=y1 by omega);omega
 obtain⟨r0,hr0⟩: ∃r0,r0=u-q0*y1:=⟨_,rfl⟩;have eq4:u-q0*y1=r0:=hr0.symm;rw[eq4]at s4 s5;have S1:=κ s1;have HR0:=κ hr0;have eq5:q0*y1<=u:=by omega
 have hyne:(y==0)=false:=by rw[beq_eq_false_iff_ne];omega
 have hune:(u==0)=false:=by rw[beq_eq_false_iff_ne];omega
 have hy1ne:(y1==0)=false:=by rw[beq_eq_false_iff_ne];omega
 have hlz:lo/18446744073709551616=0:=Int.ediv_eq_zero_of_lt h0 h1;obtain⟨Q,hQQ⟩: ∃Q,Q=(u*4294967296+n)/y:=⟨_,rfl⟩;have HQQ:=κ hQQ;obtain⟨Q0,Q1,Q2,Q3⟩:=dig_rest (H:=4294967296) (by omega) (by omega) hnb hnc (by omega) huy hQQ;obtain⟨t,ht⟩: ∃t,t=u*4294967296+n-Q*y:=⟨_,rfl⟩;rw[<-ht]at Q2 Q3;have ht0:0<=t:=Q2;have hty:t<y:=Q3
 have k1:IntKind.u64.wrap (IntKind.u64.wrap (IntKind.u64.wrap (u*4294967296)+n)-IntKind.u64.wrap (Q*y))=t:=by
  simp only[IntKind.wrap_u64];exact wrap_diff ht0 (by omega) ht
 obtain⟨a1,ha1⟩: ∃a1,IntKind.u64.wrap (u*4294967296)=a1:=⟨_,rfl⟩;rw[ha1]at k1;obtain⟨a2,ha2⟩: ∃a2,IntKind.u64.wrap (a1+n)=a2:=⟨_,rfl⟩;rw[ha2]at k1;obtain⟨a3,ha3⟩: ∃a3,IntKind.u64.wrap (Q*y)=a3:=⟨_,rfl⟩;rw[ha3]at k1;have HT:=κ (dig_start (H:=4294967296) (u:=t) (n:=m) (by omega) hyd hy0b hy0c (by omega) hmb hmc ht0 hty);obtain⟨p0,hp0⟩: ∃p0,p0=t/y1:=⟨_,rfl⟩;have fq1:t/y1=p0:=hp0.symm;have fq2:t.tdiv y1=p0:=by rw[Int.tdiv_eq_ediv_of_nonneg ht0];exact fq1
 have hT:=HT.out;rw[fq1]at hT;obtain⟨t1,t2,t3,t4,t5⟩:=hT;have fq3:0<=p0*y1:=Int.mul_nonneg t3 (by omega);obtain⟨r1,hr1'⟩: ∃r1,r1=t-p0*y1:=⟨_,rfl⟩;have fq4:t-p0*y1=r1:=hr1'.symm;rw[fq4]at t4 t5;have T1:=κ t1;have HR1:=κ hr1';have fq5:p0*y1<=t:=by omega
 obtain⟨R,hRR⟩: ∃R,R=(t*4294967296+m)/y:=⟨_,rfl⟩;have HR:=κ hRR;obtain⟨R0,R1,R2,R3⟩:=dig_rest (H:=4294967296) (by omega) (by omega) hmb hmc ht0 hty hRR;obtain⟨z,hz⟩: ∃z,z=t*4294967296+m-R*y:=⟨_,rfl⟩;rw[<-hz]at R2 R3
 have l1:IntKind.u64.wrap (IntKind.u64.wrap (IntKind.u64.wrap (t*4294967296)+m)-IntKind.u64.wrap (R*y))=z:=by
  simp only[IntKind.wrap_u64];exact wrap_diff R2 (by omega) hz
 obtain⟨b1,hb1⟩: ∃b1,IntKind.u64.wrap (t*4294967296)=b1:=⟨_,rfl⟩;rw[hb1]at l1;obtain⟨b2,hb2⟩: ∃b2,IntKind.u64.wrap (b1+m)=b2:=⟨_,rfl⟩;rw[hb2]at l1;obtain⟨b3,hb3⟩: ∃b3,IntKind.u64.wrap (R*y)=b3:=⟨_,rfl⟩;rw[hb3]at l1;have hfin:=dig_two (H:=4294967296) (by omega) ht hRR;have eW:u*(4294967296*4294967296)+(n*4294967296+m)=u*18446744073709551616+lo:=by omega
 rw[eW,<- hz]at hfin;rw[hfin.1,hfin.2];have hle:decide (y<=u)=false:=by simp;omega
 clear hyd hlod hy1 hy0' hn hm hq0 hr0 s1 hQQ Q2 Q3 ht hp0 t1 hr1' hRR hz hfin eW;go_enter Tryz.func134,Tryz.ntmps134
 go_wp2_with (first
  |(go_at_call 140;refine(Hid.out C).mono ?_;rintro e w' ⟨rfl,rfl⟩));go_loopg [15,16] (4294967296-r0).toNat (fun g qv rv wr=>DigRel u n y y1 g qv rv wr w);case atStart=>exact⟨q0,r0,S1.out,by omega,s3,rfl,rfl,by have:=HR0.out;omega,s4,by omega,rfl,rfl⟩
 case round=>
  clear eq1 eq2 eq3 eq4 eq5 S1 HR0 s2 s3 s4 s5;obtain⟨q,r,hq0,hq1,hq2,rfl,rfl,hqr,hr0,hr1,rfl,rfl⟩:=hrel;have HQ0:=κ hq0;have HQR:=κ hqr;clear hq0 hqr;by_cases hc:4294967296<=q\/4294967296*r+n<q*y0
  ·have hgo:=dig_go (H:=4294967296) (by omega) HY.out (by omega) hnb hnc (by omega) huy HQR.out hc
   have hqpos:1<=q:=by
    have:=Int.ediv_nonneg (show 0<=u*4294967296+n by omega) (show 0<=y by omega);omega
   have HGO:=κ hgo;have HQR2:=κ (show(q-1)*y1+(r+y1)=u by have:=HQR.out;rw[Int.sub_mul];omega);clear hgo;by_cases hb:4294967296<=r+y1
   ·have hQ:=dig_break (H:=4294967296) (by omega) HY.out (by omega) hy0b hy0c hnb HQR2.out HGO.out (by omega) (by omega) hb
    rw[<-HQQ.out]at hQ;obtain rfl:q=Q+1:=by omega
    clear hQ HQR HQR2 HGO HQ0;by_cases hq4:4294967296<=Q+1
    ·go_wp2_with fail
     go_loopg [18,16] (4294967296-r1).toNat (fun g qv rv wr=>DigRel t m y y1 g qv rv wr w);case atStart=>exact⟨p0,r1,T1.out,by omega,t3,rfl,rfl,by have:=HR1.out;omega,t4,by omega,rfl,rfl⟩
     case round=>
      obtain⟨q,r,hq0,hq1,hq2,rfl,rfl,hqr,hr0,hr1,rfl,rfl⟩:=hrel;have HQ0:=κ hq0;have HQR:=κ hqr;clear hq0 hqr;by_cases hc:4294967296<=q\/4294967296*r+m<q*y0
      ·have hgo:=dig_go (H:=4294967296) (by omega) HY.out (by omega) hmb hmc ht0 hty HQR.out hc
       have hqpos:1<=q:=by
        have:=Int.ediv_nonneg (show 0<=t*4294967296+m by omega) (show 0<=y by omega);omega
       have HGO:=κ hgo;have HQR2:=κ (show(q-1)*y1+(r+y1)=t by have:=HQR.out;rw[Int.sub_mul];omega);clear hgo;by_cases hb:4294967296<=r+y1
       ·have hQ:=dig_break (H:=4294967296) (by omega) HY.out (by omega) hy0b hy0c hmb HQR2.out HGO.out (by omega) (by omega) hb
        rw[<-HR.out]at hQ;obtain rfl:q=R+1:=by omega
        clear hQ;by_cases hq4:4294967296<=R+1
        ·go_wp2_with fail
         go_ret2;exact⟨rfl,rfl⟩
        ·have hpr:4294967296*r+m<(R+1)*y0:=by omega
         have hpr0:0<=(R+1)*y0:=Int.mul_nonneg hq2 hy0b;have hpr1:(R+1)*y0<18446744073709551616:=by have:=Int.mul_le_mul (show R+1<=4294967295 by omega) (show y0<=4294967295 by omega) hy0b (by omega);omega
         go_wp2_with fail;go_ret2;exact⟨rfl,rfl⟩
       ·by_cases hq4:4294967296<=q
        ·go_wp2_with fail
         go_roundg (4294967296-(r+y1)).toNat;case measure=>omega
         case rel=>exact⟨q-1,r+y1,HGO.out,by omega,by omega,rfl,rfl,HQR2.out,by omega,by omega,rfl,rfl⟩
        ·have hpr:4294967296*r+m<q*y0:=by omega
         have hpr0:0<=q*y0:=Int.mul_nonneg hq2 hy0b;have hpr1:q*y0<18446744073709551616:=by have:=Int.mul_le_mul (show q<=4294967295 by omega) (show y0<=4294967295 by omega) hy0b (by omega);omega
         go_wp2_with fail;go_roundg (4294967296-(r+y1)).toNat;case measure=>omega
         case rel=>exact⟨q-1,r+y1,HGO.out,by omega,by omega,rfl,rfl,HQR2.out,by omega,by omega,rfl,rfl⟩
      ·have hqH:q<4294967296:=by omega
       have hprod:q*y0<=4294967296*r+m:=by omega
       have hprod0:0<=q*y0:=Int.mul_nonneg hq2 hy0b;have hprod1:q*y0<18446744073709551616:=by omega
       have hQ:=dig_stop (H:=4294967296) HY.out (by omega) HQR.out HQ0.out hprod;rw[<-HR.out]at hQ;obtain rfl:q=R:=hQ;clear hc;go_wp2_with fail;go_ret2;exact⟨rfl,rfl⟩
    ·have hpr:4294967296*r+n<(Q+1)*y0:=by omega
     have hpr0:0<=(Q+1)*y0:=Int.mul_nonneg hq2 hy0b;have hpr1:(Q+1)*y0<18446744073709551616:=by have:=Int.mul_le_mul (show Q+1<=4294967295 by omega) (show y0<=4294967295 by omega) hy0b (by omega);omega
     go_wp2_with fail;go_loopg [18,16] (4294967296-r1).toNat (fun g qv rv wr=>DigRel t m y y1 g qv rv wr w);case atStart=>exact⟨p0,r1,T1.out,by omega,t3,rfl,rfl,by have:=HR1.out;omega,t4,by omega,rfl,rfl⟩
     case round=>
      obtain⟨q,r,hq0,hq1,hq2,rfl,rfl,hqr,hr0,hr1,rfl,rfl⟩:=hrel;have HQ0:=κ hq0;have HQR:=κ hqr;clear hq0 hqr;by_cases hc:4294967296<=q\/4294967296*r+m<q*y0
      ·have hgo:=dig_go (H:=4294967296) (by omega) HY.out (by omega) hmb hmc ht0 hty HQR.out hc
       have hqpos:1<=q:=by
        have:=Int.ediv_nonneg (show 0<=t*4294967296+m by omega) (show 0<=y by omega);omega
       have HGO:=κ hgo;have HQR2:=κ (show(q-1)*y1+(r+y1)=t by have:=HQR.out;rw[Int.sub_mul];omega);clear hgo;by_cases hb:4294967296<=r+y1
       ·have hQ:=dig_break (H:=4294967296) (by omega) HY.out (by omega) hy0b hy0c hmb HQR2.out HGO.out (by omega) (by omega) hb
        rw[<-HR.out]at hQ;obtain rfl:q=R+1:=by omega
        clear hQ;by_cases hq4:4294967296<=R+1
        ·go_wp2_with fail
         go_ret2;exact⟨rfl,rfl⟩
        ·have hpr:4294967296*r+m<(R+1)*y0:=by omega
         have hpr0:0<=(R+1)*y0:=Int.mul_nonneg hq2 hy0b;have hpr1:(R+1)*y0<18446744073709551616:=by have:=Int.mul_le_mul (show R+1<=4294967295 by omega) (show y0<=4294967295 by omega) hy0b (by omega);omega
         go_wp2_with fail;go_ret2;exact⟨rfl,rfl⟩
       ·by_cases hq4:4294967296<=q
        ·go_wp2_with fail
         go_roundg (4294967296-(r+y1)).toNat;case measure=>omega
         case rel=>exact⟨q-1,r+y1,HGO.out,by omega,by omega,rfl,rfl,HQR2.out,by omega,by omega,rfl,rfl⟩
        ·have hpr:4294967296*r+m<q*y0:=by omega
         have hpr0:0<=q*y0:=Int.mul_nonneg hq2 hy0b;have hpr1:q*y0<18446744073709551616:=by have:=Int.mul_le_mul (show q<=4294967295 by omega) (show y0<=4294967295 by omega) hy0b (by omega);omega
         go_wp2_with fail;go_roundg (4294967296-(r+y1)).toNat;case measure=>omega
         case rel=>exact⟨q-1,r+y1,HGO.out,by omega,by omega,rfl,rfl,HQR2.out,by omega,by omega,rfl,rfl⟩
      ·have hqH:q<4294967296:=by omega
       have hprod:q*y0<=4294967296*r+m:=by omega
       have hprod0:0<=q*y0:=Int.mul_nonneg hq2 hy0b;have hprod1:q*y0<18446744073709551616:=by omega
       have hQ:=dig_stop (H:=4294967296) HY.out (by omega) HQR.out HQ0.out hprod;rw[<-HR.out]at hQ;obtain rfl:q=R:=hQ;clear hc;go_wp2_with fail;go_ret2;exact⟨rfl,rfl⟩
   ·by_cases hq4:4294967296<=q
    ·go_wp2_with fail
     go_roundg (4294967296-(r+y1)).toNat;case measure=>omega
     case rel=>exact⟨q-1,r+y1,HGO.out,by omega,by omega,rfl,rfl,HQR2.out,by omega,by omega,rfl,rfl⟩
    ·have hpr:4294967296*r+n<q*y0:=by omega
     have hpr0:0<=q*y0:=Int.mul_nonneg hq2 hy0b;have hpr1:q*y0<18446744073709551616:=by have:=Int.mul_le_mul (show q<=4294967295 by omega) (show y0<=4294967295 by omega) hy0b (by omega);omega
     go_wp2_with fail;go_roundg (4294967296-(r+y1)).toNat;case measure=>omega
     case rel=>exact⟨q-1,r+y1,HGO.out,by omega,by omega,rfl,rfl,HQR2.out,by omega,by omega,rfl,rfl⟩
  ·have hqH:q<4294967296:=by omega
   have hprod:q*y0<=4294967296*r+n:=by omega
   have hprod0:0<=q*y0:=Int.mul_nonneg hq2 hy0b;have hprod1:q*y0<18446744073709551616:=by omega
   have hQ:=dig_stop (H:=4294967296) HY.out (by omega) HQR.out HQ0.out hprod;rw[<-HQQ.out]at hQ;obtain rfl:q=Q:=hQ;clear hc HQR HQ0;go_wp2_with fail;clear hprod hprod0 hprod1;go_loopg [18,16] (4294967296-r1).toNat (fun g qv rv wr=>DigRel t m y y1 g qv rv wr w);case atStart=>exact⟨p0,r1,T1.out,by omega,t3,rfl,rfl,by have:=HR1.out;omega,t4,by omega,rfl,rfl⟩
   case round=>
    obtain⟨q,r,hq0,hq1,hq2,rfl,rfl,hqr,hr0,hr1,rfl,rfl⟩:=hrel;have HQ0:=κ hq0;have HQR:=κ hqr;clear hq0 hqr;by_cases hc:4294967296<=q\/4294967296*r+m<q*y0
    ·have hgo:=dig_go (H:=4294967296) (by omega) HY.out (by omega) hmb hmc ht0 hty HQR.out hc
     have hqpos:1<=q:=by
      have:=Int.ediv_nonneg (show 0<=t*4294967296+m by omega) (show 0<=y by omega);omega
     have HGO:=κ hgo;have HQR2:=κ (show(q-1)*y1+(r+y1)=t by have:=HQR.out;rw[Int.sub_mul];omega);clear hgo;by_cases hb:4294967296<=r+y1
     ·have hQ:=dig_break (H:=4294967296) (by omega) HY.out (by omega) hy0b hy0c hmb HQR2.out HGO.out (by omega) (by omega) hb
      rw[<-HR.out]at hQ;obtain rfl:q=R+1:=by omega
      clear hQ;by_cases hq4:4294967296<=R+1
      ·go_wp2_with fail
       go_ret2;exact⟨rfl,rfl⟩
      ·have hpr:4294967296*r+m<(R+1)*y0:=by omega
       have hpr0:0<=(R+1)*y0:=Int.mul_nonneg hq2 hy0b;have hpr1:(R+1)*y0<18446744073709551616:=by have:=Int.mul_le_mul (show R+1<=4294967295 by omega) (show y0<=4294967295 by omega) hy0b (by omega);omega
       go_wp2_with fail;go_ret2;exact⟨rfl,rfl⟩
     ·by_cases hq4:4294967296<=q
      ·go_wp2_with fail
       go_roundg (4294967296-(r+y1)).toNat;case measure=>omega
       case rel=>exact⟨q-1,r+y1,HGO.out,by omega,by omega,rfl,rfl,HQR2.out,by omega,by omega,rfl,rfl⟩
      ·have hpr:4294967296*r+m<q*y0:=by omega
       have hpr0:0<=q*y0:=Int.mul_nonneg hq2 hy0b;have hpr1:q*y0<18446744073709551616:=by have:=Int.mul_le_mul (show q<=4294967295 by omega) (show y0<=4294967295 by omega) hy0b (by omega);omega
       go_wp2_with fail;go_roundg (4294967296-(r+y1)).toNat;case measure=>omega
       case rel=>exact⟨q-1,r+y1,HGO.out,by omega,by omega,rfl,rfl,HQR2.out,by omega,by omega,rfl,rfl⟩
    ·have hqH:q<4294967296:=by omega
     have hprod:q*y0<=4294967296*r+m:=by omega
     have hprod0:0<=q*y0:=Int.mul_nonneg hq2 hy0b;have hprod1:q*y0<18446744073709551616:=by omega
     have hQ:=dig_stop (H:=4294967296) HY.out (by omega) HQR.out HQ0.out hprod;rw[<-HR.out]at hQ;obtain rfl:q=R:=hQ;clear hc;go_wp2_with fail;go_ret2;exact⟨rfl,rfl⟩
end Go.Proofs.YthecibbmbnpegaaGreatDoor
end
section
namespace Go.Proofs.YthecibbmbnpegaaGreatDoor
open Go.Big Go.RowKit
theorem bitsDiv_any(u lo y:Int)(w:World)(hu0:0<=u)(huy:u<y)(h0:0<=lo)(h1:lo<18446744073709551616)(hy0:9223372036854775808<=y)(hyW:y<18446744073709551616):
 Calls Tryz.prog 109 #[.int .u64 u,.int .u64 lo,.int .u64 y] w fun e w'=>e= .returned (.tuple #[.int .u64 ((u*18446744073709551616+lo)/y),.int .u64 ((u*18446744073709551616+lo)%y)])/\Fr [] w w':=by
 have C:Hid (Calls Tryz.prog 134 #[.int .u64 u,.int .u64 lo,.int .u64 y] w fun e w'=>e= .returned (.tuple #[.int .u64 ((u*18446744073709551616+lo)/y),.int .u64 ((u*18446744073709551616+lo)%y)])/\Fr [] w w'):=by
  refine κ ?_;by_cases h:u=0
  ·subst h
   rw[Int.zero_mul,Int.zero_add];exact bd0_any lo y w h0 h1 (by omega) hyW
  ·exact(bd1_any u lo y w (by omega) huy h0 h1 hy0 hyW).mono fun e w' ⟨h,h'⟩=>⟨h,h'▸Fr.refl _ _⟩
 obtain⟨q,hq⟩: ∃q,q=(u*18446744073709551616+lo)/y:=⟨_,rfl⟩;obtain⟨r,hr⟩: ∃r,r=(u*18446744073709551616+lo)%y:=⟨_,rfl⟩;rw[<-hq,<- hr]at C ⊢
 clear hq hr;go_enter Tryz.func109,Tryz.ntmps109;go_wp2_with (go_at_call 134;refine(Hid.out C).mono ?_;rintro e w1 ⟨rfl,f1⟩);go_ret2;exact⟨rfl,f1⟩
theorem bitsDiv0_any(lo y:Int)(w:World)(h0:0<=lo)(h1:lo<18446744073709551616)(hy0:0<y)(hyW:y<18446744073709551616):
 Calls Tryz.prog 109 #[.int .u64 0,.int .u64 lo,.int .u64 y] w fun e w'=>e= .returned (.tuple #[.int .u64 (lo/y),.int .u64 (lo%y)])/\Fr [] w w':=by
 have C:=κ (bd0_any lo y w h0 h1 hy0 hyW);obtain⟨q,hq⟩: ∃q,q=lo/y:=⟨_,rfl⟩;obtain⟨r,hr⟩: ∃r,r=lo%y:=⟨_,rfl⟩;rw[<-hq,<- hr]at C ⊢
 clear hq hr;go_enter Tryz.func109,Tryz.ntmps109;go_wp2_with (go_at_call 134;refine(Hid.out C).mono ?_;rintro e w1 ⟨rfl,f1⟩);go_ret2;exact⟨rfl,f1⟩
def rcp(u:Int):Int:=340282366920938463463374607431768211455/u-18446744073709551616
theorem rcp_bounds{u:Int}(h0:9223372036854775808<=u)(h1:u<18446744073709551616):0<=rcp u/\rcp u<18446744073709551616/\
 (rcp u+18446744073709551616)*u<=340282366920938463463374607431768211455/\340282366920938463463374607431768211456<=(rcp u+18446744073709551616)*u+u:=by
 have e:=Int.emod_add_mul_ediv 340282366920938463463374607431768211455 u;have e1:=Int.emod_nonneg 340282366920938463463374607431768211455 (show u≠0 by omega);have e2:=Int.emod_lt_of_pos 340282366920938463463374607431768211455 (show 0<u by omega);unfold rcp;obtain⟨v,hv⟩: ∃v,v=340282366920938463463374607431768211455/u:=⟨_,rfl⟩;rw[<-hv]at e ⊢
 rw[Int.sub_add_cancel,Int.mul_comm v];refine⟨?_,?_,by omega,by omega⟩
 ·have:18446744073709551616<=v:=by
   rw[hv];exact Int.le_ediv_of_mul_le (by omega) (by omega)
  omega
 ·have:v<36893488147419103232:=by
   rw[hv];exact Int.ediv_lt_of_lt_mul (by omega) (by omega)
  omega
theorem rcp_div{u:Int}(h0:9223372036854775808<=u):((18446744073709551615-u)*18446744073709551616+18446744073709551615)/u=rcp u:=by
 unfold rcp;have e:(18446744073709551615-u)*18446744073709551616+18446744073709551615=340282366920938463463374607431768211455+u*(-18446744073709551616):=by omega
 rw[e,Int.add_mul_ediv_left _ _ (by omega)];omega
theorem norm_word{y:Int}{L:Nat}(h:IsLen y L)(h0:0<y)(hL:L<=64):9223372036854775808<=y*2^(64-L)/\y*2^(64-L)<18446744073709551616/\1<=L:=by
 rcases h with⟨h,_⟩|⟨h1,h2,h3⟩
 ·omega
 ·have hp:=pow_pos_ (B:=2) (by omega) (64-L)
  have e1:(2:Int)^(L-1)*2^(64-L)=9223372036854775808:=by rw[<-Int.pow_add,show L-1+(64-L)=63 by omega];rfl
  have e2:(2:Int)^L*2^(64-L)=18446744073709551616:=by rw[<-Int.pow_add,show L+(64-L)=64 by omega];rfl
  have g1:=Int.mul_le_mul_of_nonneg_right h2 (Int.le_of_lt hp);have g2:=Int.mul_lt_mul_of_pos_right h3 hp;exact⟨by omega,by omega,h1⟩
theorem nat_xor_ones(n:Nat)(h:n<2^64):(2^64-1) ^^^ n=2^64-1-n:=by
 apply Nat.eq_of_testBit_eq;intro i;rw[show 2^64-1-n=2^64-(n+1)by omega,Nat.testBit_two_pow_sub_succ h,Nat.testBit_xor,Nat.testBit_two_pow_sub_one];by_cases hi:i<64
 ·simp[hi]
 ·have:n.testBit i=false:=Nat.testBit_lt_two_pow (Nat.lt_of_lt_of_le h (Nat.pow_le_pow_right (by omega) (by omega)))
  simp[hi,this]
theorem word_not(u:Int)(h0:0<=u)(h1:u<18446744073709551616):bits .xor .u64 (if IntKind.u64.signed=true then -1 else IntKind.u64.max) u=18446744073709551615-u:=by
 obtain⟨n,rfl⟩:=Int.eq_ofNat_of_zero_le h0;have e:(if IntKind.u64.signed=true then(-1:Int)else IntKind.u64.max)=((2^64-1:Nat):Int):=by decide
 rw[e,u64_xor_nat _ _ (by decide) (by omega),nat_xor_ones n (by omega)];omega
theorem recip_any(y:Int)(L:Nat)(w:World)(hy0:0<y)(hy1:y<18446744073709551616)(hL:IsLen y L):
 Calls Tryz.prog 110 #[.int .u64 y] w fun e w'=>e= .returned (.int .u64 (rcp (y*2^(64-L))))/\Fr [] w w':=by
 have CN:=κ (nlz_any y w (by omega) hy1)
 have hL64:L<=64:=by
  have:=bitLen_le64 y (by omega) hy1;rw[(isLen_word y (by omega) hy1).unique hL]at this;exact this
 obtain⟨n1,n2,n3⟩:=norm_word hL hy0 hL64;obtain⟨u,hu⟩: ∃u,u=y*2^(64-L):=⟨_,rfl⟩;rw[<-hu]at n1 n2 ⊢
 have C:=κ (fun W=>bitsDiv_any (18446744073709551615-u) 18446744073709551615 u W (by omega) (by omega) (by omega) (by omega) n1 n2);simp only[rcp_div n1]at C;obtain⟨rr,hrr⟩: ∃rr,rr=((18446744073709551615-u)*18446744073709551616+18446744073709551615)%u:=⟨_,rfl⟩;simp only[<-hrr]at C;obtain⟨rc,hrc⟩: ∃rc,rc=rcp u:=⟨_,rfl⟩;simp only[<-hrc]at C ⊢
 have hsub:(64:Int)-(L:Int)=((64-L:Nat):Int):=by omega
 have hmin:min (64-L) 64=64-L:=by omega
 have hw:IntKind.u64.wrap (y*2^(64-L))=u:=by rw[<-hu,IntKind.wrap_u64];omega
 have hwu:y*2^(64-L)=u:=hu.symm;have HL:=κ hL;obtain⟨hi,hhi⟩: ∃hi,hi=18446744073709551615-u:=⟨_,rfl⟩;have hx:=word_not u (by omega) n2;rw[<-hhi]at hx;simp only[<-hhi]at C;clear hu hrr hrc hL hhi;go_enter Tryz.func110,Tryz.ntmps110
 go_wp2_with (first
  |(go_at_call 69;refine(Hid.out CN).mono ?_;rintro e w1 ⟨⟨L',rfl,hl,hl9⟩,rfl⟩;obtain rfl:L'=L:=hl.unique HL.out)
  |(go_at_call 109;refine(C.out _).mono ?_;rintro e w2 ⟨rfl,f2⟩));go_ret;exact⟨rfl,f2⟩
theorem dww_core{d m x1 x0 A1 A0 c1 g0 q c2 B1 B0 r0 b r1 b2:Int}(hd0:9223372036854775808<=d)(hdW:d<18446744073709551616)(hm0:0<=m)(hmW:m<18446744073709551616)
 (hm1:(m+18446744073709551616)*d<=340282366920938463463374607431768211455)(hm2:340282366920938463463374607431768211456<=(m+18446744073709551616)*d+d)
 (h1:0<=x1)(h1d:x1<d)(h0:0<=x0)(h0W:x0<18446744073709551616)
 (hA:A1*18446744073709551616+A0=m*x1)(hA0:0<=A0/\A0<18446744073709551616)(hc1:A0+x0=g0+18446744073709551616*c1)(hg0:0<=g0/\g0<18446744073709551616)
 (hq:A1+x1+c1=q+18446744073709551616*c2)(hq0:0<=q/\q<18446744073709551616)(hc2:0<=c2)
 (hB:B1*18446744073709551616+B0=d*q)(hr0:x0-B0=r0-18446744073709551616*b)(hr0b:0<=r0/\r0<18446744073709551616)(hr1:x1-B1-b=r1-18446744073709551616*b2)(hr1b:0<=r1/\r1<18446744073709551616)(hb2:0<=b2):
 x1*18446744073709551616+x0=d*q+(r1*18446744073709551616+r0)/\(r1=0\/r1=1)/\r1*18446744073709551616+r0<18446744073709551616+d:=by
 have hv:(m+18446744073709551616)*d=18446744073709551616*18446744073709551616-(340282366920938463463374607431768211456-(m+18446744073709551616)*d):=by omega
 have hsum:(m+18446744073709551616)*x1+x0=(q+18446744073709551616*c2)*18446744073709551616+g0:=by
  rw[Int.add_mul];omega
 obtain⟨g1,g2⟩:=guess_rest (W:=18446744073709551616) (d:=d) (v:=m+18446744073709551616) (by omega) (by omega) (by omega) (by omega) hv h1 h1d h0 h0W hg0.1 hg0.2 hsum
 have hc20:c2=0:=by
  rcases(show c2=0\/1<=c2 by omega)with h|h
  ·exact h
  ·exfalso
   have k1:d*18446744073709551616<=d*(q+18446744073709551616*c2):=Int.mul_le_mul_of_nonneg_left (by omega) (by omega);have k2:(x1+1)*18446744073709551616<=d*18446744073709551616:=by omega
   omega
 subst hc20;rw[Int.mul_zero,Int.add_zero]at g1 g2
 have hb20:b2=0:=by
  rcases(show b2=0\/1<=b2 by omega)with h|h
  ·exact h
  ·exfalso;omega
 subst hb20;refine⟨by omega,by omega,by omega⟩
theorem dww_scale{x1 x0 y s:Int}(P Q:Int)(hP:0<P)(hPQ:P*Q=18446744073709551616)(h1:0<=x1)(h1y:x1<y)(h0:0<=x0)(h0W:x0<18446744073709551616)(hQ:0<Q):
 (x1*P+x0/Q)*18446744073709551616+(x0*P)%18446744073709551616=(x1*18446744073709551616+x0)*P/\x1*P+x0/Q<y*P/\0<=x1*P+x0/Q:=by
 have e:=Int.emod_add_mul_ediv (x0*P) 18446744073709551616
 have e2:x0*P/18446744073709551616=x0/Q:=by
  rw[<-hPQ,Int.mul_comm x0,Int.mul_ediv_mul_of_pos _ _ hP]
 rw[e2]at e;have e3:x0/Q<P:=Int.ediv_lt_of_lt_mul hQ (by rw[hPQ];exact h0W);have e4:=Int.ediv_nonneg h0 (Int.le_of_lt hQ);have e5:(x1+1)*P<=y*P:=Int.mul_le_mul_of_nonneg_right (by omega) (by omega);have e6:=Int.mul_nonneg h1 (Int.le_of_lt hP);rw[Int.add_mul,Int.one_mul]at e5;refine⟨by rw[Int.add_mul (x1*18446744073709551616)];grind,by omega,by omega⟩
theorem dww_s0(X1 X0 D m A1 A0 c1 g0 q c2 B1 B0 r0 b r1 b2:Int)(w:World)
 (hX1:0<=X1)(hX1W:X1<18446744073709551616)(hX0:0<=X0)(hX0W:X0<18446744073709551616)(hm0:0<=m)(hmW:m<18446744073709551616)(hD0:9223372036854775808<=D)(hDW:D<18446744073709551616)
 (CM1:Hid (∀W,Calls Tryz.prog 131 #[.int .u64 m,.int .u64 X1] W fun e w'=>e= .returned (.tuple #[.int .u64 A1,.int .u64 A0])/\W=w'))
 (CA1:Hid (∀W,Calls Tryz.prog 74 #[.int .u64 A0,.int .u64 X0,.int .u64 0] W fun e w'=>e= .returned (.tuple #[.int .u64 g0,.int .u64 c1])/\W=w'))
 (CA2:Hid (∀W,Calls Tryz.prog 74 #[.int .u64 A1,.int .u64 X1,.int .u64 c1] W fun e w'=>e= .returned (.tuple #[.int .u64 q,.int .u64 c2])/\W=w'))
 (CM2:Hid (∀W,Calls Tryz.prog 131 #[.int .u64 D,.int .u64 q] W fun e w'=>e= .returned (.tuple #[.int .u64 B1,.int .u64 B0])/\W=w'))
 (CS1:Hid (∀W,Calls Tryz.prog 106 #[.int .u64 X0,.int .u64 B0,.int .u64 0] W fun e w'=>e= .returned (.tuple #[.int .u64 r0,.int .u64 b])/\W=w'))
 (CS2:Hid (∀W,Calls Tryz.prog 106 #[.int .u64 X1,.int .u64 B1,.int .u64 b] W fun e w'=>e= .returned (.tuple #[.int .u64 r1,.int .u64 b2])/\W=w'))
 (hr0:0<=r0)(hr0W:r0<18446744073709551616)(hq0:0<=q)(hqW:q<18446744073709551616)(hr1:r1=0\/r1=1)
 (Rn:Int)(Qn:Int)
 (K0:Hid (r1=1->r0<D))
 (K1:Hid (r1=0->r0<D->q=Qn/\r0=Rn))
 (K2:Hid (r1=0->D<=r0->q+1=Qn/\q+1<18446744073709551616/\r0-D=Rn))
 (K3:Hid (r1=1->r0+18446744073709551616-D<D->q+1=Qn/\r0+18446744073709551616-D=Rn))
 (K4:Hid (r1=1->D<=r0+18446744073709551616-D->q+2=Qn/\q+2<18446744073709551616/\r0+18446744073709551616-D-D=Rn))
 (hQn:Qn<18446744073709551616)
 (CN:Hid (Calls Tryz.prog 69 #[.int .u64 D] w fun e w'=>e= .returned (.int .u64 0)/\w=w')):
 Calls Tryz.prog 111 #[.int .u64 X1,.int .u64 X0,.int .u64 D,.int .u64 m] w fun e w'=>e= .returned (.tuple #[.int .u64 Qn,.int .u64 Rn])/\w=w':=by
 have M1:True:=trivial;have M2:True:=trivial;have M3:True:=trivial;rcases hr1 with rfl|rfl
 ·by_cases hc:D<=r0
  ·obtain⟨hk1,hk2,hk3⟩:=K2.out rfl hc
   go_enter Tryz.func111,Tryz.ntmps111
   go_wp2_with (first
    |(go_at_call 69;refine(CN.out).mono ?_;rintro e w1 ⟨rfl,rfl⟩)
    |(go_at_call 131;clear M1;refine(CM1.out _).mono ?_;rintro e w1 ⟨rfl,rfl⟩)
    |(go_at_call 131;refine(CM2.out _).mono ?_;rintro e w1 ⟨rfl,rfl⟩)
    |(go_at_call 74;clear M2;refine(CA1.out _).mono ?_;rintro e w1 ⟨rfl,rfl⟩)
    |(go_at_call 74;refine(CA2.out _).mono ?_;rintro e w1 ⟨rfl,rfl⟩)
    |(go_at_call 106;clear M3;refine(CS1.out _).mono ?_;rintro e w1 ⟨rfl,rfl⟩)
    |(go_at_call 106;refine(CS2.out _).mono ?_;rintro e w1 ⟨rfl,rfl⟩));go_ret2;exact⟨rfl,rfl⟩
  ·obtain⟨rfl,rfl⟩:=K1.out rfl (by omega)
   go_enter Tryz.func111,Tryz.ntmps111
   go_wp2_with (first
    |(go_at_call 69;refine(CN.out).mono ?_;rintro e w1 ⟨rfl,rfl⟩)
    |(go_at_call 131;clear M1;refine(CM1.out _).mono ?_;rintro e w1 ⟨rfl,rfl⟩)
    |(go_at_call 131;refine(CM2.out _).mono ?_;rintro e w1 ⟨rfl,rfl⟩)
    |(go_at_call 74;clear M2;refine(CA1.out _).mono ?_;rintro e w1 ⟨rfl,rfl⟩)
    |(go_at_call 74;refine(CA2.out _).mono ?_;rintro e w1 ⟨rfl,rfl⟩)
    |(go_at_call 106;clear M3;refine(CS1.out _).mono ?_;rintro e w1 ⟨rfl,rfl⟩)
    |(go_at_call 106;refine(CS2.out _).mono ?_;rintro e w1 ⟨rfl,rfl⟩));go_ret2;exact⟨rfl,rfl⟩
 ·have hw:IntKind.u64.wrap (r0-D)=r0+18446744073709551616-D:=by rw[IntKind.wrap_u64];have:=K0.out rfl;omega
  obtain⟨s1,hs1⟩: ∃s1,s1=r0+18446744073709551616-D:=⟨_,rfl⟩;have K3':=κ (K3.out rfl);have K4':=κ (K4.out rfl);have k0:=K0.out rfl;have hs10:0<=s1/\s1<18446744073709551616:=by omega
  rw[<-hs1]at hw K3' K4';clear hs1 K1 K2 K3 K4 K0;obtain⟨hs10,hs11⟩:=hs10;by_cases hc:D<=s1
  ·obtain⟨hk1,hk2,hk3⟩:=K4'.out hc
   have hq2:q+1+1=Qn:=by omega
   have hq1:q+1<18446744073709551616:=by omega
   clear hk1;go_enter Tryz.func111,Tryz.ntmps111
   go_wp2_with (first
    |(go_at_call 69;refine(CN.out).mono ?_;rintro e w1 ⟨rfl,rfl⟩)
    |(go_at_call 131;clear M1;refine(CM1.out _).mono ?_;rintro e w1 ⟨rfl,rfl⟩)
    |(go_at_call 131;refine(CM2.out _).mono ?_;rintro e w1 ⟨rfl,rfl⟩)
    |(go_at_call 74;clear M2;refine(CA1.out _).mono ?_;rintro e w1 ⟨rfl,rfl⟩)
    |(go_at_call 74;refine(CA2.out _).mono ?_;rintro e w1 ⟨rfl,rfl⟩)
    |(go_at_call 106;clear M3;refine(CS1.out _).mono ?_;rintro e w1 ⟨rfl,rfl⟩)
    |(go_at_call 106;refine(CS2.out _).mono ?_;rintro e w1 ⟨rfl,rfl⟩));go_ret2;exact⟨rfl,rfl⟩
  ·obtain⟨hk1,hk3⟩:=K3'.out (by omega)
   have hq1:q+1<18446744073709551616:=by omega
   go_enter Tryz.func111,Tryz.ntmps111
   go_wp2_with (first
    |(go_at_call 69;refine(CN.out).mono ?_;rintro e w1 ⟨rfl,rfl⟩)
    |(go_at_call 131;clear M1;refine(CM1.out _).mono ?_;rintro e w1 ⟨rfl,rfl⟩)
    |(go_at_call 131;refine(CM2.out _).mono ?_;rintro e w1 ⟨rfl,rfl⟩)
    |(go_at_call 74;clear M2;refine(CA1.out _).mono ?_;rintro e w1 ⟨rfl,rfl⟩)
    |(go_at_call 74;refine(CA2.out _).mono ?_;rintro e w1 ⟨rfl,rfl⟩)
    |(go_at_call 106;clear M3;refine(CS1.out _).mono ?_;rintro e w1 ⟨rfl,rfl⟩)
    |(go_at_call 106;refine(CS2.out _).mono ?_;rintro e w1 ⟨rfl,rfl⟩));go_ret2;exact⟨rfl,rfl⟩
theorem dww_s1(X1 X0 D m A1 A0 c1 g0 q c2 B1 B0 r0 b r1 b2:Int)(w:World)
 (hX1:0<=X1)(hX1W:X1<18446744073709551616)(hX0:0<=X0)(hX0W:X0<18446744073709551616)(hm0:0<=m)(hmW:m<18446744073709551616)(hD0:9223372036854775808<=D)(hDW:D<18446744073709551616)
 (CM1:Hid (∀W,Calls Tryz.prog 131 #[.int .u64 m,.int .u64 X1] W fun e w'=>e= .returned (.tuple #[.int .u64 A1,.int .u64 A0])/\W=w'))
 (CA1:Hid (∀W,Calls Tryz.prog 74 #[.int .u64 A0,.int .u64 X0,.int .u64 0] W fun e w'=>e= .returned (.tuple #[.int .u64 g0,.int .u64 c1])/\W=w'))
 (CA2:Hid (∀W,Calls Tryz.prog 74 #[.int .u64 A1,.int .u64 X1,.int .u64 c1] W fun e w'=>e= .returned (.tuple #[.int .u64 q,.int .u64 c2])/\W=w'))
 (CM2:Hid (∀W,Calls Tryz.prog 131 #[.int .u64 D,.int .u64 q] W fun e w'=>e= .returned (.tuple #[.int .u64 B1,.int .u64 B0])/\W=w'))
 (CS1:Hid (∀W,Calls Tryz.prog 106 #[.int .u64 X0,.int .u64 B0,.int .u64 0] W fun e w'=>e= .returned (.tuple #[.int .u64 r0,.int .u64 b])/\W=w'))
 (CS2:Hid (∀W,Calls Tryz.prog 106 #[.int .u64 X1,.int .u64 B1,.int .u64 b] W fun e w'=>e= .returned (.tuple #[.int .u64 r1,.int .u64 b2])/\W=w'))
 (hr0:0<=r0)(hr0W:r0<18446744073709551616)(hq0:0<=q)(hqW:q<18446744073709551616)(hr1:r1=0\/r1=1)
 (Rn:Int)(Qn:Int)(P Q2 a bb x1 x0 y:Int)(S:Nat)(hS0:0<S)(hS:S<64)(hP:(2:Int)^S=P)(hQ2:(2:Int)^(64-S)=Q2)(ha:x1*P=a)(hbb:x0/Q2=bb)(ha0:0<=a)(haW:a<18446744073709551616)(hor:bits .or .u64 a bb=X1)(hx0:IntKind.u64.wrap (x0*P)=X0)(hD:y*P=D)(hx10:0<=x1)(hx00:0<=x0)(hx0W:x0<18446744073709551616)(hy0:0<y)
 (K0:Hid (r1=1->r0<D))
 (K1:Hid (r1=0->r0<D->q=Qn/\r0/P=Rn))
 (K2:Hid (r1=0->D<=r0->q+1=Qn/\q+1<18446744073709551616/\(r0-D)/P=Rn))
 (K3:Hid (r1=1->r0+18446744073709551616-D<D->q+1=Qn/\(r0+18446744073709551616-D)/P=Rn))
 (K4:Hid (r1=1->D<=r0+18446744073709551616-D->q+2=Qn/\q+2<18446744073709551616/\(r0+18446744073709551616-D-D)/P=Rn))
 (hQn:Qn<18446744073709551616)
 (CN:Hid (Calls Tryz.prog 69 #[.int .u64 y] w fun e w'=>e= .returned (.int .u64 (S:Int))/\w=w')):
 Calls Tryz.prog 111 #[.int .u64 x1,.int .u64 x0,.int .u64 y,.int .u64 m] w fun e w'=>e= .returned (.tuple #[.int .u64 Qn,.int .u64 Rn])/\w=w':=by
 have M1:True:=trivial;have M2:True:=trivial;have M3:True:=trivial;have hSne:((S:Int)==0)=false:=by rw[beq_eq_false_iff_ne];omega
 have hmin1:min S 64=S:=by omega
 have hmin2:min (64-S) 64=64-S:=by omega
 have hsub2:(64:Int)-(S:Int)=((64-S:Nat):Int):=by omega
 rcases hr1 with rfl|rfl
 ·by_cases hc:D<=r0
  ·obtain⟨hk1,hk2,hk3⟩:=K2.out rfl hc
   go_enter Tryz.func111,Tryz.ntmps111
   go_wp2_with (first
    |(go_at_call 69;refine(CN.out).mono ?_;rintro e w1 ⟨rfl,rfl⟩)
    |(go_at_call 131;clear M1;refine(CM1.out _).mono ?_;rintro e w1 ⟨rfl,rfl⟩)
    |(go_at_call 131;refine(CM2.out _).mono ?_;rintro e w1 ⟨rfl,rfl⟩)
    |(go_at_call 74;clear M2;refine(CA1.out _).mono ?_;rintro e w1 ⟨rfl,rfl⟩)
    |(go_at_call 74;refine(CA2.out _).mono ?_;rintro e w1 ⟨rfl,rfl⟩)
    |(go_at_call 106;clear M3;refine(CS1.out _).mono ?_;rintro e w1 ⟨rfl,rfl⟩)
    |(go_at_call 106;refine(CS2.out _).mono ?_;rintro e w1 ⟨rfl,rfl⟩));go_ret2;exact⟨rfl,rfl⟩
  ·obtain⟨rfl,hk3⟩:=K1.out rfl (by omega)
   go_enter Tryz.func111,Tryz.ntmps111
   go_wp2_with (first
    |(go_at_call 69;refine(CN.out).mono ?_;rintro e w1 ⟨rfl,rfl⟩)
    |(go_at_call 131;clear M1;refine(CM1.out _).mono ?_;rintro e w1 ⟨rfl,rfl⟩)
    |(go_at_call 131;refine(CM2.out _).mono ?_;rintro e w1 ⟨rfl,rfl⟩)
    |(go_at_call 74;clear M2;refine(CA1.out _).mono ?_;rintro e w1 ⟨rfl,rfl⟩)
    |(go_at_call 74;refine(CA2.out _).mono ?_;rintro e w1 ⟨rfl,rfl⟩)
    |(go_at_call 106;clear M3;refine(CS1.out _).mono ?_;rintro e w1 ⟨rfl,rfl⟩)
    |(go_at_call 106;refine(CS2.out _).mono ?_;rintro e w1 ⟨rfl,rfl⟩));go_ret2;exact⟨rfl,rfl⟩
 ·have hw:IntKind.u64.wrap (r0-D)=r0+18446744073709551616-D:=by rw[IntKind.wrap_u64];have:=K0.out rfl;omega
  obtain⟨s1,hs1⟩: ∃s1,s1=r0+18446744073709551616-D:=⟨_,rfl⟩;have K3':=κ (K3.out rfl);have K4':=κ (K4.out rfl);have k0:=K0.out rfl;have hs10:0<=s1/\s1<18446744073709551616:=by omega
  rw[<-hs1]at hw K3' K4';clear hs1 K1 K2 K3 K4 K0;obtain⟨hs10,hs11⟩:=hs10;by_cases hc:D<=s1
  ·obtain⟨hk1,hk2,hk3⟩:=K4'.out hc
   have hq2:q+1+1=Qn:=by omega
   have hq1:q+1<18446744073709551616:=by omega
   clear hk1;go_enter Tryz.func111,Tryz.ntmps111
   go_wp2_with (first
    |(go_at_call 69;refine(CN.out).mono ?_;rintro e w1 ⟨rfl,rfl⟩)
    |(go_at_call 131;clear M1;refine(CM1.out _).mono ?_;rintro e w1 ⟨rfl,rfl⟩)
    |(go_at_call 131;refine(CM2.out _).mono ?_;rintro e w1 ⟨rfl,rfl⟩)
    |(go_at_call 74;clear M2;refine(CA1.out _).mono ?_;rintro e w1 ⟨rfl,rfl⟩)
    |(go_at_call 74;refine(CA2.out _).mono ?_;rintro e w1 ⟨rfl,rfl⟩)
    |(go_at_call 106;clear M3;refine(CS1.out _).mono ?_;rintro e w1 ⟨rfl,rfl⟩)
    |(go_at_call 106;refine(CS2.out _).mono ?_;rintro e w1 ⟨rfl,rfl⟩));go_ret2;exact⟨rfl,rfl⟩
  ·obtain⟨hk1,hk3⟩:=K3'.out (by omega)
   have hq1:q+1<18446744073709551616:=by omega
   go_enter Tryz.func111,Tryz.ntmps111
   go_wp2_with (first
    |(go_at_call 69;refine(CN.out).mono ?_;rintro e w1 ⟨rfl,rfl⟩)
    |(go_at_call 131;clear M1;refine(CM1.out _).mono ?_;rintro e w1 ⟨rfl,rfl⟩)
    |(go_at_call 131;refine(CM2.out _).mono ?_;rintro e w1 ⟨rfl,rfl⟩)
    |(go_at_call 74;clear M2;refine(CA1.out _).mono ?_;rintro e w1 ⟨rfl,rfl⟩)
    |(go_at_call 74;refine(CA2.out _).mono ?_;rintro e w1 ⟨rfl,rfl⟩)
    |(go_at_call 106;clear M3;refine(CS1.out _).mono ?_;rintro e w1 ⟨rfl,rfl⟩)
    |(go_at_call 106;refine(CS2.out _).mono ?_;rintro e w1 ⟨rfl,rfl⟩));go_ret2;exact⟨rfl,rfl⟩
end Go.Proofs.YthecibbmbnpegaaGreatDoor
end
section
namespace Go.Proofs.YthecibbmbnpegaaGreatDoor
open Go.Big Go.RowKit
theorem borrow_eq2{x y c:Int}(hx0:0<=x)(hx1:x<18446744073709551616)(hy0:0<=y)(hy1:y<18446744073709551616)(hc0:0<=c)(hc1:c<=1):x-y-c=(x-y-c)%18446744073709551616-18446744073709551616*borrow x y c/\0<=borrow x y c/\borrow x y c<=1:=by
 unfold borrow;split<;>omega
theorem quo_uniq{N y P q ρ:Int}(hy:0<y)(hP:0<P)(h:N*P=y*P*q+ρ)(h0:0<=ρ)(h1:ρ<y*P):q=N/y/\ρ/P=N%y/\ρ=N%y*P:=by
 have e:ρ=P*(N-y*q):=by grind
 have g0:0<=N-y*q:=Int.nonneg_of_mul_nonneg_right (by rw[<-e];exact h0) hP
 have g1:N-y*q<y:=by
  have:P*(N-y*q)<P*y:=by rw[<-e,Int.mul_comm P];exact h1
  exact Int.lt_of_mul_lt_mul_left this (Int.le_of_lt hP)
 have hN:N=(N-y*q)+y*q:=by omega
 have d1:N/y=q:=by
  conv=>lhs;rw[hN]
  rw[Int.add_mul_ediv_left _ _ (by omega),Int.ediv_eq_zero_of_lt g0 g1,Int.zero_add]
 have d2:N%y=N-y*q:=by
  conv=>lhs;rw[hN]
  rw[Int.add_mul_emod_self_left,Int.emod_eq_of_lt g0 g1]
 refine⟨d1.symm,?_,by rw[d2,e,Int.mul_comm]⟩;rw[d2,e,Int.mul_ediv_cancel_left _ (by omega)]
theorem divWW_any(x1 x0 y:Int)(L:Nat)(w:World)(h10:0<=x1)(h1y:x1<y)(h00:0<=x0)(h0W:x0<18446744073709551616)(hyW:y<18446744073709551616)(hL:IsLen y L):
 Calls Tryz.prog 111 #[.int .u64 x1,.int .u64 x0,.int .u64 y,.int .u64 (rcp (y*2^(64-L)))] w fun e w'=>e= .returned (.tuple #[.int .u64 ((x1*18446744073709551616+x0)/y),.int .u64 ((x1*18446744073709551616+x0)%y)])/\w=w':=by
 have hy0:0<y:=by omega
 have hL64:L<=64:=by
  have:=bitLen_le64 y (by omega) hyW;rw[(isLen_word y (by omega) hyW).unique hL]at this;exact this
 obtain⟨n1,n2,n3⟩:=norm_word hL hy0 hL64
 have CN:Calls Tryz.prog 69 #[.int .u64 y] w fun e w'=>e= .returned (.int .u64 ((64-L:Nat):Int))/\w=w':=(nlz_any y w (by omega) hyW).mono fun e w' ⟨⟨L',he,hl,hl9⟩,hw⟩=>by
  obtain rfl:=hl.unique hL;exact⟨by rw[he];congr 2;omega,hw⟩
 obtain⟨S,hS⟩: ∃S,S=64-L:=⟨_,rfl⟩;rw[<-hS]at n1 n2 CN ⊢
 have hS64:S<64:=by omega
 obtain⟨P,hP⟩: ∃P:Int,P=2^S:=⟨_,rfl⟩;obtain⟨Q2,hQ2⟩: ∃Q2:Int,Q2=2^(64-S):=⟨_,rfl⟩;have hP0:0<P:=by rw[hP];exact pow_pos_ (by omega) _
 have hQ0:0<Q2:=by rw[hQ2];exact pow_pos_ (by omega) _
 have hPQ:P*Q2=18446744073709551616:=by rw[hP,hQ2,<- Int.pow_add,show S+(64-S)=64 by omega];rfl
 rw[<-hP]at n1 n2 ⊢
 obtain⟨D,hD⟩: ∃D,D=y*P:=⟨_,rfl⟩;rw[<-hD]at n1 n2 ⊢
 obtain⟨m0,m1,m2,m3⟩:=rcp_bounds n1 n2;obtain⟨m,hm⟩: ∃m,m=rcp D:=⟨_,rfl⟩;rw[<-hm]at m0 m1 m2 m3 ⊢
 obtain⟨s1,s2,s3⟩:=dww_scale (y:=y) (s:=0) P Q2 hP0 hPQ h10 h1y h00 h0W hQ0;obtain⟨X1,hX1⟩: ∃X1,X1=x1*P+x0/Q2:=⟨_,rfl⟩;obtain⟨X0,hX0⟩: ∃X0,X0=(x0*P)%18446744073709551616:=⟨_,rfl⟩;rw[<-hX1]at s1 s2 s3;rw[<-hX0]at s1;rw[<-hD]at s2;have t0:0<=X0/\X0<18446744073709551616:=by omega
 have pA0:0<=m*X1:=Int.mul_nonneg m0 s3;have pA1:m*X1<=18446744073709551615*18446744073709551615:=Int.mul_le_mul (by omega) (by omega) s3 (by omega);have CM1:=κ (fun W=>bmul_any m X1 W m0 m1 s3 (by omega));obtain⟨A1,hA1⟩: ∃A1,A1=m*X1/18446744073709551616:=⟨_,rfl⟩;obtain⟨A0,hA0⟩: ∃A0,A0=m*X1%18446744073709551616:=⟨_,rfl⟩;simp only[<-hA1,<- hA0]at CM1;have hA:A1*18446744073709551616+A0=m*X1:=by omega
 have hA0b:0<=A0/\A0<18446744073709551616:=by omega
 have hA1b:0<=A1/\A1<18446744073709551616:=by omega
 have CA1:=κ (fun W=>badd_any A0 X0 0 W hA0b.1 hA0b.2 t0.1 t0.2 (by omega) (by omega));obtain⟨g0,hg0⟩: ∃g0,g0=(A0+X0+0)%18446744073709551616:=⟨_,rfl⟩;obtain⟨c1,hc1⟩: ∃c1,c1=(A0+X0+0)/18446744073709551616:=⟨_,rfl⟩;simp only[<-hg0,<- hc1]at CA1;have hc1b:0<=c1/\c1<=1:=by omega
 have CA2:=κ (fun W=>badd_any A1 X1 c1 W hA1b.1 hA1b.2 s3 (by omega) hc1b.1 hc1b.2);obtain⟨q,hq⟩: ∃q,q=(A1+X1+c1)%18446744073709551616:=⟨_,rfl⟩;obtain⟨c2,hc2⟩: ∃c2,c2=(A1+X1+c1)/18446744073709551616:=⟨_,rfl⟩;simp only[<-hq,<- hc2]at CA2;have hqb:0<=q/\q<18446744073709551616:=by omega
 have pB0:0<=D*q:=Int.mul_nonneg (by omega) hqb.1;have pB1:D*q<=18446744073709551615*18446744073709551615:=Int.mul_le_mul (by omega) (by omega) hqb.1 (by omega);have CM2:=κ (fun W=>bmul_any D q W (by omega) n2 hqb.1 hqb.2);obtain⟨B1,hB1⟩: ∃B1,B1=D*q/18446744073709551616:=⟨_,rfl⟩;obtain⟨B0,hB0⟩: ∃B0,B0=D*q%18446744073709551616:=⟨_,rfl⟩;simp only[<-hB1,<- hB0]at CM2;have hB:B1*18446744073709551616+B0=D*q:=by omega
 have hB0b:0<=B0/\B0<18446744073709551616:=by omega
 have hB1b:0<=B1/\B1<18446744073709551616:=by omega
 have CS1:=κ (fun W=>bsub_any X0 B0 0 W t0.1 t0.2 hB0b.1 hB0b.2 (by omega) (by omega));obtain⟨b1,b2,b3⟩:=borrow_eq2 t0.1 t0.2 hB0b.1 hB0b.2 (show(0:Int)<=0 by omega) (by omega);obtain⟨r0,hr0⟩: ∃r0,r0=(X0-B0-0)%18446744073709551616:=⟨_,rfl⟩;obtain⟨bb,hbb⟩: ∃bb,bb=borrow X0 B0 0:=⟨_,rfl⟩;simp only[<-hr0,<- hbb]at CS1;rw[<-hr0,<- hbb]at b1;rw[<-hbb]at b2 b3;have CS2:=κ (fun W=>bsub_any X1 B1 bb W s3 (by omega) hB1b.1 hB1b.2 b2 b3);obtain⟨d1,d2,d3⟩:=borrow_eq2 s3 (show X1<18446744073709551616 by omega) hB1b.1 hB1b.2 b2 b3;obtain⟨r1,hr1⟩: ∃r1,r1=(X1-B1-bb)%18446744073709551616:=⟨_,rfl⟩;obtain⟨bb2,hbb2⟩: ∃bb2,bb2=borrow X1 B1 bb:=⟨_,rfl⟩;simp only[<-hr1,<- hbb2]at CS2;rw[<-hr1,<- hbb2]at d1;rw[<-hbb2]at d2 d3;have hr0b:0<=r0/\r0<18446744073709551616:=by omega
 have hr1b:0<=r1/\r1<18446744073709551616:=by omega
 obtain⟨k1,k2,k3⟩:=dww_core n1 n2 m0 m1 m2 m3 s3 s2 t0.1 t0.2 hA hA0b (by omega:A0+X0=g0+18446744073709551616*c1) (by omega) (by omega:A1+X1+c1=q+18446744073709551616*c2) hqb (by omega) hB (by omega:X0-B0=r0-18446744073709551616*bb) hr0b d1 hr1b d2;obtain⟨N,hN⟩: ∃N,N=x1*18446744073709551616+x0:=⟨_,rfl⟩;rw[<-hN]at s1 ⊢
 have hNy:N<y*18446744073709551616:=by
  have:(x1+1)*18446744073709551616<=y*18446744073709551616:=by omega
  omega
 have hQn:N/y<18446744073709551616:=Int.ediv_lt_of_lt_mul hy0 (by rw[Int.mul_comm];exact hNy)
 have U: ∀q' ρ,N*P=D*q'+ρ->0<=ρ->ρ<D->q'=N/y/\ρ/P=N%y/\ρ=N%y*P:=by
  intro q' ρ h h0 h1;rw[hD]at h h1;exact quo_uniq hy0 hP0 h h0 h1
 have e1:N*P=D*q+(r1*18446744073709551616+r0):=by rw[<-s1];exact k1
 have V1:r1=0->r0<D->q=N/y/\r0/P=N%y/\r0=N%y*P:=fun h h'=>U q r0 (by rw[e1,h];omega) hr0b.1 h'
 have V2:r1=0->D<=r0->q+1=N/y/\(r0-D)/P=N%y/\r0-D=N%y*P:=fun h h'=>U (q+1) (r0-D) (by rw[e1,h,Int.mul_add];omega) (by omega) (by omega)
 have V3:r1=1->r0+18446744073709551616-D<D->q+1=N/y/\(r0+18446744073709551616-D)/P=N%y/\r0+18446744073709551616-D=N%y*P:=fun h h'=>U (q+1) _ (by rw[e1,h,Int.mul_add];omega) (by omega) h'
 have V4:r1=1->D<=r0+18446744073709551616-D->q+2=N/y/\(r0+18446744073709551616-D-D)/P=N%y/\r0+18446744073709551616-D-D=N%y*P:=fun h h'=>U (q+2) _ (by rw[e1,h,Int.mul_add];omega) (by omega) (by rw[h]at k3;omega)
 have K0:=κ (show r1=1->r0<D from fun h=>by rw[h]at k3;omega);by_cases hS0:S=0
 ·have hP1:P=1:=by rw[hP,hS0];rfl
  have hD1:D=y:=by rw[hD,hP1,Int.mul_one]
  have hX1e:X1=x1:=by rw[hX1,hP1,Int.mul_one,show Q2=18446744073709551616 by rw[hP1,Int.one_mul]at hPQ;exact hPQ,Int.ediv_eq_zero_of_lt h00 h0W];omega
  have hX0e:X0=x0:=by rw[hX0,hP1,Int.mul_one];omega
  subst hD1 hX1e hX0e;simp only[hP1,Int.mul_one]at V1 V2 V3 V4;rw[hS0]at CN
  exact dww_s0 X1 X0 D m A1 A0 c1 g0 q c2 B1 B0 r0 bb r1 bb2 w s3 (by omega) t0.1 t0.2 m0 m1 n1 n2 CM1 CA1 CA2 CM2 CS1 CS2 hr0b.1 hr0b.2 hqb.1 hqb.2 k2 (N%D) (N/D) K0
   (κ fun h h'=>⟨(V1 h h').1,(V1 h h').2.2⟩) (κ fun h h'=>⟨(V2 h h').1,by rw[(V2 h h').1];exact hQn,(V2 h h').2.2⟩) (κ fun h h'=>⟨(V3 h h').1,(V3 h h').2.2⟩) (κ fun h h'=>⟨(V4 h h').1,by rw[(V4 h h').1];exact hQn,(V4 h h').2.2⟩) hQn (κ CN)
 ·have ha0:0<=x1*P:=Int.mul_nonneg h10 (by omega)
  have hbb0:0<=x0/Q2:=Int.ediv_nonneg h00 (by omega);have haW:x1*P<18446744073709551616:=by omega
  have hor:bits .or .u64 (x1*P) (x0/Q2)=X1:=by
   have h:=or_shift x1 x0 S (by omega) hS64 h10 h00 h0W;rw[<-hP,<- hQ2,IntKind.wrap_u64,Int.emod_eq_of_lt ha0 haW]at h;rw[h,hX1]
  exact dww_s1 X1 X0 D m A1 A0 c1 g0 q c2 B1 B0 r0 bb r1 bb2 w s3 (by omega) t0.1 t0.2 m0 m1 n1 n2 CM1 CA1 CA2 CM2 CS1 CS2 hr0b.1 hr0b.2 hqb.1 hqb.2 k2 (N%y) (N/y) P Q2 (x1*P) (x0/Q2) x1 x0 y S (by omega) hS64 hP.symm hQ2.symm rfl rfl ha0 haW hor (by rw[IntKind.wrap_u64,hX0]) hD.symm h10 h00 h0W hy0 K0
   (κ fun h h'=>⟨(V1 h h').1,(V1 h h').2.1⟩) (κ fun h h'=>⟨(V2 h h').1,by rw[(V2 h h').1];exact hQn,(V2 h h').2.1⟩) (κ fun h h'=>⟨(V3 h h').1,(V3 h h').2.1⟩) (κ fun h h'=>⟨(V4 h h').1,by rw[(V4 h h').1];exact hQn,(V4 h h').2.1⟩) hQn (κ CN)
end Go.Proofs.YthecibbmbnpegaaGreatDoor
end
section
namespace Go.Big
theorem divw_step{x r y q r' V:Int}{qs xs:List Int}{j:Nat}(hj:j<xs.length)(hx:x=xs.getD j 0)(hq:q=(r*18446744073709551616+x)/y)(hr:r'=(r*18446744073709551616+x)%y)
 (h:val 18446744073709551616 qs*y+r=val 18446744073709551616 (xs.drop (j+1))):val 18446744073709551616 (q::qs)*y+r'=val 18446744073709551616 (xs.drop j):=by
 rw[List.drop_eq_getElem_cons hj,val_cons,val_cons,<- h,<- getD_in hj,<- hx];have e:=Int.emod_add_mul_ediv (r*18446744073709551616+x) y;rw[<-hq,<- hr]at e;grind
theorem divw_fin{Q r y X:Int}(hy:0<y)(h:Q*y+r=X)(h0:0<=r)(h1:r<y):Q=X/y/\r=X%y:=by
 subst h;constructor
 ·rw[Int.add_comm,Int.add_mul_ediv_right _ _ (by omega),Int.ediv_eq_zero_of_lt h0 h1,Int.zero_add]
 ·rw[Int.add_comm,Int.add_mul_emod_self_right,Int.emod_eq_of_lt h0 h1]
end Go.Big
end
