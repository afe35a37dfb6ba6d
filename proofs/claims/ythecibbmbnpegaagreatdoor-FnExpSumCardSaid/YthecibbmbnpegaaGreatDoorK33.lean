/-
  Part 33 of the proof of the law FnExpSum: XP2. Conditions: those of each statement.
-/
import Derived.Test.YthecibbmbnpegaaGreatDoorK27
import Derived.Laws.Bits64
set_option linter.unusedSimpArgs false
set_option linter.unusedVariables false
set_option maxRecDepth 100000
set_option maxHeartbeats 2000000
namespace Go.Big
theorem tz_pow{s t:Nat}(h:HasTz (2^s) t):s=t:=by
 obtain⟨b1,b2,_⟩:=h.bit;rcases Nat.lt_trichotomy s t with hlt|he|hgt
 ·have:=b2 s hlt
  rw[Int.ediv_self (by have:=pow_pos_ (B:=2) (by omega) s;omega)]at this;omega
 ·exact he
 ·obtain⟨d,rfl⟩: ∃d,s=t+(d+1):=⟨s-t-1,by omega⟩
  have hp:=pow_pos_ (B:=2) (by omega) t;rw[Int.pow_add,Int.mul_ediv_cancel_left _ (by omega),Int.pow_succ]at b1;omega
theorem val_top_word{xs:List Int}{i:Nat}(hl:xs.length=i+1)(hz: ∀k,k<i->xs.getD k 0=0):val 18446744073709551616 xs=18446744073709551616^i*xs.getD i 0:=by
 have e:=val_take_succ' 18446744073709551616 xs i;rw[<-hl,List.take_length]at e
 have e2:val 18446744073709551616 (xs.take i)=0:=val_zeros _ (fun x hx=>by
  obtain⟨n,hn,rfl⟩:=List.mem_iff_getElem.1 hx;rw[List.length_take]at hn;have:=hz n (by omega);rw[getD_in (by omega)]at this;simpa using this);omega
end Go.Big
namespace Go.Proofs.YthecibbmbnpegaaGreatDoor
open Go.Big Go.RowKit
def RetP2(X:Int)(t:Nat)(w:World)(e:Ending)(w':World):Prop:=(X=2^t/\e= .returned (.tuple #[.int .u64 (t:Int),.bool true])\/X≠2^t/\e= .returned (.tuple #[.int .u64 0,.bool false]))/\Fr [] w w'
theorem isPow2_any(v:Value)(X:Int)(w:World)(h:SW w v X)(hX:X<BIG)(hX0:0<X)(hT:TabW w):
 Calls Tryz.prog 66 #[v] w fun e w'=> ∃t:Nat,HasTz X t/\t<=64000000/\RetP2 X t w e w':=by
 obtain⟨xs,sl,dx,zx,rfl⟩:=h;have hl:=len_BIG64 dx zx hX;obtain⟨A,cap,rfl,hlc,hm,hs⟩:=sl;unfold maxLen at hm;have hne:xs≠[]:=by intro e;subst e;simp[val_nil]at hX0
 have hxp:0<xs.length:=List.length_pos_iff.2 hne;obtain⟨i,y,hi,hy,hy0,hy1,hz,ht,hc⟩:=low_word dx zx hne;obtain⟨b,o,rfl,_,hs⟩:=hs (by omega);obtain⟨N,hN⟩: ∃N,N=xs.length:=⟨_,rfl⟩;obtain⟨N1,hN1⟩: ∃N1,N1=N-1:=⟨_,rfl⟩;have CT:=κ (fun W (f:Fr [] w W)=>tz_any y W hy0 hy1 (hT.fr0 f));obtain⟨m,hye,_⟩:=Lib.ctzFrom_spec 64 y (by omega) (by simpa using hy1);have hce:Lib.ctz 64 y=Lib.ctzFrom 64 y:=by unfold Lib.ctz;rw[if_neg hy0]
 rw[<-hce]at hye;obtain⟨c,hcc⟩: ∃c,c=Lib.ctz 64 y:=⟨_,rfl⟩;rw[<-hcc]at CT ht hc hye;have hwy:IntKind.u64.wrap ((y:Int)-1)=(y:Int)-1:=by rw[IntKind.wrap_u64];clear CT hye ht hz hs hy hc;omega
 obtain⟨z,hze⟩: ∃z:Int,z=bits .and .u64 (y:Int) ((y:Int)-1):=⟨_,rfl⟩
 have hz2:z=((2^c*(2*m):Nat):Int):=by
  rw[hze,show(y:Int)-1=((y-1:Nat):Int)by omega,u64_and_nat _ _ (by omega) (by omega)];have e:=and_pred (c:=c) (m:=m);rw[<-hye]at e;rw[e]
 have hpow:val 18446744073709551616 xs=2^(64*i+c)↔i=N1/\m=0:=by
  have p64:(2:Int)^(64*i)=18446744073709551616^i:=by rw[Int.pow_mul];rfl
  have hpi:=pow_pos_ (B:=18446744073709551616) (by omega) i;constructor
  ·intro e
   have hi1:i=N1:=by
    rcases Nat.lt_or_ge i N1 with hlt|hge
    ·exfalso
     have h1:=val_pos (by omega) dx zx hne;have h2:=pow_le_pow_ (B:=18446744073709551616) (by omega) (show i+1<=xs.length-1 by omega);rw[Int.pow_succ]at h2;rw[Int.pow_add,p64]at e;have h3:=pow_le_pow_ (B:=2) (by omega) (show c<=63 by omega);have h4:(18446744073709551616:Int)^i*2^c<=18446744073709551616^i*2^63:=Int.mul_le_mul_of_nonneg_left h3 (by omega);rw[show(2:Int)^63=9223372036854775808 from rfl]at h4;omega
    ·omega
   refine⟨hi1,?_⟩;have e2:=val_top_word (i:=i) (by omega) hz;rw[<-hy,e,Int.pow_add,p64]at e2;have e3:(2:Int)^c=(y:Int):=Int.eq_of_mul_eq_mul_left (by omega) e2;have e4:((2^c:Nat):Int)=(2:Int)^c:=by simp
   rw[<-e4]at e3;have e5:2^c=2^c*(2*m+1):=by omega
   have hp:=Nat.two_pow_pos c;rcases Nat.eq_zero_or_pos m with h|h
   ·exact h
   ·exfalso
    have:2^c*2<=2^c*(2*m+1):=Nat.mul_le_mul_left _ (by omega);omega
  ·rintro⟨hi1,hm0⟩
   have e2:=val_top_word (i:=i) (by omega) hz;rw[<-hy,hye,hm0]at e2;rw[e2,Int.pow_add,p64];simp
 obtain⟨X,hXe⟩: ∃X,X=val 18446744073709551616 xs:=⟨_,rfl⟩;rw[<-hXe]at ht hpow ⊢
 rw[<-hN]at hlc hi hl hxp ⊢
 have a1:(N:Int)-1=(N1:Int):=by omega
 have hwN:IntKind.u64.wrap (N:Int)=(N:Int):=by rw[IntKind.wrap_u64];omega
 have hwN1:IntKind.u64.wrap (N1:Int)=(N1:Int):=by rw[IntKind.wrap_u64];omega
 have hze2:bits .and .u64 (y:Int) ((y:Int)-1)=z:=hze.symm;have HS:=κ hs;have HZ:=κ hz;have HTZ:=κ ht;have HN:=κ hN;have HY:=κ hy;have HZ2:=κ hz2;have HP:=κ hpow;clear hs dx zx hX hT hN hy hz ht hce hcc hye hze hz2 hpow hXe hX0 hN1;go_enter Tryz.func66,Tryz.ntmps66;go_wp2_with fail;go_loopg [4] i (fun g iv wr=> ∃k:Nat,k<=i/\g=i-k/\iv= .int .u64 (k:Int)/\w=wr);case atStart=>exact⟨0,by omega,rfl,rfl,rfl⟩
 case round=>
  obtain⟨k,hk,rfl,rfl,rfl⟩:=hrel;have ck:=HS.out k (by rw[<-HN.out];omega);have hkN:(k:Int)<(N:Int):=by omega
  by_cases hki:k<i
  ·rw[HZ.out k hki]at ck
   go_wp2_with fail;go_roundg (i-(k+1));case measure=>omega
   case rel=>exact⟨k+1,by omega,rfl,congrArg (Value.int .u64) (by omega),rfl⟩
  ·obtain rfl:k=i:=by omega
   rw[<-HY.out]at ck;have hyb:((y:Int)==0)=false:=by rw[beq_eq_false_iff_ne];omega
   by_cases hkN1:k=N1
   ·have hb1:((k:Int)==(N1:Int))=true:=by simp[hkN1]
    have HK:=κ hkN1;clear hkN1;by_cases hm0:m=0
    ·have hz0:z=0:=by rw[HZ2.out,hm0];simp
     have hzb:(z==0)=true:=by simp[hz0]
     have HM:=κ hm0;clear hm0 hz0;go_wp2_with fail;go_quiet (fail);go_wp2_with (go_at_call 95;refine(CT.out _ ((Fr.refl _ _).drewN _)).mono ?_;rintro e w1 ⟨rfl,rfl⟩);go_ret2;refine⟨64*k+c,HTZ.out,by omega,.inl ⟨HP.out.2 ⟨HK.out,HM.out⟩,congrArg Ending.returned ?_⟩,(Fr.refl _ _).drewN _⟩;have e:(k:Int)*64+(c:Int)=((64*k+c:Nat):Int):=by omega
     rw[<-e];rfl
    ·have hz0:z≠0:=by
      rw[HZ2.out];have hp:=Nat.two_pow_pos c;have:0<2^c*(2*m):=Nat.mul_pos hp (by omega);omega
     have hzb:(z==0)=false:=by rw[beq_eq_false_iff_ne];exact hz0
     have HM:=κ hm0;clear hm0 hz0;go_wp2_with fail;go_quiet (fail);go_wp2_with fail;go_ret2;exact⟨64*k+c,HTZ.out,by omega,.inr ⟨fun e=>HM.out (HP.out.1 e).2,rfl⟩,(Fr.refl _ _).drewN _⟩
   ·have hb1:((k:Int)==(N1:Int))=false:=by rw[beq_eq_false_iff_ne];omega
    have HK:=κ hkN1;clear hkN1;go_wp2_with fail;go_quiet (fail);go_wp2_with fail;go_ret2;exact⟨64*k+c,HTZ.out,by omega,.inr ⟨fun e=>HK.out (HP.out.1 e).1,rfl⟩,(Fr.refl _ _).drewN _⟩
end Go.Proofs.YthecibbmbnpegaaGreatDoor
