/-
  Part 48 of the proof of the law FnExpSum: XEx, XFrame, XShut. Conditions: those of each statement.
-/
import Derived.Test.YthecibbmbnpegaaGreatDoorK47
import Derived.Laws.Bits64
import Derived.Deep.DeepCutAuto
import Derived.Deep.RegionWith
import Derived.Test.YthecibbmbnpegaaGreatDoorRows
import Derived.Test.YthecibbmbnpegaaGreatDoorProg
import Derived.JoinedOf
import Derived.KernelRfl
set_option linter.unusedSimpArgs false
set_option linter.unusedVariables false
set_option maxRecDepth 100000
set_option maxHeartbeats 4000000
namespace Go.Proofs.YthecibbmbnpegaaGreatDoor
open Go.Big Go.RowKit Go.ChangeShapes Go.WideShapes Go.ChangeAt
theorem glob_exp{W:World}(h:laidMetH Tryz.prog [("math/bits.deBruijn32tab",Rows.laid_math_bits_deBruijn32tab),("math/bits.deBruijn64tab",Rows.laid_math_bits_deBruijn64tab),("loop.example/pub-g03246/pub/big2.divRecursiveThreshold",Rows.laid_loop_example_pub_g03246_pub_big2_divRecursiveThreshold),("loop.example/pub-g03246/pub/big2.karatsubaThreshold",Rows.laid_loop_example_pub_g03246_pub_big2_karatsubaThreshold),("loop.example/pub-g03246/pub/big2.basicSqrThreshold",Rows.laid_loop_example_pub_g03246_pub_big2_basicSqrThreshold),("loop.example/pub-g03246/pub/big2.karatsubaSqrThreshold",Rows.laid_loop_example_pub_g03246_pub_big2_karatsubaSqrThreshold)] W):Gl W/\TabW W:=by
 rw[MakeChecks.laidMetH_plain _ _ _ (by kernel_rfl)]at h;have h2:=laidMet.tail h;have h3:=laidMet.tail h2;have h4:=laidMet.tail h3;have h5:=laidMet.tail h4;have h6:=laidMet.tail h5;refine⟨⟨?_,?_,?_,?_⟩,fun j hj=> ?_⟩
 ·exact int_of_head (g:=0) (t:=3) (by kernel_rfl) (by kernel_rfl) Tryz.underlying3 h4
 ·exact int_of_head (g:=1) (t:=3) (by kernel_rfl) (by kernel_rfl) Tryz.underlying3 h3
 ·exact int_of_head (g:=2) (t:=3) (by kernel_rfl) (by kernel_rfl) Tryz.underlying3 h5
 ·exact int_of_head (g:=3) (t:=3) (by kernel_rfl) (by kernel_rfl) Tryz.underlying3 h6
 ·have hT:Lib.TabIs Tryz.prog W "math/bits.deBruijn64tab" .u8 tabD64:=Lib.tabIs_of_head (g:=5) (by kernel_rfl) (by kernel_rfl) Tryz.underlying141 Tryz.underlying5 (by kernel_rfl) (by kernel_rfl) h2
  have hc:=hT.cell (g:=5) (by kernel_rfl) j (by simpa[tabD64]using hj);rw[hc];have e: ∀j,j<64->tabD64.getD j 0=((Lib.deBruijn64tab.getD j 0:Nat):Int):=by decide
  rw[e j hj]
theorem sumX{x y:Int}{k:Nat}(hx:x<18446744073709551616^k)(hy:y<18446744073709551616^k):x+y<18446744073709551616^(k+1):=by
 rw[Int.pow_succ];have:=pow_pos_ (B:=18446744073709551616) (by omega) k;omega
theorem prodX{x y:Int}{k l:Nat}(hx0:0<=x)(hx:x<18446744073709551616^k)(hy0:0<=y)(hy:y<18446744073709551616^l):x*y<18446744073709551616^(k+l):=by
 rw[Int.pow_add];have h1:x*y<=x*18446744073709551616^l:=Int.mul_le_mul_of_nonneg_left (by omega) hx0;have h2:x*18446744073709551616^l<18446744073709551616^k*18446744073709551616^l:=Int.mul_lt_mul_of_pos_right hx (pow_pos_ (by omega) l);omega
theorem valX{xs:List Int}{k:Nat}(hd:DG 18446744073709551616 xs)(hl:xs.length<=k):0<=val 18446744073709551616 xs/\val 18446744073709551616 xs<18446744073709551616^k:=
 ⟨val_nonneg (by omega) hd,Int.lt_of_lt_of_le (val_lt (by omega) hd) (pow_le_pow_ (by omega) hl)⟩
theorem exp_sum{X M:Int}{a b:Nat}:X^a%M*(X^b%M)%M=X^(a+b)%M:=by rw[<-Int.mul_emod,<- Int.pow_add]
theorem ex_len{zs ms:List Int}{X:Int}(d:DG 18446744073709551616 zs)(z:NZ zs)(h:val 18446744073709551616 zs=X%val 18446744073709551616 ms)(hp:0<val 18446744073709551616 ms)(hl:ms.length<=60)(dm:DG 18446744073709551616 ms):zs.length<=900:=by
 have h1:=Int.emod_lt_of_pos X hp;have:=len_sm d dm z (by omega);omega
theorem ex_prod{al bl:List Int}{X1 X2 M:Int}(h1:val 18446744073709551616 al=X1%M)(h2:val 18446744073709551616 bl=X2%M)(hp:0<M)(hM:M<18446744073709551616^60):val 18446744073709551616 al*val 18446744073709551616 bl<18446744073709551616^120:=by
 rw[h1,h2];have k1:=Int.emod_lt_of_pos X1 hp;have k2:=Int.emod_lt_of_pos X2 hp;have j1:=Int.emod_nonneg X1 (show M≠0 by omega);have j2:=Int.emod_nonneg X2 (show M≠0 by omega);exact prodX (k:=60) (l:=60) j1 (by omega) j2 (by omega)
theorem ex_rest{X M:Int}(hp:0<M)(hM:M<18446744073709551616^60):X%M<18446744073709551616^60:=by
 have k1:=Int.emod_lt_of_pos X hp;omega
theorem law_FnExpSum(v:Value)(xs:List Int)(u:Value)(ys:List Int)(t:Value)(zs:List Int)(r:Value)(ms:List Int)(w:World)(hx:Sl .u64 w v xs)(hd:DG 18446744073709551616 xs)(hy:Sl .u64 w u ys)(hd':DG 18446744073709551616 ys)(hz:Sl .u64 w t zs)(hd2:DG 18446744073709551616 zs)(hm:Sl .u64 w r ms)(hd3:DG 18446744073709551616 ms)(hT:Gl w/\TabW w):
 Calls Tryz.prog 3 #[v,u,t,r] w fun e w'=>e= .returned (.bool true)/\Fr [] w w':=by
 have HX:=κ hx;have HD:=κ hd;have HY:=κ hy;have HD':=κ hd';have HZ:=κ hz;have HD2:=κ hd2;have HM:=κ hm;have HD3:=κ hd3;have HT:=κ hT;obtain⟨A,cap,rfl,hlc,hm1,hs⟩:=hx;obtain⟨B,cap',rfl,hlc',hm',hs'⟩:=hy;obtain⟨C,cap2,rfl,hlc2,hm2,hs2⟩:=hz;obtain⟨D,cap3,rfl,hlc3,hm3,hs3⟩:=hm;unfold maxLen at hm1 hm' hm2 hm3;clear hs hd hs' hd' hs2 hd2 hs3 hd3 hT;by_cases h1:2147483647<xs.length
 ·go_enter Tryz.func3,Tryz.ntmps3
  go_wp2_with fail;go_ret;exact⟨rfl,Fr.refl _ _⟩
 by_cases h1':2147483647<ys.length
 ·go_enter Tryz.func3,Tryz.ntmps3
  go_wp2_with fail;go_ret;exact⟨rfl,Fr.refl _ _⟩
 by_cases h1z:2147483647<zs.length
 ·go_enter Tryz.func3,Tryz.ntmps3
  go_wp2_with fail;go_ret;exact⟨rfl,Fr.refl _ _⟩
 by_cases h1m:2147483647<ms.length
 ·go_enter Tryz.func3,Tryz.ntmps3
  go_wp2_with fail;go_ret;exact⟨rfl,Fr.refl _ _⟩
 by_cases h2:xs.length<=60/\ms.length<=60
 case neg=>
  go_enter Tryz.func3,Tryz.ntmps3;go_wp2_with (go_at_call 4;refine(few2_no 60 A D _ _ _ _ _ _ (by omega) (by omega) (by omega) (by omega)).mono ?_;rintro e w1 ⟨rfl,rfl⟩);go_ret;exact⟨rfl,(Fr.refl _ _).alloc _⟩
 obtain⟨h2,h2m⟩:=h2;have T1:True:=trivial;have f0:Fr [] w (w.alloc (.cells #[.slice A xs.length cap,.slice D ms.length cap3] 22)):=(Fr.refl _ _).alloc _;by_cases h3:ys.length<=8/\zs.length<=8
 case neg=>
  go_enter Tryz.func3,Tryz.ntmps3
  go_wp2_with (first
   |(go_at_call 4;clear T1;refine(few2_yes 60 A D _ _ _ _ _ _ (by omega) h2 h2m).mono ?_;rintro e w1 ⟨rfl,hw1⟩;have F1:=κ (show Fr [] w w1 by rw[<-hw1];exact f0);clear hw1)
   |(go_at_call 4;refine(few2_no 8 B C _ _ _ _ _ _ (by omega) (by omega) (by omega) (by omega)).mono ?_;rintro e w2 ⟨rfl,hw2⟩;have F2:=κ (show Fr [] w w2 by rw[<-hw2];exact F1.out.alloc _);clear hw2));go_ret;exact⟨rfl,F2.out⟩
 obtain⟨h3,h4⟩:=h3;have HMB:=κ (words_BIG HD3.out (show ms.length<=1000000 by omega));have hM0:=val_nonneg (B:=18446744073709551616) (by omega) HD3.out;by_cases hm0:val 18446744073709551616 ms=0
 ·have HV3:=κ hm0
  clear hM0 hm0;go_enter Tryz.func3,Tryz.ntmps3
  go_wp2_with (first
   |(go_at_call 4;clear T1;refine(few2_yes 60 A D _ _ _ _ _ _ (by omega) h2 h2m).mono ?_;rintro e w1 ⟨rfl,hw1⟩;have F1:=κ (show Fr [] w w1 by rw[<-hw1];exact f0);clear hw1)
   |(go_at_call 4;refine(few2_yes 8 B C _ _ _ _ _ _ (by omega) h3 h4).mono ?_;rintro e w2 ⟨rfl,hw2⟩;have F2:=κ (show Fr [] w w2 by rw[<-hw2];exact F1.out.alloc _);clear hw2)
   |(go_at_call 6;refine(of_any _ ms _ (HM.out.fr0 F2.out) HD3.out (by omega)).mono ?_;rw[HV3.out];rintro e w3 ⟨v3,rfl,sn3,f3⟩)
   |(go_at_call 5;refine(bits_any _ 0 _ sn3 (by have:=HMB.out;rw[HV3.out]at this;exact this)).mono ?_;rintro e w4 ⟨L,rfl,hL,_,rfl⟩;obtain rfl:0=L:=(show IsLen 0 0 from .inl ⟨rfl,rfl⟩).unique hL));go_ret;exact⟨rfl,F2.out.t f3⟩
 have hp:0<val 18446744073709551616 ms:=by omega
 obtain⟨Y,hY⟩:=Int.eq_ofNat_of_zero_le (val_nonneg (B:=18446744073709551616) (by omega) HD'.out);obtain⟨Z,hZ⟩:=Int.eq_ofNat_of_zero_le (val_nonneg (B:=18446744073709551616) (by omega) HD2.out)
 have HL:Hid (∀M:Nat,IsLen (val 18446744073709551616 ms) M->((M:Int)==0)=false):=κ (fun M hM=>by
  rw[beq_eq_false_iff_ne];rcases hM with⟨h,_⟩|⟨h,_⟩
  ·exact absurd h hm0
  ·omega);have HP:=κ hp;have C1:=κ (fun W (f:Fr [] w W)=>implExp_any _ _ _ xs ys ms W (HX.out.fr0 f) (HY.out.fr0 f) (HM.out.fr0 f) HD.out HD'.out HD3.out h2 (by omega) h2m hp (HT.out.1.fr0 f) (HT.out.2.fr0 f) hY);have C2:=κ (fun W (f:Fr [] w W)=>implExp_any _ _ _ xs zs ms W (HX.out.fr0 f) (HZ.out.fr0 f) (HM.out.fr0 f) HD.out HD2.out HD3.out h2 (by omega) h2m hp (HT.out.1.fr0 f) (HT.out.2.fr0 f) hZ);obtain⟨y0,yb⟩:=valX HD'.out h3;obtain⟨z0,zb⟩:=valX HD2.out h4;have CA:=κ (fun W (f:Fr [] w W)=>implAdd_any _ _ ys zs W (HY.out.fr0 f) HD'.out (by omega) (HZ.out.fr0 f) HD2.out (by omega));have HS:=κ (sumX yb zb);have HYV:=κ hY;have HZV:=κ hZ;have HMv:=κ (valX HD3.out h2m).2;have T2:True:=trivial;have T3:True:=trivial;have T4:True:=trivial;clear h1 h1' h1z h1m hM0 hm0 hp hY hZ y0 yb z0 zb;go_enter Tryz.func3,Tryz.ntmps3
 go_upto_region 5 with(first
  |(go_at_call 4;clear T1;refine(few2_yes 60 A D _ _ _ _ _ _ (by omega) h2 h2m).mono ?_;rintro e w1 ⟨rfl,hw1⟩;have F1:=κ (show Fr [] w w1 by rw[<-hw1];exact f0);clear hw1)
  |(go_at_call 4;refine(few2_yes 8 B C _ _ _ _ _ _ (by omega) h3 h4).mono ?_;rintro e w2 ⟨rfl,hw2⟩;have F2:=κ (show Fr [] w w2 by rw[<-hw2];exact F1.out.alloc _);clear hw2)
  |(go_at_call 6;refine(of_any _ ms _ (HM.out.fr0 F2.out) HD3.out (by omega)).mono ?_;rintro e w3 ⟨v3,rfl,sn3,f3⟩;have F3:=κ (F2.out.t f3);have S3:=κ sn3;clear sn3 f3)
  |(go_at_call 5;refine(bits_any _ _ _ S3.out HMB.out).mono ?_;rintro e w4 ⟨M,rfl,hM,_,rfl⟩;have hMb:=HL.out M hM;clear hM))
 go_wp2_with (first
  |(go_at_call 7;clear T2;refine(C1.out _ F3.out).mono ?_;rintro e w5 ⟨v5,al,rfl,s5,d5,z5,e5,f5⟩;have S5:=κ s5;have D5:=κ d5;have E5:=κ e5;have F5:=κ (F3.out.t f5);have N5:=κ z5;clear s5 d5 z5 e5 f5)
  |(go_at_call 7;clear T3;refine(C2.out _ F5.out).mono ?_;rintro e w6 ⟨v6,bl,rfl,s6,d6,z6,e6,f6⟩;have S5:=κ (S5.out.fr0 f6);have S6:=κ s6;have D6:=κ d6;have E6:=κ e6;have F6:=κ (F5.out.t f6);have N6:=κ z6;clear s6 d6 z6 e6 f6)
  |(go_at_call 8;refine(CA.out _ F6.out).mono ?_;rintro e w7 ⟨v7,rfl,sw7,f7⟩;obtain⟨sl,q1,q2,q3,q4⟩:=sw7.list HS.out;have C3:=κ (fun W (f:Fr [] w7 W)=>implExp_any _ _ _ xs sl ms W (HX.out.fr0 ((F6.out.t f7).t f)) (q1.fr0 f) (HM.out.fr0 ((F6.out.t f7).t f)) HD.out q2 HD3.out h2 (by omega) h2m HP.out (HT.out.1.fr0 ((F6.out.t f7).t f)) (HT.out.2.fr0 ((F6.out.t f7).t f)) (Y:=Y+Z) (by rw[q3,HYV.out,HZV.out];push_cast;rfl));have S5:=κ (S5.out.fr0 f7);have S6:=κ (S6.out.fr0 f7);have F7:=κ (F6.out.t f7);clear sw7 q1 q2 q3 q4 f7)
  |(go_at_call 7;refine(C3.out _ (Fr.refl _ _)).mono ?_;rintro e w8 ⟨v8,cl,rfl,s8,d8,z8,e8,f8⟩;have S5:=κ (S5.out.fr0 f8);have S6:=κ (S6.out.fr0 f8);have S8:=κ s8;have D8:=κ d8;have E8:=κ e8;have N8:=κ z8;have F8:=κ (F7.out.t f8);clear s8 d8 z8 e8 f8)
  |(go_at_call 10;refine(implMul_any _ _ al bl _ S5.out D5.out (ex_len D5.out N5.out E5.out HP.out h2m HD3.out) S6.out D6.out (ex_len D6.out N6.out E6.out HP.out h2m HD3.out) (HT.out.1.kt.fr0 F8.out)).mono ?_;rintro e w9 ⟨v9,rfl,sw9,f9⟩;have S8:=κ (S8.out.fr0 f9);have F9:=κ (F8.out.t f9);have W9:=κ sw9;clear sw9 f9)
  |(go_at_call 9;obtain⟨pl,q1,q2,q3,q4⟩:=W9.out.list (ex_prod E5.out E6.out HP.out HMv.out);have hdv:=implDiv_any _ _ pl ms _ q1 q2 (by omega) (HM.out.fr0 F9.out) HD3.out (by omega) HP.out ⟨HT.out.1.kt.fr0 F9.out,HT.out.1.dt.fr0 F9.out⟩;rw[q3,E5.out,E6.out,exp_sum]at hdv;clear q1 q2 q3 q4;refine hdv.mono ?_;clear hdv;rintro e w10 ⟨v10,r10,rfl,sw10,sr10,f10⟩;obtain⟨rl,q1,q2,q3,q4⟩:=sr10.list (ex_rest HP.out HMv.out);have S8:=κ (S8.out.fr0 f10);have F10:=κ (F9.out.t f10);have R1:=κ q1;have R2:=κ q2;have R3:=κ q3;have R4:=κ q4;clear sw10 sr10 q1 q2 q3 q4 f10)
  |(go_at_call 6;refine(of_any _ rl _ R1.out R2.out (by have:=R4.out;omega)).mono ?_;rw[R3.out];rintro e w11 ⟨v11,rfl,sn11,f11⟩;have S8:=κ (S8.out.fr0 f11);have F11:=κ (F10.out.t f11);have SN:=κ sn11;clear sn11 f11)
  |(go_at_call 11;refine(is_any _ _ cl _ _ S8.out D8.out (Nat.le_trans (ex_len D8.out N8.out E8.out HP.out h2m HD3.out) (by omega)) SN.out E8.out).mono ?_;rintro e w12 ⟨rfl,f12⟩;have F12:=κ (F11.out.t f12);clear f12));go_ret;exact⟨rfl,F12.out⟩
end Go.Proofs.YthecibbmbnpegaaGreatDoor
namespace Go.Big
open Go.RowKit
theorem wf_u64{n:Int}(h:(Lit.int .u64 n).wf=true):0<=n/\n<18446744073709551616:=by
 simp[Lit.wf,IntKind.min,IntKind.max,IntKind.signed,IntKind.bits]at h;omega
theorem sl_of_row{k:IntKind}{w:World}{a:Option Addr}{len cap:Nat}{zs:List Int}
 (h:(a=none/\len=0/\cap=0/\zs=[])\/
   ∃x,a=some x/\len<=cap/\cap<=maxLen/\zs.length=cap/\(∀i,i<zs.length->w.cell? (x.add i)=some (.int k (zs.getD i 0)))/\ ∀n∈zs,(Lit.int k n).wf=true):
 ∃xs:List Int,Sl k w (.slice a len cap) xs/\ ∀n∈xs,(Lit.int k n).wf=true:=by
 rcases h with⟨rfl,rfl,rfl,rfl⟩|⟨x,rfl,hl,hm,hz,hc,hw⟩
 ·exact⟨[],Sl.nil _ _,by simp⟩
 ·refine⟨zs.take len,⟨some x,cap,by rw[List.length_take,Nat.min_eq_left (by omega)],by rw[List.length_take];omega,hm,fun hp=> ?_⟩,fun n hn=>hw n (List.mem_of_mem_take hn)⟩
  rw[List.length_take]at hp;obtain⟨b,off,spot⟩:=x;have h0:=hc 0 (by omega);have hspot:spot=none:=by simpa[Addr.add]using World.cell?_spot h0
  subst hspot;refine⟨b,off,rfl,?_,fun j hj=> ?_⟩
  ·rcases Nat.lt_or_ge b w.heap.size with hlt|hge
   ·exact hlt
   ·unfold World.cell? at h0
    simp only[Addr.add]at h0;rw[Array.getElem?_eq_none (by simpa using hge)]at h0;cases h0
  ·rw[List.length_take]at hj
   have h1:=hc j (by omega);have hlt:j<len:=by omega
   have e:(zs.take len).getD j 0=zs.getD j 0:=by simp[List.getD_eq_getElem?_getD,hlt]
   rw[e,<- h1];congr 1;unfold Addr.add;split
   ·rename_i hj0;subst hj0;rfl
   ·rfl
theorem dg_of_wf{xs:List Int}(h: ∀n∈xs,(Lit.int .u64 n).wf=true):DG 18446744073709551616 xs:=fun n hn=>wf_u64 (h n hn)
end Go.Big
namespace Go.Proofs.YthecibbmbnpegaaGreatDoor.Shut
theorem laidOut:laidOutB Tryz.pinned.checked.prog=true:=by kernel_rfl
theorem rowed:mapsRowed Tryz.pinned.checked.prog=true:=by kernel_rfl
theorem stops:Tryz.pinned.checked.prog.stops=[]:=by kernel_rfl
theorem knobs:Tryz.pinned.checked.prog.stopKnobs=[]:=by kernel_rfl
theorem plain:Tryz.pinned.checked.prog.plainKeys=true:=by kernel_rfl
theorem heard:Tryz.pinned.checked.prog.stopsHeard=true:=by kernel_rfl
theorem enter:Tryz.pinned.checked.prog.mayEnter=true:=by kernel_rfl
theorem lifts:Tryz.pinned.checked.prog.liftsFinal=false:=by kernel_rfl
theorem make:Tryz.pinned.checked.prog.make=some .cut:=by kernel_rfl
end Go.Proofs.YthecibbmbnpegaaGreatDoor.Shut
