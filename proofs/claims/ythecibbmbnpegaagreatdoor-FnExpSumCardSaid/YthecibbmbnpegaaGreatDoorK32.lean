/-
  Part 32 of the proof of the law FnExpSum: XWiW. Conditions: those of each statement.
-/
import Derived.Test.YthecibbmbnpegaaGreatDoorK31
import Derived.Laws.Bits64
import Derived.Deep.DeepCutAuto
import Derived.Deep.RegionWith
set_option linter.unusedSimpArgs false
set_option linter.unusedVariables false
set_option maxRecDepth 100000
set_option maxHeartbeats 40000000
namespace Go.Big
theorem and_one{t:Int}(h0:0<=t)(h1:t<18446744073709551616):bits .and .u64 t 1=t%2:=by
 have:=u64_and_mask t 1 h0 h1 (by omega);simpa using this
theorem u64_and_all(v:Int)(h0:0<=v)(h1:v<18446744073709551616):bits .and .u64 v 18446744073709551615=v%2^64:=by
 obtain⟨m,rfl⟩:=Int.eq_ofNat_of_zero_le h0;have e:(18446744073709551615:Int)=((2^64-1:Nat):Int):=rfl;rw[e,u64_and_nat _ _ (by omega) (by omega),Nat.and_two_pow_sub_one_eq_mod];omega
theorem val_odd{us:List Int}(hl:0<us.length):us.getD 0 0%2=val 18446744073709551616 us%2:=by
 have h:=val_split 18446744073709551616 us 1 (by omega);have e:=val_take_succ' 18446744073709551616 us 0;rw[List.take_zero,val_nil,Int.pow_zero,Int.one_mul,Int.zero_add,Nat.zero_add]at e;rw[e,Int.pow_succ,Int.pow_zero,Int.one_mul]at h;omega
end Go.Big
namespace Go.Proofs.YthecibbmbnpegaaGreatDoor
open Go.Big Go.RowKit
section
variable {s L lz bz oz cz bx ox cx by_ oy cy Y:Nat}{q:Option StkSt}{wB w:World}{Az:Option Addr}{xs ys:List Int}
theorem win_even(hl:Lv s wB q w q [⟨Az,bz,oz,cz,[]⟩] [⟨some ⟨bx,ox,none⟩,bx,ox,cx,xs⟩,⟨some ⟨by_,oy,none⟩,by_,oy,cy,ys⟩])(hz:NwP wB.heap.size s q ⟨Az,bz,oz,cz,[]⟩)(hlz:lz<=cz)(hL0:0<L)(hL:L<=3840)(hx0:0<xs.length)(hx9:xs.length<=100)(hy2:2<=ys.length)(hy9:ys.length<=100)(ny:NZ ys)(hY:val 18446744073709551616 ys=(Y:Int))(hev:val 18446744073709551616 xs%2=0):
 Calls Tryz.prog 67 #[.slice Az lz cz,.pointer (some ⟨s,0,none⟩),.slice (some ⟨bx,ox,none⟩) xs.length cx,.slice (some ⟨by_,oy,none⟩) ys.length cy,.int .u64 (L:Int)] w (RetS s q (val 18446744073709551616 xs^Y%2^L) wB):=by
 have kx:=hl.ok ⟨some ⟨bx,ox,none⟩,bx,ox,cx,xs⟩ (by simp);have ky:=hl.ok ⟨some ⟨by_,oy,none⟩,by_,oy,cy,ys⟩ (by simp);have kz:=hl.ok ⟨Az,bz,oz,cz,[]⟩ (by simp);obtain⟨x0,hx0e⟩: ∃x0,x0=xs.getD 0 0:=⟨_,rfl⟩
 have cx0:w.cell? ⟨bx,ox,none⟩=some (.int .u64 x0):=by
  have:=kx.nm.2.2 hx0 0 hx0;rw[Nat.add_zero]at this;rw[hx0e];exact this
 obtain⟨b0,b1⟩:=kx.dg.getD (by omega) 0;simp only at b0 b1;rw[<-hx0e]at b0 b1
 have hbit:(bits .and .u64 x0 1==0)=true:=by
  have h1:=val_odd hx0;rw[and_one b0 b1,beq_iff_eq,hx0e,h1];exact hev
 have hmz:=kz.c9;have hmx:=kx.c9;have hmy:=ky.c9;have hlx:=kx.nm.le;have hly:=ky.nm.le;simp only at hmz hmx hmy hlx hly
 have hV:val 18446744073709551616 xs^Y%2^L=0:=by
  refine even_pow hev ?_;have h1:=val_pos (B:=18446744073709551616) (by omega) ky.dg ny (by intro e;simp only at e;rw[e]at hy2;simp at hy2);have h2:=pow_le_pow_ (B:=18446744073709551616) (by omega) (show 1<=ys.length-1 by omega);simp only at h1;rw[hY]at h1;omega
 have CW:=κ (setWord0_any Az lz cz w (by unfold maxLen;omega));have HR:=κ (RetS.mk hl NZ.nil rfl rfl hz);rw[hV];clear hl hz kx ky kz hx0e ny hY hev hV;go_enter_defers Tryz.func67,Tryz.ntmps67;refine wp_mono ?_ bodyPostN_D;go_wp2_with (go_at_call 46;refine(CW.out).mono ?_;rintro e w1 ⟨rfl,rfl⟩);show Leaves _ _ _ _ _ _ _;refine⟨_,results_tmp rfl _ _ _,?_⟩;exact HR.out
theorem win_one(hl:Lv s wB q w q [⟨Az,bz,oz,cz,[]⟩] [⟨some ⟨bx,ox,none⟩,bx,ox,cx,xs⟩,⟨some ⟨by_,oy,none⟩,by_,oy,cy,ys⟩])(hz:NwP wB.heap.size s q ⟨Az,bz,oz,cz,[]⟩)(hlz:lz<=cz)(hx0:0<xs.length)(hx9:xs.length<=100)(hy2:2<=ys.length)(hy9:ys.length<=100)(hodd:val 18446744073709551616 xs%2=1):
 Calls Tryz.prog 67 #[.slice Az lz cz,.pointer (some ⟨s,0,none⟩),.slice (some ⟨bx,ox,none⟩) xs.length cx,.slice (some ⟨by_,oy,none⟩) ys.length cy,.int .u64 1] w (RetS s q (val 18446744073709551616 xs^Y%2^1) wB):=by
 have kx:=hl.ok ⟨some ⟨bx,ox,none⟩,bx,ox,cx,xs⟩ (by simp);have ky:=hl.ok ⟨some ⟨by_,oy,none⟩,by_,oy,cy,ys⟩ (by simp);have kz:=hl.ok ⟨Az,bz,oz,cz,[]⟩ (by simp);obtain⟨x0,hx0e⟩: ∃x0,x0=xs.getD 0 0:=⟨_,rfl⟩
 have cx0:w.cell? ⟨bx,ox,none⟩=some (.int .u64 x0):=by
  have:=kx.nm.2.2 hx0 0 hx0;rw[Nat.add_zero]at this;rw[hx0e];exact this
 obtain⟨b0,b1⟩:=kx.dg.getD (by omega) 0;simp only at b0 b1;rw[<-hx0e]at b0 b1
 have hbit:(bits .and .u64 x0 1==0)=false:=by
  have h1:=val_odd hx0;rw[and_one b0 b1,beq_eq_false_iff_ne,hx0e,h1,hodd];decide
 have hmz:=kz.c9;have hmx:=kx.c9;have hmy:=ky.c9;have hlx:=kx.nm.le;have hly:=ky.nm.le;simp only at hmz hmx hmy hlx hly
 have hV:val 18446744073709551616 xs^Y%2^1=1:=by
  have h1:Cg 2 (val 18446744073709551616 xs) 1:=⟨val 18446744073709551616 xs/2,by omega⟩;have h2:=(h1.pow Y).eq;rw[Int.one_pow]at h2;exact h2
 rw[hV];have CW:=κ (setWordL hl (v:=1) (by omega) (by omega) hlz);have HL:=κ hl;have HZ:=κ hz;clear hl hz kx ky kz hx0e hodd hV;go_enter_defers Tryz.func67,Tryz.ntmps67;refine wp_mono ?_ bodyPostN_D;go_wp2_with (go_at_call 46;refine(CW.out).mono ?_;rintro e w1 ⟨z1,q1,rfl,lv1,nz1,v1,ll1,le1,pl1,_⟩;have L1:=κ lv1;have N1:=κ nz1;have V1:=κ v1;have LL1:=κ ll1;have PL1:=κ pl1;have LE1:=κ le1;clear lv1 nz1 v1 ll1 le1 pl1);show Leaves _ _ _ _ _ _ _;refine⟨_,results_tmp rfl _ _ _,?_⟩;exact RetS.mk L1.out N1.out V1.out LL1.out (HZ.out.put HL.out.fr.size LE1.out (HL.out.lt (by simp)) PL1.out)
theorem win_main(hl:Lv s wB q w q [⟨Az,bz,oz,cz,[]⟩] [⟨some ⟨bx,ox,none⟩,bx,ox,cx,xs⟩,⟨some ⟨by_,oy,none⟩,by_,oy,cy,ys⟩])(hz:NwP wB.heap.size s q ⟨Az,bz,oz,cz,[]⟩)(hlz:lz<=cz)(hln:lenS q<=40000000000)(hL2:2<=L)(hL:L<=3840)(hx0:0<xs.length)(hx9:xs.length<=100)(nx:NZ xs)(hy2:2<=ys.length)(hy9:ys.length<=100)(ny:NZ ys)(hY:val 18446744073709551616 ys=(Y:Int))(hodd:val 18446744073709551616 xs%2=1):
 Calls Tryz.prog 67 #[.slice Az lz cz,.pointer (some ⟨s,0,none⟩),.slice (some ⟨bx,ox,none⟩) xs.length cx,.slice (some ⟨by_,oy,none⟩) ys.length cy,.int .u64 (L:Int)] w (RetS s q (val 18446744073709551616 xs^Y%2^L) wB):=by
 have kx:=hl.ok ⟨some ⟨bx,ox,none⟩,bx,ox,cx,xs⟩ (by simp);have ky:=hl.ok ⟨some ⟨by_,oy,none⟩,by_,oy,cy,ys⟩ (by simp);have kz:=hl.ok ⟨Az,bz,oz,cz,[]⟩ (by simp);obtain⟨x0,hx0e⟩: ∃x0,x0=xs.getD 0 0:=⟨_,rfl⟩
 have cx0:w.cell? ⟨bx,ox,none⟩=some (.int .u64 x0):=by
  have:=kx.nm.2.2 hx0 0 hx0;rw[Nat.add_zero]at this;rw[hx0e];exact this
 obtain⟨b0,b1⟩:=kx.dg.getD (by omega) 0;simp only at b0 b1;rw[<-hx0e]at b0 b1
 have hbit:(bits .and .u64 x0 1==0)=false:=by
  have h1:=val_odd hx0;rw[and_one b0 b1,beq_eq_false_iff_ne,hx0e,h1,hodd];decide
 have hmz:=kz.c9;have hmx:=kx.c9;have hmy:=ky.c9;have hlx:=kx.nm.le;have hly:=ky.nm.le;simp only at hmz hmx hmy hlx hly;have hL1:((L:Int)==1)=false:=by rw[beq_eq_false_iff_ne];omega
 obtain⟨nw,hnw⟩: ∃nw,nw=(L+63)/64:=⟨_,rfl⟩;have hwI:((L:Int)+64-1)/64=(nw:Int):=by omega
 have hn0:0<nw:=by omega
 have hn9:nw<=60:=by omega
 have HL:=κ hl;have HZ:=κ hz;have HNX:=κ nx;have HNY:=κ ny;have HY:=κ hY;have HO:=κ hodd;have HNW:=κ hnw;have CSV:=κ (save_any s q w hl.st);have CNT:=κ (natL hl hn0 (by omega) (by omega));have HSZ:=κ hl.fr.size;have HX0:=κ (val_nonneg (B:=18446744073709551616) (by omega) kx.dg);have HX100:=κ (val_lt_of_len (B:=18446744073709551616) (by omega) kx.dg (k:=100) hx9);clear hl hz kx ky kz hx0e hodd nx ny hY hnw;go_enter_defers Tryz.func67,Tryz.ntmps67;refine wp_mono ?_ bodyPostN_D
 go_upto_region 10 with(first
  |(go_at_call 54;refine(CSV.out).mono ?_;rintro e w1 ⟨rfl,rfl⟩)
  |(go_at_call 55;refine(CNT.out).mono ?_;rintro e w2 ⟨bq,oq,cq,q2,rfl,hc1,hc9,lv2,ll2,ll3,le2,fc2⟩;have LV2:=κ (lv2.perm (List.Perm.swap _ _ []));have LE2:=κ le2;have LL3:=κ ll3;clear lv2 ll2 ll3 le2 fc2));go_cut [13]from 52 to 52 (fun v13 wx=> ∃pb:Nat,v13= .pointer (some ⟨pb,0,none⟩)/\WiP s wB q nw [⟨some ⟨bx,ox,none⟩,bx,ox,cx,xs⟩,⟨some ⟨by_,oy,none⟩,by_,oy,cy,ys⟩] ⟨Az,bz,oz,cz,[]⟩ ⟨some ⟨bq,oq,none⟩,bq,oq,cq,[]⟩ [] pb (List.replicate 16 nilV) (fun _=>none) wx q2)
 case first=>
  go_wp2_with fail;go_meet;exact⟨w2.heap.size,rfl,wi_p0 LV2.out⟩
 case rest=>
  obtain⟨pb,rfl,hP0⟩:=hcut;obtain⟨w3,hw3⟩: ∃w3,w3=wc:=⟨_,rfl⟩;subst hw3;have HP0:=κ hP0;have HZ2:=κ (HZ.out.le LE2.out (HL.out.lt (by simp)));clear hP0;go_wp2_with fail;go_loopg [52] 16 (fun gg v52 wx=> ∃(i:Nat) (ps:List Pn) (vs:List Value) (q3:Option StkSt),v52= .int .i64 (i:Int)/\i<=16/\gg=16-i/\ps.length=i/\WiP s wB q nw [⟨some ⟨bx,ox,none⟩,bx,ox,cx,xs⟩,⟨some ⟨by_,oy,none⟩,by_,oy,cy,ys⟩] ⟨Az,bz,oz,cz,[]⟩ ⟨some ⟨bq,oq,none⟩,bq,oq,cq,[]⟩ ps pb vs (fun _=>none) wx q3/\NwP wB.heap.size s q3 ⟨Az,bz,oz,cz,[]⟩/\lenS q3<=lenS q+(i+1)*70);case atStart=>exact⟨0,[],_,q2,rfl,by omega,rfl,rfl,HP0.out,HZ2.out,by have:=LL3.out;omega⟩
  case round=>
   obtain⟨i,ps,vs,q3,rfl,hi,rfl,rfl,hP,hz3,hl3⟩:=hrel;have HP:=κ hP;have HZ3:=κ hz3;by_cases hi16:ps.length<16
   ·have hiI:(ps.length:Int)<16:=by omega
    have CN:=κ (wi_nat hP rfl hi16 hn0 (by omega) (by omega));have e5:IntKind.i64.wrap ((ps.length:Int)+1)=((ps.length+1:Nat):Int):=by rw[IntKind.wrap_i64];omega
    clear hP hz3;go_wp2_with (go_at_call 55;refine(CN.out).mono ?_;rintro e w4 ⟨A4,c4,q4,ps4,rfl,hp4,hl4,hle4,hps4,hP4⟩;have P4:=κ hP4;have HLE4:=κ hle4;have HPS4:=κ hps4;have hcell:=hp4.cell hi16;have hfz:=hp4.frozen ps.length;obtain⟨old,hold⟩: ∃old,old=vs.getD ps.length nilV:=⟨_,rfl⟩;rw[<-hold]at hcell;clear hP4 hle4 hps4 hp4 hold);go_roundg (16-(ps.length+1));case measure=>omega
    case rel=>exact⟨ps.length+1,ps4,_,q4,by first|rfl|go_num,by omega,rfl,HPS4.out,P4.out,HZ3.out.le HLE4.out (HP.out.lv.lt (by simp)),by omega⟩
   ·have hT:WiT s wB q nw [⟨some ⟨bx,ox,none⟩,bx,ox,cx,xs⟩,⟨some ⟨by_,oy,none⟩,by_,oy,cy,ys⟩] ⟨Az,bz,oz,cz,[]⟩ ⟨some ⟨bq,oq,none⟩,bq,oq,cq,[]⟩ pb (fun _=>none) wr:=⟨ps,vs,q3,by omega,hP,hz3⟩
    have HT:=κ hT;clear hP hz3 hT HP HZ3;go_upto_region 16 with fail;go_cut [64]from 61 to 65 (fun v64 wx=>WiT s wB q nw [⟨some ⟨bx,ox,none⟩,bx,ox,cx,xs⟩,⟨some ⟨by_,oy,none⟩,by_,oy,cy,ys⟩] ⟨Az,bz,oz,cz,[]⟩ ⟨some ⟨bq,oq,none⟩,bq,oq,cq,[]⟩ pb (upd (fun _=>none) 0 1) wx)
    case first=>
     obtain⟨ps5,vs5,q5,h16,hP5,hz5⟩:=HT.out;have HP5:=κ hP5;have HZ5:=κ hz5;have pc0:=hP5.pk.cell (i:=0) (by omega);obtain⟨v0,hv0⟩: ∃v,v=vs5.getD 0 nilV:=⟨_,rfl⟩;have HV0:=κ hv0;rw[<-hv0]at pc0;clear hP5 hz5 hv0
     go_region_with (first
      |(go_at_call 92;refine(natOneP _).mono ?_;rintro e w6 ⟨b6,rfl,row6,hb6,f6⟩;have R6:=κ row6;have F6:=κ (show Fr [] wr w6 from⟨f6.os,f6.tape,f6.output,f6.size,f6.block⟩);have HB6:=κ hb6;have pc6:=F6.out.cell_some pc0 (by simp);clear row6 f6 hb6)
      |(go_at_call 41;have CS:=wi_one HP5.out (by omega) F6.out R6.out HB6.out;rw[<-HV0.out,h16]at CS;refine CS.mono ?_;intro e w7 hq;obtain⟨A7,l7,c7,rfl,hp7,hT7⟩:=hq.t (HP5.out.fr F6.out) HZ5.out;have HT7:=κ hT7;have pc7:=hp7.cell (i:=0) (by omega);have fz7:=hp7.frozen 0;obtain⟨old,hold⟩: ∃old,old=vs5.getD 0 nilV:=⟨_,rfl⟩;rw[<-hold]at pc7;clear CS hq hT7 hp7 hold))
     all_goals (
      clear pc0 pc6;go_wp2_with fail;go_meet;exact HT7.out)
    case rest=>
     have hT0:=hcut;obtain⟨w8,hw8⟩: ∃w8,w8=wc:=⟨_,rfl⟩;subst hw8;have HT0:=κ hT0;clear hcut hT0 HT;go_upto_region 17 with fail;go_cut [70]from 66 to 71 (fun v70 wx=>WiT s wB q nw [⟨some ⟨bx,ox,none⟩,bx,ox,cx,xs⟩,⟨some ⟨by_,oy,none⟩,by_,oy,cy,ys⟩] ⟨Az,bz,oz,cz,[]⟩ ⟨some ⟨bq,oq,none⟩,bq,oq,cq,[]⟩ pb (fk (val 18446744073709551616 xs) L 2) wx)
     case first=>
      obtain⟨ps5,vs5,q5,h16,hP5,hz5⟩:=HT0.out;have HP5:=κ hP5;have HZ5:=κ hz5;have pc0:=hP5.pk.cell (i:=1) (by omega);obtain⟨v0,hv0⟩: ∃v,v=vs5.getD 1 nilV:=⟨_,rfl⟩;rw[<-hv0]at pc0;have CT:=wi_trx (x:=⟨some ⟨bx,ox,none⟩,bx,ox,cx,xs⟩) hP5 (i:=1) (by omega) (by simp) HNX.out (by simp only;omega) (show 0<L by omega) (by omega);rw[<-hv0,h16]at CT;unfold Pn.v at CT;simp only at CT;have HCT:=κ CT;clear hP5 hz5 CT hv0;go_wp2_with (go_at_call 96;refine(HCT.out).mono ?_;intro e w7 hq;obtain⟨A7,l7,c7,rfl,hp7,hT7⟩:=hq.t HP5.out HZ5.out;have HT7:=κ hT7;have pc7:=hp7.cell (i:=1) (by omega);have fz7:=hp7.frozen 1;obtain⟨old,hold⟩: ∃old,old=vs5.getD 1 nilV:=⟨_,rfl⟩;rw[<-hold]at pc7;clear hq hT7 hp7 hold);go_meet;refine HT7.out.congr (fun j hj=> ?_);unfold upd fk;rcases(show j=0\/j=1\/2<=j by omega)with rfl|rfl|hj2
      ·have:(1:Int)%2^L=1:=Int.emod_eq_of_lt (by omega) (by have:=pow_le_pow_ (B:=2) (by omega) hL2;omega)
       simp[this]
      ·simp[Int.pow_succ];rfl
      ·rw[if_neg (by omega),if_neg (by omega),if_neg (by omega)]
     case rest=>
      have hT1:=hcut;obtain⟨w9,hw9⟩: ∃w9,w9=wc:=⟨_,rfl⟩;subst hw9;have HT1:=κ hT1;clear hcut hT1 HT0;go_wp2_with fail;go_loopg [15] 7 (fun gg v15 wx=> ∃(k I:Nat),v15= .int .i64 (I:Int)/\I=2*k/\1<=k/\k<=8/\gg=8-k/\WiT s wB q nw [⟨some ⟨bx,ox,none⟩,bx,ox,cx,xs⟩,⟨some ⟨by_,oy,none⟩,by_,oy,cy,ys⟩] ⟨Az,bz,oz,cz,[]⟩ ⟨some ⟨bq,oq,none⟩,bq,oq,cq,[]⟩ pb (fk (val 18446744073709551616 xs) L I) wx);case atStart=>exact⟨1,2,rfl,rfl,by omega,by omega,rfl,HT1.out⟩
      case round=>
       obtain⟨k,I,rfl,hI,hk1,hk8,rfl,hT⟩:=hrel;have HT2:=κ hT;have HI:=κ hI;clear hT;by_cases hI16:I<16
       ·have hI16':(I:Int)<16:=by omega
        have hk8':k<8:=by omega
        have q1:(I:Int)/2=(k:Int):=by omega
        have q2:IntKind.i64.wrap (k:Int)=(k:Int):=by rw[IntKind.wrap_i64];omega
        have q3:(I:Int).tdiv 2=(k:Int):=by rw[hI];simp
        have q4:IntKind.i64.wrap ((I:Int)+1)=((I+1:Nat):Int):=by rw[IntKind.wrap_i64];omega
        have q5:IntKind.i64.wrap ((I:Int)+2)=((I+2:Nat):Int):=by rw[IntKind.wrap_i64];omega
        have q6:(k:Int)<16:=by omega
        have q7:((I+1:Nat):Int)<16:=by omega
        clear hI;go_upto_region 21 with fail;go_quiet (fail);go_upto_region 22 with fail;have HT3:=κ HT2.out;have hIk:k<I:=by have:=HI.out;omega
        have hI1:I+1<16:=by have:=HI.out;omega
        have hI16n:I<16:=hI16;have hk16:k<16:=by omega
        go_cut [92]from 84 to 93 (fun v92 wx=>WiT s wB q nw [⟨some ⟨bx,ox,none⟩,bx,ox,cx,xs⟩,⟨some ⟨by_,oy,none⟩,by_,oy,cy,ys⟩] ⟨Az,bz,oz,cz,[]⟩ ⟨some ⟨bq,oq,none⟩,bq,oq,cq,[]⟩ pb (upd (fk (val 18446744073709551616 xs) L I) I ((val 18446744073709551616 xs)^k%2^L*((val 18446744073709551616 xs)^k%2^L))) wx)
        case first=>
         obtain⟨ps5,vs5,q5,h16,hP5,hz5⟩:=HT3.out;have HP5:=κ hP5;have HZ5:=κ hz5;have pc0:=hP5.pk.cell (i:=I) (by omega);have pc1:=hP5.pk.cell (i:=k) (by omega);have CS:=wi_sqi (hP5.fr ((Fr.refl [] _).drewN nq).drew) (i:=I) (j:=k) (V:=(val 18446744073709551616 xs)^k%2^L) (by omega) hIk (if_pos hIk) (k:=60) (fk_lt hL) (by omega);obtain⟨v0,hv0⟩: ∃v,v=vs5.getD (I) nilV:=⟨_,rfl⟩;rw[<-hv0]at pc0 CS;obtain⟨v1,hv1⟩: ∃v,v=vs5.getD (k) nilV:=⟨_,rfl⟩;rw[<-hv1]at pc1 CS;rw[h16]at CS;have HCS:=κ CS;clear hP5 hz5 CS hv0 hv1;go_region_with (go_at_call 70;refine(HCS.out).mono ?_;intro e w7 hq;obtain⟨A7,l7,c7,rfl,hp7,hT7⟩:=hq.t (HP5.out.fr ((Fr.refl [] _).drewN nq).drew) HZ5.out;have HT7:=κ hT7;have pc7:=hp7.cell (i:=I) (by omega);have fz7:=hp7.frozen (I);obtain⟨old,hold⟩: ∃old,old=vs5.getD (I) nilV:=⟨_,rfl⟩;rw[<-hold]at pc7;clear hq hT7 hp7 hold)
         all_goals (
          clear pc0 pc1;go_wp2_with fail;go_meet;exact HT7.out)
        case rest=>
         have hT:=hcut;obtain⟨w22,hw⟩: ∃wq,wq=wc:=⟨_,rfl⟩;subst hw;have HT22:=κ hT;clear hcut hT;clear HT2 HT3;go_upto_region 23 with fail;go_cut [102]from 94 to 103 (fun v102 wx=>WiT s wB q nw [⟨some ⟨bx,ox,none⟩,bx,ox,cx,xs⟩,⟨some ⟨by_,oy,none⟩,by_,oy,cy,ys⟩] ⟨Az,bz,oz,cz,[]⟩ ⟨some ⟨bq,oq,none⟩,bq,oq,cq,[]⟩ pb (fk (val 18446744073709551616 xs) L (I+1)) wx)
         case first=>
          obtain⟨ps5,vs5,q5,h16,hP5,hz5⟩:=HT22.out;have HP5:=κ hP5;have HZ5:=κ hz5;have pc0:=hP5.pk.cell (i:=I) (by omega);have CS:=wi_tri (hP5.fr (Fr.refl [] _).drew) (i:=I) (V:=(val 18446744073709551616 xs)^k%2^L*((val 18446744073709551616 xs)^k%2^L)) (by omega) (if_pos rfl) (k:=120) (by have h1:=fk_lt (X:=(val 18446744073709551616 xs)) (j:=k) hL;have h2:=fk_nn (X:=(val 18446744073709551616 xs)) (L:=L) (j:=k);rw[show(18446744073709551616:Int)^120=18446744073709551616^60*18446744073709551616^60 from(Int.pow_add _ 60 60)];exact mul_lt4 h1 h1 h2 h2) (by omega) (show 0<L by omega) (by omega);obtain⟨v0,hv0⟩: ∃v,v=vs5.getD (I) nilV:=⟨_,rfl⟩;rw[<-hv0]at pc0 CS;rw[h16]at CS;have HCS:=κ CS;clear hP5 hz5 CS hv0;go_region_with (go_at_call 96;refine(HCS.out).mono ?_;intro e w7 hq;obtain⟨A7,l7,c7,rfl,hp7,hT7⟩:=hq.t (HP5.out.fr (Fr.refl [] _).drew) HZ5.out;have HT7:=κ hT7;have pc7:=hp7.cell (i:=I) (by omega);have fz7:=hp7.frozen (I);obtain⟨old,hold⟩: ∃old,old=vs5.getD (I) nilV:=⟨_,rfl⟩;rw[<-hold]at pc7;clear hq hT7 hp7 hold)
          all_goals (
           clear pc0;go_wp2_with fail;go_meet;exact HT7.out.congr (fk_sq HI.out _))
         case rest=>
          have hT:=hcut;obtain⟨w23,hw⟩: ∃wq,wq=wc:=⟨_,rfl⟩;subst hw;have HT23:=κ hT;clear hcut hT;clear HT22;go_upto_region 24 with fail;go_cut [113]from 104 to 114 (fun v113 wx=>WiT s wB q nw [⟨some ⟨bx,ox,none⟩,bx,ox,cx,xs⟩,⟨some ⟨by_,oy,none⟩,by_,oy,cy,ys⟩] ⟨Az,bz,oz,cz,[]⟩ ⟨some ⟨bq,oq,none⟩,bq,oq,cq,[]⟩ pb (upd (fk (val 18446744073709551616 xs) L (I+1)) (I+1) ((val 18446744073709551616 xs)^I%2^L*(val 18446744073709551616 xs))) wx)
          case first=>
           obtain⟨ps5,vs5,q5,h16,hP5,hz5⟩:=HT23.out;have HP5:=κ hP5;have HZ5:=κ hz5;have pc0:=hP5.pk.cell (i:=I+1) (by omega);have pc1:=hP5.pk.cell (i:=I) (by omega);have CS:=wi_mulx (x:=⟨some ⟨bx,ox,none⟩,bx,ox,cx,xs⟩) (hP5.fr (Fr.refl [] _).drew) (i:=I+1) (j:=I) (V:=(val 18446744073709551616 xs)^I%2^L) (by omega) (by omega) (if_pos (by omega)) (k:=60) (fk_lt hL) (by omega) (by simp) (by simp only;omega);obtain⟨v0,hv0⟩: ∃v,v=vs5.getD (I+1) nilV:=⟨_,rfl⟩;rw[<-hv0]at pc0 CS;obtain⟨v1,hv1⟩: ∃v,v=vs5.getD (I) nilV:=⟨_,rfl⟩;rw[<-hv1]at pc1 CS;rw[h16]at CS;have HCS:=κ CS;clear hP5 hz5 CS hv0 hv1;go_region_with (go_at_call 33;refine(HCS.out).mono ?_;intro e w7 hq;obtain⟨A7,l7,c7,rfl,hp7,hT7⟩:=hq.t (HP5.out.fr (Fr.refl [] _).drew) HZ5.out;have HT7:=κ hT7;have pc7:=hp7.cell (i:=I+1) (by omega);have fz7:=hp7.frozen (I+1);obtain⟨old,hold⟩: ∃old,old=vs5.getD (I+1) nilV:=⟨_,rfl⟩;rw[<-hold]at pc7;clear hq hT7 hp7 hold)
           all_goals (
            clear pc0 pc1;go_wp2_with fail;go_meet;exact HT7.out)
          case rest=>
           have hT:=hcut;obtain⟨w24,hw⟩: ∃wq,wq=wc:=⟨_,rfl⟩;subst hw;have HT24:=κ hT;clear hcut hT;clear HT23;go_upto_region 25 with fail;obtain⟨ps5,vs5,q5,h16,hP5,hz5⟩:=HT24.out;have HP5:=κ hP5;have HZ5:=κ hz5;have pc0:=hP5.pk.cell (i:=I+1) (by omega);have CS:=wi_tri (hP5.fr (Fr.refl [] _).drew) (i:=I+1) (V:=(val 18446744073709551616 xs)^I%2^L*(val 18446744073709551616 xs)) (by omega) (if_pos rfl) (k:=160) (by have h1:=fk_lt (X:=(val 18446744073709551616 xs)) (j:=I) hL;have h2:=fk_nn (X:=(val 18446744073709551616 xs)) (L:=L) (j:=I);rw[show(18446744073709551616:Int)^160=18446744073709551616^60*18446744073709551616^100 from(Int.pow_add _ 60 100)];exact mul_lt4 h1 HX100.out h2 HX0.out) (by omega) (show 0<L by omega) (by omega);obtain⟨v0,hv0⟩: ∃v,v=vs5.getD (I+1) nilV:=⟨_,rfl⟩;rw[<-hv0]at pc0 CS;rw[h16]at CS;have HCS:=κ CS;clear hP5 hz5 CS hv0;go_region_with (go_at_call 96;refine(HCS.out).mono ?_;intro e w7 hq;obtain⟨A7,l7,c7,rfl,hp7,hT7⟩:=hq.t (HP5.out.fr (Fr.refl [] _).drew) HZ5.out;have HT7:=κ hT7;have pc7:=hp7.cell (i:=I+1) (by omega);have fz7:=hp7.frozen (I+1);obtain⟨old,hold⟩: ∃old,old=vs5.getD (I+1) nilV:=⟨_,rfl⟩;rw[<-hold]at pc7;clear hq hT7 hp7 hold)
           all_goals (
            clear pc0;go_wp2_with fail;go_roundg (8-(k+1));case measure=>omega
            case rel=>exact⟨k+1,I+2,by first|rfl|go_num,by have:=HI.out;omega,by omega,by omega,rfl,HT7.out.congr (fk_mul _)⟩)
       ·obtain rfl:k=8:=by omega
        have HT5:=κ (show WiT s wB q nw [⟨some ⟨bx,ox,none⟩,bx,ox,cx,xs⟩,⟨some ⟨by_,oy,none⟩,by_,oy,cy,ys⟩] ⟨Az,bz,oz,cz,[]⟩ ⟨some ⟨bq,oq,none⟩,bq,oq,cq,[]⟩ pb (fk (val 18446744073709551616 xs) L 16) wr from by have h:=HT2.out;have hI':I=16:=(by omega);rwa[hI']at h);obtain⟨t0,ht0⟩: ∃t0,t0=(L-2)/64:=⟨_,rfl⟩;obtain⟨mb,hmb⟩: ∃mb,mb=(L-1)%64:=⟨_,rfl⟩;have e1:((L:Int)-2)/64=(t0:Int):=by omega
        have e2:bits .and .u64 ((L:Int)-1) 63=(mb:Int):=by
         have:=u64_and_mask ((L:Int)-1) 6 (by omega) (by omega) (by omega);rw[show(2:Int)^6-1=63 from rfl,show(2:Int)^6=64 from rfl]at this;rw[this];omega
        obtain⟨ms,hms⟩: ∃ms,ms=L-1-64*t0:=⟨_,rfl⟩;have HT0':=κ ht0;have HMB:=κ hmb;have HMS:=κ hms;have hmb64:mb<64:=by omega
        clear ht0 hmb hms hI;go_upto_if 136 with fail;go_cut [21]from 136 to 139 (fun v21 wx=> ∃mm:Int,v21= .int .u64 mm/\wr=wx/\ ∀v:Int,0<=v->v<18446744073709551616->bits .and .u64 v mm=v%2^ms)
        case first=>
         by_cases hm0:mb=0
         ·have hb:((mb:Int) !=0)=false:=by rw[bne_eq_false_iff_eq];omega
          have HM0:=κ hm0;try simp only[hb]
          clear hm0;go_wp2_with fail;go_meet;refine⟨_,rfl,rfl,fun v h0 h1=> ?_⟩;have h2:ms=64:=by have:=HM0.out;have:=HMB.out;have:=HMS.out;have:=HT0'.out;omega
          rw[h2];exact u64_and_all v h0 h1
         ·have hb:((mb:Int) !=0)=true:=by rw[bne_iff_ne];omega
          have HM0:=κ hm0;obtain⟨Pm,hPm⟩: ∃Pm:Int,Pm=2^mb:=⟨_,rfl⟩;have hpow:(2:Int)^mb=Pm:=hPm.symm;have hmin:min mb 64=mb:=by omega
          have hP1:1<=Pm:=by rw[hPm];have:=pow_pos_ (B:=2) (by omega) mb;omega
          have hP2:Pm<18446744073709551616:=by
           have h1:=pow_le_pow_ (B:=2) (by omega) (show mb<=63 by omega);rw[show(2:Int)^63=9223372036854775808 from rfl]at h1;omega
          have hwP:IntKind.u64.wrap Pm=Pm:=by rw[IntKind.wrap_u64];omega
          have HPM:=κ hPm;try simp only[hb]
          clear hm0 hPm;go_wp2_with fail;go_meet;refine⟨_,rfl,rfl,fun v h0 h1=> ?_⟩;have h2:ms=mb:=by have:=HM0.out;have:=HMB.out;have:=HMS.out;have:=HT0'.out;omega
          rw[h2,HPM.out];exact u64_and_mask v mb h0 h1 hmb64
        case rest=>
         obtain⟨mm,rfl,rfl,hmask⟩:=hcut;have HMASK:=κ hmask;obtain⟨i0,hi0⟩: ∃i0,i0=min (ys.length-1) t0:=⟨_,rfl⟩;have HI0:=κ hi0;clear hmask hi0;go_upto_if 142 with fail;go_cut [19]from 142 to 143 (fun v19 wx=>v19= .int .i64 (i0:Int)/\wr=wx)
         case first=>
          by_cases hgt:(t0:Int)<(ys.length:Int)-1
          ·have hd:decide ((t0:Int)<(ys.length:Int)-1)=true:=decide_eq_true hgt
           have hit:(t0:Int)=(i0:Int):=by have:=HI0.out;omega
           have HIT:=κ hit;try simp only[hd]
           clear hit hgt;go_wp2_with fail;go_meet;exact⟨by rw[HIT.out],rfl⟩
          ·have hd:decide ((t0:Int)<(ys.length:Int)-1)=false:=decide_eq_false hgt
           have hit:(ys.length:Int)-1=(i0:Int):=by have:=HI0.out;omega
           have HIT:=κ hit;try simp only[hd]
           clear hit hgt;go_wp2_with fail;go_meet;exact⟨by rw[HIT.out],rfl⟩
         case rest=>
          obtain⟨rfl,rfl⟩:=hcut;obtain⟨ps0,vs0,q0',h160,hP0',hz0'⟩:=HT5.out;obtain⟨E,hE⟩: ∃E,E=Y%2^(L-1):=⟨_,rfl⟩;have HE:=κ hE;have CSW:=wi_start hP0' h160 hz0' (l:=nw) hc1 hlz;have HCSW:=κ CSW;have hi0l:i0+1<=ys.length:=by have:=HI0.out;omega
          clear hP0' hz0' hE CSW;go_wp2_with (go_at_call 46;refine(HCSW.out).mono ?_;rintro e w30 ⟨v30,rfl,hs⟩;have HS0:=κ hs;clear hs);go_loopg [0,12,19,23] (i0+1) (WuR s wB q (val 18446744073709551616 xs) L nw [⟨some ⟨bx,ox,none⟩,bx,ox,cx,xs⟩,⟨some ⟨by_,oy,none⟩,by_,oy,cy,ys⟩] pb vs0 E i0)
          case atStart=>
           have hE0:E/2^(64*(i0+1))=0:=by
            apply Nat.div_eq_of_lt;rw[HE.out];rcases(show i0=t0\/i0+1=ys.length by have:=HI0.out;omega)with h|h
            ·refine Nat.lt_of_lt_of_le (Nat.mod_lt _ (Nat.pow_pos (by omega))) (Nat.pow_le_pow_right (by omega) ?_)
             have:=HT0'.out;omega
            ·refine Nat.lt_of_le_of_lt (Nat.mod_le _ _) ?_
             have h1:=val_lt (B:=18446744073709551616) (by omega) ((HL.out.ok ⟨some ⟨by_,oy,none⟩,by_,oy,cy,ys⟩ (by simp)).dg);simp only at h1;rw[HY.out,<- pow_words,Nat.mul_comm,<- h]at h1;exact_mod_cast h1
           refine⟨i0+1,_,false,rfl,by omega,Nat.le_refl _,rfl,rfl,fun _=>hE0,HS0.out.val ?_⟩;rw[hE0,Int.pow_zero];have:=pow_le_pow_ (B:=2) (by omega) hL2;exact(Int.emod_eq_of_lt (by omega) (by omega)).symm
          case round=>
           obtain⟨i1,x,b,rfl,hx,hi1,hg,rfl,hb0,hS⟩:=hrel;have hg:=hg.symm;subst hg;have HS:=κ hS;have HB0:=κ hb0;rcases Nat.eq_zero_or_pos i1 with rfl|hip
           ·obtain rfl:x= -1:=by omega
            obtain⟨z1,zz1,ps1,l1,q9,rfl,rfl,hl1,hp1,P1,nz1,hv1,_,hnw1⟩:=hS;have k1:=P1.lv.ok z1 (by simp);have CN:Calls Tryz.prog 34 #[z1.v] wr _:=normN_any z1.A z1.b z1.o z1.c z1.xs wr k1.nm k1.dg;have HCN:=κ CN;have HK1:=κ k1;have HP1:=κ P1;have HNW1:=κ hnw1
            have hfin:z1.n=(val 18446744073709551616 xs)^Y%2^L:=by
             rw[hv1,Nat.mul_zero,Nat.pow_zero,Nat.div_one,HE.out];have h1:=odd_cut HO.out (L-1) Y;rw[show L-1+1=L by omega]at h1;exact h1.symm.eq
            have HFIN:=κ hfin;clear hfin k1 P1 nz1 hv1 hnw1 CN hb0 hx HS HB0;go_wp2_with (go_at_call 34;refine(HCN.out).mono ?_;rintro e w28 ⟨⟨zs,rfl,g1,g2,g3,g4,g5⟩,rfl⟩;have G1:=κ g1;have G2:=κ g2;have G3:=κ g3;have G4:=κ g4;clear g1 g2 g3 g4 g5);show Leaves _ _ _ _ _ _ _;refine leaves_cons (f:=53) (args:= #[.pointer (some ⟨s,0,none⟩),.int .i64 ((lenS q:Nat):Int)]) (by simp) (by simp[go_sem]) ?_;refine(restore_deferred s (lenS q) q9 .returning _ HP1.out.lv.st (dr_cap HP1.out.lv.st HP1.out.lv.l0)).mono ?_;rintro e u' w29 ⟨rfl,rfl,hst4,hf4⟩;refine⟨_,results_tmp rfl _ _ _,?_⟩;exact HP1.out.lv.restore (z:=⟨z1.A,z1.b,z1.o,z1.c,zs⟩) HNW1.out ⟨G1.out,G2.out,HK1.out.c9,HK1.out.off⟩ rfl hst4 hf4 G3.out (G4.out.trans HFIN.out)
           ·obtain⟨i2,rfl⟩: ∃i2,i1=i2+1:=⟨i1-1,by omega⟩
            obtain rfl:x=(i2:Int):=by omega
            obtain⟨qy,ky⟩:=hS.mem (y:=⟨some ⟨by_,oy,none⟩,by_,oy,cy,ys⟩) (by simp);have cyi:=ky.nm.2.2 (by simp only;omega) i2 (by simp only;omega);simp only at cyi;rw[word_at ky.dg (by simp only;omega) HY.out]at cyi;obtain⟨y0,hy0'⟩: ∃y0,y0=Y/2^(64*i2)%2^64:=⟨_,rfl⟩;rw[<-hy0']at cyi;obtain⟨y1,hy1⟩: ∃y1,y1=E/2^(64*i2)%2^64:=⟨_,rfl⟩;have HY0:=κ hy0';have HY1:=κ hy1;have hi2:(i2:Int)<(ys.length:Int):=by omega
            have hit:i2<=t0:=by have:=HI0.out;omega
            have hy064:(y0:Int)<18446744073709551616:=by omega
            clear hS hx hy0' hy1 ky;go_upto_if 156 with fail;go_cut [24]from 156 to 159 (fun v24 wx=>v24= .int .u64 (y1:Int)/\wr=wx)
            case first=>
             by_cases heq:i2=t0
             ·have hd:((i2:Int)==(t0:Int))=true:=by rw[beq_iff_eq];omega
              have hm:=HMASK.out (y0:Int) (by omega) hy064
              have hyy:(y0:Int)%2^ms=(y1:Int):=by
               have h1:=cut_top (Y:=Y) (L:=L-1) (i:=i2) (b:=ms) (by have:=HMS.out;have:=HT0'.out;omega) (by have:=HMS.out;have:=HT0'.out;omega);rw[<-HE.out,<- HY0.out,<- HY1.out]at h1;rw[h1];simp
              rw[hyy]at hm;try simp only[hd]
              clear heq hyy;go_wp2_with fail;go_meet;exact⟨rfl,rfl⟩
             ·have hd:((i2:Int)==(t0:Int))=false:=by rw[beq_eq_false_iff_ne];omega
              have hyy:y0=y1:=by
               have h1:=cut_word (Y:=Y) (L:=L-1) (i:=i2) (by have:=HT0'.out;omega);rw[<-HE.out]at h1;rw[HY0.out,HY1.out,h1]
              have HYY:=κ hyy;try simp only[hd]
              clear heq hyy;go_wp2_with fail;go_meet;exact⟨by rw[HYY.out],rfl⟩
            case rest=>
             obtain⟨rfl,rfl⟩:=hcut;go_wp2_with fail;go_loopg [0,12,23,24,25] 16 (WvR s wB q (val 18446744073709551616 xs) L nw [⟨some ⟨bx,ox,none⟩,bx,ox,cx,xs⟩,⟨some ⟨by_,oy,none⟩,by_,oy,cy,ys⟩] pb vs0 E i2)
             case atStart=>
              refine⟨0,0,y1,b,rfl,rfl,rfl,by rw[HY1.out];simp,by omega,rfl,rfl,fun h=> ?_,HS.out.val ?_⟩
              ·rw[show 64*i2+64-4*0=64*(i2+1)by omega];exact HB0.out h
              ·rw[show 64*i2+64-4*0=64*(i2+1)by omega]
             case round=>
              obtain⟨j,J,yi,b2,rfl,hJ,rfl,hyi,hj,rfl,rfl,hb2,hS2⟩:=hrel;have HS2:=κ hS2;have HYI:=κ hyi;have HJ:=κ hJ;have HB2:=κ hb2;clear hS2 hyi hb2;by_cases hj16:j<16
              ·have hJ64:(J:Int)<64:=by omega
               have hyi64:(yi:Int)<18446744073709551616:=by have:=HYI.out;omega
               obtain⟨e,he⟩: ∃e,e=E/2^(64*i2+64-4*j):=⟨_,rfl⟩;obtain⟨d,hd⟩: ∃d,d=yi/2^60:=⟨_,rfl⟩;have hdI:(yi:Int)/1152921504606846976=(d:Int):=by omega
               have hdI2:(d:Int)<16:=by omega
               have HEE:=κ he;have HD':=κ hd;obtain⟨yi2,hyi2⟩: ∃yi2,yi2=yi*16%2^64:=⟨_,rfl⟩;have hwy:IntKind.u64.wrap ((yi:Int)*16)=(yi2:Int):=by rw[IntKind.wrap_u64,hyi2];simp
               have HYI2:=κ hyi2;clear he hd hJ hyi2;go_upto_if 164 with fail;go_cut [0,12]from 164 to 204 (fun v0 v12 wx=>WiS s wB q (val 18446744073709551616 xs) L nw [⟨some ⟨bx,ox,none⟩,bx,ox,cx,xs⟩,⟨some ⟨by_,oy,none⟩,by_,oy,cy,ys⟩] pb vs0 ((val 18446744073709551616 xs)^(16*e)%2^L) 60 (decide (j%2=1)) v0 v12 wx)
               case first=>
                cases b2 with
                |true=>
                  have T1:True:=trivial;have U1:True:=trivial;have T2:True:=trivial;have U2:True:=trivial;have T3:True:=trivial;have U3:True:=trivial;have T4:True:=trivial;have U4:True:=trivial
                  go_wp2_with (first
                   |(go_at_call 70;clear T1;refine(wi_sq HS2.out (by omega)).mono ?_;rintro en w20 ⟨v20,rfl,hs⟩;have HQ1:=κ hs;clear hs)
                   |(go_at_call 96;clear U1;refine(wi_tr HQ1.out (by omega) (show 0<L by omega) hL).mono ?_;rintro en w21 ⟨v21,rfl,hs⟩;have HR1:=κ hs;clear hs)
                   |(go_at_call 70;clear T2;refine(wi_sq HR1.out (by omega)).mono ?_;rintro en w20 ⟨v20,rfl,hs⟩;have HQ2:=κ hs;clear hs)
                   |(go_at_call 96;clear U2;refine(wi_tr HQ2.out (by omega) (show 0<L by omega) hL).mono ?_;rintro en w21 ⟨v21,rfl,hs⟩;have HR2:=κ hs;clear hs)
                   |(go_at_call 70;clear T3;refine(wi_sq HR2.out (by omega)).mono ?_;rintro en w20 ⟨v20,rfl,hs⟩;have HQ3:=κ hs;clear hs)
                   |(go_at_call 96;clear U3;refine(wi_tr HQ3.out (by omega) (show 0<L by omega) hL).mono ?_;rintro en w21 ⟨v21,rfl,hs⟩;have HR3:=κ hs;clear hs)
                   |(go_at_call 70;clear T4;refine(wi_sq HR3.out (by omega)).mono ?_;rintro en w20 ⟨v20,rfl,hs⟩;have HQ4:=κ hs;clear hs)
                   |(go_at_call 96;clear U4;refine(wi_tr HQ4.out (by omega) (show 0<L by omega) hL).mono ?_;rintro en w21 ⟨v21,rfl,hs⟩;have HR4:=κ hs;clear hs));go_meet;refine(HR4.out.flag (by simp)).val ?_;rw[<-HEE.out,sq_mod (sq_mod (sq_mod (sq_mod rfl rfl) rfl) rfl) rfl,show e+e+(e+e)+(e+e+(e+e))+(e+e+(e+e)+(e+e+(e+e)))=16*e by omega]
                |false=>
                  go_wp2_with fail;go_meet;have h0:E/2^(64*i2+64-4*j)=0:=by first|exact HB2.out rfl|exact HB2.out trivial
                  refine HS2.out.val ?_;rw[HEE.out,h0]
               case rest=>
                have hS3:=hcut;obtain⟨w22,hw22⟩: ∃w22,w22=wc:=⟨_,rfl⟩;subst hw22;have HS3:=κ hS3;have hd16:d<16:=by omega
                have cvp:=hS3.row.cell hd16;have CP:=wi_mul hS3 (by omega) hL hd16;obtain⟨vp,hvp⟩: ∃vp,vp=vs0.getD d nilV:=⟨_,rfl⟩;rw[<-hvp]at cvp CP;have HCP:=κ CP;clear hS3 hcut hd16 CP hvp
                go_wp2_with (first
                 |(go_at_call 33;refine(HCP.out).mono ?_;rintro en w23 ⟨v23,rfl,hs⟩;have HS4:=κ hs;clear hs)
                 |(go_at_call 96;refine(wi_tr HS4.out (by omega) (show 0<L by omega) hL).mono ?_;rintro en w24 ⟨v24,rfl,hs⟩;have HS5:=κ hs;clear hs));go_roundg (16-(j+1));case measure=>omega
                case rel=>
                 have h1:=win_next (E:=E) (i:=i2) (j:=j) (by omega);have h2:=win_dig (E:=E) (i:=i2) (j:=j) (by omega);rw[<-HYI.out,<- HD'.out]at h2;have h3:E/2^(64*i2+64-4*(j+1))=16*e+d:=by rw[show 64*i2+64-4*(j+1)=64*i2+60-4*j by omega,h1,<- h2,<- HEE.out]
                 refine⟨j+1,J+4,yi2,true,by first|rfl|go_num,by have:=HJ.out;omega,rfl,?_,by omega,rfl,rfl,fun h=>(by cases h),(HS5.out.flag ?_).val ?_⟩
                 ·rw[HYI2.out,HYI.out];exact win_shl
                 ·rcases Nat.mod_two_eq_zero_or_one j with h|h
                  ·rw[decide_eq_false (show¬j%2=1 by omega),decide_eq_true (show(j+1)%2=1 by omega)];rfl
                  ·rw[decide_eq_true h,decide_eq_false (show¬(j+1)%2=1 by omega)];rfl
                 ·rw[h3];exact mul_mod_pow rfl rfl rfl
              ·obtain rfl:j=16:=by omega
               have hJ64: ¬(J:Int)<64:=by omega
               clear hJ;go_wp2_with fail;go_roundg i2;case measure=>omega
               case rel=>exact⟨i2,_,b2,rfl,rfl,by omega,rfl,rfl,fun h=>(by have:=HB2.out h;rwa[show 64*i2+64-4*16=64*i2 by omega]at this),HS2.out.val (by rw[show 64*i2+64-4*16=64*i2 by omega])⟩
end
end Go.Proofs.YthecibbmbnpegaaGreatDoor
