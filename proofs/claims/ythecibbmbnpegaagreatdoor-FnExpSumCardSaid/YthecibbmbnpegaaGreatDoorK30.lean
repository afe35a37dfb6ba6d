/-
  Part 30 of the proof of the law FnExpSum: XMoW. Conditions: those of each statement.
-/
import Derived.Test.YthecibbmbnpegaaGreatDoorK29
import Derived.Laws.Bits64
import Derived.Deep.DeepCutAuto
import Derived.Deep.RegionWith
set_option linter.unusedSimpArgs false
set_option linter.unusedVariables false
set_option maxRecDepth 100000
set_option maxHeartbeats 8000000
namespace Go.Proofs.YthecibbmbnpegaaGreatDoor
open Go.Big Go.RowKit
section
variable {s n:Nat}{q:Option StkSt}{w:World}{bz cz bx ox cx by_ oy cy bm om cm:Nat}{xs ys ms:List Int}
theorem mont_walk(hl:Lv s w q w q [] [⟨some ⟨bx,ox,none⟩,bx,ox,cx,xs⟩,⟨some ⟨bz,0,none⟩,bz,0,cz,[]⟩,⟨some ⟨by_,oy,none⟩,by_,oy,cy,ys⟩,⟨some ⟨bm,om,none⟩,bm,om,cm,ms⟩])
 (hnz:n<=cz)(hn:ms.length=n)(hn0:0<n)(hn9:n<=100)(hx0:0<xs.length)(hx9:xs.length<=100)(hy0:0<ys.length)(hy9:ys.length<=100)(hzx:bx≠bz)(hzy:by_≠bz)(hzm:bm≠bz)(hbn:NewS s q bz)(nx:NZ xs)(ny:NZ ys)(nm:NZ ms)(hodd:val 18446744073709551616 ms%2=1){Y:Nat}(hY:val 18446744073709551616 ys=(Y:Int)){wB:World}(hB:Fr [] wB w)(hzB:wB.heap.size<=bz):
 Calls Tryz.prog 65 #[.slice (some ⟨bz,0,none⟩) n cz,.pointer (some ⟨s,0,none⟩),.slice (some ⟨bx,ox,none⟩) xs.length cx,.slice (some ⟨by_,oy,none⟩) ys.length cy,.slice (some ⟨bm,om,none⟩) n cm] w (RetS s q (val 18446744073709551616 xs^Y%val 18446744073709551616 ms) wB):=by
 have HL:=κ hl;have hzb:bz<w.heap.size:=(hl.ok ⟨some ⟨bz,0,none⟩,bz,0,cz,[]⟩ (by simp)).lt (by simp only;omega);have HZB:=κ hzb;have HN:=κ hn;have NX:=κ nx;have NY:=κ ny;have NM:=κ nm;have HO:=κ hodd;have HZX:=κ hzx;have HY:=κ hY;have HB:=κ hB;have HZBB:=κ hzB;have HZY:=κ hzy;have HZM:=κ hzm;have HBN:=κ hbn;have hM0:0<val 18446744073709551616 ms:=by have:=val_nonneg (B:=18446744073709551616) (by omega) (hl.ok ⟨some ⟨bm,om,none⟩,bm,om,cm,ms⟩ (by simp)).dg;simp only at this;omega
 have HM0:=κ hM0;obtain⟨X,hX⟩: ∃X,X=val 18446744073709551616 xs:=⟨_,rfl⟩;have HX:=κ hX;have cz9:=(hl.ok ⟨some ⟨bz,0,none⟩,bz,0,cz,[]⟩ (by simp)).c9;have cx9:=(hl.ok ⟨some ⟨bx,ox,none⟩,bx,ox,cx,xs⟩ (by simp)).c9;have cy9:=(hl.ok ⟨some ⟨by_,oy,none⟩,by_,oy,cy,ys⟩ (by simp)).c9;have cm9:=(hl.ok ⟨some ⟨bm,om,none⟩,bm,om,cm,ms⟩ (by simp)).c9;have hxc:=(hl.ok ⟨some ⟨bx,ox,none⟩,bx,ox,cx,xs⟩ (by simp)).nm.le;have hyc:=(hl.ok ⟨some ⟨by_,oy,none⟩,by_,oy,cy,ys⟩ (by simp)).nm.le;have hmc:=(hl.ok ⟨some ⟨bm,om,none⟩,bm,om,cm,ms⟩ (by simp)).nm.le;simp only at cz9 cx9 cy9 cm9 hxc hyc hmc;rw[hn]at hmc;rw[<-hX];clear hl hzb hn nx ny nm hodd hzx hzy hzm hbn hM0 hX hY hB hzB;go_enter Tryz.func65,Tryz.ntmps65;go_upto_if 29 with fail;go_cut [2]from 29 to 36 (fun v wx=>MwA s q w ⟨some ⟨bz,0,none⟩,bz,0,cz,[]⟩ ⟨some ⟨by_,oy,none⟩,by_,oy,cy,ys⟩ ⟨some ⟨bm,om,none⟩,bm,om,cm,ms⟩ X 0 n v wx)
 case first=>
  by_cases h1:n<xs.length
  ·have hd:decide ((n:Int)<(xs.length:Int))=true:=decide_eq_true (by omega)
   try simp only[hd]
   have CD2:=κ (mw_div0 HL.out HN.out hn0 hn9 hx9 NX.out NM.out HM0.out HZB.out);go_wp2_with (go_at_call 32;refine(CD2.out).mono ?_;rintro e w1 ⟨zq,A',c',us,rfl,hA⟩;have HA:=κ hA;clear hA);go_meet;rw[HX.out];exact HA.out
  ·have hd:decide ((n:Int)<(xs.length:Int))=false:=decide_eq_false (by omega)
   try simp only[hd]
   go_wp2_with fail;go_meet;have:=mw_keep (hi:=n) HL.out (by simp only;omega) HZX.out;rw[HX.out];exact this
 case rest=>
  obtain⟨A1,b1,o1,c1,us,q1,rfl,hl1,ll1,_,hu9,hcg,hub⟩:=hcut;obtain⟨w1,hw1⟩: ∃w1,w1=wc:=⟨_,rfl⟩;subst hw1;have HL1:=κ hl1;have LL1:=κ ll1;have HCG:=κ hcg;have HUB:=κ hub;have huc:=(hl1.ok ⟨A1,b1,o1,c1,us⟩ (by simp)).nm.le;have c19:=(hl1.ok ⟨A1,b1,o1,c1,us⟩ (by simp)).c9;simp only at huc c19;clear hl1 ll1 hcg hub;go_upto_if 40 with fail;go_cut [2,12]from 40 to 46 (fun v v12 wx=>MwA s q w ⟨some ⟨bz,0,none⟩,bz,0,cz,[]⟩ ⟨some ⟨by_,oy,none⟩,by_,oy,cy,ys⟩ ⟨some ⟨bm,om,none⟩,bm,om,cm,ms⟩ X n n v wx)
  case first=>
   by_cases h1:us.length<n
   ·have hd:decide ((us.length:Int)<(n:Int))=true:=decide_eq_true (by omega)
    try simp only[hd]
    have SU:=κ (HL1.out.ok ⟨A1,b1,o1,c1,us⟩ (by simp)).nm.sl
    go_wp2_with (first
     |(at_make;refine wp_mk rfl (.tmp 41) (.tmp 41) _ rfl .u64 51 8 ty_big (by omega) n rfl rfl (by omega) ?_;intro g w2 hg row2 f2;have HR2:=κ row2;have HG:=κ hg;have F2:=κ f2;clear row2 hg f2)
     |(refine wp_copy rfl (.tmp 43) (.tmp 44) _ _ rfl .u64 51 Tryz.underlying43 size_wordS g 0 n n rfl _ us rfl (SU.out.fr F2.out (by simp)) (List.replicate n 0) HR2.out (by simp) ?_;intro w3 row3 f3;have HR3:=κ row3;have F3:=κ f3;clear row3 f3));go_meet;have hr:=HR3.out;rw[List.take_of_length_le (by omega)]at hr;exact mw_pad HL1.out LL1.out (by omega) (by omega) HCG.out HG.out (Nat.lt_of_lt_of_le HZB.out HL1.out.fr.size) hr (fr_new'' F2.out F3.out HG.out)
   ·have hd:decide ((us.length:Int)<(n:Int))=false:=decide_eq_false (by omega)
    try simp only[hd]
    go_wp2_with fail;go_meet;exact⟨A1,b1,o1,c1,us,q1,rfl,HL1.out,LL1.out,by omega,by omega,HCG.out,HUB.out⟩
  case rest=>
   obtain⟨A2,b2,o2,c2,vs,q2,rfl,hl2,ll2,hv1,hv2,hcg2,hub2⟩:=hcut;obtain⟨w2,hw2⟩: ∃w2,w2=wc:=⟨_,rfl⟩;subst hw2;have hvl:vs.length=n:=by omega
   obtain⟨m0,hm0⟩: ∃m0,m0=ms.getD 0 0:=⟨_,rfl⟩;have km:=hl2.ok ⟨some ⟨bm,om,none⟩,bm,om,cm,ms⟩ (by simp)
   have cm0:w2.cell? ⟨bm,om,none⟩=some (.int .u64 m0):=by
    have:=km.nm.2.2 (by simp only;rw[HN.out];exact hn0) 0 (by simp only;rw[HN.out];exact hn0);rw[Nat.add_zero]at this;rw[hm0];exact this
   have mo:m0%2=1:=by
    have h1:=HO.out
    have h2:val 18446744073709551616 ms=m0+18446744073709551616*val 18446744073709551616 (ms.drop 1):=by
     have:=val_split 18446744073709551616 ms 1 (by rw[HN.out];exact hn0);have e:=val_take_succ' 18446744073709551616 ms 0;rw[List.take_zero,val_nil,Int.pow_zero,Int.one_mul,Int.zero_add,<- hm0,Nat.zero_add]at e;rw[e,Int.pow_succ,Int.pow_zero,Int.one_mul]at this;exact this
    omega
   obtain⟨m00,m01⟩:=km.dg.getD (by omega) 0;simp only at m00 m01;rw[<-hm0]at m00 m01;have HL2:=κ hl2;have LL2:=κ (ll2);have HVL:=κ hvl;have HCG2:=κ hcg2;have HUB2:=κ (show b2≠bz from by rcases hub2 with h|h;omega;exact h);have HMO:=κ mo;have HM00:=κ hm0;have NS:=κ (newt_start mo);obtain⟨k0,hk0⟩: ∃k0,k0=(2-m0)%18446744073709551616:=⟨_,rfl⟩;have HK0:=κ hk0;have hwk:IntKind.u64.wrap (2-m0)=k0:=by rw[IntKind.wrap_u64,hk0]
   have hwt:IntKind.u64.wrap (m0-1)=m0-1:=by rw[IntKind.wrap_u64];omega
   have hm1:1<=m0:=by omega
   clear hl2 ll2 hvl hcg2 hub2 mo hm0 hk0 km hv1 hv2;go_wp2_with fail;go_loopg [13,14,15] 127 (NwRel m0 w2)
   case atStart=>
    have hk:=HK0.out;have hn:=NS.out;exact⟨k0,m0-1,1,rfl,rfl,rfl,rfl,by omega,by omega,by omega,by omega,Nat.le_refl _,by omega,rfl,hn.1,by rw[hk];exact hn.2⟩
   case round=>
    obtain⟨k,t,i,rfl,rfl,rfl,rfl,hk0,hk1,ht0,ht1,hi1,hi2,rfl,hd,hv⟩:=hrel;have HD:=κ hd;have HV:=κ hv;clear hd hv;by_cases hi:i<64
    ·obtain⟨g1,g2⟩:=newt_step HD.out HV.out
     obtain⟨t1,ht1'⟩: ∃t1,t1=t*t%18446744073709551616:=⟨_,rfl⟩;rw[<-ht1']at g1 g2;obtain⟨k1,hk1'⟩: ∃k1,k1=k*(t1+1)%18446744073709551616:=⟨_,rfl⟩;rw[<-hk1']at g2
     have te:t1%2=0:=by
      have:(2:Int)∣2^(min (i*2) 64):=⟨2^(min (i*2) 64-1),by rw[Int.mul_comm,<- Int.pow_succ];congr 1;omega⟩;have:=Int.dvd_trans this g1;omega
     have hi':(i:Int)<64:=by omega
     have tb:0<=t1/\t1+1<18446744073709551616:=by omega
     obtain⟨tb0,tb1⟩:=tb;have kb:0<=k1/\k1<18446744073709551616:=by omega
     have w1':IntKind.u64.wrap (t*t)=t1:=by rw[IntKind.wrap_u64,ht1']
     have w2':IntKind.u64.wrap (t1+1)=t1+1:=by rw[IntKind.wrap_u64];omega
     have w3':IntKind.u64.wrap (k*(t1+1))=k1:=by rw[IntKind.wrap_u64,hk1']
     have w4':IntKind.i64.wrap ((i:Int)*2)=((i*2:Nat):Int):=by rw[IntKind.wrap_i64];omega
     have G1:=κ g1;have G2:=κ g2;clear g1 g2 ht1' hk1' te;go_wp2_with fail;go_roundg (128-i*2);case measure=>omega
     case rel=>exact⟨k1,t1,i*2,rfl,rfl,by first|rfl|go_num,rfl,kb.1,kb.2,tb0,by omega,by omega,by omega,rfl,G1.out,G2.out⟩
    ·have HKK:=κ (newt_end (by omega) HD.out HV.out)
     obtain⟨kk,hkk⟩: ∃kk,kk= -k%18446744073709551616:=⟨_,rfl⟩;rw[<-hkk]at HKK;have hwn:IntKind.u64.wrap (-k)=kk:=by rw[IntKind.wrap_u64,hkk]
     have kb:0<=kk/\kk<18446744073709551616:=by omega
     obtain⟨kb0,kb1⟩:=kb;have hi': ¬(i:Int)<64:=by omega
     have hw128:2*(n:Int)*64=((n*128:Nat):Int):=by omega
     have CW:=κ (mw_one HL2.out);clear hkk HD HV hwk hwt
     go_upto_if 86 with(first
      |(go_at_call 46;refine(CW.out).mono ?_;rintro e w3 ⟨b3,o3,c3,q3,rfl,c31,c39,lv3,ll3⟩;have HL3:=κ lv3;have LL3:=κ ll3;clear lv3 ll3)
      |(go_at_call 93;refine(mw_lsh HL3.out hn0 (by omega)).mono ?_;rintro e w4 ⟨z,c,rfl,hzc,hzc9,hzn,f4,lv4⟩;have HL4:=κ lv4;have HZN:=κ hzn;clear lv4 hzn)
      |(go_at_call 32;refine(mw_rest HL4.out HN.out hn0 hn9 NM.out HM0.out).mono ?_;rintro e w5 ⟨zq,A5,b5,o5,c5,rs,q5,rfl,hrn,c59,hrc,ll5,le5,hcg5,lv5⟩;have HL5:=κ lv5;have LL5:=κ ll5;have LE5:=κ le5;have HCG5:=κ hcg5;clear lv5 ll5 le5 hcg5));have hb2:b2<w3.heap.size:=(HL3.out.ok ⟨A2,b2,o2,c2,vs⟩ (by simp)).lt (by have:=(HL3.out.ok ⟨A2,b2,o2,c2,vs⟩ (by simp)).nm.le;have:=HVL.out;simp only at *;omega);have hby:by_<w3.heap.size:=(HL3.out.ok ⟨some ⟨by_,oy,none⟩,by_,oy,cy,ys⟩ (by simp)).lt (by simp only;omega);have hbm:bm<w3.heap.size:=(HL3.out.ok ⟨some ⟨bm,om,none⟩,bm,om,cm,ms⟩ (by simp)).lt (by simp only;omega);have hnz':NewS s q5 z:=(NewS.of HL3.out.st HZN.out).le LE5.out ((HL4.out.ok ⟨some ⟨z,0,none⟩,z,0,c,List.replicate (n*2) 0++[1]⟩ (by simp)).lt (by simp only;omega));have HNZ':=κ hnz';have HB2:=κ hb2;have HBY:=κ hby;have HBM:=κ hbm;have LLA:=κ (show lenS q5=lenS q by rw[LL5.out,LL3.out,LL2.out]);obtain⟨Lz,hLz,hLl,hLt⟩:=mw_row HL5.out hzc;have RZ:=κ hLz;have RL:=κ hLl;have RT:=κ hLt;clear hb2 hby hbm hnz' hLz hLl hLt;go_cut [16,17]from 86 to 93 (fun v16 v17 wx=> ∃lz,v17= .slice (some ⟨z,0,none⟩) lz c/\lz<=c/\MwD s n q w X (.slice A2 vs.length c2) (.slice (some ⟨by_,oy,none⟩) ys.length cy) (.slice (some ⟨bm,om,none⟩) n cm) ys ms bz cz z c v16 wx)
     case first=>
      by_cases h1:rs.length<n
      ·have hd:decide (rs.length<n)=true:=decide_eq_true h1
       try simp only[hd]
       have SR:=κ (HL5.out.ok ⟨A5,b5,o5,c5,rs⟩ (by simp)).nm.sl;have CK:=κ (makeO_any (some ⟨z,0,none⟩) (n*2+1) z c n Lz w5 ⟨by unfold maxLen;omega,.inr ⟨rfl,RZ.out,RL.out⟩⟩ (by omega) hn0 (by omega))
       go_wp2_with (first
        |(go_at_call 42;refine(CK.out).mono ?_;rintro e w6 ⟨b',c',L',rfl,row,k1,k2,k3,f6,hh⟩;obtain⟨e1,e2,e3,_,rfl⟩:=hh.resolve_right (by omega);have e1:=e1.symm;have e2:=e2.symm;have e3:=e3.symm;subst e1 e2 e3;clear row k2 f6)
        |(refine wp_copy rfl (.tmp 90) (.tmp 91) _ _ rfl .u64 51 Tryz.underlying43 size_wordS z 0 n c rfl _ rs rfl SR.out Lz RZ.out (by have:=RL.out;omega) ?_;intro w7 row7 f7;have R7:=κ row7;have F7:=κ f7;clear row7 f7));go_meet;have hr7:=R7.out;rw[List.take_of_length_le (by omega)]at hr7;have:=mw_cut (mp:=⟨some ⟨bm,om,none⟩,bm,om,cm,ms⟩) HL5.out LLA.out HVL.out HCG2.out HUB2.out HZY.out HZM.out (by have:=HB2.out;have:=HZN.out;simp only;omega) (by have:=HBY.out;have:=HZN.out;simp only;omega) (by have:=HBM.out;have:=HZN.out;simp only;omega) (by have:=HL3.out.fr.size;have:=HZN.out;omega) HZB.out hzc (by omega) HBN.out HNZ'.out hrn HCG5.out RZ.out RL.out RT.out F7.out hr7;simp only[HN.out]at this;exact⟨n,rfl,by omega,by rw[HVL.out];exact this⟩
      ·have hd:decide (rs.length<n)=false:=decide_eq_false h1
       try simp only[hd]
       go_wp2_with fail;go_meet;have:=mw_full (mp:=⟨some ⟨bm,om,none⟩,bm,om,cm,ms⟩) HL5.out LLA.out HVL.out HCG2.out HUB2.out HZY.out HZM.out (by have:=HB2.out;have:=HZN.out;simp only;omega) (by have:=HBY.out;have:=HZN.out;simp only;omega) (by have:=HBM.out;have:=HZN.out;simp only;omega) (by have:=HL3.out.fr.size;have:=HZN.out;omega) HZB.out hzc (by omega) HBN.out HNZ'.out (by omega) HCG5.out;simp only[HN.out]at this;exact⟨n*2+1,rfl,hzc,by rw[HVL.out];exact this⟩
     case rest=>
      obtain⟨lz,rfl,hlz,hD⟩:=hcut;obtain⟨w7,hw7⟩: ∃w7,w7=wc:=⟨_,rfl⟩;subst hw7;have HD:=κ hD;clear hD RZ RL RT LLA HB2 HBY HBM HNZ';go_upto_region 25 with(at_make;refine wp_mk rfl (.tmp 94) (.tmp 94) _ rfl .u64 51 8 ty_big (by omega) n rfl rfl (by omega) ?_;intro g w8 hg row8 f8;have R8:=κ row8;have HG:=κ hg;have F8:=κ f8;have g0:=row8.cell (i:=0) (by simpa using hn0);have fz:=row8.frozen 0;clear row8 hg f8);go_cut [19] (fun v19 wx=> ∃(pb:Nat) (os:List Int),v19= .pointer (some ⟨pb,0,none⟩)/\os.length=n/\DG 18446744073709551616 os/\val 18446744073709551616 os=1/\MwP s n q w X (.slice A2 vs.length c2) (.slice (some ⟨by_,oy,none⟩) ys.length cy) (.slice (some ⟨bm,om,none⟩) n cm) (.slice (some ⟨g,0,none⟩) n n) u16 ys ms os bz cz z c pb 0 wx)
      case first=>
       go_wp2_with fail;go_meet;obtain⟨os,o1,o2,o3,hP⟩:=mw_p0 HD.out hn0 (by omega) HG.out R8.out F8.out rfl;exact⟨w8.heap.size,os,rfl,o1,o2,o3,hP⟩
      case rest=>
       obtain⟨pb,os,rfl,o1,o2,o3,hP⟩:=hcut;obtain⟨w9,hw9⟩: ∃w9,w9=wc:=⟨_,rfl⟩;subst hw9;have HP:=κ hP;have O1:=κ o1;have O2:=κ o2;have O3:=κ o3;have F:=κ (show MwF n kk ms os from⟨hn0,by omega,kb0,kb1,by have:=HKK.out;rwa[<-HM00.out],HN.out,(HL5.out.ok ⟨some ⟨bm,om,none⟩,bm,om,cm,ms⟩ (by simp)).dg,HO.out,o1,o2,o3⟩);clear hP o1 o2 o3;go_upto_region 26 with fail;go_cut [105]from 98 to 106 (fun v105 wx=>MwP s n q w X (.slice A2 vs.length c2) (.slice (some ⟨by_,oy,none⟩) ys.length cy) (.slice (some ⟨bm,om,none⟩) n cm) (.slice (some ⟨g,0,none⟩) n n) u16 ys ms os bz cz z c pb 1 wx)
       case first=>
        obtain⟨vs0,p1,_,p3⟩:=HP.out.pw;have pc0:w9.cell? ⟨pb,0,none⟩=some (.slice none 0 0):=by have:=p1.cell (i:=0) (by omega);rwa[p3 0 (by omega) (by omega)]at this
        have P1:=κ p1;clear p1 p3;go_wp2_with (go_at_call 94;refine(mw_call0 F.out HP.out).mono ?_;rintro e w10 ⟨A',l',c',rfl,f10,hn10⟩;have P10:=κ (HP.out.fr f10);have HN10:=κ hn10;have c10:=(P1.out.fr f10 (by simp)).cell (i:=0) (by omega);have z10:=(P1.out.fr f10 (by simp)).frozen 0;obtain⟨old,hold⟩: ∃old,old=vs0.getD 0 nilV:=⟨_,rfl⟩;rw[<-hold]at c10;clear hold f10 hn10);go_meet;exact P10.out.store (by omega) HN10.out
       case rest=>
        have hP1:=hcut;obtain⟨w11,hw11⟩: ∃w11,w11=wc:=⟨_,rfl⟩;subst hw11;have HP1:=κ hP1;clear hP1 HP hcut;go_upto_region 27 with fail;go_cut [114]from 107 to 115 (fun v114 wx=>MwP s n q w X (.slice A2 vs.length c2) (.slice (some ⟨by_,oy,none⟩) ys.length cy) (.slice (some ⟨bm,om,none⟩) n cm) (.slice (some ⟨g,0,none⟩) n n) u16 ys ms os bz cz z c pb 2 wx)
        case first=>
         obtain⟨vs0,p1,_,p3⟩:=HP1.out.pw;have pc0:w11.cell? ⟨pb,1,none⟩=some (.slice none 0 0):=by have:=p1.cell (i:=1) (by omega);rwa[p3 1 (by omega) (by omega)]at this
         have P1:=κ p1;clear p1 p3;go_wp2_with (go_at_call 94;refine(mw_call1 F.out HP1.out).mono ?_;rintro e w10 ⟨A',l',c',rfl,f10,hn10⟩;have P10:=κ (HP1.out.fr f10);have HN10:=κ hn10;have c10:=(P1.out.fr f10 (by simp)).cell (i:=1) (by omega);have z10:=(P1.out.fr f10 (by simp)).frozen 1;obtain⟨old,hold⟩: ∃old,old=vs0.getD 1 nilV:=⟨_,rfl⟩;rw[<-hold]at c10;clear hold f10 hn10);go_meet;exact P10.out.store (by omega) HN10.out
        case rest=>
         have hP2:=hcut;obtain⟨w12,hw12⟩: ∃w12,w12=wc:=⟨_,rfl⟩;subst hw12;have HP2:=κ hP2;clear hP2 HP1 hcut;go_wp2_with fail;go_loopg [20] 14 (fun gg v20 wx=> ∃i:Nat,v20= .int .i64 (i:Int)/\2<=i/\i<=16/\gg=16-i/\MwP s n q w X (.slice A2 vs.length c2) (.slice (some ⟨by_,oy,none⟩) ys.length cy) (.slice (some ⟨bm,om,none⟩) n cm) (.slice (some ⟨g,0,none⟩) n n) u16 ys ms os bz cz z c pb i wx);case atStart=>exact⟨2,rfl,Nat.le_refl _,by omega,rfl,HP2.out⟩
         case round=>
          obtain⟨i',rfl,hi2,hi16,rfl,hP3⟩:=hrel;have HP3:=κ hP3;clear hP3;by_cases hi3:i'<16
          ·obtain⟨j',hj'⟩: ∃j',j'=i'-1:=⟨_,rfl⟩
           have e1:(i':Int)-1=(j':Int):=by omega
           have e2:IntKind.i64.wrap (j':Int)=(j':Int):=by rw[IntKind.wrap_i64];omega
           have e3:(i':Int)<16:=by omega
           have e4:(j':Int)<16:=by omega
           have e5:IntKind.i64.wrap ((i':Int)+1)=((i'+1:Nat):Int):=by rw[IntKind.wrap_i64];omega
           obtain⟨vs0,p1,_,p3⟩:=HP3.out.pw;have pc0:wr.cell? ⟨pb,i',none⟩=some (.slice none 0 0):=by have:=p1.cell (i:=i') (by omega);rwa[p3 i' (by omega) (by omega)]at this
           have pc1:=p1.cell (i:=1) (by omega);have pcj:=p1.cell (i:=j') (by omega);have CI:=mw_calli F.out (HP3.out.fr (Fr.refl _ _).drew) (p1.fr (Fr.refl [] _).drew (by simp)) hi2 hi3;rw[<-hj']at CI;obtain⟨v1,hv1⟩: ∃v1,v1=vs0.getD 1 nilV:=⟨_,rfl⟩;obtain⟨vj,hvj⟩: ∃vj,vj=vs0.getD j' nilV:=⟨_,rfl⟩;rw[<-hv1]at pc1 CI;rw[<-hvj]at pcj CI;have HCI:=κ CI;have P1:=κ p1;clear p1 p3 CI hv1 hvj hj';go_upto_region 31 with fail;go_region_with (go_at_call 94;refine(HCI.out).mono ?_;rintro e w10 ⟨A',l',c',rfl,f10,hn10⟩;have P10:=κ ((HP3.out.fr (Fr.refl _ _).drew).fr f10);have HN10:=κ hn10;have c10:=((P1.out.fr (Fr.refl [] _).drew (by simp)).fr f10 (by simp)).cell (i:=i') (by omega);have z10:=((P1.out.fr (Fr.refl [] _).drew (by simp)).fr f10 (by simp)).frozen i';obtain⟨old,hold⟩: ∃old,old=vs0.getD i' nilV:=⟨_,rfl⟩;rw[<-hold]at c10;clear hold f10 hn10)
           all_goals (
            clear pc0 pc1 pcj;go_wp2_with fail;go_roundg (16-(i'+1));case measure=>omega
            case rel=>exact⟨i'+1,by first|rfl|go_num,by omega,by omega,rfl,P10.out.store hi3 HN10.out⟩)
          ·obtain rfl:i'=16:=by omega
           obtain⟨wp,hwp⟩: ∃wp,wp=wr:=⟨_,rfl⟩;subst hwp;obtain⟨Lz0,hz0⟩:=HP3.out.z;obtain⟨Lzz0,hzz0⟩:=HP3.out.zz;obtain⟨vs0,p1,p2,_⟩:=HP3.out.pw;obtain⟨ps,ps1,ps2,ps3,ps4⟩:=p2 0 (by omega) (by omega);have pc0:=p1.cell (i:=0) (by omega);obtain⟨v0,hv0⟩: ∃v,v=vs0.getD 0 nilV:=⟨_,rfl⟩;rw[<-hv0]at pc0 ps1;have HZ0:=κ hz0;have HZZ0:=κ hzz0;have PS1:=κ ps1;have PS2:=κ ps2;have PS3:=κ ps3;have PS4:=κ ps4;have hzm:=HP3.out.ne;have CK1:=κ (makeO_any (some ⟨bz,0,none⟩) n bz cz n Lz0 wp ⟨hz0.cm,.inr ⟨rfl,hz0.row,hz0.cl⟩⟩ hnz hn0 (by omega));have T1:True:=trivial;clear hz0 hzz0 p1 p2 ps1 ps2 ps3 ps4 hv0
           go_upto_region 35 with(first
            |(go_at_call 42;clear T1;refine(CK1.out).mono ?_;rintro e w13 ⟨b',c',L',rfl,row,k1,k2,k3,f6,hh⟩;obtain⟨e1,e2,e3,_,rfl⟩:=hh.resolve_right (by omega);have e1:=e1.symm;have e2:=e2.symm;have e3:=e3.symm;subst e1 e2 e3;clear row k2 f6)
            |(refine wp_copy rfl (.tmp 138) (.tmp 140) _ _ rfl .u64 51 Tryz.underlying43 size_wordS bz 0 n cz rfl v0 ps rfl PS1.out.sl Lz0 HZ0.out.row (by have:=HZ0.out.cl;omega) ?_;intro w13 row13 f13;have R13:=κ row13;have F13:=κ f13;have CK2:=κ (makeO_any (some ⟨z,0,none⟩) lz z c n Lzz0 w13 ⟨HZZ0.out.cm,.inr ⟨rfl,HZZ0.out.row.fr f13 (by simpa using hzm.symm),HZZ0.out.cl⟩⟩ hlz hn0 (by omega));clear row13 f13)
            |(go_at_call 42;refine(CK2.out).mono ?_;rintro e w14 ⟨b',c',L',rfl,row,k1,k2,k3,f6,hh⟩;obtain⟨e1,e2,e3,_,rfl⟩:=hh.resolve_right (by omega);have e1:=e1.symm;have e2:=e2.symm;have e3:=e3.symm;subst e1 e2 e3;clear row k2 f6));have HM0':=κ (mw_mos F.out HP3.out HZ0.out HZZ0.out hnz (l:=n) (by omega) PS2.out PS3.out PS4.out (by have:=R13.out;rwa[List.take_of_length_le (by rw[PS2.out];exact Nat.le_refl _)]at this) F13.out);have hyd:=(HL1.out.ok ⟨some ⟨by_,oy,none⟩,by_,oy,cy,ys⟩ (by simp)).dg;have hY:=HY.out;have HYD:=κ hyd
           have hY0:Y/2^(64*ys.length)=0:=by
            apply Nat.div_eq_of_lt;have h1:=val_lt (B:=18446744073709551616) (by omega) hyd;rw[hY,<- pow_words,Nat.mul_comm]at h1;exact_mod_cast h1
           have HY0:=κ hY0;have hyl0:0<ys.length:=hy0;clear CK1 CK2 hyd hY hY0 pc0;go_wp2_with fail;go_loopg [0,17,21] ys.length (WoR n kk X (.slice (some ⟨bm,om,none⟩) n cm) (.slice (some ⟨g,0,none⟩) n n) (.slice (some ⟨by_,oy,none⟩) ys.length cy) ms os ys pb [bz,z] wp Y)
           case atStart=>
            exact⟨ys.length,_,rfl,rfl,Nat.le_refl _,rfl,HM0'.out.exp HY0.out.symm⟩
           case round=>
            obtain⟨i1,x,rfl,hx,hi1,hg,hS⟩:=hrel;have hg:=hg.symm;subst hg;have HS:=κ hS;rcases Nat.eq_zero_or_pos i1 with rfl|hip
            ·obtain rfl:x= -1:=by omega
             clear hS hx;have CO:=κ (mo_out HS.out);go_upto_region 51 with(go_at_call 94;refine(CO.out).mono ?_;rintro en w24 ⟨b',c',L',us',rfl,hn',hc',hle',hb',hf'⟩;have HN':=κ hn';have HC':=κ hc';have HLE':=κ hle';have HB':=κ hb';have HF':=κ hf';have hnc':=hn'.nc;have hcm':=hn'.cm;clear hn' hc' hle' hb' hf');unfold maxLen at hcm';have SM:=κ (HP3.out.m.fr HF'.out (fun b hb=> .inl (by simp only[List.mem_cons,List.not_mem_nil,or_false]at hb ⊢;omega))).sl;obtain⟨ec,hec⟩: ∃ec,ec=cmpI (val 18446744073709551616 us') (val 18446744073709551616 ms):=⟨_,rfl⟩;have CC:=bcmp_gen (.slice (some ⟨b',0,none⟩) n c') (.slice (some ⟨bm,om,none⟩) n cm) us' ms w24 (HN'.out.slB (S:=[]) (by simp)).sl SM.out HN'.out.dg F.out.md (fun h=>by have:=HN'.out.ln;have:=F.out.ml;omega) (fun h=>by have:=HN'.out.ln;have:=F.out.ml;omega);rw[<-hec]at CC;have HCC:=κ CC;have HEC:=κ hec;have HV':=κ (show Cg (val 18446744073709551616 ms) (val 18446744073709551616 us') (X^Y)by have:=HC'.out;rwa[Nat.mul_zero,Nat.pow_zero,Nat.div_one]at this);have hu0:=val_nonneg (B:=18446744073709551616) (by omega) HN'.out.dg;clear CC hec CO;by_cases hge:val 18446744073709551616 us'<val 18446744073709551616 ms
             ·have hlt:ec<0:=by rw[HEC.out];unfold cmpI;rw[if_pos hge];omega
              have hd:decide (0<=ec)=false:=decide_eq_false (by omega);have HFV:=κ (HV'.out.emod_eq hu0 hge);have CN:=normN_any (some ⟨b',0,none⟩) b' 0 c' us' w24 HN'.out.nm HN'.out.dg;rw[HN'.out.ln]at CN;have HCN:=κ (fun W (f:Fr [] w24 W)=>(show Calls Tryz.prog 34 #[.slice (some ⟨b',0,none⟩) n c'] W _ by have:=normN_any (some ⟨b',0,none⟩) b' 0 c' us' W (HN'.out.nm.fr0 f) HN'.out.dg;rw[HN'.out.ln]at this;exact this));clear CN hge hu0;go_upto_if 221 with(go_at_call 47;refine(HCC.out).mono ?_;rintro e w25 ⟨rfl,f25⟩);try simp only[hd]
              go_wp2_with (go_at_call 34;refine(HCN.out _ f25).mono ?_;rintro e w26 ⟨⟨zs,rfl,g1,g2,g3,g4,g5⟩,rfl⟩;have G1:=κ g1;have G2:=κ g2;have G3:=κ g3;have G4:=κ g4;clear g1 g2 g3 g4 g5);go_ret;exact mw_ret HP3.out HB.out HZBB.out (HF'.out.trans f25 (by simp)) G1.out G2.out G3.out (G4.out.trans HFV.out) HB'.out
             ·have hlt:0<=ec:=by rw[HEC.out];unfold cmpI;rw[if_neg hge];split<;>omega
              have hd:decide (0<=ec)=true:=decide_eq_true hlt;have heq:val 18446744073709551616 us'=val 18446744073709551616 ms:=by have:=HLE'.out;omega
              have HFV:=κ (show(0:Int)=X^Y%val 18446744073709551616 ms by have:=HV'.out.eq;rw[heq,Int.emod_self]at this;exact this);have hwm:=mw_m HP3.out (HL.out.ok ⟨some ⟨bm,om,none⟩,bm,om,cm,ms⟩ (by simp)) (by rw[HN.out];exact hn0) HZM.out HF'.out
              have hbm':bm≠b':=by
               have h1:=HB'.out;have h2:bm<w.heap.size:=(HL.out.ok ⟨some ⟨bm,om,none⟩,bm,om,cm,ms⟩ (by simp)).lt (by simp only;omega);have h3:=HP3.out.nb;have h4:=HP3.out.fc.size;have h5:=HZM.out;simp only[List.mem_cons,List.not_mem_nil,or_false]at h1;omega
              have HCS:=κ (fun W (f:Fr [] w24 W)=>nsubR_ge (some ⟨b',0,none⟩) n b' 0 c' b' 0 c' bm om cm n n us' ms W (HN'.out.nm.rcv.fc (Fc.fr0 f 51 (fun _ _=>False))) hnc' ((HN'.out.nm.fr0 f).wr (by rw[HN'.out.ln];exact hn0)) HN'.out.dg HN'.out.ln (hwm.fr0 f) F.out.md F.out.ml (by omega) (Nat.le_refl _) hn0 hnc' hmc (by omega) (by omega) (by omega) (.inr ⟨rfl,rfl⟩) (.inl (.inl hbm')) (by omega));have T1:True:=trivial;have HBM':=κ hbm';have HEQ:=κ heq;clear hwm heq hge hu0 hbm'
              go_upto_if 229 with(first
               |(go_at_call 47;clear T1;refine(HCC.out).mono ?_;rintro e w25 ⟨rfl,f25⟩)
               |(go_at_call 40;refine(HCS.out _ f25).mono ?_;rintro e w26 hr;obtain⟨A2',b2',o2',c2',r1,r2,r3,rfl⟩:=mw_sub0 HEQ.out hr;have HF6:=κ ((HF'.out.trans f25 (by simp)).trans r2 (fun x hx _=>by simp only[List.mem_singleton]at hx;subst hx;rcases HB'.out with h|h;exact h;omega));have R1:=κ r1;have R3:=κ (show b2'∈[bz,z]\/wp.heap.size<=b2' from(by rcases r3 with h|h;(rw[h];exact HB'.out);exact .inr (by have:=HF'.out.size;have:=f25.size;omega)));have hc2':=r1.max;clear hr r1 r2 r3)
               |(go_at_call 47;refine(bcmp_gen (.slice A2' 0 c2') (.slice (some ⟨bm,om,none⟩) n cm) [] ms w26 R1.out.sl (HP3.out.m.fr HF6.out (fun b hb=> .inl (by simp only[List.mem_cons,List.not_mem_nil,or_false]at hb ⊢;omega))).sl (DG.nil _) F.out.md (fun _=>by rw[val_nil];exact HM0.out) (fun h=>by simp at h)).mono ?_;rw[val_nil,cmpI_lt HM0.out];rintro e w27 ⟨rfl,f27⟩));have CN2:Calls Tryz.prog 34 #[.slice A2' 0 c2'] w27 _:=normN_any A2' b2' o2' c2' [] w27 (R1.out.fr0 f27) (DG.nil _);have HCN2:=κ CN2;have h10:decide ((0:Int)<= -1)=false:=rfl;clear CN2;go_wp2_with (go_at_call 34;refine(HCN2.out).mono ?_;rintro e w28 ⟨⟨zs,rfl,g1,g2,g3,g4,g5⟩,rfl⟩;have G1:=κ g1;have G2:=κ g2;have G3:=κ g3;have G4:=κ g4;clear g1 g2 g3 g4 g5);go_ret;exact mw_ret HP3.out HB.out HZBB.out (HF6.out.trans f27 (by simp)) G1.out G2.out G3.out (G4.out.trans ((val_nil _).trans HFV.out)) R3.out
            ·obtain⟨i2,rfl⟩: ∃i2,i1=i2+1:=⟨i1-1,by omega⟩
             obtain rfl:x=(i2:Int):=by omega
             have cyi:=hS.y.cell (i:=i2) (by omega);rw[word_at HYD.out (by omega) HY.out]at cyi;obtain⟨y0,hy0'⟩: ∃y0,y0=Y/2^(64*i2)%2^64:=⟨_,rfl⟩;rw[<-hy0']at cyi;have HY0':=κ hy0';have hi2:(i2:Int)<(ys.length:Int):=by omega
             clear hS hx hy0';go_wp2_with fail;go_loopg [0,17,22,23] 16 (WiR n kk X (.slice (some ⟨bm,om,none⟩) n cm) (.slice (some ⟨g,0,none⟩) n n) (.slice (some ⟨by_,oy,none⟩) ys.length cy) ms os ys pb [bz,z] wp Y i2)
             case atStart=>
              exact⟨0,0,y0,rfl,rfl,rfl,by rw[HY0'.out];simp,by omega,rfl,HS.out.exp (by congr 2)⟩
             case round=>
              obtain⟨j,J,yi,rfl,hJ,rfl,hyi,hj,rfl,hS⟩:=hrel;have HS2:=κ hS;have HYI:=κ hyi;have HJ:=κ hJ;clear hS hyi;by_cases hj16:j<16
              ·have hJ64:(J:Int)<64:=by omega
               have hyi64:(yi:Int)<18446744073709551616:=by have:=HYI.out;omega
               obtain⟨e,he⟩: ∃e,e=Y/2^(64*i2+64-4*j):=⟨_,rfl⟩;obtain⟨d,hd⟩: ∃d,d=yi/2^60:=⟨_,rfl⟩;have hd16:d<16:=by omega
               have hdI:(yi:Int)/1152921504606846976=(d:Int):=by omega
               have hdI2:(d:Int)<16:=by omega
               have HE:=κ he;have HD':=κ hd;obtain⟨yi2,hyi2⟩: ∃yi2,yi2=yi*16%2^64:=⟨_,rfl⟩;have hwy:IntKind.u64.wrap ((yi:Int)*16)=(yi2:Int):=by rw[IntKind.wrap_u64,hyi2];simp
               have HYI2:=κ hyi2;clear he hd hJ hyi2 hd16;go_upto_region 42 with fail;go_cut [168]from 160 to 167 (fun v168 wx=> ∃b,v168= .bool b/\wr=wx/\(b=false->e=0))
               case first=>
                by_cases c1:i2+1=ys.length
                ·have hb1:((i2:Int) !=(ys.length:Int)-1)=false:=by rw[bne_eq_false_iff_eq];omega
                 by_cases c2:J=0
                 ·have hb2:((J:Int) !=0)=false:=by rw[bne_eq_false_iff_eq];omega
                  have HC1:=κ c1;have HC2:=κ c2;clear c1 c2;go_wp2_with fail;go_meet;refine⟨false,rfl,rfl,fun _=> ?_⟩;have h1:=HC1.out;have h2:=HC2.out;have h3:=HJ.out;rw[HE.out,show 64*i2+64-4*j=64*ys.length by omega];exact HY0.out
                 ·have hb2:((J:Int) !=0)=true:=by rw[bne_iff_ne];omega
                  clear c1 c2;go_wp2_with fail;go_meet;exact⟨true,rfl,rfl,fun h=>by cases h⟩
                ·have hb1:((i2:Int) !=(ys.length:Int)-1)=true:=by rw[bne_iff_ne];omega
                 clear c1;go_wp2_with fail;go_meet;exact⟨true,rfl,rfl,fun h=>by cases h⟩
               case rest=>
                obtain⟨b,rfl,rfl,he0⟩:=hcut;have HE0:=κ he0;clear he0;go_upto_if 168 with fail;go_cut [0,17]from 169 to 196 (fun v0 v17 wx=>MoS n kk X (.slice (some ⟨bm,om,none⟩) n cm) (.slice (some ⟨g,0,none⟩) n n) (.slice (some ⟨by_,oy,none⟩) ys.length cy) ms os ys pb [bz,z] wp v0 v17 (16*e) wx)
                case first=>
                 cases b with
                 |true=>
                  have T1:True:=trivial;have T2:True:=trivial;have T3:True:=trivial;have T4:True:=trivial
                  go_wp2_with (first
                   |(go_at_call 94;clear T1;refine(mo_sq HS2.out).mono ?_;rintro en w20 ⟨v20,rfl,hs⟩;have HQ1:=κ hs;clear hs)
                   |(go_at_call 94;clear T2;refine(mo_sq HQ1.out).mono ?_;rintro en w20 ⟨v20,rfl,hs⟩;have HQ2:=κ hs;clear hs)
                   |(go_at_call 94;clear T3;refine(mo_sq HQ2.out).mono ?_;rintro en w20 ⟨v20,rfl,hs⟩;have HQ3:=κ hs;clear hs)
                   |(go_at_call 94;clear T4;refine(mo_sq HQ3.out).mono ?_;rintro en w20 ⟨v20,rfl,hs⟩;have HQ4:=κ hs;clear hs));go_meet;exact HQ4.out.exp (by rw[HE.out];omega)
                 |false=>
                  go_wp2_with fail;go_meet;exact HS2.out.exp (by have h0:e=0:=(by first|exact HE0.out rfl|exact HE0.out trivial);rw[<-HE.out];omega)
                case rest=>
                 have hS3:=hcut;obtain⟨w22,hw22⟩: ∃w22,w22=wc:=⟨_,rfl⟩;subst hw22;have HS3:=κ hS3;have hd16:d<16:=by omega
                 obtain⟨vp,hvp⟩:=hS3.pw hd16;have CP:=κ (mo_pw hS3 hd16 hvp);clear hS3 hcut hd16;go_wp2_with (go_at_call 94;refine(CP.out).mono ?_;rintro en w23 ⟨v23,rfl,hs⟩;have HS4:=κ hs;clear hs);go_roundg (16-(j+1));case measure=>omega
                 case rel=>
                  refine⟨j+1,J+4,yi2,by first|rfl|go_num,by have:=HJ.out;omega,rfl,?_,by omega,rfl,HS4.out.exp ?_⟩
                  ·rw[HYI2.out,HYI.out];exact win_shl
                  ·have h1:=win_next (E:=Y) (i:=i2) (j:=j) (by omega)
                   have h2:=win_dig (E:=Y) (i:=i2) (j:=j) (by omega);rw[<-HYI.out,<- HD'.out]at h2;rw[show 64*i2+64-4*(j+1)=64*i2+60-4*j by omega,h1,<- h2,<- HE.out]
              ·obtain rfl:j=16:=by omega
               have hJ64: ¬(J:Int)<64:=by omega
               clear hJ;go_wp2_with fail;go_roundg i2;case measure=>omega
               case rel=>exact⟨i2,_,rfl,rfl,by omega,rfl,HS2.out.exp (by congr 2)⟩
end
end Go.Proofs.YthecibbmbnpegaaGreatDoor
