/-
  Part 20 of the proof of the law FnExpSum: XDrF. Conditions: those of each statement.
-/
import Derived.Test.YthecibbmbnpegaaGreatDoorK19
import Derived.Deep.DeepCutAuto
import Derived.Deep.RegionWith
import Derived.Deep.CutBlock
import Derived.StillTailTactics
import Derived.Laws.Bits64
set_option linter.unusedSimpArgs false
set_option linter.unusedVariables false
set_option maxRecDepth 100000
set_option maxHeartbeats 16000000
namespace Go.Proofs.YthecibbmbnpegaaGreatDoor
open Go.Big Go.RowKit
attribute [local go_sem ↓] Go.wp_at_zero Go.wp_at_succ
theorem put_noneD(a:Act)(v:Value):a.put none v=a:=rfl
theorem dr_main{n lu lz s i:Nat}{q:Option StkSt}{bz oz cz bu ou cu bv ov cv:Nat}{U V:List Int}{w:World}(d:Int)(h:DrPre n lu lz s q bz oz cz bu ou cu bv ov cv U V w)(hi:CutAt U i)(hin:n<=i)(n40:40<=n)(R: ∀k,k<n->DrOK k):
 Calls Tryz.prog 114 #[.slice (some ⟨bz,oz,none⟩) lz cz,.pointer (some ⟨s,0,none⟩),.slice (some ⟨bu,ou,none⟩) lu cu,.slice (some ⟨bv,ov,none⟩) n cv,.int .i64 d] w (DrPost s q bz oz lz bu ou lu (val 18446744073709551616 U) (val 18446744073709551616 V) w):=by
 have H:=κ h;have hvn:=h.vn;have cz1:=h.cz1;have cz9:=h.cz9;have cu1:=h.cu1;have cu9:=h.cu9;have cv9:=h.cv9;have few:=h.few;have lu9:=h.lu9;have lz9:=h.lz9;have hil:i<=lu:=by have:=hi.1;rwa[h.ul]at this
 have CU:=normD_any bu ou cu i U w h.u.src (by rw[h.ul];exact cu1) (by unfold maxLen;omega) hi;have CV:=normD_any bv ov cv n V w (h.v.2.2 (by rw[h.kv.len];omega)) (by rw[h.kv.len];exact hvn) (by unfold maxLen;omega) (knv_cut h.kv);rw[h.ul]at CU;rw[h.kv.len]at CV;have HCU:=κ CU;have HCV:=κ CV;obtain⟨B,hB⟩: ∃B,B=n/2:=⟨_,rfl⟩;obtain⟨p,hp⟩: ∃p,p+1=B:=⟨B-1,by omega⟩;obtain⟨m,hm⟩: ∃m,i=m+n:=⟨i-n,by omega⟩;obtain⟨B1,hB1⟩: ∃B1,B1=B+1:=⟨_,rfl⟩;obtain⟨n3,hn3⟩: ∃n3,n3=3*n:=⟨_,rfl⟩;obtain⟨np,hnp⟩: ∃np,np=n-p:=⟨_,rfl⟩;obtain⟨cvp,hcvp⟩: ∃x,x=cv-p:=⟨_,rfl⟩;have D:=κ (R np (by omega));have CN:=κ (nat_anyE s B1 q w h.st (by omega) (by omega) (by have:=h.len;omega));have CS:=κ (save_any s q w h.st);have td:w.cell? ⟨1,0,none⟩=some (.int .i64 40):=h.td;have a1:(n:Int)/2=(B:Int):=by omega
 have a2:(B:Int)+1=(B1:Int):=by omega
 have a3:(i:Int)-(n:Int)=(m:Int):=by omega
 have a4:(B:Int)-1=(p:Int):=by omega
 have a5:3*(n:Int)=(n3:Int):=by omega
 have hi0':((i:Int)==0)=false:=by rw[beq_eq_false_iff_ne];omega
 have hnI: ¬(n:Int)<40:=by omega
 have hpn':p<=n/\p<=cv/\p<=n3/\ ¬n3=p/\n3<=2700:=by omega
 obtain⟨hpn',hpcv,hpn3,hpn4,hn39⟩:=hpn';have hpnI:(p:Int)<=(n:Int)/\(p:Int)<=(cv:Int)/\(p:Int)<=(n3:Int):=by omega
 obtain⟨hpnI,hpcvI,hpn3I⟩:=hpnI;have hs1:n-p=np:=hnp.symm;have hs2:cv-p=cvp:=hcvp.symm;have hb1:20<=B/\B<=450/\B<=n/\p<B/\p<n/\m<=i/\i<=100000/\i<=cu/\0<p/\p<cv:=by omega
 obtain⟨hb1,hb2,hb3,hb4,hb5,hb6,hb7,hb8,hb9,hb10⟩:=hb1;have HI:=κ hi;have HB:=κ hB;have HP:=κ hp;have HM:=κ hm;have HB1:=κ hB1;have HN3:=κ hn3;have HNP:=κ hnp;have HCVP:=κ hcvp;have T1:True:=trivial;clear h CU CV hi hB hp hm hB1 hn3 hnp hcvp R;go_enter_defers Tryz.func114,Tryz.ntmps114;refine wp_mono ?_ bodyPostN_D
 go_wp2_with (first
  |(go_at_call 34;clear T1;refine(HCU.out).mono ?_;rintro e w1 ⟨rfl,rfl⟩)
  |(go_at_call 34;refine(HCV.out).mono ?_;rintro e w1 ⟨rfl,rfl⟩)
  |(go_at_call 54;refine(CS.out).mono ?_;rintro e w1 ⟨rfl,rfl⟩)
  |(go_at_call 55;refine(CN.out).mono ?_;rintro e w1 ⟨b0,o0,ct,q1,rfl,p1,p2,p3,p4,p5,p6,p7,p8,p9,p10,p11⟩;obtain rfl:B1=ct:=(p11 (by omega)).symm;have P3:=κ p3;have P4:=κ p4;have P5:=κ p5;have P6:=κ p6;have P7:=κ p7;have P8:=κ p8;have P9:=κ p9;have P10:=κ p10;clear p1 p2 p3 p4 p5 p6 p7 p8 p9 p10 p11));have CTX:=dr_ctx0 H.out HI.out HM.out n40 HB.out HP.out (by rw[<-HB1.out];exact P3.out) P4.out P5.out P6.out (by rw[<-HB1.out];exact P7.out) P8.out (by rw[<-HB1.out];exact P9.out) (by rw[<-HB1.out];exact P10.out);obtain⟨c_,hl95,i_,hmlz⟩:=CTX;have C:=κ c_;have INV:=κ i_;have ML:=κ hmlz;clear c_ i_ hmlz CN CS td HCU HCV P3 P4 P7 P10;go_loopg [14] m (DrR n B m lz i s q1 bz oz bu ou b0 o0 V (val 18446744073709551616 U) w1);case atStart=>exact⟨m,rfl,rfl,INV.out⟩
 case round=>
  obtain⟨j,hgj,rfl,q',Uc,Zc,hk,hjm,hsum,hub,hlz⟩:=hrel;obtain rfl:=hgj.symm;by_cases hjB:B<j
  ·obtain⟨a,ha⟩: ∃a,a+B=j:=⟨j-B,by omega⟩
   obtain⟨la,hla⟩: ∃x,x=i-a:=⟨_,rfl⟩;obtain⟨ca,hca⟩: ∃x,x=cu-a:=⟨_,rfl⟩;obtain⟨Bn,hBn⟩: ∃x,x=B+n:=⟨_,rfl⟩;obtain⟨nx,hnx⟩: ∃x,x=Bn-p:=⟨_,rfl⟩;obtain⟨cap,hcap⟩: ∃x,x=ca-p:=⟨_,rfl⟩;have hml:=ML.out;have hmi:=HM.out;have b1:(j:Int)-(B:Int)=(a:Int):=by omega
   have b2:(B:Int)+(n:Int)=(Bn:Int):=by omega
   have b3:i-a=la:=hla.symm;have b4:cu-a=ca:=hca.symm;have b5:Bn-p=nx:=hnx.symm;have b6:ca-p=cap:=hcap.symm;have b7:(B:Int)<(j:Int):=by omega
   have b8: ¬cu=a:=by omega
   have b10: ¬ca=p:=by omega
   have b14: ¬cz=a:=by omega
   obtain⟨lza,hlza⟩: ∃x,x=lz-a:=⟨_,rfl⟩;obtain⟨cza,hcza⟩: ∃x,x=cz-a:=⟨_,rfl⟩;obtain⟨lap,hlap⟩: ∃x,x=la-p:=⟨_,rfl⟩;have b15:lz-a=lza:=hlza.symm;have b16:cz-a=cza:=hcza.symm;have b17:la-p=lap:=hlap.symm;have b18:p<=la/\a<=lz/\a<=cz/\ca<=9223372036854775807/\lza<=cza/\cza<=9223372036854775807/\lap<=cap/\n<=la:=by omega
   obtain⟨b18,b19,b20,b21,b22,b23,b24,b25⟩:=b18;have b18I:(p:Int)<=(la:Int)/\(a:Int)<=(lz:Int):=by omega
   obtain⟨b18I,b19I⟩:=b18I;have bw:IntKind.i64.wrap (Bn:Int)=(Bn:Int):=by rw[IntKind.wrap_i64];omega
   have b11: ¬cv=p:=by omega
   have b12:(p:Int)<=(Bn:Int):=by omega
   have b13:(Bn:Int)<=(ca:Int):=by omega
   have b9:(a:Int)<=(i:Int):=by omega
   have hul:=hk.ul;have hfacts:a+n<=i/\a<m/\Bn<=la/\Bn<=ca/\p<=Bn/\p<ca/\la<=ca/\ca<=cu/\a<lz/\Bn<=1400:=by omega
   obtain⟨f1,f2,f3,f4,f5,f6,f7,f8,f9,f10⟩:=hfacts
   have hXb:val 18446744073709551616 (Uc.drop a)<18446744073709551616^(n+B):=by
    have e:=val_split 18446744073709551616 Uc a (by omega);have e2:(18446744073709551616:Int)^(n+j)=18446744073709551616^a*18446744073709551616^(n+B):=by rw[<-Int.pow_add];congr 1;omega
    have h0:=val_nonneg (B:=18446744073709551616) (by omega) (hk.ud.take a);rw[e2]at hub;exact Int.lt_of_mul_lt_mul_left (by omega) (Int.le_of_lt (pow_pos_ (B:=18446744073709551616) (by omega) a))
   obtain⟨X,qh,R0,hQ⟩:=dr_num (a:=a) C.out.kv n40 HB.out HP.out hk.ud (by omega) hXb;obtain⟨LZ,hLZ,hLZl⟩:=hk.row C.out;have HZF:=κ (dr_zfit C.out.kv hk.ud (show a<=Uc.length by omega) hsum H.out.uq);have HXI:=κ (show X<18446744073709551616^(i-a)by rw[hQ.xe];exact val_lt_of_len (B:=18446744073709551616) (by omega) (hk.ud.drop a) (by rw[List.length_drop];omega));have HQL:=κ (fun(hh:j=lz)=>dr_qlen (lz:=lz) hQ C.out.kv n40 HB.out HP.out hk.ud (show a+p<=Uc.length by omega) (by rw[hQ.xe];exact dr_xlz hk.ud (show a<=Uc.length by omega) ha (by omega) (hlz hh)));have HLO:=κ (show val 18446744073709551616 (Uc.take a)+18446744073709551616^a*X+val 18446744073709551616 V*val 18446744073709551616 Zc=val 18446744073709551616 U by rw[hQ.xe,<- val_split 18446744073709551616 Uc a (by omega)];exact hsum);have HLZA:=κ hlza;have HCZA:=κ hcza;have HLAP:=κ hlap;have HJM:=κ hjm;have HK:=κ hk;have HQ:=κ hQ;have HV18:=κ (dr_hv (lx:=nx) hk.ud (show a+p<=Uc.length by omega) hXb (by omega) (by omega));have HLZ:=κ hLZ;have HLZl:=κ (show o0+B1<=LZ.length by rw[HB1.out];exact hLZl);have HSUM:=κ hsum;have HUB:=κ hub;have HLZ2:=κ hlz;have HA:=κ ha;have HLA:=κ hla;have HCA:=κ hca;have HBN:=κ hBn;have HNX:=κ hnx;have HCAP:=κ hcap;clear hlza hcza hlap hjm hk hsum hub hlz hXb hQ hLZ hLZl ha hla hca hBn hnx hcap hul hml hmi;go_upto_region 18 with(refine wp_clear rfl (.tmp 76) _ rfl .u64 51 8 ty_big (some ⟨b0,o0,none⟩) b0 o0 B1 B1 rfl (fun _=>rfl) LZ HLZ.out HLZl.out ?_;intro w3 row3 f3;have K3:=κ (dr_clr0 C.out HK.out HLZ.out (by rw[<-HB1.out];exact HLZl.out) (by rw[<-HB1.out];exact row3) f3);clear row3 f3 HLZ HLZl);rw[put_noneD];have CR:=fun W fW d'=>dr_rec (by rw[<-HNP.out];exact D.out) C.out K3.out (a:=a) (x:=a+p) (ox:=ou+a+p) (lx:=nx) (cx:=cap) d' rfl (by omega) (by have:=HNX.out;have:=HBN.out;have:=HM.out;have:=ML.out;have:=HA.out;omega) (by omega) (by omega) HV18.out HQ.out.hfit W fW
   simp only[<-HB1.out,<- HNP.out,<- HCVP.out]at CR;have CRH:=κ CR;clear CR;go_still_tail 13,(by kernel_rfl);go_upto_region 19 with(go_at_call 114;refine(CRH.out _ (Fr.refl _ _).drew _).mono ?_;rintro e w4 ⟨rfl,q3,Uc3,Qc3,k3,hq3,hlo3,hR3⟩);clear CRH K3;obtain⟨iq,hiq⟩:=cut_at Qc3;have hq3':=hq3.trans HQ.out.qe.symm;have HQ3:=κ hq3;have HLO3:=κ hlo3;have HR3:=κ hR3;have K3:=κ k3;have HIQ:=κ hiq;have hiq1:iq<=B1:=by rw[HB1.out];exact dr_iq k3.cd hiq hq3' HQ.out.q2
   have HIQB:=κ (fun(hh:j=lz)=>dr_iq k3.cd hiq hq3' (HQL.out hh));have CN1:=normD_any b0 o0 B1 iq Qc3 w4 k3.c.src (by rw[k3.cl,<- HB1.out];exact Nat.le_refl _) (by unfold maxLen;omega) hiq;rw[k3.cl,<- HB1.out]at CN1;have HCN1:=κ CN1;have CS1:=save_any s q3 w4 k3.st;rw[k3.ll]at CS1;have HCS1:=κ CS1;have hlq1:lenS q1<=100000000000:=by omega
   have HCA1:=κ (nat_anyE s n3 q3 w4 k3.st (by omega) (by omega) (by rw[k3.ll];exact hlq1));clear k3 hq3 hlo3 hR3 hiq CN1 CS1 hq3'
   go_upto_region 22 with(first
    |(go_at_call 34;refine(HCN1.out).mono ?_;rintro e w5 ⟨rfl,rfl⟩)
    |(go_at_call 54;refine(HCS1.out).mono ?_;rintro e w5 ⟨rfl,rfl⟩)
    |(go_at_call 55;refine(HCA1.out).mono ?_;rintro e w5 ⟨bt,ot,ct,q4,rfl,p1,p2,p3,p4,p5,p6,p7,p8,p9,p10,p11⟩;obtain rfl:n3=ct:=(p11 (by omega)).symm;have P3:=κ p3;have PT:=κ (dr_nat C.out hl95 K3.out HN3.out (Fr.refl _ _) p3 p4 p5 p6 p7 p8 p9 p10);clear p1 p2 p3 p4 p5 p6 p7 p8 p9 p10 p11));clear HCN1 HCS1 HCA1;obtain⟨L3,hL3,hL3l⟩:=P3.out;have HL3:=κ hL3;have HL3l:=κ hL3l;clear hL3 hL3l P3;go_upto_region 23 with(refine wp_clear rfl (.tmp 99) _ rfl .u64 51 8 ty_big (some ⟨bt,ot,none⟩) bt ot n3 n3 rfl (fun _=>rfl) L3 HL3.out HL3l.out ?_;intro w6 row6 f6;have M6:=κ (dr_clear PT.out.1 PT.out.2.2.1 K3.out.ul K3.out.ud PT.out.2.2.2.1 K3.out.zl K3.out.zd PT.out.2.2.2.2 K3.out.cl K3.out.cd HL3.out HL3l.out row6 f6);clear row6 f6 HL3 HL3l);rw[put_noneD];have V6:=κ (dr_v0 M6.out HQ.out HLO3.out HR3.out rfl HQ3.out HIQ.out);have CM0:=fun W fW=>dr_mul PT.out.1 V6.out (show iq<=B+1 by rw[<-HB1.out];exact hiq1) HQ.out.pb W fW
   simp only[<-HB1.out]at CM0;have CM:=κ CM0;clear CM0;go_wp2_with (go_at_call 33;refine(CM.out _ (Fr.refl _ _)).mono ?_;rintro e w7 ⟨l,rfl,hl2,kv7⟩;have V7:=κ kv7;clear kv7);clear CM M6 V6 HLO3 HR3 HQ3 K3;have hln:l<=n/\l<=n3/\l<=ca/\l<=la:=by have:=HB.out;omega
   obtain⟨hln,hln3,hlca,hlla⟩:=hln;have hlcaI:(l:Int)<=(ca:Int)/\(l:Int)<=(la:Int)/\(l:Int)<=(n3:Int):=by omega
   obtain⟨hlcaI,hllaI,hln3I⟩:=hlcaI
   have hIQL:iq<=lza:=by
    rcases(show j<lz\/j=lz by have:=HJM.out;have:=ML.out;omega)with hh|hh
    ·have:=HB1.out;have:=HLZA.out;have:=HA.out;omega
    ·have:=HLZA.out;have:=HA.out
     have h2:iq<=B:=HIQB.out hh;omega
   go_loopg [20] 1 (DrJ 1 n B p lz i s q4 bz oz bu ou b0 o0 bt ot n3 w5 a l iq (val 18446744073709551616 (Uc.take a)) (val 18446744073709551616 Zc) X V);case atStart=>exact⟨0,by omega,rfl,rfl,_,_,_,V7.out,HQ.out.e0⟩
   case round=>
    obtain⟨t,ht,hg,rfl,R,tq,qq,kv,he⟩:=hrel;obtain⟨iu,CN0,CC0⟩:=dr_cmp PT.out.1 kv hln3 (oa:=ou+a) (la:=la) (ca:=ca) rfl HLA.out (by omega) f7 b21;have ht2:(t:Int)<2:=by omega
    obtain⟨ec,hec⟩: ∃x,x=cmpI tq R:=⟨_,rfl⟩;rw[<-hec]at CC0;have HCN:=κ CN0;have HCC:=κ CC0;have KV:=κ kv;have HE:=κ he;have HEC:=κ hec;have HG:=κ hg;have T2:True:=trivial;have T3:True:=trivial;clear CN0 CC0 kv he hec hg V7;by_cases hle:tq<=R
    ·have hec0:ec<=0:=by rw[HEC.out];exact cmp_le hle
     have hec1: ¬0<ec:=by omega
     have HLE:=κ hle;clear hle
     go_upto_if 153 with(first
      |(go_at_call 34;clear T2;refine(HCN.out _ (Fr.refl _ _)).mono ?_;rintro e w8 ⟨rfl,rfl⟩)
      |(go_at_call 47;clear T3;refine(HCC.out _ (Fr.refl _ _)).mono ?_;rintro e w8 ⟨rfl,f8⟩)
      |(go_at_call 34;refine(HCN.out _ f8).mono ?_;rintro e w9 ⟨rfl,rfl⟩)
      |(go_at_call 47;refine(HCC.out _ f8).mono ?_;rintro e w9 ⟨rfl,f9⟩));have hd1:decide (0<ec)=false:=decide_eq_false (by omega);simp only[hd1];clear hd1 hec0 hec1;go_upto_region 36 with fail;have CS:=κ (fun W fW=>dr_subu1 PT.out.1 KV.out hln (oa:=ou+a) (ca:=ca) rfl f1 W fW);go_still_tail 9,(by kernel_rfl);go_upto_if 166 with(go_at_call 71;refine(CS.out _ (f8.t f9).drew).mono ?_;rintro e w10 ⟨c,rfl,hc0,hc1,hcz,kv10⟩;have K10:=κ kv10;have HCZ:=κ hcz;clear kv10 hcz);clear CS HCN HCC KV f8 f9;go_cut [17]from 65 to 189 (fun s17 wx=>CutV (.slice (some ⟨b0,o0,none⟩) iq B1) (DrV n B lz i s q4 bz oz bu ou b0 o0 bt ot n3 w5 a l iq (val 18446744073709551616 (Uc.take a)) (R-tq) (val 18446744073709551616 Zc) tq qq false) s17 wx)
     case first=>
      rcases(show c=0\/c=1 by omega)with hcc|hcc
      ·have hd1:decide (0<c)=false:=decide_eq_false (by omega)
       have HCC0:=κ hcc;simp only[hd1];clear hd1 hcc hc0 hc1;go_wp2_with fail;go_meet;obtain rfl:=HCC0.out;have h:=K10.out;rw[Int.mul_zero,Int.add_zero]at h;exact⟨rfl,h⟩
      ·have hd1:decide (0<c)=true:=decide_eq_true (by omega)
       have HCC0:=κ hcc;simp only[hd1];clear hd1
       have hlt:l<la:=by
        rcases(show l=la\/l<la by omega)with hh|hh
        ·have:=HCZ.out (hh.trans HLA.out) HLE.out
         omega
        ·exact hh
       obtain⟨lal,hlal⟩: ∃x,x=la-l:=⟨_,rfl⟩;obtain⟨cal,hcal⟩: ∃x,x=ca-l:=⟨_,rfl⟩;have e1:la-l=lal:=hlal.symm;have e2:ca-l=cal:=hcal.symm;have e3: ¬ca=l:=by omega
       have e4:(c:Int)<=1/\0<=c:=⟨by omega,by omega⟩;have CW:=κ (fun W fW=>dr_subu2 PT.out.1 K10.out (by have:=HLE.out;omega) e4.2 e4.1 (ox:=ou+a+l) (lx:=lal) (cx:=cal) (by omega) (by have:=HLA.out;omega) (by have:=HLA.out;omega) (by omega) (by omega) W fW);clear hlal hcal hcc hc0 hc1 hlt;go_upto_region 38 with fail;go_still_tail 9,(by kernel_rfl);go_wp2_with (go_at_call 72;refine(CW.out _ (Fr.refl _ _).drew).mono ?_;rintro e w11 ⟨rfl,kv11⟩);go_meet;exact⟨rfl,kv11⟩
     case rest=>
      obtain⟨rfl,kv12⟩:=hcut;have hE:=HE.out.1 HLE.out;have CA0:=fun W fW=>dr_addz PT.out.1 kv12 (show iq<=B+1 by rw[<-HB1.out];exact hiq1) (ox:=oz+a) (lx:=lza) (cx:=cza) rfl HLZA.out b19 hIQL b22 b23 (by rw[<-hE.1,HQ.out.xe];exact HZF.out) W fW
      simp only[<-HB1.out]at CA0;have CA:=κ CA0;have HEE:=κ hE;clear kv12 hE CA0 K10 HCZ
      go_wp2_with (first
       |(go_at_call 56;refine(CA.out _ (Fr.refl _ _)).mono ?_;rintro e w13 ⟨rfl,kv13⟩;obtain⟨q9,U9,Z9,Q9,T9,m9,n9⟩:=kv13;have CRS:=κ (restore_any s (lenS q1) q9 _ m9.st (dr_cap m9.st (by rw[m9.ll];exact PT.out.2.1.ll)));have M9:=κ m9;have N9:=κ n9;clear m9 n9)
       |(go_at_call 53;refine(CRS.out).mono ?_;rintro e w14 ⟨rfl,hst14,hf14⟩;have H14:=κ (And.intro hst14 hf14);clear hst14 hf14));go_roundg a;case measure=>omega
      case rel=>
       have K14:=(dr_back PT.out.2.1 C.out PT.out.1 M9.out H14.out.1 H14.out.2).h;exact⟨a,rfl,rfl,dr_next C.out.kv M9.out.ud (by omega) HA.out HJM.out ML.out HLO.out N9.out.hlo (by have:=M9.out.ul;omega) (N9.out.hR.trans HEE.out.2.symm) (by rw[HEE.out.1];exact N9.out.hz) K14⟩
    ·have hec2: ¬ec<=0:=by rw[HEC.out];exact cmp_gt (by omega)
     obtain⟨rfl,hq1,hv0,_,_,hfit,hxle⟩:=HE.out.2 (by omega);have CD0:=fun W fW=>dr_dec PT.out.1 KV.out (show iq<=B+1 by rw[<-HB1.out];exact hiq1) hq1 W fW
     simp only[<-HB1.out]at CD0;have CD:=κ CD0;have HNE:=κ (HE.out.next (by omega));have HXL:=κ hxle;have HV0:=κ hv0;clear CD0 hle hfit hxle hv0
     go_upto_if 116 with(first
      |(go_at_call 34;refine(HCN.out _ (Fr.refl _ _)).mono ?_;rintro e w8 ⟨rfl,rfl⟩)
      |(go_at_call 47;refine(HCC.out _ (Fr.refl _ _)).mono ?_;rintro e w8 ⟨rfl,f8⟩));have hd1:decide (ec<=0)=false:=decide_eq_false (by omega);simp only[hd1];clear hd1 hec2
     go_upto_region 30 with(first
      |(go_at_call 72;refine(CD.out _ f8).mono ?_;rintro e w9 ⟨⟨c9,rfl⟩,kv9⟩;have K9:=κ kv9;clear kv9));clear CD HCN HCC KV f8;have CS:=κ (fun W fW=>dr_sub1 PT.out.1 K9.out hl2 HV0.out W fW);go_still_tail 9,(by kernel_rfl);go_upto_if 133 with(go_at_call 71;refine(CS.out _ (Fr.refl _ _).drew).mono ?_;rintro e w10 ⟨c,rfl,hc0,hc1,hcl,kv10⟩;have K10:=κ kv10;have HCL:=κ hcl;clear kv10 hcl);clear CS K9;go_cut [17]from 107 to 148 (fun s17 wx=>CutV (.slice (some ⟨b0,o0,none⟩) iq B1) (DrV n B lz i s q4 bz oz bu ou b0 o0 bt ot n3 w5 a l iq (val 18446744073709551616 (Uc.take a)) R (val 18446744073709551616 Zc) (tq-val 18446744073709551616 (V.take p)) (qq-1) false) s17 wx)
     case first=>
      by_cases hlp:p<l
      ·obtain⟨lp,hlpe⟩: ∃x,x=l-p:=⟨_,rfl⟩
       obtain⟨n3p,hn3p⟩: ∃x,x=n3-p:=⟨_,rfl⟩;have e1:l-p=lp:=hlpe.symm;have e2:n3-p=n3p:=hn3p.symm;have e4:p<=l:=by omega
       have hd1:decide (p<l)=true:=decide_eq_true hlp;simp only[hd1];clear hd1;have CW0:=fun W fW=>dr_sub2 PT.out.1 K10.out hl2 hlp (by have:=HV0.out;omega) hc0 hc1 W fW
       simp only[e1,e2]at CW0;have CW:=κ CW0;clear hlpe hn3p CW0;go_upto_region 32 with fail;go_still_tail 7,(by kernel_rfl);go_wp2_with (go_at_call 72;refine(CW.out _ (Fr.refl _ _).drew).mono ?_;rintro e w11 ⟨⟨c11,rfl⟩,kv11⟩);go_meet;exact⟨rfl,kv11⟩
      ·obtain rfl:c=0:=HCL.out (by omega)
       have hd1:decide (p<l)=false:=decide_eq_false hlp;simp only[hd1];clear hd1 hlp;go_wp2_with fail;go_meet;have h:=K10.out;rw[Int.mul_zero,Int.add_zero]at h;exact⟨rfl,h⟩
     case rest=>
      obtain⟨rfl,kv12⟩:=hcut;have CU0:=fun W fW=>dr_addu PT.out.1 kv12 hln (ox:=ou+a+p) (lx:=lap) (cx:=cap) (by omega) (by have:=HLAP.out;have:=HLA.out;omega) f1 b24 (by omega) (Int.lt_of_le_of_lt HXL.out HXI.out) W fW
      simp only[hs1,hs2]at CU0;have CU:=κ CU0;clear kv12 CU0 K10 HCL;go_upto_region 33 with fail;go_still_tail 6,(by kernel_rfl);go_wp2_with (go_at_call 56;refine(CU.out _ (Fr.refl _ _).drew).mono ?_;rintro e w13 ⟨rfl,kv13⟩);go_roundg 0;case measure=>have:=HG.out;omega
      case rel=>exact⟨1,by omega,rfl,rfl,_,_,_,kv13,HNE.out⟩
  ·have nb:decide (B<j)=false:=decide_eq_false hjB
   have nbI:decide ((B:Int)<(j:Int))=false:=decide_eq_false (by omega);obtain⟨cup,hcup⟩: ∃x,x=cu-p:=⟨_,rfl⟩;obtain⟨iup,hiup⟩: ∃x,x=i-p:=⟨_,rfl⟩;have hmi:=HM.out;have b4:cu-p=cup:=hcup.symm;have b5:i-p=iup:=hiup.symm;have b6: ¬cu=p:=by omega
   have b6v: ¬cv=p:=by omega
   have b7:p<=i/\iup<=cup/\cup<=9223372036854775807/\n<=i/\p<=cu/\iup<=100000:=by omega
   obtain⟨b7,b8,b9,b10,b11,b12⟩:=b7;have b7I:(p:Int)<=(i:Int)/\(p:Int)<=(cu:Int):=by omega
   obtain⟨b7I,b11I⟩:=b7I;have hul:=hk.ul
   have hXb:val 18446744073709551616 Uc<18446744073709551616^(n+B):=by
    have:=pow_le_pow_ (B:=18446744073709551616) (by omega) (show n+j<=n+B by omega);omega
   obtain⟨X,qh,R0,hQ⟩:=dr_num (a:=0) C.out.kv n40 HB.out HP.out hk.ud (show 0+p<=Uc.length by omega) (by rw[List.drop_zero];exact hXb);have hXe:X=val 18446744073709551616 Uc:=by have:=hQ.xe;rwa[List.drop_zero]at this
   obtain⟨LZ,hLZ,hLZl⟩:=hk.row C.out;obtain⟨ip,hip⟩:=cut_at (Uc.drop p);have hipl:ip<=iup:=by have:=hip.1;rw[List.length_drop]at this;omega
   have hv18:=(cut_facts (hk.ud.drop p) hip).2.2.2;have hzf:=dr_zfit (a:=0) C.out.kv hk.ud (Nat.zero_le _) hsum H.out.uq;rw[List.drop_zero,<- hXe,Int.pow_zero,Int.one_mul]at hzf;have HZF:=κ hzf;have HXI:=κ (show X<18446744073709551616^(i-0)by rw[hXe];exact val_lt_of_len (B:=18446744073709551616) (by omega) hk.ud (by omega));have hfn:=dr_fin (X:=X) (U0:=val 18446744073709551616 U) C.out.kv.pos (by rw[hXe];exact hsum);have HFN:=κ hfn;have HV18:=κ hv18;have HIP:=κ hip;have HZN:=κ (val_nonneg (B:=18446744073709551616) (by omega) hk.zd);have HK:=κ hk;have HQ:=κ hQ;have HQF:=κ (show val 18446744073709551616 (Uc.drop p)<9223372036854775808*18446744073709551616^(n-p+B)by have:=hQ.hfit;rwa[Nat.zero_add]at this);have HLZ:=κ hLZ;have HLZl:=κ (show o0+B1<=LZ.length by rw[HB1.out];exact hLZl);have HCUP:=κ hcup;have HIUP:=κ hiup;clear hk hsum hub hlz hXb hQ hLZ hLZl hcup hiup hip hv18 hzf hfn hmi hul hXe hjm hjB;go_upto_if 67 with fail;(first|simp only[nb]|simp only[nbI]|skip);clear nb nbI;go_upto_region 45 with(refine wp_clear rfl (.tmp 193) _ rfl .u64 51 8 ty_big (some ⟨b0,o0,none⟩) b0 o0 B1 B1 rfl (fun _=>rfl) LZ HLZ.out HLZl.out ?_;intro w3 row3 f3;have K3:=κ (dr_clr0 C.out HK.out HLZ.out (by rw[<-HB1.out];exact HLZl.out) (by rw[<-HB1.out];exact row3) f3);clear row3 f3 HLZ HLZl);rw[put_noneD];have CR:=fun W fW d'=>dr_rec (by rw[<-HNP.out];exact D.out) C.out K3.out (a:=0) (x:=p) (ox:=ou+p) (lx:=ip) (cx:=cup) d' (Nat.zero_add p).symm rfl (by have:=HIUP.out;omega) (by omega) b9 HV18.out HQF.out W fW
   simp only[<-HB1.out,<- HNP.out,<- HCVP.out]at CR;have CRH:=κ CR;have CU0:=fun W (fW:Fr [] w3 W)=>normD_any bu (ou+p) cup ip (Uc.drop p) W ((K3.out.u.fr0 fW).drop p (by have:=K3.out.ul;omega)).src (by rw[List.length_drop,K3.out.ul,b5];exact b8) (by unfold maxLen;omega) HIP.out
   simp only[List.length_drop,K3.out.ul,b5]at CU0;have CUH:=κ CU0;clear CR CU0;go_cut [25]from 194 to 205 (fun s25 wx=>CutV (.slice (some ⟨b0,o0,none⟩) B1 B1) (DrGu B lz i s q1 bz oz bu ou b0 o0 w1 Zc (fun Uc3 Qc3=>val 18446744073709551616 Qc3=val 18446744073709551616 (Uc.drop p)/val 18446744073709551616 (V.drop p)/\val 18446744073709551616 (Uc3.take 0)=val 18446744073709551616 (Uc.take 0)/\val 18446744073709551616 (Uc3.drop 0)=val 18446744073709551616 ((Uc.drop 0).take p)+18446744073709551616^p*(val 18446744073709551616 (Uc.drop p)%val 18446744073709551616 (V.drop p)))) s25 wx)
   case first=>
    have CUS:Calls Tryz.prog 34 #[.slice (some ⟨bu,ou+p,none⟩) iup cup] w3.drew (fun e w''=>e= .returned (.slice (some ⟨bu,ou+p,none⟩) ip cup)/\w''=w3.drew):=(CUH.out _ (Fr.refl _ _).drew).mono (by rintro e w2 ⟨rfl,rfl⟩;exact⟨rfl,rfl⟩);refine wp_region_still_tail 11 (by kernel_rfl) (by kernel_rfl) ?_;simp only[List.take_succ_cons,List.take_zero,List.drop_succ_cons,List.drop_zero];repeat still_step
    still_call CUS;repeat still_step
    refine wpStill_nil ?_;go_wp2_with (go_at_call 114;refine(CRH.out _ (Fr.refl _ _).drew _).mono ?_;rintro e w4 ⟨rfl,q3,Uc3,Qc3,k3,hq3,hlo3,hR3⟩);go_meet;exact⟨rfl,q3,Uc3,Qc3,k3,hq3,hlo3,hR3⟩
   case rest=>
    obtain⟨rfl,q3,Uc3,Qc3,k3,hq3,hlo3,hR3⟩:=hcut;obtain⟨w4,hw4⟩: ∃w4,w4=wc:=⟨_,rfl⟩;subst hw4;clear CRH K3 CUH;obtain⟨iq,hiq⟩:=cut_at Qc3;have hq3':val 18446744073709551616 Qc3=qh:=hq3.trans (by have:=HQ.out.qe.symm;rwa[Nat.zero_add]at this);have HQ3:=κ hq3;have HLO3:=κ hlo3;have HR3:=κ hR3;have K3:=κ k3;have HIQ:=κ hiq;have hiq1:iq<=B1:=by rw[HB1.out];exact dr_iq k3.cd hiq hq3' HQ.out.q2
    have CN1:=normD_any b0 o0 B1 iq Qc3 w4 k3.c.src (by rw[k3.cl,<- HB1.out];exact Nat.le_refl _) (by unfold maxLen;omega) hiq;rw[k3.cl,<- HB1.out]at CN1;have HCN1:=κ CN1;have hlq1:lenS q1<=100000000000:=by omega
    have HCA1:=κ (nat_anyE s n3 q3 w4 k3.st (by omega) (by omega) (by rw[k3.ll];exact hlq1));clear k3 hq3 hlo3 hR3 hiq CN1 hq3'
    go_upto_region 48 with(first
     |(go_at_call 34;refine(HCN1.out).mono ?_;rintro e w5 ⟨rfl,rfl⟩)
     |(go_at_call 55;refine(HCA1.out).mono ?_;rintro e w5 ⟨bt,ot,ct,q4,rfl,p1,p2,p3,p4,p5,p6,p7,p8,p9,p10,p11⟩;obtain rfl:n3=ct:=(p11 (by omega)).symm;have P3:=κ p3;have PT:=κ (dr_nat C.out hl95 K3.out HN3.out (Fr.refl _ _) p3 p4 p5 p6 p7 p8 p9 p10);clear p1 p2 p3 p4 p5 p6 p7 p8 p9 p10 p11));clear HCN1 HCA1;obtain⟨L3,hL3,hL3l⟩:=P3.out;have HL3:=κ hL3;have HL3l:=κ hL3l;clear hL3 hL3l P3;go_upto_region 49 with(refine wp_clear rfl (.tmp 212) _ rfl .u64 51 8 ty_big (some ⟨bt,ot,none⟩) bt ot n3 n3 rfl (fun _=>rfl) L3 HL3.out HL3l.out ?_;intro w6 row6 f6;have M6:=κ (dr_clear PT.out.1 PT.out.2.2.1 K3.out.ul K3.out.ud PT.out.2.2.2.1 K3.out.zl K3.out.zd PT.out.2.2.2.2 K3.out.cl K3.out.cd HL3.out HL3l.out row6 f6);clear row6 f6 HL3 HL3l);rw[put_noneD];have V6:=κ (dr_v0 M6.out HQ.out HLO3.out (by rw[Nat.zero_add];exact HR3.out) rfl (by rw[Nat.zero_add];exact HQ3.out) HIQ.out);have CM0:=fun W fW=>dr_mul PT.out.1 V6.out (show iq<=B+1 by rw[<-HB1.out];exact hiq1) HQ.out.pb W fW
    simp only[<-HB1.out]at CM0;have CM:=κ CM0;clear CM0;go_wp2_with (go_at_call 33;refine(CM.out _ (Fr.refl _ _)).mono ?_;rintro e w7 ⟨l,rfl,hl2,kv7⟩;have V7:=κ kv7;clear kv7);clear CM M6 V6 HLO3 HR3 HQ3 K3;have hln:l<=n/\l<=n3/\l<=cu/\l<=i:=by have:=HB.out;omega
    obtain⟨hln,hln3,hlca,hlla⟩:=hln;have hlcaI:(l:Int)<=(cu:Int)/\(l:Int)<=(i:Int)/\(l:Int)<=(n3:Int):=by omega
    obtain⟨hlcaI,hllaI,hln3I⟩:=hlcaI;go_loopg [27] 2 (DrJ 2 n B p lz i s q4 bz oz bu ou b0 o0 bt ot n3 w5 0 l iq (val 18446744073709551616 (Uc.take 0)) (val 18446744073709551616 Zc) X V);case atStart=>exact⟨0,by omega,rfl,rfl,_,_,_,V7.out,HQ.out.e0⟩
    case round=>
     obtain⟨t,ht,hg,rfl,R,tq,qq,kv,he⟩:=hrel;obtain⟨iu,CN0,CC0⟩:=dr_cmp PT.out.1 kv hln3 (oa:=ou) (la:=i) (ca:=cu) (Nat.add_zero _).symm (Nat.sub_zero _).symm (Nat.zero_le _) hb8 cu9;obtain⟨ec,hec⟩: ∃x,x=cmpI tq R:=⟨_,rfl⟩;rw[<-hec]at CC0;have HCN:=κ CN0;have HCC:=κ CC0;have KV:=κ kv;have HE:=κ he;have HEC:=κ hec;have HG:=κ hg;clear CN0 CC0 kv he hec hg V7;by_cases ht2:t=2
     ·subst ht2
      have hle:tq<=R:=by
       rcases Int.lt_or_le R tq with h|h
       ·have:=(HE.out.2 h).1
        omega
       ·exact h
      have hec0:ec<=0:=by rw[HEC.out];exact cmp_le hle
      have HLE:=κ hle;clear hle
      go_upto_if 266 with(first
       |(go_at_call 34;refine(HCN.out _ (Fr.refl _ _)).mono ?_;rintro e w8 ⟨rfl,rfl⟩)
       |(go_at_call 47;refine(HCC.out _ (Fr.refl _ _)).mono ?_;rintro e w8 ⟨rfl,f8⟩));have hd1:decide (0<ec)=false:=decide_eq_false (by omega);simp only[hd1];clear hd1 hec0;go_upto_region 62 with fail;have CS:=κ (fun W fW=>dr_subu1 PT.out.1 KV.out hln (oa:=ou) (ca:=cu) (Nat.add_zero _).symm (by omega) W fW);go_still_tail 9,(by kernel_rfl);go_upto_if 279 with(go_at_call 71;refine(CS.out _ f8.drew).mono ?_;rintro e w10 ⟨c,rfl,hc0,hc1,hcz,kv10⟩;have K10:=κ kv10;have HCZ:=κ hcz;clear kv10 hcz);clear CS HCN HCC KV f8;go_cut [30]from 268 to 291 (fun s30 wx=>CutV (.int .u64 0) (DrV n B lz i s q4 bz oz bu ou b0 o0 bt ot n3 w5 0 l iq (val 18446744073709551616 (Uc.take 0)) (R-tq) (val 18446744073709551616 Zc) tq qq false) s30 wx)
      case first=>
       rcases(show c=0\/c=1 by omega)with hcc|hcc
       ·have hd1:decide (0<c)=false:=decide_eq_false (by omega)
        have HCC0:=κ hcc;simp only[hd1];clear hd1 hcc hc0 hc1;go_wp2_with fail;go_meet;obtain rfl:=HCC0.out;have h:=K10.out;rw[Int.mul_zero,Int.add_zero]at h;exact⟨rfl,h⟩
       ·have hd1:decide (0<c)=true:=decide_eq_true (by omega)
        simp only[hd1];clear hd1
        have hlt:l<i:=by
         rcases(show l=i\/l<i by omega)with hh|hh
         ·have:=HCZ.out hh HLE.out
          omega
         ·exact hh
        obtain⟨lal,hlal⟩: ∃x,x=i-l:=⟨_,rfl⟩;obtain⟨cal,hcal⟩: ∃x,x=cu-l:=⟨_,rfl⟩;have e1:i-l=lal:=hlal.symm;have e2:cu-l=cal:=hcal.symm;have e3: ¬cu=l:=by omega
        have e4:(c:Int)<=1/\0<=c:=⟨by omega,by omega⟩;have CW:=κ (fun W fW=>dr_subu2 PT.out.1 K10.out (by have:=HLE.out;omega) e4.2 e4.1 (ox:=ou+l) (lx:=lal) (cx:=cal) (by omega) (by omega) (by omega) (by omega) (by omega) W fW);clear hlal hcal hcc hc0 hc1 hlt;go_upto_region 64 with fail;go_still_tail 9,(by kernel_rfl);go_wp2_with (go_at_call 72;refine(CW.out _ (Fr.refl _ _).drew).mono ?_;rintro e w11 ⟨rfl,kv11⟩);go_meet;exact⟨rfl,kv11⟩
      case rest=>
       obtain⟨rfl,kv12⟩:=hcut;have hE:=HE.out.1 HLE.out;obtain⟨i2,hi2,hi2k,CN2,kv13⟩:=dr_normq PT.out.1 kv12 (show iq<=B+1 by rw[<-HB1.out];exact hiq1);have hzq:val 18446744073709551616 Zc+qq<18446744073709551616^lz:=by rw[<-hE.1];exact HZF.out
       have hi2z:i2<=lz:=hi2k lz (by have:=HZN.out;omega);have CA0:=fun W fW=>dr_addz PT.out.1 kv13 (show i2<=B+1 by rw[<-HB1.out];omega) (ox:=oz) (lx:=lz) (cx:=cz) (Nat.add_zero _).symm (Nat.sub_zero _).symm (Nat.zero_le _) hi2z cz1 cz9 (by rw[Int.pow_zero,Int.one_mul];exact hzq) W fW
       simp only[<-HB1.out]at CA0 CN2;have CA:=κ CA0;have CN:=κ CN2;have HEE:=κ hE;clear kv12 kv13 hE CA0 CN2 K10 HCZ hzq hi2k
       go_wp2_with (first
        |(go_at_call 34;refine(CN.out _ (Fr.refl _ _)).mono ?_;rintro e w12 ⟨rfl,rfl⟩)
        |(go_at_call 56;refine(CA.out _ (Fr.refl _ _)).mono ?_;rintro e w13 ⟨rfl,kv14⟩));obtain⟨q9,U9,Z9,Q9,T9,m9,n9⟩:=kv14;rw[Int.pow_zero,Int.one_mul]at n9;obtain⟨st9,cap9,fin9⟩:=dr_end H.out HI.out P5.out P6.out P8.out (by rw[<-HB1.out];exact P9.out) PT.out.2.1 PT.out.1 m9 (by rw[n9.hz,<- HEE.out.1];exact HFN.out.1) (by have h1:=n9.hR;rw[List.drop_zero]at h1;rw[h1,<- HEE.out.2];exact HFN.out.2);show Leaves _ _ _ _ _ _ _;refine leaves_cons (f:=53) (args:= #[.pointer (some ⟨s,0,none⟩),.int .i64 ((lenS q:Nat):Int)]) (by simp) (by simp[go_sem]) ?_;refine(restore_deferred s (lenS q) q9 .returning _ st9 cap9).mono ?_;rintro e u' w23 ⟨rfl,rfl,hst10,hf10⟩;exact⟨_,results_none rfl _ _ _,fin9 _ hst10 hf10⟩
     ·have ht3:t<2:=by omega
      have ht2I:(t:Int)<2:=by omega
      by_cases hle:tq<=R
      ·have hd1:decide (0<ec)=false:=decide_eq_false (by have:=cmp_le hle;rw[<-HEC.out]at this;omega)
       have HD1:=κ hd1;have HLE:=κ hle;clear hle hd1 ht2
       go_upto_if 229 with(first
        |(go_at_call 34;refine(HCN.out _ (Fr.refl _ _)).mono ?_;rintro e w8 ⟨rfl,rfl⟩)
        |(go_at_call 47;refine(HCC.out _ (Fr.refl _ _)).mono ?_;rintro e w8 ⟨rfl,f8⟩));simp only[HD1.out];go_wp2_with fail;go_roundg (2-(t+1));case measure=>have:=HG.out;omega
       case rel=>exact⟨t+1,by omega,rfl,by simp,_,_,_,KV.out.fr0 f8,HE.out.same HLE.out _⟩
      ·have hd1:decide (0<ec)=true:=decide_eq_true (by have:=cmp_gt (a:=tq) (b:=R) (by omega);rw[<-HEC.out]at this;omega)
       have HD1:=κ hd1;obtain⟨rfl,hq1,hv0,_,_,hfit,hxle⟩:=HE.out.2 (by omega);have CD0:=fun W fW=>dr_dec PT.out.1 KV.out (show iq<=B+1 by rw[<-HB1.out];exact hiq1) hq1 W fW
       simp only[<-HB1.out]at CD0;have CD:=κ CD0;have HNE:=κ (HE.out.next (by omega));have HXL:=κ hxle;have HV0:=κ hv0;clear CD0 hle hfit hxle hv0 hd1 ht2
       go_upto_if 229 with(first
        |(go_at_call 34;refine(HCN.out _ (Fr.refl _ _)).mono ?_;rintro e w8 ⟨rfl,rfl⟩)
        |(go_at_call 47;refine(HCC.out _ (Fr.refl _ _)).mono ?_;rintro e w8 ⟨rfl,f8⟩));simp only[HD1.out];go_upto_region 56 with(go_at_call 72;refine(CD.out _ f8).mono ?_;rintro e w9 ⟨⟨c9,rfl⟩,kv9⟩;have K9:=κ kv9;clear kv9);clear CD HCN HCC KV f8;have CS:=κ (fun W fW=>dr_sub1 PT.out.1 K9.out hl2 HV0.out W fW);go_still_tail 9,(by kernel_rfl);go_upto_if 246 with(go_at_call 71;refine(CS.out _ (Fr.refl _ _).drew).mono ?_;rintro e w10 ⟨c,rfl,hc0,hc1,hcl,kv10⟩;have K10:=κ kv10;have HCL:=κ hcl;clear kv10 hcl);clear CS K9;go_cut [25]from 220 to 261 (fun s25 wx=>CutV (.slice (some ⟨b0,o0,none⟩) iq B1) (DrV n B lz i s q4 bz oz bu ou b0 o0 bt ot n3 w5 0 l iq (val 18446744073709551616 (Uc.take 0)) R (val 18446744073709551616 Zc) (tq-val 18446744073709551616 (V.take p)) (qq-1) false) s25 wx)
       case first=>
        by_cases hlp:p<l
        ·obtain⟨lp,hlpe⟩: ∃x,x=l-p:=⟨_,rfl⟩
         obtain⟨n3p,hn3p⟩: ∃x,x=n3-p:=⟨_,rfl⟩;have e1:l-p=lp:=hlpe.symm;have e2:n3-p=n3p:=hn3p.symm;have e4:p<=l:=by omega
         have hd1:decide (p<l)=true:=decide_eq_true hlp;simp only[hd1];clear hd1;have CW0:=fun W fW=>dr_sub2 PT.out.1 K10.out hl2 hlp (by have:=HV0.out;omega) hc0 hc1 W fW
         simp only[e1,e2]at CW0;have CW:=κ CW0;clear hlpe hn3p CW0;go_upto_region 58 with fail;go_still_tail 7,(by kernel_rfl);go_wp2_with (go_at_call 72;refine(CW.out _ (Fr.refl _ _).drew).mono ?_;rintro e w11 ⟨⟨c11,rfl⟩,kv11⟩);go_meet;exact⟨rfl,kv11⟩
        ·obtain rfl:c=0:=HCL.out (by omega)
         have hd1:decide (p<l)=false:=decide_eq_false hlp;simp only[hd1];clear hd1 hlp;go_wp2_with fail;go_meet;have h:=K10.out;rw[Int.mul_zero,Int.add_zero]at h;exact⟨rfl,h⟩
       case rest=>
        obtain⟨rfl,kv12⟩:=hcut;have CU0:=fun W fW=>dr_addu PT.out.1 kv12 hln (ox:=ou+p) (lx:=iup) (cx:=cup) (by omega) (by have:=HIUP.out;omega) (by omega) b8 b9 (Int.lt_of_le_of_lt HXL.out HXI.out) W fW
        simp only[hs1,hs2]at CU0;have CU:=κ CU0;clear kv12 CU0 K10 HCL;go_upto_region 59 with fail;go_still_tail 6,(by kernel_rfl);go_wp2_with (go_at_call 56;refine(CU.out _ (Fr.refl _ _).drew).mono ?_;rintro e w13 ⟨rfl,kv13⟩);go_roundg 1;case measure=>have:=HG.out;omega
        case rel=>exact⟨1,by omega,rfl,rfl,_,_,_,kv13,HNE.out⟩
end Go.Proofs.YthecibbmbnpegaaGreatDoor
