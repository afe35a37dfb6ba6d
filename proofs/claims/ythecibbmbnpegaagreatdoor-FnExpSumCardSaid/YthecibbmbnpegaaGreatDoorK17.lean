/-
  Part 17 of the proof of the law FnExpSum: XDivB. Conditions: those of each statement.
-/
import Derived.Test.YthecibbmbnpegaaGreatDoorK07
import Derived.Test.YthecibbmbnpegaaGreatDoorK16
import Derived.Deep.DeepCutAuto
import Derived.Deep.RegionWith
import Derived.StillTailTactics
import Derived.Laws.Bits64
set_option linter.unusedSimpArgs false
set_option linter.unusedVariables false
set_option maxRecDepth 100000
set_option maxHeartbeats 16000000
namespace Go.Proofs.YthecibbmbnpegaaGreatDoor
open Go.Big Go.RowKit
theorem gt_any(x1 x2 y1 y2:Int)(w:World)(hx:0<=x2)(hx':x2<18446744073709551616)(hy:0<=y2)(hy':y2<18446744073709551616)(t:Bool)(ht:t=decide (y1*18446744073709551616+y2<x1*18446744073709551616+x2)):
 Calls Tryz.prog 113 #[.int .u64 x1,.int .u64 x2,.int .u64 y1,.int .u64 y2] w fun e w'=>e= .returned (.bool t)/\w=w':=by
 rcases Int.lt_trichotomy y1 x1 with h|h|h
 ·obtain rfl:t=true:=by rw[ht];simp;omega
  clear ht;go_enter Tryz.func113,Tryz.ntmps113;go_wp2_with fail;go_ret;exact⟨rfl,rfl⟩
 ·subst h
  by_cases h2:y2<x2
  ·obtain rfl:t=true:=by rw[ht];simp;omega
   clear ht;go_enter Tryz.func113,Tryz.ntmps113;go_wp2_with fail;go_ret;exact⟨rfl,rfl⟩
  ·obtain rfl:t=false:=by rw[ht];simp;omega
   clear ht;go_enter Tryz.func113,Tryz.ntmps113;go_wp2_with fail;go_ret;exact⟨rfl,rfl⟩
 ·obtain rfl:t=false:=by rw[ht];simp;omega
  have h1: ¬y1<x1:=by omega
  have h2:(x1==y1)=false:=by rw[beq_eq_false_iff_ne];omega
  clear ht;go_enter Tryz.func113,Tryz.ntmps113;go_wp2_with fail;go_ret;exact⟨rfl,rfl⟩
def DbS(bq oq lq bu ou lu b o N1:Nat)(b' i:Nat):Prop:=In1 bq oq lq b' i\/In1 bu ou lu b' i\/In1 b o N1 b' i
def DbRel(bq oq lq bu ou lu b o N1 n m:Nat)(Q0 U V:List Int)(w1:World)(g:Nat)(uv jv:Value)(wr:World):Prop:=
 ∃(i:Nat) (jz:Int) (Uc Qc Hc qs:List Int),i<=m+1/\i=g/\uv= .int .u64 (Uc.getD (i+n-1) 0)/\jv= .int .i64 jz/\jz=(i:Int)-1/\Wr 51 wr bq oq Qc/\Wr 51 wr bu ou Uc/\Wr 51 wr b o Hc/\Fc 51 (DbS bq oq lq bu ou lu b o N1) w1 wr/\Hc.length=N1/\KnInv lq n m i Q0 U V Uc Qc qs
def GuRel(d v1 v2 A Bv:Int)(w1:World)(g:Nat)(qv rv xv yv:Value)(wr:World):Prop:=
 ∃q r x y:Int,qv= .int .u64 q/\rv= .int .u64 r/\xv= .int .u64 x/\yv= .int .u64 y/\0<=q/\q<18446744073709551616/\0<=r/\r<18446744073709551616/\0<=x/\x<18446744073709551616/\0<=y/\y<18446744073709551616/\
  q*v1+r=d/\A<(q+1)*Bv/\x*18446744073709551616+y=q*v2/\g=q.toNat/\w1=wr
def GuCut(Q:Int)(D1:Prop)(w1:World)(s15:Value)(wx:World):Prop:= ∃q:Int,s15= .int .u64 q/\0<=q/\q<18446744073709551616/\Q<=q/\q<=Q+1/\(D1->q<=1)/\w1=wx
def MuCut(b o N1:Nat)(q X:Int)(w1:World)(s15:Value)(wx:World):Prop:=
 ∃H:List Int,s15= .int .u64 q/\Wr 51 wx b o H/\H.length=N1/\DG 18446744073709551616 H/\val 18446744073709551616 H=q*X/\Fc 51 (In1 b o N1) w1 wx
def SbCut(bu oj N:Nat)(D q X:Int)(w1:World)(s22:Value)(wx:World):Prop:=
 ∃(S:List Int) (c:Int),s22= .int .u64 c/\(c=0\/c=1)/\Wr 51 wx bu oj S/\Fc 51 (In1 bu oj N) w1 wx/\S.length=N/\DG 18446744073709551616 S/\val 18446744073709551616 S+q*X=D+18446744073709551616^N*c
def CoCut(bu oj N:Nat)(Q R:Int)(w1:World)(s15:Value)(wx:World):Prop:=
 ∃S:List Int,s15= .int .u64 Q/\Wr 51 wx bu oj S/\Fc 51 (In1 bu oj N) w1 wx/\S.length=N/\DG 18446744073709551616 S/\val 18446744073709551616 S=R
def DivPost(s:Nat)(q:Option StkSt)(bq oq lq bu ou lu m:Nat)(Q0 U V:List Int)(w:World)(e:Ending)(w':World):Prop:=
 ∃q' Q' U',e= .returned (.tuple #[])/\StkAt w' s q'/\StkLe w.heap.size q q'/\lenS q'=lenS q/\Wr 51 w' bq oq Q'/\Q'.length=lq/\Wr 51 w' bu ou U'/\U'.length=lu/\DG 18446744073709551616 U'/\val 18446744073709551616 U'=val 18446744073709551616 U%val 18446744073709551616 V/\
  DG 18446744073709551616 (Q'.take (m+1))/\val 18446744073709551616 (Q'.take (m+1))=val 18446744073709551616 U/val 18446744073709551616 V/\(∀k,m<k->Q'.getD k 0=Q0.getD k 0)/\Fc 51 (fun b i=>StS s q b i\/In1 bq oq lq b i\/In1 bu ou lu b i) w w'
theorem divBasic_any(s:Nat)(q:Option StkSt)(bq oq cq bu ou cu bv ov cv n m lu lq:Nat)(Q0 U V:List Int)(w:World)(hst:StkAt w s q)(hlen:lenS q<=100000000000)
 (hQ:Wr 51 w bq oq Q0)(hlq:Q0.length=lq)(hU:Wr 51 w bu ou U)(hlu:lu=m+n)(hlU:U.length=m+n)(hUd:DG 18446744073709551616 U)(hV:Go.Big.Src .u64 w bv ov V)(hbv:bv<w.heap.size)(hVk:KnV n V)(hn9:n<=10000000)(hm9:m<=10000000)
 (hroom:m<lq\/(m=lq/\val 18446744073709551616 U<val 18446744073709551616 V*18446744073709551616^m))
 (hUV:Dj bv ov n bu ou lu)(hQU:Dj bq oq lq bu ou lu)(hQV:Dj bv ov n bq oq lq)(oU:Off (StS s q) bu ou lu)(oQ:Off (StS s q) bq oq lq)(oV:Off (StS s q) bv ov n)
 (hcu:lu<=cu)(hcu9:cu<=maxLen)(hcv:n<=cv)(hcv9:cv<=maxLen)(hcq:lq<=cq)(hcq9:cq<=maxLen):
 Calls Tryz.prog 78 #[.slice (some ⟨bq,oq,none⟩) lq cq,.pointer (some ⟨s,0,none⟩),.slice (some ⟨bu,ou,none⟩) lu cu,.slice (some ⟨bv,ov,none⟩) n cv] w (DivPost s q bq oq lq bu ou lu m Q0 U V w):=by
 unfold maxLen at hcu9 hcv9 hcq9;have hn2:=hVk.two;obtain⟨N1,hN1⟩: ∃N1,N1=n+1:=⟨_,rfl⟩;obtain⟨n1,hn1⟩: ∃n1,n1=n-1:=⟨_,rfl⟩;obtain⟨n2,hn2'⟩: ∃n2,n2=n-2:=⟨_,rfl⟩;have a1:(n:Int)+1=(N1:Int):=by omega
 have a2:(n:Int)-1=(n1:Int):=by omega
 have a3:(n:Int)-2=(n2:Int):=by omega
 have a4:(lu:Int)-(n:Int)=(m:Int):=by omega
 have hn1n:(n1:Int)<(n:Int):=by omega
 have hn2n:(n2:Int)<(n:Int):=by omega
 have hnN1:(n:Int)<(N1:Int):=by omega
 have CS:=κ (save_any s q w hst);have CN:=κ (nat_any s N1 q w hst (by omega) (by omega) hlen);obtain⟨v1,hv1⟩: ∃v1,v1=V.getD (n-1) 0:=⟨_,rfl⟩;obtain⟨v2,hv2⟩: ∃v2,v2=V.getD (n-2) 0:=⟨_,rfl⟩;have hv1b:9223372036854775808<=v1/\v1<18446744073709551616:=by rw[hv1];exact⟨hVk.top,hVk.bd.1⟩
 have hv2b:0<=v2/\v2<18446744073709551616:=by rw[hv2];exact hVk.bd.2
 obtain⟨hv10,hv11⟩:=hv1b;obtain⟨hv20,hv21⟩:=hv2b;have hL:IsLen v1 64:= .inr ⟨by omega,by simpa using hv10,by simpa using hv11⟩;obtain⟨rc,hrc⟩: ∃rc,rc=rcp (v1*2^(64-64)):=⟨_,rfl⟩;have CR:=κ (fun W=>recip_any v1 64 W (by omega) hv11 hL);have CD:=κ (fun x1 x0 W h1 h2 h3 h4=>divWW_any x1 x0 v1 64 W h1 h2 h3 h4 hv11 hL);simp only[<-hrc]at CR CD;have HV1:=κ hv1;have HV2:=κ hv2;have HVK:=κ hVk;have HN1:=κ hN1;have HN11:=κ hn1;have HN22:=κ hn2';have HQ:=κ hQ;have HU:=κ hU;have HV:=κ hV;have HLQ:=κ hlq;have HLU:=κ hlU;have HUD:=κ hUd;have HRM:=κ hroom;have HUV:=κ hUV;have HQU:=κ hQU;have HQV:=κ hQV;have OU:=κ oU;have OQ:=κ oQ;have OV:=κ oV;have HLL:=κ hlu;have hbu:=hU.lt;have hbq:=hQ.lt;have hmlu:m<=lu:=by omega
 clear hv1 hv2 hrc hL hVk hN1 hn1 hn2' hQ hU hV hlq hlU hUd hroom hUV hQU hQV oU oQ oV hlu;go_enter_defers Tryz.func78,Tryz.ntmps78;refine wp_mono ?_ bodyPostN_D
 go_wp2_with (first
  |(go_at_call 54;refine(Hid.out CS).mono ?_;rintro e w1 ⟨rfl,rfl⟩)
  |(go_at_call 55;refine(Hid.out CN).mono ?_;clear CN;rintro e w1 ⟨b,o,ch,q1,rfl,hch,hch9,hH,hst1,hle1,hl1,hl1',hf1,hnw,hoff⟩;have cv1:=(HV.out.fc hf1 (by rw[HVK.out.len];exact OV.out)) n1 (by rw[HVK.out.len];have:=HN11.out;omega);rw[HN11.out,<- HV1.out,<- HN11.out]at cv1;have HH:=κ hH;have HST1:=κ hst1;have HLE1:=κ hle1;have HF1:=κ hf1;have HNW:=κ hnw;have HOFF:=κ hoff;clear hH hst1 hle1 hf1 hnw hoff)
  |(go_at_call 110;refine(CR.out _).mono ?_;rintro e w2 ⟨rfl,f2⟩))
 obtain⟨H0,hH0,hHl⟩: ∃H0,Wr 51 w1 b o H0/\H0.length=N1:=by
  obtain⟨L,hL,hl⟩:=HH.out;refine⟨(L.drop o).take N1,?_,by rw[List.length_take,List.length_drop];omega⟩;exact Wr.of_row hL (by rw[List.length_take,List.length_drop];omega) (fun j hj=>by rw[List.length_take]at hj;rw[getD_drop_take (by omega)])
 have hQ1:=HQ.out.fc HF1.out (by rw[HLQ.out];exact OQ.out);have hU1:=HU.out.fc HF1.out (by rw[HLU.out,<- HLL.out];exact OU.out);have HQ2:=κ (hQ1.fr0 f2);have HU2:=κ (hU1.fr0 f2);have HH2:=κ (hH0.fr0 f2);have HV2':=κ ((HV.out.fc HF1.out (by rw[HVK.out.len];exact OV.out)).fr (S:=[]) f2 (by simp));have HST2:=κ (HST1.out.fr0 f2);have HHL:=κ hHl
 have DB: ∀bx ox nx,bx<w.heap.size->Off (StS s q) bx ox nx->Dj bx ox nx b o N1:=by
  intro bx ox nx hlt hof;unfold Dj;by_cases e:bx=b
  ·subst e
   by_cases h1:ox+nx<=o
   ·omega
   ·by_cases h2:o+N1<=ox
    ·omega
    ·by_cases h3:nx=0\/N1=0
     ·omega
     ·exact absurd (HNW.out hlt (max ox o) (by omega) (by omega)) (hof (max ox o) (by omega) (by omega))
  ·exact .inl e
 have HDBU:=κ (DB bu ou lu hbu OU.out);have HDBQ:=κ (DB bq oq lq hbq OQ.out);have HDBV:=κ (DB bv ov n hbv OV.out);clear hH0 hHl hQ1 hU1 DB cv1;go_loopg [13,14] (m+1) (DbRel bq oq lq bu ou lu b o N1 n m Q0 U V w2)
 case atStart=>
  refine⟨m+1,(m:Int),U,Q0,H0,[],Nat.le_refl _,rfl,?_,rfl,by omega,HQ2.out,HU2.out,HH2.out,Fc.refl _ _ _,HHL.out,KnInv.start HLU.out HUD.out HVK.out HLQ.out⟩;rw[getD_out (by rw[HLU.out];omega)]
 case round=>
  obtain⟨i,jz,Uc,Qc,Hc,qs,hi,rfl,rfl,rfl,hjz,hQc,hUc,hHc,hfr,hHcl,hK⟩:=hrel;have HQc:=κ hQc;have HUc:=κ hUc;have HHc:=κ hHc;have HFR:=κ hfr;have HHcl:=κ hHcl;have HK:=κ hK;clear hQc hUc hHc hfr hHcl hK;by_cases hi0:0<i
  ·obtain⟨j,hj⟩: ∃j,i=j+1:=⟨i-1,by omega⟩
   have HJ:=κ hj;obtain rfl:jz=(j:Int):=by omega
   clear hjz;have hjm:j<=m:=by omega
   have hjmi:(j:Int)<=(m:Int):=by omega
   rw[show i+n-1=j+n by omega];have hK:=HK.out;rw[hj]at hK;have HK:=κ hK;clear hK hj;obtain⟨d1,e1⟩: ∃d1,d1=Uc.getD (j+n) 0:=⟨_,rfl⟩;obtain⟨d2,e2⟩: ∃d2,d2=Uc.getD (j+n-1) 0:=⟨_,rfl⟩;obtain⟨d3,e3⟩: ∃d3,d3=Uc.getD (j+n-2) 0:=⟨_,rfl⟩;obtain⟨D,hD⟩: ∃D,D=val 18446744073709551616 (Uc.drop j):=⟨_,rfl⟩;obtain⟨X,hX⟩: ∃X,X=val 18446744073709551616 V:=⟨_,rfl⟩;have hdu:=HK.out.dU;have d10:0<=d1/\d1<18446744073709551616:=by rw[e1];exact hdu.getD (by omega) _
   have d20:0<=d2/\d2<18446744073709551616:=by rw[e2];exact hdu.getD (by omega) _
   have d30:0<=d3/\d3<18446744073709551616:=by rw[e3];exact hdu.getD (by omega) _
   obtain⟨d10,d11⟩:=d10;obtain⟨d20,d21⟩:=d20;obtain⟨d30,d31⟩:=d30;obtain⟨gq0,gq1,gle,gtop,gmid,gz⟩:=HK.out.guess HVK.out hjm hX hD e1 e2 e3 HV1.out HV2.out;obtain⟨hDp0,hDp1⟩:=HK.out.D HVK.out;have hXp:=HVK.out.pos;have hXhi:=HVK.out.hi;rw[<-hX]at hXp hXhi hDp1;rw[<-hD]at hDp0 hDp1;obtain⟨Q,hQe⟩: ∃Q,Q=D/X:=⟨_,rfl⟩;rw[<-hQe]at gq0 gq1 gtop gmid;obtain⟨jn,hjn⟩: ∃jn,jn=j+n-1:=⟨_,rfl⟩;obtain⟨jn2,hjn2⟩: ∃jn2,jn2=j+n-2:=⟨_,rfl⟩;have b1:(j:Int)+(n:Int)-1=(jn:Int):=by omega
   have b2:(j:Int)+(n:Int)-2=(jn2:Int):=by omega
   have hjnl:(jn:Int)<(lu:Int):=by have:=HLL.out;omega
   have hjn2l:(jn2:Int)<(lu:Int):=by have:=HLL.out;omega
   have hw1:IntKind.i64.wrap ((j:Int)+(n:Int))=(j:Int)+(n:Int):=by rw[IntKind.wrap_i64];omega
   have cu2:=HUc.out.cell (j:=jn) (by rw[HK.out.lU];omega);have cu3:=HUc.out.cell (j:=jn2) (by rw[HK.out.lU];omega)
   have hvw:=HV2'.out.fc HFR.out (fun i h1 h2 hh=>by
    rw[HVK.out.len]at h2;rcases hh with hh|hh|hh
    ·exact HQV.out.off i h1 h2 hh
    ·exact HUV.out.off i h1 h2 hh
    ·exact HDBV.out.off i h1 h2 hh);have cv2:=hvw n2 (by rw[HVK.out.len];have:=HN22.out;omega);have HVW:=κ hvw;clear hvw;rw[hjn,<- e2,<- hjn]at cu2;rw[hjn2,<- e3,<- hjn2]at cu3;rw[HN22.out,<- HV2.out,<- HN22.out]at cv2;rw[<-e1];have E1:=κ e1;have HDD:=κ hD;have HXX:=κ hX;have HQE:=κ hQe;have GT:=κ gtop;have GM:=κ gmid;have GZ:=κ gz;have HJN:=κ hjn;have HDP1:=κ hDp1;have HXHI:=κ hXhi;clear e1 e2 e3 hD hX hQe gtop gmid gz hjn hjn2 hdu hDp1 hXhi;go_upto_if 51 with fail;go_cut [15,16,17,18,19,20]from 45 to 200 (fun s15 s16 s17 s18 s19 s20 wx=>GuCut Q (j=m) wr s15 wx)
   case first=>as_aux_lemma=>
    by_cases hd:d1=v1
    ·have hdb:(d1 !=v1)=false:=by simp[hd]
     have HD1:=κ hd;clear hd;go_wp2_with fail;go_meet;have h:=GT.out HD1.out;exact⟨18446744073709551615,rfl,by omega,by omega,h.1,h.2,fun e=>by have:=GZ.out e;have:=HD1.out;omega,rfl⟩
    ·have hdb:(d1 !=v1)=true:=by simp[hd]
     have hdl:d1<v1:=by omega
     obtain⟨q0,hq0⟩: ∃q0,q0=(d1*18446744073709551616+d2)/v1:=⟨_,rfl⟩;obtain⟨r0,hr0⟩: ∃r0,r0=(d1*18446744073709551616+d2)%v1:=⟨_,rfl⟩;obtain⟨k1,k2,k3,k4,k5,k6⟩:=kn_first (d3:=d3) (v2:=v2) d10 hdl d20 d21 d30 d31 hv20 hq0 hr0;have CD1:=κ (CD.out d1 d2 wr d10 hdl d20 d21);rw[<-hq0,<- hr0]at CD1;obtain⟨x0,hx0⟩: ∃x0,x0=q0*v2/18446744073709551616:=⟨_,rfl⟩;obtain⟨y0,hy0⟩: ∃y0,y0=q0*v2%18446744073709551616:=⟨_,rfl⟩;have CM:=κ (mulWW_any q0 v2 wr k2 k3 hv20 hv21);rw[<-hx0,<- hy0]at CM;have hxy:x0*18446744073709551616+y0=q0*v2:=by omega
     have hp0:0<=q0*v2:=Int.mul_nonneg k2 hv20
     have hp1:q0*v2<18446744073709551616*18446744073709551616:=by
      have:q0*v2<=18446744073709551615*18446744073709551615:=Int.mul_le_mul (by omega) (by omega) hv20 (by omega);omega
     have hx01:0<=x0/\x0<18446744073709551616:=by omega
     have hy01:0<=y0/\y0<18446744073709551616:=by omega
     have KS:Hid (GuRel (d1*18446744073709551616+d2) v1 v2 ((d1*18446744073709551616+d2)*18446744073709551616+d3) (v1*18446744073709551616+v2) wr q0.toNat (.int .u64 q0) (.int .u64 r0) (.int .u64 x0) (.int .u64 y0) wr):=
      κ ⟨q0,r0,x0,y0,rfl,rfl,rfl,rfl,k2,k3,k4,by omega,hx01.1,hx01.2,hy01.1,hy01.2,k1,k6,hxy,rfl,rfl⟩;clear hd hq0 hr0 k1 k4 k5 k6 hx0 hy0 hxy hp0 hp1 hx01 hy01
     go_wp2_with (first
      |(go_at_call 111;refine(Hid.out CD1).mono ?_;rintro e w' ⟨rfl,rfl⟩)
      |(go_at_call 102;refine(Hid.out CM).mono ?_;rintro e w' ⟨rfl,rfl⟩));go_loopg [15,16,18,19] q0.toNat (GuRel (d1*18446744073709551616+d2) v1 v2 ((d1*18446744073709551616+d2)*18446744073709551616+d3) (v1*18446744073709551616+v2) wr);case atStart=>exact KS.out
     case round=>
      clear KS CD1 CM;obtain⟨q,r,x,y,rfl,rfl,rfl,rfl,q1,q2,r1,r2,x1,x2,y1,y2,hqr,hA,hxy,rfl,rfl⟩:=hrel;have HQR:=κ hqr;have HA:=κ hA;have HXY:=κ hxy;clear hqr hA hxy;by_cases ht:r*18446744073709551616+d3<x*18446744073709551616+y
      ·have CG:=κ (gt_any x y r d3 wr y1 y2 d30 d31 true (by simp;omega))
       have hgo:=kn_go (B:=18446744073709551616) (A:=(d1*18446744073709551616+d2)*18446744073709551616+d3) HQR.out rfl rfl (by rw[<-HXY.out];exact ht)
       have hq1':1<=q:=by
        rcases(by omega:q=0\/1<=q)with h|h
        ·have e:=HXY.out;rw[h,Int.zero_mul]at e;omega
        ·exact h
       have HGO:=κ hgo;have HT:=κ ht;clear hgo ht;by_cases hov:18446744073709551616<=r+v1
       ·obtain⟨r',hr'⟩: ∃r',r'=r+v1-18446744073709551616:=⟨_,rfl⟩
        have hwr:IntKind.u64.wrap (r+v1)=r':=by rw[IntKind.wrap_u64];omega
        have hlt:r'<v1:=by omega
        have hbr:=kn_break (B:=18446744073709551616) (A:=(d1*18446744073709551616+d2)*18446744073709551616+d3) HGO.out.2 rfl rfl (by omega) (by omega) hv20 hv21 d30 hov;have HBR:=κ hbr;clear hr' hbr;go_wp2_with (go_at_call 113;refine(Hid.out CG).mono ?_;rintro e w' ⟨rfl,rfl⟩);go_meet;have h:=GM.out (q-1) (by omega) (by omega) HBR.out HGO.out.1;exact⟨q-1,rfl,by omega,by omega,h.1,h.2.1,h.2.2,rfl⟩
       ·have hno:r+v1<18446744073709551616:=by omega
        have hno2: ¬r+v1<v1:=by omega
        by_cases hvy:y<v2
        ·obtain⟨y',hy'⟩: ∃y',y'=y-v2+18446744073709551616:=⟨_,rfl⟩
         have hwy:IntKind.u64.wrap (y-v2)=y':=by rw[IntKind.wrap_u64];omega
         have hx1:1<=x:=by
          rcases(by omega:x=0\/1<=x)with h|h
          ·exfalso
           have e:=HXY.out;have:1*v2<=q*v2:=Int.mul_le_mul_of_nonneg_right hq1' hv20;rw[h]at e;omega
          ·exact h
         have hxy':(x-1)*18446744073709551616+y'=(q-1)*v2:=by have e:=HXY.out;rw[Int.sub_mul q 1 v2];omega
         have hy'b:0<=y'/\y'<18446744073709551616:=by omega
         have HXY':=κ hxy';have HYB:=κ hy'b;clear hy' hxy' hy'b;go_wp2_with (go_at_call 113;refine(Hid.out CG).mono ?_;rintro e w' ⟨rfl,rfl⟩);go_roundg (q-1).toNat;case measure=>omega
         case rel=>exact⟨q-1,r+v1,x-1,y',rfl,rfl,rfl,rfl,by omega,by omega,by omega,by omega,by omega,by omega,HYB.out.1,HYB.out.2,HGO.out.2,HGO.out.1,HXY'.out,rfl,rfl⟩
        ·have hxy':x*18446744073709551616+(y-v2)=(q-1)*v2:=by have e:=HXY.out;rw[Int.sub_mul];omega
         have HXY':=κ hxy';clear hxy';go_wp2_with (go_at_call 113;refine(Hid.out CG).mono ?_;rintro e w' ⟨rfl,rfl⟩);go_roundg (q-1).toNat;case measure=>omega
         case rel=>exact⟨q-1,r+v1,x,y-v2,rfl,rfl,rfl,rfl,by omega,by omega,by omega,by omega,by omega,by omega,by omega,by omega,HGO.out.2,HGO.out.1,HXY'.out,rfl,rfl⟩
      ·have CG:=κ (gt_any x y r d3 wr y1 y2 d30 d31 false (by simp;omega))
       have hst:=kn_stop (B:=18446744073709551616) (A:=(d1*18446744073709551616+d2)*18446744073709551616+d3) HQR.out rfl rfl (by rw[<-HXY.out];exact ht);have HST:=κ hst;clear ht hst;go_wp2_with (go_at_call 113;refine(Hid.out CG).mono ?_;rintro e w' ⟨rfl,rfl⟩);go_meet;have h:=GM.out q q1 q2 HST.out HA.out;exact⟨q,rfl,q1,q2,h.1,h.2.1,h.2.2,rfl⟩
   case rest=>
    obtain⟨qh,rfl,hq0,hq1,hqlo,hqhi,hqm,rfl⟩:=hcut;have HQLO:=κ hqlo;have HQHI:=κ hqhi;have HQM:=κ hqm;clear hqlo hqhi hqm GT GM GZ cu2 cu3 cv2;have hnN1:n<=N1:=by omega
    have CMU:=κ (mulAddVWWw_any b o ch bv ov cv n (Hc.take n) V qh 0 wr (HHc.out.take n (by rw[HHcl.out];omega)) (by rw[List.length_take,HHcl.out];omega) HVK.out.len HVW.out HVK.out.dg (.inl (HDBV.out.sub1 (Nat.le_refl _) hnN1)) (by omega) hq0 hq1 (by omega) (by omega));rw[<-HXX.out]at CMU;go_upto_region 24 with fail;go_cut [15]from 45 to 200 (fun s15 wx=>MuCut b o N1 qh X wr s15 wx)
    case first=>as_aux_lemma=>
     go_wp2_with (go_at_call 81;refine(Hid.out CMU).mono ?_;clear CMU;rintro e w3 ⟨zs,c,rfl,hW,hF,hzl,hzd,hc0,hc1,hv⟩;have hU:=HHc.out.upd (i:=0) (zs:=zs) (w1:=w3) (by simpa using hW) (by rw[hzl];simpa using hF) (by rw[hzl,HHcl.out];omega);have cz:=hU.cell (j:=n) (by rw[spl_len (by rw[hzl,HHcl.out];omega),HHcl.out];omega);have fz:=hU.frozen (o+n);obtain⟨old,hold⟩: ∃old,old=(spl Hc 0 zs).getD n 0:=⟨_,rfl⟩;rw[<-hold]at cz;have HU5:=κ hU;have HF5:=κ hF;have HZL:=κ hzl;have HZD:=κ hzd;have HZV:=κ hv;clear hW hF hzl hzd hv hU hold);go_meet;have hl2:(spl Hc 0 zs).length=N1:=by rw[spl_len (by rw[HZL.out,HHcl.out];omega),HHcl.out]
     have e:(spl Hc 0 zs).set n c=zs++[c]:=by
      have h:=spl_set_end (L:=Hc) (o:=0) (cs:=zs) (by rw[HZL.out,HHcl.out];omega) c;rw[Nat.zero_add,HZL.out]at h;rw[h,spl_whole (by rw[List.length_append,HZL.out,HHcl.out];have:=HN1.out;simp;omega)]
     have hws:=HU5.out.set (j:=n) (by rw[hl2];omega) c;rw[e]at hws;refine⟨zs++[c],rfl,hws,by rw[List.length_append,HZL.out];have:=HN1.out;simp;omega,HZD.out.append (DG.cons hc0 hc1 (DG.nil _)),?_,?_⟩
     ·rw[val_snoc,HZL.out,HZV.out,Int.add_zero,Int.mul_comm]
     ·refine(HF5.out.mono (S':=In1 b o N1) (fun b' i h _=>by unfold In1 at *;omega)).t ((Fc.set1 HU5.out (j:=n) (by rw[hl2];omega) c).mono (fun b' i h _=>by unfold In1 at *;omega))
    case rest=>
     obtain⟨H3,rfl,hW3,hH3l,hH3d,hH3v,hF3⟩:=hcut;obtain⟨w3,hw3⟩: ∃w3,w3=wc:=⟨_,rfl⟩;subst hw3;obtain⟨c3,hc3⟩: ∃c3,c3=H3.getD n 0:=⟨_,rfl⟩;have cc3:=hW3.cell (j:=n) (by rw[hH3l];omega);rw[<-hc3]at cc3
     have h3s:val 18446744073709551616 H3=val 18446744073709551616 (H3.take n)+18446744073709551616^n*c3:=by
      have h:=val_take_succ' 18446744073709551616 H3 n;rw[List.take_of_length_le (by rw[hH3l];have:=HN1.out;omega),<- hc3]at h;exact h
     have hc30:j=m->c3=0:=fun e=>by
      have h1:=HQM.out e;have h2:qh*X<=1*X:=Int.mul_le_mul_of_nonneg_right h1 (by omega);have h3:=val_nonneg (by omega) (hH3d.take n);have h4:=hH3d.getD (by omega) n;rw[<-hc3]at h4;have h5:=pow_pos_ (B:=18446744073709551616) (by omega) n;rcases(by omega:c3=0\/1<=c3)with h|h
      ·exact h
      ·exfalso
       have h6:18446744073709551616^n*1<=18446744073709551616^n*c3:=Int.mul_le_mul_of_nonneg_left h (by omega);have h7:=HXHI.out;omega
     obtain⟨N,tb,hN⟩: ∃(N:Nat) (tb:Bool),(j=m/\N=n/\tb=true)\/(j<m/\N=N1/\tb=false):=by
      rcases(by omega:j=m\/j<m)with h|h
      ·exact⟨n,true,.inl ⟨h,rfl,rfl⟩⟩
      ·exact⟨N1,false,.inr ⟨h,rfl,rfl⟩⟩
     have hNN:(j=m/\N=n)\/(j<m/\N=n+1):=by
      rcases hN with⟨h1,h2,_⟩|⟨h1,h2,_⟩
      ·exact .inl ⟨h1,h2⟩
      ·exact .inr ⟨h1,by rw[h2,HN1.out]⟩
     have hNb:N<=N1/\j+N<=lu/\n<=N:=by have:=HLL.out;have:=HN1.out;omega
     obtain⟨hNN1,hjN,hnN⟩:=hNb
     have hqv:val 18446744073709551616 (H3.take N)=qh*X:=by
      rw[<-hH3v];rcases hNN with⟨h1,h2⟩|⟨h1,h2⟩
      ·rw[h3s,h2,hc30 h1];simp
      ·rw[List.take_of_length_le (by rw[hH3l,HN1.out];omega)]
     obtain⟨s1,s2,s3⟩:=HK.out.sec HVK.out hjm hNN;rw[<-HDD.out]at s1;have HW3:=κ hW3;have HH3L:=κ hH3l;have HH3D:=κ hH3d;have HF3:=κ hF3;have HC30:=κ hc30;have HNB:=κ hN;have HNN:=κ hNN;have HQV3:=κ hqv;have HS1:=κ s1;have HS3:=κ s3;have HC3:=κ hc3;clear hW3 hH3l hH3d hF3 hc30 hN hNN hqv s1 s2 s3 h3s hH3v hc3 CMU;have hj0:(0:Int)<=(j:Int)+(N1:Int):=by omega
     have hw2:IntKind.i64.wrap ((j:Int)+(N1:Int))=(j:Int)+(N1:Int):=by rw[IntKind.wrap_i64];omega
     go_upto_region 26 with fail;go_cut [128]from 45 to 200 (fun s128 wx=>s128= .bool tb/\w3=wx)
     case first=>as_aux_lemma=>
      rcases HNB.out with⟨h1,h2,rfl⟩|⟨h1,h2,rfl⟩
      ·have hlt:(lu:Int)<(j:Int)+(N1:Int):=by have:=HLL.out;omega
       have h0:=HC30.out h1;rw[h0]at cc3;clear h1 h2 h0;go_wp2_with fail;go_meet;exact⟨rfl,rfl⟩
      ·have hlt: ¬(lu:Int)<(j:Int)+(N1:Int):=by have:=HLL.out;omega
       clear h1 h2;go_wp2_with fail;go_meet;exact⟨rfl,rfl⟩
     case rest=>
      obtain⟨rfl,rfl⟩:=hcut;have a5:(N1:Int)-1=(n:Int):=by omega
      go_upto_if 128 with fail;go_cut [21]from 45 to 200 (fun s21 wx=>s21= .int .i64 (N:Int)/\w3=wx)
      case first=>as_aux_lemma=>
       rcases HNB.out with⟨h1,h2,rfl⟩|⟨h1,h2,rfl⟩
       ·have H2:=κ h2
        clear h1 h2;go_wp2_with fail;go_meet;exact⟨by rw[H2.out],rfl⟩
       ·have H2:=κ h2
        clear h1 h2;go_wp2_with fail;go_meet;exact⟨by rw[H2.out],rfl⟩
      case rest=>
       obtain⟨rfl,rfl⟩:=hcut;clear cc3 hj0 hw2 a5;have hncu: ¬cu=j:=by omega
       have ein:((j:Int)+(N:Int)).toNat=j+N:=by omega
       have hsub:j+N-j=N:=by omega
       have hwN:IntKind.i64.wrap ((j:Int)+(N:Int))=(j:Int)+(N:Int):=by rw[IntKind.wrap_i64];omega
       have hjN0:(0:Int)<=(j:Int)+(N:Int):=by omega
       have hjNc:(j:Int)+(N:Int)<=(cu:Int):=by omega
       have hjjN:(j:Int)<=(j:Int)+(N:Int):=by omega
       have hNch:(N:Int)<=(ch:Int):=by omega
       have hU3:=HUc.out.fc HF3.out (by rw[HK.out.lU,<- HLL.out];exact HDBU.out.off);have CSB:=κ (subVVw_any bu (ou+j) (cu-j) bu (ou+j) (cu-j) b o ch N ((Uc.drop j).take N) ((Uc.drop j).take N) (H3.take N) w3.drew (hU3.sub j N (by rw[HK.out.lU,<- HLL.out];exact hjN)).drew HS3.out HS3.out (hU3.sub j N (by rw[HK.out.lU,<- HLL.out];exact hjN)).drew.src ((HK.out.dU.drop j).take N) (.inr ⟨rfl,Nat.le_refl _⟩) (by rw[List.length_take,HH3L.out];omega) (HW3.out.take N (by rw[HH3L.out];exact hNN1)).drew.src (HH3D.out.take N) (.inl ((HDBU.out.symm.subr hjN).sub1 hNN1 (Nat.le_refl _))) (by omega));rw[HS1.out,HQV3.out]at CSB;have HU3:=κ hU3;clear hU3;go_upto_region 28 with fail;go_cut [22]from 45 to 200 (fun s22 wx=>SbCut bu (ou+j) N D qh X w3 s22 wx)
       case first=>as_aux_lemma=>
        go_still_tail 15,(by kernel_rfl);go_wp2_with (go_at_call 71;refine(Hid.out CSB).mono ?_;rintro e w4 ⟨S,c,rfl,hS,hf,hl,hd,hc0,hc1,hv⟩;have HS:=κ hS;have HFF:=κ hf;have HLS:=κ hl;have HDS:=κ hd;have HVS:=κ hv;clear hS hf hl hd hv);all_goals go_meet
        all_goals exact⟨S,c,rfl,by omega,HS.out,HFF.out.of_drew,HLS.out,HDS.out,HVS.out⟩
       case rest=>
        clear CSB;obtain⟨S,c,rfl,hc01,hS,hF4,hSl,hSd,hSv⟩:=hcut;obtain⟨w4,hw4⟩: ∃w4,w4=wc:=⟨_,rfl⟩;subst hw4;have hS0:=val_nonneg (by omega) hSd;have hS1:=val_lt (by omega) hSd;rw[hSl]at hS1;have HS:=κ hS;have HF4:=κ hF4;have HSL:=κ hSl;have HSD:=κ hSd;have HSV:=κ hSv;have HSB:=κ hS1;clear hS hF4 hSl hSd hSv hS1 ein hsub hwN hjN0 hjNc hjjN;have einn:((j:Int)+(n:Int)).toNat=j+n:=by omega
        have hsubn:j+n-j=n:=by omega
        have hjn0:(0:Int)<=(j:Int)+(n:Int):=by omega
        have hjnc:(j:Int)+(n:Int)<=(cu:Int):=by omega
        have hjjn:(j:Int)<=(j:Int)+(n:Int):=by omega
        go_upto_if 148 with fail;go_cut [15,23]from 45 to 200 (fun s15 s23 wx=>CoCut bu (ou+j) N Q (D%X) w3 s15 wx)
        case first=>as_aux_lemma=>
         rcases hc01 with rfl|rfl
         ·have h:=kn_sub0 hXp hS0 (by rw[<-HQE.out];exact HQLO.out) (by have:=HSV.out;rw[Int.mul_zero,Int.add_zero]at this;exact this)
          have H:=κ h;clear h;go_wp2_with fail;go_meet;exact⟨S,by rw[HQE.out,<- H.out.1],HS.out,HF4.out,HSL.out,HSD.out,H.out.2⟩
         ·have h:=kn_sub1 hXp HSB.out (by rw[<-HQE.out];exact HQHI.out) (by have:=HSV.out;rw[Int.mul_one]at this;exact this)
          rw[<-HQE.out]at h;have hqh1:1<=qh:=by omega
          have hcb:((1:Int) !=0)=true:=by decide
          have CAD:=κ (addVVw_any bu (ou+j) (cu-j) bu (ou+j) (cu-j) bv ov cv n (S.take n) (S.take n) V w4.drew (HS.out.take n (by rw[HSL.out];exact hnN)).drew (by rw[List.length_take,HSL.out];omega) (by rw[List.length_take,HSL.out];omega) (HS.out.take n (by rw[HSL.out];exact hnN)).drew.src (HSD.out.take n) (.inr ⟨rfl,Nat.le_refl _⟩) HVK.out.len (Src.dr ((HVW.out.fc HF3.out (by rw[HVK.out.len];exact HDBV.out.off)).fc HF4.out (by rw[HVK.out.len];exact(HUV.out.subr hjN).off))) HVK.out.dg (.inl ((HUV.out.subr hjN).sub1 (Nat.le_refl _) hnN)) (by omega));rw[<-HXX.out]at CAD;have H:=κ h;clear h;rcases HNB.out with⟨h1,h2,h3⟩|⟨h1,h2,h3⟩
          ·have hnNi: ¬(n:Int)<(N:Int):=by omega
           have H2:=κ h2;clear h1 h2 h3;go_wp2_with fail;go_still_tail 13,(by kernel_rfl);go_wp2_with (go_at_call 43;refine(Hid.out CAD).mono ?_;rintro e w5 ⟨lo,c2,rfl,hlo,hf,hl,hd,hc0,hc1,hv⟩;have HLO:=κ hlo;have HFF:=κ hf;have HLL5:=κ hl;have HDS:=κ hd;have HVS:=κ hv;clear hlo hf hl hd hv);all_goals go_meet
           all_goals (
            refine⟨lo,by rw[H.out.1],HLO.out,HF4.out.t (HFF.out.of_drew.mono (fun _ _ h _=>by rw[H2.out];exact h)),by rw[HLL5.out,H2.out],HDS.out,?_⟩;have e1:=HVS.out;rw[List.take_of_length_le (by rw[HSL.out,H2.out];exact Nat.le_refl _),H.out.2,H2.out]at e1;have e2:=val_lt (by omega) HDS.out;rw[HLL5.out]at e2;exact kn_fix1 e2 hc0 hc1 (Int.emod_nonneg _ (by omega)) e1)
          ·have hnNi:(n:Int)<(N:Int):=by omega
           have hjnl2:(j:Int)+(n:Int)<(lu:Int):=by have:=HLL.out;omega
           have H2:=κ (show N=n+1 by rw[h2,HN1.out]);obtain⟨hi',hhi⟩: ∃x,x=S.getD n 0:=⟨_,rfl⟩;have hhb:=HSD.out.getD (by omega) n;rw[<-hhi]at hhb;obtain⟨hhb0,hhb1⟩:=hhb;have HHI:=κ hhi;clear h1 h2 h3 hhi;go_wp2_with fail;go_still_tail 13,(by kernel_rfl);go_wp2_with (go_at_call 43;refine(Hid.out CAD).mono ?_;rintro e w5 ⟨lo,c2,rfl,hlo,hf,hl,hd,hc0,hc1,hv⟩;have hU5:=HS.out.upd (i:=0) (zs:=lo) (w1:=w5) (by simpa using hlo) (by rw[hl];simpa using hf.of_drew) (by rw[hl,HSL.out];omega);have cz:=hU5.cell (j:=n) (by rw[spl_len (by rw[hl,HSL.out];omega),HSL.out];omega);rw[spl_get (by rw[hl,HSL.out];omega),if_neg (by omega),if_neg (by rw[hl];omega),<- HHI.out,Nat.add_assoc]at cz;have fz:=hU5.frozen (ou+(j+n));obtain⟨kk,hkk⟩: ∃kk,kk=(hi'+c2)%18446744073709551616:=⟨_,rfl⟩;have hwk:IntKind.u64.wrap (hi'+c2)=kk:=(by rw[IntKind.wrap_u64,hkk]);have hkb:0<=kk/\kk<18446744073709551616:=(by omega);have HKK:=κ hkk;have HKB:=κ hkb;have HU5:=κ hU5;have HFF:=κ hf;have HLL5:=κ hl;have HDS:=κ hd;have HVS:=κ hv;clear hlo hf hl hd hv hU5 hkk hkb);all_goals go_meet
           all_goals (
            have hl2:(spl S 0 lo).length=N:=by rw[spl_len (by rw[HLL5.out,HSL.out];omega),HSL.out]
            have e:(spl S 0 lo).set n kk=lo++[kk]:=by
             have h:=spl_set_end (L:=S) (o:=0) (cs:=lo) (by rw[HLL5.out,HSL.out,H2.out];omega) kk;rw[Nat.zero_add,HLL5.out]at h;rw[h,spl_whole (by rw[List.length_append,HLL5.out,HSL.out,H2.out];simp)]
            have hws:=HU5.out.set (j:=n) (by rw[hl2,H2.out];omega) kk;rw[e,Nat.add_assoc]at hws;have hfs:=Fc.set1 HU5.out (j:=n) (by rw[hl2,H2.out];omega) kk;rw[Nat.add_assoc]at hfs;refine⟨lo++[kk],by rw[H.out.1],hws,?_,by rw[List.length_append,HLL5.out,H2.out];simp,HDS.out.append (DG.cons HKB.out.1 HKB.out.2 (DG.nil _)),?_⟩
            ·refine HF4.out.t ((HFF.out.of_drew.mono (fun b' i h _=> ?_)).t (hfs.mono (fun b' i h _=> ?_)))
             ·rw[H2.out];unfold In1 at *;omega
             ·rw[H2.out];unfold In1 at *;omega
            ·have e1:=HVS.out
             have e0:=val_take_succ' 18446744073709551616 S n;rw[List.take_of_length_le (by rw[HSL.out,H2.out];exact Nat.le_refl _),<- HHI.out]at e0;have e2:=val_lt (by omega) HDS.out;rw[HLL5.out]at e2;rw[val_snoc,HLL5.out];have hP:=pow_pos_ (B:=18446744073709551616) (by omega) n;refine kn_fix2 (hi:=hi') (c2:=c2) e2 hP hhb1 hc1 (Int.emod_nonneg _ (by omega)) HKK.out ?_;have e3:=H.out.2;rw[H2.out,Int.pow_succ]at e3;rw[Int.mul_add];omega)
        case rest=>
         obtain⟨S2,rfl,hS2,hF5,hS2l,hS2d,hS2v⟩:=hcut;obtain⟨w5,hw5⟩: ∃w5,w5=wc:=⟨_,rfl⟩;subst hw5;have hU5:=HU3.out.upd (i:=j) hS2 (by rw[hS2l];exact hF5) (by rw[hS2l,HK.out.lU,<- HLL.out];exact hjN);have hQ5:=(HQc.out.fc HF3.out (by rw[HK.out.lQ];exact HDBQ.out.off)).fc hF5 (by rw[HK.out.lQ];exact(HQU.out.subr hjN).off);have hH5:=HW3.out.fc hF5 (by rw[HH3L.out];exact(HDBU.out.symm.subr hjN).off);have hF6:=(HFR.out.t (HF3.out.mono (S':=DbS bq oq lq bu ou lu b o N1) (fun _ _ h _=> .inr (.inr h)))).t (hF5.mono (fun _ _ h _=> .inr (.inl (In1.up h hjN))));have hlU5:(spl Uc j S2).length=lu:=by rw[spl_len (by rw[hS2l,HK.out.lU,<- HLL.out];exact hjN),HK.out.lU,<- HLL.out]
         have cu5:=hU5.cell (j:=jn) (by rw[hlU5];omega);obtain⟨u5,hu5⟩: ∃u5,u5=(spl Uc j S2).getD jn 0:=⟨_,rfl⟩;rw[<-hu5]at cu5
         have KN: ∀Qc',((j<lq/\Qc'=Qc.set j Q)\/(j=m/\lq=m/\Q=0/\Qc'=Qc))->KnInv lq n m j Q0 U V (spl Uc j S2) Qc' (Q::qs):=fun Qc' hq=>
          HK.out.next HVK.out hjm HLU.out HNN.out hS2l hS2d (by rw[<-HDD.out,<- HXX.out];exact hS2v) (by rw[<-HDD.out,<- HXX.out];exact HQE.out) hq
         have HU5:=κ hU5;have HQ5:=κ hQ5;have HH5:=κ hH5;have HF6:=κ hF6;have HKN:=κ KN;have HU5E:=κ (show u5=(spl Uc j S2).getD (j+n-1) 0 by rw[hu5,HJN.out]);clear hU5 hQ5 hH5 hF6 hlU5 hu5 KN hS2 hF5 hS2l hS2d hS2v einn hsubn hjn0 hjnc hjjn;by_cases hcon:j=m/\lq=m
         ·have hz:Q=0:=by
           rcases HRM.out with h|⟨_,h⟩
           ·omega
           ·have hk:=HK.out
            rw[hcon.1]at hk;have:=hk.zero HVK.out HUD.out HLU.out h;rw[HQE.out,HDD.out,HXX.out,hcon.1];exact this
          have hjmb:((j:Int)==(m:Int))=true:=by simp;omega
          have hmlq:((m:Int)==(lq:Int))=true:=by simp;omega
          have HC:=κ hcon;have HZ:=κ hz;have hq0b:(Q==0)=true:=by simp[hz]
          clear hcon hz;go_wp2_with fail;go_roundg j;case measure=>have:=HJ.out;omega
          case rel=>
           exact⟨j,(j:Int)-1,spl Uc j S2,Qc,H3,Q::qs,by omega,rfl,by rw[<-HU5E.out],rfl,rfl,HQ5.out,HU5.out,HH5.out,HF6.out,HH3L.out,HKN.out Qc (.inr ⟨HC.out.1,HC.out.2,HZ.out,rfl⟩)⟩
         ·have hjlq:j<lq:=by rcases HRM.out with h|⟨h,_⟩<;>omega
          have cq5:=HQ5.out.cell (j:=j) (by rw[HK.out.lQ];exact hjlq);have fq5:=HQ5.out.frozen (oq+j);obtain⟨old,hold⟩: ∃old,old=Qc.getD j 0:=⟨_,rfl⟩;rw[<-hold]at cq5;have hset:=HQ5.out.set (j:=j) (by rw[HK.out.lQ];exact hjlq) Q;have hfst:=Fc.set1 HQ5.out (j:=j) (by rw[HK.out.lQ];exact hjlq) Q
          have hU7:=HU5.out.fc hfst (by
           rw[spl_len (by have:=(HKN.out (Qc.set j Q) (.inl ⟨hjlq,rfl⟩)).lU;have h2:=HK.out.lU;unfold spl at this;simp at this;omega),HK.out.lU,<- HLL.out];exact(HQU.out.symm.subr (by omega)).off);have hH7:=HH5.out.fc hfst (by rw[HH3L.out];exact(HDBQ.out.symm.subr (by omega)).off);have HSET:=κ hset;have HFST:=κ hfst;have HU7:=κ hU7;have HH7:=κ hH7;clear hold hset hfst hU7 hH7;by_cases hjm2:j=m
          ·have hjmb:((j:Int)==(m:Int))=true:=by simp;omega
           have hmlq:((m:Int)==(lq:Int))=false:=by rw[beq_eq_false_iff_ne];omega
           clear hcon hjm2;go_wp2_with fail;go_roundg j;case measure=>have:=HJ.out;omega
           case rel=>
            exact⟨j,(j:Int)-1,spl Uc j S2,Qc.set j Q,H3,Q::qs,by omega,rfl,by rw[<-HU5E.out],rfl,rfl,HSET.out,HU7.out,HH7.out,HF6.out.t (HFST.out.mono (fun _ _ h _=> .inl (In1.up h (by omega)))),HH3L.out,HKN.out _ (.inl ⟨hjlq,rfl⟩)⟩
          ·have hjmb:((j:Int)==(m:Int))=false:=by rw[beq_eq_false_iff_ne];omega
           clear hcon hjm2;go_wp2_with fail;go_roundg j;case measure=>have:=HJ.out;omega
           case rel=>
            exact⟨j,(j:Int)-1,spl Uc j S2,Qc.set j Q,H3,Q::qs,by omega,rfl,by rw[<-HU5E.out],rfl,rfl,HSET.out,HU7.out,HH7.out,HF6.out.t (HFST.out.mono (fun _ _ h _=> .inl (In1.up h (by omega)))),HH3L.out,HKN.out _ (.inl ⟨hjlq,rfl⟩)⟩
  ·obtain rfl:i=0:=by omega
   obtain rfl:jz= -1:=by omega
   clear hjz
   have hst3:=HST2.out.fc HFR.out (fun i hh=>by
    rcases hh with hh|hh|hh
    ·obtain⟨_,L,hL,_⟩:=HQ2.out;exact HST2.out.row_ne hL hh.1.symm
    ·obtain⟨_,L,hL,_⟩:=HU2.out;exact HST2.out.row_ne hL hh.1.symm
    ·obtain⟨_,L,hL,_⟩:=HH2.out;exact HST2.out.row_ne hL hh.1.symm) (fun p hp i hh=>by
    subst hp;rcases hh with hh|hh|hh
    ·obtain⟨_,L,hL,_⟩:=HQ2.out;exact HST2.out.2.row_ne hL hh.1.symm
    ·obtain⟨_,L,hL,_⟩:=HU2.out;exact HST2.out.2.row_ne hL hh.1.symm
    ·obtain⟨_,L,hL,_⟩:=HH2.out;exact HST2.out.2.row_ne hL hh.1.symm);have HST3:=κ hst3;clear hst3;go_wp2_with fail;show Leaves _ _ _ _ _ _ _;refine leaves_cons (f:=53) (args:= #[.pointer (some ⟨s,0,none⟩),.int .i64 ((lenS q:Nat):Int)]) (by simp) (by simp[go_sem]) ?_;refine(restore_deferred s (lenS q) q1 .returning _ HST3.out (fun p hp=>by subst hp;exact Nat.le_trans (show lenS q<=p.len from hl1) HST3.out.2.2.2.1)).mono ?_;rintro e u' w'' ⟨rfl,rfl,hst4,hf4⟩;refine⟨_,results_none rfl _ _ _,?_⟩;have hl4:lenS (resS (lenS q) q1)=lenS q:=lenS_res (fun h=>by subst h;exact Nat.le_zero.1 hl1);have hK:=HK.out;obtain⟨k1,k2,k3⟩:=hK.fin HVK.out HUD.out
   have hfw:=(((HF1.out.t (Fc.fr0 f2 _ _)).mono (S':=fun b i=>StS s q b i\/In1 bq oq lq b i\/In1 bu ou lu b i) (fun _ _ h _=> .inl h)).trans HFR.out (fun b' i hh hlt=>by
    rcases hh with hh|hh|hh
    ·exact .inr (.inl hh)
    ·exact .inr (.inr hh)
    ·obtain⟨rfl,h1,h2⟩:=hh
     exact .inl (HNW.out hlt i h1 (by omega)))).trans hf4 (fun b' i hh hlt=> .inl (HLE1.out.sub hl1 b' i hh hlt));have hsub: ∀bx ox nx,bx<w.heap.size->Off (StS s q) bx ox nx->Off (StS s q1) bx ox nx:=fun bx ox nx hlt ho i h1 h2 hh=>ho i h1 h2 (HLE1.out.sub hl1 bx i hh hlt)
   have hQf:=HQc.out.fc hf4 (by rw[hK.lQ];exact hsub _ _ _ hbq OQ.out);have hUf:=HUc.out.fc hf4 (by rw[hK.lU,<- HLL.out];exact hsub _ _ _ hbu OU.out);exact⟨resS (lenS q) q1,Qc,Uc,rfl,hst4,HLE1.out.res,hl4,hQf,hK.lQ,hUf,by rw[hK.lU,HLL.out],hK.dU,k1,k3,k2,hK.up,hfw⟩
end Go.Proofs.YthecibbmbnpegaaGreatDoor
