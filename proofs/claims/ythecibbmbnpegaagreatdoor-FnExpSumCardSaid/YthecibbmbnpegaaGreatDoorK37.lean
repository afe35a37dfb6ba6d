/-
  Part 37 of the proof of the law FnExpSum: XIntS, XMulZ. Conditions: those of each statement.
-/
import Derived.Test.YthecibbmbnpegaaGreatDoorK35
import Derived.Laws.Bits64
set_option linter.unusedSimpArgs false
set_option linter.unusedVariables false
set_option maxRecDepth 100000
set_option maxHeartbeats 4000000
namespace Go.Proofs.YthecibbmbnpegaaGreatDoor
open Go.Big Go.RowKit
attribute [local go_sem ↓] Go.wp_at_zero Go.wp_at_succ
theorem sg_add(a:Bool)(x y:Int):sg a (x+y)=sg a x+sg a y:=by cases a<;>simp[sg];omega
theorem sg_sub(a:Bool)(x y:Int):sg a (x-y)=sg a x-sg a y:=by cases a<;>simp[sg];omega
theorem sg_not(a:Bool)(x:Int):sg (!a) x= -sg a x:=by cases a<;>simp[sg]
theorem sg_ne{a b:Bool}(h:a≠b)(x:Int):sg b x= -sg a x:=by cases a<;>cases b<;>simp[sg]at*
theorem sg_of0(a:Bool){x U:Int}(h0:x=0)(h:sg a x=U):sg false x=U:=by subst h0;rw[<-h];cases a<;>simp[sg]
theorem intAddS_any(k pz:Nat)(nz:Bool)(A:Option Addr)(l bz oz cz px:Nat)(sx:Bool)(Ax:Option Addr)(bx ox cx:Nat)(xs:List Int)(py:Nat)(sy:Bool)(Ay:Option Addr)(by_ oy cy:Nat)(ys:List Int)(w:World)
 (hz:IntB w pz nz A l cz)(hr:Rcv w A bz oz cz)(hlc:l<=cz)(hpb:pz≠bz)(hzy':pz≠py)(hxb:px≠bz)(hyb:py≠bz)(hX:IntB w px sx Ax xs.length cx)(hx:Nm w Ax bx ox cx xs)(hd:DG 18446744073709551616 xs)(hzx:NZ xs)
 (hY:IntB w py sy Ay ys.length cy)(hy:Nm w Ay by_ oy cy ys)(hd':DG 18446744073709551616 ys)(hzy:NZ ys)(hl:xs.length<k)(hl':ys.length<k)(hk:k<=1000000)(hcx9:cx<=9223372036854775807)(hcy9:cy<=9223372036854775807)(hcz9:cz<=9223372036854775807)
 (hax:0<xs.length->Al bz oz k bx ox xs.length)(hay:0<ys.length->Al bz oz k by_ oy ys.length):
 Calls Tryz.prog 63 #[.pointer (some ⟨pz,0,none⟩),.pointer (some ⟨px,0,none⟩),.pointer (some ⟨py,0,none⟩)] w (IntP w pz A bz oz cz k (sg sx (val 18446744073709551616 xs)+sg sy (val 18446744073709551616 ys))):=by
 have CC:=κ (fun W (f:Fr [] w W)=>cmpN_any Ax bx ox cx xs Ay by_ oy cy ys W (hx.fr0 f) hd hzx (hy.fr0 f) hd' hzy);obtain⟨m,hm⟩: ∃m,m=xs.length:=⟨_,rfl⟩;obtain⟨n,hn⟩: ∃n,n=ys.length:=⟨_,rfl⟩;obtain⟨X,hXv⟩: ∃X,X=val 18446744073709551616 xs:=⟨_,rfl⟩;obtain⟨Y,hYv⟩: ∃Y,Y=val 18446744073709551616 ys:=⟨_,rfl⟩;obtain⟨c,hc⟩: ∃c,c=cmpI X Y:=⟨_,rfl⟩;rw[<-hm,<- hn,<- hXv,<- hYv,<- hc]at CC;rw[<-hXv,<- hYv];have cx0:=hX.cell0;have cx1:=hX.cell1;have cy0:=hY.cell0;have cy1:=hY.cell1;have cz1:=hz.cell1;rw[<-hm]at cx1 hX;rw[<-hn]at cy1 hY;have HX:=κ hX;have HY:=κ hY;have HZ:=κ hz;have HPB:=κ hpb;have hzy1: ¬pz=py:=hzy';have hzy2: ¬py=pz:=fun e=>hzy' e.symm
 clear hzy';have HXB:=κ hxb;have HYB:=κ hyb;by_cases hs:sx=sy
 ·have HU:=κ (show sg sx (X+Y)=sg sx X+sg sy Y by rw[<-hs,<- sg_add])
  obtain⟨U,hU⟩: ∃U,U=sg sx X+sg sy Y:=⟨_,rfl⟩;rw[<-hU]at HU ⊢
  have hb:(sx==sy)=true:=by rw[beq_iff_eq];exact hs
  have CA:=κ (fun W (f:Fr [] w W)=>naddR_any k A l bz oz cz Ax bx ox cx xs Ay by_ oy cy ys W (hr.fc (Fc.fr0 f 51 (fun _ _=>False))) hlc (hx.fr0 f) hd hzx (hy.fr0 f) hd' hzy hl hl' hk hcx9 hcy9 hcz9 hax hay);rw[<-hm,<- hn,<- hXv,<- hYv]at CA;clear hz hX hY hm hn hXv hYv hc hx hy hd hd' hzx hzy hr hax hay hl hl' hpb hxb hyb CC hs hU;go_enter Tryz.func63,Tryz.ntmps63;go_wp2_with fail;go_quiet (fail);try simp only[hb]
  go_wp2_with fail;go_region_with (go_at_call 27;refine(CA.out _ ((Fr.refl _ _).drewN _).drew).mono ?_;intro e w2 hm;have HM:=κ hm;obtain⟨A',n0,c',rfl⟩:=hm.val;have HI:=κ (int_mid HZ.out ((Fr.refl _ _).drewN _).drew HPB.out hm);have z1:=HI.out.cell1;have z0:=HI.out.cell0;have y1:=HI.out.frozen 1;have y0:=HI.out.frozen 0;clear hm)
  all_goals (
   clear CA cx0 cx1 cy0 cy1 cz1;rcases Nat.eq_zero_or_pos n0 with rfl|hn0)
  all_goals (
   go_wp2_with fail;go_ret
   first
    |exact int_fin sx HZ.out ((Fr.refl _ _).drewN _).drew HPB.out HM.out HU.out rfl
    |exact int_fin false HZ.out ((Fr.refl _ _).drewN _).drew HPB.out HM.out (sg_of0 sx HM.out.zero HU.out) rfl)
 ·have HU:=κ (show sg sx (X-Y)=sg sx X+sg sy Y by rw[sg_ne hs,sg_sub];omega)
  have HU':=κ (show sg (!sx) (Y-X)=sg sx X+sg sy Y by rw[<-HU.out,sg_not];cases sx<;>simp[sg]<;>omega);obtain⟨U,hU⟩: ∃U,U=sg sx X+sg sy Y:=⟨_,rfl⟩;rw[<-hU]at HU HU' ⊢
  have hb:(sx==sy)=false:=by rw[beq_eq_false_iff_ne];exact hs
  by_cases hle:Y<=X
  ·have hc0:0<=c:=by rw[hc];exact cmpI_ge hle
   have CS:=κ (fun W (f:Fr [] w W)=>nsubR_any k A l bz oz cz Ax bx ox cx xs Ay by_ oy cy ys W (hr.fc (Fc.fr0 f 51 (fun _ _=>False))) hlc (hx.fr0 f) hd hzx (hy.fr0 f) hd' hzy (by omega) hk hcx9 hcy9 hcz9 hax hay (by rw[<-hXv,<- hYv];exact hle));rw[<-hm,<- hn,<- hXv,<- hYv]at CS;clear hz hX hY hm hn hXv hYv hc hx hy hd hd' hzx hzy hr hax hay hl hl' hle hpb hxb hyb cz1 hs hU;go_enter Tryz.func63,Tryz.ntmps63;go_wp2_with fail;go_quiet (fail);try simp only[hb]
   go_wp2_with fail;go_region_held3 (fun w'=>w'.cell? ⟨px,1,none⟩=some (.slice Ax m cx)/\w'.cell? ⟨py,1,none⟩=some (.slice Ay n cy)) (first|exact⟨by assumption,by assumption⟩|go_keep) ((go_at_call 47;refine(CC.out _ ((Fr.refl _ _).drewN _).drew).mono ?_;rintro e w1 ⟨rfl,f1⟩;have F1:=κ (show Fr [] w w1 from⟨f1.os,f1.tape,f1.output,f1.size,f1.block⟩);clear f1;have cx2:=(HX.out.fr0 F1.out).cell1;have cy2:=(HY.out.fr0 F1.out).cell1;have cz2:=(HZ.out.fr0 F1.out).cell1));clear CC cx0 cx1 cy0 cy1;go_wp2_with fail;go_region_with (go_at_call 40;refine(CS.out _ F1.out.drew).mono ?_;intro e w2 hm;have HM:=κ hm;obtain⟨A',n0,c',rfl⟩:=hm.val;have HI:=κ (int_mid HZ.out F1.out.drew HPB.out hm);have z1:=HI.out.cell1;have z0:=HI.out.cell0;have y1:=HI.out.frozen 1;have y0:=HI.out.frozen 0;clear hm)
   all_goals (
    clear CS cx2 cy2 cz2;rcases Nat.eq_zero_or_pos n0 with rfl|hn0)
   all_goals (
    go_wp2_with fail;go_ret
    first
     |exact int_fin sx HZ.out F1.out.drew HPB.out HM.out HU.out rfl
     |exact int_fin false HZ.out F1.out.drew HPB.out HM.out (sg_of0 sx HM.out.zero HU.out) rfl)
  ·have hc0:c<0:=by rw[hc];exact cmpI_neg (by omega)
   have CS:=κ (fun W (f:Fr [] w W)=>nsubR_any k A l bz oz cz Ay by_ oy cy ys Ax bx ox cx xs W (hr.fc (Fc.fr0 f 51 (fun _ _=>False))) hlc (hy.fr0 f) hd' hzy (hx.fr0 f) hd hzx (by omega) hk hcy9 hcx9 hcz9 hay hax (by rw[<-hXv,<- hYv];omega));rw[<-hm,<- hn,<- hXv,<- hYv]at CS;clear hz hX hY hm hn hXv hYv hc hx hy hd hd' hzx hzy hr hax hay hl hl' hle hpb hxb hyb cz1 hs hU;go_enter Tryz.func63,Tryz.ntmps63;go_wp2_with fail;go_quiet (fail);try simp only[hb]
   go_wp2_with fail;go_region_held3 (fun w'=>w'.cell? ⟨px,1,none⟩=some (.slice Ax m cx)/\w'.cell? ⟨py,1,none⟩=some (.slice Ay n cy)) (first|exact⟨by assumption,by assumption⟩|go_keep) ((go_at_call 47;refine(CC.out _ ((Fr.refl _ _).drewN _).drew).mono ?_;rintro e w1 ⟨rfl,f1⟩;have F1:=κ (show Fr [] w w1 from⟨f1.os,f1.tape,f1.output,f1.size,f1.block⟩);clear f1;have cx2:=(HX.out.fr0 F1.out).cell1;have cy2:=(HY.out.fr0 F1.out).cell1;have cz2:=(HZ.out.fr0 F1.out).cell1));clear CC cx0 cx1 cy0 cy1;go_wp2_with fail;go_region_with (go_at_call 40;refine(CS.out _ F1.out.drew).mono ?_;intro e w2 hm;have HM:=κ hm;obtain⟨A',n0,c',rfl⟩:=hm.val;have HI:=κ (int_mid HZ.out F1.out.drew HPB.out hm);have z1:=HI.out.cell1;have z0:=HI.out.cell0;have y1:=HI.out.frozen 1;have y0:=HI.out.frozen 0;clear hm)
   all_goals (
    clear CS cx2 cy2 cz2;rcases Nat.eq_zero_or_pos n0 with rfl|hn0)
   all_goals (
    go_wp2_with fail;go_ret
    first
     |exact int_fin (!sx) HZ.out F1.out.drew HPB.out HM.out HU'.out rfl
     |exact int_fin false HZ.out F1.out.drew HPB.out HM.out (sg_of0 (!sx) HM.out.zero HU'.out) rfl)
theorem intSubS_any(k pz:Nat)(nz:Bool)(A:Option Addr)(l bz oz cz px:Nat)(sx:Bool)(Ax:Option Addr)(bx ox cx:Nat)(xs:List Int)(py:Nat)(sy:Bool)(Ay:Option Addr)(by_ oy cy:Nat)(ys:List Int)(w:World)
 (hz:IntB w pz nz A l cz)(hr:Rcv w A bz oz cz)(hlc:l<=cz)(hpb:pz≠bz)(hzy':pz≠py)(hxb:px≠bz)(hyb:py≠bz)(hX:IntB w px sx Ax xs.length cx)(hx:Nm w Ax bx ox cx xs)(hd:DG 18446744073709551616 xs)(hzx:NZ xs)
 (hY:IntB w py sy Ay ys.length cy)(hy:Nm w Ay by_ oy cy ys)(hd':DG 18446744073709551616 ys)(hzy:NZ ys)(hl:xs.length<k)(hl':ys.length<k)(hk:k<=1000000)(hcx9:cx<=9223372036854775807)(hcy9:cy<=9223372036854775807)(hcz9:cz<=9223372036854775807)
 (hax:0<xs.length->Al bz oz k bx ox xs.length)(hay:0<ys.length->Al bz oz k by_ oy ys.length):
 Calls Tryz.prog 83 #[.pointer (some ⟨pz,0,none⟩),.pointer (some ⟨px,0,none⟩),.pointer (some ⟨py,0,none⟩)] w (IntP w pz A bz oz cz k (sg sx (val 18446744073709551616 xs)-sg sy (val 18446744073709551616 ys))):=by
 have CC:=κ (fun W (f:Fr [] w W)=>cmpN_any Ax bx ox cx xs Ay by_ oy cy ys W (hx.fr0 f) hd hzx (hy.fr0 f) hd' hzy);obtain⟨m,hm⟩: ∃m,m=xs.length:=⟨_,rfl⟩;obtain⟨n,hn⟩: ∃n,n=ys.length:=⟨_,rfl⟩;obtain⟨X,hXv⟩: ∃X,X=val 18446744073709551616 xs:=⟨_,rfl⟩;obtain⟨Y,hYv⟩: ∃Y,Y=val 18446744073709551616 ys:=⟨_,rfl⟩;obtain⟨c,hc⟩: ∃c,c=cmpI X Y:=⟨_,rfl⟩;rw[<-hm,<- hn,<- hXv,<- hYv,<- hc]at CC;rw[<-hXv,<- hYv];have cx0:=hX.cell0;have cx1:=hX.cell1;have cy0:=hY.cell0;have cy1:=hY.cell1;have cz1:=hz.cell1;rw[<-hm]at cx1 hX;rw[<-hn]at cy1 hY;have HX:=κ hX;have HY:=κ hY;have HZ:=κ hz;have HPB:=κ hpb;have hzy1: ¬pz=py:=hzy';have hzy2: ¬py=pz:=fun e=>hzy' e.symm
 clear hzy';have HXB:=κ hxb;have HYB:=κ hyb;by_cases hs:sx≠sy
 ·have HU:=κ (show sg sx (X+Y)=sg sx X-sg sy Y by rw[sg_ne hs,sg_add];omega)
  obtain⟨U,hU⟩: ∃U,U=sg sx X-sg sy Y:=⟨_,rfl⟩;rw[<-hU]at HU ⊢
  have hb:(!(sx==sy))=true:=by have:=beq_eq_false_iff_ne.2 hs;rw[this];rfl
  have CA:=κ (fun W (f:Fr [] w W)=>naddR_any k A l bz oz cz Ax bx ox cx xs Ay by_ oy cy ys W (hr.fc (Fc.fr0 f 51 (fun _ _=>False))) hlc (hx.fr0 f) hd hzx (hy.fr0 f) hd' hzy hl hl' hk hcx9 hcy9 hcz9 hax hay);rw[<-hm,<- hn,<- hXv,<- hYv]at CA;clear hz hX hY hm hn hXv hYv hc hx hy hd hd' hzx hzy hr hax hay hl hl' hpb hxb hyb CC hs hU;go_enter Tryz.func83,Tryz.ntmps83;go_wp2_with fail;go_quiet (fail);try simp only[hb]
  go_wp2_with fail;go_region_with (go_at_call 27;refine(CA.out _ ((Fr.refl _ _).drewN _).drew).mono ?_;intro e w2 hm;have HM:=κ hm;obtain⟨A',n0,c',rfl⟩:=hm.val;have HI:=κ (int_mid HZ.out ((Fr.refl _ _).drewN _).drew HPB.out hm);have z1:=HI.out.cell1;have z0:=HI.out.cell0;have y1:=HI.out.frozen 1;have y0:=HI.out.frozen 0;clear hm)
  all_goals (
   clear CA cx0 cx1 cy0 cy1 cz1;rcases Nat.eq_zero_or_pos n0 with rfl|hn0)
  all_goals (
   go_wp2_with fail;go_ret
   first
    |exact int_fin sx HZ.out ((Fr.refl _ _).drewN _).drew HPB.out HM.out HU.out rfl
    |exact int_fin false HZ.out ((Fr.refl _ _).drewN _).drew HPB.out HM.out (sg_of0 sx HM.out.zero HU.out) rfl)
 ·have HU:=κ (show sg sx (X-Y)=sg sx X-sg sy Y by rw[<-Decidable.not_not.1 hs,sg_sub])
  have HU':=κ (show sg (!sx) (Y-X)=sg sx X-sg sy Y by rw[<-HU.out,sg_not];cases sx<;>simp[sg]<;>omega);obtain⟨U,hU⟩: ∃U,U=sg sx X-sg sy Y:=⟨_,rfl⟩;rw[<-hU]at HU HU' ⊢
  have hb:(!(sx==sy))=false:=by have:=beq_iff_eq.2 (Decidable.not_not.1 hs);rw[this];rfl
  by_cases hle:Y<=X
  ·have hc0:0<=c:=by rw[hc];exact cmpI_ge hle
   have CS:=κ (fun W (f:Fr [] w W)=>nsubR_any k A l bz oz cz Ax bx ox cx xs Ay by_ oy cy ys W (hr.fc (Fc.fr0 f 51 (fun _ _=>False))) hlc (hx.fr0 f) hd hzx (hy.fr0 f) hd' hzy (by omega) hk hcx9 hcy9 hcz9 hax hay (by rw[<-hXv,<- hYv];exact hle));rw[<-hm,<- hn,<- hXv,<- hYv]at CS;clear hz hX hY hm hn hXv hYv hc hx hy hd hd' hzx hzy hr hax hay hl hl' hle hpb hxb hyb cz1 hs hU;go_enter Tryz.func83,Tryz.ntmps83;go_wp2_with fail;go_quiet (fail);try simp only[hb]
   go_wp2_with fail;go_region_held3 (fun w'=>w'.cell? ⟨px,1,none⟩=some (.slice Ax m cx)/\w'.cell? ⟨py,1,none⟩=some (.slice Ay n cy)) (first|exact⟨by assumption,by assumption⟩|go_keep) ((go_at_call 47;refine(CC.out _ ((Fr.refl _ _).drewN _).drew).mono ?_;rintro e w1 ⟨rfl,f1⟩;have F1:=κ (show Fr [] w w1 from⟨f1.os,f1.tape,f1.output,f1.size,f1.block⟩);clear f1;have cx2:=(HX.out.fr0 F1.out).cell1;have cy2:=(HY.out.fr0 F1.out).cell1;have cz2:=(HZ.out.fr0 F1.out).cell1));clear CC cx0 cx1 cy0 cy1;go_wp2_with fail;go_region_with (go_at_call 40;refine(CS.out _ F1.out.drew).mono ?_;intro e w2 hm;have HM:=κ hm;obtain⟨A',n0,c',rfl⟩:=hm.val;have HI:=κ (int_mid HZ.out F1.out.drew HPB.out hm);have z1:=HI.out.cell1;have z0:=HI.out.cell0;have y1:=HI.out.frozen 1;have y0:=HI.out.frozen 0;clear hm)
   all_goals (
    clear CS cx2 cy2 cz2;rcases Nat.eq_zero_or_pos n0 with rfl|hn0)
   all_goals (
    go_wp2_with fail;go_ret
    first
     |exact int_fin sx HZ.out F1.out.drew HPB.out HM.out HU.out rfl
     |exact int_fin false HZ.out F1.out.drew HPB.out HM.out (sg_of0 sx HM.out.zero HU.out) rfl)
  ·have hc0:c<0:=by rw[hc];exact cmpI_neg (by omega)
   have CS:=κ (fun W (f:Fr [] w W)=>nsubR_any k A l bz oz cz Ay by_ oy cy ys Ax bx ox cx xs W (hr.fc (Fc.fr0 f 51 (fun _ _=>False))) hlc (hy.fr0 f) hd' hzy (hx.fr0 f) hd hzx (by omega) hk hcy9 hcx9 hcz9 hay hax (by rw[<-hXv,<- hYv];omega));rw[<-hm,<- hn,<- hXv,<- hYv]at CS;clear hz hX hY hm hn hXv hYv hc hx hy hd hd' hzx hzy hr hax hay hl hl' hle hpb hxb hyb cz1 hs hU;go_enter Tryz.func83,Tryz.ntmps83;go_wp2_with fail;go_quiet (fail);try simp only[hb]
   go_wp2_with fail;go_region_held3 (fun w'=>w'.cell? ⟨px,1,none⟩=some (.slice Ax m cx)/\w'.cell? ⟨py,1,none⟩=some (.slice Ay n cy)) (first|exact⟨by assumption,by assumption⟩|go_keep) ((go_at_call 47;refine(CC.out _ ((Fr.refl _ _).drewN _).drew).mono ?_;rintro e w1 ⟨rfl,f1⟩;have F1:=κ (show Fr [] w w1 from⟨f1.os,f1.tape,f1.output,f1.size,f1.block⟩);clear f1;have cx2:=(HX.out.fr0 F1.out).cell1;have cy2:=(HY.out.fr0 F1.out).cell1;have cz2:=(HZ.out.fr0 F1.out).cell1));clear CC cx0 cx1 cy0 cy1;go_wp2_with fail;go_region_with (go_at_call 40;refine(CS.out _ F1.out.drew).mono ?_;intro e w2 hm;have HM:=κ hm;obtain⟨A',n0,c',rfl⟩:=hm.val;have HI:=κ (int_mid HZ.out F1.out.drew HPB.out hm);have z1:=HI.out.cell1;have z0:=HI.out.cell0;have y1:=HI.out.frozen 1;have y0:=HI.out.frozen 0;clear hm)
   all_goals (
    clear CS cx2 cy2 cz2;rcases Nat.eq_zero_or_pos n0 with rfl|hn0)
   all_goals (
    go_wp2_with fail;go_ret
    first
     |exact int_fin (!sx) HZ.out F1.out.drew HPB.out HM.out HU'.out rfl
     |exact int_fin false HZ.out F1.out.drew HPB.out HM.out (sg_of0 (!sx) HM.out.zero HU'.out) rfl)
theorem eql_same{a:Addr}(w:World):(binOp .eql 90 (.pointer (some a)) (.pointer (some a))).run Tryz.prog w= .ok (.bool true) w:=by
 obtain⟨j,hj,hjs⟩: ∃j,Tryz.prog.info? 51=some j/\j.size=1:=by
  have h:=size_wordV;cases e:Tryz.prog.info? 51 with
  |none=>rw[e]at h;cases h
  |some j=>rw[e]at h;exact⟨j,rfl,by simpa using h⟩
 exact run_eql_ptr_same w a Tryz.underlying90 hj
theorem alias_yes(b o l m c:Nat)(w:World)(hlc:l<=c)(hmd:m<=c)(hc:c<=maxLen)(hc0:0<c):
 Calls Tryz.prog 37 #[.slice (some ⟨b,o,none⟩) l c,.slice (some ⟨b,o,none⟩) m c] w fun e w'=>e= .returned (.bool true)/\Fr [] w w':=by
 unfold maxLen at hc;obtain⟨c1,hc1⟩: ∃c1,c1=c-1:=⟨_,rfl⟩;have e1:(c:Int)-1=(c1:Int):=by omega
 have hc1c:(c1:Int)<(c:Int):=by omega
 have hcp:(0:Int)<(c:Int):=by omega
 have hcb:decide ((0:Int)<(c:Int))=true:=by simpa using hc0
 have hcb2:decide (0<c)=true:=by simpa using hc0
 have hcl:(l:Int)<=(c:Int):=by omega
 have hdl:(m:Int)<=(c:Int):=by omega
 have hq:=fun k=>eql_same (a:=⟨b,o+c1,none⟩) (w.drewN k)
 have hq1:=hq 1;have hq2:(binOp .eql 90 (.pointer (some ⟨b,o+c1,none⟩)) (.pointer (some ⟨b,o+c1,none⟩))).run Tryz.prog w.drew= .ok (.bool true) w.drew:=hq 1;have hwc:IntKind.i64.wrap (c1:Int)=(c1:Int):=by rw[IntKind.wrap_i64];omega
 clear hq hc1;go_enter Tryz.func37,Tryz.ntmps37;go_wp2_with fail;go_region;all_goals (go_wp2_with fail)
 all_goals go_ret
 all_goals exact⟨rfl,(Fr.refl _ _).drew⟩
def MzP(w:World)(A:Option Addr)(b o c:Nat)(V:Int)(e:Ending)(w':World):Prop:=
 ∃A' b' o' c' zs,e= .returned (.slice A' zs.length c')/\PutR w A b o c V A' b' o' c' zs w'
theorem MzP.val{w:World}{A:Option Addr}{b o c:Nat}{V:Int}{e:Ending}{w':World}(h:MzP w A b o c V e w'): ∃A' n c',e= .returned (.slice A' n c'):=by
 obtain⟨A',b',o',c',zs,h1,_⟩:=h;exact⟨A',_,c',h1⟩
section
variable {w:World}{A:Option Addr}{l b o c:Nat}{Ax:Option Addr}{bx ox cx:Nat}{xs:List Int}{Ay:Option Addr}{by_ oy cy:Nat}{ys:List Int}
theorem mz_zero(h:Rcv w A b o c)(hl:l<=c)(m:Nat)(hm:m<=100000):Calls Tryz.prog 33 #[.slice A l c,.pointer none,.slice Ax m cx,.slice Ay 0 cy] w (MzP w A b o c 0):=by
 have F:=κ (show MzP w A b o c 0 (.returned (.slice A 0 c)) w from⟨A,b,o,c,[],rfl,Nm.nil h,DG.nil _,NZ.nil,val_nil _,.inl ⟨rfl,rfl,rfl,rfl⟩,Fc.refl _ _ _⟩);have hc:=h.1;unfold maxLen at hc;clear h;by_cases h0:m=0
 ·subst h0
  go_enter_defers Tryz.func33,Tryz.ntmps33;refine wp_mono ?_ bodyPostN_D;go_wp2_with fail;show Leaves _ _ _ _ _ _ _;exact⟨.slice A 0 c,by simp[results,Tryz.results33,go_sem],F.out⟩
 ·have hm0:((m:Int)==0)=false:=by rw[beq_eq_false_iff_ne];omega
  have hm1: ¬(m:Int)<0:=by omega
  go_enter_defers Tryz.func33,Tryz.ntmps33;refine wp_mono ?_ bodyPostN_D;go_wp2_with fail;show Leaves _ _ _ _ _ _ _;exact⟨.slice A 0 c,by simp[results,Tryz.results33,go_sem],F.out⟩
theorem mz_word(h:Rcv w A b o c)(hl:l<=c)(hx:Nm w Ax bx ox cx xs)(hd:DG 18446744073709551616 xs)(hx9:xs.length<=100000)(hx0:0<xs.length)(hal:Al b o c bx ox xs.length)(hy:Nm w Ay by_ oy cy ys)(hd':DG 18446744073709551616 ys)(hzy:NZ ys)(hy1:ys.length=1):
 Calls Tryz.prog 33 #[.slice A l c,.pointer none,.slice Ax xs.length cx,.slice Ay 1 cy] w (MzP w A b o c (val 18446744073709551616 xs*val 18446744073709551616 ys)):=by
 obtain⟨d,rfl⟩:=List.length_eq_one_iff.1 hy1;have hdd:=hd'.head
 have hd0:d≠0:=by
  rcases hzy with e|e
  ·cases e
  ·simpa using e
 have hv:val 18446744073709551616 [d]=d:=by simp[val_cons,val_nil]
 obtain rfl:=hy.addr (by simp);have cy0:=hy.2.2 (by simp) 0 (by simp);rw[Nat.add_zero,show([d]:List Int).getD 0 0=d from rfl]at cy0;have C:=nmulAddR_any A l b o c Ax bx ox cx xs d 0 w h hl hx hd (by omega) hal (by omega) hdd.2 (by omega) (by omega);rw[Int.add_zero]at C;have HC:=κ C;rw[hv];obtain⟨m,hm⟩: ∃m,m=xs.length:=⟨_,rfl⟩;have hc:=h.1;have hcx:=hx.max;have hcy:=hy.max;have hxc:=hx.le;have hyc:=hy.le;unfold maxLen at hc hcx hcy;rw[<-hm]at HC hx9 hx0 hxc ⊢
 have hm0:((m:Int)==0)=false:=by rw[beq_eq_false_iff_ne];omega
 have hm1: ¬(m:Int)<1:=by omega
 clear h hx hd hal hy hd' hzy hy1 hv C hm;simp only[List.length_cons,List.length_nil]at hyc;go_enter_defers Tryz.func33,Tryz.ntmps33;refine wp_mono ?_ bodyPostN_D;go_wp2_with (go_at_call 50;refine(HC.out).mono ?_;rintro e w1 ⟨A',b',o',c',zs,rfl,hp⟩;have HP:=κ hp;clear hp);show Leaves _ _ _ _ _ _ _;exact⟨.slice A' zs.length c',by simp[results,Tryz.results33,go_sem],A',b',o',c',zs,rfl,HP.out⟩
theorem mz_fin{w2 w3 w4:World}{z o1 c1 k:Nat}{V:Int}{vs:List Int}(F:Fr [] w w2)(f:Fr [] w2 w3)(hz:w2.heap.size<=z)(hc1:c1<=k+4)(hk:k<=200000)(g:Fc 51 (In1 z o1 k) w3 w4)(h1:Nm w4 (some ⟨z,o1,none⟩) z o1 c1 vs)(h2:DG 18446744073709551616 vs)(h3:NZ vs)(h4:val 18446744073709551616 vs=V):MzP w A b o c V (.returned (.slice (some ⟨z,o1,none⟩) vs.length c1)) w4:=by
 have hs:=F.size;exact⟨_,z,o1,c1,vs,rfl,h1,h2,h3,h4,.inr ⟨by omega,by omega⟩,(Fc.fr0 (F.t f) _ _).trans g (fun b i hh hlt=>by have:=hh.1;omega)⟩
theorem mz_small(first:Bool)(hal:if first then A=Ax/\b=bx/\o=ox/\c=cx else A=Ay/\b=by_/\o=oy/\c=cy)(hl:l<=c)(hx:Nm w Ax bx ox cx xs)(hd:DG 18446744073709551616 xs)(hx9:xs.length<=100000)(hy:Nm w Ay by_ oy cy ys)(hd':DG 18446744073709551616 ys)(hn2:2<=ys.length)(hn40:ys.length<40)(hmn:ys.length<=xs.length)
 (hne:first=false->by_≠bx)(thr:Glo w 0 40):
 Calls Tryz.prog 33 #[.slice A l c,.pointer none,.slice Ax xs.length cx,.slice Ay ys.length cy] w (MzP w A b o c (val 18446744073709551616 xs*val 18446744073709551616 ys)):=by
 obtain rfl:=hx.addr (by omega);obtain rfl:=hy.addr (by omega);have hcx:=hx.max;have hcy:=hy.max;have hxc:=hx.le;have hyc:=hy.le;have hxl:=hx.lt (by omega);have hyl:=hy.lt (by omega);obtain⟨m,hm⟩: ∃m,m=xs.length:=⟨_,rfl⟩;obtain⟨n,hn⟩: ∃n,n=ys.length:=⟨_,rfl⟩;obtain⟨k,hk⟩: ∃k,k=m+n:=⟨_,rfl⟩;have a1:(m:Int)+(n:Int)=(k:Int):=by omega
 have hc9:c<=9223372036854775807:=by
  unfold maxLen at hcx hcy;cases first<;>simp only[Bool.false_eq_true,if_false,if_true]at hal<;>omega
 have CA2:first=true\/Hid (∀W,Fr [] w W->Calls Tryz.prog 37 #[.slice A l c,.slice (some ⟨by_,oy,none⟩) ys.length cy] W fun e w'=>e= .returned (.bool true)/\Fr [] W w'):=by
  cases first with
  |true=>exact .inl rfl
  |false=>
   simp only[Bool.false_eq_true,if_false]at hal;obtain⟨rfl,rfl,rfl,rfl⟩:=hal;exact .inr (κ (fun W f=>alias_yes _ _ _ _ _ W hl hyc hcy (by omega)))
 have CA1:Hid (∀W,Fr [] w W->Calls Tryz.prog 37 #[.slice A l c,.slice (some ⟨bx,ox,none⟩) xs.length cx] W fun e w'=>e= .returned (.bool first)/\Fr [] W w'):=by
  cases first with
  |true=>
   simp only[if_true]at hal;obtain⟨rfl,rfl,rfl,rfl⟩:=hal;exact κ (fun W f=>alias_yes _ _ _ _ _ W hl hxc hcx (by omega))
  |false=>
   simp only[Bool.false_eq_true,if_false]at hal;obtain⟨rfl,rfl,rfl,rfl⟩:=hal;have hne':=hne rfl;exact κ (fun W f=>aliasN_any _ _ _ _ _ _ _ _ _ _ W (hy.rcv.fc (Fc.fr0 f 51 (fun _ _=>False))) hl (hx.fr0 f) (fun _ _=> .inl hne'))
 have CM:=κ (fun W=>makeR_any none 0 w.heap.size 0 0 k W (Rcv.nil _ _ _) (Nat.le_refl _) (by omega) (by omega));have HX:=κ hx;have HY:=κ hy;have HD:=κ hd;have HD':=κ hd';have HM:=κ hm;have HN:=κ hn;have HK:=κ hk;rw[<-hm]at CA1 hx9 hmn hxc ⊢
 rw[<-hn]at CA2 hn2 hn40 hmn hyc ⊢
 unfold maxLen at hcx hcy;have thr0:w.cell? ⟨0,0,none⟩=some (.int .i64 40):=thr;have hm0:((m:Int)==0)=false:=by rw[beq_eq_false_iff_ne];omega
 have hn0:((n:Int)==0)=false:=by rw[beq_eq_false_iff_ne];omega
 have hn1:((n:Int)==1)=false:=by rw[beq_eq_false_iff_ne];omega
 have hmnI: ¬(m:Int)<(n:Int):=by omega
 have hnI:(n:Int)<40:=by omega
 have hk9:k<=200000:=by omega
 clear hx hy hd hd' hm hn hk hal hne thr;cases first with
 |true=>
  go_enter_defers Tryz.func33,Tryz.ntmps33;refine wp_mono ?_ bodyPostN_D
  go_wp2_with (first
   |(go_at_call 37;refine(CA1.out _ (Fr.refl _ _)).mono ?_;rintro e w2 ⟨rfl,f2⟩;have F2:=κ f2;have thr2:=f2.cell_some thr0 (by simp);clear f2 thr0)
   |(go_at_call 42;refine(CM.out _).mono ?_;intro e w3 hm;obtain⟨z,o1,c1,Z,rfl,h1,h2,h3,h4,h5,h6,h7⟩:=hm.out2 (fun hc=>absurd hc (by omega));have F3:=κ (F2.out.t h5);have h7':=h7.resolve_left (by rintro⟨e,_⟩;cases e);have hc19:c1<=9223372036854775807:=(by omega);have H2:=κ h2;have H3:=κ h3;have H4:=κ h4;have H5:=κ h5;have H7:=κ h7';have thr3:=h5.cell_some thr2 (by simp);clear thr2 hm h2 h3 h4 h5 h6 h7 h7')
   |(go_at_call 51;have hs2:=F2.out.size;refine(basicMulW_any z o1 k c1 bx ox cx by_ oy cy m n Z xs ys _ H3.out H4.out (by rw[HK.out];exact Nat.le_refl _) h1 HM.out.symm ((HX.out.fr0 F3.out).2.2 (by rw[<-HM.out];omega)) HD.out (.inl (by have:=H7.out;omega)) HN.out.symm ((HY.out.fr0 F3.out).2.2 (by rw[<-HN.out];omega)) HD'.out (.inl (by have:=H7.out;omega)) (by omega) (by omega) (by omega) (by omega) hc19 hxc hyc).mono ?_;rintro e w4 ⟨rfl,us,g1,g2,g3,g4,g5⟩;rw[<-HK.out]at g2 g5;have G1:=κ g1;have G2:=κ g2;have G3:=κ g3;have G4:=κ g4;have G5:=κ g5;clear g1 g2 g3 g4 g5)
   |(go_at_call 34;have CN:=normN_any (some ⟨z,o1,none⟩) z o1 c1 us _ (Nm.of_wr G1.out (H2.out.fc G5.out) (by rw[G2.out];exact h1)) G3.out;rw[G2.out]at CN;refine CN.mono ?_;rintro e w5 ⟨⟨vs,rfl,p1,p2,p3,p4,p5⟩,rfl⟩;have P1:=κ p1;have P2:=κ p2;have P3:=κ p3;have P4:=κ p4;clear p1 p2 p3 p4 p5 CN));show Leaves _ _ _ _ _ _ _;refine⟨.slice (some ⟨z,o1,none⟩) vs.length c1,by simp[results,Tryz.results33,go_sem],?_⟩;exact mz_fin F2.out H5.out (by have:=H7.out;omega) (by have:=H7.out;omega) hk9 G5.out P1.out P2.out P3.out (P4.out.trans G4.out)
 |false=>
  have CA2':=CA2.resolve_left (by decide);have T1:True:=trivial;clear CA2;go_enter_defers Tryz.func33,Tryz.ntmps33;refine wp_mono ?_ bodyPostN_D
  go_wp2_with (first
   |(go_at_call 37;clear T1;refine(CA1.out _ (Fr.refl _ _)).mono ?_;rintro e w1 ⟨rfl,f1⟩;have F1:=κ f1;have thr1:=f1.cell_some thr0 (by simp);clear f1 thr0)
   |(go_at_call 37;refine(CA2'.out _ F1.out).mono ?_;rintro e w2 ⟨rfl,f2⟩;have F2:=κ (F1.out.t f2);have thr2:=f2.cell_some thr1 (by simp);clear f2 thr1)
   |(go_at_call 42;refine(CM.out _).mono ?_;intro e w3 hm;obtain⟨z,o1,c1,Z,rfl,h1,h2,h3,h4,h5,h6,h7⟩:=hm.out2 (fun hc=>absurd hc (by omega));have F3:=κ (F2.out.t h5);have h7':=h7.resolve_left (by rintro⟨e,_⟩;cases e);have hc19:c1<=9223372036854775807:=(by omega);have H2:=κ h2;have H3:=κ h3;have H4:=κ h4;have H5:=κ h5;have H7:=κ h7';have thr3:=h5.cell_some thr2 (by simp);clear thr2 hm h2 h3 h4 h5 h6 h7 h7')
   |(go_at_call 51;have hs2:=F2.out.size;refine(basicMulW_any z o1 k c1 bx ox cx by_ oy cy m n Z xs ys _ H3.out H4.out (by rw[HK.out];exact Nat.le_refl _) h1 HM.out.symm ((HX.out.fr0 F3.out).2.2 (by rw[<-HM.out];omega)) HD.out (.inl (by have:=H7.out;omega)) HN.out.symm ((HY.out.fr0 F3.out).2.2 (by rw[<-HN.out];omega)) HD'.out (.inl (by have:=H7.out;omega)) (by omega) (by omega) (by omega) (by omega) hc19 hxc hyc).mono ?_;rintro e w4 ⟨rfl,us,g1,g2,g3,g4,g5⟩;rw[<-HK.out]at g2 g5;have G1:=κ g1;have G2:=κ g2;have G3:=κ g3;have G4:=κ g4;have G5:=κ g5;clear g1 g2 g3 g4 g5)
   |(go_at_call 34;have CN:=normN_any (some ⟨z,o1,none⟩) z o1 c1 us _ (Nm.of_wr G1.out (H2.out.fc G5.out) (by rw[G2.out];exact h1)) G3.out;rw[G2.out]at CN;refine CN.mono ?_;rintro e w5 ⟨⟨vs,rfl,p1,p2,p3,p4,p5⟩,rfl⟩;have P1:=κ p1;have P2:=κ p2;have P3:=κ p3;have P4:=κ p4;clear p1 p2 p3 p4 p5 CN));show Leaves _ _ _ _ _ _ _;refine⟨.slice (some ⟨z,o1,none⟩) vs.length c1,by simp[results,Tryz.results33,go_sem],?_⟩;exact mz_fin F2.out H5.out (by have:=H7.out;omega) (by have:=H7.out;omega) hk9 G5.out P1.out P2.out P3.out (P4.out.trans G4.out)
theorem mz_swap{V:Int}{m n:Nat}(hlt:m<n)(hn:n<=100000)(hc:c<=maxLen)(hl:l<=c)(hcx:m<=cx)(hcy:n<=cy)(hx9:cx<=maxLen)(hy9:cy<=maxLen)(H:Calls Tryz.prog 33 #[.slice A l c,.pointer none,.slice Ay n cy,.slice Ax m cx] w (MzP w A b o c V)):
 Calls Tryz.prog 33 #[.slice A l c,.pointer none,.slice Ax m cx,.slice Ay n cy] w (MzP w A b o c V):=by
 have C:=κ H;have hI:(m:Int)<(n:Int):=by omega
 unfold maxLen at hc hx9 hy9;clear H;go_enter_defers Tryz.func33,Tryz.ntmps33;refine wp_mono ?_ bodyPostN_D;go_wp2_with (go_at_call 33;refine(C.out).mono ?_;intro e w1 hm;have HM:=κ hm;obtain⟨A',n0,c',rfl⟩:=hm.val;clear hm);show Leaves _ _ _ _ _ _ _;refine⟨.slice A' n0 c',?_,HM.out⟩;simp[results,Tryz.results33,go_sem]
theorem mulz_any(hx:Nm w Ax bx ox cx xs)(hd:DG 18446744073709551616 xs)(hzx:NZ xs)(hx9:xs.length<=100000)(hy:Nm w Ay by_ oy cy ys)(hd':DG 18446744073709551616 ys)(hzy:NZ ys)(hy9:ys.length<=100000)(hmin:min xs.length ys.length<40)(hne:0<cx->0<cy->bx≠by_)(thr:Glo w 0 40):
 Calls Tryz.prog 33 #[.slice Ax xs.length cx,.pointer none,.slice Ax xs.length cx,.slice Ay ys.length cy] w (MzP w Ax bx ox cx (val 18446744073709551616 xs*val 18446744073709551616 ys)):=by
 have hxc:=hx.le;have hyc:=hy.le;by_cases hy0:ys.length=0
 ·obtain rfl:=List.eq_nil_of_length_eq_zero hy0
  rw[val_nil,Int.mul_zero];exact mz_zero hx.rcv hx.le _ hx9
 by_cases hlt:xs.length<ys.length
 ·refine mz_swap hlt hy9 hx.max hx.le hx.le hy.le hx.max hy.max ?_
  by_cases hx0:xs.length=0
  ·obtain rfl:=List.eq_nil_of_length_eq_zero hx0
   rw[val_nil,Int.zero_mul];exact mz_zero hx.rcv hx.le _ hy9
  ·rw[Int.mul_comm]
   by_cases hx1:xs.length=1
   ·have:=mz_word (A:=Ax) (l:=xs.length) hx.rcv hx.le hy hd' hy9 (by omega) (.inl (.inl (fun e=>hne (by omega) (by omega) e.symm))) hx hd hzx hx1
    rwa[hx1]at this ⊢
   ·exact mz_small false (by simp) hx.le hy hd' hy9 hx hd (by omega) (by omega) (by omega) (fun _=>hne (by omega) (by omega)) thr
 ·by_cases hy1:ys.length=1
  ·have:=mz_word (A:=Ax) (l:=xs.length) hx.rcv hx.le hx hd hx9 (by omega) (.inr ⟨rfl,rfl⟩) hy hd' hzy hy1
   rwa[<-hy1]at this
  ·exact mz_small true (by simp) hx.le hx hd hx9 hy hd' (by omega) (by omega) (by omega) (fun h=>by cases h) thr
end
end Go.Proofs.YthecibbmbnpegaaGreatDoor
