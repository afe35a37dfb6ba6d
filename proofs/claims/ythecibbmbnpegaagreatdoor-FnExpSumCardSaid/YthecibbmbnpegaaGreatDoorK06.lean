/-
  Part 6 of the proof of the law FnExpSum: XgAdd. Conditions: those of each statement.
-/
import Derived.Test.YthecibbmbnpegaaGreatDoorK05
import Derived.Deep.RegionWith
import Derived.Laws.Bits64
set_option linter.unusedSimpArgs false
set_option linter.unusedVariables false
set_option maxRecDepth 100000
set_option maxHeartbeats 2000000
section
namespace Go.Proofs.YthecibbmbnpegaaGreatDoor
open Go.Big Go.RowKit
theorem addVVo_any(bz oz cz bx ox cx by_ oy cy n:Nat)(L xs ys:List Int)(w:World)(hz:Row .u64 51 w bz L)(hfit:oz+n<=L.length)(hnx:xs.length=n)(hsx:Src .u64 w bx ox xs)(hdx:DG 18446744073709551616 xs)(halx:NoTouch bz oz bx ox n)
 (hny:ys.length=n)(hsy:Src .u64 w by_ oy ys)(hdy:DG 18446744073709551616 ys)(haly:NoTouch bz oz by_ oy n)(hn9:n<=1000000000):
 Calls Tryz.prog 43 #[.slice (some ⟨bz,oz,none⟩) n cz,.slice (some ⟨bx,ox,none⟩) n cx,.slice (some ⟨by_,oy,none⟩) n cy] w (VecPost 51 w bz oz n L (fun zs c=>0<=c/\c<=1/\val 18446744073709551616 zs+18446744073709551616^n*c=val 18446744073709551616 xs+val 18446744073709551616 ys)):=by
 have C:=κ (addVV_any bz oz cz bx ox cx by_ oy cy n L xs ys w hz hfit hnx hsx hdx halx hny hsy hdy haly hn9);clear hz hfit hnx hsx hdx halx hny hsy hdy haly;go_enter Tryz.func43,Tryz.ntmps43;go_wp2_with (go_at_call 73;refine(Hid.out C).mono ?_;rintro e w1 ⟨zs,c,rfl,H⟩;have HH:=κ H;clear H C);go_ret;exact⟨zs,c,rfl,HH.out⟩
theorem nadd_ge(bx cx by_ cy m n:Nat)(xs ys:List Int)(w:World)(hx:Row .u64 51 w bx xs)(hd:DG 18446744073709551616 xs)(hn:xs.length=m)(hy:Row .u64 51 w by_ ys)(hd':DG 18446744073709551616 ys)(hn':ys.length=n)(hl:m<=1000000)(hnm:n<=m)(hn0:0<n)(hcx:m<=cx)(hcy:n<=cy)(hcx9:cx<=9223372036854775807)(hcy9:cy<=9223372036854775807):
 Calls Tryz.prog 27 #[.slice none 0 0,.slice (some ⟨bx,0,none⟩) m cx,.slice (some ⟨by_,0,none⟩) n cy] w (RetW (val 18446744073709551616 xs+val 18446744073709551616 ys) w):=by
 have HX:=κ hx;have HD:=κ hd;have HN:=κ hn;have HY:=κ hy;have HD':=κ hd';have HN':=κ hn';clear hx hd hn hy hd' hn';have hm0:((m:Int)==0)=false:=by rw[beq_eq_false_iff_ne];omega
 have hn0':((n:Int)==0)=false:=by rw[beq_eq_false_iff_ne];omega
 have hw:IntKind.i64.wrap ((m:Int)+1)=((m+1:Nat):Int):=by rw[IntKind.wrap_i64];omega
 have hM:=fun W=>make_any (m+1) W (by omega) (by omega)
 have HM:=κ hM;clear hM;go_enter Tryz.func27,Tryz.ntmps27;go_wp2_with (go_at_call 42;refine(HM.out _).mono ?_;rintro e w1 ⟨z,c,rfl,hc1,hc2,row,hz,f⟩;have HROW:=κ row;have HF:=κ f;have hlt:=HX.out.lt;have hlt':=HY.out.lt;have hc3:n<=c:=by omega);clear row f;go_region_with (go_at_call 43;refine(addVVo_any z 0 _ bx 0 _ by_ 0 _ n _ (xs.take n) ys _ HROW.out.drew (by simp;omega) (by rw[List.length_take,HN.out];omega) (((HX.out.fr HF.out (by simp)).drew.src (Nat.zero_le _)).take n) (HD.out.take n) (.inl (by omega)) HN'.out ((HY.out.fr HF.out (by simp)).drew.src (Nat.zero_le _)) HD'.out (.inl (by omega)) (by omega)).mono ?_;rintro e w2 ⟨zs,k,rfl,row2,f2,hzl,hzd,hk0,hk1,hv⟩;have HZL:=κ hzl;have HV:=κ hv;have HR2:=κ row2;have HF2:=κ f2;clear hzl hv row2 f2);clear HROW HM;have hnz:bx≠z:=by omega
 by_cases hmn:n<m
 ·have hmn':(n:Int)<(m:Int):=by omega
  have hLl:n+(m-n)<=(spl (List.replicate c (0:Int)) 0 zs).length:=by rw[spl_len (by simp[HZL.out];omega)];simp;omega
  have HXS:=κ (show(xs.drop n).length=m-n by rw[List.length_drop,HN.out]);have HX2:=κ (show Row .u64 51 w2.drew bx xs from(((HX.out.fr HF.out (by simp)).drew).fr HF2.out (by simpa using hnz)).drew);have CW:=κ (addVW_any z n (c-n) bx n (cx-n) (m-n) _ (xs.drop n) k w2.drew HR2.out.drew hLl HXS.out ((HX2.out.src (Nat.zero_le _)).drop n|>fun h=>by rwa[Nat.zero_add]at h) (HD.out.drop n) xs HX2.out hnz (by omega) (by omega) (by omega) (by omega) (by unfold maxLen;omega) (by unfold maxLen;omega) hk0 (by omega));clear hLl;go_wp2_with fail;go_region_with (go_at_call 44;refine(Hid.out CW).mono ?_;rintro e w3 ⟨zs2,k2,rfl,row3,f3,hzl2,hzd2,hk20,hk21,hv2⟩;have HZL2:=κ hzl2;have HV2:=κ hv2;have HR3:=κ row3;have HF3:=κ f3;clear hzl2 hv2 row3 f3)
  have row4:Row .u64 51 w3 z (spl (List.replicate c 0) 0 (zs++zs2)):=by
   have h:=HR3.out;rw[show n=0+zs.length by rw[HZL.out,Nat.zero_add],spl_app (by rw[HZL.out];simp;omega)]at h;exact h
  have hl4:(zs++zs2).length=m:=by rw[List.length_append,HZL.out,HZL2.out];omega
  have hfz:=row4.frozen m;have cz:=row4.cell (i:=m) (by rw[spl_len (by rw[hl4];simp;omega)];simp;omega);obtain⟨old,hold⟩: ∃old,old=(spl (List.replicate c (0:Int)) 0 (zs++zs2)).getD m 0:=⟨_,rfl⟩;rw[<-hold]at cz;have HR4:=κ row4;have HL4:=κ hl4
  have hv4:val 18446744073709551616 (zs++zs2++[k2])=val 18446744073709551616 xs+val 18446744073709551616 ys:=by
   have e:=val_split 18446744073709551616 xs n (by rw[HN.out];omega);have h1:=HV.out;have h2:=HV2.out;have e2:(18446744073709551616:Int)^m=18446744073709551616^n*18446744073709551616^(m-n):=by rw[<-Int.pow_add];congr 1;omega
   rw[val_snoc,hl4,val_append,HZL.out,e,e2];grind
  have HV4:=κ hv4;have HFF:Hid (Fr [] w w3):=κ (fr_new'' HF.out (fr_same ((Fr.refl _ _).drew.trans HF2.out (fun _ h _=>h)) ((Fr.refl [z] w2).drew.trans HF3.out (fun _ h _=>h))) hz);clear hold row4 hl4 hv4 CW HR3 HF3 HR2;go_wp2_with (go_at_call 34;have row5:=HR4.out.set m k2;have hsp:=spl_set_end (L:=List.replicate c (0:Int)) (o:=0) (cs:=zs++zs2) (by rw[HL4.out];simp;omega) k2;rw[Nat.zero_add,HL4.out]at hsp;rw[hsp]at row5;refine(bnorm_sl _ (zs++zs2++[k2]) _ ((src_spl row5 (by rw[List.length_append,HL4.out];simp;omega)).sl (by rw[List.length_append,HL4.out];rfl) hc1 (by unfold maxLen;omega)) ((hzd.append hzd2).append (DG.cons hk20 (by omega) (DG.nil _)))).mono ?_;rintro e w5 ⟨⟨v5,rfl,sw5⟩,rfl⟩;rw[HV4.out]at sw5);go_ret;exact⟨_,rfl,sw5,HFF.out.set (.inr hz) _⟩
 ·obtain rfl:n=m:=by omega
  have hxt:xs.take n=xs:=List.take_of_length_le (by rw[HN.out];omega);have hv:=HV.out;rw[hxt]at hv;have HV:=κ hv;have row4:=HR2.out;have hfz:=row4.frozen n;have cz:=row4.cell (i:=n) (by rw[spl_len (by rw[HZL.out];simp;omega)];simp;omega);obtain⟨old,hold⟩: ∃old,old=(spl (List.replicate c (0:Int)) 0 zs).getD n 0:=⟨_,rfl⟩;rw[<-hold]at cz;have HFF:Hid (Fr [] w w2):=κ (fr_new'' HF.out ((Fr.refl _ _).drew.trans HF2.out (fun _ h _=>h)) hz);clear hold row4 hv hxt;go_wp2_with (go_at_call 34;have row5:=HR2.out.set n k;have hsp:=spl_set_end (L:=List.replicate c (0:Int)) (o:=0) (cs:=zs) (by rw[HZL.out];simp;omega) k;rw[Nat.zero_add,HZL.out]at hsp;rw[hsp]at row5;refine(bnorm_sl _ (zs++[k]) _ ((src_spl row5 (by rw[List.length_append,HZL.out];simp;omega)).sl (by rw[List.length_append,HZL.out];rfl) hc1 (by unfold maxLen;omega)) (hzd.append (DG.cons hk0 (by omega) (DG.nil _)))).mono ?_;rintro e w5 ⟨⟨v5,rfl,sw5⟩,rfl⟩;rw[val_snoc,HZL.out,HV.out]at sw5);go_ret;exact⟨_,rfl,sw5,HFF.out.set (.inr hz) _⟩
theorem SW.row{T:TypeId}{w:World}{b c:Nat}{xs:List Int}(h:Row .u64 T w b xs)(hd:DG 18446744073709551616 xs)(hz:NZ xs)(hc:xs.length<=c)(hm:c<=maxLen):SW w (.slice (some ⟨b,0,none⟩) xs.length c) (val 18446744073709551616 xs):=by
 refine⟨xs,⟨_,c,rfl,hc,hm,fun _=>⟨b,0,rfl,h.lt,?_⟩⟩,hd,hz,rfl⟩;intro j hj;rw[Nat.zero_add];exact h.cell hj
theorem nadd_le(bx cx by_ cy:Nat)(xs ys:List Int)(w:World)(hx:Row .u64 51 w bx xs)(hd:DG 18446744073709551616 xs)(hzx:NZ xs)(hy:Row .u64 51 w by_ ys)(hd':DG 18446744073709551616 ys)(hzy:NZ ys)(hl:xs.length<=1000000)(hnm:ys.length<=xs.length)(hcx:xs.length<=cx)(hcy:ys.length<=cy)(hcx9:cx<=9223372036854775807)(hcy9:cy<=9223372036854775807)(hB:val 18446744073709551616 xs<BIG):
 Calls Tryz.prog 27 #[.slice none 0 0,.slice (some ⟨bx,0,none⟩) xs.length cx,.slice (some ⟨by_,0,none⟩) ys.length cy] w (RetW (val 18446744073709551616 xs+val 18446744073709551616 ys) w):=by
 by_cases h0:0<ys.length
 ·exact nadd_ge bx cx by_ cy xs.length ys.length xs ys w hx hd rfl hy hd' rfl hl hnm h0 hcx hcy hcx9 hcy9
 ·have hys:ys=[]:=List.eq_nil_of_length_eq_zero (by omega)
  subst hys;rw[val_nil,Int.add_zero];have SWX:=κ (SW.row hx hd hzx hcx (by unfold maxLen;omega));have HB:=κ hB;by_cases h1:xs.length=0
  ·have hxs:xs=[]:=List.eq_nil_of_length_eq_zero h1
   subst hxs;simp only[List.length_nil]at*;rw[val_nil];clear hx hd hzx hy hd' hzy hB h0 h1;go_enter Tryz.func27,Tryz.ntmps27;go_wp2_with fail;go_ret;exact⟨_,rfl,SW.zero _,Fr.refl _ _⟩
  ·have hm0:((xs.length:Int)==0)=false:=by rw[beq_eq_false_iff_ne];omega
   simp only[List.length_nil]at*;clear hx hd hzx hy hd' hzy hB h0 h1;go_enter Tryz.func27,Tryz.ntmps27;go_wp2_with (go_at_call 41;refine(set_any _ _ _ SWX.out HB.out).mono ?_;rintro e w1 ⟨v1,rfl,sw1,f1⟩);go_ret;exact⟨_,rfl,sw1,f1⟩
theorem nadd_any(bx cx by_ cy:Nat)(xs ys:List Int)(w:World)(hx:Row .u64 51 w bx xs)(hd:DG 18446744073709551616 xs)(hzx:NZ xs)(hy:Row .u64 51 w by_ ys)(hd':DG 18446744073709551616 ys)(hzy:NZ ys)(hl:xs.length<=1000000)(hl':ys.length<=1000000)(hcx:xs.length<=cx)(hcy:ys.length<=cy)(hcx9:cx<=9223372036854775807)(hcy9:cy<=9223372036854775807)(hB:val 18446744073709551616 xs<BIG)(hB':val 18446744073709551616 ys<BIG):
 Calls Tryz.prog 27 #[.slice none 0 0,.slice (some ⟨bx,0,none⟩) xs.length cx,.slice (some ⟨by_,0,none⟩) ys.length cy] w (RetW (val 18446744073709551616 xs+val 18446744073709551616 ys) w):=by
 by_cases h:ys.length<=xs.length
 ·exact nadd_le bx cx by_ cy xs ys w hx hd hzx hy hd' hzy hl h hcx hcy hcx9 hcy9 hB
 ·have C:=nadd_le by_ cy bx cx ys xs w hy hd' hzy hx hd hzx hl' (by omega) hcy hcx hcy9 hcx9 hB'
  rw[Int.add_comm]at C;have C:=κ C;clear hx hd hzx hy hd' hzy hB hB';go_enter Tryz.func27,Tryz.ntmps27;go_wp2_with (go_at_call 27;refine(Hid.out C).mono ?_;rintro e w1 ⟨v1,rfl,sw1,f1⟩);go_ret;exact⟨_,rfl,sw1,f1⟩
theorem sum_BIG{xs ys:List Int}(hd:DG 18446744073709551616 xs)(hd':DG 18446744073709551616 ys)(hl:xs.length<=100000)(hl':ys.length<=100000):val 18446744073709551616 xs+val 18446744073709551616 ys<BIG:=by
 have h1:=val_lt_of_len (by omega) hd hl;have h2:=val_lt_of_len (by omega) hd' hl'
 have h3:(18446744073709551616:Int)^100000+18446744073709551616^100000<=18446744073709551616^100001:=by
  rw[Int.pow_succ];have:=pow_pos_ (B:=18446744073709551616) (by omega) 100000;omega
 exact lt_BIG64 100001 (by omega) (by omega)
theorem implAdd_any(v u:Value)(xs ys:List Int)(w:World)(hx:Sl .u64 w v xs)(hd:DG 18446744073709551616 xs)(hl:xs.length<=100000)(hy:Sl .u64 w u ys)(hd':DG 18446744073709551616 ys)(hl':ys.length<=100000):
 Calls Tryz.prog 8 #[v,u] w (RetW (val 18446744073709551616 xs+val 18446744073709551616 ys) w):=by
 have HX:=κ hx;have HD:=κ hd;have HY:=κ hy;have HD':=κ hd';have HB:=κ (sum_BIG hd hd' hl hl');have HXB:=κ (words_BIG hd (show xs.length<=1000000 by omega));have HYB:=κ (words_BIG hd' (show ys.length<=1000000 by omega));obtain⟨X,hX⟩: ∃X,val 18446744073709551616 xs=X:=⟨_,rfl⟩;obtain⟨Y,hY⟩: ∃Y,val 18446744073709551616 ys=Y:=⟨_,rfl⟩;have HV:=κ hX;have HV':=κ hY;rw[hX,hY]at HB;rw[hX]at HXB ⊢
 rw[hY]at HYB ⊢
 have T1:True:=trivial;have T2:True:=trivial;clear hx hd hX hy hd' hY;go_enter Tryz.func8,Tryz.ntmps8
 go_wp2_with (first
  |(go_at_call 19;clear T1;refine(normed_any _ xs _ HX.out HD.out (by omega)).mono ?_;rintro e w1 ⟨v1,xs1,rfl,sl1,dx,nzx,hvx,hlx,f1⟩;have HVX:=κ hvx;clear hvx)
  |(go_at_call 19;refine(normed_any _ ys _ (HY.out.fr0 f1) HD'.out (by omega)).mono ?_;rintro e w2 ⟨v2,ys1,rfl,sl2,dy,nzy,hvy,hly,f2⟩;have HVY:=κ hvy;clear hvy)
  |(go_at_call 28;clear T2;refine(zzIn_any _ xs1 _ (sl1.fr0 f2) (by omega)).mono ?_;rintro e w3 ⟨b3,rfl,row3,hb3,f3⟩)
  |(go_at_call 28;refine(zzIn_any _ ys1 _ (sl2.fr0 f3) (by omega)).mono ?_;rintro e w4 ⟨b4,rfl,row4,hb4,f4⟩)
  |(go_at_call 27;refine(nadd_any b3 _ b4 _ xs1 ys1 _ (row3.fr f4 (by simp)) dx nzx row4 dy nzy (by omega) (by omega) (by omega) (by omega) (by omega) (by omega) (by rw[HVX.out,HV.out];exact HXB.out) (by rw[HVY.out,HV'.out];exact HYB.out)).mono ?_;rw[HVX.out,HV.out,HVY.out,HV'.out];rintro e w5 ⟨v5,rfl,sw5,f5⟩)
  |(go_at_call 26;refine(zzOutW_any _ _ _ sw5 HB.out).mono ?_;rintro e w6 ⟨v6,rfl,sw6,f6⟩)
  |(go_at_call 18;go_in));go_ret;exact⟨_,rfl,sw6,((((f1.t f2).t f3).t f4).t f5).t f6⟩
end Go.Proofs.YthecibbmbnpegaaGreatDoor
end
section
namespace Go.Proofs.YthecibbmbnpegaaGreatDoor
open Go.Big Go.RowKit
theorem subVVo_any(bz oz cz bx ox cx by_ oy cy n:Nat)(L xs ys:List Int)(w:World)(hz:Row .u64 51 w bz L)(hfit:oz+n<=L.length)(hnx:xs.length=n)(hsx:Src .u64 w bx ox xs)(hdx:DG 18446744073709551616 xs)(halx:NoTouch bz oz bx ox n)
 (hny:ys.length=n)(hsy:Src .u64 w by_ oy ys)(hdy:DG 18446744073709551616 ys)(haly:NoTouch bz oz by_ oy n)(hn9:n<=1000000000):
 Calls Tryz.prog 71 #[.slice (some ⟨bz,oz,none⟩) n cz,.slice (some ⟨bx,ox,none⟩) n cx,.slice (some ⟨by_,oy,none⟩) n cy] w (VecPost 51 w bz oz n L (fun zs c=>0<=c/\c<=1/\val 18446744073709551616 zs+val 18446744073709551616 ys=val 18446744073709551616 xs+18446744073709551616^n*c)):=by
 have C:=κ (subVV_any bz oz cz bx ox cx by_ oy cy n L xs ys w hz hfit hnx hsx hdx halx hny hsy hdy haly hn9);clear hz hfit hnx hsx hdx halx hny hsy hdy haly;go_enter Tryz.func71,Tryz.ntmps71;go_wp2_with (go_at_call 105;refine(Hid.out C).mono ?_;rintro e w1 ⟨zs,c,rfl,H⟩;have HH:=κ H;clear H C);go_ret;exact⟨zs,c,rfl,HH.out⟩
theorem no_borrow{zs:List Int}{X Y B k:Int}{m:Nat}(hd:DG B zs)(hB:0<B)(hl:zs.length=m)(hk0:0<=k)(h:val B zs+Y=X+B^m*k)(hXY:Y<=X):k=0:=by
 have h1:=val_lt hB hd;rw[hl]at h1;have hp:=pow_pos_ hB m;rcases(show k=0\/1<=k by omega)with h2|h2
 ·exact h2
 ·have:=Int.mul_le_mul_of_nonneg_left h2 (Int.le_of_lt hp)
  omega
end Go.Proofs.YthecibbmbnpegaaGreatDoor
end
