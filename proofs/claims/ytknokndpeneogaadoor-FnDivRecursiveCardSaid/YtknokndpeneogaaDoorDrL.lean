/-
  The thin package's DivRecursive, and the walk of the law FnDivRecursive. Conditions: the words can be read.
-/
import Derived.Test.YtknokndpeneogaaDoorDrR
import Derived.Test.YtknokndpeneogaaDoorBMulL
import Derived.Test.YtknokndpeneogaaDoorTruncL
import Derived.Test.YtknokndpeneogaaDoorBSqrL
set_option linter.unusedSimpArgs false
set_option linter.unusedVariables false
namespace Go.Big
open Go.RowKit
theorem Wr.sl {T : TypeId} {w : World} {b o c : Nat} {xs : List Int} (h : Wr T w b o xs) (hl : xs.length ≤ c) (hc : c ≤ maxLen) : Sl .u64 w (.slice (some ⟨b, o, none⟩) xs.length c) xs :=
  ⟨_, c, rfl, hl, hc, fun _ => ⟨b, o, rfl, h.lt, h.1⟩⟩
theorem Fc.fr_new {T : TypeId} {S : Nat → Nat → Prop} {w w1 w2 : World} (h : Fc T S w1 w2) (hf : Fr [] w w1) (hS : ∀ b i, S b i → w.heap.size ≤ b) : Fr [] w w2 :=
  ⟨h.os.trans hf.os, h.tape.trans hf.tape, h.output.trans hf.output, Nat.le_trans hf.size h.size, fun b hb hn => (h.block b (Nat.lt_of_lt_of_le hb hf.size) (fun i hi => by have := hS b i hi; omega)).trans (hf.block b hb hn)⟩
end Go.Big
namespace Go.Proofs.YtknokndpeneogaaDoor
open Go.Big Go.RowKit
/-- quotient and rest by a road -/
def RetRoad (U V : List Int) (m : Nat) (w : World) (v1 v2 : Value) (w' : World) : Prop :=
  ∃ (A : Option Addr) (c : Nat) (zs rs : List Int), v1 = .slice A m c ∧ Sl .u64 w' (.slice A m c) zs ∧ zs.length = m ∧ DG 18446744073709551616 zs ∧ val 18446744073709551616 zs = val 18446744073709551616 U / val 18446744073709551616 V ∧ Sl .u64 w' v2 rs ∧ rs.length = U.length ∧ DG 18446744073709551616 rs ∧ val 18446744073709551616 rs = val 18446744073709551616 U % val 18446744073709551616 V ∧ Fr [] w w'
def ZdCut (s m lu : Nat) (U : List Int) (w0 w1 : World) (s7 s8 : Value) (wx : World) : Prop :=
  ∃ z b, s7 = .slice (some ⟨z, 0, none⟩) m m ∧ s8 = .slice (some ⟨b, 0, none⟩) lu lu ∧ Row .u64 77 wx z (List.replicate m 0) ∧ Row .u64 77 wx b U ∧ z ≠ b ∧ w0.heap.size ≤ z ∧ w0.heap.size ≤ b ∧ Fr [] w1 wx
/-- the conditions of the roads -/
structure KnU (n m : Nat) (U : List Int) : Prop where
  len : U.length = m + n
  dg : DG 18446744073709551616 U
  top : U.getD (m + n - 1) 0 = 0
theorem KnU.lt {n m : Nat} {U V : List Int} (h : KnU n m U) (hV : KnV n V) : val 18446744073709551616 U < val 18446744073709551616 V * 18446744073709551616 ^ m := by
  have h2 := hV.two
  have e := val_take_succ' 18446744073709551616 U (m + n - 1)
  rw [show m + n - 1 + 1 = m + n by omega, List.take_of_length_le (by rw [h.len]; exact Nat.le_refl _), h.top, Int.mul_zero, Int.add_zero] at e
  have h3 := val_lt_of_len (B := 18446744073709551616) (by omega) (h.dg.take (m + n - 1)) (k := m + n - 1) (by rw [List.length_take]; omega)
  have h4 := hV.lo
  have hp := pow_pos_ (B := 18446744073709551616) (by omega) m
  have h5 : 9223372036854775808 * 18446744073709551616 ^ (n - 1) * 18446744073709551616 ^ m ≤ val 18446744073709551616 V * 18446744073709551616 ^ m := Int.mul_le_mul_of_nonneg_right h4 (by omega)
  have e2 : (18446744073709551616 : Int) ^ (m + n - 1) = 18446744073709551616 ^ (n - 1) * 18446744073709551616 ^ m := by rw [← Int.pow_add]; congr 1; omega
  rw [Int.mul_assoc, ← e2] at h5
  have hp2 := pow_pos_ (B := 18446744073709551616) (by omega) (m + n - 1)
  rw [e]
  omega
theorem KnU.fit {n m : Nat} {U V : List Int} (h : KnU n m U) (hV : KnV n V) : val 18446744073709551616 U < 9223372036854775808 * 18446744073709551616 ^ (n + m - 1) := by
  have h2 := hV.two
  have e := val_take_succ' 18446744073709551616 U (m + n - 1)
  rw [show m + n - 1 + 1 = m + n by omega, List.take_of_length_le (by rw [h.len]; exact Nat.le_refl _), h.top, Int.mul_zero, Int.add_zero] at e
  have h3 := val_lt_of_len (B := 18446744073709551616) (by omega) (h.dg.take (m + n - 1)) (k := m + n - 1) (by rw [List.length_take]; omega)
  have hp2 := pow_pos_ (B := 18446744073709551616) (by omega) (m + n - 1)
  rw [e, show n + m - 1 = m + n - 1 by omega]
  omega
set_option maxRecDepth 100000 in
set_option maxHeartbeats 4000000 in
theorem zzDivRec_any (v u : Value) (U V : List Int) (n m : Nat) (w : World) (hu : Sl .u64 w u U) (hv : Sl .u64 w v V) (hU : KnU n m U) (hV : KnV n V) (hl : m + n ≤ 900) (hT : Glo w 2 40 ∧ Glo w 3 40) :
    Calls Tryd.prog 62 #[u, v] w fun e w' => ∃ v1 v2, e = .returned (.tuple #[v1, v2]) ∧ RetRoad U V m w v1 v2 w' := by
  have HU := Lib.hid hu
  have HV := Lib.hid hv
  obtain ⟨A, cu, rfl, hcu, hcu9, _⟩ := hu
  obtain ⟨B, cv, rfl, hcv, hcv9, _⟩ := hv
  unfold maxLen at hcu9 hcv9
  obtain ⟨lu, hlu⟩ : ∃ lu, lu = U.length := ⟨_, rfl⟩
  have hlu2 : lu = m + n := by rw [hlu, hU.len]
  rw [← hlu] at HU hcu ⊢
  rw [hV.len] at HV hcv ⊢
  have hmi : (lu : Int) - (n : Int) = (m : Int) := by omega
  have CU := Lib.hid (fun W (h : Sl .u64 W (.slice A lu cu) U) => zzIn_any _ U W h (by omega))
  rw [← hlu] at CU
  have CV := Lib.hid (fun W (h : Sl .u64 W (.slice B n cv) V) => zzIn_any _ V W h (by rw [hV.len]; omega))
  rw [hV.len] at CV
  have hmk := fun W => mk_big m (by omega) W
  have hwm : IntKind.i64.wrap (m : Int) = (m : Int) := by rw [IntKind.wrap_i64]; omega
  have HMK := Lib.hid hmk
  have HUK := Lib.hid hU
  have HVK := Lib.hid hV
  have HLU := Lib.hid hlu
  have HLU2 := Lib.hid hlu2
  have HT := Lib.hid hT
  have hn2 := hV.two
  clear hU hV hlu hlu2 hmk hT
  go_enter Tryd.func62, Tryd.ntmps62
  go_upto_region 2 with (go_at_call 73; refine (getStackQ_any _).mono ?_; rintro e w1 ⟨s, rfl, hst, f1, hs⟩; have HST := Lib.hid hst; have HS := Lib.hid hs; clear hst hs)
  go_cut [7, 8] from 9 (fun s7 s8 wx => ZdCut s m lu U w1 w1 s7 s8 wx)
  case first =>
    have hmk := HMK.out
    go_region_with (go_at_call 68; refine (CU.out _ (by first | exact (HU.out.fr0 f1).fr0 ((Fr.refl _ _).drew) | exact ((HU.out.fr0 f1).fr0 ((Fr.refl _ _).drew)).fr0 ((Fr.refl _ _).alloc _))).mono ?_; rintro e w2 ⟨b2, rfl, row2, hb2, f2⟩; have HR2 := Lib.hid row2; have HB2 := Lib.hid hb2; clear row2 hb2)
    all_goals clear hmk
    all_goals (go_wp2_with fail)
    all_goals go_meet
    all_goals first
      | exact ⟨w1.heap.size, b2, rfl, rfl, (Row.zeros w1.drew .u64 _ m).fr f2 (by simp), HR2.out, by have := HB2.out; simp at this; omega, Nat.le_refl _, by have := HB2.out; simp at this; omega, (((Fr.refl _ _).drew).alloc _).t f2⟩
      | exact ⟨w2.heap.size, b2, rfl, rfl, Row.zeros _ _ _ _, HR2.out.alloc _, by have := HR2.out.lt; omega, by have := f2.size; simp at this; omega, HB2.out, (((Fr.refl _ _).drew).t f2).alloc _⟩
  case rest =>
    obtain ⟨z, b, rfl, rfl, rz, rb, hzb, hz, hb, f2⟩ := hcut
    obtain ⟨w2, hw2⟩ : ∃ w2, w2 = wc := ⟨_, rfl⟩
    subst hw2
    have HRZ := Lib.hid rz
    have HRB := Lib.hid rb
    have HZ := Lib.hid hz
    have HB := Lib.hid hb
    have hsz := f1.size
    clear rz rb hz hb
    go_wp2_with (first
      | (go_at_call 68; refine (CV.out _ ((HV.out.fr0 f1).fr0 f2)).mono ?_; rintro e w3 ⟨b3, rfl, row3, hb3, f3⟩; have HR3 := Lib.hid row3; clear row3)
      | (go_at_call 84; have hlt1 := HRZ.out.lt; have hlt2 := HRB.out.lt; have hlts := heap_lt HST.out; have hsz2 := f2.size; have hst3 := (HST.out.fr0 f2).fr0 f3; have hvl := HVK.out.len; have hul := HUK.out.len; have hlu2 := HLU2.out; refine (divRecursive_any (n := n) (q := none) (oz := 0) (ou := 0) (ov := 0) (U := U) (V := V) ⟨hst3, by simp only [lenS]; omega, ((HT.out.1.fr0 f1).fr0 f2).fr0 f3, ((HT.out.2.fr0 f1).fr0 f2).fr0 f3, ⟨_, Wr.row (HRZ.out.fr f3 (by simp)), by simp⟩, Wr.row (HRB.out.fr f3 (by simp)), by omega, HUK.out.dg, Nm.of_wr (Wr.row HR3.out) (Rcv.of_row HR3.out (by omega) (by unfold maxLen; omega)) (by omega), HVK.out, HUK.out.fit HVK.out, by omega, by omega, by omega, Nat.le_refl _, by omega, Nat.le_refl _, by omega, by omega, .inl (by omega), .inl hzb, .inl (by omega), fun i _ _ h => (hst3.row_ne (HRZ.out.fr f3 (by simp))) h, fun i _ _ h => (hst3.row_ne (HRB.out.fr f3 (by simp))) h, fun i _ _ h => (hst3.row_ne HR3.out) h⟩).mono ?_; rintro e w4 ⟨q', Q', U', rfl, _, _, _, hQ', hQl, hQd, hQv, hU', hUl, hUd, hUv, hfc⟩; have HF4 := Lib.hid (Fc.fr_new hfc ((f1.t f2).t f3) (fun b' i hh => by rcases hh with hh | hh | hh; exact hh ▸ HS.out; exact hh.1 ▸ (by have := HZ.out; omega); exact hh.1 ▸ (by have := HB.out; omega))); have HQ' := Lib.hid hQ'; have HU' := Lib.hid hU'; have HQL := Lib.hid hQl; have HUL := Lib.hid hUl; have HUD := Lib.hid hUd; have HUV := Lib.hid hUv; have HQD := Lib.hid hQd; have HQV := Lib.hid hQv; have T1 : True := trivial; clear hQ' hU' hQl hUl hUd hUv hQd hQv hfc hlt1 hlt2 hlts hsz2 hst3 hvl hul hlu2)
      | (go_at_call 75; clear T1; refine (zzOut_any _ Q' _ (by have := HQ'.out.sl (c := m) (by rw [HQL.out]; exact Nat.le_refl _) (by unfold maxLen; omega); rwa [HQL.out] at this) (by rw [HQL.out]; omega)).mono ?_; rintro e w5 ⟨v5, rfl, sl5, f5⟩)
      | (go_at_call 75; refine (zzOut_any _ U' _ (by have := (HU'.out.fr0 f5).sl (c := lu) (by rw [HUL.out]; exact Nat.le_refl _) (by unfold maxLen; omega); rwa [HUL.out] at this) (by rw [HUL.out]; omega)).mono ?_; rintro e w6 ⟨v6, rfl, sl6, f6⟩))
    go_ret2
    have hQd := HQD.out
    have hQv := HQV.out
    obtain ⟨A5, c5, rfl, h1, h2, h3⟩ := sl5.fr0 f6
    refine ⟨_, _, rfl, A5, c5, Q', U', by rw [HQL.out]; rfl, ⟨A5, c5, by rw [HQL.out], h1, h2, h3⟩, HQL.out, hQd, hQv, sl6, by rw [HUL.out, HLU2.out, HUK.out.len], HUD.out, HUV.out, (HF4.out.t f5).t f6⟩
/-- the test ahead of a road -/
theorem road_cells {n m : Nat} {U V : List Int} {w : World} {A B : Option Addr} {cu cv : Nat} (hu : Sl .u64 w (.slice A (m + n) cu) U) (hv : Sl .u64 w (.slice B n cv) V) (hU : KnU n m U) (hV : KnV n V) :
    ∃ bu ou bv ov t, A = some ⟨bu, ou, none⟩ ∧ B = some ⟨bv, ov, none⟩ ∧ w.cell? ⟨bv, ov + (n - 1), none⟩ = some (.int .u64 t) ∧ t / 9223372036854775808 = 1 ∧ w.cell? ⟨bu, ou + (m + n - 1), none⟩ = some (.int .u64 0) ∧ n ≤ cv ∧ cv ≤ maxLen ∧ m + n ≤ cu ∧ cu ≤ maxLen := by
  obtain ⟨A', cu', e1, h1, h2, h3⟩ := hu
  obtain ⟨B', cv', e2, g1, g2, g3⟩ := hv
  have h2n := hV.two
  injection e1 with e1 e1' e1''
  injection e2 with e2 e2' e2''
  subst e1 e1'' e2 e2''
  obtain ⟨bu, ou, rfl, _, su⟩ := h3 (by rw [hU.len]; omega)
  obtain ⟨bv, ov, rfl, _, sv⟩ := g3 (by rw [hV.len]; omega)
  have cu := su (m + n - 1) (by rw [hU.len]; omega)
  have cv := sv (n - 1) (by rw [hV.len]; omega)
  rw [hU.top] at cu
  have ht := hV.top
  have hb := hV.bd
  exact ⟨bu, ou, bv, ov, _, rfl, rfl, cv, by omega, cu, by rw [← hV.len]; exact g1, g2, by rw [← hU.len]; exact h1, h2⟩
set_option maxRecDepth 100000 in
theorem divides_yes (A B : Option Addr) (cu cv n m : Nat) (U V : List Int) (w : World) (hu : Sl .u64 w (.slice A (m + n) cu) U) (hv : Sl .u64 w (.slice B n cv) V) (hU : KnU n m U) (hV : KnV n V) (hl : m + n ≤ 100000) :
    Calls Tryd.prog 61 #[.slice A (m + n) cu, .slice B n cv] w fun e w' => e = .returned (.bool true) ∧ w = w' := by
  obtain ⟨bu, ou, bv, ov, t, rfl, rfl, ct, ht, cz, k1, k2, k3, k4⟩ := road_cells hu hv hU hV
  have h2n := hV.two
  obtain ⟨lu, hlu⟩ : ∃ lu, lu = m + n := ⟨_, rfl⟩
  obtain ⟨lu1, hlu1⟩ : ∃ lu1, lu1 = m + n - 1 := ⟨_, rfl⟩
  obtain ⟨n1, hn1⟩ : ∃ n1, n1 = n - 1 := ⟨_, rfl⟩
  rw [← hn1] at ct
  rw [← hlu1] at cz
  rw [← hlu] at k3 ⊢
  have a1 : (n : Int) - 1 = (n1 : Int) := by omega
  have a2 : (lu : Int) - 1 = (lu1 : Int) := by omega
  have b1 : (n1 : Int) < (n : Int) := by omega
  have b2 : (lu1 : Int) < (lu : Int) := by omega
  have b3 : (n : Int) ≤ (lu : Int) := by omega
  have b4 : (2 : Int) ≤ (n : Int) := by omega
  unfold maxLen at k2 k4
  clear hu hv hU hV hlu hlu1 hn1
  go_enter Tryd.func61, Tryd.ntmps61
  go_wp2_with fail
  go_ret
  exact ⟨rfl, rfl⟩
set_option maxRecDepth 100000 in
set_option maxHeartbeats 2000000 in
theorem implDivRec_any (A B : Option Addr) (cu cv n m : Nat) (U V : List Int) (w : World) (hu : Sl .u64 w (.slice A (m + n) cu) U) (hv : Sl .u64 w (.slice B n cv) V) (hU : KnU n m U) (hV : KnV n V) (hl : m + n ≤ 900) (hT : Glo w 2 40 ∧ Glo w 3 40) :
    Calls Tryd.prog 38 #[.slice A (m + n) cu, .slice B n cv] w fun e w' => ∃ v1 v2, e = .returned (.tuple #[v1, v2, .bool true]) ∧ RetRoad U V m w v1 v2 w' := by
  have CD := Lib.hid (divides_yes A B cu cv n m U V w hu hv hU hV (by omega))
  have HU := Lib.hid hu
  have HV := Lib.hid hv
  have CZ := Lib.hid (fun v u W (f : Fr [] w W) (h : Sl .u64 W u U) (h' : Sl .u64 W v V) => zzDivRec_any v u U V n m W h h' hU hV hl ⟨hT.1.fr0 f, hT.2.fr0 f⟩)
  have CU := Lib.hid (fun W (h : Sl .u64 W (.slice A (m + n) cu) U) => clone_any _ U W h (by rw [hU.len]; omega))
  have CV := Lib.hid (fun W (h : Sl .u64 W (.slice B n cv) V) => clone_any _ V W h (by rw [hV.len]; omega))
  have T1 : True := trivial
  obtain ⟨lu, hlu⟩ : ∃ lu, lu = m + n := ⟨_, rfl⟩
  rw [← hlu] at CD HU CU ⊢
  clear hu hv hU hV hlu hT
  go_enter Tryd.func38, Tryd.ntmps38
  go_wp2_with (first
    | (go_at_call 61; refine (Hid.out CD).mono ?_; rintro e w1 ⟨rfl, rfl⟩)
    | (go_at_call 52; clear T1; refine (CU.out _ HU.out).mono ?_; rintro e w2 ⟨v2, rfl, sl2, f2⟩)
    | (go_at_call 52; refine (CV.out _ (HV.out.fr0 f2)).mono ?_; rintro e w3 ⟨v3, rfl, sl3, f3⟩)
    | (go_at_call 62; refine (CZ.out _ _ _ (f2.t f3) (sl2.fr0 f3) sl3).mono ?_; rintro e w4 ⟨q1, q2, rfl, hr⟩; have HR := Lib.hid hr; clear hr))
  refine bodyPost_ret (v := .tuple #[q1, q2, .bool true]) (by simp [results, Tryd.results38, go_sem]) rfl ⟨q1, q2, rfl, ?_⟩
  obtain ⟨A', c, zs, rs, k1, k2, k3, k4, k5, k6, k7, k8, k9, k10⟩ := HR.out
  exact ⟨A', c, zs, rs, k1, k2, k3, k4, k5, k6, k7, k8, k9, (f2.t f3).t k10⟩
def RoadOk (U V : List Int) : Prop := ∃ n m, KnU n m U ∧ KnV n V
set_option maxRecDepth 100000 in
theorem road_yes (A B : Option Addr) (cu cv n m : Nat) (U V : List Int) (w : World) (hu : Sl .u64 w (.slice A (m + n) cu) U) (hv : Sl .u64 w (.slice B n cv) V) (hU : KnU n m U) (hV : KnV n V) (hl : m + n ≤ 100000) :
    Calls Tryd.prog 37 #[.slice A (m + n) cu, .slice B n cv] w fun e w' => e = .returned (.bool true) ∧ w = w' := by
  obtain ⟨bu, ou, bv, ov, t, rfl, rfl, ct, ht, cz, k1, k2, k3, k4⟩ := road_cells hu hv hU hV
  have h2n := hV.two
  obtain ⟨lu, hlu⟩ : ∃ lu, lu = m + n := ⟨_, rfl⟩
  obtain ⟨lu1, hlu1⟩ : ∃ lu1, lu1 = m + n - 1 := ⟨_, rfl⟩
  obtain ⟨n1, hn1⟩ : ∃ n1, n1 = n - 1 := ⟨_, rfl⟩
  rw [← hn1] at ct
  rw [← hlu1] at cz
  rw [← hlu] at k3 ⊢
  have a1 : (n : Int) - 1 = (n1 : Int) := by omega
  have a2 : (lu : Int) - 1 = (lu1 : Int) := by omega
  have b1 : (n1 : Int) < (n : Int) := by omega
  have b2 : (lu1 : Int) < (lu : Int) := by omega
  have b3 : (n : Int) ≤ (lu : Int) := by omega
  have b4 : (2 : Int) ≤ (n : Int) := by omega
  unfold maxLen at k2 k4
  clear hu hv hU hV hlu hlu1 hn1
  go_enter Tryd.func37, Tryd.ntmps37
  go_wp2_with fail
  go_ret
  exact ⟨rfl, rfl⟩
set_option maxRecDepth 100000 in
theorem road_no (A B : Option Addr) (p q cu cv : Nat) (U V : List Int) (w : World) (hu : Sl .u64 w (.slice A p cu) U) (hv : Sl .u64 w (.slice B q cv) V) (hp : p = U.length) (hq : q = V.length) (hd : DG 18446744073709551616 U) (hd' : DG 18446744073709551616 V) (hpl : p ≤ 100000) (hql : q ≤ 100000) (hno : ¬ RoadOk U V) :
    Calls Tryd.prog 37 #[.slice A p cu, .slice B q cv] w fun e w' => e = .returned (.bool false) ∧ w = w' := by
  obtain ⟨A', cu', e1, h1, h2, h3⟩ := hu
  obtain ⟨B', cv', e2, g1, g2, g3⟩ := hv
  injection e1 with e1 e1' e1''
  injection e2 with e2 e2' e2''
  subst e1 e1'' e2 e2''
  rw [← hp] at h1 h3
  rw [← hq] at g1 g3
  unfold maxLen at h2 g2
  by_cases c1 : 2 ≤ q
  case neg =>
    have hq2 : ¬ (2 : Int) ≤ (q : Int) := by omega
    clear h3 g3 hp hq hd hd' hno e1' e2'
    go_enter Tryd.func37, Tryd.ntmps37
    go_wp2_with fail
    go_ret
    exact ⟨rfl, rfl⟩
  have hq2 : (2 : Int) ≤ (q : Int) := by omega
  obtain ⟨bv, ov, rfl, _, sv⟩ := g3 (by omega)
  obtain ⟨n1, hn1⟩ : ∃ n1, n1 = q - 1 := ⟨_, rfl⟩
  have a1 : (q : Int) - 1 = (n1 : Int) := by omega
  have b1 : (n1 : Int) < (q : Int) := by omega
  have ct := sv n1 (by omega)
  obtain ⟨t, ht⟩ : ∃ t, t = V.getD n1 0 := ⟨_, rfl⟩
  have htb := hd'.getD (by omega) n1
  rw [← ht] at ct htb
  obtain ⟨ht0, ht1⟩ := htb
  by_cases c2 : 9223372036854775808 ≤ t
  case neg =>
    have hs : t / 9223372036854775808 = 0 := by omega
    clear h3 g3 hp hq hd hd' hno e1' e2' sv ht hn1
    go_enter Tryd.func37, Tryd.ntmps37
    go_wp2_with fail
    go_ret
    exact ⟨rfl, rfl⟩
  have hs : t / 9223372036854775808 = 1 := by omega
  by_cases c3 : q ≤ p
  case neg =>
    have hpq : ¬ (q : Int) ≤ (p : Int) := by omega
    clear h3 g3 hp hq hd hd' hno e1' e2' sv ht hn1
    go_enter Tryd.func37, Tryd.ntmps37
    go_wp2_with fail
    go_ret
    exact ⟨rfl, rfl⟩
  have hpq : (q : Int) ≤ (p : Int) := by omega
  obtain ⟨bu, ou, rfl, _, su⟩ := h3 (by omega)
  obtain ⟨p1, hp1⟩ : ∃ p1, p1 = p - 1 := ⟨_, rfl⟩
  have a2 : (p : Int) - 1 = (p1 : Int) := by omega
  have b2 : (p1 : Int) < (p : Int) := by omega
  have cz := su p1 (by omega)
  obtain ⟨z, hz⟩ : ∃ z, z = U.getD p1 0 := ⟨_, rfl⟩
  rw [← hz] at cz
  have hzn : z ≠ 0 := by
    intro h0
    exact hno ⟨q, p - q, ⟨by omega, hd, by rw [show p - q + q - 1 = p1 by omega, ← hz, h0]⟩, ⟨hq.symm, c1, hd', by rw [← hn1, ← ht]; exact c2⟩⟩
  have hzb : (z == 0) = false := by rw [beq_eq_false_iff_ne]; exact hzn
  clear h3 g3 hp hq hd hd' hno e1' e2' sv su ht hn1 hz hp1 hzn
  go_enter Tryd.func37, Tryd.ntmps37
  go_wp2_with fail
  go_ret
  exact ⟨rfl, rfl⟩
end Go.Proofs.YtknokndpeneogaaDoor
