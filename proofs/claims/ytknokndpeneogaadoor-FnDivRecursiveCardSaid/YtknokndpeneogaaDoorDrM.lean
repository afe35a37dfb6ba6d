/-
  laws.parts, and the walk of the law FnDivRecursive. Conditions: the words can be read.
-/
import Derived.Test.YtknokndpeneogaaDoorDrL
import Derived.Test.YtknokndpeneogaaDoorGlob
set_option linter.unusedSimpArgs false
set_option linter.unusedVariables false
namespace Go.Proofs.YtknokndpeneogaaDoor
open Go.Big Go.RowKit Go.ChangeShapes Go.WideShapes Go.ChangeAt
set_option maxRecDepth 100000 in
set_option maxHeartbeats 2000000 in
theorem parts_any (A B : Option Addr) (cu cv n m : Nat) (v1 v2 : Value) (U V : List Int) (w0 w : World) (hu : Sl .u64 w (.slice A (m + n) cu) U) (hv : Sl .u64 w (.slice B n cv) V) (hU : KnU n m U) (hV : KnV n V) (hl : m + n ≤ 15000) (hr : RetRoad U V m w0 v1 v2 w) :
    Calls Tryd.prog 39 #[.slice A (m + n) cu, .slice B n cv, v1, v2] w fun e w' => e = .returned (.bool true) ∧ Fr [] w w' := by
  obtain ⟨C, cc, zs, rs, rfl, k2, k3, k4, k5, k6, k7, k8, k9, _⟩ := hr
  have HU := Lib.hid hu
  have HV := Lib.hid hv
  have HZ := Lib.hid k2
  have HR := Lib.hid k6
  have CU := Lib.hid (fun W (h : Sl .u64 W (.slice A (m + n) cu) U) => of_any _ U W h hU.dg (by rw [hU.len]; omega))
  have CV := Lib.hid (fun W (h : Sl .u64 W (.slice B n cv) V) => of_any _ V W h hV.dg (by rw [hV.len]; omega))
  have h1 := words_MID hU.dg (by rw [hU.len]; omega)
  have h2 := words_MID hV.dg (by rw [hV.len]; omega)
  have CD := Lib.hid (fun va vb W (h : SN W va (val 18446744073709551616 U)) (h' : SN W vb (val 18446744073709551616 V)) => divmod_any va vb _ _ W h h' h1 h2 hV.pos)
  have CI := Lib.hid (fun va W (h : Sl .u64 W (.slice C m cc) zs) (h' : SN W va (val 18446744073709551616 U / val 18446744073709551616 V)) => is_any _ va zs _ W h k4 (by omega) h' k5)
  have CJ := Lib.hid (fun va W (h : Sl .u64 W v2 rs) (h' : SN W va (val 18446744073709551616 U % val 18446744073709551616 V)) => is_any _ va rs _ W h k8 (by rw [k7, hU.len]; omega) h' k9)
  obtain ⟨X, hX⟩ : ∃ X, X = val 18446744073709551616 U := ⟨_, rfl⟩
  obtain ⟨Y, hY⟩ : ∃ Y, Y = val 18446744073709551616 V := ⟨_, rfl⟩
  rw [← hX] at CU
  rw [← hY] at CV
  rw [← hX, ← hY] at CD CI CJ
  obtain ⟨Q, hQ⟩ : ∃ Q, Q = X / Y := ⟨_, rfl⟩
  obtain ⟨R, hR⟩ : ∃ R, R = X % Y := ⟨_, rfl⟩
  rw [← hQ] at CI
  rw [← hR] at CJ
  rw [← hQ, ← hR] at CD
  obtain ⟨lu, hlu⟩ : ∃ lu, lu = m + n := ⟨_, rfl⟩
  rw [← hlu] at CU HU ⊢
  have hmi : (lu : Int) - (n : Int) = (m : Int) := by omega
  have hwm : IntKind.i64.wrap (m : Int) = (m : Int) := by rw [IntKind.wrap_i64]; omega
  have T1 : True := trivial
  have T2 : True := trivial
  clear hu hv hU hV k2 k3 k4 k5 k6 k7 k8 k9 h1 h2 hX hY hQ hR hlu
  go_enter Tryd.func39, Tryd.ntmps39
  go_wp2_with (first
    | (go_at_call 19; clear T1; refine (CU.out _ HU.out).mono ?_; rintro e w1 ⟨a1, rfl, sn1, f1⟩)
    | (go_at_call 19; refine (CV.out _ (HV.out.fr0 f1)).mono ?_; rintro e w2 ⟨a2, rfl, sn2, f2⟩)
    | (go_at_call 41; refine (CD.out _ _ _ (sn1.fr0 f2) sn2).mono ?_; rintro e w3 ⟨a3, a4, rfl, sn3, sn4, f3⟩)
    | (go_at_call 27; clear T2; refine (CI.out _ _ (((HZ.out.fr0 f1).fr0 f2).fr0 f3) sn3).mono ?_; rintro e w4 ⟨rfl, f4⟩)
    | (go_at_call 27; refine (CJ.out _ _ ((((HR.out.fr0 f1).fr0 f2).fr0 f3).fr0 f4) (sn4.fr0 f4)).mono ?_; rintro e w5 ⟨rfl, f5⟩))
  go_ret
  exact ⟨rfl, (((f1.t f2).t f3).t f4).t f5⟩
set_option maxRecDepth 100000 in
set_option maxHeartbeats 2000000 in
theorem law_FnDivRecursive (v : Value) (xs : List Int) (u : Value) (ys : List Int) (w : World) (hx : Sl .u64 w v xs) (hd : DG 18446744073709551616 xs) (hy : Sl .u64 w u ys) (hd' : DG 18446744073709551616 ys) (hT : Glo w 2 40 ∧ Glo w 3 40) :
    Calls Tryd.prog 12 #[v, u] w fun e w' => e = .returned (.bool true) ∧ Fr [] w w' := by
  have HX := Lib.hid hx
  have HD := Lib.hid hd
  have HY := Lib.hid hy
  have HD' := Lib.hid hd'
  have HT := Lib.hid hT
  obtain ⟨A, cap, rfl, hlc, hm, hs⟩ := hx
  obtain ⟨B, cap', rfl, hlc', hm', hs'⟩ := hy
  unfold maxLen at hm hm'
  clear hs hd hs' hd' hT
  by_cases h1 : 2147483647 < xs.length
  · go_enter Tryd.func12, Tryd.ntmps12
    go_wp2_with fail
    go_ret
    exact ⟨rfl, Fr.refl _ _⟩
  by_cases h1' : 2147483647 < ys.length
  · go_enter Tryd.func12, Tryd.ntmps12
    go_wp2_with fail
    go_ret
    exact ⟨rfl, Fr.refl _ _⟩
  by_cases h2 : xs.length ≤ 260 ∧ ys.length ≤ 260
  case neg =>
    go_enter Tryd.func12, Tryd.ntmps12
    go_wp2_with (go_at_call 17; refine (few2_no 260 A B _ _ _ _ _ _ (by omega) (by omega) (by omega) (by omega)).mono ?_; rintro e w1 ⟨rfl, rfl⟩)
    go_ret
    exact ⟨rfl, (Fr.refl _ _).alloc _⟩
  obtain ⟨h2, h3⟩ := h2
  have f0 : Fr [] w (w.alloc (.cells #[.slice A xs.length cap, .slice B ys.length cap'] 22)) := (Fr.refl _ _).alloc _
  by_cases hok : RoadOk xs ys
  case neg =>
    have CR := Lib.hid (road_no A B _ _ cap cap' xs ys _ (HX.out.fr0 f0) (HY.out.fr0 f0) rfl rfl HD.out HD'.out (by omega) (by omega) hok)
    clear hok
    go_enter Tryd.func12, Tryd.ntmps12
    go_wp2_with (first
      | (go_at_call 17; refine (few2_yes 260 A B _ _ _ _ _ _ (by omega) h2 h3).mono ?_; rintro e w1 ⟨rfl, rfl⟩)
      | (go_at_call 37; refine (Hid.out CR).mono ?_; rintro e w2 ⟨rfl, rfl⟩))
    go_ret
    exact ⟨rfl, f0⟩
  obtain ⟨n, m, hU, hV⟩ := hok
  have eu := hU.len
  have ev := hV.len
  rw [eu] at HX hlc h2 f0 ⊢
  rw [ev] at HY hlc' h3 f0 ⊢
  have CR := Lib.hid (road_yes A B cap cap' n m xs ys _ (HX.out.fr0 f0) (HY.out.fr0 f0) hU hV (by omega))
  have CD := Lib.hid (implDivRec_any A B cap cap' n m xs ys _ (HX.out.fr0 f0) (HY.out.fr0 f0) hU hV (by omega) ⟨HT.out.1.fr0 f0, HT.out.2.fr0 f0⟩)
  have CP := Lib.hid (fun v1 v2 w0 W (f : Fr [] w W) (h : RetRoad xs ys m w0 v1 v2 W) => parts_any A B cap cap' n m v1 v2 xs ys w0 W (HX.out.fr0 f) (HY.out.fr0 f) hU hV (by omega) h)
  obtain ⟨lu, hlu⟩ : ∃ lu, lu = m + n := ⟨_, rfl⟩
  rw [← hlu] at CR CD CP HX hlc h2 f0 ⊢
  have hx1 : ¬ 2147483647 < lu := by omega
  have hy1 : ¬ 2147483647 < n := by omega
  clear eu ev hU hV hlu h1 h1'
  go_enter Tryd.func12, Tryd.ntmps12
  go_wp2_with (first
    | (go_at_call 17; refine (few2_yes 260 A B _ _ _ _ _ _ (by omega) h2 h3).mono ?_; rintro e w1 ⟨rfl, rfl⟩)
    | (go_at_call 37; refine (Hid.out CR).mono ?_; rintro e w2 ⟨rfl, rfl⟩)
    | (go_at_call 38; refine (Hid.out CD).mono ?_; clear CD; rintro e w3 ⟨v1, v2, rfl, hr⟩; have HR := Lib.hid hr; have f3 : Fr [] _ w3 := (by obtain ⟨_, _, _, _, _, _, _, _, _, _, _, _, _, h⟩ := hr; exact h); clear hr)
    | (go_at_call 39; refine (CP.out _ _ _ _ (f0.t f3) HR.out).mono ?_; rintro e w4 ⟨rfl, f4⟩))
  go_ret
  exact ⟨rfl, (f0.t f3).t f4⟩
theorem glob_divr {W : World} (h : laidMetH Tryd.prog [("loop.example/pub-g03246/pub/big2.divRecursiveThreshold", Rows.laid_loop_example_pub_g03246_pub_big2_divRecursiveThreshold), ("loop.example/pub-g03246/pub/big2.karatsubaThreshold", Rows.laid_loop_example_pub_g03246_pub_big2_karatsubaThreshold), ("loop.example/pub-g03246/pub/big2.basicSqrThreshold", Rows.laid_loop_example_pub_g03246_pub_big2_basicSqrThreshold), ("loop.example/pub-g03246/pub/big2.karatsubaSqrThreshold", Rows.laid_loop_example_pub_g03246_pub_big2_karatsubaSqrThreshold)] W) : Glo W 2 40 ∧ Glo W 3 40 := by
  rw [MakeChecks.laidMetH_plain _ _ _ (by kernel_rfl)] at h
  exact ⟨int_of_head (g := 2) (t := 3) (by kernel_rfl) (by kernel_rfl) Tryd.underlying3 (laidMet.tail h), int_of_head (g := 3) (t := 3) (by kernel_rfl) (by kernel_rfl) Tryd.underlying3 h⟩
end Go.Proofs.YtknokndpeneogaaDoor
