/-
  slices.Reverse on a number's words. Conditions: the words can be read and written.
-/
import Derived.Test.YtbepihdlaidikaaDoorMadR
set_option linter.unusedSimpArgs false
set_option linter.unusedVariables false
namespace Go.Proofs.YtbepihdlaidikaaDoor
open Go.Big Go.RowKit
def RvRel (g : Nat) (L : List Int) (n : Nat) (w : World) (gg : Nat) (v2 v3 : Value) (wr : World) : Prop :=
  ∃ (i : Nat) (L' : List Int), gg = n - i ∧ v2 = .int .i64 (i : Int) ∧ v3 = .int .i64 ((n : Int) - 1 - i) ∧ Row .u64 48 wr g L' ∧ L'.length = L.length ∧ Fr [g] w wr ∧ 2 * i ≤ n + 1 ∧ i ≤ n ∧ ∀ t, t < n → L'.getD t 0 = (if t < i ∨ n - i ≤ t then L.getD (n - 1 - t) 0 else L.getD t 0)
theorem set_getD {L : List Int} {i : Nat} (h : i < L.length) (v : Int) (t : Nat) : (L.set i v).getD t 0 = if t = i then v else L.getD t 0 := by
  by_cases e : t = i
  · subst e; simp [List.getD_eq_getElem?_getD, List.getElem?_set, h]
  · rw [if_neg e]; simp [List.getD_eq_getElem?_getD, List.getElem?_set, Ne.symm e]
theorem rv_step {g : Nat} {L : List Int} {n i j : Nat} {w wr : World} {L' : List Int} {x y : Int} (hn : n ≤ L.length) (HW : Row .u64 48 wr g L') (HLL : L'.length = L.length) (HF : Fr [g] w wr) (HG : ∀ t, t < n → L'.getD t 0 = (if t < i ∨ n - i ≤ t then L.getD (n - 1 - t) 0 else L.getD t 0)) (HJ : j = n - 1 - i) (hij : i < j) (hjn : j < n) (hx : x = L'.getD i 0) (hy : y = L'.getD j 0) :
    RvRel g L n w (n - (i + 1)) (.int .i64 ((i : Int) + 1)) (.int .i64 ((j : Int) - 1)) (((wr.setCell ⟨g, i, none⟩ (.int .u64 y)).setCell ⟨g, j, none⟩ (.int .u64 x)).drew) := by
  refine ⟨i + 1, (L'.set i y).set j x, rfl, rfl, congrArg (Value.int .i64) (by omega), (HW.set i y).set j x, by simp [HLL], ((HF.set (.inl (by simp)) _).set (.inl (by simp)) _).drew, by omega, by omega, fun t ht => ?_⟩
  have e1 : y = L.getD (n - 1 - i) 0 := by rw [hy, HG j hjn, if_neg (by omega), HJ]
  have e2 : x = L.getD (n - 1 - j) 0 := by rw [hx, HG i (by omega), if_neg (by omega)]; congr 1; omega
  rw [set_getD (by simp; omega), set_getD (by omega), HG t ht]
  by_cases q1 : t = j
  · subst q1; rw [if_pos rfl, if_pos (by omega)]; exact e2
  · rw [if_neg q1]
    by_cases q2 : t = i
    · subst q2; rw [if_pos rfl, if_pos (by omega)]; exact e1
    · rw [if_neg q2]
      by_cases q3 : t < i ∨ n - i ≤ t
      · rw [if_pos q3, if_pos (by omega)]
      · rw [if_neg q3, if_neg (by omega)]
set_option maxRecDepth 100000 in
set_option maxHeartbeats 2000000 in
theorem reverse_any (g cap : Nat) (L : List Int) (n : Nat) (w : World) (hr : Row .u64 48 w g L) (hn : n ≤ L.length) (hc : n ≤ cap) (hc9 : cap ≤ maxLen) (hn9 : n ≤ 1000000) :
    Calls Tryd.prog 25 #[.slice (some ⟨g, 0, none⟩) n cap] w fun e w' => e = .returned (.tuple #[]) ∧ ∃ L', Row .u64 48 w' g L' ∧ L'.length = L.length ∧ Fr [g] w w' ∧ ∀ t, t < n → L'.getD t 0 = L.getD (n - 1 - t) 0 := by
  unfold maxLen at hc9
  have HR := Lib.hid hr
  clear hr
  go_enter Tryd.func25, Tryd.ntmps25
  go_wp2_with fail
  go_loopg [2, 3] n (RvRel g L n w)
  case atStart => exact ⟨0, L, rfl, rfl, by first | rfl | go_num, HR.out, rfl, Fr.refl _ _, by omega, by omega, fun t ht => by rw [if_neg (by omega)]⟩
  case round =>
    obtain ⟨i, L', rfl, rfl, rfl, hrow, hll, hf, h2, hin, hget⟩ := hrel
    have HW := Lib.hid hrow
    have HF := Lib.hid hf
    have HG := Lib.hid hget
    have HLL := Lib.hid hll
    by_cases hij : (i : Int) < (n : Int) - 1 - i
    · obtain ⟨j, hj⟩ : ∃ j, j = n - 1 - i := ⟨_, rfl⟩
      have hjI : (n : Int) - 1 - (i : Int) = (j : Int) := by omega
      have hijN : i < j ∧ j < n := by omega
      obtain ⟨hijN, hjn⟩ := hijN
      obtain ⟨x, hx⟩ : ∃ x, x = L'.getD i 0 := ⟨_, rfl⟩
      obtain ⟨y, hy⟩ : ∃ y, y = L'.getD j 0 := ⟨_, rfl⟩
      have ci := hrow.cell (i := i) (by omega)
      have cj := hrow.cell (i := j) (by omega)
      rw [← hx] at ci
      rw [← hy] at cj
      have fi := hrow.frozen i
      have fj := hrow.frozen j
      have hne : ¬ i = j := by omega
      have HX := Lib.hid hx
      have HY := Lib.hid hy
      have HJ := Lib.hid hj
      have hI : (i : Int) < (n : Int) := by omega
      have hJ : (j : Int) < (n : Int) := by omega
      have hIJ : (i : Int) < (j : Int) := by omega
      rw [hjI]
      clear hrow hf hget hx hy hj hll hij
      go_wp2_with fail
      go_region
      all_goals (go_wp2_with fail)
      all_goals go_roundg (n - (i + 1))
      all_goals first | (case measure => omega) | skip
      all_goals (try omega)
      all_goals exact rv_step hn HW.out HLL.out HF.out HG.out HJ.out hijN hjn HX.out HY.out
    · have HFI := Lib.hid (show ∀ t, t < n → L'.getD t 0 = L.getD (n - 1 - t) 0 from fun t ht => by
        rw [HG.out t ht]
        split
        · rfl
        · congr 1; omega)
      clear hrow hf hget hll
      go_wp2_with fail
      first | go_end0 | refine bodyPost_ret (results_none rfl _ _ _) rfl ?_
      refine ⟨rfl, L', HW.out, HLL.out, HF.out, fun t ht => ?_⟩
      have h := HFI.out t ht
      first | exact h | simpa using h
theorem reverse_nil (A : Option Addr) (cap : Nat) (w : World) (hc : cap ≤ maxLen) :
    Calls Tryd.prog 25 #[.slice A 0 cap] w fun e w' => e = .returned (.tuple #[]) ∧ w = w' := by
  unfold maxLen at hc
  go_enter Tryd.func25, Tryd.ntmps25
  go_wp2_with fail
  go_loopg [2, 3] 0 (fun g v2 v3 wr => v2 = .int .i64 0 ∧ v3 = .int .i64 (-1) ∧ w = wr)
  case atStart => exact ⟨rfl, rfl, rfl⟩
  case round =>
    obtain ⟨rfl, rfl, rfl⟩ := hrel
    go_wp2_with fail
    first | go_end0 | refine bodyPost_ret (results_none rfl _ _ _) rfl ?_
    exact ⟨rfl, rfl⟩
end Go.Proofs.YtbepihdlaidikaaDoor
