/-
  The reference's natural numbers: of1, of2, carry, Small, Cmp. Conditions: what is read can be read.
-/
import Derived.Test.YtknokndpeneogaaDoorOf
import Derived.Deep.QuietTactic
import Derived.BigQuiet
set_option linter.unusedSimpArgs false
set_option linter.unusedVariables false
namespace Go.Proofs.YtknokndpeneogaaDoor
open Go.Big Go.RowKit

/-- -1, 0 or 1 -/
def cmpI (a b : Int) : Int := if a < b then -1 else if b < a then 1 else 0
theorem cmpI_lt {a b : Int} (h : a < b) : cmpI a b = -1 := by unfold cmpI; rw [if_pos h]
theorem cmpI_gt {a b : Int} (h : b < a) : cmpI a b = 1 := by unfold cmpI; rw [if_neg (by omega), if_pos h]
theorem cmpI_eq (a : Int) : cmpI a a = 0 := by unfold cmpI; rw [if_neg (by omega), if_neg (by omega)]

theorem row1 (w : World) (k : IntKind) (T : TypeId) (x : Int) : Sl k (w.alloc (.cells #[.int k x] T)) (.slice (some ⟨w.heap.size, 0, none⟩) 1 1) [x] := by
  refine ⟨_, 1, rfl, by simp, by simp [maxLen], fun _ => ⟨_, 0, rfl, by simp, fun j hj => ?_⟩⟩
  have := (Row.new w k T [x]).cell (i := j) hj
  simpa using this
theorem row2 (w : World) (k : IntKind) (T : TypeId) (x y : Int) : Sl k (w.alloc (.cells #[.int k x, .int k y] T)) (.slice (some ⟨w.heap.size, 0, none⟩) 2 2) [x, y] := by
  refine ⟨_, 2, rfl, by simp, by simp [maxLen], fun _ => ⟨_, 0, rfl, by simp, fun j hj => ?_⟩⟩
  have := (Row.new w k T [x, y]).cell (i := j) hj
  simpa using this




set_option maxRecDepth 100000 in
set_option maxHeartbeats 1000000 in
theorem cmp_any (va vb : Value) (n m : Int) (w : World) (ha : SN w va n) (hb : SN w vb m) :
    Calls Tryd.prog 21 #[va, vb] w fun e w' => e = .returned (.int .i64 (cmpI n m)) ∧ Fr [] w w' := by
  obtain ⟨da, ⟨A, ca, rfl, hla, hma, hsa⟩, dga, nza, rfl⟩ := ha
  obtain ⟨db, ⟨B, cb, rfl, hlb, hmb, hsb⟩, dgb, nzb, rfl⟩ := hb
  unfold maxLen at hma hmb
  have DA := Lib.hid dga
  have DB := Lib.hid dgb
  have NA := Lib.hid nza
  have NB := Lib.hid nzb
  clear dga dgb nza nzb
  rcases Nat.lt_trichotomy da.length db.length with h | h | h
  · go_enter Tryd.func21, Tryd.ntmps21
    go_wp2
    go_ret
    exact ⟨by rw [cmpI_lt (lt_of_shorter (by omega) DA.out DB.out NB.out h)]; rfl, Fr.refl _ _⟩
  · have hle : da.length ≤ db.length := by omega
    have hge : db.length ≤ da.length := by omega
    have HE := Lib.hid h
    clear h
    go_enter Tryd.func21, Tryd.ntmps21
    go_wp2_with fail
    go_loopg [5] (da.length + 1) (fun g iv wr => ∃ (k : Nat) (z : Int), k ≤ da.length ∧ z = k - 1 ∧ g = k + 1 ∧ iv = .int .i64 z ∧ (∀ j, k ≤ j → j < da.length → da.getD j 0 = db.getD j 0) ∧ Fr [] w wr)
    case atStart => exact ⟨da.length, _, Nat.le_refl _, rfl, rfl, rfl, fun j h1 h2 => absurd h2 (by omega), Fr.refl _ _⟩
    case round =>
      obtain ⟨k, z, hk, hz, rfl, rfl, hsame, hf⟩ := hrel
      have HS := Lib.hid hsame
      clear hsame
      rcases Nat.eq_zero_or_pos k with rfl | hp
      · obtain rfl : z = -1 := by omega
        clear hz
        go_wp2_with fail
        go_ret
        have : da = db := by
          apply List.ext_getElem HE.out
          intro j h1 h2
          have := HS.out j (by omega) h1
          rwa [getD_in h1, getD_in h2] at this
        rw [this, cmpI_eq]
        exact ⟨rfl, hf⟩
      · obtain ⟨j, rfl⟩ : ∃ j, k = j + 1 := ⟨k - 1, by omega⟩
        obtain rfl : z = (j : Int) := by omega
        clear hz
        obtain ⟨ba, oa, rfl, _, sa⟩ := hsa (by omega)
        obtain ⟨bb, ob, rfl, _, sb⟩ := hsb (by omega)
        have cA := (sa.fr hf (by simp)) j (by omega)
        have cB := (sb.fr hf (by simp)) j (by omega)
        obtain ⟨x, hx⟩ : ∃ x, x = da.getD j 0 := ⟨_, rfl⟩
        obtain ⟨y, hy⟩ : ∃ y, y = db.getD j 0 := ⟨_, rfl⟩
        rw [← hx] at cA
        rw [← hy] at cB
        have HX := Lib.hid hx
        have HY := Lib.hid hy
        clear hx hy sa sb hsa hsb
        have hj : j < da.length := by omega
        have hj2 : j < db.length := by omega
        rcases Int.lt_trichotomy x y with hc | hc | hc
        · go_wp2_with fail
          go_quiet (fail)
          go_wp2_with fail
          go_ret
          exact ⟨by rw [cmpI_lt (lt_of_top (by omega) DA.out DB.out HE.out hj HS.out (by rw [← HX.out, ← HY.out]; exact hc))]; rfl, hf.drewN _⟩
        · subst hc
          go_wp2_with fail
          go_quiet (fail)
          go_wp2_with fail
          go_quiet (fail)
          go_wp2_with fail
          go_roundg (j + 1)
          case measure => omega
          case rel =>
            refine ⟨j, _, by omega, rfl, rfl, rfl, fun i h1 h2 => ?_, hf.drewN _⟩
            by_cases e : i = j
            · subst e; rw [← HX.out, HY.out]
            · exact HS.out i (by omega) h2
        · go_wp2_with fail
          go_quiet (fail)
          go_wp2_with fail
          go_quiet (fail)
          go_wp2_with fail
          go_ret
          exact ⟨by rw [cmpI_gt (lt_of_top (by omega) DB.out DA.out HE.out.symm hj2 (fun i h1 h2 => (HS.out i h1 (by omega)).symm) (by rw [← HX.out, ← HY.out]; exact hc))]; rfl, (hf.drewN _).drewN _⟩
  · go_enter Tryd.func21, Tryd.ntmps21
    go_wp2
    go_ret
    exact ⟨by rw [cmpI_gt (lt_of_shorter (by omega) DB.out DA.out NA.out h)]; rfl, Fr.refl _ _⟩
theorem cmp_same (va vb : Value) (n : Int) (w : World) (ha : SN w va n) (hb : SN w vb n) :
    Calls Tryd.prog 21 #[va, vb] w fun e w' => e = .returned (.int .i64 0) ∧ Fr [] w w' := by
  have := cmp_any va vb n n w ha hb
  rwa [cmpI_eq] at this
end Go.Proofs.YtknokndpeneogaaDoor
