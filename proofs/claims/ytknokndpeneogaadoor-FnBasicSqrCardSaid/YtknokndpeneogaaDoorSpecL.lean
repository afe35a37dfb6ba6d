/-
  The reference's Len and Bits. Conditions: what is read can be read.
-/
import Derived.Test.YtknokndpeneogaaDoorSpecA
set_option linter.unusedSimpArgs false
set_option linter.unusedVariables false
namespace Go.Proofs.YtknokndpeneogaaDoor
open Go.Big Go.RowKit

def RetLen (n : Int) (w : World) (e : Ending) (w' : World) : Prop := ∃ L : Nat, e = .returned (.int .i64 (L : Int)) ∧ IsLen n L ∧ L ≤ 64000000 ∧ w = w'

theorem isLen_div {t : Int} {j : Nat} (ht : 0 ≤ t) (h1 : t / 2 ^ j = 0) (h2 : j = 0 ∨ 0 < t / 2 ^ (j - 1)) : IsLen t j := by
  have p1 := pow_pos_ (B := 2) (by omega) j
  have e1 := Int.emod_add_mul_ediv t (2 ^ j)
  have e2 := Int.emod_lt_of_pos t p1
  rw [h1] at e1
  rcases h2 with rfl | h2
  · left; simp at h1; exact ⟨by omega, rfl⟩
  · by_cases hj : j = 0
    · subst hj; simp at h1 h2; omega
    · right
      have p2 := pow_pos_ (B := 2) (by omega) (j - 1)
      refine ⟨by omega, ?_, by omega⟩
      have := Int.mul_le_mul_of_nonneg_left (show 1 ≤ t / 2 ^ (j - 1) by omega) (Int.le_of_lt p2)
      have e3 := Int.emod_add_mul_ediv t (2 ^ (j - 1))
      have e4 := Int.emod_nonneg t (show (2 : Int) ^ (j - 1) ≠ 0 by omega)
      omega

set_option maxRecDepth 100000 in
set_option maxHeartbeats 1000000 in
theorem len_any (va : Value) (n : Int) (w : World) (ha : SN w va n) (hn : n < BIG) : Calls Tryd.prog 45 #[va] w (RetLen n w) := by
  obtain ⟨ds, ⟨A, ca, rfl, hla, hma, hsa⟩, dga, nza, rfl⟩ := ha
  have la := len_BIG dga nza hn
  unfold maxLen at hma
  have DA := Lib.hid dga
  have NA := Lib.hid nza
  clear dga nza hn
  by_cases h0 : ds.length = 0
  · have hds : ds = [] := List.eq_nil_of_length_eq_zero h0
    subst hds
    simp only [List.length_nil] at *
    clear h0 hsa
    go_enter Tryd.func45, Tryd.ntmps45
    go_wp2_with fail
    go_ret
    exact ⟨0, rfl, .inl ⟨rfl, rfl⟩, by omega, rfl⟩
  · obtain ⟨m, hm⟩ : ∃ m, ds.length = m + 1 := ⟨ds.length - 1, by omega⟩
    obtain ⟨b, o, rfl, _, sa⟩ := hsa (by omega)
    have cA := sa m (by omega)
    obtain ⟨t, ht⟩ : ∃ t, t = ds.getD m 0 := ⟨_, rfl⟩
    obtain ⟨ht0, ht1⟩ := DA.out.getD (by omega) m
    rw [← ht] at ht0 ht1 cA
    have hne : ((m : Int) + 1 == 0) = false := by simp; omega
    have htne : t ≠ 0 := by
      rcases NA.out with h | h
      · subst h; simp at hm
      · rw [hm, Nat.add_sub_cancel, ← ht] at h; exact h
    have HT := Lib.hid ht
    have HNE := Lib.hid htne
    have hm1 : ds.length - 1 = m := by omega
    have HM1 := Lib.hid hm1
    have HM := Lib.hid hm
    clear ht sa hsa htne hm1
    rw [hm] at hla la ⊢
    clear hm h0
    go_enter Tryd.func45, Tryd.ntmps45
    go_wp2_with fail
    go_loopg [3, 4] 17 (fun g nv tv wr => ∃ (j : Nat) (u : Int), j ≤ 16 ∧ g = 17 - j ∧ nv = .int .i64 (16 * (m : Int) + j) ∧ tv = .int .i64 u ∧ 0 ≤ u ∧ u < 65536 ∧ u = t / 2 ^ j ∧ (j = 0 ∨ 0 < t / 2 ^ (j - 1)) ∧ w = wr)
    case atStart => exact ⟨0, t, by omega, rfl, by simp, rfl, ht0, ht1, by simp, .inl rfl, rfl⟩
    case round =>
      obtain ⟨j, u, hj, rfl, rfl, rfl, hu0, hu1, hu, hj2, rfl⟩ := hrel
      have HU := Lib.hid hu
      have HJ := Lib.hid hj2
      clear hu hj2
      by_cases hp : 0 < u
      · go_wp2_with fail
        have hj16 : j < 16 := by
          rcases Nat.lt_or_ge j 16 with h | h
          · exact h
          · obtain rfl : j = 16 := by omega
            have h1 := HU.out
            have : t / 2 ^ 16 = 0 := by simp; omega
            omega
        go_roundg (17 - (j + 1))
        case measure => omega
        case rel =>
          refine ⟨j + 1, u / 2, by omega, rfl, ?_, rfl, by omega, by omega, ?_, .inr ?_, rfl⟩
          · exact congrArg (Value.int .i64) (by omega)
          · rw [HU.out, Int.pow_succ, Int.ediv_ediv_of_nonneg (Int.le_of_lt (pow_pos_ (by omega) j))]
          · rw [Nat.add_sub_cancel, ← HU.out]; exact hp
      · obtain rfl : u = 0 := by omega
        go_wp2_with fail
        go_ret
        have hl := isLen_div ht0 HU.out.symm HJ.out
        have h1 : 1 ≤ j := by
          rcases hl with ⟨h, _⟩ | ⟨h, _⟩
          · exact absurd h HNE.out
          · exact h
        refine ⟨16 * m + j, ?_, ?_, by omega, rfl⟩
        · exact congrArg Ending.returned (by go_num)
        · have := IsLen.digits DA.out (t := t) (j := j) (by rw [HM.out]; omega) (by rw [HM1.out]; exact HT.out) hl h1
          rwa [HM1.out] at this
theorem bits_any (va : Value) (n : Int) (w : World) (ha : SN w va n) (hn : n < BIG) : Calls Tryd.prog 18 #[va] w (RetLen n w) := by
  have C := Lib.hid (len_any va n w ha hn)
  clear ha hn
  go_enter Tryd.func18, Tryd.ntmps18
  go_wp2_with (go_at_call 45; refine (Hid.out C).mono ?_; rintro e w1 ⟨L, rfl, h1, h2, rfl⟩)
  go_ret
  exact ⟨L, rfl, h1, h2, rfl⟩
end Go.Proofs.YtknokndpeneogaaDoor
