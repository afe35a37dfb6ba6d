/-
  spec.trim and nat.norm: noughts at the upper end are cut off. Conditions: the slice's cells can be read.
-/
import Derived.Test.YtknokndpeneogaaDoorMem
import Derived.Test.YtknokndpeneogaaDoorProg
import Derived.Lib.Hide
import Derived.Outline
set_option linter.unusedSimpArgs false
set_option linter.unusedVariables false
namespace Go.Proofs.YtknokndpeneogaaDoor
open Go.Big Go.RowKit

/-- where the noughts at the upper end begin -/
def CutAt (ds : List Int) (i : Nat) : Prop := i ≤ ds.length ∧ (i = 0 ∨ ds.getD (i - 1) 0 ≠ 0) ∧ ∀ j, i ≤ j → j < ds.length → ds.getD j 0 = 0
def Trimmed (A : Option Addr) (cap : Nat) (ds : List Int) (w : World) (e : Ending) (w' : World) : Prop := ∃ i, CutAt ds i ∧ e = .returned (.slice A i cap) ∧ w = w'

set_option maxHeartbeats 400000 in
theorem trim_any (A : Option Addr) (cap : Nat) (ds : List Int) (w : World) (hl : ds.length ≤ cap) (hm : cap ≤ maxLen) (hA : 0 < ds.length → ∃ b off, A = some ⟨b, off, none⟩ ∧ Src .i64 w b off ds) :
    Calls Tryd.prog 46 #[.slice A ds.length cap] w (Trimmed A cap ds w) := by
  unfold maxLen at hm
  go_enter Tryd.func46, Tryd.ntmps46
  go_wp2
  go_loop [0] (fun v => ∃ i : Nat, i ≤ ds.length ∧ v = .slice A i cap ∧ ∀ j, i ≤ j → j < ds.length → ds.getD j 0 = 0) (fun v => match v with | .slice _ n _ => n | _ => 0)
  case atStart => exact ⟨ds.length, Nat.le_refl _, rfl, fun j h1 h2 => absurd h2 (by omega)⟩
  case round =>
    obtain ⟨i, hi, rfl, hz⟩ := hrel
    have HZ := Lib.hid hz
    clear hz
    rcases Nat.eq_zero_or_pos i with rfl | hp
    · go_wp2
      go_ret
      exact ⟨0, ⟨by omega, .inl rfl, HZ.out⟩, rfl, rfl⟩
    · obtain ⟨k, rfl⟩ : ∃ k, i = k + 1 := ⟨i - 1, by omega⟩
      obtain ⟨b, off, rfl, hs⟩ := hA (by omega)
      have hc := hs k (by omega)
      obtain ⟨x, hx⟩ : ∃ x, x = ds.getD k 0 := ⟨_, rfl⟩
      rw [← hx] at hc
      have HX := Lib.hid hx
      clear hx hs hA
      by_cases h0 : x = 0
      · subst h0
        go_wp2
        go_round
        case rel =>
          refine ⟨k, by omega, rfl, fun j h1 h2 => ?_⟩
          by_cases e : j = k
          · subst e; exact HX.out.symm
          · exact HZ.out j (by omega) h2
        case measure => simp
      · go_wp2
        go_ret
        exact ⟨k + 1, ⟨hi, .inr (by rw [Nat.add_sub_cancel, ← HX.out]; exact h0), HZ.out⟩, rfl, rfl⟩
end Go.Proofs.YtknokndpeneogaaDoor
