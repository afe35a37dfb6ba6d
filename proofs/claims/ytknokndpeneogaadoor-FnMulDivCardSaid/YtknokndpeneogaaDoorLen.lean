/-
  math/bits: the number of bits of a word. Conditions: the argument is a word.
-/
import Derived.Test.YtknokndpeneogaaDoorgBase
import Derived.Test.YtknokndpeneogaaDoorProg
import Derived.Lib.Walk
import Derived.Lib.BitFns
import Derived.Lib.Hide
set_option linter.unusedSimpArgs false
set_option linter.unusedVariables false
namespace Go.Proofs.YtknokndpeneogaaDoor
open Go.Big Go.RowKit

/-- one way through Len64 ends so -/
theorem len_way (X Y k D : Nat) (hX : X < 18446744073709551616) (hk : k ≤ 56) (hD : D = 2 ^ k) (hlo : D ≤ X ∨ k = 0) (hY : Y = X / D) (hY1 : Y ≤ 255) :
    RowKit.wrap64 ((k : Int) + RowKit.wrap64 (Lib.len8 (Y : Int))) = (Lib.bitLen X : Int) := by
  have l := Lib.bitLen_le8' (Y : Int) (by omega) (by omega)
  rw [Lib.len8_of (Y : Int) (by omega) (by omega)]
  rw [Int.toNat_natCast] at l ⊢
  have e : Lib.bitLen X = k + Lib.bitLen Y := by
    rcases hlo with hlo | rfl
    · rw [hY, hD]; exact Lib.bitLen_shift k X (by rw [← hD]; exact hlo) hX
    · simp at hD; subst hD; rw [hY]; simp
  rw [e]
  unfold RowKit.wrap64
  omega
set_option maxRecDepth 100000 in
theorem len64_w111 (X : Nat) (w : World) (hX : X < 18446744073709551616) (t1 : 4294967296 ≤ (X : Int)) (t2 : 65536 ≤ (X : Int) / 4294967296) (t3 : 256 ≤ (X : Int) / 4294967296 / 65536) :
    Calls Tryd.prog 119 #[.int .u64 (X : Int)] w fun e w' => e = .returned (.int .i64 (Lib.bitLen X)) ∧ w = w' := by
  have hy0 : 0 ≤ (X : Int) / 4294967296 / 65536 / 256 := by omega
  have hy1 : (X : Int) / 4294967296 / 65536 / 256 ≤ 255 := by omega
  have hq : (X : Int) / 4294967296 / 65536 / 256 = ((X / 4294967296 / 65536 / 256 : Nat) : Int) := by simp
  have hlo : 72057594037927936 ≤ X ∨ 56 = 0 := by omega
  have hn : X / 4294967296 / 65536 / 256 = X / 72057594037927936 := by simp [Nat.div_div_eq_div_mul]
  have hw := len_way X (X / 4294967296 / 65536 / 256) 56 72057594037927936 hX (by omega) (by decide) hlo hn (by omega)
  rw [← hq] at hw
  have HW := Lib.hid hw
  clear hw hn hlo hq
  go_enter Tryd.func119, Tryd.ntmps119
  go_wp2
  go_ret
  refine ⟨congrArg Ending.returned (congrArg (Value.int IntKind.i64) ?_), rfl⟩
  exact HW.out
set_option maxRecDepth 100000 in
theorem len64_w110 (X : Nat) (w : World) (hX : X < 18446744073709551616) (t1 : 4294967296 ≤ (X : Int)) (t2 : 65536 ≤ (X : Int) / 4294967296) (t3 : ¬ 256 ≤ (X : Int) / 4294967296 / 65536) :
    Calls Tryd.prog 119 #[.int .u64 (X : Int)] w fun e w' => e = .returned (.int .i64 (Lib.bitLen X)) ∧ w = w' := by
  have hy0 : 0 ≤ (X : Int) / 4294967296 / 65536 := by omega
  have hy1 : (X : Int) / 4294967296 / 65536 ≤ 255 := by omega
  have hq : (X : Int) / 4294967296 / 65536 = ((X / 4294967296 / 65536 : Nat) : Int) := by simp
  have hlo : 281474976710656 ≤ X ∨ 48 = 0 := by omega
  have hn : X / 4294967296 / 65536 = X / 281474976710656 := by simp [Nat.div_div_eq_div_mul]
  have hw := len_way X (X / 4294967296 / 65536) 48 281474976710656 hX (by omega) (by decide) hlo hn (by omega)
  rw [← hq] at hw
  have HW := Lib.hid hw
  clear hw hn hlo hq
  go_enter Tryd.func119, Tryd.ntmps119
  go_wp2
  go_ret
  refine ⟨congrArg Ending.returned (congrArg (Value.int IntKind.i64) ?_), rfl⟩
  exact HW.out
set_option maxRecDepth 100000 in
theorem len64_w101 (X : Nat) (w : World) (hX : X < 18446744073709551616) (t1 : 4294967296 ≤ (X : Int)) (t2 : ¬ 65536 ≤ (X : Int) / 4294967296) (t3 : 256 ≤ (X : Int) / 4294967296) :
    Calls Tryd.prog 119 #[.int .u64 (X : Int)] w fun e w' => e = .returned (.int .i64 (Lib.bitLen X)) ∧ w = w' := by
  have hy0 : 0 ≤ (X : Int) / 4294967296 / 256 := by omega
  have hy1 : (X : Int) / 4294967296 / 256 ≤ 255 := by omega
  have hq : (X : Int) / 4294967296 / 256 = ((X / 4294967296 / 256 : Nat) : Int) := by simp
  have hlo : 1099511627776 ≤ X ∨ 40 = 0 := by omega
  have hn : X / 4294967296 / 256 = X / 1099511627776 := by simp [Nat.div_div_eq_div_mul]
  have hw := len_way X (X / 4294967296 / 256) 40 1099511627776 hX (by omega) (by decide) hlo hn (by omega)
  rw [← hq] at hw
  have HW := Lib.hid hw
  clear hw hn hlo hq
  go_enter Tryd.func119, Tryd.ntmps119
  go_wp2
  go_ret
  refine ⟨congrArg Ending.returned (congrArg (Value.int IntKind.i64) ?_), rfl⟩
  exact HW.out
set_option maxRecDepth 100000 in
theorem len64_w100 (X : Nat) (w : World) (hX : X < 18446744073709551616) (t1 : 4294967296 ≤ (X : Int)) (t2 : ¬ 65536 ≤ (X : Int) / 4294967296) (t3 : ¬ 256 ≤ (X : Int) / 4294967296) :
    Calls Tryd.prog 119 #[.int .u64 (X : Int)] w fun e w' => e = .returned (.int .i64 (Lib.bitLen X)) ∧ w = w' := by
  have hy0 : 0 ≤ (X : Int) / 4294967296 := by omega
  have hy1 : (X : Int) / 4294967296 ≤ 255 := by omega
  have hq : (X : Int) / 4294967296 = ((X / 4294967296 : Nat) : Int) := by simp
  have hlo : 4294967296 ≤ X ∨ 32 = 0 := by omega
  have hn : X / 4294967296 = X / 4294967296 := by simp [Nat.div_div_eq_div_mul]
  have hw := len_way X (X / 4294967296) 32 4294967296 hX (by omega) (by decide) hlo hn (by omega)
  rw [← hq] at hw
  have HW := Lib.hid hw
  clear hw hn hlo hq
  go_enter Tryd.func119, Tryd.ntmps119
  go_wp2
  go_ret
  refine ⟨congrArg Ending.returned (congrArg (Value.int IntKind.i64) ?_), rfl⟩
  exact HW.out
set_option maxRecDepth 100000 in
theorem len64_w011 (X : Nat) (w : World) (hX : X < 18446744073709551616) (t1 : ¬ 4294967296 ≤ (X : Int)) (t2 : 65536 ≤ (X : Int)) (t3 : 256 ≤ (X : Int) / 65536) :
    Calls Tryd.prog 119 #[.int .u64 (X : Int)] w fun e w' => e = .returned (.int .i64 (Lib.bitLen X)) ∧ w = w' := by
  have hy0 : 0 ≤ (X : Int) / 65536 / 256 := by omega
  have hy1 : (X : Int) / 65536 / 256 ≤ 255 := by omega
  have hq : (X : Int) / 65536 / 256 = ((X / 65536 / 256 : Nat) : Int) := by simp
  have hlo : 16777216 ≤ X ∨ 24 = 0 := by omega
  have hn : X / 65536 / 256 = X / 16777216 := by simp [Nat.div_div_eq_div_mul]
  have hw := len_way X (X / 65536 / 256) 24 16777216 hX (by omega) (by decide) hlo hn (by omega)
  rw [← hq] at hw
  have HW := Lib.hid hw
  clear hw hn hlo hq
  go_enter Tryd.func119, Tryd.ntmps119
  go_wp2
  go_ret
  refine ⟨congrArg Ending.returned (congrArg (Value.int IntKind.i64) ?_), rfl⟩
  exact HW.out
set_option maxRecDepth 100000 in
theorem len64_w010 (X : Nat) (w : World) (hX : X < 18446744073709551616) (t1 : ¬ 4294967296 ≤ (X : Int)) (t2 : 65536 ≤ (X : Int)) (t3 : ¬ 256 ≤ (X : Int) / 65536) :
    Calls Tryd.prog 119 #[.int .u64 (X : Int)] w fun e w' => e = .returned (.int .i64 (Lib.bitLen X)) ∧ w = w' := by
  have hy0 : 0 ≤ (X : Int) / 65536 := by omega
  have hy1 : (X : Int) / 65536 ≤ 255 := by omega
  have hq : (X : Int) / 65536 = ((X / 65536 : Nat) : Int) := by simp
  have hlo : 65536 ≤ X ∨ 16 = 0 := by omega
  have hn : X / 65536 = X / 65536 := by simp [Nat.div_div_eq_div_mul]
  have hw := len_way X (X / 65536) 16 65536 hX (by omega) (by decide) hlo hn (by omega)
  rw [← hq] at hw
  have HW := Lib.hid hw
  clear hw hn hlo hq
  go_enter Tryd.func119, Tryd.ntmps119
  go_wp2
  go_ret
  refine ⟨congrArg Ending.returned (congrArg (Value.int IntKind.i64) ?_), rfl⟩
  exact HW.out
set_option maxRecDepth 100000 in
theorem len64_w001 (X : Nat) (w : World) (hX : X < 18446744073709551616) (t1 : ¬ 4294967296 ≤ (X : Int)) (t2 : ¬ 65536 ≤ (X : Int)) (t3 : 256 ≤ (X : Int)) :
    Calls Tryd.prog 119 #[.int .u64 (X : Int)] w fun e w' => e = .returned (.int .i64 (Lib.bitLen X)) ∧ w = w' := by
  have hy0 : 0 ≤ (X : Int) / 256 := by omega
  have hy1 : (X : Int) / 256 ≤ 255 := by omega
  have hq : (X : Int) / 256 = ((X / 256 : Nat) : Int) := by simp
  have hlo : 256 ≤ X ∨ 8 = 0 := by omega
  have hn : X / 256 = X / 256 := by simp [Nat.div_div_eq_div_mul]
  have hw := len_way X (X / 256) 8 256 hX (by omega) (by decide) hlo hn (by omega)
  rw [← hq] at hw
  have HW := Lib.hid hw
  clear hw hn hlo hq
  go_enter Tryd.func119, Tryd.ntmps119
  go_wp2
  go_ret
  refine ⟨congrArg Ending.returned (congrArg (Value.int IntKind.i64) ?_), rfl⟩
  exact HW.out
set_option maxRecDepth 100000 in
theorem len64_w000 (X : Nat) (w : World) (hX : X < 18446744073709551616) (t1 : ¬ 4294967296 ≤ (X : Int)) (t2 : ¬ 65536 ≤ (X : Int)) (t3 : ¬ 256 ≤ (X : Int)) :
    Calls Tryd.prog 119 #[.int .u64 (X : Int)] w fun e w' => e = .returned (.int .i64 (Lib.bitLen X)) ∧ w = w' := by
  have hy0 : 0 ≤ (X : Int) := by omega
  have hy1 : (X : Int) ≤ 255 := by omega
  have hq : (X : Int) = ((X : Nat) : Int) := by simp
  have hlo : 1 ≤ X ∨ 0 = 0 := by omega
  have hn : X = X / 1 := by simp
  have hw := len_way X (X) 0 1 hX (by omega) (by decide) hlo hn (by omega)
  rw [← hq] at hw
  have HW := Lib.hid hw
  clear hw hn hlo hq
  go_enter Tryd.func119, Tryd.ntmps119
  go_wp2
  go_ret
  refine ⟨congrArg Ending.returned (congrArg (Value.int IntKind.i64) ?_), rfl⟩
  have h := HW.out
  rwa [show (((0 : Nat) : Int)) = 0 from rfl, Int.zero_add] at h
theorem len64_nat (X : Nat) (w : World) (hX : X < 18446744073709551616) :
    Calls Tryd.prog 119 #[.int .u64 (X : Int)] w fun e w' => e = .returned (.int .i64 (Lib.bitLen X)) ∧ w = w' := by
  by_cases t1 : 4294967296 ≤ (X : Int)
  · by_cases t2 : 65536 ≤ (X : Int) / 4294967296
    · by_cases t3 : 256 ≤ (X : Int) / 4294967296 / 65536
      · exact len64_w111 X w hX t1 t2 t3
      · exact len64_w110 X w hX t1 t2 t3
    · by_cases t3 : 256 ≤ (X : Int) / 4294967296
      · exact len64_w101 X w hX t1 t2 t3
      · exact len64_w100 X w hX t1 t2 t3
  · by_cases t2 : 65536 ≤ (X : Int)
    · by_cases t3 : 256 ≤ (X : Int) / 65536
      · exact len64_w011 X w hX t1 t2 t3
      · exact len64_w010 X w hX t1 t2 t3
    · by_cases t3 : 256 ≤ (X : Int)
      · exact len64_w001 X w hX t1 t2 t3
      · exact len64_w000 X w hX t1 t2 t3
theorem len64_any (x : Int) (w : World) (h0 : 0 ≤ x) (h1 : x < 18446744073709551616) :
    Calls Tryd.prog 119 #[.int .u64 x] w fun e w' => e = .returned (.int .i64 (Lib.bitLen x.toNat)) ∧ w = w' := by
  obtain ⟨X, rfl⟩ := Int.eq_ofNat_of_zero_le h0
  exact len64_nat X w (by omega)
theorem blen_any (x : Int) (w : World) (h0 : 0 ≤ x) (h1 : x < 18446744073709551616) :
    Calls Tryd.prog 89 #[.int .u64 x] w fun e w' => e = .returned (.int .i64 (Lib.bitLen x.toNat)) ∧ w = w' := by
  go_enter Tryd.func89, Tryd.ntmps89
  go_wp2_with (go_at_call 119; refine (len64_any x _ h0 h1).mono ?_; rintro e w' ⟨rfl, rfl⟩)
  go_ret
  exact ⟨rfl, rfl⟩

theorem bitLen_isLen : ∀ x : Nat, x < 2 ^ 64 → IsLen (x : Int) (Lib.bitLen x) := by
  intro x
  induction x using Nat.strongRecOn with
  | _ x ih =>
    intro hx
    by_cases h : x = 0
    · subst h; left; exact ⟨rfl, by decide⟩
    · have e := Lib.bitLen_half x h hx
      have i := ih (x / 2) (by omega) (by omega)
      right
      rcases i with ⟨h1, h2⟩ | ⟨h1, h2, h3⟩
      · have : x = 1 := by omega
        subst this
        rw [e, h2]; decide
      · rw [e]
        obtain ⟨m, hm⟩ : ∃ m, Lib.bitLen (x / 2) = m + 1 := ⟨Lib.bitLen (x / 2) - 1, by omega⟩
        rw [hm] at h2 h3 ⊢
        have e2 : 1 + (m + 1) - 1 = m + 1 := by omega
        have e3 : 1 + (m + 1) = m + 1 + 1 := by omega
        rw [e2, e3]
        rw [Nat.add_sub_cancel] at h2
        refine ⟨by omega, ?_, ?_⟩
        · rw [Int.pow_succ]; omega
        · rw [Int.pow_succ]; omega
theorem isLen_word (x : Int) (h0 : 0 ≤ x) (h1 : x < 18446744073709551616) : IsLen x (Lib.bitLen x.toNat) := by
  have := bitLen_isLen x.toNat (by omega)
  rwa [Int.toNat_of_nonneg h0] at this
end Go.Proofs.YtknokndpeneogaaDoor
