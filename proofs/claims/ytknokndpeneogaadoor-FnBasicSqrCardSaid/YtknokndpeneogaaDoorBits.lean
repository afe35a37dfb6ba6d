/-
  math/bits: Mul64, Mul, Add, and the words' products. Conditions: the arguments are words.
-/
import Derived.Test.YtknokndpeneogaaDoorSpecA
import Derived.Test.YtknokndpeneogaaDoorDivw
import Derived.Laws.MathBits
import Derived.Laws.Bits64
import Derived.Laws.Externs
import Derived.KernelRfl
set_option linter.unusedSimpArgs false
set_option linter.unusedVariables false
namespace Go.Proofs.YtknokndpeneogaaDoor
open Go.Big Go.RowKit

theorem ret_two {k l : IntKind} {a b c d : Int} (h : a = b) (h' : c = d) : Ending.returned (.tuple #[.int k a, .int l c]) = .returned (.tuple #[.int k b, .int l d]) := by rw [h, h']
theorem ret_one {k : IntKind} {a b : Int} (h : a = b) : Ending.returned (.int k a) = .returned (.int k b) := by rw [h]

set_option maxHeartbeats 1000000 in
theorem mul64_any (x y : Int) (w : World) (hx0 : 0 ≤ x) (hx1 : x < 18446744073709551616) (hy0 : 0 ≤ y) (hy1 : y < 18446744073709551616) :
    Calls Tryd.prog 140 #[.int .u64 x, .int .u64 y] w fun e w' => e = .returned (.tuple #[.int .u64 (x * y / 18446744073709551616), .int .u64 (x * y % 18446744073709551616)]) ∧ w = w' := by
  go_enter Tryd.func140, Tryd.ntmps140
  go_wp2
  go_ret2
  refine ⟨?_, rfl⟩
  have e := mul64_up x y hx0 hx1 hy0 hy1
  have e1 := and_low32 x hx0 hx1
  have e2 := and_low32 y hy0 hy1
  refine ret_two ?_ ?_
  · simp only [e1, e2, IntKind.wrap_u64]
    rw [and_low32 _ (Int.emod_nonneg _ (by omega)) (Int.emod_lt_of_pos _ (by omega))]
    exact e
  · exact IntKind.wrap_u64 _
theorem bmul_any (x y : Int) (w : World) (hx0 : 0 ≤ x) (hx1 : x < 18446744073709551616) (hy0 : 0 ≤ y) (hy1 : y < 18446744073709551616) :
    Calls Tryd.prog 124 #[.int .u64 x, .int .u64 y] w fun e w' => e = .returned (.tuple #[.int .u64 (x * y / 18446744073709551616), .int .u64 (x * y % 18446744073709551616)]) ∧ w = w' := by
  go_enter Tryd.func124, Tryd.ntmps124
  go_wp2_with (go_at_call 140; refine (mul64_any x y _ hx0 hx1 hy0 hy1).mono ?_; rintro e w' ⟨rfl, rfl⟩)
  go_ret2
  exact ⟨rfl, rfl⟩
theorem mulWW_any (x y : Int) (w : World) (hx0 : 0 ≤ x) (hx1 : x < 18446744073709551616) (hy0 : 0 ≤ y) (hy1 : y < 18446744073709551616) :
    Calls Tryd.prog 93 #[.int .u64 x, .int .u64 y] w fun e w' => e = .returned (.tuple #[.int .u64 (x * y / 18446744073709551616), .int .u64 (x * y % 18446744073709551616)]) ∧ w = w' := by
  go_enter Tryd.func93, Tryd.ntmps93
  go_wp2_with (go_at_call 124; refine (bmul_any x y _ hx0 hx1 hy0 hy1).mono ?_; rintro e w' ⟨rfl, rfl⟩)
  go_ret2
  exact ⟨rfl, rfl⟩
def addEntry : Array Value → Sem Value := fun args => do
  let (x, y, c) ← Extern.MathBitsCarry.three "Add64" args
  pure (Extern.MathBitsCarry.pair ((x + y + c) % Extern.MathBitsCarry.m64) ((x + y + c) / Extern.MathBitsCarry.m64))
theorem run_addEntry (P : Program) (x y c : Nat) (hc : c ≤ 1) (w : World) : (addEntry #[.int .u64 x, .int .u64 y, .int .u64 c]).run P w =
    .ok (.tuple #[.int .u64 (((x + y + c) % 18446744073709551616 : Nat) : Int), .int .u64 (((x + y + c) / 18446744073709551616 : Nat) : Int)]) w := by
  have : c = 0 ∨ c = 1 := by omega
  rcases this with rfl | rfl <;> rfl
theorem run_badd64 (x y c : Int) (hx0 : 0 ≤ x) (hy0 : 0 ≤ y) (hc0 : 0 ≤ c) (hc1 : c ≤ 1) (w : World) :
    (callFunc 144 #[.int .u64 x, .int .u64 y, .int .u64 c]).run Tryd.prog w =
      .ok (.value (.tuple #[.int .u64 ((x + y + c) % 18446744073709551616), .int .u64 ((x + y + c) / 18446744073709551616)])) w := by
  obtain ⟨a, rfl⟩ := Int.eq_ofNat_of_zero_le hx0
  obtain ⟨b, rfl⟩ := Int.eq_ofNat_of_zero_le hy0
  obtain ⟨d, rfl⟩ := Int.eq_ofNat_of_zero_le hc0
  rw [run_callFunc_extern Tryd.func144 (by kernel_rfl) (by kernel_rfl) (by kernel_rfl) (e := addEntry) (by kernel_rfl), run_addEntry _ a b d (by omega)]
  simp only [Result.andThen]
  congr 5 <;> omega
set_option maxHeartbeats 400000 in
theorem badd_any (x y c : Int) (w : World) (hx0 : 0 ≤ x) (hx1 : x < 18446744073709551616) (hy0 : 0 ≤ y) (hy1 : y < 18446744073709551616) (hc0 : 0 ≤ c) (hc1 : c ≤ 1) :
    Calls Tryd.prog 131 #[.int .u64 x, .int .u64 y, .int .u64 c] w fun e w' => e = .returned (.tuple #[.int .u64 ((x + y + c) % 18446744073709551616), .int .u64 ((x + y + c) / 18446744073709551616)]) ∧ w = w' := by
  have hr := run_badd64 x y c hx0 hy0 hc0 hc1
  go_enter Tryd.func131, Tryd.ntmps131
  go_wp2
  go_ret2
  exact ⟨rfl, rfl⟩
set_option maxRecDepth 100000 in
theorem mulAdd_any (x y c : Int) (w : World) (hx0 : 0 ≤ x) (hx1 : x < 18446744073709551616) (hy0 : 0 ≤ y) (hy1 : y < 18446744073709551616) (hc0 : 0 ≤ c) (hc1 : c < 18446744073709551616) :
    Calls Tryd.prog 141 #[.int .u64 x, .int .u64 y, .int .u64 c] w fun e w' => e = .returned (.tuple #[.int .u64 ((x * y + c) / 18446744073709551616), .int .u64 ((x * y + c) % 18446744073709551616)]) ∧ w = w' := by
  have hb : 0 ≤ x * y ∧ x * y ≤ 340282366920938463426481119284349108225 := ⟨Int.mul_nonneg hx0 hy0, Int.mul_le_mul (c := 18446744073709551615) (d := 18446744073709551615) (by omega) (by omega) hy0 (by omega)⟩
  have C1 := Lib.hid (bmul_any x y w hx0 hx1 hy0 hy1)
  obtain ⟨p, hp⟩ : ∃ p, p = x * y := ⟨_, rfl⟩
  rw [← hp] at hb C1 ⊢
  have C2 := Lib.hid (badd_any (p % 18446744073709551616) c 0 w (by omega) (by omega) hc0 hc1 (by omega) (by omega))
  have e1 : IntKind.u64.wrap (p / 18446744073709551616 + (p % 18446744073709551616 + c + 0) / 18446744073709551616) = (p + c) / 18446744073709551616 := by
    rw [IntKind.wrap_u64]; omega
  have e2 : (p % 18446744073709551616 + c + 0) % 18446744073709551616 = (p + c) % 18446744073709551616 := by omega
  have E1 := Lib.hid e1
  have E2 := Lib.hid e2
  have HB := Lib.hid hb
  clear hp e1 e2 hb
  obtain ⟨a, ha⟩ : ∃ a, a = p / 18446744073709551616 := ⟨_, rfl⟩
  obtain ⟨b, hb⟩ : ∃ b, b = p % 18446744073709551616 := ⟨_, rfl⟩
  rw [← hb] at C2
  rw [← ha, ← hb] at C1
  obtain ⟨d, hd⟩ : ∃ d, d = (b + c + 0) / 18446744073709551616 := ⟨_, rfl⟩
  obtain ⟨q, hq⟩ : ∃ q, q = (b + c + 0) % 18446744073709551616 := ⟨_, rfl⟩
  rw [← hd, ← hq] at C2
  have HA := Lib.hid ha
  have HBB := Lib.hid hb
  have HD := Lib.hid hd
  have HQ := Lib.hid hq
  clear ha hb hd hq
  go_enter Tryd.func141, Tryd.ntmps141
  go_wp2_with (first
    | (go_at_call 124; refine (Hid.out C1).mono ?_; rintro e w1 ⟨rfl, rfl⟩)
    | (go_at_call 131; refine (Hid.out C2).mono ?_; rintro e w1 ⟨rfl, rfl⟩))
  go_ret2
  refine ⟨ret_two ?_ ?_, rfl⟩
  · rw [← E1.out, HD.out, HA.out, HBB.out]
  · rw [← E2.out, HQ.out, HBB.out]
theorem mulc_bound {x y c : Int} (hx0 : 0 ≤ x) (hx1 : x < 18446744073709551616) (hy0 : 0 ≤ y) (hy1 : y < 18446744073709551616) (hc0 : 0 ≤ c) (hc1 : c < 18446744073709551616) :
    0 ≤ x * y + c ∧ x * y + c ≤ 340282366920938463444927863358058659840 := by
  have h : 0 ≤ x * y ∧ x * y ≤ 340282366920938463426481119284349108225 := ⟨Int.mul_nonneg hx0 hy0, Int.mul_le_mul (c := 18446744073709551615) (d := 18446744073709551615) (by omega) (by omega) hy0 (by omega)⟩
  omega
def borrow (x y c : Int) : Int := if x < y + c then 1 else 0
theorem borrow_eq {x y c : Int} (hx0 : 0 ≤ x) (hx1 : x < 18446744073709551616) (hy0 : 0 ≤ y) (hy1 : y < 18446744073709551616) (hc0 : 0 ≤ c) (hc1 : c ≤ 1) :
    (x - y - c) % 18446744073709551616 + y + c = x + 18446744073709551616 * borrow x y c := by
  unfold borrow; split <;> omega
def subEntry : Array Value → Sem Value := fun args => do
  let (x, y, b) ← Extern.MathBitsCarry.three "Sub64" args
  pure (Extern.MathBitsCarry.pair ((x + Extern.MathBitsCarry.m64 - y - b) % Extern.MathBitsCarry.m64) (if x < y + b then 1 else 0))
theorem run_subEntry (P : Program) (x y c : Nat) (hc : c ≤ 1) (w : World) : (subEntry #[.int .u64 x, .int .u64 y, .int .u64 c]).run P w =
    .ok (.tuple #[.int .u64 (((x + 18446744073709551616 - y - c) % 18446744073709551616 : Nat) : Int), .int .u64 ((if x < y + c then 1 else 0 : Nat) : Int)]) w := by
  have : c = 0 ∨ c = 1 := by omega
  rcases this with rfl | rfl <;> rfl
theorem run_bsub64 (x y c : Int) (hx0 : 0 ≤ x) (hx1 : x < 18446744073709551616) (hy0 : 0 ≤ y) (hy1 : y < 18446744073709551616) (hc0 : 0 ≤ c) (hc1 : c ≤ 1) (w : World) :
    (callFunc 154 #[.int .u64 x, .int .u64 y, .int .u64 c]).run Tryd.prog w =
      .ok (.value (.tuple #[.int .u64 ((x - y - c) % 18446744073709551616), .int .u64 (borrow x y c)])) w := by
  obtain ⟨a, rfl⟩ := Int.eq_ofNat_of_zero_le hx0
  obtain ⟨b, rfl⟩ := Int.eq_ofNat_of_zero_le hy0
  obtain ⟨d, rfl⟩ := Int.eq_ofNat_of_zero_le hc0
  rw [run_callFunc_extern Tryd.func154 (by kernel_rfl) (by kernel_rfl) (by kernel_rfl) (e := subEntry) (by kernel_rfl), run_subEntry _ a b d (by omega)]
  simp only [Result.andThen]
  have e1 : (((a + 18446744073709551616 - b - d) % 18446744073709551616 : Nat) : Int) = ((a : Int) - b - d) % 18446744073709551616 := by omega
  have e2 : ((if a < b + d then 1 else 0 : Nat) : Int) = borrow a b d := by unfold borrow; split <;> split <;> omega
  rw [e1, e2]
set_option maxHeartbeats 400000 in
theorem bsub_any (x y c : Int) (w : World) (hx0 : 0 ≤ x) (hx1 : x < 18446744073709551616) (hy0 : 0 ≤ y) (hy1 : y < 18446744073709551616) (hc0 : 0 ≤ c) (hc1 : c ≤ 1) :
    Calls Tryd.prog 148 #[.int .u64 x, .int .u64 y, .int .u64 c] w fun e w' => e = .returned (.tuple #[.int .u64 ((x - y - c) % 18446744073709551616), .int .u64 (borrow x y c)]) ∧ w = w' := by
  have hr := run_bsub64 x y c hx0 hx1 hy0 hy1 hc0 hc1
  obtain ⟨d, hd⟩ : ∃ d, d = (x - y - c) % 18446744073709551616 := ⟨_, rfl⟩
  obtain ⟨b, hb⟩ : ∃ b, b = borrow x y c := ⟨_, rfl⟩
  simp only [← hd, ← hb] at hr ⊢
  clear hd hb
  go_enter Tryd.func148, Tryd.ntmps148
  go_wp2
  go_ret2
  exact ⟨rfl, rfl⟩
end Go.Proofs.YtknokndpeneogaaDoor
