/-
  slices.Clone, zzIn, zzOut, nat.norm and the thin package's norm. Conditions: what is read can be read; at most 1,000,000 words.
-/
import Derived.Test.YtbepihdlaidikaaDoorgBase
set_option linter.unusedSimpArgs false
set_option linter.unusedVariables false
namespace Go.Proofs.YtbepihdlaidikaaDoor
open Go.Big Go.RowKit

theorem ty_big : IntTy Tryd.prog .u64 36 48 8 := ⟨Tryd.underlying36, by kernel_rfl⟩
theorem mk_uints (n : Nat) (hn : n ≤ 1099511627776) (w : World) : (Instr.makeSlice 26 (.int .i64 (n : Int)) (.int .i64 (n : Int))).run Tryd.prog w =
    .ok (.slice (some ⟨w.heap.size, 0, none⟩) n n) (w.alloc (.cells (Array.replicate n (Value.int .u64 0)) 47)) :=
  run_mk (P := Tryd.prog) .u64 26 47 8 ty_uints (by omega) n hn w
theorem mk_big (n : Nat) (hn : n ≤ 1099511627776) (w : World) : (Instr.makeSlice 36 (.int .i64 (n : Int)) (.int .i64 (n : Int))).run Tryd.prog w =
    .ok (.slice (some ⟨w.heap.size, 0, none⟩) n n) (w.alloc (.cells (Array.replicate n (Value.int .u64 0)) 48)) :=
  run_mk (P := Tryd.prog) .u64 36 48 8 ty_big (by omega) n hn w

/-- a slice of words without noughts at the upper end: the number n -/
def SW (w : World) (v : Value) (n : Int) : Prop := ∃ ys, Sl .u64 w v ys ∧ DG 18446744073709551616 ys ∧ NZ ys ∧ val 18446744073709551616 ys = n
theorem SW.fr0 {w w1 : World} {v : Value} {n : Int} (h : SW w v n) (hf : Fr [] w w1) : SW w1 v n := by
  obtain ⟨ys, h1, h2⟩ := h
  exact ⟨ys, h1.fr0 hf, h2⟩
theorem SW.nonneg {w : World} {v : Value} {n : Int} (h : SW w v n) : 0 ≤ n := by
  obtain ⟨ys, h1, h2, h3, rfl⟩ := h
  exact val_nonneg (by omega) h2
theorem SN.nonneg {w : World} {v : Value} {n : Int} (h : SN w v n) : 0 ≤ n := by
  obtain ⟨ys, h1, h2, h3, rfl⟩ := h
  exact val_nonneg (by omega) h2
def RetW (n : Int) (w : World) (e : Ending) (w' : World) : Prop := ∃ v, e = .returned v ∧ SW w' v n ∧ Fr [] w w'
/-- the number 1 is one word -/
theorem SW.one {w : World} {v : Value} (h : SW w v 1) : ∃ A cap, v = .slice A 1 cap := by
  obtain ⟨ys, ⟨A, cap, rfl, _⟩, h2, h3, h4⟩ := h
  have : ys = [1] := eq_of_val h2 (DG.cons (by omega) (by omega) (DG.nil _)) h3 (.inr (by simp)) (by omega) (by rw [h4]; simp [val_cons, val_nil])
  subst this
  exact ⟨A, cap, rfl⟩
def RetSl (xs : List Int) (w : World) (e : Ending) (w' : World) : Prop := ∃ v, e = .returned v ∧ Sl .u64 w' v xs ∧ Fr [] w w'



def CopyRel (T : TypeId) (xs : List Int) (w0 : World) (g : Nat) (iv : Value) (wr : World) : Prop :=
  ∃ i : Nat, i ≤ xs.length ∧ g = xs.length - i ∧ iv = .int .i64 i ∧ Row .u64 T wr w0.heap.size (xs.take i ++ List.replicate (xs.length - i) 0) ∧ Fr [] w0 wr
theorem copyRow {xs : List Int} {i : Nat} (hi : i < xs.length) : (xs.take i ++ List.replicate (xs.length - i) 0).set i (xs.getD i 0) = xs.take (i + 1) ++ List.replicate (xs.length - (i + 1)) 0 := by
  rw [List.set_append_right _ _ (by rw [List.length_take]; omega), List.length_take, Nat.min_eq_left (by omega), Nat.sub_self, List.take_succ_eq_append_getElem hi, getD_in hi]
  obtain ⟨m, hm⟩ : ∃ m, xs.length - i = m + 1 := ⟨xs.length - i - 1, by omega⟩
  have : xs.length - (i + 1) = m := by omega
  rw [hm, this, List.replicate_succ, List.set_cons_zero, List.append_assoc]
  rfl



set_option maxRecDepth 100000 in
theorem bnorm_any (A : Option Addr) (cap : Nat) (ds : List Int) (w : World) (hl : ds.length ≤ cap) (hm : cap ≤ maxLen) (hA : 0 < ds.length → ∃ b off, A = some ⟨b, off, none⟩ ∧ Src .u64 w b off ds) :
    Calls Tryd.prog 26 #[.slice A ds.length cap] w (Trimmed A cap ds w) := by
  unfold maxLen at hm
  go_enter Tryd.func26, Tryd.ntmps26
  go_wp2_with fail
  go_loopg [3] (ds.length + 1) (fun g iv wr => ∃ i : Nat, i ≤ ds.length ∧ g = i + 1 ∧ iv = .int .i64 i ∧ (∀ j, i ≤ j → j < ds.length → ds.getD j 0 = 0) ∧ w = wr)
  case atStart => exact ⟨ds.length, Nat.le_refl _, rfl, rfl, fun j h1 h2 => absurd h2 (by omega), rfl⟩
  case round =>
    obtain ⟨i, hi, rfl, rfl, hz, rfl⟩ := hrel
    have HZ := Lib.hid hz
    clear hz
    rcases Nat.eq_zero_or_pos i with rfl | hp
    · go_wp2_with fail
      go_ret
      exact ⟨0, ⟨by omega, .inl rfl, HZ.out⟩, rfl, rfl⟩
    · obtain ⟨k, rfl⟩ : ∃ k, i = k + 1 := ⟨i - 1, by omega⟩
      obtain ⟨b, off, rfl, hs⟩ := hA (by omega)
      have hc := hs k (by omega)
      obtain ⟨x, hx⟩ : ∃ x, x = ds.getD k 0 := ⟨_, rfl⟩
      rw [← hx] at hc
      have HX := Lib.hid hx
      clear hx hs hA
      by_cases h0 : x = 0
      · subst h0
        go_wp2_with fail
        go_roundg (k + 1)
        case measure => omega
        case rel =>
          refine ⟨k, by omega, rfl, rfl, fun j h1 h2 => ?_, rfl⟩
          by_cases e : j = k
          · subst e; exact HX.out.symm
          · exact HZ.out j (by omega) h2
      · go_wp2_with fail
        go_ret
        exact ⟨k + 1, ⟨hi, .inr (by rw [Nat.add_sub_cancel, ← HX.out]; exact h0), HZ.out⟩, rfl, rfl⟩
end Go.Proofs.YtbepihdlaidikaaDoor
