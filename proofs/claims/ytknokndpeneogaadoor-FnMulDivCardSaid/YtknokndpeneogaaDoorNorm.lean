/-
  slices.Clone, zzIn, zzOut, nat.norm and the thin package's norm. Conditions: what is read can be read; at most 1,000,000 words.
-/
import Derived.Test.YtknokndpeneogaaDoorgBase
set_option linter.unusedSimpArgs false
set_option linter.unusedVariables false
namespace Go.Proofs.YtknokndpeneogaaDoor
open Go.Big Go.RowKit

theorem ty_big : IntTy Tryd.prog .u64 58 77 8 := ⟨Tryd.underlying58, by kernel_rfl⟩
theorem mk_uints (n : Nat) (hn : n ≤ 1099511627776) (w : World) : (Instr.makeSlice 22 (.int .i64 (n : Int)) (.int .i64 (n : Int))).run Tryd.prog w =
    .ok (.slice (some ⟨w.heap.size, 0, none⟩) n n) (w.alloc (.cells (Array.replicate n (Value.int .u64 0)) 28)) :=
  run_mk (P := Tryd.prog) .u64 22 28 8 ty_uints (by omega) n hn w
theorem mk_big (n : Nat) (hn : n ≤ 1099511627776) (w : World) : (Instr.makeSlice 58 (.int .i64 (n : Int)) (.int .i64 (n : Int))).run Tryd.prog w =
    .ok (.slice (some ⟨w.heap.size, 0, none⟩) n n) (w.alloc (.cells (Array.replicate n (Value.int .u64 0)) 77)) :=
  run_mk (P := Tryd.prog) .u64 58 77 8 ty_big (by omega) n hn w

/-- a slice of words without noughts at the upper end: the number n -/
def SW (w : World) (v : Value) (n : Int) : Prop := ∃ ys, Sl .u64 w v ys ∧ DG 18446744073709551616 ys ∧ NZ ys ∧ val 18446744073709551616 ys = n
theorem SW.fr0 {w w1 : World} {v : Value} {n : Int} (h : SW w v n) (hf : Fr [] w w1) : SW w1 v n := by
  obtain ⟨ys, h1, h2⟩ := h
  exact ⟨ys, h1.fr0 hf, h2⟩
theorem SW.nonneg {w : World} {v : Value} {n : Int} (h : SW w v n) : 0 ≤ n := by
  obtain ⟨ys, h1, h2, h3, rfl⟩ := h
  exact val_nonneg (by omega) h2
theorem SN.nonneg {w : World} {v : Value} {n : Int} (h : SN w v n) : 0 ≤ n := by
  obtain ⟨ys, h1, h2, h3, rfl⟩ := h
  exact val_nonneg (by omega) h2
def RetW (n : Int) (w : World) (e : Ending) (w' : World) : Prop := ∃ v, e = .returned v ∧ SW w' v n ∧ Fr [] w w'
/-- the number 1 is one word -/
theorem SW.one {w : World} {v : Value} (h : SW w v 1) : ∃ A cap, v = .slice A 1 cap := by
  obtain ⟨ys, ⟨A, cap, rfl, _⟩, h2, h3, h4⟩ := h
  have : ys = [1] := eq_of_val h2 (DG.cons (by omega) (by omega) (DG.nil _)) h3 (.inr (by simp)) (by omega) (by rw [h4]; simp [val_cons, val_nil])
  subst this
  exact ⟨A, cap, rfl⟩
def RetSl (xs : List Int) (w : World) (e : Ending) (w' : World) : Prop := ∃ v, e = .returned v ∧ Sl .u64 w' v xs ∧ Fr [] w w'


set_option maxRecDepth 100000 in
theorem clone_any (v : Value) (xs : List Int) (w : World) (hx : Sl .u64 w v xs) (hl : xs.length ≤ 1000000) : Calls Tryd.prog 52 #[v] w (RetSl xs w) := by
  obtain ⟨A, cap, rfl, hlc, hm, hsrc⟩ := hx
  have hnil := fun w => Lib.run_eql_slice_nil (P := Tryd.prog) w 22 28 A xs.length cap 0 0 Tryd.underlying22
  rcases A with _ | ad
  · have hxs : xs = [] := by
      rcases Nat.eq_zero_or_pos xs.length with h0 | h0
      · exact List.eq_nil_of_length_eq_zero h0
      · obtain ⟨b, off, e, _⟩ := hsrc h0; cases e
    subst hxs
    clear hsrc hlc hl
    simp only [Option.isNone_none, List.length_nil] at hnil
    simp only [List.length_nil]
    go_enter Tryd.func52, Tryd.ntmps52
    go_wp2
    go_ret
    exact ⟨_, rfl, Sl.nil _ _, Fr.refl _ _⟩
  · have own0 : Own .u64 28 w (w.alloc (.cells #[] 28)) (.slice (some ⟨w.heap.size, 0, none⟩) 0 0) [] := Own.lit0 _ _ _ _ (Nat.le_refl _)
    have fr0 : Fr [] w (w.alloc (.cells #[] 28)) := (Fr.refl _ _).alloc _
    have sl0 : Sl .u64 (w.alloc (.cells #[] 28)) (.slice (some ad) xs.length cap) xs := Sl.fr0 ⟨_, cap, rfl, hlc, hm, hsrc⟩ fr0
    simp only [Option.isNone_some] at hnil
    clear hsrc hlc
    go_enter Tryd.func52, Tryd.ntmps52
    go_wp2_with (at_builtin; refine wp_apps rfl (.tmp 5) (.tmp 6) _ rfl .u64 _ 8 ty_uints (by omega) w [] _ _ _ _ rfl own0 fr0 rfl sl0 (by simp; omega) ?_; intro v1 w1 own1 fr1; clear sl0 own0 fr0)
    go_ret
    exact ⟨_, rfl, by simpa using own1.sl, fr1⟩

def CopyRel (T : TypeId) (xs : List Int) (w0 : World) (g : Nat) (iv : Value) (wr : World) : Prop :=
  ∃ i : Nat, i ≤ xs.length ∧ g = xs.length - i ∧ iv = .int .i64 i ∧ Row .u64 T wr w0.heap.size (xs.take i ++ List.replicate (xs.length - i) 0) ∧ Fr [] w0 wr
theorem copyRow {xs : List Int} {i : Nat} (hi : i < xs.length) : (xs.take i ++ List.replicate (xs.length - i) 0).set i (xs.getD i 0) = xs.take (i + 1) ++ List.replicate (xs.length - (i + 1)) 0 := by
  rw [List.set_append_right _ _ (by rw [List.length_take]; omega), List.length_take, Nat.min_eq_left (by omega), Nat.sub_self, List.take_succ_eq_append_getElem hi, getD_in hi]
  obtain ⟨m, hm⟩ : ∃ m, xs.length - i = m + 1 := ⟨xs.length - i - 1, by omega⟩
  have : xs.length - (i + 1) = m := by omega
  rw [hm, this, List.replicate_succ, List.set_cons_zero, List.append_assoc]
  rfl

set_option maxRecDepth 100000 in
theorem zzIn_any (v : Value) (xs : List Int) (w : World) (hx : Sl .u64 w v xs) (hl : xs.length ≤ 1000000) :
    Calls Tryd.prog 68 #[v] w fun e w' => ∃ b, e = .returned (.slice (some ⟨b, 0, none⟩) xs.length xs.length) ∧ Row .u64 77 w' b xs ∧ w.heap.size ≤ b ∧ Fr [] w w' := by
  obtain ⟨A, cap, rfl, hlc, hm, hsrc⟩ := hx
  unfold maxLen at hm
  have hmk := mk_big xs.length (by omega)
  go_enter Tryd.func68, Tryd.ntmps68
  go_wp2_with fail
  clear hmk
  go_loopg [11] xs.length (CopyRel 77 xs w)
  case atStart => exact ⟨0, by omega, rfl, rfl, by simpa using Row.zeros w .u64 77 xs.length, (Fr.refl _ _).alloc _⟩
  case round =>
    obtain ⟨i, hi, rfl, rfl, hrow, hf⟩ := hrel
    by_cases h1 : i < xs.length
    · obtain ⟨b, off, rfl, hb, hs⟩ := hsrc (by omega)
      have hc := (hs.fr hf (by simp)) i h1
      have hz := hrow.cell (i := i) (by simp; omega)
      have hfz := hrow.frozen i
      obtain ⟨x, hx⟩ : ∃ x, x = xs.getD i 0 := ⟨_, rfl⟩
      rw [← hx] at hc
      have HX := Lib.hid hx
      clear hx hs hsrc
      go_wp2_with fail
      go_roundg (xs.length - (i + 1))
      case measure => omega
      case rel =>
        refine ⟨i + 1, by omega, rfl, by go_num, ?_, hf.set (.inr (Nat.le_refl _)) _⟩
        have := hrow.set i x
        rwa [HX.out, copyRow h1, ← HX.out] at this
    · obtain rfl : i = xs.length := by omega
      clear hsrc
      go_wp2_with fail
      go_ret
      exact ⟨_, rfl, by simpa using hrow, Nat.le_refl _, hf⟩

set_option maxRecDepth 100000 in
theorem zzOut_any (v : Value) (xs : List Int) (w : World) (hx : Sl .u64 w v xs) (hl : xs.length ≤ 4000000) : Calls Tryd.prog 75 #[v] w (RetSl xs w) := by
  obtain ⟨A, cap, rfl, hlc, hm, hsrc⟩ := hx
  unfold maxLen at hm
  have hmk := mk_uints xs.length (by omega)
  go_enter Tryd.func75, Tryd.ntmps75
  go_wp2_with fail
  clear hmk
  go_loopg [11] xs.length (CopyRel 28 xs w)
  case atStart => exact ⟨0, by omega, rfl, rfl, by simpa using Row.zeros w .u64 28 xs.length, (Fr.refl _ _).alloc _⟩
  case round =>
    obtain ⟨i, hi, rfl, rfl, hrow, hf⟩ := hrel
    by_cases h1 : i < xs.length
    · obtain ⟨b, off, rfl, hb, hs⟩ := hsrc (by omega)
      have hc := (hs.fr hf (by simp)) i h1
      have hz := hrow.cell (i := i) (by simp; omega)
      have hfz := hrow.frozen i
      obtain ⟨x, hx⟩ : ∃ x, x = xs.getD i 0 := ⟨_, rfl⟩
      rw [← hx] at hc
      have HX := Lib.hid hx
      clear hx hs hsrc
      go_wp2_with fail
      go_roundg (xs.length - (i + 1))
      case measure => omega
      case rel =>
        refine ⟨i + 1, by omega, rfl, by go_num, ?_, hf.set (.inr (Nat.le_refl _)) _⟩
        have := hrow.set i x
        rwa [HX.out, copyRow h1, ← HX.out] at this
    · obtain rfl : i = xs.length := by omega
      clear hsrc
      go_wp2_with fail
      go_ret
      have hr : Row .u64 28 wr w.heap.size xs := by simpa using hrow
      refine ⟨_, rfl, ⟨_, xs.length, rfl, Nat.le_refl _, by unfold maxLen; omega, fun hp => ⟨_, 0, rfl, hr.lt, fun j hj => by rw [Nat.zero_add]; exact hr.cell hj⟩⟩, hf⟩

set_option maxRecDepth 100000 in
theorem bnorm_any (A : Option Addr) (cap : Nat) (ds : List Int) (w : World) (hl : ds.length ≤ cap) (hm : cap ≤ maxLen) (hA : 0 < ds.length → ∃ b off, A = some ⟨b, off, none⟩ ∧ Src .u64 w b off ds) :
    Calls Tryd.prog 88 #[.slice A ds.length cap] w (Trimmed A cap ds w) := by
  unfold maxLen at hm
  go_enter Tryd.func88, Tryd.ntmps88
  go_wp2_with fail
  go_loopg [3] (ds.length + 1) (fun g iv wr => ∃ i : Nat, i ≤ ds.length ∧ g = i + 1 ∧ iv = .int .i64 i ∧ (∀ j, i ≤ j → j < ds.length → ds.getD j 0 = 0) ∧ w = wr)
  case atStart => exact ⟨ds.length, Nat.le_refl _, rfl, rfl, fun j h1 h2 => absurd h2 (by omega), rfl⟩
  case round =>
    obtain ⟨i, hi, rfl, rfl, hz, rfl⟩ := hrel
    have HZ := Lib.hid hz
    clear hz
    rcases Nat.eq_zero_or_pos i with rfl | hp
    · go_wp2_with fail
      go_ret
      exact ⟨0, ⟨by omega, .inl rfl, HZ.out⟩, rfl, rfl⟩
    · obtain ⟨k, rfl⟩ : ∃ k, i = k + 1 := ⟨i - 1, by omega⟩
      obtain ⟨b, off, rfl, hs⟩ := hA (by omega)
      have hc := hs k (by omega)
      obtain ⟨x, hx⟩ : ∃ x, x = ds.getD k 0 := ⟨_, rfl⟩
      rw [← hx] at hc
      have HX := Lib.hid hx
      clear hx hs hA
      by_cases h0 : x = 0
      · subst h0
        go_wp2_with fail
        go_roundg (k + 1)
        case measure => omega
        case rel =>
          refine ⟨k, by omega, rfl, rfl, fun j h1 h2 => ?_, rfl⟩
          by_cases e : j = k
          · subst e; exact HX.out.symm
          · exact HZ.out j (by omega) h2
      · go_wp2_with fail
        go_ret
        exact ⟨k + 1, ⟨hi, .inr (by rw [Nat.add_sub_cancel, ← HX.out]; exact h0), HZ.out⟩, rfl, rfl⟩
end Go.Proofs.YtknokndpeneogaaDoor
