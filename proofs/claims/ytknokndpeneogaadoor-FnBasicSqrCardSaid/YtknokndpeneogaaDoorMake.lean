/-
  nat.make at a nil receiver, setWord, mulAddWW. Conditions: what is read can be read.
-/
import Derived.Test.YtknokndpeneogaaDoorVec
import Derived.Test.YtknokndpeneogaaDoorNormed
set_option linter.unusedSimpArgs false
set_option linter.unusedVariables false
namespace Go.Big
open Go.RowKit
section
variable {P : Program} {ops : Array Oper} {rest : List Oper} {o : Oper} {a : Act} {Q : Exit → Act → World → Prop}
/-- 'make([]T, n, c)': a new row of c noughts -/
theorem wp_mkc {w : World} (hgd : o.guard = none) (l c : Operand) (t : TypeId) (ho : o.op = .makeSlice t l c) (k : IntKind) (T : TypeId) (bytes : Nat) (ht : IntTy P k t T bytes) (hby : bytes ≤ 8)
    (n m : Nat) (hl : a.eval l = .int .i64 (n : Int)) (hc : a.eval c = .int .i64 (m : Int)) (hnm : n ≤ m) (hn : m ≤ 1099511627776)
    (h : ∀ g w', w.heap.size ≤ g → Row k T w' g (List.replicate m 0) → Fr [] w w' → wpList P ops Q rest (a.put o.dst (.slice (some ⟨g, 0, none⟩) n m)) w') : wpList P ops Q (o :: rest) a w := by
  refine wpList_plain hgd fun K hK => ?_
  obtain ⟨ht, hi⟩ := ht
  obtain ⟨i, hi, hz, hsz, hb⟩ := info_parts hi
  have hbb : (i.bytes : Int) * (m : Int) ≤ 281474976710656 := by
    have : bytes * m ≤ 8 * 1099511627776 := Nat.mul_le_mul hby hn
    rw [hb]; omega
  have hrun := run_make (P := P) w t T i (.int k 0) ht hi hz .i64 .i64 (n : Int) (m : Int) (by omega) (by omega) hbb (by omega)
  simp only [Int.toNat_natCast, hsz, Nat.mul_one] at hrun
  rw [show (Value.int k 0).cells = #[.int k 0] from rfl, cells_list, List.map_replicate, List.toArray_replicate] at hrun
  unfold Oper.wp
  simp [execOp, ho, hl, hc, hrun, Result.andThen]
  exact hK _ _ (h _ _ (Nat.le_refl _) (Row.zeros _ _ _ _) ((Fr.refl _ _).alloc _))
end
end Go.Big
namespace Go.Proofs.YtknokndpeneogaaDoor
open Go.Big Go.RowKit
set_option maxRecDepth 100000 in
set_option maxHeartbeats 1000000 in
theorem make_any (n : Nat) (w : World) (hn0 : 0 < n) (hn : n ≤ 1000000000) :
    Calls Tryd.prog 97 #[.slice none 0 0, .int .i64 (n : Int)] w fun e w' => ∃ b c, e = .returned (.slice (some ⟨b, 0, none⟩) n c) ∧ n ≤ c ∧ c ≤ n + 4 ∧ Row .u64 77 w' b (List.replicate c 0) ∧ w.heap.size ≤ b ∧ Fr [] w w' := by
  by_cases h1 : n = 1
  · subst h1
    go_enter Tryd.func97, Tryd.ntmps97
    go_wp2_with (at_make; refine wp_mkc rfl (.const (.int .i64 1)) (.const (.int .i64 1)) _ rfl .u64 77 8 ty_big (by omega) 1 1 rfl rfl (by omega) (by omega) ?_; intro g w1 hg row f)
    go_ret
    exact ⟨g, 1, rfl, by omega, by omega, row, hg, f⟩
  · have hw : IntKind.i64.wrap ((n : Int) + 4) = ((n + 4 : Nat) : Int) := by rw [IntKind.wrap_i64]; omega
    have h1' : ((n : Int) == 1) = false := by rw [beq_eq_false_iff_ne]; omega
    go_enter Tryd.func97, Tryd.ntmps97
    go_wp2_with (at_make; refine wp_mkc rfl (.tmp 15) (.tmp 17) _ rfl .u64 77 8 ty_big (by omega) n (n + 4) rfl (by first | rfl | (show Value.int IntKind.i64 _ = _; congr 1)) (by omega) (by omega) ?_; intro g w1 hg row f)
    go_ret
    exact ⟨g, n + 4, rfl, by omega, by omega, row, hg, f⟩
end Go.Proofs.YtknokndpeneogaaDoor
