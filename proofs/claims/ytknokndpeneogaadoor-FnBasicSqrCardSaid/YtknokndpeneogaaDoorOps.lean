/-
  Laws of the walk for slices of integers: append to a row of the call's own, make. Conditions: each theorem bears its own.
-/
import Derived.Test.YtknokndpeneogaaDoorMem
import Derived.OwnWalk
set_option linter.unusedSimpArgs false
set_option linter.unusedVariables false
namespace Go.Big
open Go.RowKit

/-- the slice value v owns the integers xs: new memory since w0 -/
def Own (k : IntKind) (T : TypeId) (w0 w : World) (v : Value) (xs : List Int) : Prop := w.ownsRow w0.heap.size T 1 v xs.length (xs.map (Value.int k))

/-- the row of the table of an integer element type -/
def IntTy (P : Program) (k : IntKind) (t T : TypeId) (bytes : Nat) : Prop :=
  P.underlying t = some (.slice T) ∧ (P.info? T).map (fun i => (i.zero, i.size, i.bytes)) = some (some (.int k 0), 1, bytes)

section
variable {k : IntKind} {T : TypeId} {w0 w w1 : World} {v : Value} {xs ys : List Int} {S : List Nat}

theorem Own.nil (k : IntKind) (T : TypeId) (w0 w : World) : Own k T w0 w (.slice none 0 0) [] := World.ownsRow_nil _ _ _ _
theorem Own.alloc (h : Own k T w0 w v xs) (o : Obj) : Own k T w0 (w.alloc o) v xs := World.ownsRow.alloc h o
theorem Own.lit0 (k : IntKind) (T : TypeId) (w0 w : World) (h : w0.heap.size ≤ w.heap.size) : Own k T w0 (w.alloc (.cells #[] T)) (.slice (some ⟨w.heap.size, 0, none⟩) 0 0) [] :=
  World.ownsRow_lit w #[] 0 h (by simp) (by simp)
theorem Own.addr (h : Own k T w0 w v xs) (hne : 0 < xs.length) : ∃ g cap, v = .slice (some ⟨g, 0, none⟩) xs.length cap ∧ w0.heap.size ≤ g ∧ xs.length ≤ cap ∧ cap ≤ maxLen ∧
    (∀ j, j < xs.length → w.cell? ⟨g, j, none⟩ = some (.int k (xs.getD j 0))) ∧ (∀ j, w.frozen? ⟨g, j, none⟩ = false) := by
  obtain ⟨hl, ⟨rfl, hn⟩ | ⟨g, cap, cur, rfl, hb, hg, hn, hc, hs, ht⟩⟩ := h
  · omega
  · have hown : w.ownsRow w0.heap.size T 1 (.slice (some ⟨g, 0, none⟩) xs.length cap) xs.length (xs.map (Value.int k)) := ⟨hl, .inr ⟨g, cap, cur, rfl, hb, hg, hn, hc, hs, ht⟩⟩
    refine ⟨g, cap, rfl, hb, hn, hc, fun j hj => ?_, fun j => World.ownsRow.frozenAt hown j⟩
    rw [World.ownsRow.cellAt hown j (by omega)]
    simp [hj, List.getD_eq_getElem?_getD]
theorem Own.set {g cap : Nat} (h : Own k T w0 w (.slice (some ⟨g, 0, none⟩) xs.length cap) xs) (j : Nat) (y : Int) :
    Own k T w0 (w.setCell ⟨g, j, none⟩ (.int k y)) (.slice (some ⟨g, 0, none⟩) xs.length cap) (xs.set j y) := by
  have := (World.ownsRow.stored h j (.int k y)).1
  unfold Own
  rw [List.length_set, List.map_set]
  exact this
theorem Own.drewN (h : Own k T w0 w v xs) (n : Nat) : Own k T w0 (w.drewN n) v xs := h
theorem Own.sl (h : Own k T w0 w v xs) : Sl k w v xs := by
  obtain ⟨hl, ⟨rfl, hn⟩ | ⟨g, cap, cur, rfl, hb, hg, hn, hc, hs, ht⟩⟩ := h
  · have : xs = [] := List.eq_nil_of_length_eq_zero hn
    subst this
    exact Sl.nil _ _
  · refine ⟨_, cap, rfl, hn, hc, fun hp => ⟨g, 0, rfl, ?_, fun j hj => ?_⟩⟩
    · rcases Nat.lt_or_ge g w.heap.size with hlt | hge
      · exact hlt
      · rw [Array.getElem?_eq_none hge] at hg; cases hg
    · rw [cell_of_row w g (0 + j) cur T (0, 0) hg]
      have h1 : (cur.toList.take (xs.length * 1))[j]? = (xs.map (Value.int k))[j]? := by rw [ht]
      rw [List.getElem?_take] at h1
      simp only [Nat.mul_one, hj, if_true, Array.getElem?_toList] at h1
      rw [Nat.zero_add, h1]
      simp [hj, List.getD_eq_getElem?_getD]
end

section
variable {P : Program} {ops : Array Oper} {rest : List Oper} {o : Oper} {a : Act} {Q : Exit → Act → World → Prop}

theorem grown_fr {w0 w w' : World} {S : List Nat} {k : IntKind} {T : TypeId} {v : Value} {xs : List Int} (hf : Fr S w0 w) (hown : Own k T w0 w v xs) (hg : w.grownBy w' v.ownBlock) : Fr S w0 w' :=
  hf.grown hg fun g hgv => .inr (World.ownsRow.lt hown g hgv).1

/-- 'append(out, y)': y was laid in a new one-cell block -/
theorem wp_app1 {w : World} (hgd : o.guard = none) (s x : Operand) (t : TypeId) (ho : o.op = .call { callee := .builtin .append, args := #[s, x], argTypes := #[t, t] })
    (k : IntKind) (T : TypeId) (bytes : Nat) (ht : IntTy P k t T bytes) (hby : bytes ≤ 8) (w0 : World) (S : List Nat) (v : Value) (xs : List Int) (y : Int)
    (hs : a.eval s = v) (hown : Own k T w0 w v xs) (hf : Fr S w0 w) (hx : a.eval x = .slice (some ⟨w.heap.size, 0, none⟩) 1 1) (hlen : xs.length < 1099511627776)
    (h : ∀ v' w', Own k T w0 w' v' (xs ++ [y]) → Fr S w0 w' → wpList P ops Q rest (a.put o.dst v') w') :
    wpList P ops Q (o :: rest) a (w.alloc (.cells #[.int k y] T)) := by
  obtain ⟨ht, hi⟩ := ht
  obtain ⟨i, hi, hz, hsz, hb⟩ := info_parts hi
  refine wpList_append_own _ hgd s x t ho w0.heap.size T i (.int k 0) 1 bytes ht hi hz hsz hb rfl (by omega) v xs.length (xs.map (Value.int k)) hs (hown.alloc _) _ 1 1 [.int k y] hx rfl
    ?_ ?_ ?_ ?_ ?_ ?_
  · intro j u hj
    rcases Nat.eq_zero_or_pos j with rfl | hp
    · simp at hj; subst hj; rw [show (⟨w.heap.size, 0, none⟩ : Addr).add 0 = ⟨w.heap.size, 0, none⟩ from rfl, World.cell?_alloc_at _ _ _ _ rfl]; rfl
    · rw [List.getElem?_eq_none (by simp; omega)] at hj; cases hj
  · intro u hu; simp at hu; subst hu; rfl
  · unfold maxLen; omega
  · have : (xs.length + 1) * bytes ≤ 1099511627776 * 8 := Nat.mul_le_mul (by omega) hby
    omega
  · exact Nat.le_trans hf.size (by simp)
  · intro v' w' hown' hg _
    refine h v' w' ?_ (grown_fr (hf.alloc _) (hown.alloc _) hg)
    unfold Own
    simpa using hown'

theorem cells_list (k : IntKind) (n : Nat) : (madeCells #[.int k 0] n) = ((List.replicate n (0 : Int)).map (Value.int k)).toArray := by
  apply Array.toList_inj.1
  rw [toList_madeCells_one]
  simp

/-- 'make([]T, n)' -/
theorem run_mk (k : IntKind) (t T : TypeId) (bytes : Nat) (ht : IntTy P k t T bytes) (hby : bytes ≤ 8) (n : Nat) (hn : n ≤ 1099511627776) (w : World) :
    (Instr.makeSlice t (.int .i64 (n : Int)) (.int .i64 (n : Int))).run P w =
      .ok (.slice (some ⟨w.heap.size, 0, none⟩) n n) (w.alloc (.cells (Array.replicate n (Value.int k 0)) T)) := by
  obtain ⟨ht, hi⟩ := ht
  obtain ⟨i, hi, hz, hsz, hb⟩ := info_parts hi
  have hbb : (i.bytes : Int) * (n : Int) ≤ 281474976710656 := by
    have : bytes * n ≤ 8 * 1099511627776 := Nat.mul_le_mul hby hn
    rw [hb]; omega
  have := run_make (P := P) w t T i (.int k 0) ht hi hz .i64 .i64 (n : Int) (n : Int) (by omega) (by omega) hbb (by omega)
  rw [this]
  simp only [Int.toNat_natCast, hsz, Nat.mul_one]
  rw [show (Value.int k 0).cells = #[.int k 0] from rfl, cells_list]
  simp

/-- 'make([]T, n)': a new row of noughts -/
theorem wp_mk {w : World} (hgd : o.guard = none) (l c : Operand) (t : TypeId) (ho : o.op = .makeSlice t l c) (k : IntKind) (T : TypeId) (bytes : Nat) (ht : IntTy P k t T bytes) (hby : bytes ≤ 8)
    (n : Nat) (hl : a.eval l = .int .i64 (n : Int)) (hc : a.eval c = .int .i64 (n : Int)) (hn : n ≤ 1099511627776)
    (h : ∀ g w', w.heap.size ≤ g → Row k T w' g (List.replicate n 0) → Fr [] w w' → wpList P ops Q rest (a.put o.dst (.slice (some ⟨g, 0, none⟩) n n)) w') : wpList P ops Q (o :: rest) a w := by
  refine wpList_plain hgd fun K hK => ?_
  have hrun := run_mk k t T bytes ht hby n hn w
  unfold Oper.wp
  simp [execOp, ho, hl, hc, hrun, Result.andThen]
  exact hK _ _ (h _ _ (Nat.le_refl _) (Row.zeros _ _ _ _) ((Fr.refl _ _).alloc _))

/-- 'append(out, ys...)', ys from anywhere -/
theorem wp_apps {w : World} (hgd : o.guard = none) (s x : Operand) (t : TypeId) (ho : o.op = .call { callee := .builtin .append, args := #[s, x], argTypes := #[t, t] })
    (k : IntKind) (T : TypeId) (bytes : Nat) (ht : IntTy P k t T bytes) (hby : bytes ≤ 8) (w0 : World) (S : List Nat) (v : Value) (xs : List Int) (v2 : Value) (ys : List Int)
    (hs : a.eval s = v) (hown : Own k T w0 w v xs) (hf : Fr S w0 w) (hx : a.eval x = v2) (hy : Sl k w v2 ys) (hlen : xs.length + ys.length < 1099511627776)
    (h : ∀ v' w', Own k T w0 w' v' (xs ++ ys) → Fr S w0 w' → wpList P ops Q rest (a.put o.dst v') w') : wpList P ops Q (o :: rest) a w := by
  obtain ⟨ht, hi⟩ := ht
  obtain ⟨i, hi, hz, hsz, hb⟩ := info_parts hi
  obtain ⟨A, cap, rfl, h1, h2, h3⟩ := hy
  have hbytes : (xs.length + ys.length) * bytes ≤ 140737488355328 := by
    have : (xs.length + ys.length) * bytes ≤ 1099511627776 * 8 := Nat.mul_le_mul (by omega) hby
    omega
  have fin : ∀ v' w', w'.ownsRow w0.heap.size T 1 v' (xs.length + ys.length) (xs.map (Value.int k) ++ ys.map (Value.int k)) → w.grownBy w' v.ownBlock → wpList P ops Q rest (a.put o.dst v') w' := by
    intro v' w' hown' hg
    refine h v' w' ?_ (grown_fr hf hown hg)
    unfold Own
    simpa using hown'
  rcases A with _ | ad
  · have hys : ys = [] := by
      rcases Nat.eq_zero_or_pos ys.length with h0 | h0
      · exact List.eq_nil_of_length_eq_zero h0
      · obtain ⟨b, off, e, _⟩ := h3 h0; cases e
    subst hys
    have hrun : (Builtin.append_ #[t, t] o.type #[v, .slice none ([] : List Int).length cap]).run P w = .ok v w := by
      rcases hown.2 with ⟨rfl, hn⟩ | ⟨g, cap', cur, rfl, _, _, hnc, _⟩
      · simp [Builtin.append_, run_underlying ht, sizeOf, typeInfo, hi, Builtin.lenOf, Builtin.firstCells]
      · simp [Builtin.append_, run_underlying ht, sizeOf, typeInfo, hi, Builtin.lenOf, Builtin.firstCells, hnc, storeCells]
    refine wpList_plain hgd fun K hK => ?_
    unfold Oper.wp execOp
    simp only [ho, resolve, invoke, builtin, Sem.run_bind, Sem.run_pure, Result.andThen_ok, List.map_toArray, List.map_cons, List.map_nil, hs, hx, hrun]
    exact hK _ _ (fin v w (by simpa [Own] using hown) ⟨rfl, rfl, rfl, Nat.le_refl _, fun _ _ _ => rfl⟩)
  · refine wpList_append_own _ hgd s x t ho w0.heap.size T i (.int k 0) 1 bytes ht hi hz hsz hb rfl (by omega) v xs.length (xs.map (Value.int k)) hs hown ad ys.length cap (ys.map (Value.int k)) hx (by simp)
      ?_ (ints_oneCell k ys) (by unfold maxLen; omega) hbytes hf.size fun v' w' h1 h2 _ => fin v' w' h1 h2
    intro j u hj
    rw [List.getElem?_map] at hj
    have hlt : j < ys.length := by
      rcases Nat.lt_or_ge j ys.length with hl | hl
      · exact hl
      · rw [List.getElem?_eq_none hl] at hj; cases hj
    obtain ⟨b, off, e, _, hsrc⟩ := h3 (by omega)
    injection e with e
    subst e
    have hc := hsrc j hlt
    rw [List.getElem?_eq_getElem hlt] at hj
    simp only [Option.map_some, Option.some.injEq] at hj
    subst hj
    rw [getD_in hlt] at hc
    rw [← hc]
    unfold Addr.add
    split
    · rename_i hj0; subst hj0; rfl
    · rfl
end

end Go.Big
