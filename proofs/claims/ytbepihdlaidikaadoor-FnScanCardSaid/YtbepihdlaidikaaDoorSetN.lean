/-
  nat.make of no words, nat.set, nat.trunc, nat.setBit, nat.sticky at a nil receiver; clear. Conditions: what is read can be read.
-/
import Derived.Test.YtbepihdlaidikaaDoorgMk
import Derived.Test.YtbepihdlaidikaaDoorBitOps
import Derived.Test.YtbepihdlaidikaaDoorBit
import Derived.Lib.SliceRun
set_option linter.unusedSimpArgs false
set_option linter.unusedVariables false
namespace Go.Big
open Go.RowKit
section
variable {P : Program} {ops : Array Oper} {rest : List Oper} {o : Oper} {a : Act} {Q : Exit → Act → World → Prop}
theorem setCells_row {k : IntKind} {T : TypeId} {w : World} {g off n : Nat} {L : List Int} (h : Row k T w g L) (hfit : off + n ≤ L.length) :
    Row k T (w.setCells g off (List.replicate n (.int k 0))) g (spl L off (List.replicate n 0)) ∧ Fr [g] w (w.setCells g off (List.replicate n (.int k 0))) := by
  induction n generalizing w L off with
  | zero => simp only [List.replicate_zero, World.setCells]; rw [spl_nil]; exact ⟨h, Fr.refl _ _⟩
  | succ n ih =>
    simp only [List.replicate_succ, World.setCells]
    have h1 := h.set off 0
    have h2 := ih (off := off + 1) h1 (by rw [List.length_set]; omega)
    refine ⟨?_, ?_⟩
    · have e : spl (L.set off 0) (off + 1) (List.replicate n 0) = spl L off (0 :: List.replicate n 0) := by
        unfold spl
        rw [List.take_set, List.drop_set_of_lt (by simp; omega), List.take_succ_eq_append_getElem (by omega), List.set_append_right _ _ (by rw [List.length_take]; omega), List.length_take, Nat.min_eq_left (by omega), Nat.sub_self]
        simp [Nat.add_assoc, Nat.add_comm 1]
      rw [← e]
      exact h2.1
    · have h3 : Fr [g] w (w.setCell ⟨g, off, none⟩ (.int k 0)) := by apply Fr.set _ (.inl (by simp)); exact Fr.refl _ _
      exact h3.trans h2.2 (fun _ hx _ => hx)
/-- 'clear(z)' of a part of a row -/
theorem run_clear_row {w : World} (k : IntKind) (t T ty : TypeId) (bytes : Nat) (ht : IntTy P k t T bytes) (dp : Option Addr) (g off n c : Nat) (L : List Int) (hrow : Row k T w g L) (hdp : 0 < n → dp = some ⟨g, off, none⟩) (hfit : off + n ≤ L.length) :
    ∃ w', (Builtin.clear_ #[t] ty #[.slice dp n c]).run P w = .ok (.tuple #[]) w' ∧ Row k T w' g (spl L off (List.replicate n 0)) ∧ Fr [g] w w' := by
  obtain ⟨ht, hi⟩ := ht
  obtain ⟨i, hi, hz, hsz, hb⟩ := info_parts hi
  by_cases h0 : n = 0
  · subst h0
    refine ⟨w, ?_, ?_, Fr.refl _ _⟩
    · cases dp <;> simp [Builtin.clear_, run_underlying ht]
    · rw [List.replicate_zero, spl_nil]; exact hrow
  · obtain rfl := hdp (by omega)
    refine ⟨_, Lib.run_clear_slice w t T ty (.int k 0) ht (fun w => by simp [zeroValue, typeInfo, hi, hz]) rfl rfl g off n c (by omega) (fun j hj => by rw [hrow.cell (by omega)]; rfl) (fun j hj => hrow.frozen _), setCells_row hrow hfit⟩
theorem wp_clear {w : World} (hgd : o.guard = none) (d : Operand) (t : TypeId) (ho : o.op = .call { callee := .builtin .clear, args := #[d], argTypes := #[t] }) (k : IntKind) (T : TypeId) (bytes : Nat) (ht : IntTy P k t T bytes)
    (dp : Option Addr) (g off n c : Nat) (hd : a.eval d = .slice dp n c) (hdp : 0 < n → dp = some ⟨g, off, none⟩) (L : List Int) (hrow : Row k T w g L) (hfit : off + n ≤ L.length)
    (h : ∀ w', Row k T w' g (spl L off (List.replicate n 0)) → Fr [g] w w' → wpList P ops Q rest (a.put o.dst (.tuple #[])) w') : wpList P ops Q (o :: rest) a w := by
  refine wpList_plain hgd fun K hK => ?_
  obtain ⟨w', hrun, h1, h2⟩ := run_clear_row (P := P) k t T o.type bytes ht dp g off n c L hrow hdp hfit
  unfold Oper.wp
  simp [execOp, ho, resolve, invoke, builtin, hd, hrun, Result.andThen]
  exact hK _ _ (h _ h1 h2)
end
theorem spl_set_in {L : List Int} {o : Nat} {cs : List Int} {j : Nat} (hL : o ≤ L.length) (h : j < cs.length) (v : Int) : (spl L o cs).set (o + j) v = spl L o (cs.set j v) := by
  have ht : (L.take o).length = o := by rw [List.length_take]; omega
  unfold spl
  rw [List.set_append_right _ _ (by omega), ht, Nat.add_sub_cancel_left, List.set_append_left _ _ h, List.length_set]
theorem spl_get_in {L : List Int} {o : Nat} {cs : List Int} {j : Nat} (hL : o ≤ L.length) (h : j < cs.length) : (spl L o cs).getD (o + j) 0 = cs.getD j 0 := by
  have ht : (L.take o).length = o := by rw [List.length_take]; omega
  simp only [List.getD_eq_getElem?_getD]
  unfold spl
  rw [List.getElem?_append_right (by omega), ht, Nat.add_sub_cancel_left, List.getElem?_append_left h]
theorem spl0_set {L cs : List Int} {j : Nat} {v : Int} (h : j < cs.length) : (spl L 0 cs).set j v = spl L 0 (cs.set j v) := by
  have := spl_set_in (L := L) (o := 0) (by omega) h v
  rwa [Nat.zero_add] at this
theorem spl0_get {L cs : List Int} {j : Nat} (h : j < cs.length) : (spl L 0 cs).getD j 0 = cs.getD j 0 := by
  have := spl_get_in (L := L) (o := 0) (by omega) h
  rwa [Nat.zero_add] at this
theorem take_set_top {xs : List Int} {m : Nat} {t : Int} (h : m < xs.length) : (xs.take (m + 1)).set m t = xs.take m ++ [t] := by
  rw [List.take_succ_eq_append_getElem h, List.set_append_right _ _ (by rw [List.length_take]; omega), List.length_take, Nat.min_eq_left (by omega), Nat.sub_self]
  simp
theorem fr_same' {w w1 w2 : World} {b : Nat} (h : Fr [b] w w1) (h' : Fr [b] w1 w2) : Fr [b] w w2 := h.trans h' (fun _ hx _ => hx)
end Go.Big
namespace Go.Proofs.YtbepihdlaidikaaDoor
open Go.Big Go.RowKit
theorem size_wordS : (Tryd.prog.info? 48).map (·.size) = some 1 := by kernel_rfl
set_option maxRecDepth 100000 in
theorem make0 (w : World) : Calls Tryd.prog 29 #[.slice none 0 0, .int .i64 0] w fun e w' => e = .returned (.slice none 0 0) ∧ w = w' := by
  go_enter Tryd.func29, Tryd.ntmps29
  go_wp2_with fail
  go_ret
  exact ⟨rfl, rfl⟩
set_option maxRecDepth 100000 in
theorem set_any (v : Value) (X : Int) (w : World) (h : SW w v X) (hX : X < BIG) : Calls Tryd.prog 33 #[.slice none 0 0, v] w (RetW X w) := by
  have H := Lib.hid h
  obtain ⟨xs, sl, dx, zx, rfl⟩ := h
  have hl := len_BIG64 dx zx hX
  have SL := Lib.hid sl
  obtain ⟨A, cap, rfl, hlc, hm, hs⟩ := sl
  unfold maxLen at hm
  have DX := Lib.hid dx
  have ZX := Lib.hid zx
  clear hs dx zx hX
  by_cases h0 : xs.length = 0
  · have hx : xs = [] := List.eq_nil_of_length_eq_zero h0
    subst hx
    simp only [List.length_nil] at *
    clear h0
    go_enter Tryd.func33, Tryd.ntmps33
    go_wp2_with (first
      | (go_at_call 29; refine (make0 _).mono ?_; rintro e w1 ⟨rfl, rfl⟩)
      | (refine wpList_copy_nothing rfl (.tmp 9) (.tmp 10) _ _ rfl 48 Tryd.underlying36 size_wordS none A 0 0 0 cap rfl rfl rfl ?_))
    go_ret
    exact ⟨_, rfl, SW.zero _, Fr.refl _ _⟩
  · have HM := Lib.hid (fun W => make_any xs.length W (by omega) (by omega))
    go_enter Tryd.func33, Tryd.ntmps33
    go_wp2_with (first
      | (go_at_call 29; refine (HM.out _).mono ?_; rintro e w1 ⟨b, c, rfl, hc1, hc2, row, hb, f⟩; have HROW := Lib.hid row; clear row)
      | (refine wp_copy rfl (.tmp 9) (.tmp 10) _ _ rfl .u64 48 Tryd.underlying36 size_wordS b 0 xs.length c rfl _ xs rfl (SL.out.fr0 f) (List.replicate c 0) HROW.out (by simp; omega) ?_; intro w2 row2 f2; have HR2 := Lib.hid row2; clear row2))
    go_ret
    have row2 := HR2.out
    rw [List.take_length] at row2
    exact ⟨_, rfl, ⟨xs, (src_spl row2 (by simp; omega)).sl rfl hc1 (by unfold maxLen; omega), DX.out, ZX.out, rfl⟩, fr_new'' f f2 hb⟩
end Go.Proofs.YtbepihdlaidikaaDoor
