/-
  The stack of numbers: save, restore, nat. Conditions: the stack's blocks are as such.
-/
import Derived.Test.YtknokndpeneogaaDoorStk
import Derived.Defers
set_option linter.unusedSimpArgs false
set_option linter.unusedVariables false
namespace Go.Big
/-- a function's end where it defers, and does not panic -/
def bodyPostN (P : Program) (fn : Func) (R : Ending → World → Prop) : Exit → Act → World → Prop
  | .normal, a, w | .ret, a, w => Leaves P fn a.tmps R a.defers .returning w
  | .outgrown, _, w => R .outgrown w
  | _, _, _ => False
theorem bodyPostN_D {P : Program} {fn : Func} {R : Ending → World → Prop} : ∀ e a w, bodyPostN P fn R e a w → bodyPostD P fn R e a w := by
  intro e a w h
  cases e <;> first | exact h | exact h.elim
end Go.Big
namespace Go.Proofs.YtknokndpeneogaaDoor
open Go.Big Go.RowKit
/-- a stack that has its memory: the inner struct's block, the row's, how much is in use, how much there is -/
structure StkSt where
  si : Nat
  g : Nat
  len : Nat
  cap : Nat
def lenS : Option StkSt → Nat
  | none => 0
  | some q => q.len
/-- the inner struct holds a row of words, all its cells known -/
def StkIn (w : World) (q : StkSt) : Prop :=
  w.heap[q.si]? = some (.cells #[.slice (some ⟨q.g, 0, none⟩) q.len q.cap] 111 (0, 0)) ∧ (∃ L, Row .u64 77 w q.g L ∧ L.length = q.cap) ∧ q.len ≤ q.cap ∧ q.cap ≤ maxLen
def StkAt (w : World) (s : Nat) : Option StkSt → Prop
  | none => w.heap[s]? = some (.cells #[.pointer none] 82 (0, 0))
  | some q => w.heap[s]? = some (.cells #[.pointer (some ⟨q.si, 0, none⟩)] 82 (0, 0)) ∧ StkIn w q
/-- the cells that a call with the stack may turn -/
def StS (s : Nat) : Option StkSt → Nat → Nat → Prop
  | none, b, _ => b = s
  | some q, b, i => b = s ∨ b = q.si ∨ (b = q.g ∧ q.len ≤ i)
/-- the stack moved on: its row is the old one or a new one -/
def StkLe (N : Nat) : Option StkSt → Option StkSt → Prop
  | none, none => True
  | some _, none => False
  | none, some q' => N ≤ q'.si ∧ N ≤ q'.g
  | some q, some q' => q'.si = q.si ∧ (q'.g = q.g ∧ q'.cap = q.cap ∨ N ≤ q'.g)
theorem StkLe.refl (N : Nat) (q : Option StkSt) : StkLe N q q := by
  cases q with
  | none => trivial
  | some q => exact ⟨rfl, .inl ⟨rfl, rfl⟩⟩
theorem StkLe.trans {N M : Nat} {q q1 q2 : Option StkSt} (h : StkLe N q q1) (h' : StkLe M q1 q2) (hM : N ≤ M) : StkLe N q q2 := by
  cases q <;> cases q1 <;> cases q2 <;> simp only [StkLe] at * <;> omega
theorem StkLe.sub {N s : Nat} {q q' : Option StkSt} (h : StkLe N q q') (hl : lenS q ≤ lenS q') : ∀ b i, StS s q' b i → b < N → StS s q b i := by
  intro b i hb hN
  cases q <;> cases q' <;> simp only [StkLe, StS, lenS] at * <;> omega
theorem StkAt.ne {w : World} {s : Nat} {q : StkSt} (h : StkAt w s (some q)) : s ≠ q.si := by
  rintro e
  obtain ⟨h1, h2, _⟩ := h
  rw [e, h2] at h1
  simp at h1
theorem StkIn.neg {w : World} {q : StkSt} (h : StkIn w q) : q.si ≠ q.g := by
  rintro e
  obtain ⟨h1, ⟨L, hL, _⟩, _⟩ := h
  unfold Row at hL
  rw [e, hL] at h1
  simp at h1
theorem StkAt.row_ne {w : World} {s b : Nat} {q : Option StkSt} {L : List Int} (h : StkAt w s q) (hr : Row .u64 77 w b L) : b ≠ s := by
  rintro rfl
  unfold Row at hr
  cases q with
  | none => unfold StkAt at h; rw [hr] at h; simp at h
  | some q => obtain ⟨h, _⟩ := h; rw [hr] at h; simp at h
theorem StkIn.row_ne {w : World} {b : Nat} {q : StkSt} {L : List Int} (h : StkIn w q) (hr : Row .u64 77 w b L) : b ≠ q.si := by
  rintro rfl
  unfold Row at hr
  obtain ⟨h, _⟩ := h
  rw [hr] at h; simp at h
theorem heap_lt {w : World} {b : Nat} {o : Obj} (h : w.heap[b]? = some o) : b < w.heap.size := by
  rcases Nat.lt_or_ge b w.heap.size with hlt | hge
  · exact hlt
  · rw [Array.getElem?_eq_none hge] at h; cases h
theorem cell_of1 {w : World} {b : Nat} {v : Value} {T : TypeId} (h : w.heap[b]? = some (.cells #[v] T (0, 0))) : w.cell? ⟨b, 0, none⟩ = some v := by
  unfold World.cell?; simp [h]
theorem frozen_of1 {w : World} {b : Nat} {v : Value} {T : TypeId} (h : w.heap[b]? = some (.cells #[v] T (0, 0))) : w.frozen? ⟨b, 0, none⟩ = false := by
  simp [World.frozen?, h]
theorem set_of1 {w : World} {b : Nat} {v : Value} {T : TypeId} (h : w.heap[b]? = some (.cells #[v] T (0, 0))) (u : Value) : (w.setCell ⟨b, 0, none⟩ u).heap[b]? = some (.cells #[u] T (0, 0)) := by
  simp [World.setCell, Array.getElem?_modify, h]
/-- the stack's blocks stand where nothing of them was touched -/
theorem StkAt.fc {w w' : World} {s : Nat} {q : Option StkSt} {S : Nat → Nat → Prop} (h : StkAt w s q) (hf : Fc 77 S w w') (hs : ∀ i, ¬ S s i) (hi : ∀ p, q = some p → ∀ i, ¬ S p.si i) : StkAt w' s q := by
  cases q with
  | none => exact (hf.block s (heap_lt h) hs).trans h
  | some p =>
    obtain ⟨h1, h2, ⟨L, hL, hl⟩, h3, h4⟩ := h
    obtain ⟨L', hL', hl'⟩ := hf.row _ _ hL
    exact ⟨(hf.block s (heap_lt h1) hs).trans h1, (hf.block p.si (heap_lt h2) (hi p rfl)).trans h2, ⟨L', hL', hl'.trans hl⟩, h3, h4⟩
theorem StkAt.fr0 {w w' : World} {s : Nat} {q : Option StkSt} (h : StkAt w s q) (hf : Fr [] w w') : StkAt w' s q := h.fc (Fc.fr0 hf 77 (fun _ _ => False)) (fun _ h => h) (fun _ _ _ h => h)
set_option maxRecDepth 100000 in
theorem save_any (s : Nat) (q : Option StkSt) (w : World) (h : StkAt w s q) : Calls Tryd.prog 91 #[.pointer (some ⟨s, 0, none⟩)] w fun e w' => e = .returned (.int .i64 (lenS q : Nat)) ∧ w = w' := by
  cases q with
  | none =>
    have c := cell_of1 h
    clear h
    go_enter Tryd.func91, Tryd.ntmps91
    go_wp2_with fail
    go_ret
    exact ⟨rfl, rfl⟩
  | some q =>
    obtain ⟨si, g, len, cap⟩ := q
    obtain ⟨h1, h2, _, h3, h4⟩ := h
    have c := cell_of1 h1
    have c2 := cell_of1 h2
    unfold maxLen at h4
    simp only at c c2 h3 h4
    clear h1 h2
    go_enter Tryd.func91, Tryd.ntmps91
    go_wp2
    go_ret
    exact ⟨rfl, rfl⟩
/-- what restore leaves -/
def resS (n : Nat) : Option StkSt → Option StkSt
  | none => none
  | some q => some { q with len := n }
theorem lenS_res {n : Nat} {q : Option StkSt} (h : q = none → n = 0) : lenS (resS n q) = n := by
  cases q with
  | none => exact (h rfl).symm
  | some q => rfl
theorem StkLe.res {N n : Nat} {q q' : Option StkSt} (h : StkLe N q q') : StkLe N q (resS n q') := by
  cases q <;> cases q' <;> simp only [StkLe, resS] at * <;> omega
theorem res_fin {w : World} {s n : Nat} {q : StkSt} (h : StkAt w s (some q)) (hn : n ≤ q.cap) (w' : World) (hw : w' = w.setCell ⟨q.si, 0, none⟩ (.slice (some ⟨q.g, 0, none⟩) n q.cap)) : StkAt w' s (resS n (some q)) ∧ Fc 77 (StS s (some q)) w w' := by
  have hne := h.ne
  obtain ⟨h1, h2⟩ := h
  have hg := h2.neg
  have hrn := fun b L (hr : Row .u64 77 w b L) => h2.row_ne hr
  obtain ⟨h3, ⟨L, hL, hl⟩, h4, h5⟩ := h2
  have hf : Fr [q.si] w w' := by rw [hw]; apply Fr.set _ (.inl (by simp)); exact Fr.refl _ _
  refine ⟨⟨(hf.block s (heap_lt h1) (by simpa using hne)).trans h1, ?_, ⟨L, hL.fr hf (by simpa using fun e => hg e.symm), hl⟩, hn, h5⟩, Fc.of_fr hf (fun b hb _ i => ?_) (fun b hb L hr => ?_)⟩
  · rw [hw]; exact set_of1 h3 _
  · simp at hb; exact .inr (.inl hb)
  · simp at hb; exact hrn _ _ hr hb
set_option maxRecDepth 100000 in
theorem irestore_any (s n : Nat) (q : StkSt) (w : World) (h : StkAt w s (some q)) (hn : n ≤ q.cap) : Calls Tryd.prog 120 #[.pointer (some ⟨q.si, 0, none⟩), .int .i64 (n : Int)] w fun e w' => e = .returned (.tuple #[]) ∧ StkAt w' s (resS n (some q)) ∧ Fc 77 (StS s (some q)) w w' := by
  have FIN := Lib.hid (res_fin h hn)
  obtain ⟨si, g, len, cap⟩ := q
  obtain ⟨h1, h2, _, h3, h4⟩ := h
  have c2 := cell_of1 h2
  have z2 := frozen_of1 h2
  unfold maxLen at h4
  simp only at c2 z2 h3 h4 hn FIN
  clear h1 h2
  go_enter Tryd.func120, Tryd.ntmps120
  go_wp2_with fail
  first | go_end0 | refine bodyPost_ret (results_none rfl _ _ _) rfl ?_
  exact ⟨rfl, FIN.out _ rfl⟩
set_option maxRecDepth 100000 in
theorem restore_any (s n : Nat) (q : Option StkSt) (w : World) (h : StkAt w s q) (hn : ∀ p, q = some p → n ≤ p.cap) : Calls Tryd.prog 90 #[.pointer (some ⟨s, 0, none⟩), .int .i64 (n : Int)] w fun e w' => e = .returned (.tuple #[]) ∧ StkAt w' s (resS n q) ∧ Fc 77 (StS s q) w w' := by
  cases q with
  | none =>
    have H := Lib.hid h
    have c := cell_of1 h
    clear h hn
    go_enter Tryd.func90, Tryd.ntmps90
    go_wp2_with fail
    first | go_end0 | refine bodyPost_ret (results_none rfl _ _ _) rfl ?_
    exact ⟨rfl, H.out, Fc.refl _ _ _⟩
  | some q =>
    have C := Lib.hid (irestore_any s n q w h (hn q rfl))
    have c := cell_of1 h.1
    clear h hn
    go_enter Tryd.func90, Tryd.ntmps90
    go_wp2_with (go_at_call 120; refine (Hid.out C).mono ?_; rintro e w1 ⟨rfl, h1, h2⟩; have H1 := Lib.hid h1; have H2 := Lib.hid h2; clear h1 h2)
    first | go_end0 | refine bodyPost_ret (results_none rfl _ _ _) rfl ?_
    exact ⟨rfl, H1.out, H2.out⟩
set_option maxRecDepth 100000 in
theorem restore_deferred (s n : Nat) (q : Option StkSt) (u : FrameMode) (w : World) (h : StkAt w s q) (hn : ∀ p, q = some p → n ≤ p.cap) : CallsD Tryd.prog 90 #[.pointer (some ⟨s, 0, none⟩), .int .i64 (n : Int)] u w fun e u' w' => u' = u ∧ e = .returned (.tuple #[]) ∧ StkAt w' s (resS n q) ∧ Fc 77 (StS s q) w w' := by
  cases q with
  | none =>
    have H := Lib.hid h
    have c := cell_of1 h
    clear h hn
    go_enter_d Tryd.func90, Tryd.ntmps90
    go_wp2_with fail
    first | go_end0 | refine bodyPost_ret (results_none rfl _ _ _) rfl ?_
    exact ⟨rfl, H.out, Fc.refl _ _ _⟩
  | some q =>
    have C := Lib.hid (irestore_any s n q w h (hn q rfl))
    have c := cell_of1 h.1
    clear h hn
    go_enter_d Tryd.func90, Tryd.ntmps90
    go_wp2_with (go_at_call 120; refine (Hid.out C).mono ?_; rintro e w1 ⟨rfl, h1, h2⟩; have H1 := Lib.hid h1; have H2 := Lib.hid h2; clear h1 h2)
    first | go_end0 | refine bodyPost_ret (results_none rfl _ _ _) rfl ?_
    exact ⟨rfl, H1.out, H2.out⟩
end Go.Proofs.YtknokndpeneogaaDoor
