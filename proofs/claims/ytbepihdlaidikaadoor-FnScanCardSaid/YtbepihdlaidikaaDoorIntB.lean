/-
  big.Int's struct in memory: its two cells. Conditions: the struct is in memory.
-/
import Derived.Test.YtbepihdlaidikaaDoorgStk
import Derived.Test.YtbepihdlaidikaaDoorNR
set_option linter.unusedSimpArgs false
set_option linter.unusedVariables false
namespace Go.Proofs.YtbepihdlaidikaaDoor
open Go.Big Go.RowKit
/-- an Int in memory -/
def IntB (w : World) (p : Nat) (neg : Bool) (A : Option Addr) (l c : Nat) : Prop := w.heap[p]? = some (.cells #[.bool neg, .slice A l c] 38 (0, 0))
def sg (neg : Bool) (v : Int) : Int := if neg then -v else v
theorem sg_f (v : Int) : sg false v = v := rfl
theorem sg_t (v : Int) : sg true v = -v := rfl
section
variable {w w1 : World} {p b o c l l' c' : Nat} {neg neg' : Bool} {A A' : Option Addr} {xs L : List Int} {S : Nat → Nat → Prop}
theorem IntB.lt (h : IntB w p neg A l c) : p < w.heap.size := (Array.getElem?_eq_some_iff.1 h).1
theorem IntB.cell0 (h : IntB w p neg A l c) : w.cell? ⟨p, 0, none⟩ = some (.bool neg) := by unfold World.cell?; unfold IntB at h; simp [h]
theorem IntB.cell1 (h : IntB w p neg A l c) : w.cell? ⟨p, 1, none⟩ = some (.slice A l c) := by unfold World.cell?; unfold IntB at h; simp [h]
theorem IntB.frozen (h : IntB w p neg A l c) (i : Nat) : w.frozen? ⟨p, i, none⟩ = false := by unfold IntB at h; simp [World.frozen?, h]
theorem IntB.set0 (h : IntB w p neg A l c) (n' : Bool) : IntB (w.setCell ⟨p, 0, none⟩ (.bool n')) p n' A l c := by unfold IntB at h ⊢; simp [World.setCell, Array.getElem?_modify, h]
theorem IntB.set1 (h : IntB w p neg A l c) (A' : Option Addr) (l' c' : Nat) : IntB (w.setCell ⟨p, 1, none⟩ (.slice A' l' c')) p neg A' l' c' := by unfold IntB at h ⊢; simp [World.setCell, Array.getElem?_modify, h]
theorem IntB.fc (h : IntB w p neg A l c) (hf : Fc 48 S w w1) (hS : ∀ i, ¬ S p i) : IntB w1 p neg A l c := (hf.block p ((Array.getElem?_eq_some_iff.1 h).1) hS).trans h
theorem IntB.fr0 (h : IntB w p neg A l c) (hf : Fr [] w w1) : IntB w1 p neg A l c := (hf.block p ((Array.getElem?_eq_some_iff.1 h).1) (by simp)).trans h
theorem IntB.drew (h : IntB w p neg A l c) : IntB w.drew p neg A l c := h
theorem IntB.row_ne (h : IntB w p neg A l c) (hr : Row .u64 48 w b L) : b ≠ p := by
  rintro rfl
  unfold Row at hr; unfold IntB at h
  rw [hr] at h
  simp only [Option.some.injEq, Obj.cells.injEq] at h
  have := congrArg (fun a => a[0]?) h.1
  cases L <;> simp at this
theorem IntB.rcv_ne (h : IntB w p neg A l c) {Az : Option Addr} {bz oz cz : Nat} (hr : Rcv w Az bz oz cz) (hc : 0 < cz) : bz ≠ p := by
  obtain ⟨L, hL, _⟩ := hr.row hc
  exact h.row_ne hL
theorem Nm.off_int (hx : Nm w A b o c xs) {n : Bool} {A1 : Option Addr} {l1 c1 : Nat} (h : IntB w p n A1 l1 c1) : Off (fun x _ => x = p) b o xs.length := by
  intro i h1 h2 e
  exact h.rcv_ne hx.rcv (by have := hx.1; omega) e
theorem IntB.fc_set (h : IntB w p neg A l c) {a : Addr} (ha : a.block = p) (v : Value) : Fc 48 (fun x _ => x = p) w (w.setCell a v) := by
  refine Fc.of_fr (B := [p]) (by apply Fr.set _ (.inl (by simp [ha])); exact Fr.refl _ _) (fun b hb _ i => by simpa using hb) (fun b hb L hr => ?_)
  simp at hb
  exact h.row_ne hr hb
end
end Go.Proofs.YtbepihdlaidikaaDoor
