/-
  Memory in the walks: blocks known whole, slices that read as lists of integers, and what a call may have written. Conditions: none (each theorem bears its own).
-/
import Derived.Test.YtknokndpeneogaaDoorNum
import Derived.WalkKit
import Derived.Deep.Draws
set_option linter.unusedSimpArgs false
set_option linter.unusedVariables false
namespace Go.Big
open Go.RowKit

/-- block b is the row xs of integers of kind k (element type T), none of its cells frozen -/
def Row (k : IntKind) (T : TypeId) (w : World) (b : Nat) (xs : List Int) : Prop := w.heap[b]? = some (.cells (xs.map (Value.int k)).toArray T (0, 0))

/-- w' is w moved on: of the old blocks only those of S may have turned -/
structure Fr (S : List Nat) (w w' : World) : Prop where
  os : w'.os = w.os
  tape : w'.tape = w.tape
  output : w'.output = w.output
  size : w.heap.size ≤ w'.heap.size
  block : ∀ b, b < w.heap.size → b ∉ S → w'.heap[b]? = w.heap[b]?

/-- the cells from off on hold xs -/
def Src (k : IntKind) (w : World) (b off : Nat) (xs : List Int) : Prop := ∀ j, j < xs.length → w.cell? ⟨b, off + j, none⟩ = some (.int k (xs.getD j 0))

section
variable {k : IntKind} {T : TypeId} {w w1 w2 : World} {b c off : Nat} {xs ys : List Int} {S S' : List Nat}

theorem Row.lt (h : Row k T w b xs) : b < w.heap.size := by
  rcases Nat.lt_or_ge b w.heap.size with hlt | hge
  · exact hlt
  · unfold Row at h; rw [Array.getElem?_eq_none hge] at h; cases h
theorem Row.cell (h : Row k T w b xs) {i : Nat} (hi : i < xs.length) : w.cell? ⟨b, i, none⟩ = some (.int k (xs.getD i 0)) := by
  unfold Row at h
  unfold World.cell?
  rw [h]
  simp [hi, List.getD_eq_getElem?_getD]
theorem Row.src (h : Row k T w b xs) (hl : off ≤ xs.length) : Src k w b off (xs.drop off) := by
  intro j hj
  rw [List.length_drop] at hj
  rw [h.cell (by omega)]
  simp [List.getD_eq_getElem?_getD]
theorem Row.frozen (h : Row k T w b xs) (i : Nat) : w.frozen? ⟨b, i, none⟩ = false := by
  unfold Row at h
  simp [World.frozen?, h]
theorem Row.eq (h : Row k T w b xs) (h' : Row k T w b ys) : xs = ys := by
  unfold Row at h h'
  rw [h] at h'
  simp only [Option.some.injEq, Obj.cells.injEq, and_true] at h'
  have := congrArg Array.toList h'
  simp only [List.map_inj_right (f := Value.int k) (fun a b e => by injection e)] at this
  exact this
theorem Row.new (w : World) (k : IntKind) (T : TypeId) (xs : List Int) : Row k T (w.alloc (.cells (xs.map (Value.int k)).toArray T)) w.heap.size xs := heap_alloc_new w _
theorem Row.zeros (w : World) (k : IntKind) (T : TypeId) (n : Nat) : Row k T (w.alloc (.cells (Array.replicate n (Value.int k 0)) T)) w.heap.size (List.replicate n 0) := by
  have := Row.new w k T (List.replicate n 0)
  have e : ((List.replicate n (0 : Int)).map (Value.int k)).toArray = Array.replicate n (Value.int k 0) := by simp
  rwa [e] at this
theorem Row.alloc (h : Row k T w b xs) (o : Obj) : Row k T (w.alloc o) b xs := (Below.heap_alloc w o b h.lt).trans h
theorem Row.set (h : Row k T w b xs) (i : Nat) (v : Int) : Row k T (w.setCell ⟨b, i, none⟩ (.int k v)) b (xs.set i v) := by
  unfold Row at h ⊢
  simp [World.setCell, Array.getElem?_modify, h, List.map_set]
theorem Row.drewN (h : Row k T w b xs) (n : Nat) : Row k T (w.drewN n) b xs := h
theorem Row.drew (h : Row k T w b xs) : Row k T w.drew b xs := h
theorem Row.far (h : Row k T w b xs) {p : Addr} (hp : b ≠ p.block) (u : Value) : Row k T (w.setCell p u) b xs := (Below.heap_setCell w p u b hp).trans h
theorem Row.fr (h : Row k T w b xs) (hf : Fr S w w1) (hb : b ∉ S) : Row k T w1 b xs := (hf.block b h.lt hb).trans h

theorem Fr.refl (S : List Nat) (w : World) : Fr S w w := ⟨rfl, rfl, rfl, Nat.le_refl _, fun _ _ _ => rfl⟩
theorem Fr.trans (h : Fr S w w1) (h' : Fr S' w1 w2) (hS : ∀ b, b ∈ S' → b < w.heap.size → b ∈ S) : Fr S w w2 :=
  ⟨h'.os.trans h.os, h'.tape.trans h.tape, h'.output.trans h.output, Nat.le_trans h.size h'.size, fun b hb hn =>
    (h'.block b (Nat.lt_of_lt_of_le hb h.size) (fun hm => hn (hS b hm hb))).trans (h.block b hb hn)⟩
theorem Fr.t (h : Fr [] w w1) (h' : Fr [] w1 w2) : Fr [] w w2 := h.trans h' (by simp)
theorem Fr.mono (h : Fr S w w1) (hS : ∀ b, b ∈ S → b ∈ S') : Fr S' w w1 := ⟨h.os, h.tape, h.output, h.size, fun b hb hn => h.block b hb (fun hm => hn (hS b hm))⟩
theorem Fr.drewN (h : Fr S w w1) (n : Nat) : Fr S w (w1.drewN n) := ⟨h.os, h.tape, h.output, h.size, h.block⟩
theorem Fr.drew (h : Fr S w w1) : Fr S w w1.drew := ⟨h.os, h.tape, h.output, h.size, h.block⟩
theorem Fr.alloc (h : Fr S w w1) (o : Obj) : Fr S w (w1.alloc o) :=
  ⟨h.os, h.tape, h.output, Nat.le_trans h.size (by simp), fun b hb hn => (Below.heap_alloc w1 o b (Nat.lt_of_lt_of_le hb h.size)).trans (h.block b hb hn)⟩
theorem Fr.set (h : Fr S w w1) {p : Addr} (hp : p.block ∈ S ∨ w.heap.size ≤ p.block) (u : Value) : Fr S w (w1.setCell p u) :=
  ⟨h.os, h.tape, h.output, by simpa [World.setCell] using h.size, fun b hb hn => (Below.heap_setCell w1 p u b (by
    rintro rfl
    rcases hp with hp | hp
    · exact hn hp
    · omega)).trans (h.block b hb hn)⟩
theorem Fr.below (h : Fr [] w w1) : Below w.heap.size w w1 := ⟨h.os, h.tape, h.output, h.size, fun b hb => h.block b hb (by simp)⟩
theorem Fr.of_below {B : Nat} (h : Below B w w1) (hB : w.heap.size ≤ B) : Fr S w w1 := ⟨h.os, h.tape, h.output, h.size, fun b hb _ => h.block b (by omega)⟩
theorem Fr.grown {row : Option Nat} (h : Fr S w w1) (hg : w1.grownBy w2 row) (hr : ∀ g, row = some g → g ∈ S ∨ w.heap.size ≤ g) : Fr S w w2 :=
  ⟨hg.os.trans h.os, hg.tape.trans h.tape, hg.output.trans h.output, Nat.le_trans h.size hg.size, fun b hb hn =>
    (hg.block b (Nat.lt_of_lt_of_le hb h.size) (fun e => by
      rcases hr b e.symm with hm | hm
      · exact hn hm
      · omega)).trans (h.block b hb hn)⟩
theorem Fr.cell (h : Fr S w w1) {p : Addr} (hp : p.block < w.heap.size) (hn : p.block ∉ S) : w1.cell? p = w.cell? p := World.cell?_of_block (h.block _ hp hn)
theorem Fr.cell_some (h : Fr S w w1) {p : Addr} {v : Value} (hc : w.cell? p = some v) (hn : p.block ∉ S) : w1.cell? p = some v := by
  have hp : p.block < w.heap.size := by
    rcases Nat.lt_or_ge p.block w.heap.size with hlt | hge
    · exact hlt
    · unfold World.cell? at hc; rw [Array.getElem?_eq_none hge] at hc; cases hc
  exact (h.cell hp hn).trans hc

theorem Src.fr (h : Src k w b off xs) (hf : Fr S w w1) (hb : b ∉ S) : Src k w1 b off xs := fun j hj => hf.cell_some (h j hj) hb
theorem Src.drewN (h : Src k w b off xs) (n : Nat) : Src k (w.drewN n) b off xs := h
theorem Src.nil (k : IntKind) (w : World) (b off : Nat) : Src k w b off [] := fun j hj => by simp at hj
theorem Src.take (h : Src k w b off xs) (n : Nat) : Src k w b off (xs.take n) := fun j hj => by
  rw [List.length_take] at hj
  rw [h j (by omega)]
  have : j < n := by omega
  simp [List.getD_eq_getElem?_getD, this]
theorem Src.drop (h : Src k w b off xs) (n : Nat) : Src k w b (off + n) (xs.drop n) := fun j hj => by
  rw [List.length_drop] at hj
  have := h (n + j) (by omega)
  rw [← Nat.add_assoc] at this
  rw [this]
  simp [List.getD_eq_getElem?_getD]
end

/-- a slice value that reads as xs (it may be nil where xs is empty) -/
def Sl (k : IntKind) (w : World) (v : Value) (xs : List Int) : Prop :=
  ∃ A cap, v = .slice A xs.length cap ∧ xs.length ≤ cap ∧ cap ≤ maxLen ∧ (0 < xs.length → ∃ b off, A = some ⟨b, off, none⟩ ∧ b < w.heap.size ∧ Src k w b off xs)

theorem Sl.fr {k : IntKind} {w w1 : World} {v : Value} {xs : List Int} {S : List Nat} (h : Sl k w v xs) (hf : Fr S w w1) (hS : ∀ b, b ∈ S → w.heap.size ≤ b) : Sl k w1 v xs := by
  obtain ⟨A, cap, rfl, h1, h2, h3⟩ := h
  refine ⟨A, cap, rfl, h1, h2, fun hn => ?_⟩
  obtain ⟨b, off, rfl, hb, hs⟩ := h3 hn
  exact ⟨b, off, rfl, Nat.lt_of_lt_of_le hb hf.size, hs.fr hf (fun hm => by have := hS b hm; omega)⟩
theorem Sl.fr0 {k : IntKind} {w w1 : World} {v : Value} {xs : List Int} (h : Sl k w v xs) (hf : Fr [] w w1) : Sl k w1 v xs := h.fr hf (by simp)
theorem Sl.nil (k : IntKind) (w : World) : Sl k w (.slice none 0 0) [] := ⟨none, 0, rfl, by simp, by simp, by simp⟩

/-- a whole row reads as a slice -/
theorem Row.sl {k : IntKind} {T : TypeId} {w : World} {b : Nat} {xs : List Int} (h : Row k T w b xs) (hl : xs.length ≤ 1099511627776) : Sl k w (.slice (some ⟨b, 0, none⟩) xs.length xs.length) xs :=
  ⟨_, xs.length, rfl, Nat.le_refl _, by unfold maxLen; omega, fun _ => ⟨b, 0, rfl, h.lt, fun j hj => by rw [Nat.zero_add]; exact h.cell hj⟩⟩
theorem Sl.cut {k : IntKind} {w : World} {A : Option Addr} {cap : Nat} {xs : List Int} {i : Nat} (h : Sl k w (.slice A xs.length cap) xs) (hi : i ≤ xs.length) : Sl k w (.slice A i cap) (xs.take i) := by
  obtain ⟨A', cap', e, h1, h2, h3⟩ := h
  injection e with e1 e2 e3
  subst e1 e3
  refine ⟨A, cap, by rw [List.length_take, Nat.min_eq_left hi], by rw [List.length_take]; omega, h2, fun hp => ?_⟩
  rw [List.length_take] at hp
  obtain ⟨b, off, e, hb, hs⟩ := h3 (by omega)
  exact ⟨b, off, e, hb, hs.take i⟩

/-- the slice value v is a natural number n of the reference: its digits to 65536, without noughts at the upper end -/
def SN (w : World) (v : Value) (n : Int) : Prop := ∃ ds, Sl .i64 w v ds ∧ DG 65536 ds ∧ NZ ds ∧ val 65536 ds = n
theorem SN.fr0 {w w1 : World} {v : Value} {n : Int} (h : SN w v n) (hf : Fr [] w w1) : SN w1 v n := by
  obtain ⟨ds, h1, h2⟩ := h
  exact ⟨ds, h1.fr0 hf, h2⟩

end Go.Big
