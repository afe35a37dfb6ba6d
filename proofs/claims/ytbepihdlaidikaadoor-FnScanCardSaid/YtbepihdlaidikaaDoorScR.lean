/-
  strings.Reader: ReadByte within and at the end, UnreadByte, NewReader. Conditions: the reader's cells; io.EOF reads as laid.
-/
import Derived.Test.YtbepihdlaidikaaDoorgBase
set_option linter.unusedSimpArgs false
set_option linter.unusedVariables false
namespace Go.Proofs.YtbepihdlaidikaaDoor
open Go.Big Go.RowKit
/-- a byte of a text -/
def byteAt (s : ByteArray) (i : Nat) : Int := if h : i < s.size then ((s[i]'h).toNat : Int) else 0
def RdAt (w : World) (p : Nat) (s : ByteArray) (i : Nat) (pr : Int) : Prop := w.heap[p]? = some (.cells #[.string s, .int .i64 (i : Int), .int .i64 pr] 59 (0, 0))
variable {w w1 : World} {p i : Nat} {s : ByteArray} {pr : Int}
theorem RdAt.lt (h : RdAt w p s i pr) : p < w.heap.size := (Array.getElem?_eq_some_iff.1 h).1
theorem RdAt.cell0 (h : RdAt w p s i pr) : w.cell? ⟨p, 0, none⟩ = some (.string s) := by unfold World.cell?; unfold RdAt at h; simp [h]
theorem RdAt.cell1 (h : RdAt w p s i pr) : w.cell? ⟨p, 1, none⟩ = some (.int .i64 (i : Int)) := by unfold World.cell?; unfold RdAt at h; simp [h]
theorem RdAt.cell2 (h : RdAt w p s i pr) : w.cell? ⟨p, 2, none⟩ = some (.int .i64 pr) := by unfold World.cell?; unfold RdAt at h; simp [h]
theorem RdAt.frozen (h : RdAt w p s i pr) (k : Nat) : w.frozen? ⟨p, k, none⟩ = false := by unfold RdAt at h; simp [World.frozen?, h]
theorem RdAt.set1 (h : RdAt w p s i pr) (j : Nat) : RdAt (w.setCell ⟨p, 1, none⟩ (.int .i64 (j : Int))) p s j pr := by unfold RdAt at h ⊢; simp [World.setCell, Array.getElem?_modify, h]
theorem RdAt.set2 (h : RdAt w p s i pr) (pr' : Int) : RdAt (w.setCell ⟨p, 2, none⟩ (.int .i64 pr')) p s i pr' := by unfold RdAt at h ⊢; simp [World.setCell, Array.getElem?_modify, h]
theorem RdAt.fr (h : RdAt w p s i pr) {S : List Nat} (hf : Fr S w w1) (hn : p ∉ S) : RdAt w1 p s i pr := (hf.block p h.lt hn).trans h
theorem byteAt_bd (s : ByteArray) (i : Nat) : 0 ≤ byteAt s i ∧ byteAt s i < 256 := by
  unfold byteAt
  split
  · rename_i h; have := (s[i]'h).toNat_lt; omega
  · omega
theorem frDrewN {S : List Nat} {w w1 : World} (h : Fr S w w1) (n : Nat) : Fr S w (w1.drewN n) := ⟨h.os, h.tape, h.output, h.size, h.block⟩
theorem rdFr (w : World) (p k : Nat) (v : Value) : Fr [p] w (w.setCell ⟨p, k, none⟩ v) := (Fr.refl [p] w).set (.inl (by simp)) v
/-- io.EOF -/
def EofAt (w : World) (T : TypeId) (ea : Addr) : Prop := w.cell? ⟨0, 0, none⟩ = some (.iface T (.pointer (some ea)))
set_option maxRecDepth 100000 in
theorem readByte_in (h : RdAt w p s i pr) (hi : i < s.size) (hs : s.size ≤ 1000000) :
    Calls Tryd.prog 63 #[.pointer (some ⟨p, 0, none⟩)] w fun e w' => e = .returned (.tuple #[.int .u8 (byteAt s i), .nilIface]) ∧ RdAt w' p s (i + 1) (-1) ∧ Fr [p] w w' := by
  have c0 := h.cell0
  have c1 := h.cell1
  have c2 := h.cell2
  have f1 := h.frozen 1
  have f2 := h.frozen 2
  have H := Lib.hid h
  have hlt : (i : Int) < (s.size : Int) := by omega
  clear h
  go_enter Tryd.func63, Tryd.ntmps63
  go_wp2
  all_goals (try go_quiet (fail))
  all_goals (try go_wp2)
  all_goals (try go_quiet (fail))
  all_goals (try go_wp2)
  go_ret2
  exact ⟨by unfold byteAt; rw [dif_pos hi]; rfl, (H.out.set2 (-1)).set1 (i + 1), (frDrewN (rdFr w p 2 _) _).set (.inl (by simp)) _⟩
set_option maxRecDepth 100000 in
theorem readByte_end {T : TypeId} {ea : Addr} (h : RdAt w p s i pr) (hi : s.size ≤ i) (hs : s.size ≤ 1000000) (hi9 : i ≤ 1000000) (he : EofAt w T ea) (hp : p ≠ 0) :
    Calls Tryd.prog 63 #[.pointer (some ⟨p, 0, none⟩)] w fun e w' => e = .returned (.tuple #[.int .u8 0, .iface T (.pointer (some ea))]) ∧ RdAt w' p s i (-1) ∧ Fr [p] w w' := by
  have c0 := h.cell0
  have c1 := h.cell1
  have c2 := h.cell2
  have f2 := h.frozen 2
  have H := Lib.hid h
  have hlt : (s.size : Int) ≤ (i : Int) := by omega
  have hE : (w.setCell ⟨p, 2, none⟩ (.int .i64 (-1))).cell? ⟨0, 0, none⟩ = some (.iface T (.pointer (some ea))) := by
    rw [World.cell?_of_block ((((Fr.refl [p] w).set (.inl (by simp)) _).block _ ?_ ?_))]
    · exact he
    · exact World.block_lt_of_cell? w _ he
    · simp; exact hp.symm
  clear h he
  go_enter Tryd.func63, Tryd.ntmps63
  go_wp2
  all_goals (try go_quiet (fail))
  all_goals (try go_wp2)
  all_goals (try go_quiet (fail))
  all_goals (try go_wp2)
  go_ret2
  exact ⟨rfl, H.out.set2 (-1), frDrewN (frDrewN (rdFr w p 2 _) _) _⟩
set_option maxRecDepth 100000 in
theorem unreadByte_any (h : RdAt w p s (i + 1) pr) (hi : i ≤ 1000000) :
    Calls Tryd.prog 64 #[.pointer (some ⟨p, 0, none⟩)] w fun e w' => e = .returned .nilIface ∧ RdAt w' p s i (-1) ∧ Fr [p] w w' := by
  have c0 := h.cell0
  have c1 := h.cell1
  have c2 := h.cell2
  have f1 := h.frozen 1
  have f2 := h.frozen 2
  have H := Lib.hid h
  have h0 : ¬ ((i + 1 : Nat) : Int) ≤ 0 := by omega
  have h1 : ((i + 1 : Nat) : Int) - 1 = (i : Int) := by omega
  have h3 : (i : Int) + 1 - 1 = (i : Int) := by omega
  clear h
  go_enter Tryd.func64, Tryd.ntmps64
  go_wp2
  all_goals (try go_quiet (fail))
  all_goals (try go_wp2)
  go_ret
  exact ⟨rfl, (H.out.set2 (-1)).set1 i, (rdFr w p 2 _).set (.inl (by simp)) _⟩
set_option maxRecDepth 100000 in
theorem newReader_any (s : ByteArray) (w : World) :
    Calls Tryd.prog 16 #[.string s] w fun e w' => ∃ p, e = .returned (.pointer (some ⟨p, 0, none⟩)) ∧ RdAt w' p s 0 (-1) ∧ w.heap.size ≤ p ∧ Fr [] w w' := by
  go_enter Tryd.func16, Tryd.ntmps16
  go_wp2
  go_ret
  exact ⟨w.heap.size, rfl, heap_alloc_new w _, Nat.le_refl _, (Fr.refl _ _).alloc _⟩
end Go.Proofs.YtbepihdlaidikaaDoor
