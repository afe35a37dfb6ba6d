/-
  few over slices that were just put side by side. Conditions: lengths are lengths.
-/
import Derived.Test.YtknokndpeneogaaDoorgWord
set_option linter.unusedSimpArgs false
set_option linter.unusedVariables false
namespace Go.Proofs.YtknokndpeneogaaDoor
open Go.Big Go.RowKit

theorem few_lit (m : Nat) (vs : List (Option Addr × Nat × Nat)) (w : World) (T : TypeId) (hm : m ≤ 1000000) (hl : vs.length ≤ 1000) (hmax : ∀ v ∈ vs, v.2.1 ≤ 9223372036854775807) (r : Bool)
    (hr : r = vs.all (fun v => decide (v.2.1 ≤ m))) :
    Calls Tryd.prog 17 #[.int .i64 (m : Int), .slice (some ⟨w.heap.size, 0, none⟩) vs.length vs.length] (w.alloc (.cells (vs.map (fun v => Value.slice v.1 v.2.1 v.2.2)).toArray T))
      fun e w' => e = .returned (.bool r) ∧ (w.alloc (.cells (vs.map (fun v => Value.slice v.1 v.2.1 v.2.2)).toArray T)) = w' := by
  have h := few_any m w.heap.size (vs.map (·.2.1)) (w.alloc (.cells (vs.map (fun v => Value.slice v.1 v.2.1 v.2.2)).toArray T)) hm (by simpa using hl) (fun i hi => ?_) (fun i hi => ?_)
  · rw [List.length_map] at h
    have e : fewB m (vs.map (·.2.1)) = r := by rw [hr]; unfold fewB; rw [List.all_map]; rfl
    rw [e] at h
    exact h
  · rw [List.length_map] at hi
    have := hmax vs[i] (List.getElem_mem hi)
    simpa [List.getD_eq_getElem?_getD, hi] using this
  · rw [List.length_map] at hi
    refine ⟨vs[i].1, vs[i].2.2, ?_⟩
    rw [cell_of_row _ w.heap.size i _ T (0, 0) (heap_alloc_new w _)]
    simp [List.getD_eq_getElem?_getD, hi]

theorem few1_yes (m : Nat) (A : Option Addr) (n c : Nat) (w : World) (T : TypeId) (hm : m ≤ 1000000) (h : n ≤ m) :
    Calls Tryd.prog 17 #[.int .i64 (m : Int), .slice (some ⟨w.heap.size, 0, none⟩) 1 1] (w.alloc (.cells #[.slice A n c] T)) fun e w' => e = .returned (.bool true) ∧ (w.alloc (.cells #[.slice A n c] T)) = w' :=
  few_lit m [(A, n, c)] w T hm (by simp) (by simp; omega) true (by simp [h])
theorem few1_no (m : Nat) (A : Option Addr) (n c : Nat) (w : World) (T : TypeId) (hm : m ≤ 1000000) (h : m < n) (hn : n ≤ 9223372036854775807) :
    Calls Tryd.prog 17 #[.int .i64 (m : Int), .slice (some ⟨w.heap.size, 0, none⟩) 1 1] (w.alloc (.cells #[.slice A n c] T)) fun e w' => e = .returned (.bool false) ∧ (w.alloc (.cells #[.slice A n c] T)) = w' :=
  few_lit m [(A, n, c)] w T hm (by simp) (by simp; omega) false (by simp; omega)
theorem few2_yes (m : Nat) (A B : Option Addr) (n c n' c' : Nat) (w : World) (T : TypeId) (hm : m ≤ 1000000) (h : n ≤ m) (h' : n' ≤ m) :
    Calls Tryd.prog 17 #[.int .i64 (m : Int), .slice (some ⟨w.heap.size, 0, none⟩) 2 2] (w.alloc (.cells #[.slice A n c, .slice B n' c'] T)) fun e w' => e = .returned (.bool true) ∧ (w.alloc (.cells #[.slice A n c, .slice B n' c'] T)) = w' :=
  few_lit m [(A, n, c), (B, n', c')] w T hm (by simp) (by simp; omega) true (by simp [h, h'])
theorem few2_no (m : Nat) (A B : Option Addr) (n c n' c' : Nat) (w : World) (T : TypeId) (hm : m ≤ 1000000) (h : m < n ∨ m < n') (hn : n ≤ 9223372036854775807) (hn' : n' ≤ 9223372036854775807) :
    Calls Tryd.prog 17 #[.int .i64 (m : Int), .slice (some ⟨w.heap.size, 0, none⟩) 2 2] (w.alloc (.cells #[.slice A n c, .slice B n' c'] T)) fun e w' => e = .returned (.bool false) ∧ (w.alloc (.cells #[.slice A n c, .slice B n' c'] T)) = w' :=
  few_lit m [(A, n, c), (B, n', c')] w T hm (by simp) (by simp; omega) false (by simp; omega)
theorem few3_yes (m : Nat) (A B C : Option Addr) (n c n' c' n2 c2 : Nat) (w : World) (T : TypeId) (hm : m ≤ 1000000) (h : n ≤ m) (h' : n' ≤ m) (h2 : n2 ≤ m) :
    Calls Tryd.prog 17 #[.int .i64 (m : Int), .slice (some ⟨w.heap.size, 0, none⟩) 3 3] (w.alloc (.cells #[.slice A n c, .slice B n' c', .slice C n2 c2] T)) fun e w' => e = .returned (.bool true) ∧ (w.alloc (.cells #[.slice A n c, .slice B n' c', .slice C n2 c2] T)) = w' :=
  few_lit m [(A, n, c), (B, n', c'), (C, n2, c2)] w T hm (by simp) (by simp; omega) true (by simp [h, h', h2])
theorem few3_no (m : Nat) (A B C : Option Addr) (n c n' c' n2 c2 : Nat) (w : World) (T : TypeId) (hm : m ≤ 1000000) (h : m < n ∨ m < n' ∨ m < n2) (hn : n ≤ 9223372036854775807) (hn' : n' ≤ 9223372036854775807) (hn2 : n2 ≤ 9223372036854775807) :
    Calls Tryd.prog 17 #[.int .i64 (m : Int), .slice (some ⟨w.heap.size, 0, none⟩) 3 3] (w.alloc (.cells #[.slice A n c, .slice B n' c', .slice C n2 c2] T)) fun e w' => e = .returned (.bool false) ∧ (w.alloc (.cells #[.slice A n c, .slice B n' c', .slice C n2 c2] T)) = w' :=
  few_lit m [(A, n, c), (B, n', c'), (C, n2, c2)] w T hm (by simp) (by simp; omega) false (by simp; omega)
end Go.Proofs.YtknokndpeneogaaDoor
