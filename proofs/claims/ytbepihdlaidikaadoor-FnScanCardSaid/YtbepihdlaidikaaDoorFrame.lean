/-
  From the frame's reading of an argument to the walks' words. Conditions: none.
-/
import Derived.Test.YtbepihdlaidikaaDoorgBase
set_option linter.unusedSimpArgs false
set_option linter.unusedVariables false
namespace Go.Big
open Go.RowKit

theorem wf_u64 {n : Int} (h : (Lit.int .u64 n).wf = true) : 0 ≤ n ∧ n < 18446744073709551616 := by
  simp [Lit.wf, IntKind.min, IntKind.max, IntKind.signed, IntKind.bits] at h; omega
theorem wf_u8 {n : Int} (h : (Lit.int .u8 n).wf = true) : 0 ≤ n ∧ n < 256 := by
  simp [Lit.wf, IntKind.min, IntKind.max, IntKind.signed, IntKind.bits] at h; omega
theorem wf_u16 {n : Int} (h : (Lit.int .u16 n).wf = true) : 0 ≤ n ∧ n < 65536 := by
  simp [Lit.wf, IntKind.min, IntKind.max, IntKind.signed, IntKind.bits] at h; omega

theorem sl_of_row {k : IntKind} {w : World} {a : Option Addr} {len cap : Nat} {zs : List Int}
    (h : (a = none ∧ len = 0 ∧ cap = 0 ∧ zs = []) ∨
      ∃ x, a = some x ∧ len ≤ cap ∧ cap ≤ maxLen ∧ zs.length = cap ∧ (∀ i, i < zs.length → w.cell? (x.add i) = some (.int k (zs.getD i 0))) ∧ ∀ n ∈ zs, (Lit.int k n).wf = true) :
    ∃ xs : List Int, Sl k w (.slice a len cap) xs ∧ ∀ n ∈ xs, (Lit.int k n).wf = true := by
  rcases h with ⟨rfl, rfl, rfl, rfl⟩ | ⟨x, rfl, hl, hm, hz, hc, hw⟩
  · exact ⟨[], Sl.nil _ _, by simp⟩
  · refine ⟨zs.take len, ⟨some x, cap, by rw [List.length_take, Nat.min_eq_left (by omega)], by rw [List.length_take]; omega, hm, fun hp => ?_⟩, fun n hn => hw n (List.mem_of_mem_take hn)⟩
    rw [List.length_take] at hp
    obtain ⟨b, off, spot⟩ := x
    have h0 := hc 0 (by omega)
    have hspot : spot = none := by simpa [Addr.add] using World.cell?_spot h0
    subst hspot
    refine ⟨b, off, rfl, ?_, fun j hj => ?_⟩
    · rcases Nat.lt_or_ge b w.heap.size with hlt | hge
      · exact hlt
      · unfold World.cell? at h0
        simp only [Addr.add] at h0
        rw [Array.getElem?_eq_none (by simpa using hge)] at h0
        cases h0
    · rw [List.length_take] at hj
      have h1 := hc j (by omega)
      have hlt : j < len := by omega
      have e : (zs.take len).getD j 0 = zs.getD j 0 := by simp [List.getD_eq_getElem?_getD, hlt]
      rw [e, ← h1]
      congr 1
      unfold Addr.add
      split
      · rename_i hj0; subst hj0; rfl
      · rfl
theorem dg_of_wf {xs : List Int} (h : ∀ n ∈ xs, (Lit.int .u64 n).wf = true) : DG 18446744073709551616 xs := fun n hn => wf_u64 (h n hn)
theorem dg_of_wf8 {xs : List Int} (h : ∀ n ∈ xs, (Lit.int .u8 n).wf = true) : DG 256 xs := fun n hn => wf_u8 (h n hn)

end Go.Big
