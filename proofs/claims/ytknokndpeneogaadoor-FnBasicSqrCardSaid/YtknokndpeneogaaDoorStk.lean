/-
  Which cells a call may have turned; slices.Grow at words. Conditions: each theorem bears its own.
-/
import Derived.Test.YtknokndpeneogaaDoorSetN
import Derived.Lib.AppendZerosOnto
set_option linter.unusedSimpArgs false
set_option linter.unusedVariables false
namespace Go.Big
open Go.RowKit

/-- w' is w moved on: of the old blocks only the cells of S may have turned; rows of words stay rows of words -/
structure Fc (T : TypeId) (S : Nat → Nat → Prop) (w w' : World) : Prop where
  os : w'.os = w.os
  tape : w'.tape = w.tape
  output : w'.output = w.output
  size : w.heap.size ≤ w'.heap.size
  block : ∀ b, b < w.heap.size → (∀ i, ¬ S b i) → w'.heap[b]? = w.heap[b]?
  cell : ∀ b i, b < w.heap.size → ¬ S b i → w'.cell? ⟨b, i, none⟩ = w.cell? ⟨b, i, none⟩
  row : ∀ b L, Row .u64 T w b L → ∃ L', Row .u64 T w' b L' ∧ L'.length = L.length

section
variable {T : TypeId} {S S' : Nat → Nat → Prop} {w w1 w2 : World} {b off : Nat} {xs L : List Int} {k : IntKind}

theorem Fc.refl (T : TypeId) (S : Nat → Nat → Prop) (w : World) : Fc T S w w := ⟨rfl, rfl, rfl, Nat.le_refl _, fun _ _ _ => rfl, fun _ _ _ _ => rfl, fun _ L h => ⟨L, h, rfl⟩⟩
theorem Fc.trans (h : Fc T S w w1) (h' : Fc T S' w1 w2) (hS : ∀ b i, S' b i → b < w.heap.size → S b i) : Fc T S w w2 :=
  ⟨h'.os.trans h.os, h'.tape.trans h.tape, h'.output.trans h.output, Nat.le_trans h.size h'.size,
    fun b hb hn => (h'.block b (Nat.lt_of_lt_of_le hb h.size) (fun i hm => hn i (hS b i hm hb))).trans (h.block b hb hn),
    fun b i hb hn => (h'.cell b i (Nat.lt_of_lt_of_le hb h.size) (fun hm => hn (hS b i hm hb))).trans (h.cell b i hb hn),
    fun b L hr => by
      obtain ⟨L1, h1, l1⟩ := h.row b L hr
      obtain ⟨L2, h2, l2⟩ := h'.row b L1 h1
      exact ⟨L2, h2, l2.trans l1⟩⟩
theorem Fc.mono (h : Fc T S w w1) (hS : ∀ b i, S b i → b < w.heap.size → S' b i) : Fc T S' w w1 := (Fc.refl T S' w).trans h hS
theorem Fc.t (h : Fc T S w w1) (h' : Fc T S w1 w2) : Fc T S w w2 := h.trans h' (fun _ _ h _ => h)
theorem Fc.fr0 (h : Fr [] w w1) (T : TypeId) (S : Nat → Nat → Prop) : Fc T S w w1 :=
  ⟨h.os, h.tape, h.output, h.size, fun b hb _ => h.block b hb (by simp), fun b i hb _ => h.cell (p := ⟨b, i, none⟩) hb (by simp), fun b L hr => ⟨L, hr.fr h (by simp), rfl⟩⟩
/-- one row was written in part -/
theorem Fc.of_row {L' : List Int} (h : Fr [b] w w1) (hr : Row .u64 T w b L) (hr' : Row .u64 T w1 b L') (hl : L'.length = L.length) (he : ∀ i, ¬ S b i → L'.getD i 0 = L.getD i 0) : Fc T S w w1 := by
  refine ⟨h.os, h.tape, h.output, h.size, fun c hc hn => ?_, fun c i hc hn => ?_, fun c M hM => ?_⟩
  · by_cases e : c = b
    · subst e
      have : L' = L := List.ext_getElem hl (fun i h1 h2 => by have := he i (hn i); rwa [getD_in h1, getD_in h2] at this)
      subst this
      exact hr'.trans hr.symm
    · exact h.block c hc (by simpa using e)
  · by_cases e : c = b
    · subst e
      by_cases hi : i < L.length
      · rw [hr.cell hi, hr'.cell (by omega), he i hn]
      · unfold Row at hr hr'
        unfold World.cell?
        rw [hr, hr']
        simp [hl, hi]
    · exact h.cell (p := ⟨c, i, none⟩) hc (by simpa using e)
  · by_cases e : c = b
    · subst e
      obtain rfl := hM.eq hr
      exact ⟨L', hr', hl⟩
    · exact ⟨M, hM.fr h (by simpa using e), rfl⟩
/-- blocks that are no rows of words were written -/
theorem Fc.of_fr {B : List Nat} (h : Fr B w w1) (hB : ∀ b, b ∈ B → b < w.heap.size → ∀ i, S b i) (hT : ∀ b, b ∈ B → ∀ L, ¬ Row .u64 T w b L) : Fc T S w w1 :=
  ⟨h.os, h.tape, h.output, h.size, fun b hb hn => h.block b hb (fun hm => hn 0 (hB b hm hb 0)), fun b i hb hn => h.cell (p := ⟨b, i, none⟩) hb (fun hm => hn (hB b hm hb i)), fun b L hr => ⟨L, hr.fr h (fun hm => hT b hm L hr), rfl⟩⟩
theorem spl_getD_out {L zs : List Int} {o i : Nat} (hL : o + zs.length ≤ L.length) (h : ¬ (o ≤ i ∧ i < o + zs.length)) : (spl L o zs).getD i 0 = L.getD i 0 := by
  have ht : (L.take o).length = o := by rw [List.length_take]; omega
  simp only [List.getD_eq_getElem?_getD]
  unfold spl
  by_cases hi : i < o
  · rw [List.getElem?_append_left (by omega)]
    simp [hi]
  · rw [List.getElem?_append_right (by omega), List.getElem?_append_right (by omega), ht, List.getElem?_drop]
    congr 2; omega
theorem Fc.of_spl {zs : List Int} {o : Nat} (h : Fr [b] w w1) (hr : Row .u64 T w b L) (hr' : Row .u64 T w1 b (spl L o zs)) (hl : o + zs.length ≤ L.length) (hS : ∀ i, o ≤ i → i < o + zs.length → S b i) : Fc T S w w1 :=
  Fc.of_row h hr hr' (spl_len hl) (fun i hi => spl_getD_out hl (fun hh => hi (hS i hh.1 hh.2)))
theorem Src.fc (h : Src k w b off xs) (hf : Fc T S w w1) (hS : ∀ i, off ≤ i → i < off + xs.length → ¬ S b i) : Src k w1 b off xs := fun j hj => by
  have hc := h j hj
  have hb : b < w.heap.size := by
    rcases Nat.lt_or_ge b w.heap.size with hlt | hge
    · exact hlt
    · unfold World.cell? at hc; simp only at hc; rw [Array.getElem?_eq_none hge] at hc; cases hc
  rw [hf.cell b (off + j) hb (hS _ (by omega) (by omega))]
  exact hc
theorem Row.fc (h : Row .u64 T w b L) (hf : Fc T S w w1) : ∃ L', Row .u64 T w1 b L' ∧ L'.length = L.length ∧ ∀ i, ¬ S b i → L'.getD i 0 = L.getD i 0 := by
  obtain ⟨L', h1, h2⟩ := hf.row b L h
  refine ⟨L', h1, h2, fun i hi => ?_⟩
  by_cases hl : i < L.length
  · have := hf.cell b i h.lt hi
    rw [h.cell hl, h1.cell (by omega)] at this
    simpa using this
  · rw [getD_out (by omega), getD_out (by omega)]
end
end Go.Big
namespace Go.Proofs.YtknokndpeneogaaDoor
open Go.Big Go.RowKit
/-- what append of noughts or slices.Grow leaves: all cells of the old row, and noughts -/
def GrownRow (T : TypeId) (L : List Int) (l n : Nat) (w : World) (e : Ending) (w' : World) : Prop :=
  ∃ g c, e = .returned (.slice (some ⟨g, 0, none⟩) l c) ∧ l + n ≤ c ∧ c ≤ maxLen ∧ L.length ≤ c ∧ w.heap.size ≤ g ∧ Row .u64 T w' g (L ++ List.replicate (c - L.length) 0) ∧ Fr [] w w'
theorem grown_rowed (T : TypeId) (w : World) (L : List Int) (n c : Nat) (h : L.length + n ≤ c) :
    Row .u64 T (w.drew.alloc (.cells ((L.map (Value.int .u64)).toArray ++ Builtin.zeroCells (Value.int .u64 0).cells n ++ Builtin.zeroCells (Value.int .u64 0).cells (c - (L.length + n))) T)) w.heap.size (L ++ List.replicate (c - L.length) 0) := by
  have h1 := Row.new w.drew .u64 T (L ++ List.replicate (c - L.length) 0)
  have e : ((L ++ List.replicate (c - L.length) 0).map (Value.int .u64)).toArray = (L.map (Value.int .u64)).toArray ++ Builtin.zeroCells (Value.int .u64 0).cells n ++ Builtin.zeroCells (Value.int .u64 0).cells (c - (L.length + n)) := by
    have hz : ∀ m, Builtin.zeroCells (Value.int .u64 0).cells m = ((List.replicate m (0 : Int)).map (Value.int .u64)).toArray := fun m => by
      apply Array.toList_inj.1
      rw [Builtin.zeroCells, show (Value.int .u64 0).cells = #[Value.int .u64 0] from rfl]
      simp [Nat.mod_one]
      rw [List.map_const', List.length_range]
    rw [hz, hz]
    apply Array.toList_inj.1
    rw [show c - L.length = n + (c - (L.length + n)) by omega, ← List.replicate_append_replicate]
    simp
  rw [e] at h1
  exact h1
set_option maxRecDepth 100000 in
set_option maxHeartbeats 1000000 in
theorem growN_nil (n : Nat) (w : World) (hn0 : 0 < n) (hn : n ≤ 1000000000) : Calls Tryd.prog 122 #[.slice none 0 0, .int .i64 n] w (GrownRow 77 [] 0 n w) := by
  obtain ⟨ti, hi, hz, hsz, hb⟩ := info_parts (ty_big).2
  have hrz : ∀ ty, (Builtin.append_ #[58, 3] ty #[.slice none 0 0, .int .i64 (n : Int)]).run Tryd.prog w = _ := fun ty =>
    Lib.run_append_grow_zeros w 58 3 ty 77 ti (.int .u64 0) .i64 .i64 Tryd.underlying58 Tryd.underlying3 hi hz none 0 0 [] (run_firstCells_none w.drew ti.size 0 0 0) n hn0 (by omega) (by omega) (by omega)
      (by rw [hb]; omega) (growslice_fits (by omega) (by rw [hb]; omega))
  have hG1 := grownCap_ge w (0 + n) 0 77
  have hG2 := grownCap_le_maxLen w (0 + n) 0 77 (by unfold maxLen; omega)
  have hR := grown_rowed 77 w [] n (grownCap w (0 + n) 0 77) (by simpa using hG1)
  simp only [List.length_nil] at hR
  obtain ⟨G, hG⟩ : ∃ G, G = grownCap w (0 + n) 0 77 := ⟨_, rfl⟩
  simp only [← hG] at hrz hR hG1 hG2
  obtain ⟨W, hW⟩ : ∃ W, W = w.drew.alloc (.cells (([] : List Value).toArray ++ Builtin.zeroCells (Value.int .u64 0).cells n ++ Builtin.zeroCells (Value.int .u64 0).cells (G - (0 + n))) 77) := ⟨_, rfl⟩
  have hF : Fr [] w W := by rw [hW]; exact ((Fr.refl _ _).drew).alloc _
  simp only [List.map_nil] at hR
  rw [← hW] at hR
  simp only [← hW] at hrz
  have HRZ := Lib.hid hrz
  have HR := Lib.hid hR
  have HF := Lib.hid hF
  have h3 : IntKind.i64.wrap ((n : Int) - 0) = (n : Int) := by rw [IntKind.wrap_i64]; omega
  have hG63 : G ≤ 9223372036854775807 := by unfold maxLen at hG2; omega
  have hGi : (0 : Int) ≤ (G : Int) := by omega
  clear hrz hR hF hW hG hi hz hsz hb
  go_enter Tryd.func122, Tryd.ntmps122
  go_wp2_with (at_builtin; refine Lib.wpList_append_run _ rfl _ _ _ _ rfl _ _ rfl rfl _ _ (HRZ.out _) ?_)
  go_ret
  exact ⟨w.heap.size, G, by first | rfl | (simp), by omega, hG2, by simp, Nat.le_refl _, HR.out, HF.out⟩
set_option maxRecDepth 100000 in
set_option maxHeartbeats 1000000 in
theorem growW_room (A : Option Addr) (l c n : Nat) (w : World) (hlc : l ≤ c) (hc : c ≤ maxLen) (hroom : l + n ≤ c) :
    Calls Tryd.prog 138 #[.slice A l c, .int .i64 n] w fun e w' => e = .returned (.slice A l c) ∧ w = w' := by
  unfold maxLen at hc
  have h2 : IntKind.i64.wrap ((c : Int) - (l : Int)) = (c : Int) - (l : Int) := by rw [IntKind.wrap_i64]; omega
  have h3 : IntKind.i64.wrap ((n : Int) - ((c : Int) - (l : Int))) = (n : Int) - ((c : Int) - (l : Int)) := by rw [IntKind.wrap_i64]; omega
  have h4 : ¬ (0 < (n : Int) - ((c : Int) - (l : Int))) := by omega
  go_enter Tryd.func138, Tryd.ntmps138
  go_wp2_with fail
  go_ret
  exact ⟨rfl, rfl⟩
set_option maxRecDepth 100000 in
set_option maxHeartbeats 2000000 in
theorem growW_new (A : Option Addr) (l n : Nat) (L : List Int) (w : World) (hlc : l ≤ L.length) (hroom : L.length < l + n) (hn : l + n ≤ 1000000000000) (hA : 0 < L.length → ∃ b, A = some ⟨b, 0, none⟩ ∧ Row .u64 77 w b L) :
    Calls Tryd.prog 138 #[.slice A l L.length, .int .i64 n] w (GrownRow 77 L l n w) := by
  obtain ⟨ti, hi, hz, hsz, hb⟩ := info_parts (ty_big).2
  obtain ⟨c, hc⟩ : ∃ c, c = L.length := ⟨_, rfl⟩
  rw [← hc] at hlc hroom hA ⊢
  have hold : (Builtin.firstCells ti.size c (.slice A c c)).run Tryd.prog w.drew = .ok (L.map (Value.int .u64)).toArray w.drew := by
    rcases Nat.eq_zero_or_pos c with h0 | h0
    · have : L = [] := List.eq_nil_of_length_eq_zero (by omega)
      subst this h0
      cases A with
      | none => exact run_firstCells_none w.drew ti.size 0 0 0
      | some a => exact run_firstCells_some w.drew ti.size 0 a 0 0 [] (by simp) (by simp)
    · obtain ⟨b, rfl, hr⟩ := hA h0
      refine run_firstCells_some w.drew ti.size c _ c c (L.map (Value.int .u64)) (by rw [hsz]; simp; omega) (fun j v hj => ?_)
      have hj2 : j < L.length := by
        rcases Nat.lt_or_ge j L.length with h | h
        · exact h
        · rw [List.getElem?_eq_none (by simpa using h)] at hj; cases hj
      have hcell := (hr.drew).cell hj2
      rw [List.getElem?_map, List.getElem?_eq_getElem hj2] at hj
      simp only [Option.map_some, Option.some.injEq] at hj
      subst hj
      rw [getD_in hj2] at hcell
      unfold Addr.add
      split
      · rename_i e; subst e; exact hcell
      · simpa using hcell
  have hck : c + (l + n - c) = l + n := by omega
  have hrz : ∀ ty, (Builtin.append_ #[57, 3] ty #[.slice A c c, .int .i64 ((l + n - c : Nat) : Int)]).run Tryd.prog w = _ := fun ty =>
    Lib.run_append_grow_zeros w 57 3 ty 77 ti (.int .u64 0) .i64 .i64 Tryd.underlying57 Tryd.underlying3 hi hz A c c (L.map (Value.int .u64)) hold (l + n - c) (by omega) (by omega) (by omega) (by omega)
      (by rw [hb]; omega) (growslice_fits (by omega) (by rw [hb]; omega))
  simp only [hck] at hrz
  have hG1 := grownCap_ge w (l + n) c 77
  have hG2 := grownCap_le_maxLen w (l + n) c 77 (by unfold maxLen; omega)
  have hR := grown_rowed 77 w L (l + n - c) (grownCap w (l + n) c 77) (by omega)
  rw [← hc, hck] at hR
  obtain ⟨G, hG⟩ : ∃ G, G = grownCap w (l + n) c 77 := ⟨_, rfl⟩
  simp only [← hG] at hrz hR hG1 hG2
  obtain ⟨W, hW⟩ : ∃ W, W = w.drew.alloc (.cells ((L.map (Value.int .u64)).toArray ++ Builtin.zeroCells (Value.int .u64 0).cells (l + n - c) ++ Builtin.zeroCells (Value.int .u64 0).cells (G - (l + n))) 77) := ⟨_, rfl⟩
  have hF : Fr [] w W := by rw [hW]; exact ((Fr.refl _ _).drew).alloc _
  rw [← hW] at hR
  simp only [← hW] at hrz
  have HRZ := Lib.hid hrz
  have HR := Lib.hid hR
  have HF := Lib.hid hF
  have h2 : IntKind.i64.wrap ((c : Int) - (l : Int)) = (c : Int) - (l : Int) := by rw [IntKind.wrap_i64]; omega
  have h3 : IntKind.i64.wrap ((n : Int) - ((c : Int) - (l : Int))) = ((l + n - c : Nat) : Int) := by rw [IntKind.wrap_i64]; omega
  have h4 : (0 : Int) < ((l + n - c : Nat) : Int) := by omega
  have hG63 : G ≤ 9223372036854775807 := by unfold maxLen at hG2; omega
  have HC := Lib.hid hc
  obtain ⟨k, hk⟩ : ∃ k, k = l + n - c := ⟨_, rfl⟩
  rw [← hk] at h3 h4 HRZ
  clear hrz hR hF hW hG hi hz hsz hb hold hck hc hk hA
  go_enter Tryd.func138, Tryd.ntmps138
  cases A with
  | none =>
    go_wp2_with (at_builtin; refine Lib.wpList_append_run _ rfl _ _ _ _ rfl _ _ rfl rfl _ _ (HRZ.out _) ?_)
    all_goals (go_ret; exact ⟨w.heap.size, G, rfl, by omega, hG2, by rw [← HC.out]; omega, Nat.le_refl _, by rw [← HC.out]; exact HR.out, HF.out⟩)
  | some a =>
    obtain ⟨ab, ao, asp⟩ := a
    go_wp2_with (at_builtin; refine Lib.wpList_append_run _ rfl _ _ _ _ rfl _ _ rfl rfl _ _ (HRZ.out _) ?_)
    all_goals (go_ret; exact ⟨w.heap.size, G, rfl, by omega, hG2, by rw [← HC.out]; omega, Nat.le_refl _, by rw [← HC.out]; exact HR.out, HF.out⟩)
end Go.Proofs.YtknokndpeneogaaDoor
