/-
  Which cells a call may have turned; slices.Grow at words. Conditions: each theorem bears its own.
  The stack of numbers: save, restore, nat. Conditions: the stack's blocks are as such.
  The stack of numbers: a new number of so many words. Conditions: the stack's blocks are as such; not too much in use.
  Regions of words that can be read and written, cell by cell; the vectors' operations so told. Conditions: each theorem bears its own.
  Receivers that are not nil: nat.make, alias. Conditions: the receiver's cells can be written.
-/
import Derived.Test.YtbepihdlaidikaaDoorSetN
import Derived.Lib.AppendZerosOnto
import Derived.Defers
import Derived.Lib.QuoteBits
import Derived.Laws.BitsAllLaws
import Derived.Test.YtbepihdlaidikaaDoorgAdd
import Derived.LaidEqlPtr
set_option linter.unusedSimpArgs false
set_option linter.unusedVariables false
section
namespace Go.Big
open Go.RowKit

/-- w' is w moved on: of the old blocks only the cells of S may have turned; rows of words stay rows of words -/
structure Fc (T : TypeId) (S : Nat → Nat → Prop) (w w' : World) : Prop where
  os : w'.os = w.os
  tape : w'.tape = w.tape
  output : w'.output = w.output
  size : w.heap.size ≤ w'.heap.size
  block : ∀ b, b < w.heap.size → (∀ i, ¬ S b i) → w'.heap[b]? = w.heap[b]?
  cell : ∀ b i, b < w.heap.size → ¬ S b i → w'.cell? ⟨b, i, none⟩ = w.cell? ⟨b, i, none⟩
  row : ∀ b L, Row .u64 T w b L → ∃ L', Row .u64 T w' b L' ∧ L'.length = L.length

section
variable {T : TypeId} {S S' : Nat → Nat → Prop} {w w1 w2 : World} {b off : Nat} {xs L : List Int} {k : IntKind}

theorem Fc.refl (T : TypeId) (S : Nat → Nat → Prop) (w : World) : Fc T S w w := ⟨rfl, rfl, rfl, Nat.le_refl _, fun _ _ _ => rfl, fun _ _ _ _ => rfl, fun _ L h => ⟨L, h, rfl⟩⟩
theorem Fc.trans (h : Fc T S w w1) (h' : Fc T S' w1 w2) (hS : ∀ b i, S' b i → b < w.heap.size → S b i) : Fc T S w w2 :=
  ⟨h'.os.trans h.os, h'.tape.trans h.tape, h'.output.trans h.output, Nat.le_trans h.size h'.size,
    fun b hb hn => (h'.block b (Nat.lt_of_lt_of_le hb h.size) (fun i hm => hn i (hS b i hm hb))).trans (h.block b hb hn),
    fun b i hb hn => (h'.cell b i (Nat.lt_of_lt_of_le hb h.size) (fun hm => hn (hS b i hm hb))).trans (h.cell b i hb hn),
    fun b L hr => by
      obtain ⟨L1, h1, l1⟩ := h.row b L hr
      obtain ⟨L2, h2, l2⟩ := h'.row b L1 h1
      exact ⟨L2, h2, l2.trans l1⟩⟩
theorem Fc.mono (h : Fc T S w w1) (hS : ∀ b i, S b i → b < w.heap.size → S' b i) : Fc T S' w w1 := (Fc.refl T S' w).trans h hS
theorem Fc.t (h : Fc T S w w1) (h' : Fc T S w1 w2) : Fc T S w w2 := h.trans h' (fun _ _ h _ => h)
theorem Fc.fr0 (h : Fr [] w w1) (T : TypeId) (S : Nat → Nat → Prop) : Fc T S w w1 :=
  ⟨h.os, h.tape, h.output, h.size, fun b hb _ => h.block b hb (by simp), fun b i hb _ => h.cell (p := ⟨b, i, none⟩) hb (by simp), fun b L hr => ⟨L, hr.fr h (by simp), rfl⟩⟩
/-- one row was written in part -/
theorem Fc.of_row {L' : List Int} (h : Fr [b] w w1) (hr : Row .u64 T w b L) (hr' : Row .u64 T w1 b L') (hl : L'.length = L.length) (he : ∀ i, ¬ S b i → L'.getD i 0 = L.getD i 0) : Fc T S w w1 := by
  refine ⟨h.os, h.tape, h.output, h.size, fun c hc hn => ?_, fun c i hc hn => ?_, fun c M hM => ?_⟩
  · by_cases e : c = b
    · subst e
      have : L' = L := List.ext_getElem hl (fun i h1 h2 => by have := he i (hn i); rwa [getD_in h1, getD_in h2] at this)
      subst this
      exact hr'.trans hr.symm
    · exact h.block c hc (by simpa using e)
  · by_cases e : c = b
    · subst e
      by_cases hi : i < L.length
      · rw [hr.cell hi, hr'.cell (by omega), he i hn]
      · unfold Row at hr hr'
        unfold World.cell?
        rw [hr, hr']
        simp [hl, hi]
    · exact h.cell (p := ⟨c, i, none⟩) hc (by simpa using e)
  · by_cases e : c = b
    · subst e
      obtain rfl := hM.eq hr
      exact ⟨L', hr', hl⟩
    · exact ⟨M, hM.fr h (by simpa using e), rfl⟩
/-- blocks that are no rows of words were written -/
theorem Fc.of_fr {B : List Nat} (h : Fr B w w1) (hB : ∀ b, b ∈ B → b < w.heap.size → ∀ i, S b i) (hT : ∀ b, b ∈ B → ∀ L, ¬ Row .u64 T w b L) : Fc T S w w1 :=
  ⟨h.os, h.tape, h.output, h.size, fun b hb hn => h.block b hb (fun hm => hn 0 (hB b hm hb 0)), fun b i hb hn => h.cell (p := ⟨b, i, none⟩) hb (fun hm => hn (hB b hm hb i)), fun b L hr => ⟨L, hr.fr h (fun hm => hT b hm L hr), rfl⟩⟩
theorem spl_getD_out {L zs : List Int} {o i : Nat} (hL : o + zs.length ≤ L.length) (h : ¬ (o ≤ i ∧ i < o + zs.length)) : (spl L o zs).getD i 0 = L.getD i 0 := by
  have ht : (L.take o).length = o := by rw [List.length_take]; omega
  simp only [List.getD_eq_getElem?_getD]
  unfold spl
  by_cases hi : i < o
  · rw [List.getElem?_append_left (by omega)]
    simp [hi]
  · rw [List.getElem?_append_right (by omega), List.getElem?_append_right (by omega), ht, List.getElem?_drop]
    congr 2; omega
theorem Fc.of_spl {zs : List Int} {o : Nat} (h : Fr [b] w w1) (hr : Row .u64 T w b L) (hr' : Row .u64 T w1 b (spl L o zs)) (hl : o + zs.length ≤ L.length) (hS : ∀ i, o ≤ i → i < o + zs.length → S b i) : Fc T S w w1 :=
  Fc.of_row h hr hr' (spl_len hl) (fun i hi => spl_getD_out hl (fun hh => hi (hS i hh.1 hh.2)))
theorem Src.fc (h : Src k w b off xs) (hf : Fc T S w w1) (hS : ∀ i, off ≤ i → i < off + xs.length → ¬ S b i) : Src k w1 b off xs := fun j hj => by
  have hc := h j hj
  have hb : b < w.heap.size := by
    rcases Nat.lt_or_ge b w.heap.size with hlt | hge
    · exact hlt
    · unfold World.cell? at hc; simp only at hc; rw [Array.getElem?_eq_none hge] at hc; cases hc
  rw [hf.cell b (off + j) hb (hS _ (by omega) (by omega))]
  exact hc
theorem Row.fc (h : Row .u64 T w b L) (hf : Fc T S w w1) : ∃ L', Row .u64 T w1 b L' ∧ L'.length = L.length ∧ ∀ i, ¬ S b i → L'.getD i 0 = L.getD i 0 := by
  obtain ⟨L', h1, h2⟩ := hf.row b L h
  refine ⟨L', h1, h2, fun i hi => ?_⟩
  by_cases hl : i < L.length
  · have := hf.cell b i h.lt hi
    rw [h.cell hl, h1.cell (by omega)] at this
    simpa using this
  · rw [getD_out (by omega), getD_out (by omega)]
end
end Go.Big
namespace Go.Proofs.YtbepihdlaidikaaDoor
open Go.Big Go.RowKit
/-- what append of noughts or slices.Grow leaves: all cells of the old row, and noughts -/
def GrownRow (T : TypeId) (L : List Int) (l n : Nat) (w : World) (e : Ending) (w' : World) : Prop :=
  ∃ g c, e = .returned (.slice (some ⟨g, 0, none⟩) l c) ∧ l + n ≤ c ∧ c ≤ maxLen ∧ L.length ≤ c ∧ w.heap.size ≤ g ∧ Row .u64 T w' g (L ++ List.replicate (c - L.length) 0) ∧ Fr [] w w'
theorem grown_rowed (T : TypeId) (w : World) (L : List Int) (n c : Nat) (h : L.length + n ≤ c) :
    Row .u64 T (w.drew.alloc (.cells ((L.map (Value.int .u64)).toArray ++ Builtin.zeroCells (Value.int .u64 0).cells n ++ Builtin.zeroCells (Value.int .u64 0).cells (c - (L.length + n))) T)) w.heap.size (L ++ List.replicate (c - L.length) 0) := by
  have h1 := Row.new w.drew .u64 T (L ++ List.replicate (c - L.length) 0)
  have e : ((L ++ List.replicate (c - L.length) 0).map (Value.int .u64)).toArray = (L.map (Value.int .u64)).toArray ++ Builtin.zeroCells (Value.int .u64 0).cells n ++ Builtin.zeroCells (Value.int .u64 0).cells (c - (L.length + n)) := by
    have hz : ∀ m, Builtin.zeroCells (Value.int .u64 0).cells m = ((List.replicate m (0 : Int)).map (Value.int .u64)).toArray := fun m => by
      apply Array.toList_inj.1
      rw [Builtin.zeroCells, show (Value.int .u64 0).cells = #[Value.int .u64 0] from rfl]
      simp [Nat.mod_one]
      rw [List.map_const', List.length_range]
    rw [hz, hz]
    apply Array.toList_inj.1
    rw [show c - L.length = n + (c - (L.length + n)) by omega, ← List.replicate_append_replicate]
    simp
  rw [e] at h1
  exact h1
end Go.Proofs.YtbepihdlaidikaaDoor
end
section
namespace Go.Big
/-- a function's end where it defers, and does not panic -/
def bodyPostN (P : Program) (fn : Func) (R : Ending → World → Prop) : Exit → Act → World → Prop
  | .normal, a, w | .ret, a, w => Leaves P fn a.tmps R a.defers .returning w
  | .outgrown, _, w => R .outgrown w
  | _, _, _ => False
theorem bodyPostN_D {P : Program} {fn : Func} {R : Ending → World → Prop} : ∀ e a w, bodyPostN P fn R e a w → bodyPostD P fn R e a w := by
  intro e a w h
  cases e <;> first | exact h | exact h.elim
end Go.Big
namespace Go.Proofs.YtbepihdlaidikaaDoor
open Go.Big Go.RowKit
end Go.Proofs.YtbepihdlaidikaaDoor
end
section
namespace Go.Big
theorem andNot3 (i : Nat) (h : i < 4611686018427387904) : bits .andNot .i64 (i : Int) 3 = ((i / 4 * 4 : Nat) : Int) := by
  show IntKind.i64.wrap ((BitVec.ofInt 64 (i : Int) &&& ~~~BitVec.ofInt 64 ((3 : Nat) : Int)).toNat : Int) = _
  rw [BitVec.toNat_and, BitVec.toNat_not, ofInt_u64 i (by omega), ofInt_u64 3 (by omega)]
  have e : i &&& (2 ^ 64 - 1 - 3) = i / 4 * 4 := by
    apply Nat.eq_of_testBit_eq
    intro j
    rw [Nat.testBit_and, show 2 ^ 64 - 1 - 3 = (2 ^ 62 - 1) <<< 2 from by decide, Nat.testBit_shiftLeft, Nat.testBit_two_pow_sub_one, show i / 4 * 4 = (i >>> 2) <<< 2 from by rw [Nat.shiftRight_eq_div_pow, Nat.shiftLeft_eq], Nat.testBit_shiftLeft, Nat.testBit_shiftRight]
    by_cases hj : 2 ≤ j
    · rw [show 2 + (j - 2) = j by omega]
      by_cases h2 : j - 2 < 62
      · simp [hj, h2]
      · have : i.testBit j = false := Nat.testBit_lt_two_pow (Nat.lt_of_lt_of_le h (by
          have := Nat.pow_le_pow_right (n := 2) (by omega) (show 62 ≤ j by omega)
          simpa using this))
        simp [this]
    · simp [hj]
  rw [e]
  exact Lib.wrap_i64_small _ (by omega)
end Go.Big
namespace Go.Proofs.YtbepihdlaidikaaDoor
open Go.Big Go.RowKit
end Go.Proofs.YtbepihdlaidikaaDoor
end
section
namespace Go.Big
open Go.RowKit
/-- the words xs lie in a row of words from o on -/
def Wr (T : TypeId) (w : World) (b o : Nat) (xs : List Int) : Prop := Src .u64 w b o xs ∧ ∃ L, Row .u64 T w b L ∧ o + xs.length ≤ L.length
def In1 (b o n : Nat) (b' i : Nat) : Prop := b' = b ∧ o ≤ i ∧ i < o + n
/-- two stretches apart -/
def Dj (b o n b' o' n' : Nat) : Prop := b ≠ b' ∨ o + n ≤ o' ∨ o' + n' ≤ o ∨ n = 0 ∨ n' = 0
def Off (S : Nat → Nat → Prop) (b o n : Nat) : Prop := ∀ i, o ≤ i → i < o + n → ¬ S b i
section
variable {T : TypeId} {S S' : Nat → Nat → Prop} {w w1 w2 : World} {b o n b' o' n' : Nat} {xs zs L : List Int}
theorem Dj.symm (h : Dj b o n b' o' n') : Dj b' o' n' b o n := by unfold Dj at *; omega
theorem Dj.off (h : Dj b o n b' o' n') : Off (In1 b' o' n') b o n := by
  intro i h1 h2 ⟨e, h3, h4⟩
  subst e
  unfold Dj at h; omega
theorem Dj.sub {i m i' m' : Nat} (h : Dj b o n b' o' n') (h1 : i + m ≤ n) (h2 : i' + m' ≤ n') : Dj b (o + i) m b' (o' + i') m' := by unfold Dj at *; omega
theorem Dj.sub1 {m m' : Nat} (h : Dj b o n b' o' n') (h1 : m ≤ n) (h2 : m' ≤ n') : Dj b o m b' o' m' := by unfold Dj at *; omega
theorem Dj.subr {i' m' : Nat} (h : Dj b o n b' o' n') (h2 : i' + m' ≤ n') : Dj b o n b' (o' + i') m' := by unfold Dj at *; omega
theorem In1.up {i m x y : Nat} (h : In1 b (o + i) m x y) (hm : i + m ≤ n) : In1 b o n x y := by unfold In1 at *; omega
theorem Src.dr {k : IntKind} (h : Src k w b o xs) : Src k w.drew b o xs := h
theorem Fc.of_drew (h : Fc T S w.drew w1) : Fc T S w w1 := ⟨h.os, h.tape, h.output, h.size, h.block, h.cell, h.row⟩
theorem spl_whole {L cs : List Int} (h : cs.length = L.length) : spl L 0 cs = cs := by unfold spl; simp [h]
theorem Off.or (h : Off S b o n) (h' : Off S' b o n) : Off (fun b i => S b i ∨ S' b i) b o n := fun i h1 h2 h3 => h3.elim (h i h1 h2) (h' i h1 h2)
theorem Off.sub {i m : Nat} (h : Off S b o n) (hm : i + m ≤ n) : Off S b (o + i) m := fun j h1 h2 => h j (by omega) (by omega)
theorem Wr.lt (h : Wr T w b o xs) : b < w.heap.size := by obtain ⟨_, L, hL, _⟩ := h; exact hL.lt
theorem Wr.src (h : Wr T w b o xs) : Src .u64 w b o xs := h.1
theorem Wr.cell (h : Wr T w b o xs) {j : Nat} (hj : j < xs.length) : w.cell? ⟨b, o + j, none⟩ = some (.int .u64 (xs.getD j 0)) := h.1 j hj
theorem Wr.frozen (h : Wr T w b o xs) (i : Nat) : w.frozen? ⟨b, i, none⟩ = false := by obtain ⟨_, L, hL, _⟩ := h; exact hL.frozen i
theorem Wr.fc (h : Wr T w b o xs) (hf : Fc T S w w1) (ho : Off S b o xs.length) : Wr T w1 b o xs := by
  obtain ⟨h1, L, hL, hl⟩ := h
  obtain ⟨L', hL', hl'⟩ := hf.row _ _ hL
  exact ⟨h1.fc hf ho, L', hL', by omega⟩
theorem Wr.drewN (h : Wr T w b o xs) (m : Nat) : Wr T (w.drewN m) b o xs := h
theorem Wr.drew (h : Wr T w b o xs) : Wr T w.drew b o xs := h
/-- a part of a row -/
theorem Wr.of_row (h : Row .u64 T w b L) (hl : o + xs.length ≤ L.length) (he : ∀ j, j < xs.length → L.getD (o + j) 0 = xs.getD j 0) : Wr T w b o xs :=
  ⟨fun j hj => by rw [h.cell (by omega), he j hj], L, h, hl⟩
theorem Wr.row (h : Row .u64 T w b L) : Wr T w b 0 L := Wr.of_row h (by omega) (fun j _ => by rw [Nat.zero_add])
theorem getD_drop_take {i m j : Nat} (h : j < m) : ((xs.drop i).take m).getD j 0 = xs.getD (i + j) 0 := by
  simp [List.getD_eq_getElem?_getD, List.getElem?_take, h]
theorem Wr.sub (h : Wr T w b o xs) (i m : Nat) (hi : i + m ≤ xs.length) : Wr T w b (o + i) ((xs.drop i).take m) := by
  obtain ⟨h1, L, hL, hl⟩ := h
  have e : ((xs.drop i).take m).length = m := by rw [List.length_take, List.length_drop]; omega
  refine ⟨fun j hj => ?_, L, hL, by omega⟩
  rw [e] at hj
  have := h1 (i + j) (by omega)
  rw [← Nat.add_assoc] at this
  rw [this, getD_drop_take hj]
theorem Wr.take (h : Wr T w b o xs) (m : Nat) (hm : m ≤ xs.length) : Wr T w b o (xs.take m) := by
  have := h.sub 0 m (by omega)
  simpa using this
theorem Wr.drop (h : Wr T w b o xs) (i : Nat) (hi : i ≤ xs.length) : Wr T w b (o + i) (xs.drop i) := by
  have := h.sub i (xs.length - i) (by omega)
  rwa [List.take_of_length_le (by simp)] at this
/-- a part was written -/
theorem Wr.upd {i : Nat} (h : Wr T w b o xs) (h' : Wr T w1 b (o + i) zs) (hf : Fc T (In1 b (o + i) zs.length) w w1) (hi : i + zs.length ≤ xs.length) : Wr T w1 b o (spl xs i zs) := by
  obtain ⟨h1, L, hL, hl⟩ := h
  obtain ⟨L', hL', hl'⟩ := hf.row _ _ hL
  have e : (spl xs i zs).length = xs.length := spl_len hi
  refine ⟨fun j hj => ?_, L', hL', by omega⟩
  rw [e] at hj
  by_cases hin : i ≤ j ∧ j < i + zs.length
  · obtain ⟨k, rfl⟩ : ∃ k, j = i + k := ⟨j - i, by omega⟩
    have := h'.1 k (by omega)
    rw [Nat.add_assoc] at this
    rw [this, spl_get_in (by omega) (by omega)]
  · rw [spl_getD_out hi hin, hf.cell b (o + j) hL.lt (fun hh => hin ⟨by have := hh.2.1; omega, by have := hh.2.2; omega⟩)]
    exact h1 j hj
theorem Wr.set (h : Wr T w b o xs) {j : Nat} (hj : j < xs.length) (v : Int) : Wr T (w.setCell ⟨b, o + j, none⟩ (.int .u64 v)) b o (xs.set j v) := by
  obtain ⟨h1, L, hL, hl⟩ := h
  refine Wr.of_row (hL.set (o + j) v) (by simpa using hl) (fun i hi => ?_)
  rw [List.length_set] at hi
  by_cases e : i = j
  · subst e
    rw [getD_set_self _ (by omega), getD_set_self _ hj]
  · rw [getD_set _ (by omega), getD_set _ (fun q => e q.symm)]
    have hc := hL.cell (i := o + i) (by omega)
    rw [h1 i hi] at hc
    simpa using hc.symm
theorem Fc.set1 (h : Wr T w b o xs) {j : Nat} (hj : j < xs.length) (v : Int) : Fc T (In1 b (o + j) 1) w (w.setCell ⟨b, o + j, none⟩ (.int .u64 v)) := by
  obtain ⟨h1, L, hL, hl⟩ := h
  refine Fc.of_row (by apply Fr.set _ (.inl (by simp)); exact Fr.refl _ _) hL (hL.set (o + j) v) (by simp) (fun i hi => getD_set _ (fun e => hi ⟨rfl, by omega, by omega⟩))
theorem Wr.fr0 (h : Wr T w b o xs) (hf : Fr [] w w1) : Wr T w1 b o xs := h.fc (Fc.fr0 hf T (fun _ _ => False)) (fun _ _ _ h => h)
end
end Go.Big
namespace Go.Proofs.YtbepihdlaidikaaDoor
open Go.Big Go.RowKit
/-- a vector's operation, told cell by cell -/
def VecW (w : World) (bz oz n : Nat) (R : List Int → Int → Prop) (e : Ending) (w' : World) : Prop :=
  ∃ (zs : List Int) (c : Int), e = .returned (.int .u64 c) ∧ Wr 48 w' bz oz zs ∧ Fc 48 (In1 bz oz n) w w' ∧ zs.length = n ∧ DG 18446744073709551616 zs ∧ R zs c
theorem VecPost.w {w w' : World} {bz oz n : Nat} {L : List Int} {R : List Int → Int → Prop} {e : Ending} (h : VecPost 48 w bz oz n L R e w') (hz : Row .u64 48 w bz L) (hfit : oz + n ≤ L.length) : VecW w bz oz n R e w' := by
  obtain ⟨zs, c, rfl, row, hf, hl, hd, hr⟩ := h
  refine ⟨zs, c, rfl, Wr.of_row row (by rw [spl_len (by omega)]; omega) (fun j hj => spl_get_in (by omega) hj), Fc.of_spl hf hz row (by omega) (fun i h1 h2 => ⟨rfl, h1, by omega⟩), hl, hd, hr⟩
/-- the operand lies apart from the target, or where it is, or behind -/
theorem NoTouch.of {bz oz bx ox n : Nat} (h : Dj bx ox n bz oz n ∨ (bx = bz ∧ oz ≤ ox)) : NoTouch bz oz bx ox n := by
  unfold NoTouch Dj at *; omega
set_option maxRecDepth 100000 in
theorem mulAddVWWw_any (bz oz cz bx ox cx n : Nat) (L xs : List Int) (y r : Int) (w : World) (hz : Wr 48 w bz oz L) (hL : L.length = n) (hnx : xs.length = n) (hsx : Go.Big.Src .u64 w bx ox xs) (hdx : DG 18446744073709551616 xs) (halx : Dj bx ox n bz oz n ∨ (bx = bz ∧ oz ≤ ox)) (hn9 : n ≤ 1000000000) (hy0 : 0 ≤ y) (hy1 : y < 18446744073709551616) (hr0 : 0 ≤ r) (hr1 : r < 18446744073709551616) :
    Calls Tryd.prog 30 #[.slice (some ⟨bz, oz, none⟩) n cz, .slice (some ⟨bx, ox, none⟩) n cx, .int .u64 y, .int .u64 r] w (VecW w bz oz n (fun zs c => 0 ≤ c ∧ c < 18446744073709551616 ∧ val 18446744073709551616 zs + 18446744073709551616 ^ n * c = val 18446744073709551616 xs * y + r)) := by
  obtain ⟨_, M, hM, hl⟩ := hz
  have C := Lib.hid ((mulAddVWW_any bz oz cz bx ox cx n M xs y r w hM (by omega) hnx hsx hdx (NoTouch.of halx) hn9 hy0 hy1 hr0 hr1).mono fun e w' h => VecPost.w h hM (by omega))
  clear hM hl hnx hsx hdx halx hL
  go_enter Tryd.func30, Tryd.ntmps30
  go_wp2_with (go_at_call 35; refine (Hid.out C).mono ?_; rintro e w1 ⟨zs, c, rfl, h⟩; have H := Lib.hid h; clear h)
  go_ret
  exact ⟨zs, c, rfl, H.out⟩
end Go.Proofs.YtbepihdlaidikaaDoor
end
section
namespace Go.Proofs.YtbepihdlaidikaaDoor
open Go.Big Go.RowKit
/-- a receiver: nil, or c cells of a row from o on -/
def Rcv (w : World) (A : Option Addr) (b o c : Nat) : Prop := c ≤ maxLen ∧ (c = 0 ∨ (A = some ⟨b, o, none⟩ ∧ ∃ Z, Wr 48 w b o Z ∧ Z.length = c))
theorem Rcv.nil (w : World) (b o : Nat) : Rcv w none b o 0 := ⟨by unfold maxLen; omega, .inl rfl⟩
theorem Rcv.fc {w w' : World} {A : Option Addr} {b o c : Nat} {S : Nat → Nat → Prop} (h : Rcv w A b o c) (hf : Fc 48 S w w') : Rcv w' A b o c := by
  obtain ⟨h1, h2 | ⟨h2, Z, ⟨_, L, hL, hl⟩, hz⟩⟩ := h
  · exact ⟨h1, .inl h2⟩
  · obtain ⟨L', hL', hl'⟩ := hf.row _ _ hL
    refine ⟨h1, .inr ⟨h2, (L'.drop o).take c, Wr.of_row hL' ?_ (fun j hj => ?_), ?_⟩⟩
    · rw [List.length_take, List.length_drop]; omega
    · rw [List.length_take] at hj; rw [getD_drop_take (by omega)]
    · rw [List.length_take, List.length_drop]; omega
/-- behind make: n words of the receiver, or of a new row -/
def MadeR (A : Option Addr) (b o c n : Nat) (w : World) (e : Ending) (w' : World) : Prop :=
  ∃ b' o' c' Z, e = .returned (.slice (some ⟨b', o', none⟩) n c') ∧ n ≤ c' ∧ c' ≤ maxLen ∧ Wr 48 w' b' o' Z ∧ Z.length = c' ∧ Fr [] w w' ∧ ((A = some ⟨b, o, none⟩ ∧ b' = b ∧ o' = o ∧ c' = c ∧ n ≤ c ∧ w = w') ∨ (c < n ∧ c' ≤ n + 4 ∧ w.heap.size ≤ b'))
set_option maxRecDepth 100000 in
set_option maxHeartbeats 1000000 in
theorem makeR_any (A : Option Addr) (l b o c n : Nat) (w : World) (h : Rcv w A b o c) (hl : l ≤ c) (hn0 : 0 < n) (hn : n ≤ 1000000000) : Calls Tryd.prog 29 #[.slice A l c, .int .i64 (n : Int)] w (MadeR A b o c n w) := by
  obtain ⟨hc, h⟩ := h
  unfold maxLen at hc
  by_cases h0 : n ≤ c
  · have hA : A = some ⟨b, o, none⟩ ∧ ∃ Z, Wr 48 w b o Z ∧ Z.length = c := by rcases h with h | h; omega; exact h
    obtain ⟨rfl, Z, hZ, hl'⟩ := hA
    have HZ := Lib.hid hZ
    have HL := Lib.hid hl'
    clear hZ hl' h
    go_enter Tryd.func29, Tryd.ntmps29
    go_wp2_with fail
    go_ret
    exact ⟨b, o, c, Z, rfl, h0, by unfold maxLen; omega, HZ.out, HL.out, Fr.refl _ _, .inl ⟨rfl, rfl, rfl, rfl, h0, rfl⟩⟩
  · clear h
    by_cases h1 : n = 1
    · subst h1
      go_enter Tryd.func29, Tryd.ntmps29
      go_wp2_with (at_make; refine wp_mkc rfl (.const (.int .i64 1)) (.const (.int .i64 1)) _ rfl .u64 48 8 ty_big (by omega) 1 1 rfl rfl (by omega) (by omega) ?_; intro g w1 hg row f)
      go_ret
      exact ⟨g, 0, 1, _, rfl, by omega, by unfold maxLen; omega, Wr.row row, by simp, f, .inr ⟨by omega, by omega, hg⟩⟩
    · have hw : IntKind.i64.wrap ((n : Int) + 4) = ((n + 4 : Nat) : Int) := by rw [IntKind.wrap_i64]; omega
      have h1' : ((n : Int) == 1) = false := by rw [beq_eq_false_iff_ne]; omega
      go_enter Tryd.func29, Tryd.ntmps29
      go_wp2_with (at_make; refine wp_mkc rfl (.tmp 15) (.tmp 17) _ rfl .u64 48 8 ty_big (by omega) n (n + 4) rfl (by first | rfl | (show Value.int IntKind.i64 _ = _; congr 1)) (by omega) (by omega) ?_; intro g w1 hg row f)
      go_ret
      exact ⟨g, 0, n + 4, _, rfl, by omega, by unfold maxLen; omega, Wr.row row, by simp, f, .inr ⟨by omega, by omega, hg⟩⟩
theorem eql_ptr {a c : Addr} {L X : List Int} (w : World) (hne : a ≠ c) (hz : Row .u64 48 w a.block L) (hx : Row .u64 48 w c.block X) :
    (binOp .eql 78 (.pointer (some a)) (.pointer (some c))).run Tryd.prog w = .ok (.bool false) w := by
  obtain ⟨j, hj, hjs⟩ : ∃ j, Tryd.prog.info? 48 = some j ∧ j.size = 1 := by
    have h := size_wordV
    cases e : Tryd.prog.info? 48 with
    | none => rw [e] at h; cases h
    | some j => rw [e] at h; exact ⟨j, rfl, by simpa using h⟩
  exact run_eql_ptr_other w Tryd.underlying78 hj (by omega) hne hz hx
set_option maxRecDepth 100000 in
theorem alias_no0 (A B : Option Addr) (l m c d : Nat) (w : World) (h : c = 0 ∨ d = 0) (hc : c ≤ maxLen) (hd : d ≤ maxLen) : Calls Tryd.prog 32 #[.slice A l c, .slice B m d] w fun e w' => e = .returned (.bool false) ∧ Fr [] w w' := by
  unfold maxLen at hc hd
  by_cases h0 : c = 0
  · subst h0
    clear h
    go_enter Tryd.func32, Tryd.ntmps32
    go_wp2_with fail
    go_quiet (fail)
    go_wp2_with fail
    go_ret
    exact ⟨rfl, (Fr.refl _ _).drewN _⟩
  · have hd0 : d = 0 := by omega
    subst hd0
    have hc0 : (0 : Int) < (c : Int) := by omega
    have hc1 : 0 < c := by omega
    have hcb : decide ((0 : Int) < (c : Int)) = true := by simpa using hc1
    have hcb2 : decide (0 < c) = true := by simpa using hc1
    clear h
    go_enter Tryd.func32, Tryd.ntmps32
    go_wp2_with fail
    go_quiet (fail)
    go_wp2_with fail
    go_ret
    exact ⟨rfl, (Fr.refl _ _).drewN _⟩
set_option maxRecDepth 100000 in
theorem alias_no (bx ox l c by_ oy m d : Nat) (w : World) (X Y : List Int) (hx : Row .u64 48 w bx X) (hy : Row .u64 48 w by_ Y) (hlc : l ≤ c) (hmd : m ≤ d) (hc : c ≤ maxLen) (hd : d ≤ maxLen) (hc0 : 0 < c) (hd0 : 0 < d) (hne : bx ≠ by_ ∨ ox + c ≠ oy + d) :
    Calls Tryd.prog 32 #[.slice (some ⟨bx, ox, none⟩) l c, .slice (some ⟨by_, oy, none⟩) m d] w fun e w' => e = .returned (.bool false) ∧ Fr [] w w' := by
  unfold maxLen at hc hd
  obtain ⟨c1, hc1⟩ : ∃ c1, c1 = c - 1 := ⟨_, rfl⟩
  obtain ⟨d1, hd1⟩ : ∃ d1, d1 = d - 1 := ⟨_, rfl⟩
  have e1 : (c : Int) - 1 = (c1 : Int) := by omega
  have e2 : (d : Int) - 1 = (d1 : Int) := by omega
  have hc1c : (c1 : Int) < (c : Int) := by omega
  have hd1d : (d1 : Int) < (d : Int) := by omega
  have hcp : (0 : Int) < (c : Int) := by omega
  have hdp : (0 : Int) < (d : Int) := by omega
  have hcb : decide ((0 : Int) < (c : Int)) = true := by simpa using hc0
  have hcb2 : decide (0 < c) = true := by simpa using hc0
  have hdb : decide ((0 : Int) < (d : Int)) = true := by simpa using hd0
  have hdb2 : decide (0 < d) = true := by simpa using hd0
  have hcl : (l : Int) ≤ (c : Int) := by omega
  have hdl : (m : Int) ≤ (d : Int) := by omega
  have hq := fun k => eql_ptr (a := ⟨bx, ox + c1, none⟩) (c := ⟨by_, oy + d1, none⟩) (w.drewN k) (by intro e; injection e with e1 e2; omega) (hx.drewN k) (hy.drewN k)
  have hq1 := hq 1
  have hq2 : (binOp .eql 78 (.pointer (some ⟨bx, ox + c1, none⟩)) (.pointer (some ⟨by_, oy + d1, none⟩))).run Tryd.prog w.drew = .ok (.bool false) w.drew := hq 1
  have hwc : IntKind.i64.wrap (c1 : Int) = (c1 : Int) := by rw [IntKind.wrap_i64]; omega
  have hwd : IntKind.i64.wrap (d1 : Int) = (d1 : Int) := by rw [IntKind.wrap_i64]; omega
  clear hq hx hy hc1 hd1 hne
  go_enter Tryd.func32, Tryd.ntmps32
  go_wp2_with fail
  go_region
  all_goals (go_wp2_with fail)
  all_goals go_ret
  all_goals exact ⟨rfl, (Fr.refl _ _).drew⟩
end Go.Proofs.YtbepihdlaidikaaDoor
end
