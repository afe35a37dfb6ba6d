/-
  Regions of words that can be read and written, cell by cell; the vectors' operations so told. Conditions: each theorem bears its own.
-/
import Derived.Test.YtknokndpeneogaaDoorStk
import Derived.Test.YtknokndpeneogaaDoorSub
import Derived.Test.YtknokndpeneogaaDoorAdd
set_option linter.unusedSimpArgs false
set_option linter.unusedVariables false
namespace Go.Big
open Go.RowKit
/-- the words xs lie in a row of words from o on -/
def Wr (T : TypeId) (w : World) (b o : Nat) (xs : List Int) : Prop := Src .u64 w b o xs ∧ ∃ L, Row .u64 T w b L ∧ o + xs.length ≤ L.length
def In1 (b o n : Nat) (b' i : Nat) : Prop := b' = b ∧ o ≤ i ∧ i < o + n
/-- two stretches apart -/
def Dj (b o n b' o' n' : Nat) : Prop := b ≠ b' ∨ o + n ≤ o' ∨ o' + n' ≤ o ∨ n = 0 ∨ n' = 0
def Off (S : Nat → Nat → Prop) (b o n : Nat) : Prop := ∀ i, o ≤ i → i < o + n → ¬ S b i
section
variable {T : TypeId} {S S' : Nat → Nat → Prop} {w w1 w2 : World} {b o n b' o' n' : Nat} {xs zs L : List Int}
theorem Dj.symm (h : Dj b o n b' o' n') : Dj b' o' n' b o n := by unfold Dj at *; omega
theorem Dj.off (h : Dj b o n b' o' n') : Off (In1 b' o' n') b o n := by
  intro i h1 h2 ⟨e, h3, h4⟩
  subst e
  unfold Dj at h; omega
theorem Dj.sub {i m i' m' : Nat} (h : Dj b o n b' o' n') (h1 : i + m ≤ n) (h2 : i' + m' ≤ n') : Dj b (o + i) m b' (o' + i') m' := by unfold Dj at *; omega
theorem Dj.sub1 {m m' : Nat} (h : Dj b o n b' o' n') (h1 : m ≤ n) (h2 : m' ≤ n') : Dj b o m b' o' m' := by unfold Dj at *; omega
theorem Dj.subr {i' m' : Nat} (h : Dj b o n b' o' n') (h2 : i' + m' ≤ n') : Dj b o n b' (o' + i') m' := by unfold Dj at *; omega
theorem In1.up {i m x y : Nat} (h : In1 b (o + i) m x y) (hm : i + m ≤ n) : In1 b o n x y := by unfold In1 at *; omega
theorem Src.dr {k : IntKind} (h : Src k w b o xs) : Src k w.drew b o xs := h
theorem Fc.of_drew (h : Fc T S w.drew w1) : Fc T S w w1 := ⟨h.os, h.tape, h.output, h.size, h.block, h.cell, h.row⟩
theorem spl_whole {L cs : List Int} (h : cs.length = L.length) : spl L 0 cs = cs := by unfold spl; simp [h]
theorem Off.or (h : Off S b o n) (h' : Off S' b o n) : Off (fun b i => S b i ∨ S' b i) b o n := fun i h1 h2 h3 => h3.elim (h i h1 h2) (h' i h1 h2)
theorem Off.sub {i m : Nat} (h : Off S b o n) (hm : i + m ≤ n) : Off S b (o + i) m := fun j h1 h2 => h j (by omega) (by omega)
theorem Wr.lt (h : Wr T w b o xs) : b < w.heap.size := by obtain ⟨_, L, hL, _⟩ := h; exact hL.lt
theorem Wr.src (h : Wr T w b o xs) : Src .u64 w b o xs := h.1
theorem Wr.cell (h : Wr T w b o xs) {j : Nat} (hj : j < xs.length) : w.cell? ⟨b, o + j, none⟩ = some (.int .u64 (xs.getD j 0)) := h.1 j hj
theorem Wr.frozen (h : Wr T w b o xs) (i : Nat) : w.frozen? ⟨b, i, none⟩ = false := by obtain ⟨_, L, hL, _⟩ := h; exact hL.frozen i
theorem Wr.fc (h : Wr T w b o xs) (hf : Fc T S w w1) (ho : Off S b o xs.length) : Wr T w1 b o xs := by
  obtain ⟨h1, L, hL, hl⟩ := h
  obtain ⟨L', hL', hl'⟩ := hf.row _ _ hL
  exact ⟨h1.fc hf ho, L', hL', by omega⟩
theorem Wr.drewN (h : Wr T w b o xs) (m : Nat) : Wr T (w.drewN m) b o xs := h
theorem Wr.drew (h : Wr T w b o xs) : Wr T w.drew b o xs := h
/-- a part of a row -/
theorem Wr.of_row (h : Row .u64 T w b L) (hl : o + xs.length ≤ L.length) (he : ∀ j, j < xs.length → L.getD (o + j) 0 = xs.getD j 0) : Wr T w b o xs :=
  ⟨fun j hj => by rw [h.cell (by omega), he j hj], L, h, hl⟩
theorem Wr.row (h : Row .u64 T w b L) : Wr T w b 0 L := Wr.of_row h (by omega) (fun j _ => by rw [Nat.zero_add])
theorem getD_drop_take {i m j : Nat} (h : j < m) : ((xs.drop i).take m).getD j 0 = xs.getD (i + j) 0 := by
  simp [List.getD_eq_getElem?_getD, List.getElem?_take, h]
theorem Wr.sub (h : Wr T w b o xs) (i m : Nat) (hi : i + m ≤ xs.length) : Wr T w b (o + i) ((xs.drop i).take m) := by
  obtain ⟨h1, L, hL, hl⟩ := h
  have e : ((xs.drop i).take m).length = m := by rw [List.length_take, List.length_drop]; omega
  refine ⟨fun j hj => ?_, L, hL, by omega⟩
  rw [e] at hj
  have := h1 (i + j) (by omega)
  rw [← Nat.add_assoc] at this
  rw [this, getD_drop_take hj]
theorem Wr.take (h : Wr T w b o xs) (m : Nat) (hm : m ≤ xs.length) : Wr T w b o (xs.take m) := by
  have := h.sub 0 m (by omega)
  simpa using this
theorem Wr.drop (h : Wr T w b o xs) (i : Nat) (hi : i ≤ xs.length) : Wr T w b (o + i) (xs.drop i) := by
  have := h.sub i (xs.length - i) (by omega)
  rwa [List.take_of_length_le (by simp)] at this
/-- a part was written -/
theorem Wr.upd {i : Nat} (h : Wr T w b o xs) (h' : Wr T w1 b (o + i) zs) (hf : Fc T (In1 b (o + i) zs.length) w w1) (hi : i + zs.length ≤ xs.length) : Wr T w1 b o (spl xs i zs) := by
  obtain ⟨h1, L, hL, hl⟩ := h
  obtain ⟨L', hL', hl'⟩ := hf.row _ _ hL
  have e : (spl xs i zs).length = xs.length := spl_len hi
  refine ⟨fun j hj => ?_, L', hL', by omega⟩
  rw [e] at hj
  by_cases hin : i ≤ j ∧ j < i + zs.length
  · obtain ⟨k, rfl⟩ : ∃ k, j = i + k := ⟨j - i, by omega⟩
    have := h'.1 k (by omega)
    rw [Nat.add_assoc] at this
    rw [this, spl_get_in (by omega) (by omega)]
  · rw [spl_getD_out hi hin, hf.cell b (o + j) hL.lt (fun hh => hin ⟨by have := hh.2.1; omega, by have := hh.2.2; omega⟩)]
    exact h1 j hj
theorem Wr.set (h : Wr T w b o xs) {j : Nat} (hj : j < xs.length) (v : Int) : Wr T (w.setCell ⟨b, o + j, none⟩ (.int .u64 v)) b o (xs.set j v) := by
  obtain ⟨h1, L, hL, hl⟩ := h
  refine Wr.of_row (hL.set (o + j) v) (by simpa using hl) (fun i hi => ?_)
  rw [List.length_set] at hi
  by_cases e : i = j
  · subst e
    rw [getD_set_self _ (by omega), getD_set_self _ hj]
  · rw [getD_set _ (by omega), getD_set _ (fun q => e q.symm)]
    have hc := hL.cell (i := o + i) (by omega)
    rw [h1 i hi] at hc
    simpa using hc.symm
theorem Fc.set1 (h : Wr T w b o xs) {j : Nat} (hj : j < xs.length) (v : Int) : Fc T (In1 b (o + j) 1) w (w.setCell ⟨b, o + j, none⟩ (.int .u64 v)) := by
  obtain ⟨h1, L, hL, hl⟩ := h
  refine Fc.of_row (by apply Fr.set _ (.inl (by simp)); exact Fr.refl _ _) hL (hL.set (o + j) v) (by simp) (fun i hi => getD_set _ (fun e => hi ⟨rfl, by omega, by omega⟩))
theorem Wr.fr0 (h : Wr T w b o xs) (hf : Fr [] w w1) : Wr T w1 b o xs := h.fc (Fc.fr0 hf T (fun _ _ => False)) (fun _ _ _ h => h)
end
end Go.Big
namespace Go.Proofs.YtknokndpeneogaaDoor
open Go.Big Go.RowKit
/-- a vector's operation, told cell by cell -/
def VecW (w : World) (bz oz n : Nat) (R : List Int → Int → Prop) (e : Ending) (w' : World) : Prop :=
  ∃ (zs : List Int) (c : Int), e = .returned (.int .u64 c) ∧ Wr 77 w' bz oz zs ∧ Fc 77 (In1 bz oz n) w w' ∧ zs.length = n ∧ DG 18446744073709551616 zs ∧ R zs c
theorem VecPost.w {w w' : World} {bz oz n : Nat} {L : List Int} {R : List Int → Int → Prop} {e : Ending} (h : VecPost 77 w bz oz n L R e w') (hz : Row .u64 77 w bz L) (hfit : oz + n ≤ L.length) : VecW w bz oz n R e w' := by
  obtain ⟨zs, c, rfl, row, hf, hl, hd, hr⟩ := h
  refine ⟨zs, c, rfl, Wr.of_row row (by rw [spl_len (by omega)]; omega) (fun j hj => spl_get_in (by omega) hj), Fc.of_spl hf hz row (by omega) (fun i h1 h2 => ⟨rfl, h1, by omega⟩), hl, hd, hr⟩
/-- the operand lies apart from the target, or where it is, or behind -/
theorem NoTouch.of {bz oz bx ox n : Nat} (h : Dj bx ox n bz oz n ∨ (bx = bz ∧ oz ≤ ox)) : NoTouch bz oz bx ox n := by
  unfold NoTouch Dj at *; omega
theorem addVVw_any (bz oz cz bx ox cx by_ oy cy n : Nat) (L xs ys : List Int) (w : World) (hz : Wr 77 w bz oz L) (hL : L.length = n) (hnx : xs.length = n) (hsx : Go.Big.Src .u64 w bx ox xs) (hdx : DG 18446744073709551616 xs) (halx : Dj bx ox n bz oz n ∨ (bx = bz ∧ oz ≤ ox))
    (hny : ys.length = n) (hsy : Go.Big.Src .u64 w by_ oy ys) (hdy : DG 18446744073709551616 ys) (haly : Dj by_ oy n bz oz n ∨ (by_ = bz ∧ oz ≤ oy)) (hn9 : n ≤ 1000000000) :
    Calls Tryd.prog 96 #[.slice (some ⟨bz, oz, none⟩) n cz, .slice (some ⟨bx, ox, none⟩) n cx, .slice (some ⟨by_, oy, none⟩) n cy] w (VecW w bz oz n (fun zs c => 0 ≤ c ∧ c ≤ 1 ∧ val 18446744073709551616 zs + 18446744073709551616 ^ n * c = val 18446744073709551616 xs + val 18446744073709551616 ys)) := by
  obtain ⟨_, M, hM, hl⟩ := hz
  exact (addVVo_any bz oz cz bx ox cx by_ oy cy n M xs ys w hM (by omega) hnx hsx hdx (NoTouch.of halx) hny hsy hdy (NoTouch.of haly) hn9).mono fun e w' h => VecPost.w h hM (by omega)
theorem subVVw_any (bz oz cz bx ox cx by_ oy cy n : Nat) (L xs ys : List Int) (w : World) (hz : Wr 77 w bz oz L) (hL : L.length = n) (hnx : xs.length = n) (hsx : Go.Big.Src .u64 w bx ox xs) (hdx : DG 18446744073709551616 xs) (halx : Dj bx ox n bz oz n ∨ (bx = bz ∧ oz ≤ ox))
    (hny : ys.length = n) (hsy : Go.Big.Src .u64 w by_ oy ys) (hdy : DG 18446744073709551616 ys) (haly : Dj by_ oy n bz oz n ∨ (by_ = bz ∧ oz ≤ oy)) (hn9 : n ≤ 1000000000) :
    Calls Tryd.prog 134 #[.slice (some ⟨bz, oz, none⟩) n cz, .slice (some ⟨bx, ox, none⟩) n cx, .slice (some ⟨by_, oy, none⟩) n cy] w (VecW w bz oz n (fun zs c => 0 ≤ c ∧ c ≤ 1 ∧ val 18446744073709551616 zs + val 18446744073709551616 ys = val 18446744073709551616 xs + 18446744073709551616 ^ n * c)) := by
  obtain ⟨_, M, hM, hl⟩ := hz
  exact (subVVo_any bz oz cz bx ox cx by_ oy cy n M xs ys w hM (by omega) hnx hsx hdx (NoTouch.of halx) hny hsy hdy (NoTouch.of haly) hn9).mono fun e w' h => VecPost.w h hM (by omega)
set_option maxRecDepth 100000 in
theorem mulAddVWWw_any (bz oz cz bx ox cx n : Nat) (L xs : List Int) (y r : Int) (w : World) (hz : Wr 77 w bz oz L) (hL : L.length = n) (hnx : xs.length = n) (hsx : Go.Big.Src .u64 w bx ox xs) (hdx : DG 18446744073709551616 xs) (halx : Dj bx ox n bz oz n ∨ (bx = bz ∧ oz ≤ ox)) (hn9 : n ≤ 1000000000) (hy0 : 0 ≤ y) (hy1 : y < 18446744073709551616) (hr0 : 0 ≤ r) (hr1 : r < 18446744073709551616) :
    Calls Tryd.prog 129 #[.slice (some ⟨bz, oz, none⟩) n cz, .slice (some ⟨bx, ox, none⟩) n cx, .int .u64 y, .int .u64 r] w (VecW w bz oz n (fun zs c => 0 ≤ c ∧ c < 18446744073709551616 ∧ val 18446744073709551616 zs + 18446744073709551616 ^ n * c = val 18446744073709551616 xs * y + r)) := by
  obtain ⟨_, M, hM, hl⟩ := hz
  have C := Lib.hid ((mulAddVWW_any bz oz cz bx ox cx n M xs y r w hM (by omega) hnx hsx hdx (NoTouch.of halx) hn9 hy0 hy1 hr0 hr1).mono fun e w' h => VecPost.w h hM (by omega))
  clear hM hl hnx hsx hdx halx hL
  go_enter Tryd.func129, Tryd.ntmps129
  go_wp2_with (go_at_call 142; refine (Hid.out C).mono ?_; rintro e w1 ⟨zs, c, rfl, h⟩; have H := Lib.hid h; clear h)
  go_ret
  exact ⟨zs, c, rfl, H.out⟩
end Go.Proofs.YtknokndpeneogaaDoor
