/-
  lshVU_g and rshVU_g: shifts of words by fewer bits than a word has. Conditions: what is read can be read, what is written is a row; where both lie in one row, what is still to be read has not been written.
-/
import Derived.Test.YtknokndpeneogaaDoorNorm
import Derived.RegionTactic
import Derived.ChangeAlike
import Derived.Laws.CopyOwn
import Derived.Laws.Bits64
set_option linter.unusedSimpArgs false
set_option linter.unusedVariables false
namespace Go.Big
open Go.RowKit

/-- cs laid over L from o on -/
def spl (L : List Int) (o : Nat) (cs : List Int) : List Int := L.take o ++ (cs ++ L.drop (o + cs.length))
theorem spl_nil (L : List Int) (o : Nat) : spl L o [] = L := by simp [spl]
theorem spl_len {L : List Int} {o : Nat} {cs : List Int} (h : o + cs.length ≤ L.length) : (spl L o cs).length = L.length := by simp [spl]; omega
theorem spl_get {L : List Int} {o : Nat} {cs : List Int} (h : o + cs.length ≤ L.length) (i : Nat) :
    (spl L o cs).getD i 0 = if i < o then L.getD i 0 else if i < o + cs.length then cs.getD (i - o) 0 else L.getD i 0 := by
  have ht : (L.take o).length = o := by rw [List.length_take]; omega
  simp only [List.getD_eq_getElem?_getD]
  unfold spl
  by_cases h1 : i < o
  · rw [if_pos h1, List.getElem?_append_left (by omega), List.getElem?_take, if_pos h1]
  · rw [if_neg h1, List.getElem?_append_right (by omega), ht]
    by_cases h2 : i < o + cs.length
    · rw [if_pos h2, List.getElem?_append_left (by omega)]
    · rw [if_neg h2, List.getElem?_append_right (by omega), List.getElem?_drop]
      congr 2; omega
theorem spl_set_end {L : List Int} {o : Nat} {cs : List Int} (h : o + cs.length < L.length) (z : Int) : (spl L o cs).set (o + cs.length) z = spl L o (cs ++ [z]) := by
  have ht : (L.take o).length = o := by rw [List.length_take]; omega
  unfold spl
  rw [List.set_append_right _ _ (by omega), ht, Nat.add_sub_cancel_left, List.set_append_right _ _ (Nat.le_refl _), Nat.sub_self, List.drop_eq_getElem_cons h, List.set_cons_zero]
  simp [Nat.add_assoc]
theorem spl_set_top {L : List Int} {o : Nat} {cs : List Int} (h : o < L.length) (z : Int) : (spl L (o + 1) cs).set o z = spl L o (z :: cs) := by
  unfold spl
  rw [List.set_append_left _ _ (by rw [List.length_take]; omega), List.take_succ_eq_append_getElem h, List.set_append_right _ _ (by rw [List.length_take]; omega), List.length_take, Nat.min_eq_left (by omega), Nat.sub_self]
  simp [Nat.add_assoc, Nat.add_comm 1]
theorem spl_dg {B : Int} {L : List Int} {o : Nat} {cs : List Int} (h : DG B L) (k : DG B cs) : DG B (spl L o cs) := (h.take _).append (k.append (h.drop _))
theorem spl_all {L cs : List Int} (h : cs.length = L.length) : spl L 0 cs = cs := by
  unfold spl
  rw [List.drop_eq_nil_of_le (by omega)]
  simp

theorem Src.lt {k : IntKind} {w : World} {b off : Nat} {xs : List Int} (h : Src k w b off xs) (hp : 0 < xs.length) : b < w.heap.size := by
  have h0 := h 0 hp
  rcases Nat.lt_or_ge b w.heap.size with hlt | hge
  · exact hlt
  · unfold World.cell? at h0
    rw [Array.getElem?_eq_none (by simpa using hge)] at h0
    cases h0
theorem Src.sl {k : IntKind} {w : World} {b off n c : Nat} {xs : List Int} (h : Src k w b off xs) (hn : xs.length = n) (hc : n ≤ c) (hm : c ≤ maxLen) : Sl k w (.slice (some ⟨b, off, none⟩) n c) xs :=
  ⟨_, c, by rw [hn], by omega, hm, fun hp => ⟨b, off, rfl, h.lt hp, h⟩⟩
theorem Src.spl {k : IntKind} {T : TypeId} {w w' : World} {b : Nat} {L : List Int} {o : Nat} {cs : List Int} {bx ox : Nat} {xs : List Int} (hs : Src k w bx ox xs) (hr : Row k T w b L)
    (hr' : Row k T w' b (Big.spl L o cs)) (hf : Fr [b] w w') (hfit : o + cs.length ≤ L.length) {j : Nat} (hj : j < xs.length) (hno : bx ≠ b ∨ ox + j < o ∨ o + cs.length ≤ ox + j) :
    w'.cell? ⟨bx, ox + j, none⟩ = some (.int k (xs.getD j 0)) := by
  by_cases e : bx = b
  · subst e
    have h0 := hs j hj
    by_cases hl : ox + j < L.length
    · have h1 := hr.cell hl
      rw [h1] at h0
      injection h0 with h0
      injection h0 with _ h0
      rw [hr'.cell (by rw [spl_len hfit]; exact hl), spl_get hfit, ← h0]
      rcases hno with h | h | h
      · exact absurd rfl h
      · rw [if_pos h]
      · rw [if_neg (by omega), if_neg (by omega)]
    · exfalso
      unfold Row at hr
      unfold World.cell? at h0
      rw [hr] at h0
      simp [List.getElem?_eq_none (show L.length ≤ ox + j by omega)] at h0
  · exact hf.cell_some (hs j hj) (by simpa using e)

theorem or_shift (a b : Int) (s : Nat) (hs0 : 0 < s) (hs : s < 64) (ha0 : 0 ≤ a) (hb0 : 0 ≤ b) (hb : b < 18446744073709551616) :
    bits .or .u64 (IntKind.u64.wrap (a * 2 ^ s)) (b / 2 ^ (64 - s)) = (a * 2 ^ s) % 18446744073709551616 + b / 2 ^ (64 - s) := by
  rw [IntKind.wrap_u64]
  obtain ⟨m, rfl⟩ := Int.eq_ofNat_of_zero_le ha0
  obtain ⟨n, rfl⟩ := Int.eq_ofNat_of_zero_le hb0
  have e1 : ((m : Int) * 2 ^ s % 18446744073709551616) = ((2 ^ s * (m % 2 ^ (64 - s)) : Nat) : Int) := by
    have : (18446744073709551616 : Nat) = 2 ^ s * 2 ^ (64 - s) := by rw [← Nat.pow_add, show s + (64 - s) = 64 by omega]
    have h2 : m * 2 ^ s % 18446744073709551616 = 2 ^ s * (m % 2 ^ (64 - s)) := by rw [this, Nat.mul_comm m, Nat.mul_mod_mul_left]
    rw [← h2]; simp
  have e2 : ((n : Int) / 2 ^ (64 - s)) = ((n / 2 ^ (64 - s) : Nat) : Int) := by simp
  have hlt : n / 2 ^ (64 - s) < 2 ^ s := by
    rw [Nat.div_lt_iff_lt_mul (Nat.two_pow_pos _), ← Nat.pow_add, show s + (64 - s) = 64 by omega]
    omega
  have h3 : 2 ^ s * (m % 2 ^ (64 - s)) < 18446744073709551616 := by
    have := Nat.mod_lt m (Nat.two_pow_pos (64 - s))
    have h4 : 2 ^ s * (m % 2 ^ (64 - s)) < 2 ^ s * 2 ^ (64 - s) := Nat.mul_lt_mul_of_pos_left this (Nat.two_pow_pos _)
    rw [← Nat.pow_add, show s + (64 - s) = 64 by omega] at h4
    exact h4
  have h5 : n / 2 ^ (64 - s) < 18446744073709551616 := Nat.lt_of_le_of_lt (Nat.div_le_self _ _) (by omega)
  rw [e1, e2, u64_or_nat _ _ h3 h5, ← Nat.two_pow_add_eq_or_of_lt hlt]
  simp

/-- 'copy(z, x)' into a row -/
theorem wp_copy {P : Program} {ops : Array Oper} {rest : List Oper} {o : Oper} {a : Act} {Q : Exit → Act → World → Prop} {w : World} (hgd : o.guard = none) (d s : Operand) (dT sT : TypeId)
    (ho : o.op = .call { callee := .builtin .copy, args := #[d, s], argTypes := #[dT, sT] }) (k : IntKind) (T : TypeId) (hu : P.underlying dT = some (.slice T)) (hsz : (P.info? T).map (·.size) = some 1)
    (g off dLen dCap : Nat) (hd : a.eval d = .slice (some ⟨g, off, none⟩) dLen dCap) (v : Value) (xs : List Int) (hs : a.eval s = v) (hsl : Sl k w v xs) (L : List Int) (hrow : Row k T w g L) (hfit : off + dLen ≤ L.length)
    (h : ∀ w', Row k T w' g (spl L off (xs.take dLen)) → Fr [g] w w' → wpList P ops Q rest (a.put o.dst (goInt (xs.take dLen).length)) w') : wpList P ops Q (o :: rest) a w := by
  obtain ⟨A, cap, rfl, h1, h2, h3⟩ := hsl
  by_cases h0 : (xs.take dLen).length = 0
  · refine wpList_copy_nothing hgd d s dT sT ho T hu hsz _ A dLen dCap xs.length cap hd hs (by rw [List.length_take] at h0; show min xs.length dLen = 0; omega) ?_
    have e := h w (by rw [List.eq_nil_of_length_eq_zero h0, spl_nil]; exact hrow) (Fr.refl _ _)
    rw [h0] at e
    exact e
  · have hp : 0 < xs.length := by rw [List.length_take] at h0; omega
    obtain ⟨b, o2, rfl, hb, hsrc⟩ := h3 hp
    have hl : ((xs.take dLen).map (Value.int k)).length = Nat.min xs.length dLen := by rw [List.length_map, List.length_take]; show min dLen xs.length = min xs.length dLen; omega
    refine wpList_copy_own hgd d s dT sT ho T hu hsz g off dLen dCap ⟨b, o2, none⟩ xs.length cap hd hs _ T hrow ((xs.take dLen).map (Value.int k)) hl ?_ ?_ (ints_oneCell k _) ?_
    · intro j v hj
      rw [List.getElem?_map] at hj
      have hlt : j < (xs.take dLen).length := by
        rcases Nat.lt_or_ge j (xs.take dLen).length with hl | hl
        · exact hl
        · rw [List.getElem?_eq_none hl] at hj; cases hj
      have hc := (hsrc.take dLen) j hlt
      rw [List.getElem?_eq_getElem hlt] at hj
      simp only [Option.map_some, Option.some.injEq] at hj
      subst hj
      rw [getD_in hlt] at hc
      rw [← hc]
      unfold Addr.add
      split
      · rename_i hj0; subst hj0; rfl
      · rfl
    · rw [List.length_map, List.length_take]; simp; omega
    · rw [List.length_map]
      refine h _ ?_ ?_
      · unfold Row spl
        rw [setRow_heap w g _ _ T _ hrow]
        simp [List.map_take, List.map_drop]
      · refine ⟨rfl, rfl, rfl, by simp [World.setRow], fun b hb hn => setRow_other w g b _ (by simpa using hn)⟩

end Go.Big
