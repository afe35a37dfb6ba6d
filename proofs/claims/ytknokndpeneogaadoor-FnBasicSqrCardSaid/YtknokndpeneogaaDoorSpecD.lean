/-
  The reference's natural numbers: Sub. Conditions: what is read can be read; the lesser is taken off the greater.
-/
import Derived.Test.YtknokndpeneogaaDoorSpecA
set_option linter.unusedSimpArgs false
set_option linter.unusedVariables false
namespace Go.Proofs.YtknokndpeneogaaDoor
open Go.Big Go.RowKit
def SubRel (da db : List Int) (w0 : World) (g : Nat) (out cv iv : Value) (wr : World) : Prop :=
  ∃ (i : Nat) (c : Int) (rs : List Int), i ≤ da.length ∧ g = da.length - i ∧ iv = .int .i64 i ∧ cv = .int .i64 c ∧ 0 ≤ c ∧ c ≤ 1 ∧
    Own .i64 3 w0 wr out rs ∧ Fr [] w0 wr ∧ rs.length = i ∧ DG 65536 rs ∧ val 65536 rs + val 65536 (db.take i) = val 65536 (da.take i) + 65536 ^ i * c
theorem subRel_next {da db : List Int} {w0 wr : World} {out : Value} {i : Nat} {c x y : Int} {rs : List Int} (hi : i < da.length) (hc0 : 0 ≤ c) (hc1 : c ≤ 1)
    (hx : x = da.getD i 0) (hy : y = db.getD i 0) (hx0 : 0 ≤ x) (hx1 : x < 65536) (hy0 : 0 ≤ y) (hy1 : y < 65536) (hl : rs.length = i) (hd : DG 65536 rs)
    (hv : val 65536 rs + val 65536 (db.take i) = val 65536 (da.take i) + 65536 ^ i * c) {s c' : Int} (hs : s = x - c - y + 65536 * c') (hc' : 0 ≤ c' ∧ c' ≤ 1) (hs0 : 0 ≤ s) (hs1 : s < 65536)
    (hown : Own .i64 3 w0 wr out (rs ++ [s])) (hf : Fr [] w0 wr) : SubRel da db w0 (da.length - (i + 1)) out (.int .i64 c') (.int .i64 (i + 1 : Nat)) wr := by
  refine ⟨i + 1, c', rs ++ [s], by omega, rfl, rfl, rfl, hc'.1, hc'.2, hown, hf, by simp [hl], hd.append (DG.cons hs0 hs1 (DG.nil _)), ?_⟩
  rw [val_snoc, val_take_succ', val_take_succ', ← hx, ← hy, hl, hs, Int.pow_succ]
  grind
set_option maxRecDepth 100000 in
set_option maxHeartbeats 2000000 in
theorem sub_any (va vb : Value) (n m : Int) (w : World) (ha : SN w va n) (hb : SN w vb m) (hn : n < BIG) (hmn : m ≤ n) :
    Calls Tryd.prog 66 #[va, vb] w (RetSN (n - m) w) := by
  obtain ⟨da, ⟨A, ca, rfl, hla, hma, hsa⟩, dga, nza, rfl⟩ := ha
  obtain ⟨db, ⟨B, cb, rfl, hlb, hmb, hsb⟩, dgb, nzb, rfl⟩ := hb
  have la := len_BIG dga nza hn
  have lb : db.length ≤ da.length := len_le (by omega) dgb nzb (Int.lt_of_le_of_lt hmn (val_lt (by omega) dga))
  unfold maxLen at hma hmb
  have DA := Lib.hid dga
  have DB := Lib.hid dgb
  have HMN := Lib.hid hmn
  clear dga dgb nza nzb hn hmn
  go_enter Tryd.func66, Tryd.ntmps66
  go_wp2_with fail
  go_loopg [5, 6, 12] da.length (SubRel da db w)
  case atStart => exact ⟨0, 0, [], by omega, rfl, rfl, rfl, by omega, by omega, Own.lit0 _ _ _ _ (Nat.le_refl _), (Fr.refl _ _).alloc _, rfl, DG.nil _, by simp [val_nil]⟩
  case round =>
    obtain ⟨i, c, rs, hi, rfl, rfl, rfl, hc0, hc1, hown, hf, hl, hd, hv⟩ := hrel
    have HL := Lib.hid hl
    have HV := Lib.hid hv
    have HD := Lib.hid hd
    have hrl : rs.length < 1099511627776 := by omega
    have HRL := Lib.hid hrl
    obtain ⟨x, hx⟩ : ∃ x, x = da.getD i 0 := ⟨_, rfl⟩
    obtain ⟨y, hy⟩ : ∃ y, y = db.getD i 0 := ⟨_, rfl⟩
    obtain ⟨hx0, hx1⟩ := DA.out.getD (by omega) i
    obtain ⟨hy0, hy1⟩ := DB.out.getD (by omega) i
    rw [← hx] at hx0 hx1
    rw [← hy] at hy0 hy1
    have HX := Lib.hid hx
    have HY := Lib.hid hy
    by_cases h1 : i < da.length
    · obtain ⟨ba, oa, rfl, _, sa⟩ := hsa (by omega)
      have cA := (sa.fr hf (by simp)) i h1
      rw [← hx] at cA
      by_cases h2 : i < db.length
      · obtain ⟨bb, ob, rfl, _, sb⟩ := hsb (by omega)
        have cB := (sb.fr hf (by simp)) i h2
        rw [← hy] at cB
        clear hx hy sa sb hsa hsb hl hv hd hrl
        by_cases h3 : x - c - y < 0
        · go_wp2_with (at_builtin; refine wp_app1 rfl (.tmp 34) (.tmp 36) _ rfl .i64 _ 8 ty_nat (by omega) w [] _ _ _ rfl hown hf rfl HRL.out ?_; intro v' w' hown' hf')
          go_roundg (da.length - (i + 1))
          case measure => omega
          case rel => exact subRel_next (c' := 1) (by omega) hc0 hc1 HX.out HY.out hx0 hx1 hy0 hy1 HL.out HD.out HV.out (by omega) (by omega) (by omega) (by omega) hown' hf'
        · go_wp2_with (at_builtin; refine wp_app1 rfl (.tmp 34) (.tmp 36) _ rfl .i64 _ 8 ty_nat (by omega) w [] _ _ _ rfl hown hf rfl HRL.out ?_; intro v' w' hown' hf')
          go_roundg (da.length - (i + 1))
          case measure => omega
          case rel => exact subRel_next (c' := 0) (by omega) hc0 hc1 HX.out HY.out hx0 hx1 hy0 hy1 HL.out HD.out HV.out (by omega) (by omega) (by omega) (by omega) hown' hf'
      · have hy00 : y = 0 := by rw [hy]; exact getD_out (by omega)
        have HY0 := Lib.hid hy00
        clear hx hy sa hsa hsb hl hv hd hrl hy00
        by_cases h3 : x - c < 0
        · go_wp2_with (at_builtin; refine wp_app1 rfl (.tmp 34) (.tmp 36) _ rfl .i64 _ 8 ty_nat (by omega) w [] _ _ _ rfl hown hf rfl HRL.out ?_; intro v' w' hown' hf')
          go_roundg (da.length - (i + 1))
          case measure => omega
          case rel => exact subRel_next (c' := 1) (by omega) hc0 hc1 HX.out HY.out hx0 hx1 hy0 hy1 HL.out HD.out HV.out (by rw [HY0.out]; omega) (by omega) (by omega) (by omega) hown' hf'
        · go_wp2_with (at_builtin; refine wp_app1 rfl (.tmp 34) (.tmp 36) _ rfl .i64 _ 8 ty_nat (by omega) w [] _ _ _ rfl hown hf rfl HRL.out ?_; intro v' w' hown' hf')
          go_roundg (da.length - (i + 1))
          case measure => omega
          case rel => exact subRel_next (c' := 0) (by omega) hc0 hc1 HX.out HY.out hx0 hx1 hy0 hy1 HL.out HD.out HV.out (by rw [HY0.out]; omega) (by omega) (by omega) (by omega) hown' hf'
    · have hfin : val 65536 rs = val 65536 da - val 65536 db := by
        have e1 : da.take i = da := List.take_of_length_le (by omega)
        have e2 : db.take i = db := List.take_of_length_le (by omega)
        rw [e1, e2] at hv
        have h1 := val_lt (by omega) hd
        rw [hl] at h1
        have hmn := HMN.out
        rcases (show c = 0 ∨ c = 1 by omega) with rfl | rfl
        · omega
        · omega
      have HFIN := Lib.hid hfin
      clear hx hy hsa hsb hl hv hd hrl hfin
      go_wp2_with (go_at_call 46; refine (trim_own hown HD.out hf).mono ?_; rintro e w2 ⟨v2, rfl, hsn, hf2⟩)
      go_ret
      rw [HFIN.out] at hsn
      exact ⟨v2, rfl, hsn, hf2⟩
set_option maxRecDepth 100000 in
set_option maxHeartbeats 1000000 in
theorem sbit_any (k : Nat) (w : World) (hk : k ≤ 1000000) : Calls Tryd.prog 22 #[.int .i64 (k : Int)] w (RetSN (2 ^ k) w) := by
  obtain ⟨q, hq⟩ : ∃ q, q = k / 16 := ⟨_, rfl⟩
  obtain ⟨r, hr⟩ : ∃ r, r = k % 16 := ⟨_, rfl⟩
  have hr16 : r < 16 := by omega
  have hq2 : q ≤ 62500 := by omega
  have he : (2 : Int) ^ k = 65536 ^ q * 2 ^ r := by
    rw [show k = 16 * q + r by omega, Int.pow_add, Int.pow_mul]; rfl
  obtain ⟨P, hP⟩ : ∃ P : Int, P = 2 ^ r := ⟨_, rfl⟩
  have hP0 : 0 < P := by rw [hP]; exact pow_pos_ (by omega) r
  have hP1 : P ≤ 32768 := by
    rw [hP]; have := pow_le_pow_ (B := 2) (by omega) (show r ≤ 15 by omega); exact this
  rw [← hP] at he
  rw [he]
  have hkq : (k : Int) / 16 = (q : Int) := by omega
  have hkr : (k : Int) % 16 = (r : Int) := by omega
  have hmin : min r 64 = r := by omega
  have hpow : (2 : Int) ^ r = P := hP.symm
  have hwq : IntKind.i64.wrap ((q : Int) + 1) = ((q + 1 : Nat) : Int) := by rw [IntKind.wrap_i64]; omega
  have hwp : IntKind.i64.wrap P = P := by rw [IntKind.wrap_i64]; omega
  have hwp1 : IntKind.i64.wrap (1 * P) = P := by rw [IntKind.wrap_i64]; omega
  clear hq hr hP he
  go_enter Tryd.func22, Tryd.ntmps22
  go_wp2_with (at_make; refine wp_mk rfl (.tmp 6) (.tmp 6) _ rfl .i64 3 8 ty_nat (by omega) (q + 1) (by first | rfl | (show Value.int IntKind.i64 _ = _; congr 1)) (by first | rfl | (show Value.int IntKind.i64 _ = _; congr 1)) (by omega) ?_; intro g w1 hg row f; have hfz := row.frozen q; have cz := row.cell (i := q) (by simp); obtain ⟨old, hold⟩ : ∃ old, old = (List.replicate (q + 1) (0 : Int)).getD q 0 := ⟨_, rfl⟩; rw [← hold] at cz; clear hold)
  go_ret
  have row2 := row.set q P
  have e : (List.replicate (q + 1) (0 : Int)).set q P = List.replicate q 0 ++ [P] := by
    rw [List.replicate_succ', List.set_append_right _ _ (by simp)]; simp
  rw [e] at row2
  have sl := row2.sl (by simp; omega)
  rw [show (List.replicate q (0 : Int) ++ [P]).length = q + 1 by simp] at sl
  refine ⟨_, rfl, ⟨List.replicate q 0 ++ [P], sl, DG.append (DG.rep (by omega) _) (DG.cons (by omega) (by omega) (DG.nil _)), .inr ?_, ?_⟩, f.trans (S' := [g]) (by apply Fr.set _ (.inl (by simp)); exact Fr.refl _ _) (fun x hx hlt => by simp at hx; omega)⟩
  · simp [List.getD_eq_getElem?_getD]; omega
  · rw [val_snoc, val_rep]; simp
end Go.Proofs.YtknokndpeneogaaDoor
