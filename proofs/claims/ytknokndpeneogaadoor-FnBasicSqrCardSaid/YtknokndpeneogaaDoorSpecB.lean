/-
  The reference's natural numbers: Add, Small. Conditions: what is read can be read; at most 4,000,000 digits.
-/
import Derived.Test.YtknokndpeneogaaDoorSpecA
set_option linter.unusedSimpArgs false
set_option linter.unusedVariables false
namespace Go.Proofs.YtknokndpeneogaaDoor
open Go.Big Go.RowKit

/-- the relation of Add's loop -/
def AddRel (da db : List Int) (w0 : World) (g : Nat) (out cv iv : Value) (wr : World) : Prop :=
  ∃ (i : Nat) (c : Int) (rs : List Int), i ≤ max da.length db.length ∧ g = max da.length db.length - i ∧ iv = .int .i64 i ∧ cv = .int .i64 c ∧ 0 ≤ c ∧ c ≤ 1 ∧
    Own .i64 3 w0 wr out rs ∧ Fr [] w0 wr ∧ rs.length = i ∧ DG 65536 rs ∧ val 65536 rs + 65536 ^ i * c = val 65536 (da.take i) + val 65536 (db.take i)
theorem addRel_next {da db : List Int} {w0 wr : World} {out : Value} {i : Nat} {c x y : Int} {rs : List Int} (hi : i < max da.length db.length) (hc0 : 0 ≤ c) (hc1 : c ≤ 1)
    (hx : x = da.getD i 0) (hy : y = db.getD i 0) (hx0 : 0 ≤ x) (hx1 : x < 65536) (hy0 : 0 ≤ y) (hy1 : y < 65536) (hl : rs.length = i) (hd : DG 65536 rs)
    (hv : val 65536 rs + 65536 ^ i * c = val 65536 (da.take i) + val 65536 (db.take i)) {s s1 s2 : Int} (hs : s = c + x + y) (hs1 : s1 = s % 65536) (hs2 : s2 = s / 65536)
    (hown : Own .i64 3 w0 wr out (rs ++ [s1])) (hf : Fr [] w0 wr) : AddRel da db w0 (max da.length db.length - (i + 1)) out (.int .i64 s2) (.int .i64 (i + 1 : Nat)) wr := by
  refine ⟨i + 1, s2, rs ++ [s1], by omega, rfl, rfl, rfl, by omega, by omega, hown, hf, by simp [hl], hd.append (DG.cons (by omega) (by omega) (DG.nil _)), ?_⟩
  rw [val_snoc, val_take_succ', val_take_succ', ← hx, ← hy, hl, hs1, hs2, hs]
  exact add_step hv

set_option maxRecDepth 100000 in
set_option maxHeartbeats 1000000 in
theorem add_any (va vb : Value) (n m : Int) (w : World) (ha : SN w va n) (hb : SN w vb m) (hn : n < BIG) (hm : m < BIG) :
    Calls Tryd.prog 43 #[va, vb] w (RetSN (n + m) w) := by
  obtain ⟨da, ⟨A, ca, rfl, hla, hma, hsa⟩, dga, nza, rfl⟩ := ha
  obtain ⟨db, ⟨B, cb, rfl, hlb, hmb, hsb⟩, dgb, nzb, rfl⟩ := hb
  have la := len_BIG dga nza hn
  have lb := len_BIG dgb nzb hm
  unfold maxLen at hma hmb
  have DA := Lib.hid dga
  have DB := Lib.hid dgb
  clear dga dgb nza nzb hn hm
  go_enter Tryd.func43, Tryd.ntmps43
  go_wp2_with fail
  go_loopg [5, 6, 7] (max da.length db.length) (AddRel da db w)
  case atStart => exact ⟨0, 0, [], by omega, rfl, rfl, rfl, by omega, by omega, Own.lit0 _ _ _ _ (Nat.le_refl _), (Fr.refl _ _).alloc _, rfl, DG.nil _, by simp [val_nil]⟩
  case round =>
    obtain ⟨i, c, rs, hi, rfl, rfl, rfl, hc0, hc1, hown, hf, hl, hd, hv⟩ := hrel
    have HL := Lib.hid hl
    have HV := Lib.hid hv
    have HD := Lib.hid hd
    have hrl : rs.length < 1099511627776 := by omega
    have HRL := Lib.hid hrl
    obtain ⟨x, hx⟩ : ∃ x, x = da.getD i 0 := ⟨_, rfl⟩
    obtain ⟨y, hy⟩ : ∃ y, y = db.getD i 0 := ⟨_, rfl⟩
    obtain ⟨hx0, hx1⟩ := DA.out.getD (by omega) i
    obtain ⟨hy0, hy1⟩ := DB.out.getD (by omega) i
    rw [← hx] at hx0 hx1
    rw [← hy] at hy0 hy1
    have HX := Lib.hid hx
    have HY := Lib.hid hy
    by_cases h1 : i < da.length
    · obtain ⟨ba, oa, rfl, _, sa⟩ := hsa (by omega)
      have cA := (sa.fr hf (by simp)) i h1
      rw [← hx] at cA
      by_cases h2 : i < db.length
      · obtain ⟨bb, ob, rfl, _, sb⟩ := hsb (by omega)
        have cB := (sb.fr hf (by simp)) i h2
        rw [← hy] at cB
        clear hx hy sa sb hsa hsb hl hv hd hrl
        go_wp2_with (at_builtin; refine wp_app1 rfl (.tmp 41) (.tmp 44) _ rfl .i64 _ 8 ty_nat (by omega) w [] _ _ _ rfl hown hf rfl HRL.out ?_; intro v' w' hown' hf')
        go_roundg (max da.length db.length - (i + 1))
        case measure => omega
        case rel => exact addRel_next (by omega) hc0 hc1 HX.out HY.out hx0 hx1 hy0 hy1 HL.out HD.out HV.out rfl rfl rfl hown' hf'
      · have hy00 : y = 0 := by rw [hy]; exact getD_out (by omega)
        have HY0 := Lib.hid hy00
        clear hx hy sa hsa hsb hl hv hd hrl hy00
        go_wp2_with (at_builtin; refine wp_app1 rfl (.tmp 41) (.tmp 44) _ rfl .i64 _ 8 ty_nat (by omega) w [] _ _ _ rfl hown hf rfl HRL.out ?_; intro v' w' hown' hf')
        go_roundg (max da.length db.length - (i + 1))
        case measure => omega
        case rel => exact addRel_next (by omega) hc0 hc1 HX.out HY.out hx0 hx1 hy0 hy1 HL.out HD.out HV.out (by rw [HY0.out]; omega) rfl rfl hown' hf'
    · by_cases h2 : i < db.length
      · obtain ⟨bb, ob, rfl, _, sb⟩ := hsb (by omega)
        have cB := (sb.fr hf (by simp)) i h2
        rw [← hy] at cB
        have hx00 : x = 0 := by rw [hx]; exact getD_out (by omega)
        have HX0 := Lib.hid hx00
        clear hx hy sb hsa hsb hl hv hd hrl hx00
        go_wp2_with (at_builtin; refine wp_app1 rfl (.tmp 41) (.tmp 44) _ rfl .i64 _ 8 ty_nat (by omega) w [] _ _ _ rfl hown hf rfl HRL.out ?_; intro v' w' hown' hf')
        go_roundg (max da.length db.length - (i + 1))
        case measure => omega
        case rel => exact addRel_next (by omega) hc0 hc1 HX.out HY.out hx0 hx1 hy0 hy1 HL.out HD.out HV.out (by rw [HX0.out]; omega) rfl rfl hown' hf'
      · have hfin : val 65536 (rs ++ [c]) = val 65536 da + val 65536 db := by
          rw [val_snoc, hl, hv, List.take_of_length_le (by omega), List.take_of_length_le (by omega)]
        have HFIN := Lib.hid hfin
        have HDC := Lib.hid (hd.append (DG.cons hc0 (by omega) (DG.nil _)))
        clear hx hy hsa hsb hl hv hd hrl hfin
        go_wp2_with (first
          | (at_builtin; refine wp_app1 rfl (.tmp 48) (.tmp 50) _ rfl .i64 _ 8 ty_nat (by omega) w [] _ _ _ rfl hown hf rfl HRL.out ?_; intro v' w' hown' hf')
          | (go_at_call 46; refine (trim_own hown' HDC.out hf').mono ?_; rintro e w2 ⟨v2, rfl, hsn, hf2⟩))
        go_ret
        rw [HFIN.out] at hsn
        exact ⟨v2, rfl, hsn, hf2⟩
end Go.Proofs.YtknokndpeneogaaDoor
