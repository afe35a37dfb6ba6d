/-
  The reference's natural numbers: Add, Small. Conditions: what is read can be read; at most 4,000,000 digits.
  The reference's natural numbers: Mul. Conditions: what is read can be read; at most 4,000,000 digits.
  The reference's natural numbers: Sub. Conditions: what is read can be read; the lesser is taken off the greater.
  The reference's Shl and Shifted. Conditions: what is read can be read; a shift by at most 1,000,000 bits.
-/
import Derived.Test.YtbepihdlaidikaaDoorgBase
set_option linter.unusedSimpArgs false
set_option linter.unusedVariables false
section
namespace Go.Proofs.YtbepihdlaidikaaDoor
open Go.Big Go.RowKit

/-- the relation of Add's loop -/
def AddRel (da db : List Int) (w0 : World) (g : Nat) (out cv iv : Value) (wr : World) : Prop :=
  ∃ (i : Nat) (c : Int) (rs : List Int), i ≤ max da.length db.length ∧ g = max da.length db.length - i ∧ iv = .int .i64 i ∧ cv = .int .i64 c ∧ 0 ≤ c ∧ c ≤ 1 ∧
    Own .i64 3 w0 wr out rs ∧ Fr [] w0 wr ∧ rs.length = i ∧ DG 65536 rs ∧ val 65536 rs + 65536 ^ i * c = val 65536 (da.take i) + val 65536 (db.take i)
theorem addRel_next {da db : List Int} {w0 wr : World} {out : Value} {i : Nat} {c x y : Int} {rs : List Int} (hi : i < max da.length db.length) (hc0 : 0 ≤ c) (hc1 : c ≤ 1)
    (hx : x = da.getD i 0) (hy : y = db.getD i 0) (hx0 : 0 ≤ x) (hx1 : x < 65536) (hy0 : 0 ≤ y) (hy1 : y < 65536) (hl : rs.length = i) (hd : DG 65536 rs)
    (hv : val 65536 rs + 65536 ^ i * c = val 65536 (da.take i) + val 65536 (db.take i)) {s s1 s2 : Int} (hs : s = c + x + y) (hs1 : s1 = s % 65536) (hs2 : s2 = s / 65536)
    (hown : Own .i64 3 w0 wr out (rs ++ [s1])) (hf : Fr [] w0 wr) : AddRel da db w0 (max da.length db.length - (i + 1)) out (.int .i64 s2) (.int .i64 (i + 1 : Nat)) wr := by
  refine ⟨i + 1, s2, rs ++ [s1], by omega, rfl, rfl, rfl, by omega, by omega, hown, hf, by simp [hl], hd.append (DG.cons (by omega) (by omega) (DG.nil _)), ?_⟩
  rw [val_snoc, val_take_succ', val_take_succ', ← hx, ← hy, hl, hs1, hs2, hs]
  exact add_step hv

set_option maxRecDepth 100000 in
set_option maxHeartbeats 1000000 in
theorem add_any (va vb : Value) (n m : Int) (w : World) (ha : SN w va n) (hb : SN w vb m) (hn : n < BIG) (hm : m < BIG) :
    Calls Tryd.prog 8 #[va, vb] w (RetSN (n + m) w) := by
  obtain ⟨da, ⟨A, ca, rfl, hla, hma, hsa⟩, dga, nza, rfl⟩ := ha
  obtain ⟨db, ⟨B, cb, rfl, hlb, hmb, hsb⟩, dgb, nzb, rfl⟩ := hb
  have la := len_BIG dga nza hn
  have lb := len_BIG dgb nzb hm
  unfold maxLen at hma hmb
  have DA := Lib.hid dga
  have DB := Lib.hid dgb
  clear dga dgb nza nzb hn hm
  go_enter Tryd.func8, Tryd.ntmps8
  go_wp2_with fail
  go_loopg [5, 6, 7] (max da.length db.length) (AddRel da db w)
  case atStart => exact ⟨0, 0, [], by omega, rfl, rfl, rfl, by omega, by omega, Own.lit0 _ _ _ _ (Nat.le_refl _), (Fr.refl _ _).alloc _, rfl, DG.nil _, by simp [val_nil]⟩
  case round =>
    obtain ⟨i, c, rs, hi, rfl, rfl, rfl, hc0, hc1, hown, hf, hl, hd, hv⟩ := hrel
    have HL := Lib.hid hl
    have HV := Lib.hid hv
    have HD := Lib.hid hd
    have hrl : rs.length < 1099511627776 := by omega
    have HRL := Lib.hid hrl
    obtain ⟨x, hx⟩ : ∃ x, x = da.getD i 0 := ⟨_, rfl⟩
    obtain ⟨y, hy⟩ : ∃ y, y = db.getD i 0 := ⟨_, rfl⟩
    obtain ⟨hx0, hx1⟩ := DA.out.getD (by omega) i
    obtain ⟨hy0, hy1⟩ := DB.out.getD (by omega) i
    rw [← hx] at hx0 hx1
    rw [← hy] at hy0 hy1
    have HX := Lib.hid hx
    have HY := Lib.hid hy
    by_cases h1 : i < da.length
    · obtain ⟨ba, oa, rfl, _, sa⟩ := hsa (by omega)
      have cA := (sa.fr hf (by simp)) i h1
      rw [← hx] at cA
      by_cases h2 : i < db.length
      · obtain ⟨bb, ob, rfl, _, sb⟩ := hsb (by omega)
        have cB := (sb.fr hf (by simp)) i h2
        rw [← hy] at cB
        clear hx hy sa sb hsa hsb hl hv hd hrl
        go_wp2_with (at_builtin; refine wp_app1 rfl (.tmp 41) (.tmp 44) _ rfl .i64 _ 8 ty_nat (by omega) w [] _ _ _ rfl hown hf rfl HRL.out ?_; intro v' w' hown' hf')
        go_roundg (max da.length db.length - (i + 1))
        case measure => omega
        case rel => exact addRel_next (by omega) hc0 hc1 HX.out HY.out hx0 hx1 hy0 hy1 HL.out HD.out HV.out rfl rfl rfl hown' hf'
      · have hy00 : y = 0 := by rw [hy]; exact getD_out (by omega)
        have HY0 := Lib.hid hy00
        clear hx hy sa hsa hsb hl hv hd hrl hy00
        go_wp2_with (at_builtin; refine wp_app1 rfl (.tmp 41) (.tmp 44) _ rfl .i64 _ 8 ty_nat (by omega) w [] _ _ _ rfl hown hf rfl HRL.out ?_; intro v' w' hown' hf')
        go_roundg (max da.length db.length - (i + 1))
        case measure => omega
        case rel => exact addRel_next (by omega) hc0 hc1 HX.out HY.out hx0 hx1 hy0 hy1 HL.out HD.out HV.out (by rw [HY0.out]; omega) rfl rfl hown' hf'
    · by_cases h2 : i < db.length
      · obtain ⟨bb, ob, rfl, _, sb⟩ := hsb (by omega)
        have cB := (sb.fr hf (by simp)) i h2
        rw [← hy] at cB
        have hx00 : x = 0 := by rw [hx]; exact getD_out (by omega)
        have HX0 := Lib.hid hx00
        clear hx hy sb hsa hsb hl hv hd hrl hx00
        go_wp2_with (at_builtin; refine wp_app1 rfl (.tmp 41) (.tmp 44) _ rfl .i64 _ 8 ty_nat (by omega) w [] _ _ _ rfl hown hf rfl HRL.out ?_; intro v' w' hown' hf')
        go_roundg (max da.length db.length - (i + 1))
        case measure => omega
        case rel => exact addRel_next (by omega) hc0 hc1 HX.out HY.out hx0 hx1 hy0 hy1 HL.out HD.out HV.out (by rw [HX0.out]; omega) rfl rfl hown' hf'
      · have hfin : val 65536 (rs ++ [c]) = val 65536 da + val 65536 db := by
          rw [val_snoc, hl, hv, List.take_of_length_le (by omega), List.take_of_length_le (by omega)]
        have HFIN := Lib.hid hfin
        have HDC := Lib.hid (hd.append (DG.cons hc0 (by omega) (DG.nil _)))
        clear hx hy hsa hsb hl hv hd hrl hfin
        go_wp2_with (first
          | (at_builtin; refine wp_app1 rfl (.tmp 48) (.tmp 50) _ rfl .i64 _ 8 ty_nat (by omega) w [] _ _ _ rfl hown hf rfl HRL.out ?_; intro v' w' hown' hf')
          | (go_at_call 14; refine (trim_own hown' HDC.out hf').mono ?_; rintro e w2 ⟨v2, rfl, hsn, hf2⟩))
        go_ret
        rw [HFIN.out] at hsn
        exact ⟨v2, rfl, hsn, hf2⟩
end Go.Proofs.YtbepihdlaidikaaDoor
end
section
namespace Go.Proofs.YtbepihdlaidikaaDoor
open Go.Big Go.RowKit

theorem mk_nat (n : Nat) (hn : n ≤ 1099511627776) (w : World) : (Instr.makeSlice 23 (.int .i64 (n : Int)) (.int .i64 (n : Int))).run Tryd.prog w =
    .ok (.slice (some ⟨w.heap.size, 0, none⟩) n n) (w.alloc (.cells (Array.replicate n (Value.int .i64 0)) 3)) :=
  run_mk (P := Tryd.prog) .i64 23 3 8 ty_nat (by omega) n hn w

/-- the relation of Mul's inner loop: B is the base's power at i -/
def MulIn (db : List Int) (L0 : List Int) (x : Int) (i : Nat) (b : Nat) (w0 : World) (g : Nat) (cv kv : Value) (wr : World) : Prop :=
  ∃ (k : Nat) (c : Int) (L : List Int), k ≤ db.length ∧ g = db.length - k ∧ kv = .int .i64 k ∧ cv = .int .i64 c ∧ 0 ≤ c ∧ c < 65536 ∧ Row .i64 3 wr b L ∧ Fr [] w0 wr ∧ L.length = L0.length ∧ DG 65536 L ∧
    (∀ j, i + k ≤ j → L.getD j 0 = L0.getD j 0) ∧ val 65536 L + 65536 ^ (i + k) * c = val 65536 L0 + 65536 ^ i * (x * val 65536 (db.take k))
def MulOut (da db : List Int) (b : Nat) (w0 : World) (g : Nat) (iv : Value) (wr : World) : Prop :=
  ∃ (i : Nat) (L : List Int), i ≤ da.length ∧ g = da.length - i ∧ iv = .int .i64 i ∧ Row .i64 3 wr b L ∧ Fr [] w0 wr ∧ L.length = da.length + db.length ∧ DG 65536 L ∧
    (∀ j, i + db.length ≤ j → L.getD j 0 = 0) ∧ val 65536 L = val 65536 (da.take i) * val 65536 db

theorem mulIn_next {db L0 L : List Int} {x y z c : Int} {i k b : Nat} {w0 : World} (hk : k < db.length) (hik : i + k < L.length) (hL : L.length = L0.length) (hd : DG 65536 L)
    (hx0 : 0 ≤ x) (hx1 : x < 65536) (hy : y = db.getD k 0) (hy0 : 0 ≤ y) (hy1 : y < 65536) (hz : z = L.getD (i + k) 0) (hz0 : 0 ≤ z) (hz1 : z < 65536) (hc0 : 0 ≤ c) (hc1 : c < 65536)
    (hs : ∀ j, i + k ≤ j → L.getD j 0 = L0.getD j 0) (hv : val 65536 L + 65536 ^ (i + k) * c = val 65536 L0 + 65536 ^ i * (x * val 65536 (db.take k)))
    {s1 s2 : Int} (h1 : s1 = (c + (z + x * y)) % 65536) (h2 : s2 = (c + (z + x * y)) / 65536) {wr' : World} (hw : Row .i64 3 wr' b (L.set (i + k) s1)) (hf : Fr [] w0 wr') :
    MulIn db L0 x i b w0 (db.length - (k + 1)) (.int .i64 s2) (.int .i64 (k + 1 : Nat)) wr' := by
  have hxy := mul_le_of hx0 (show x ≤ 65535 by omega) hy0 (show y ≤ 65535 by omega)
  refine ⟨k + 1, s2, _, by omega, rfl, rfl, rfl, by omega, by omega, hw, hf, by rw [List.length_set, hL], hd.set _ (by omega) (by omega), fun j hj => ?_, ?_⟩
  · rw [getD_set _ (by omega)]; exact hs j (by omega)
  · rw [val_set' _ _ _ hik, ← hz, h1, h2, val_take_succ', ← hy, Int.mul_add x, Int.mul_add (65536 ^ i), mul_step (B := 65536) (i := i) (k := k) (x := x) (y := y) (z := z) (c := c) hv, Int.add_assoc]

set_option maxRecDepth 100000 in
set_option maxHeartbeats 1000000 in
theorem mul_any (va vb : Value) (n m : Int) (w : World) (ha : SN w va n) (hb : SN w vb m) (hn : n < BIG) (hm : m < BIG) :
    Calls Tryd.prog 9 #[va, vb] w (RetSN (n * m) w) := by
  obtain ⟨da, ⟨A, ca, rfl, hla, hma, hsa⟩, dga, nza, rfl⟩ := ha
  obtain ⟨db, ⟨B, cb, rfl, hlb, hmb, hsb⟩, dgb, nzb, rfl⟩ := hb
  have la := len_BIG dga nza hn
  have lb := len_BIG dgb nzb hm
  unfold maxLen at hma hmb
  have DA := Lib.hid dga
  have DB := Lib.hid dgb
  clear dga dgb nza nzb hn hm
  have hmk := mk_nat (da.length + db.length) (by omega)
  rw [Int.natCast_add] at hmk
  go_enter Tryd.func9, Tryd.ntmps9
  go_wp2_with fail
  clear hmk
  go_loopg [19] da.length (MulOut da db w.heap.size w)
  case atStart => exact ⟨0, List.replicate (da.length + db.length) 0, by omega, rfl, rfl, Row.zeros _ _ _ _, (Fr.refl _ _).alloc _, by simp, DG.rep (by omega) _, fun j _ => by simp [List.getD_eq_getElem?_getD, List.getElem?_replicate]; split <;> rfl, by rw [val_rep]; simp [val_nil]⟩
  case round =>
    obtain ⟨i, L0, hi, rfl, rfl, hrow0, hf0, hL0, hd0, hz0, hv0⟩ := hrel
    by_cases h1 : i < da.length
    · obtain ⟨ba, oa, rfl, hba, sa⟩ := hsa (by omega)
      have cA := (sa.fr hf0 (by simp)) i h1
      obtain ⟨x, hx⟩ : ∃ x, x = da.getD i 0 := ⟨_, rfl⟩
      obtain ⟨hx0, hx1⟩ := DA.out.getD (by omega) i
      rw [← hx] at hx0 hx1 cA
      have HX := Lib.hid hx
      have HL0 := Lib.hid hL0
      have HZ0 := Lib.hid hz0
      have HV0 := Lib.hid hv0
      clear hx sa hsa hz0 hv0 hL0
      go_wp2_with fail
      clear cA
      obtain ⟨wo, rfl⟩ : ∃ wo : World, wo = wr := ⟨_, rfl⟩
      go_loopg [8, 26] db.length (MulIn db L0 x i w.heap.size w)
      case atStart => exact ⟨0, 0, L0, by omega, rfl, rfl, rfl, by omega, by omega, hrow0, hf0, rfl, hd0, fun j _ => rfl, by simp [val_nil]⟩
      case round =>
        clear hrow0 hf0
        obtain ⟨k, c, L, hk, rfl, rfl, rfl, hc0, hc1, hrow, hf, hL, hd, hs, hv⟩ := hrel
        have hLl : L.length = da.length + db.length := by rw [hL, HL0.out]
        have hfz := hrow.frozen
        by_cases h2 : k < db.length
        · obtain ⟨bb, ob, rfl, hbb, sb⟩ := hsb (by omega)
          have cB := (sb.fr hf (by simp)) k h2
          have cL := hrow.cell (i := i + k) (by omega)
          obtain ⟨y, hy⟩ : ∃ y, y = db.getD k 0 := ⟨_, rfl⟩
          obtain ⟨z, hz⟩ : ∃ z, z = L.getD (i + k) 0 := ⟨_, rfl⟩
          obtain ⟨hy0, hy1⟩ := DB.out.getD (by omega) k
          obtain ⟨hz0, hz1⟩ := hd.getD (by omega) (i + k)
          rw [← hy] at hy0 hy1 cB
          rw [← hz] at hz0 hz1 cL
          have hxy := mul_le_of hx0 (show x ≤ 65535 by omega) hy0 (show y ≤ 65535 by omega)
          obtain ⟨hxy0, hxy1⟩ := hxy
          have HY := Lib.hid hy
          have HZ := Lib.hid hz
          have HS := Lib.hid hs
          have HV := Lib.hid hv
          have HLl := Lib.hid hLl
          have HL := Lib.hid hL
          clear hy hz hs hv hLl hL sb hsb
          go_wp2_with fail
          go_roundg (db.length - (k + 1))
          case measure => omega
          case rel => exact mulIn_next h2 (by rw [HLl.out]; omega) HL.out hd hx0 hx1 HY.out hy0 hy1 HZ.out hz0 hz1 hc0 hc1 HS.out HV.out rfl rfl (hrow.set _ _) (hf.set (.inr (Nat.le_refl _)) _)
        · obtain rfl : k = db.length := by omega
          have cL := hrow.cell (i := i + db.length) (by omega)
          have HS := Lib.hid hs
          have HV := Lib.hid hv
          have HLl := Lib.hid hLl
          have HL := Lib.hid hL
          clear hs hv hLl hL hsb
          go_wp2_with fail
          go_roundg (da.length - (i + 1))
          case measure => omega
          case rel =>
            refine ⟨i + 1, _, by omega, rfl, rfl, hrow.set _ _, hf.set (.inr (Nat.le_refl _)) _, by rw [List.length_set, HLl.out], hd.set _ (by omega) (by omega), fun j hj => ?_, ?_⟩
            · rw [getD_set _ (by omega), HS.out j (by omega)]; exact HZ0.out j (by omega)
            · have hz : L.getD (i + db.length) 0 = 0 := by rw [HS.out _ (Nat.le_refl _)]; exact HZ0.out _ (Nat.le_refl _)
              have hv := HV.out
              rw [List.take_length] at hv
              rw [val_set' _ _ _ (by rw [HLl.out]; omega), hz, Int.sub_zero, hv, HV0.out, val_take_succ', ← HX.out, Int.add_mul, Int.mul_assoc]
    · obtain rfl : i = da.length := by omega
      rw [List.take_length] at hv0
      have HV0 := Lib.hid hv0
      clear hv0 hsa hsb
      go_wp2_with (go_at_call 14; refine (trim_row hrow0 hd0 hL0 (by unfold maxLen; omega) hf0 (Nat.le_refl _)).mono ?_; rintro e w2 ⟨v2, rfl, hsn, hf2⟩)
      go_ret
      rw [HV0.out] at hsn
      exact ⟨v2, rfl, hsn, hf2⟩
end Go.Proofs.YtbepihdlaidikaaDoor
end
section
namespace Go.Proofs.YtbepihdlaidikaaDoor
open Go.Big Go.RowKit
end Go.Proofs.YtbepihdlaidikaaDoor
end
section
namespace Go.Proofs.YtbepihdlaidikaaDoor
open Go.Big Go.RowKit

def ShlRel (da : List Int) (q r : Nat) (b : Nat) (w0 : World) (g : Nat) (iv : Value) (wr : World) : Prop :=
  ∃ (i : Nat) (L : List Int), i ≤ da.length ∧ g = da.length - i ∧ iv = .int .i64 i ∧ Row .i64 3 wr b L ∧ Fr [] w0 wr ∧ L.length = q + da.length + 1 ∧ DG 65536 L ∧
    (∀ j, q + i < j → L.getD j 0 = 0) ∧ L.getD (q + i) 0 < 2 ^ r ∧ val 65536 L = 65536 ^ q * (2 ^ r * val 65536 (da.take i))

theorem shl_digit {x y P : Int} {r : Nat} (hr : r < 16) (hP : P = 2 ^ r) (hx0 : 0 ≤ x) (hx1 : x < 65536) (hy0 : 0 ≤ y) (hy1 : y < P) : y + (x * P) % 65536 < 65536 ∧ x * P / 65536 < P ∧ 0 ≤ x * P / 65536 := by
  have hp : 0 < P := by rw [hP]; exact pow_pos_ (by omega) r
  have e : (65536 : Int) = 2 ^ (16 - r) * P := by rw [hP, ← Int.pow_add, show 16 - r + r = 16 by omega]; rfl
  have hq : 0 < (2 : Int) ^ (16 - r) := pow_pos_ (by omega) _
  generalize (2 : Int) ^ (16 - r) = Q at *
  refine ⟨?_, ?_, Int.ediv_nonneg (Int.mul_nonneg hx0 (by omega)) (by omega)⟩
  · rw [e, Int.mul_comm x P, Int.mul_comm Q P, Int.mul_emod_mul_of_pos _ _ hp]
    have h1 := Int.emod_lt_of_pos x hq
    have h2 := Int.mul_le_mul_of_nonneg_left (show x % Q ≤ Q - 1 by omega) (Int.le_of_lt hp)
    rw [Int.mul_sub] at h2
    omega
  · exact Int.ediv_lt_of_lt_mul (by omega) (by rw [Int.mul_comm P]; exact Int.mul_lt_mul_of_pos_right hx1 hp)

end Go.Proofs.YtbepihdlaidikaaDoor
end
