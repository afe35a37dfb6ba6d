/-
  The reference's Shl and Shifted. Conditions: what is read can be read; a shift by at most 1,000,000 bits.
-/
import Derived.Test.YtknokndpeneogaaDoorSpecC
set_option linter.unusedSimpArgs false
set_option linter.unusedVariables false
namespace Go.Proofs.YtknokndpeneogaaDoor
open Go.Big Go.RowKit

def ShlRel (da : List Int) (q r : Nat) (b : Nat) (w0 : World) (g : Nat) (iv : Value) (wr : World) : Prop :=
  ∃ (i : Nat) (L : List Int), i ≤ da.length ∧ g = da.length - i ∧ iv = .int .i64 i ∧ Row .i64 3 wr b L ∧ Fr [] w0 wr ∧ L.length = q + da.length + 1 ∧ DG 65536 L ∧
    (∀ j, q + i < j → L.getD j 0 = 0) ∧ L.getD (q + i) 0 < 2 ^ r ∧ val 65536 L = 65536 ^ q * (2 ^ r * val 65536 (da.take i))

theorem shl_digit {x y P : Int} {r : Nat} (hr : r < 16) (hP : P = 2 ^ r) (hx0 : 0 ≤ x) (hx1 : x < 65536) (hy0 : 0 ≤ y) (hy1 : y < P) : y + (x * P) % 65536 < 65536 ∧ x * P / 65536 < P ∧ 0 ≤ x * P / 65536 := by
  have hp : 0 < P := by rw [hP]; exact pow_pos_ (by omega) r
  have e : (65536 : Int) = 2 ^ (16 - r) * P := by rw [hP, ← Int.pow_add, show 16 - r + r = 16 by omega]; rfl
  have hq : 0 < (2 : Int) ^ (16 - r) := pow_pos_ (by omega) _
  generalize (2 : Int) ^ (16 - r) = Q at *
  refine ⟨?_, ?_, Int.ediv_nonneg (Int.mul_nonneg hx0 (by omega)) (by omega)⟩
  · rw [e, Int.mul_comm x P, Int.mul_comm Q P, Int.mul_emod_mul_of_pos _ _ hp]
    have h1 := Int.emod_lt_of_pos x hq
    have h2 := Int.mul_le_mul_of_nonneg_left (show x % Q ≤ Q - 1 by omega) (Int.le_of_lt hp)
    rw [Int.mul_sub] at h2
    omega
  · exact Int.ediv_lt_of_lt_mul (by omega) (by rw [Int.mul_comm P]; exact Int.mul_lt_mul_of_pos_right hx1 hp)

set_option maxRecDepth 100000 in
set_option maxHeartbeats 2000000 in
theorem shl_any (va : Value) (n : Int) (k : Nat) (w : World) (ha : SN w va n) (hn : n < BIG) (hk : k ≤ 1000000) : Calls Tryd.prog 65 #[va, .int .i64 (k : Int)] w (RetSN (n * 2 ^ k) w) := by
  have HA := Lib.hid ha
  obtain ⟨da, ⟨A, ca, rfl, hla, hma, hsa⟩, dga, nza, rfl⟩ := ha
  have la := len_BIG dga nza hn
  unfold maxLen at hma
  have DA := Lib.hid dga
  clear dga nza hn
  by_cases h0 : da.length = 0
  · have hds : da = [] := List.eq_nil_of_length_eq_zero h0
    subst hds
    simp only [List.length_nil] at *
    clear hsa h0
    go_enter Tryd.func65, Tryd.ntmps65
    go_wp2_with fail
    go_ret
    refine ⟨_, rfl, ?_, Fr.refl _ _⟩
    have := HA.out
    rw [val_nil] at this ⊢
    rwa [Int.zero_mul]
  · obtain ⟨q, hq⟩ : ∃ q, q = k / 16 := ⟨_, rfl⟩
    obtain ⟨r, hr⟩ : ∃ r, r = k % 16 := ⟨_, rfl⟩
    have hr16 : r < 16 := by omega
    have hq2 : q ≤ 62500 := by omega
    obtain ⟨P, hP⟩ : ∃ P : Int, P = 2 ^ r := ⟨_, rfl⟩
    have hP0 : 0 < P := by rw [hP]; exact pow_pos_ (by omega) r
    have hP1 : P ≤ 32768 := by
      rw [hP]; have := pow_le_pow_ (B := 2) (by omega) (show r ≤ 15 by omega); exact this
    have hkq : (k : Int) / 16 = (q : Int) := by omega
    have hkr : (k : Int) % 16 = (r : Int) := by omega
    have hmin : min r 64 = r := by omega
    have hpow : (2 : Int) ^ r = P := hP.symm
    have hne : ((da.length : Int) == 0) = false := by
      rw [beq_eq_false_iff_ne]; omega
    have hmk := mk_nat (q + da.length + 1) (by omega)
    rw [Int.natCast_add, Int.natCast_add] at hmk
    have hmk2 : ∀ w : World, (Instr.makeSlice 26 (.int .i64 ((q : Int) + (da.length : Int) + 1)) (.int .i64 ((q : Int) + (da.length : Int) + 1))).run Tryd.prog w =
      .ok (.slice (some ⟨w.heap.size, 0, none⟩) (q + da.length + 1) (q + da.length + 1)) (w.alloc (.cells (Array.replicate (q + da.length + 1) (Value.int .i64 0)) 3)) := hmk
    have HQ := Lib.hid hq
    have HR := Lib.hid hr
    have HP := Lib.hid hP
    clear hq hr hP hmk h0
    go_enter Tryd.func65, Tryd.ntmps65
    go_wp2_with fail
    clear hmk2
    go_loopg [21] da.length (ShlRel da q r w.heap.size w)
    case atStart =>
      refine ⟨0, List.replicate (q + da.length + 1) 0, by omega, rfl, rfl, Row.zeros _ _ _ _, (Fr.refl _ _).alloc _, by simp, DG.rep (by omega) _, fun j _ => ?_, ?_, by rw [val_rep]; simp [val_nil]⟩
      · simp [List.getD_eq_getElem?_getD, List.getElem?_replicate]; split <;> rfl
      · have e : (List.replicate (q + da.length + 1) (0 : Int)).getD (q + 0) 0 = 0 := by simp [List.getD_eq_getElem?_getD, List.getElem?_replicate]; split <;> rfl
        rw [e]; exact pow_pos_ (by omega) r
    case round =>
      obtain ⟨i, L, hi, rfl, rfl, hrow, hf, hL, hd, hz, hlow, hv⟩ := hrel
      have HL := Lib.hid hL
      have HZ := Lib.hid hz
      have HV := Lib.hid hv
      by_cases h1 : i < da.length
      · obtain ⟨ba, oa, rfl, hba, sa⟩ := hsa (by omega)
        have cA := (sa.fr hf (by simp)) i h1
        obtain ⟨x, hx⟩ : ∃ x, x = da.getD i 0 := ⟨_, rfl⟩
        obtain ⟨hx0, hx1⟩ := DA.out.getD (by omega) i
        rw [← hx] at hx0 hx1 cA
        have cL := hrow.cell (i := q + i) (by omega)
        have cL2 := hrow.cell (i := q + i + 1) (by omega)
        obtain ⟨y, hy⟩ : ∃ y, y = L.getD (q + i) 0 := ⟨_, rfl⟩
        obtain ⟨hy0, hy1⟩ := hd.getD (by omega) (q + i)
        rw [← hy] at hy0 hy1 cL hlow
        rw [hz (q + i + 1) (by omega)] at cL2
        rw [hpow] at hlow
        have hdig := shl_digit hr16 HP.out hx0 hx1 hy0 hlow
        obtain ⟨hd1, hd2, hd3⟩ := hdig
        have hxP := mul_le_of hx0 (show x ≤ 65535 by omega) (Int.le_of_lt hP0) hP1
        obtain ⟨hxP0, hxP1⟩ := hxP
        have hfz := hrow.frozen
        have HX := Lib.hid hx
        have HY := Lib.hid hy
        have HLO := Lib.hid hlow
        clear hx hy hz hv hL sa hsa hlow
        go_wp2_with fail
        go_roundg (da.length - (i + 1))
        case measure => omega
        case rel =>
          have hL := HL.out
          refine ⟨i + 1, _, by omega, rfl, by go_num, (hrow.set _ _).set _ _, (hf.set (.inr (Nat.le_refl _)) _).set (.inr (Nat.le_refl _)) _, by rw [List.length_set, List.length_set, hL],
            (hd.set _ (by omega) (by omega)).set _ hd3 (by omega), fun j hj => ?_, ?_, ?_⟩
          · rw [getD_set _ (by omega), getD_set _ (by omega)]; exact HZ.out j (by omega)
          · rw [← Nat.add_assoc, getD_set_self _ (by rw [List.length_set]; omega), hpow]; exact hd2
          · have hz := HZ.out (q + i + 1) (by omega)
            rw [val_set' _ _ _ (by rw [List.length_set]; omega), getD_set _ (by omega), hz, val_set' _ _ _ (by omega), ← HY.out, HV.out, val_take_succ', ← HX.out, hpow]
            have e := Int.emod_add_mul_ediv (x * P) 65536
            rw [Int.pow_succ, Int.pow_add]
            grind
      · obtain rfl : i = da.length := by omega
        rw [List.take_length] at hv
        have hfin : val 65536 L = val 65536 da * 2 ^ k := by
          have ek : (2 : Int) ^ k = 65536 ^ q * 2 ^ r := by
            rw [show k = 16 * q + r by have := HQ.out; have := HR.out; omega, Int.pow_add, Int.pow_mul]; rfl
          rw [hv, ek]; grind
        have HFIN := Lib.hid hfin
        clear hv hz hlow hfin hsa
        go_wp2_with (go_at_call 46; refine (trim_row hrow hd hL (by unfold maxLen; omega) hf (Nat.le_refl _)).mono ?_; rintro e w2 ⟨v2, rfl, hsn, hf2⟩)
        go_ret
        rw [HFIN.out] at hsn
        exact ⟨v2, rfl, hsn, hf2⟩
end Go.Proofs.YtknokndpeneogaaDoor
