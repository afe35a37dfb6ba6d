/-
  The reference's byDigit and DivMod. Conditions: what is read can be read; the divisor is not 0.
-/
import Derived.Test.YtknokndpeneogaaDoorgBase
import Derived.Test.YtknokndpeneogaaDoorgSpec
import Derived.Test.YtknokndpeneogaaDoorSmall
import Derived.Test.YtknokndpeneogaaDoorNorm
set_option linter.unusedSimpArgs false
set_option linter.unusedVariables false
namespace Go.Proofs.YtknokndpeneogaaDoor
open Go.Big Go.RowKit
def ByRel (da : List Int) (d : Int) (b : Nat) (w0 : World) (g : Nat) (rv iv : Value) (wr : World) : Prop :=
  ∃ (k : Nat) (z rest : Int) (L : List Int), k ≤ da.length ∧ z = k - 1 ∧ g = k + 1 ∧ iv = .int .i64 z ∧ rv = .int .i64 rest ∧ 0 ≤ rest ∧ rest < d ∧ Row .i64 3 wr b L ∧ Fr [] w0 wr ∧ L.length = da.length ∧ DG 65536 L ∧
    val 65536 (da.drop k) = val 65536 (L.drop k) * d + rest
def RetQR (q r : Int) (w : World) (e : Ending) (w' : World) : Prop := ∃ v, e = .returned (.tuple #[v, .int .i64 r]) ∧ SN w' v q ∧ Fr [] w w'
theorem drop_set_val {L : List Int} {j : Nat} (h : j < L.length) (v : Int) : val 65536 ((L.set j v).drop j) = v + 65536 * val 65536 (L.drop (j + 1)) := by
  rw [List.drop_eq_getElem_cons (by rw [List.length_set]; exact h), val_cons, List.drop_set_of_lt (by omega)]
  simp [List.getElem_set]
theorem drop_val {L : List Int} {j : Nat} (h : j < L.length) : val 65536 (L.drop j) = L.getD j 0 + 65536 * val 65536 (L.drop (j + 1)) := by
  rw [List.drop_eq_getElem_cons h, val_cons, getD_in h]
theorem by_step {rest x d t : Int} (hr0 : 0 ≤ rest) (hr1 : rest < d) (hx0 : 0 ≤ x) (hx1 : x < 65536) (ht : t = rest * 65536 + x) : 0 ≤ t / d ∧ t / d < 65536 ∧ 0 ≤ t % d ∧ t % d < d := by
  refine ⟨Int.ediv_nonneg (by omega) (by omega), Int.ediv_lt_of_lt_mul (by omega) (by omega), Int.emod_nonneg _ (by omega), Int.emod_lt_of_pos _ (by omega)⟩
set_option maxRecDepth 100000 in
set_option maxHeartbeats 1000000 in
theorem byDigit_any (va : Value) (n d : Int) (w : World) (ha : SN w va n) (hn : n < BIG) (hd0 : 0 < d) (hd1 : d < 65536) :
    Calls Tryd.prog 64 #[va, .int .i64 d] w (RetQR (n / d) (n % d) w) := by
  obtain ⟨da, ⟨A, ca, rfl, hla, hma, hsa⟩, dga, nza, rfl⟩ := ha
  have la := len_BIG dga nza hn
  unfold maxLen at hma
  have DA := Lib.hid dga
  clear dga nza hn
  have hmk := mk_nat da.length (by omega)
  go_enter Tryd.func64, Tryd.ntmps64
  go_wp2_with fail
  clear hmk
  go_loopg [7, 8] (da.length + 1) (ByRel da d w.heap.size w)
  case atStart => exact ⟨da.length, _, 0, List.replicate da.length 0, Nat.le_refl _, rfl, rfl, rfl, rfl, by omega, hd0, Row.zeros _ _ _ _, (Fr.refl _ _).alloc _, by simp, DG.rep (by omega) _, by simp [val_nil]⟩
  case round =>
    obtain ⟨k, z, rest, L, hk, hz, rfl, rfl, rfl, hr0, hr1, hrow, hf, hL, hd, hv⟩ := hrel
    have HL := Lib.hid hL
    have HV := Lib.hid hv
    rcases Nat.eq_zero_or_pos k with rfl | hp
    · obtain rfl : z = -1 := by omega
      have hq : val 65536 da / d = val 65536 L ∧ val 65536 da % d = rest := by
        rw [List.drop_zero, List.drop_zero] at hv
        have e1 := Int.emod_add_mul_ediv (val 65536 da) d
        rw [hv, Int.mul_comm (val 65536 L) d, Int.add_comm, Int.add_mul_ediv_left _ _ (by omega), Int.add_mul_emod_self_left, Int.ediv_eq_zero_of_lt hr0 hr1, Int.emod_eq_of_lt hr0 hr1]
        omega
      have HQ := Lib.hid hq
      clear hq hv hz hsa
      go_wp2_with (go_at_call 46; refine (trim_row hrow hd hL (by unfold maxLen; omega) hf (Nat.le_refl _)).mono ?_; rintro e w2 ⟨v2, rfl, hsn, hf2⟩)
      go_ret2
      rw [HQ.out.1, HQ.out.2]
      exact ⟨v2, rfl, hsn, hf2⟩
    · obtain ⟨j, rfl⟩ : ∃ j, k = j + 1 := ⟨k - 1, by omega⟩
      obtain rfl : z = (j : Int) := by omega
      clear hz
      obtain ⟨ba, oa, rfl, hba, sa⟩ := hsa (by omega)
      have cA := (sa.fr hf (by simp)) j (by omega)
      obtain ⟨x, hx⟩ : ∃ x, x = da.getD j 0 := ⟨_, rfl⟩
      obtain ⟨hx0, hx1⟩ := DA.out.getD (by omega) j
      rw [← hx] at hx0 hx1 cA
      have cL := hrow.cell (i := j) (by omega)
      obtain ⟨old, hold⟩ : ∃ old, old = L.getD j 0 := ⟨_, rfl⟩
      rw [← hold] at cL
      have hfz := hrow.frozen j
      have HX := Lib.hid hx
      obtain ⟨t, ht⟩ : ∃ t, t = rest * 65536 + x := ⟨_, rfl⟩
      have ht0 : 0 ≤ t ∧ t < 4294967296 := by omega
      obtain ⟨ht0, ht1⟩ := ht0
      have hst := by_step hr0 hr1 hx0 hx1 ht
      obtain ⟨q, hq⟩ : ∃ q, q = t / d := ⟨_, rfl⟩
      obtain ⟨r, hr⟩ : ∃ r, r = t % d := ⟨_, rfl⟩
      rw [← hq, ← hr] at hst
      obtain ⟨hq0, hq1, hrr0, hrr1⟩ := hst
      have HE := Lib.hid (Int.emod_add_mul_ediv t d)
      have HQ := Lib.hid hq
      have HR := Lib.hid hr
      have HT := Lib.hid ht
      have e1 : rest * 65536 + x = t := ht.symm
      have e2 : t.tdiv d = q := by rw [Int.tdiv_eq_ediv_of_nonneg ht0, hq]
      have e3 : t.tmod d = r := by rw [Int.tmod_eq_emod_of_nonneg ht0, hr]
      have e4 : t / d = q := hq.symm
      have e5 : t % d = r := hr.symm
      clear hx hold sa hsa hv hL hq hr ht
      go_wp2_with fail
      go_roundg (j + 1)
      case measure => omega
      case rel =>
        refine ⟨j, _, r, L.set j q, by omega, rfl, rfl, rfl, rfl, hrr0, hrr1, hrow.set _ _, hf.set (.inr (Nat.le_refl _)) _, by rw [List.length_set, HL.out], hd.set _ hq0 hq1, ?_⟩
        have h := HV.out
        have h2 := HE.out
        rw [← HQ.out, ← HR.out] at h2
        rw [drop_set_val (by rw [HL.out]; omega), drop_val (by omega), ← HX.out, h]
        have h3 := HT.out
        grind
def MID : Int := sealed (65536 ^ 60000) 0
theorem MID_eq : MID = 65536 ^ 60000 := sealed_eq _
theorem MID_BIG {n : Int} (h : n < MID) : n < BIG := lt_BIG 60000 (by rwa [MID_eq] at h) (by omega)
theorem isLen_MID {n : Int} {L : Nat} (h : IsLen n L) (hn : n < MID) : L ≤ 960000 := by
  rcases h with ⟨_, rfl⟩ | ⟨h1, h2, h3⟩
  · omega
  · rcases Nat.lt_or_ge 960000 L with hl | hl
    · exfalso
      have := pow_le_pow_ (B := 2) (by omega) (show 960000 ≤ L - 1 by omega)
      have e : (2 : Int) ^ 960000 = MID := by
        rw [MID_eq]
        rw [show 960000 = 16 * 60000 from rfl, Int.pow_mul]; rfl
      omega
    · exact hl
theorem len_lt {n m : Int} {L M : Nat} (h : IsLen n L) (k : IsLen m M) (hm : 0 < m) : n < m * 2 ^ (L + 1 - M) := by
  rcases k with ⟨h1, _⟩ | ⟨k1, k2, k3⟩
  · omega
  rcases h with ⟨rfl, rfl⟩ | ⟨h1, h2, h3⟩
  · exact Int.mul_pos hm (pow_pos_ (by omega) _)
  · by_cases hc : M ≤ L + 1
    · have e : (2 : Int) ^ L = 2 ^ (M - 1) * 2 ^ (L + 1 - M) := by rw [← Int.pow_add]; congr 1; omega
      have := Int.mul_le_mul_of_nonneg_right k2 (Int.le_of_lt (pow_pos_ (B := 2) (by omega) (L + 1 - M)))
      omega
    · have e : L + 1 - M = 0 := by omega
      rw [e]
      have := pow_le_pow_ (B := 2) (by omega) (show L ≤ M - 1 by omega)
      omega
theorem cmp_at (c : Int) (va vb : Value) (n m : Int) (w : World) (ha : SN w va n) (hb : SN w vb m) (hc : cmpI n m = c) :
    Calls Tryd.prog 21 #[va, vb] w fun e w' => e = .returned (.int .i64 c) ∧ Fr [] w w' := by
  rw [← hc]; exact cmp_any va vb n m w ha hb
theorem SN.empty {w : World} {o : Obj} : Sl .i64 (w.alloc o) (.slice (some ⟨w.heap.size, 0, none⟩) 0 0) [] := ⟨_, 0, rfl, by simp, by simp, by simp⟩
def DivRel (n m : Int) (w0 : World) (g : Nat) (av qv iv : Value) (wr : World) : Prop :=
  ∃ (j : Nat) (z a q : Int), (z = j - 1 ∨ (j = 0 ∧ z < 0)) ∧ j ≤ 960002 ∧ (0 < j → 2 ^ (j - 1) ≤ n) ∧ g = j + 1 ∧ iv = .int .i64 z ∧ -1000000 ≤ z ∧ SN wr av a ∧ SN wr qv q ∧ 0 ≤ a ∧ 0 ≤ q ∧ a + q * m = n ∧ a < m * 2 ^ j ∧ Fr [] w0 wr
def RetQR2 (q r : Int) (w : World) (e : Ending) (w' : World) : Prop := ∃ v v', e = .returned (.tuple #[v, v']) ∧ SN w' v q ∧ SN w' v' r ∧ Fr [] w w'
theorem div_fin {a q m n : Int} (h : a + q * m = n) (h0 : 0 ≤ a) (h1 : a < m) : q = n / m ∧ a = n % m := by
  rw [← h, Int.mul_comm, Int.add_mul_ediv_left _ _ (by omega), Int.add_mul_emod_self_left, Int.ediv_eq_zero_of_lt h0 h1, Int.emod_eq_of_lt h0 h1]
  omega
set_option maxRecDepth 100000 in
set_option maxHeartbeats 2000000 in
theorem divmod_any (va vb : Value) (n m : Int) (w : World) (ha : SN w va n) (hb : SN w vb m) (hn : n < MID) (hm : m < MID) (hm0 : 0 < m) :
    Calls Tryd.prog 41 #[va, vb] w (RetQR2 (n / m) (n % m) w) := by
  have HA := Lib.hid ha
  have HB := Lib.hid hb
  have HNB := Lib.hid (MID_BIG hn)
  have HMB := Lib.hid (MID_BIG hm)
  have hn0 := SN.nonneg ha
  obtain ⟨db, ⟨B, cb, rfl, hlb, hmb, hsb⟩, dgb, nzb, hvb⟩ := hb
  unfold maxLen at hmb
  by_cases h1 : db.length = 1
  · obtain ⟨d, rfl⟩ : ∃ d, db = [d] := List.length_eq_one_iff.1 h1
    have hd := dgb.head
    have hdm : m = d := by rw [← hvb]; simp [val_cons, val_nil]
    subst hdm
    obtain ⟨bb, ob, rfl, _, sb⟩ := hsb (by simp)
    have cB := sb 0 (by simp)
    simp only [Nat.add_zero, List.getD_cons_zero] at cB
    have hr0 : 0 ≤ n % m := Int.emod_nonneg _ (by omega)
    have hr1 : n % m < 65536 := by have := Int.emod_lt_of_pos n hm0; omega
    clear h1 hvb dgb nzb hsb sb ha
    obtain ⟨hd0, hd1⟩ := hd
    go_enter Tryd.func41, Tryd.ntmps41
    go_wp2_with (first
      | (go_at_call 64; refine (byDigit_any _ n m _ HA.out HNB.out hm0 hd1).mono ?_; rintro e w1 ⟨v1, rfl, sn1, f1⟩)
      | (go_at_call 44; refine (small_any (n % m) _ hr0 (by omega)).mono ?_; rintro e w2 ⟨v2, rfl, sn2, f2⟩))
    go_ret2
    exact ⟨v1, v2, rfl, sn1.fr0 f2, sn2, f1.t f2⟩
  · have hne : ((db.length : Int) == 1) = false := by rw [beq_eq_false_iff_ne]; omega
    clear h1 hvb dgb nzb hsb ha
    have HN := Lib.hid hn
    clear hn
    have T1 : True := trivial
    go_enter Tryd.func41, Tryd.ntmps41
    go_wp2_with (first
      | (go_at_call 45; clear T1; refine (len_any _ n _ (HA.out.fr0 ((Fr.refl _ _).alloc _)) HNB.out).mono ?_; rintro e w1 ⟨La, rfl, hLa, hLa9, rfl⟩; have HLA := Lib.hid hLa; clear hLa)
      | (go_at_call 45; refine (len_any _ m _ (HB.out.fr0 ((Fr.refl _ _).alloc _)) HMB.out).mono ?_; rintro e w1 ⟨Lb, rfl, hLb, hLb9, rfl⟩; have HLB := Lib.hid hLb; clear hLb))
    go_loopg [0, 8, 9] (La + 1 - Lb + 1) (DivRel n m w)
    case atStart =>
      have hL9 := isLen_MID HLA.out HN.out
      have hL8 := isLen_MID HLB.out hm
      refine ⟨La + 1 - Lb, (La : Int) - Lb, n, 0, by omega, by omega, fun hp => ?_, by omega, rfl, by omega, HA.out.fr0 ((Fr.refl _ _).alloc _), ⟨[], SN.empty, DG.nil _, NZ.nil, rfl⟩, hn0, by omega, by omega, len_lt HLA.out HLB.out hm0, (Fr.refl _ _).alloc _⟩
      rcases HLA.out with ⟨_, h⟩ | ⟨h1, h2, _⟩
      · rcases HLB.out with ⟨h', _⟩ | ⟨h', _⟩
        · omega
        · omega
      · have := pow_le_pow_ (B := 2) (by omega) (show La + 1 - Lb - 1 ≤ La - 1 by rcases HLB.out with ⟨h', _⟩ | ⟨h', _⟩ <;> omega)
        omega
    case round =>
      obtain ⟨j, z, a, q, hz, hj, hjn, rfl, rfl, hz9, sna, snq, ha0, hq0, hv, hlt, hf⟩ := hrel
      have HV := Lib.hid hv
      rcases Nat.eq_zero_or_pos j with rfl | hp
      · have hz0 : z < 0 := by omega
        have hfin := div_fin hv ha0 (by simpa using hlt)
        have HFIN := Lib.hid hfin
        clear hz hjn hv hlt hfin
        go_wp2_with fail
        go_ret2
        rw [← HFIN.out.1, ← HFIN.out.2]
        exact ⟨_, _, rfl, snq, sna, hf⟩
      · obtain ⟨k, rfl⟩ : ∃ k, j = k + 1 := ⟨j - 1, by omega⟩
        obtain rfl : z = (k : Int) := by omega
        have hk2 := hjn (by omega)
        rw [Nat.add_sub_cancel] at hk2
        obtain ⟨P, hP⟩ : ∃ P : Int, P = 2 ^ k := ⟨_, rfl⟩
        have hP0 : 0 < P := by rw [hP]; exact pow_pos_ (by omega) k
        have hlt2 : a < 2 * (m * P) := by rw [Int.pow_succ, ← hP] at hlt; grind
        have hqn : q ≤ n := by
          have : q * 1 ≤ q * m := Int.mul_le_mul_of_nonneg_left (by omega) hq0
          omega
        have hPn : P ≤ n := by rw [hP]; exact hk2
        have hkz : (2 : Int) ^ k ≤ n := hk2
        have HPN := Lib.hid hPn
        have HQN := Lib.hid hqn
        have HL2 := Lib.hid hlt2
        have hk9 : k ≤ 960001 := by omega
        have CS := Lib.hid (fun W (f : Fr [] w W) => shl_any _ m k W (HB.out.fr0 f) HMB.out (by omega))
        rw [← hP] at CS
        have CB := Lib.hid (fun W => sbit_any k W (by omega))
        rw [← hP] at CB
        have HP := Lib.hid hP
        obtain ⟨d, hd⟩ : ∃ d, d = m * P := ⟨_, rfl⟩
        rw [← hd] at CS HL2
        have HD := Lib.hid hd
        clear hz hjn hk2 hlt hlt2 hqn hPn hkz hP hd hv
        have hrel2 : ∀ a' q' av' qv' wr', 0 ≤ a' → 0 ≤ q' → a' + q' * m = n → a' < d → SN wr' av' a' → SN wr' qv' q' → Fr [] w wr' → DivRel n m w (k + 1) av' qv' (.int .i64 ((k : Int) - 1)) wr' := by
          intro a' q' av' qv' wr' h1 h2 h3 h4 h5 h6 h7
          refine ⟨k, _, a', q', .inl rfl, by omega, fun hp => ?_, rfl, rfl, by omega, h5, h6, h1, h2, h3, ?_, h7⟩
          · have e := HPN.out
            rw [HP.out] at e
            have := pow_le_pow_ (B := 2) (by omega) (show k - 1 ≤ k by omega)
            omega
          · rw [HD.out, HP.out] at h4; exact h4
        have HR := Lib.hid hrel2
        clear hrel2
        by_cases hc : d ≤ a
        · have hle : cmpI d a ≤ 0 := by unfold cmpI; split <;> (try split) <;> omega
          obtain ⟨c, hcc⟩ : ∃ c, cmpI d a = c := ⟨_, rfl⟩
          rw [hcc] at hle
          have HCC := Lib.hid hcc
          clear hcc
          go_wp2_with (first
            | (go_at_call 65; refine (CS.out _ hf).mono ?_; rintro e w1 ⟨vd, rfl, snd, f1⟩)
            | (go_at_call 21; refine (cmp_at c _ _ d a _ snd (sna.fr0 f1) HCC.out).mono ?_; rintro e w2 ⟨rfl, f2⟩)
            | (go_at_call 66; refine (sub_any _ _ a d _ ((sna.fr0 f1).fr0 f2) (snd.fr0 f2) ?_ hc).mono ?_; rotate_left; rintro e w3 ⟨va3, rfl, sn3, f3⟩)
            | (go_at_call 22; refine (CB.out _).mono ?_; rintro e w4 ⟨vb4, rfl, sn4, f4⟩)
            | (go_at_call 43; refine (add_any _ _ q P _ ((((snq.fr0 f1).fr0 f2).fr0 f3).fr0 f4) sn4 ?_ ?_).mono ?_; rotate_left; rotate_left; rintro e w5 ⟨vq5, rfl, sn5, f5⟩))
          · go_roundg (k + 1)
            case measure => omega
            case rel => exact HR.out (a - d) (q + P) _ _ _ (by omega) (by omega) (by rw [Int.add_mul, HD.out, Int.mul_comm P m]; have := HV.out; have := HD.out; omega) (by have := HL2.out; omega) (((sn3.fr0 f4).fr0 f5)) sn5 (((((hf.t f1).t f2).t f3).t f4).t f5)
          · have := HQN.out; have := HNB.out; omega
          · have := HPN.out; have := HNB.out; omega
          · have := HNB.out; have := HV.out; have : 0 ≤ q * m := Int.mul_nonneg hq0 (by omega); omega
        · have hc' : a < d := by omega
          have HCC := Lib.hid (cmpI_gt hc')
          go_wp2_with (first
            | (go_at_call 65; refine (CS.out _ hf).mono ?_; rintro e w1 ⟨vd, rfl, snd, f1⟩)
            | (go_at_call 21; refine (cmp_at 1 _ _ d a _ snd (sna.fr0 f1) HCC.out).mono ?_; rintro e w2 ⟨rfl, f2⟩))
          go_roundg (k + 1)
          case measure => omega
          case rel => exact HR.out a q _ _ _ ha0 hq0 HV.out hc' ((sna.fr0 f1).fr0 f2) ((snq.fr0 f1).fr0 f2) ((hf.t f1).t f2)
end Go.Proofs.YtknokndpeneogaaDoor
