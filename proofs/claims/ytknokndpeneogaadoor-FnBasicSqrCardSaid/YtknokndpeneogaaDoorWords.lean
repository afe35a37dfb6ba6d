/-
  The reference's Words and HasWords, the laws' exact and few. Conditions: what is read can be read.
-/
import Derived.Test.YtknokndpeneogaaDoorSpecA
import Derived.Test.YtknokndpeneogaaDoorNorm
import Derived.RegionTactic
import Derived.ChangeAlike
set_option linter.unusedSimpArgs false
set_option linter.unusedVariables false
namespace Go.Proofs.YtknokndpeneogaaDoor
open Go.Big Go.RowKit

/-- one slice of at most so many words -/
def fewB (most : Nat) (lens : List Nat) : Bool := lens.all fun n => decide (n ≤ most)
set_option maxRecDepth 100000 in
theorem few_any (most : Nat) (g : Nat) (lens : List Nat) (w : World) (hm : most ≤ 1000000) (hl : lens.length ≤ 1000) (hmax : ∀ i, i < lens.length → lens.getD i 0 ≤ 9223372036854775807)
    (hc : ∀ i, i < lens.length → ∃ A c, w.cell? ⟨g, i, none⟩ = some (.slice A (lens.getD i 0) c)) :
    Calls Tryd.prog 17 #[.int .i64 most, .slice (some ⟨g, 0, none⟩) lens.length lens.length] w fun e w' => e = .returned (.bool (fewB most lens)) ∧ w = w' := by
  have HC := Lib.hid hc
  have HM := Lib.hid hmax
  clear hc hmax
  go_enter Tryd.func17, Tryd.ntmps17
  go_wp2_with fail
  go_loopg [9] lens.length (fun k iv wr => ∃ i : Nat, i ≤ lens.length ∧ k = lens.length - i ∧ iv = .int .i64 i ∧ (lens.take i).all (fun n => decide (n ≤ most)) = true ∧ w = wr)
  case atStart => exact ⟨0, by omega, rfl, rfl, rfl, rfl⟩
  case round =>
    obtain ⟨i, hi, rfl, rfl, hall, rfl⟩ := hrel
    have HA := Lib.hid hall
    clear hall
    by_cases h1 : i < lens.length
    · obtain ⟨A, c, hcell⟩ := HC.out i h1
      have hb := HM.out i h1
      obtain ⟨n, hn⟩ : ∃ n, n = lens.getD i 0 := ⟨_, rfl⟩
      rw [← hn] at hcell hb
      have HN := Lib.hid hn
      clear hn
      by_cases h2 : most < n
      · go_wp2_with fail
        go_ret
        refine ⟨?_, rfl⟩
        have : fewB most lens = false := by
          unfold fewB
          rw [List.all_eq_false]
          refine ⟨lens[i], List.getElem_mem h1, ?_⟩
          have : n = lens[i] := by rw [HN.out]; simp [List.getD_eq_getElem?_getD, h1]
          simp; omega
        rw [this]; rfl
      · go_wp2_with fail
        go_roundg (lens.length - (i + 1))
        case measure => omega
        case rel =>
          refine ⟨i + 1, by omega, rfl, by go_num, ?_, rfl⟩
          have : n = lens[i] := by rw [HN.out]; simp [List.getD_eq_getElem?_getD, h1]
          rw [List.take_succ_eq_append_getElem h1, List.all_append, HA.out]
          simp; omega
    · go_wp2_with fail
      go_ret
      refine ⟨?_, rfl⟩
      have h := HA.out
      rw [List.take_of_length_le (by omega)] at h
      rw [show fewB most lens = true from h]; rfl

theorem or_low {y d : Int} (r : Nat) (hr : r < 4) (hy0 : 0 ≤ y) (hy1 : y < 65536 ^ r) (hd0 : 0 ≤ d) (hd1 : d < 65536) : bits .or .u64 y (d * 65536 ^ r) = y + d * 65536 ^ r := by
  obtain ⟨a, rfl⟩ := Int.eq_ofNat_of_zero_le hy0
  obtain ⟨b, rfl⟩ := Int.eq_ofNat_of_zero_le hd0
  have ha : a < 2 ^ (16 * r) := by
    have : (a : Int) < ((2 ^ (16 * r) : Nat) : Int) := by rw [Nat.pow_mul]; simpa using hy1
    omega
  have hb : b < 65536 := by omega
  have e : ((b : Int) * 65536 ^ r) = ((b * 2 ^ (16 * r) : Nat) : Int) := by rw [Nat.pow_mul]; simp
  have hlt : b * 2 ^ (16 * r) < 18446744073709551616 := by
    rcases (by omega : r = 0 ∨ r = 1 ∨ r = 2 ∨ r = 3) with rfl | rfl | rfl | rfl <;> simp <;> omega
  have halt : a < 18446744073709551616 := by
    rcases (by omega : r = 0 ∨ r = 1 ∨ r = 2 ∨ r = 3) with rfl | rfl | rfl | rfl <;> simp at ha <;> omega
  rw [e, u64_or_nat a _ halt hlt, ← Int.natCast_add]
  congr 1
  rw [Nat.mul_comm, Nat.or_comm, Nat.add_comm, Nat.two_pow_add_eq_or_of_lt ha]

def WordsRel (ds : List Int) (w0 : World) (g : Nat) (out iv : Value) (wr : World) : Prop :=
  ∃ (i : Nat) (ws : List Int), i ≤ ds.length ∧ g = ds.length - i ∧ iv = .int .i64 i ∧ Own .u64 28 w0 wr out ws ∧ Fr [] w0 wr ∧ ws.length = (i + 3) / 4 ∧ DG 18446744073709551616 ws ∧
    val 18446744073709551616 ws = val 65536 (ds.take i) ∧ (i % 4 ≠ 0 → ws.getD (i / 4) 0 < 65536 ^ (i % 4))
theorem wordsRel_next {ds ws : List Int} {w0 wr : World} {out : Value} {i : Nat} (hi : i < ds.length) {y d : Int} (hd : d = ds.getD i 0) (hd0 : 0 ≤ d) (hd1 : d < 65536)
    (hl : ws.length = i / 4 + 1) (hdg : DG 18446744073709551616 ws) (hy : y = ws.getD (i / 4) 0) (hyb : y < 65536 ^ (i % 4)) (hv : val 18446744073709551616 ws = val 65536 (ds.take i))
    {z : Int} (hz : z = y + d * 65536 ^ (i % 4)) (hown : Own .u64 28 w0 wr out (ws.set (i / 4) z)) (hf : Fr [] w0 wr) : WordsRel ds w0 (ds.length - (i + 1)) out (.int .i64 (i + 1 : Nat)) wr := by
  have hy0 : 0 ≤ y := by rw [hy]; exact (hdg.getD (by omega) _).1
  have hzb : z < 65536 ^ (i % 4 + 1) := by
    rw [hz, Int.pow_succ]
    have := Int.mul_le_mul_of_nonneg_right (show d ≤ 65535 by omega) (show (0 : Int) ≤ 65536 ^ (i % 4) from Int.le_of_lt (pow_pos_ (by omega) _))
    omega
  have hz0 : 0 ≤ z := by
    rw [hz]; have := Int.mul_nonneg hd0 (show (0 : Int) ≤ 65536 ^ (i % 4) from Int.le_of_lt (pow_pos_ (by omega) _)); omega
  have hzW : z < 18446744073709551616 := by
    have := pow_le_pow_ (B := 65536) (by omega) (show i % 4 + 1 ≤ 4 by omega)
    have e : (65536 : Int) ^ 4 = 18446744073709551616 := by rfl
    omega
  refine ⟨i + 1, _, by omega, rfl, rfl, hown, hf, by rw [List.length_set]; omega, hdg.set _ hz0 hzW, ?_, fun h => ?_⟩
  · rw [val_set' _ _ _ (by omega), ← hy, hz, hv, val_take_succ', ← hd, pow64]
    have e : (65536 : Int) ^ i = 65536 ^ (4 * (i / 4)) * 65536 ^ (i % 4) := by rw [← Int.pow_add]; congr 1; omega
    rw [e, show y + d * 65536 ^ (i % 4) - y = d * 65536 ^ (i % 4) by omega]
    grind
  · have e1 : (i + 1) / 4 = i / 4 := by omega
    have e2 : (i + 1) % 4 = i % 4 + 1 := by omega
    rw [e1, e2, getD_set_self _ (by omega)]
    exact hzb

set_option maxRecDepth 100000 in
set_option maxHeartbeats 1000000 in
theorem words_any (va : Value) (n : Int) (w : World) (ha : SN w va n) (hn : n < BIG) : Calls Tryd.prog 76 #[va] w (RetW n w) := by
  obtain ⟨ds, ⟨A, ca, rfl, hla, hma, hsa⟩, dga, nza, rfl⟩ := ha
  have la := len_BIG dga nza hn
  unfold maxLen at hma
  have DA := Lib.hid dga
  have NA := Lib.hid nza
  clear dga nza hn
  go_enter Tryd.func76, Tryd.ntmps76
  go_wp2_with fail
  go_loopg [3, 9] ds.length (WordsRel ds w)
  case atStart => exact ⟨0, [], by omega, rfl, rfl, Own.lit0 _ _ _ _ (Nat.le_refl _), (Fr.refl _ _).alloc _, by simp, DG.nil _, by simp [val_nil], fun h => by simp at h⟩
  case round =>
    obtain ⟨i, ws, hi, rfl, rfl, hown, hf, hl, hdg, hv, hlast⟩ := hrel
    by_cases h1 : i < ds.length
    · obtain ⟨b, o, rfl, _, sa⟩ := hsa (by omega)
      have cA := (sa.fr hf (by simp)) i h1
      obtain ⟨d, hd⟩ : ∃ d, d = ds.getD i 0 := ⟨_, rfl⟩
      obtain ⟨hd0, hd1⟩ := DA.out.getD (by omega) i
      rw [← hd] at hd0 hd1 cA
      have HD := Lib.hid hd
      have HL := Lib.hid hl
      have HDG := Lib.hid hdg
      have HV := Lib.hid hv
      have HLA := Lib.hid hlast
      have hwl : ws.length < 1099511627776 := by omega
      have HWL := Lib.hid hwl
      clear hd sa hsa hl hdg hv hlast hwl
      obtain ⟨q, hq⟩ : ∃ q, i / 4 = q := ⟨_, rfl⟩
      have hqi : (i : Int) / 4 = (q : Int) := by omega
      rcases (by omega : i % 4 = 0 ∨ i % 4 = 1 ∨ i % 4 = 2 ∨ i % 4 = 3) with hr | hr | hr | hr
      · have hri : (i : Int) % 4 = 0 := by omega
        have HQ := Lib.hid hq
        have HR := Lib.hid hr
        clear hq hr
        go_wp2_with (at_builtin; refine wp_app1 rfl (.tmp 17) (.tmp 18) _ rfl .u64 _ 8 ty_uints (by omega) w [] _ _ _ rfl hown hf rfl HWL.out ?_; intro v' w' hown' hf')
        obtain ⟨L, hLe⟩ : ∃ L, L = ws ++ [0] := ⟨_, rfl⟩
        rw [← hLe] at hown'
        have hLl : L.length = q + 1 := by rw [hLe, List.length_append, HL.out, ← HQ.out]; have := HR.out; simp; omega
        obtain ⟨g, cap, rfl, hg, hlc, hcm, hcell, hfz⟩ := hown'.addr (by omega)
        have cL := hcell q (by omega)
        have fL := hfz q
        have hy : L.getD q 0 = 0 := by
          have e : ws.length = q := by rw [HL.out, ← HQ.out]; have := HR.out; omega
          subst e; rw [hLe]; simp [List.getD_eq_getElem?_getD]
        rw [hy] at cL
        have HY := Lib.hid hy
        have HLE := Lib.hid hLe
        have hql : (q : Int) < (L.length : Int) := by omega
        have hq0 : 0 ≤ (q : Int) := by omega
        have hwq : IntKind.i64.wrap (q : Int) = q := IntWalk.i64_in _ (by omega)
        have hwd : IntKind.u64.wrap d = d := IntWalk.u64_in _ (by omega)
        have HLl := Lib.hid hLl
        unfold maxLen at hcm
        clear hy hLl hLe hcell hfz cA
        go_region
        go_wp2_with fail
        go_roundg (ds.length - (i + 1))
        case measure => omega
        case rel =>
          have e := or_low (y := 0) (d := d) 0 (by omega) (by omega) (by omega) hd0 hd1
          rw [Int.pow_zero, Int.mul_one] at e
          refine wordsRel_next (y := 0) h1 HD.out hd0 hd1 (by rw [HLl.out, HQ.out]) ?_ (by rw [HQ.out, HY.out]) ?_ ?_ (z := bits BinOp.or IntKind.u64 0 d) ?_ ?_ ?_
          · rw [HLE.out]; exact HDG.out.append (DG.cons (by omega) (by omega) (DG.nil _))
          · rw [HR.out]; omega
          · rw [HLE.out, val_snoc, HV.out]; simp
          · rw [e, HR.out]; simp
          · rw [HQ.out]; exact (hown'.set q _).drewN 1
          · exact (hf'.set (.inr hg) _).drewN 1
      · have hri : (i : Int) % 4 = 1 := by omega
        have HQ := Lib.hid hq
        have HR := Lib.hid hr
        clear hq hr
        obtain ⟨g, cap, rfl, hg, hlc, hcm, hcell, hfz⟩ := hown.addr (by rw [HL.out]; have := HR.out; omega)
        have hLl : ws.length = q + 1 := by rw [HL.out, ← HQ.out]; have := HR.out; omega
        have cL := hcell q (by omega)
        have fL := hfz q
        obtain ⟨y, hy⟩ : ∃ y, y = ws.getD q 0 := ⟨_, rfl⟩
        rw [← hy] at cL
        have hyb := HLA.out (by rw [HR.out]; omega)
        rw [HQ.out, HR.out, ← hy] at hyb
        have hy0 : 0 ≤ y := by rw [hy]; exact (HDG.out.getD (by omega) _).1
        have e := or_low (y := y) (d := d) 1 (by omega) hy0 hyb hd0 hd1
        have E := Lib.hid e
        have HYB := Lib.hid hyb
        have HY := Lib.hid hy
        have hql : (q : Int) < (ws.length : Int) := by omega
        have hq0 : 0 ≤ (q : Int) := by omega
        have hwq : IntKind.i64.wrap (q : Int) = q := IntWalk.i64_in _ (by omega)
        have hwd : IntKind.u64.wrap d = d := IntWalk.u64_in _ (by omega)
        have hws : IntKind.u64.wrap (d * 65536) = d * 65536 := IntWalk.u64_in _ (by omega)
        have hw16 : IntKind.i64.wrap 16 = 16 := IntWalk.i64_in _ (by omega)
        have HLl := Lib.hid hLl
        unfold maxLen at hcm
        clear hy hLl hcell hfz hyb e hy0
        go_wp2_with fail
        go_region
        go_wp2_with fail
        go_roundg (ds.length - (i + 1))
        case measure => omega
        case rel =>
          refine wordsRel_next (y := y) h1 HD.out hd0 hd1 (by rw [HLl.out, HQ.out]) HDG.out (by rw [HQ.out]; exact HY.out) (by rw [HR.out]; exact HYB.out) HV.out (z := bits BinOp.or IntKind.u64 y (d * 65536)) ?_ ?_ ?_
          · rw [HR.out]; exact E.out
          · rw [HQ.out]; exact (hown.set q _).drewN 1
          · exact (hf.set (.inr hg) _).drewN 1
      · have hri : (i : Int) % 4 = 2 := by omega
        have HQ := Lib.hid hq
        have HR := Lib.hid hr
        clear hq hr
        obtain ⟨g, cap, rfl, hg, hlc, hcm, hcell, hfz⟩ := hown.addr (by rw [HL.out]; have := HR.out; omega)
        have hLl : ws.length = q + 1 := by rw [HL.out, ← HQ.out]; have := HR.out; omega
        have cL := hcell q (by omega)
        have fL := hfz q
        obtain ⟨y, hy⟩ : ∃ y, y = ws.getD q 0 := ⟨_, rfl⟩
        rw [← hy] at cL
        have hyb := HLA.out (by rw [HR.out]; omega)
        rw [HQ.out, HR.out, ← hy] at hyb
        have hy0 : 0 ≤ y := by rw [hy]; exact (HDG.out.getD (by omega) _).1
        have e := or_low (y := y) (d := d) 2 (by omega) hy0 hyb hd0 hd1
        have E := Lib.hid e
        have HYB := Lib.hid hyb
        have HY := Lib.hid hy
        have hql : (q : Int) < (ws.length : Int) := by omega
        have hq0 : 0 ≤ (q : Int) := by omega
        have hwq : IntKind.i64.wrap (q : Int) = q := IntWalk.i64_in _ (by omega)
        have hwd : IntKind.u64.wrap d = d := IntWalk.u64_in _ (by omega)
        have hws : IntKind.u64.wrap (d * 4294967296) = d * 4294967296 := IntWalk.u64_in _ (by omega)
        have hw16 : IntKind.i64.wrap 32 = 32 := IntWalk.i64_in _ (by omega)
        have HLl := Lib.hid hLl
        unfold maxLen at hcm
        clear hy hLl hcell hfz hyb e hy0
        go_wp2_with fail
        go_region
        go_wp2_with fail
        go_roundg (ds.length - (i + 1))
        case measure => omega
        case rel =>
          refine wordsRel_next (y := y) h1 HD.out hd0 hd1 (by rw [HLl.out, HQ.out]) HDG.out (by rw [HQ.out]; exact HY.out) (by rw [HR.out]; exact HYB.out) HV.out (z := bits BinOp.or IntKind.u64 y (d * 4294967296)) ?_ ?_ ?_
          · rw [HR.out]; exact E.out
          · rw [HQ.out]; exact (hown.set q _).drewN 1
          · exact (hf.set (.inr hg) _).drewN 1
      · have hri : (i : Int) % 4 = 3 := by omega
        have HQ := Lib.hid hq
        have HR := Lib.hid hr
        clear hq hr
        obtain ⟨g, cap, rfl, hg, hlc, hcm, hcell, hfz⟩ := hown.addr (by rw [HL.out]; have := HR.out; omega)
        have hLl : ws.length = q + 1 := by rw [HL.out, ← HQ.out]; have := HR.out; omega
        have cL := hcell q (by omega)
        have fL := hfz q
        obtain ⟨y, hy⟩ : ∃ y, y = ws.getD q 0 := ⟨_, rfl⟩
        rw [← hy] at cL
        have hyb := HLA.out (by rw [HR.out]; omega)
        rw [HQ.out, HR.out, ← hy] at hyb
        have hy0 : 0 ≤ y := by rw [hy]; exact (HDG.out.getD (by omega) _).1
        have e := or_low (y := y) (d := d) 3 (by omega) hy0 hyb hd0 hd1
        have E := Lib.hid e
        have HYB := Lib.hid hyb
        have HY := Lib.hid hy
        have hql : (q : Int) < (ws.length : Int) := by omega
        have hq0 : 0 ≤ (q : Int) := by omega
        have hwq : IntKind.i64.wrap (q : Int) = q := IntWalk.i64_in _ (by omega)
        have hwd : IntKind.u64.wrap d = d := IntWalk.u64_in _ (by omega)
        have hws : IntKind.u64.wrap (d * 281474976710656) = d * 281474976710656 := IntWalk.u64_in _ (by omega)
        have hw16 : IntKind.i64.wrap 48 = 48 := IntWalk.i64_in _ (by omega)
        have HLl := Lib.hid hLl
        unfold maxLen at hcm
        clear hy hLl hcell hfz hyb e hy0
        go_wp2_with fail
        go_region
        go_wp2_with fail
        go_roundg (ds.length - (i + 1))
        case measure => omega
        case rel =>
          refine wordsRel_next (y := y) h1 HD.out hd0 hd1 (by rw [HLl.out, HQ.out]) HDG.out (by rw [HQ.out]; exact HY.out) (by rw [HR.out]; exact HYB.out) HV.out (z := bits BinOp.or IntKind.u64 y (d * 281474976710656)) ?_ ?_ ?_
          · rw [HR.out]; exact E.out
          · rw [HQ.out]; exact (hown.set q _).drewN 1
          · exact (hf.set (.inr hg) _).drewN 1
    · obtain rfl : i = ds.length := by omega
      rw [List.take_length] at hv
      clear hsa
      go_wp2_with fail
      go_ret
      refine ⟨_, rfl, ⟨ws, hown.sl, hdg, ?_, hv⟩, hf⟩
      by_cases hne : ds = []
      · left
        subst hne
        exact List.eq_nil_of_length_eq_zero (by rw [hl]; rfl)
      · have hp := val_pos (B := 65536) (by omega) DA.out NA.out hne
        rw [← hv] at hp
        right
        intro h0
        have hlen : 0 < ds.length := List.length_pos_iff.2 hne
        obtain ⟨m, hm⟩ : ∃ m, ws.length = m + 1 := ⟨ws.length - 1, by omega⟩
        rw [hm, Nat.add_sub_cancel] at h0
        have hv2 := val_take_succ' 18446744073709551616 ws m
        rw [← hm, List.take_length, h0, Int.mul_zero, Int.add_zero] at hv2
        have hlt := val_lt (B := 18446744073709551616) (by omega) (hdg.take m)
        rw [List.length_take, Nat.min_eq_left (by omega), ← hv2, pow64] at hlt
        have := pow_le_pow_ (B := 65536) (by omega) (show 4 * m ≤ ds.length - 1 by omega)
        omega
end Go.Proofs.YtknokndpeneogaaDoor
