/-
  The reference's Words and HasWords, the laws' exact and few. Conditions: what is read can be read.
  The reference's HasWords, the laws' exact, the thin package's norm and Norm. Conditions: what is read can be read.
  math/bits: Mul64, Mul, Add, and the words' products. Conditions: the arguments are words.
-/
import Derived.Test.YtbepihdlaidikaaDoorgBase
import Derived.Test.YtbepihdlaidikaaDoorNorm
import Derived.RegionTactic
import Derived.ChangeAlike
import Derived.Test.YtbepihdlaidikaaDoorgShift
import Derived.Laws.MathBits
import Derived.Laws.Bits64
import Derived.Laws.Externs
import Derived.KernelRfl
set_option linter.unusedSimpArgs false
set_option linter.unusedVariables false
section
namespace Go.Proofs.YtbepihdlaidikaaDoor
open Go.Big Go.RowKit


theorem or_low {y d : Int} (r : Nat) (hr : r < 4) (hy0 : 0 ≤ y) (hy1 : y < 65536 ^ r) (hd0 : 0 ≤ d) (hd1 : d < 65536) : bits .or .u64 y (d * 65536 ^ r) = y + d * 65536 ^ r := by
  obtain ⟨a, rfl⟩ := Int.eq_ofNat_of_zero_le hy0
  obtain ⟨b, rfl⟩ := Int.eq_ofNat_of_zero_le hd0
  have ha : a < 2 ^ (16 * r) := by
    have : (a : Int) < ((2 ^ (16 * r) : Nat) : Int) := by rw [Nat.pow_mul]; simpa using hy1
    omega
  have hb : b < 65536 := by omega
  have e : ((b : Int) * 65536 ^ r) = ((b * 2 ^ (16 * r) : Nat) : Int) := by rw [Nat.pow_mul]; simp
  have hlt : b * 2 ^ (16 * r) < 18446744073709551616 := by
    rcases (by omega : r = 0 ∨ r = 1 ∨ r = 2 ∨ r = 3) with rfl | rfl | rfl | rfl <;> simp <;> omega
  have halt : a < 18446744073709551616 := by
    rcases (by omega : r = 0 ∨ r = 1 ∨ r = 2 ∨ r = 3) with rfl | rfl | rfl | rfl <;> simp at ha <;> omega
  rw [e, u64_or_nat a _ halt hlt, ← Int.natCast_add]
  congr 1
  rw [Nat.mul_comm, Nat.or_comm, Nat.add_comm, Nat.two_pow_add_eq_or_of_lt ha]

def WordsRel (ds : List Int) (w0 : World) (g : Nat) (out iv : Value) (wr : World) : Prop :=
  ∃ (i : Nat) (ws : List Int), i ≤ ds.length ∧ g = ds.length - i ∧ iv = .int .i64 i ∧ Own .u64 47 w0 wr out ws ∧ Fr [] w0 wr ∧ ws.length = (i + 3) / 4 ∧ DG 18446744073709551616 ws ∧
    val 18446744073709551616 ws = val 65536 (ds.take i) ∧ (i % 4 ≠ 0 → ws.getD (i / 4) 0 < 65536 ^ (i % 4))
theorem wordsRel_next {ds ws : List Int} {w0 wr : World} {out : Value} {i : Nat} (hi : i < ds.length) {y d : Int} (hd : d = ds.getD i 0) (hd0 : 0 ≤ d) (hd1 : d < 65536)
    (hl : ws.length = i / 4 + 1) (hdg : DG 18446744073709551616 ws) (hy : y = ws.getD (i / 4) 0) (hyb : y < 65536 ^ (i % 4)) (hv : val 18446744073709551616 ws = val 65536 (ds.take i))
    {z : Int} (hz : z = y + d * 65536 ^ (i % 4)) (hown : Own .u64 47 w0 wr out (ws.set (i / 4) z)) (hf : Fr [] w0 wr) : WordsRel ds w0 (ds.length - (i + 1)) out (.int .i64 (i + 1 : Nat)) wr := by
  have hy0 : 0 ≤ y := by rw [hy]; exact (hdg.getD (by omega) _).1
  have hzb : z < 65536 ^ (i % 4 + 1) := by
    rw [hz, Int.pow_succ]
    have := Int.mul_le_mul_of_nonneg_right (show d ≤ 65535 by omega) (show (0 : Int) ≤ 65536 ^ (i % 4) from Int.le_of_lt (pow_pos_ (by omega) _))
    omega
  have hz0 : 0 ≤ z := by
    rw [hz]; have := Int.mul_nonneg hd0 (show (0 : Int) ≤ 65536 ^ (i % 4) from Int.le_of_lt (pow_pos_ (by omega) _)); omega
  have hzW : z < 18446744073709551616 := by
    have := pow_le_pow_ (B := 65536) (by omega) (show i % 4 + 1 ≤ 4 by omega)
    have e : (65536 : Int) ^ 4 = 18446744073709551616 := by rfl
    omega
  refine ⟨i + 1, _, by omega, rfl, rfl, hown, hf, by rw [List.length_set]; omega, hdg.set _ hz0 hzW, ?_, fun h => ?_⟩
  · rw [val_set' _ _ _ (by omega), ← hy, hz, hv, val_take_succ', ← hd, pow64]
    have e : (65536 : Int) ^ i = 65536 ^ (4 * (i / 4)) * 65536 ^ (i % 4) := by rw [← Int.pow_add]; congr 1; omega
    rw [e, show y + d * 65536 ^ (i % 4) - y = d * 65536 ^ (i % 4) by omega]
    grind
  · have e1 : (i + 1) / 4 = i / 4 := by omega
    have e2 : (i + 1) % 4 = i % 4 + 1 := by omega
    rw [e1, e2, getD_set_self _ (by omega)]
    exact hzb

set_option maxRecDepth 100000 in
set_option maxHeartbeats 1000000 in
theorem words_any (va : Value) (n : Int) (w : World) (ha : SN w va n) (hn : n < BIG) : Calls Tryd.prog 18 #[va] w (RetW n w) := by
  obtain ⟨ds, ⟨A, ca, rfl, hla, hma, hsa⟩, dga, nza, rfl⟩ := ha
  have la := len_BIG dga nza hn
  unfold maxLen at hma
  have DA := Lib.hid dga
  have NA := Lib.hid nza
  clear dga nza hn
  go_enter Tryd.func18, Tryd.ntmps18
  go_wp2_with fail
  go_loopg [3, 9] ds.length (WordsRel ds w)
  case atStart => exact ⟨0, [], by omega, rfl, rfl, Own.lit0 _ _ _ _ (Nat.le_refl _), (Fr.refl _ _).alloc _, by simp, DG.nil _, by simp [val_nil], fun h => by simp at h⟩
  case round =>
    obtain ⟨i, ws, hi, rfl, rfl, hown, hf, hl, hdg, hv, hlast⟩ := hrel
    by_cases h1 : i < ds.length
    · obtain ⟨b, o, rfl, _, sa⟩ := hsa (by omega)
      have cA := (sa.fr hf (by simp)) i h1
      obtain ⟨d, hd⟩ : ∃ d, d = ds.getD i 0 := ⟨_, rfl⟩
      obtain ⟨hd0, hd1⟩ := DA.out.getD (by omega) i
      rw [← hd] at hd0 hd1 cA
      have HD := Lib.hid hd
      have HL := Lib.hid hl
      have HDG := Lib.hid hdg
      have HV := Lib.hid hv
      have HLA := Lib.hid hlast
      have hwl : ws.length < 1099511627776 := by omega
      have HWL := Lib.hid hwl
      clear hd sa hsa hl hdg hv hlast hwl
      obtain ⟨q, hq⟩ : ∃ q, i / 4 = q := ⟨_, rfl⟩
      have hqi : (i : Int) / 4 = (q : Int) := by omega
      rcases (by omega : i % 4 = 0 ∨ i % 4 = 1 ∨ i % 4 = 2 ∨ i % 4 = 3) with hr | hr | hr | hr
      · have hri : (i : Int) % 4 = 0 := by omega
        have HQ := Lib.hid hq
        have HR := Lib.hid hr
        clear hq hr
        go_wp2_with (at_builtin; refine wp_app1 rfl (.tmp 17) (.tmp 18) _ rfl .u64 _ 8 ty_uints (by omega) w [] _ _ _ rfl hown hf rfl HWL.out ?_; intro v' w' hown' hf')
        obtain ⟨L, hLe⟩ : ∃ L, L = ws ++ [0] := ⟨_, rfl⟩
        rw [← hLe] at hown'
        have hLl : L.length = q + 1 := by rw [hLe, List.length_append, HL.out, ← HQ.out]; have := HR.out; simp; omega
        obtain ⟨g, cap, rfl, hg, hlc, hcm, hcell, hfz⟩ := hown'.addr (by omega)
        have cL := hcell q (by omega)
        have fL := hfz q
        have hy : L.getD q 0 = 0 := by
          have e : ws.length = q := by rw [HL.out, ← HQ.out]; have := HR.out; omega
          subst e; rw [hLe]; simp [List.getD_eq_getElem?_getD]
        rw [hy] at cL
        have HY := Lib.hid hy
        have HLE := Lib.hid hLe
        have hql : (q : Int) < (L.length : Int) := by omega
        have hq0 : 0 ≤ (q : Int) := by omega
        have hwq : IntKind.i64.wrap (q : Int) = q := IntWalk.i64_in _ (by omega)
        have hwd : IntKind.u64.wrap d = d := IntWalk.u64_in _ (by omega)
        have HLl := Lib.hid hLl
        unfold maxLen at hcm
        clear hy hLl hLe hcell hfz cA
        go_region
        go_wp2_with fail
        go_roundg (ds.length - (i + 1))
        case measure => omega
        case rel =>
          have e := or_low (y := 0) (d := d) 0 (by omega) (by omega) (by omega) hd0 hd1
          rw [Int.pow_zero, Int.mul_one] at e
          refine wordsRel_next (y := 0) h1 HD.out hd0 hd1 (by rw [HLl.out, HQ.out]) ?_ (by rw [HQ.out, HY.out]) ?_ ?_ (z := bits BinOp.or IntKind.u64 0 d) ?_ ?_ ?_
          · rw [HLE.out]; exact HDG.out.append (DG.cons (by omega) (by omega) (DG.nil _))
          · rw [HR.out]; omega
          · rw [HLE.out, val_snoc, HV.out]; simp
          · rw [e, HR.out]; simp
          · rw [HQ.out]; exact (hown'.set q _).drewN 1
          · exact (hf'.set (.inr hg) _).drewN 1
      · have hri : (i : Int) % 4 = 1 := by omega
        have HQ := Lib.hid hq
        have HR := Lib.hid hr
        clear hq hr
        obtain ⟨g, cap, rfl, hg, hlc, hcm, hcell, hfz⟩ := hown.addr (by rw [HL.out]; have := HR.out; omega)
        have hLl : ws.length = q + 1 := by rw [HL.out, ← HQ.out]; have := HR.out; omega
        have cL := hcell q (by omega)
        have fL := hfz q
        obtain ⟨y, hy⟩ : ∃ y, y = ws.getD q 0 := ⟨_, rfl⟩
        rw [← hy] at cL
        have hyb := HLA.out (by rw [HR.out]; omega)
        rw [HQ.out, HR.out, ← hy] at hyb
        have hy0 : 0 ≤ y := by rw [hy]; exact (HDG.out.getD (by omega) _).1
        have e := or_low (y := y) (d := d) 1 (by omega) hy0 hyb hd0 hd1
        have E := Lib.hid e
        have HYB := Lib.hid hyb
        have HY := Lib.hid hy
        have hql : (q : Int) < (ws.length : Int) := by omega
        have hq0 : 0 ≤ (q : Int) := by omega
        have hwq : IntKind.i64.wrap (q : Int) = q := IntWalk.i64_in _ (by omega)
        have hwd : IntKind.u64.wrap d = d := IntWalk.u64_in _ (by omega)
        have hws : IntKind.u64.wrap (d * 65536) = d * 65536 := IntWalk.u64_in _ (by omega)
        have hw16 : IntKind.i64.wrap 16 = 16 := IntWalk.i64_in _ (by omega)
        have HLl := Lib.hid hLl
        unfold maxLen at hcm
        clear hy hLl hcell hfz hyb e hy0
        go_wp2_with fail
        go_region
        go_wp2_with fail
        go_roundg (ds.length - (i + 1))
        case measure => omega
        case rel =>
          refine wordsRel_next (y := y) h1 HD.out hd0 hd1 (by rw [HLl.out, HQ.out]) HDG.out (by rw [HQ.out]; exact HY.out) (by rw [HR.out]; exact HYB.out) HV.out (z := bits BinOp.or IntKind.u64 y (d * 65536)) ?_ ?_ ?_
          · rw [HR.out]; exact E.out
          · rw [HQ.out]; exact (hown.set q _).drewN 1
          · exact (hf.set (.inr hg) _).drewN 1
      · have hri : (i : Int) % 4 = 2 := by omega
        have HQ := Lib.hid hq
        have HR := Lib.hid hr
        clear hq hr
        obtain ⟨g, cap, rfl, hg, hlc, hcm, hcell, hfz⟩ := hown.addr (by rw [HL.out]; have := HR.out; omega)
        have hLl : ws.length = q + 1 := by rw [HL.out, ← HQ.out]; have := HR.out; omega
        have cL := hcell q (by omega)
        have fL := hfz q
        obtain ⟨y, hy⟩ : ∃ y, y = ws.getD q 0 := ⟨_, rfl⟩
        rw [← hy] at cL
        have hyb := HLA.out (by rw [HR.out]; omega)
        rw [HQ.out, HR.out, ← hy] at hyb
        have hy0 : 0 ≤ y := by rw [hy]; exact (HDG.out.getD (by omega) _).1
        have e := or_low (y := y) (d := d) 2 (by omega) hy0 hyb hd0 hd1
        have E := Lib.hid e
        have HYB := Lib.hid hyb
        have HY := Lib.hid hy
        have hql : (q : Int) < (ws.length : Int) := by omega
        have hq0 : 0 ≤ (q : Int) := by omega
        have hwq : IntKind.i64.wrap (q : Int) = q := IntWalk.i64_in _ (by omega)
        have hwd : IntKind.u64.wrap d = d := IntWalk.u64_in _ (by omega)
        have hws : IntKind.u64.wrap (d * 4294967296) = d * 4294967296 := IntWalk.u64_in _ (by omega)
        have hw16 : IntKind.i64.wrap 32 = 32 := IntWalk.i64_in _ (by omega)
        have HLl := Lib.hid hLl
        unfold maxLen at hcm
        clear hy hLl hcell hfz hyb e hy0
        go_wp2_with fail
        go_region
        go_wp2_with fail
        go_roundg (ds.length - (i + 1))
        case measure => omega
        case rel =>
          refine wordsRel_next (y := y) h1 HD.out hd0 hd1 (by rw [HLl.out, HQ.out]) HDG.out (by rw [HQ.out]; exact HY.out) (by rw [HR.out]; exact HYB.out) HV.out (z := bits BinOp.or IntKind.u64 y (d * 4294967296)) ?_ ?_ ?_
          · rw [HR.out]; exact E.out
          · rw [HQ.out]; exact (hown.set q _).drewN 1
          · exact (hf.set (.inr hg) _).drewN 1
      · have hri : (i : Int) % 4 = 3 := by omega
        have HQ := Lib.hid hq
        have HR := Lib.hid hr
        clear hq hr
        obtain ⟨g, cap, rfl, hg, hlc, hcm, hcell, hfz⟩ := hown.addr (by rw [HL.out]; have := HR.out; omega)
        have hLl : ws.length = q + 1 := by rw [HL.out, ← HQ.out]; have := HR.out; omega
        have cL := hcell q (by omega)
        have fL := hfz q
        obtain ⟨y, hy⟩ : ∃ y, y = ws.getD q 0 := ⟨_, rfl⟩
        rw [← hy] at cL
        have hyb := HLA.out (by rw [HR.out]; omega)
        rw [HQ.out, HR.out, ← hy] at hyb
        have hy0 : 0 ≤ y := by rw [hy]; exact (HDG.out.getD (by omega) _).1
        have e := or_low (y := y) (d := d) 3 (by omega) hy0 hyb hd0 hd1
        have E := Lib.hid e
        have HYB := Lib.hid hyb
        have HY := Lib.hid hy
        have hql : (q : Int) < (ws.length : Int) := by omega
        have hq0 : 0 ≤ (q : Int) := by omega
        have hwq : IntKind.i64.wrap (q : Int) = q := IntWalk.i64_in _ (by omega)
        have hwd : IntKind.u64.wrap d = d := IntWalk.u64_in _ (by omega)
        have hws : IntKind.u64.wrap (d * 281474976710656) = d * 281474976710656 := IntWalk.u64_in _ (by omega)
        have hw16 : IntKind.i64.wrap 48 = 48 := IntWalk.i64_in _ (by omega)
        have HLl := Lib.hid hLl
        unfold maxLen at hcm
        clear hy hLl hcell hfz hyb e hy0
        go_wp2_with fail
        go_region
        go_wp2_with fail
        go_roundg (ds.length - (i + 1))
        case measure => omega
        case rel =>
          refine wordsRel_next (y := y) h1 HD.out hd0 hd1 (by rw [HLl.out, HQ.out]) HDG.out (by rw [HQ.out]; exact HY.out) (by rw [HR.out]; exact HYB.out) HV.out (z := bits BinOp.or IntKind.u64 y (d * 281474976710656)) ?_ ?_ ?_
          · rw [HR.out]; exact E.out
          · rw [HQ.out]; exact (hown.set q _).drewN 1
          · exact (hf.set (.inr hg) _).drewN 1
    · obtain rfl : i = ds.length := by omega
      rw [List.take_length] at hv
      clear hsa
      go_wp2_with fail
      go_ret
      refine ⟨_, rfl, ⟨ws, hown.sl, hdg, ?_, hv⟩, hf⟩
      by_cases hne : ds = []
      · left
        subst hne
        exact List.eq_nil_of_length_eq_zero (by rw [hl]; rfl)
      · have hp := val_pos (B := 65536) (by omega) DA.out NA.out hne
        rw [← hv] at hp
        right
        intro h0
        have hlen : 0 < ds.length := List.length_pos_iff.2 hne
        obtain ⟨m, hm⟩ : ∃ m, ws.length = m + 1 := ⟨ws.length - 1, by omega⟩
        rw [hm, Nat.add_sub_cancel] at h0
        have hv2 := val_take_succ' 18446744073709551616 ws m
        rw [← hm, List.take_length, h0, Int.mul_zero, Int.add_zero] at hv2
        have hlt := val_lt (B := 18446744073709551616) (by omega) (hdg.take m)
        rw [List.length_take, Nat.min_eq_left (by omega), ← hv2, pow64] at hlt
        have := pow_le_pow_ (B := 65536) (by omega) (show 4 * m ≤ ds.length - 1 by omega)
        omega
end Go.Proofs.YtbepihdlaidikaaDoor
end
section
namespace Go.Proofs.YtbepihdlaidikaaDoor
open Go.Big Go.RowKit

set_option maxRecDepth 100000 in
set_option maxHeartbeats 1000000 in
theorem hasWords_any (vx va : Value) (n : Int) (w : World) (hx : SW w vx n) (ha : SN w va n) (hn : n < BIG) :
    Calls Tryd.prog 13 #[vx, va] w fun e w' => e = .returned (.bool true) ∧ Fr [] w w' := by
  obtain ⟨xs, sx, dx, zx, hvx⟩ := hx
  have CW := Lib.hid (words_any va n w ha hn)
  have SX := Lib.hid sx
  obtain ⟨A, ca, rfl, hla, hma, hsa⟩ := sx
  unfold maxLen at hma
  have DX := Lib.hid dx
  have ZX := Lib.hid zx
  have HV := Lib.hid hvx
  clear dx zx hvx ha hn
  go_enter Tryd.func13, Tryd.ntmps13
  go_wp2_with (go_at_call 18; refine (Hid.out CW).mono ?_; rintro e w1 ⟨v1, rfl, ⟨ys, ⟨B, cb, rfl, hlb, hmb, hsb⟩, dy, zy, hvy⟩, f1⟩; obtain rfl : ys = xs := eq_of_val dy DX.out zy ZX.out (by omega) (by rw [hvy, HV.out]); unfold maxLen at hmb; clear dy zy hvy HV CW)
  go_loopg [16] ys.length (fun g iv wr => ∃ i : Nat, i ≤ ys.length ∧ g = ys.length - i ∧ iv = .int .i64 i ∧ Fr [] w1 wr)
  case atStart => exact ⟨0, by omega, rfl, rfl, Fr.refl _ _⟩
  case round =>
    obtain ⟨i, hi, rfl, rfl, hf⟩ := hrel
    by_cases h1 : i < ys.length
    · obtain ⟨ba, oa, rfl, _, sa⟩ := hsa (by omega)
      obtain ⟨bb, ob, rfl, _, sb⟩ := hsb (by omega)
      have cA := ((sa.fr f1 (by simp)).fr hf (by simp)) i h1
      have cB := (sb.fr hf (by simp)) i h1
      obtain ⟨x, hx⟩ : ∃ x, x = ys.getD i 0 := ⟨_, rfl⟩
      rw [← hx] at cA cB
      have HX := Lib.hid hx
      clear hx sa sb hsa hsb
      go_wp2_with fail
      go_quiet (fail)
      go_wp2_with fail
      go_roundg (ys.length - (i + 1))
      case measure => omega
      case rel => exact ⟨i + 1, by omega, rfl, by go_num, hf.drewN _⟩
    · clear hsa hsb
      go_wp2_with fail
      go_ret
      exact ⟨rfl, f1.t hf⟩

theorem exact_any (vx va : Value) (n : Int) (w : World) (hx : SW w vx n) (ha : SN w va n) (hn : n < BIG) :
    Calls Tryd.prog 6 #[vx, va] w fun e w' => e = .returned (.bool true) ∧ Fr [] w w' := by
  have C := Lib.hid (hasWords_any vx va n w hx ha hn)
  clear hx ha hn
  go_enter Tryd.func6, Tryd.ntmps6
  go_wp2_with (go_at_call 13; refine (Hid.out C).mono ?_; rintro e w1 ⟨rfl, f1⟩)
  go_ret
  exact ⟨rfl, f1⟩

theorem SW.mk {T : TypeId} {w : World} {b : Nat} {xs : List Int} (h : Row .u64 T w b xs) (hd : DG 18446744073709551616 xs) (hz : NZ xs) (hl : xs.length ≤ 1000000) :
    SW w (.slice (some ⟨b, 0, none⟩) xs.length xs.length) (val 18446744073709551616 xs) := ⟨xs, h.sl (by omega), hd, hz, rfl⟩
/-- nat.norm of a slice that reads as xs -/
theorem bnorm_sl (v : Value) (xs : List Int) (w : World) (hx : Sl .u64 w v xs) (hd : DG 18446744073709551616 xs) :
    Calls Tryd.prog 26 #[v] w fun e w' => (∃ v', e = .returned v' ∧ SW w v' (val 18446744073709551616 xs)) ∧ w = w' := by
  have hx' := hx
  obtain ⟨A, cap, rfl, h1, h2, h3⟩ := hx
  refine (bnorm_any A cap xs w h1 h2 (fun hp => ?_)).mono ?_
  · obtain ⟨b, off, e, _, hs⟩ := h3 hp
    exact ⟨b, off, e, hs⟩
  · rintro e w' ⟨i, ⟨hi, hz, hzs⟩, rfl, rfl⟩
    exact ⟨⟨_, rfl, xs.take i, hx'.cut hi, hd.take i, nz_take hi hz, val_cut _ hi hzs⟩, rfl⟩

end Go.Proofs.YtbepihdlaidikaaDoor
end
section
namespace Go.Proofs.YtbepihdlaidikaaDoor
open Go.Big Go.RowKit

theorem ret_two {k l : IntKind} {a b c d : Int} (h : a = b) (h' : c = d) : Ending.returned (.tuple #[.int k a, .int l c]) = .returned (.tuple #[.int k b, .int l d]) := by rw [h, h']
theorem ret_one {k : IntKind} {a b : Int} (h : a = b) : Ending.returned (.int k a) = .returned (.int k b) := by rw [h]

set_option maxHeartbeats 1000000 in
theorem mul64_any (x y : Int) (w : World) (hx0 : 0 ≤ x) (hx1 : x < 18446744073709551616) (hy0 : 0 ≤ y) (hy1 : y < 18446744073709551616) :
    Calls Tryd.prog 41 #[.int .u64 x, .int .u64 y] w fun e w' => e = .returned (.tuple #[.int .u64 (x * y / 18446744073709551616), .int .u64 (x * y % 18446744073709551616)]) ∧ w = w' := by
  go_enter Tryd.func41, Tryd.ntmps41
  go_wp2
  go_ret2
  refine ⟨?_, rfl⟩
  have e := mul64_up x y hx0 hx1 hy0 hy1
  have e1 := and_low32 x hx0 hx1
  have e2 := and_low32 y hy0 hy1
  refine ret_two ?_ ?_
  · simp only [e1, e2, IntKind.wrap_u64]
    rw [and_low32 _ (Int.emod_nonneg _ (by omega)) (Int.emod_lt_of_pos _ (by omega))]
    exact e
  · exact IntKind.wrap_u64 _
theorem bmul_any (x y : Int) (w : World) (hx0 : 0 ≤ x) (hx1 : x < 18446744073709551616) (hy0 : 0 ≤ y) (hy1 : y < 18446744073709551616) :
    Calls Tryd.prog 38 #[.int .u64 x, .int .u64 y] w fun e w' => e = .returned (.tuple #[.int .u64 (x * y / 18446744073709551616), .int .u64 (x * y % 18446744073709551616)]) ∧ w = w' := by
  go_enter Tryd.func38, Tryd.ntmps38
  go_wp2_with (go_at_call 41; refine (mul64_any x y _ hx0 hx1 hy0 hy1).mono ?_; rintro e w' ⟨rfl, rfl⟩)
  go_ret2
  exact ⟨rfl, rfl⟩
def addEntry : Array Value → Sem Value := fun args => do
  let (x, y, c) ← Extern.MathBitsCarry.three "Add64" args
  pure (Extern.MathBitsCarry.pair ((x + y + c) % Extern.MathBitsCarry.m64) ((x + y + c) / Extern.MathBitsCarry.m64))
theorem run_addEntry (P : Program) (x y c : Nat) (hc : c ≤ 1) (w : World) : (addEntry #[.int .u64 x, .int .u64 y, .int .u64 c]).run P w =
    .ok (.tuple #[.int .u64 (((x + y + c) % 18446744073709551616 : Nat) : Int), .int .u64 (((x + y + c) / 18446744073709551616 : Nat) : Int)]) w := by
  have : c = 0 ∨ c = 1 := by omega
  rcases this with rfl | rfl <;> rfl
theorem run_badd64 (x y c : Int) (hx0 : 0 ≤ x) (hy0 : 0 ≤ y) (hc0 : 0 ≤ c) (hc1 : c ≤ 1) (w : World) :
    (callFunc 43 #[.int .u64 x, .int .u64 y, .int .u64 c]).run Tryd.prog w =
      .ok (.value (.tuple #[.int .u64 ((x + y + c) % 18446744073709551616), .int .u64 ((x + y + c) / 18446744073709551616)])) w := by
  obtain ⟨a, rfl⟩ := Int.eq_ofNat_of_zero_le hx0
  obtain ⟨b, rfl⟩ := Int.eq_ofNat_of_zero_le hy0
  obtain ⟨d, rfl⟩ := Int.eq_ofNat_of_zero_le hc0
  rw [run_callFunc_extern Tryd.func43 (by kernel_rfl) (by kernel_rfl) (by kernel_rfl) (e := addEntry) (by kernel_rfl), run_addEntry _ a b d (by omega)]
  simp only [Result.andThen]
  congr 5 <;> omega
set_option maxHeartbeats 400000 in
theorem badd_any (x y c : Int) (w : World) (hx0 : 0 ≤ x) (hx1 : x < 18446744073709551616) (hy0 : 0 ≤ y) (hy1 : y < 18446744073709551616) (hc0 : 0 ≤ c) (hc1 : c ≤ 1) :
    Calls Tryd.prog 39 #[.int .u64 x, .int .u64 y, .int .u64 c] w fun e w' => e = .returned (.tuple #[.int .u64 ((x + y + c) % 18446744073709551616), .int .u64 ((x + y + c) / 18446744073709551616)]) ∧ w = w' := by
  have hr := run_badd64 x y c hx0 hy0 hc0 hc1
  go_enter Tryd.func39, Tryd.ntmps39
  go_wp2
  go_ret2
  exact ⟨rfl, rfl⟩
set_option maxRecDepth 100000 in
theorem mulAdd_any (x y c : Int) (w : World) (hx0 : 0 ≤ x) (hx1 : x < 18446744073709551616) (hy0 : 0 ≤ y) (hy1 : y < 18446744073709551616) (hc0 : 0 ≤ c) (hc1 : c < 18446744073709551616) :
    Calls Tryd.prog 37 #[.int .u64 x, .int .u64 y, .int .u64 c] w fun e w' => e = .returned (.tuple #[.int .u64 ((x * y + c) / 18446744073709551616), .int .u64 ((x * y + c) % 18446744073709551616)]) ∧ w = w' := by
  have hb : 0 ≤ x * y ∧ x * y ≤ 340282366920938463426481119284349108225 := ⟨Int.mul_nonneg hx0 hy0, Int.mul_le_mul (c := 18446744073709551615) (d := 18446744073709551615) (by omega) (by omega) hy0 (by omega)⟩
  have C1 := Lib.hid (bmul_any x y w hx0 hx1 hy0 hy1)
  obtain ⟨p, hp⟩ : ∃ p, p = x * y := ⟨_, rfl⟩
  rw [← hp] at hb C1 ⊢
  have C2 := Lib.hid (badd_any (p % 18446744073709551616) c 0 w (by omega) (by omega) hc0 hc1 (by omega) (by omega))
  have e1 : IntKind.u64.wrap (p / 18446744073709551616 + (p % 18446744073709551616 + c + 0) / 18446744073709551616) = (p + c) / 18446744073709551616 := by
    rw [IntKind.wrap_u64]; omega
  have e2 : (p % 18446744073709551616 + c + 0) % 18446744073709551616 = (p + c) % 18446744073709551616 := by omega
  have E1 := Lib.hid e1
  have E2 := Lib.hid e2
  have HB := Lib.hid hb
  clear hp e1 e2 hb
  obtain ⟨a, ha⟩ : ∃ a, a = p / 18446744073709551616 := ⟨_, rfl⟩
  obtain ⟨b, hb⟩ : ∃ b, b = p % 18446744073709551616 := ⟨_, rfl⟩
  rw [← hb] at C2
  rw [← ha, ← hb] at C1
  obtain ⟨d, hd⟩ : ∃ d, d = (b + c + 0) / 18446744073709551616 := ⟨_, rfl⟩
  obtain ⟨q, hq⟩ : ∃ q, q = (b + c + 0) % 18446744073709551616 := ⟨_, rfl⟩
  rw [← hd, ← hq] at C2
  have HA := Lib.hid ha
  have HBB := Lib.hid hb
  have HD := Lib.hid hd
  have HQ := Lib.hid hq
  clear ha hb hd hq
  go_enter Tryd.func37, Tryd.ntmps37
  go_wp2_with (first
    | (go_at_call 38; refine (Hid.out C1).mono ?_; rintro e w1 ⟨rfl, rfl⟩)
    | (go_at_call 39; refine (Hid.out C2).mono ?_; rintro e w1 ⟨rfl, rfl⟩))
  go_ret2
  refine ⟨ret_two ?_ ?_, rfl⟩
  · rw [← E1.out, HD.out, HA.out, HBB.out]
  · rw [← E2.out, HQ.out, HBB.out]
theorem mulc_bound {x y c : Int} (hx0 : 0 ≤ x) (hx1 : x < 18446744073709551616) (hy0 : 0 ≤ y) (hy1 : y < 18446744073709551616) (hc0 : 0 ≤ c) (hc1 : c < 18446744073709551616) :
    0 ≤ x * y + c ∧ x * y + c ≤ 340282366920938463444927863358058659840 := by
  have h : 0 ≤ x * y ∧ x * y ≤ 340282366920938463426481119284349108225 := ⟨Int.mul_nonneg hx0 hy0, Int.mul_le_mul (c := 18446744073709551615) (d := 18446744073709551615) (by omega) (by omega) hy0 (by omega)⟩
  omega
def borrow (x y c : Int) : Int := if x < y + c then 1 else 0
theorem borrow_eq {x y c : Int} (hx0 : 0 ≤ x) (hx1 : x < 18446744073709551616) (hy0 : 0 ≤ y) (hy1 : y < 18446744073709551616) (hc0 : 0 ≤ c) (hc1 : c ≤ 1) :
    (x - y - c) % 18446744073709551616 + y + c = x + 18446744073709551616 * borrow x y c := by
  unfold borrow; split <;> omega
end Go.Proofs.YtbepihdlaidikaaDoor
end
