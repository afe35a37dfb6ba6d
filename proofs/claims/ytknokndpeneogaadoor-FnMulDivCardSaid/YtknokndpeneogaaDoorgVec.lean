/-
  addVV_g, subVV_g, mulAddVWW_g, addMulVVWW_g, walked. Conditions: what is read can be read, what is written is a row; where both lie in one row, what is still to be read has not been written.
  addVW, subVW: a word added to words, borrowed from words. Conditions: what is read can be read, what is written is a row of another block.
-/
import Derived.Test.YtknokndpeneogaaDoorgShift
import Derived.Test.YtknokndpeneogaaDoorgWord
import Derived.Deep.QuietTactic
import Derived.BigQuiet
import Derived.Deep.RegionLaw
import Derived.LaidEqlPtr
set_option linter.unusedSimpArgs false
set_option linter.unusedVariables false
section
namespace Go.Proofs.YtknokndpeneogaaDoor
open Go.Big Go.RowKit

theorem q_left {P : Program} {f : FuncId} {args : Array Value} {w : World} {n : Nat} {v : Value} (h : Calls P f args (w.drewN n) fun e w' => e = .returned v ∧ w.drewN n = w') :
    Calls P f args (w.drewN n) fun e w'' => e = .returned v ∧ ∃ m, w'' = w.drewN m := h.mono fun _ _ ⟨he, hm⟩ => ⟨he, n, hm.symm⟩

/-- a vector's operation: the words zs lie over L from oz on, c is carried; what they are: R -/
def VecPost (T : TypeId) (w : World) (bz oz n : Nat) (L : List Int) (R : List Int → Int → Prop) (e : Ending) (w' : World) : Prop :=
  ∃ (zs : List Int) (c : Int), e = .returned (.int .u64 c) ∧ Row .u64 T w' bz (spl L oz zs) ∧ Fr [bz] w w' ∧ zs.length = n ∧ DG 18446744073709551616 zs ∧ R zs c
def VecRel (T : TypeId) (w : World) (bz oz n : Nat) (L : List Int) (R : Nat → List Int → Int → Prop) (g : Nat) (cv iv : Value) (wr : World) : Prop :=
  ∃ (i : Nat) (pre : List Int) (c : Int), i ≤ n ∧ g = n - i ∧ iv = .int .i64 i ∧ cv = .int .u64 c ∧ Row .u64 T wr bz (spl L oz pre) ∧ Fr [bz] w wr ∧ pre.length = i ∧ DG 18446744073709551616 pre ∧ R i pre c
/-- what may lie where -/
def NoTouch (bz oz bx ox n : Nat) : Prop := bx ≠ bz ∨ oz ≤ ox ∨ ox + n ≤ oz

set_option maxRecDepth 100000 in
set_option maxHeartbeats 2000000 in
theorem addVV_any (bz oz cz bx ox cx by_ oy cy n : Nat) (L xs ys : List Int) (w : World) (hz : Row .u64 77 w bz L) (hfit : oz + n ≤ L.length) (hnx : xs.length = n) (hsx : Src .u64 w bx ox xs) (hdx : DG 18446744073709551616 xs) (halx : NoTouch bz oz bx ox n)
    (hny : ys.length = n) (hsy : Src .u64 w by_ oy ys) (hdy : DG 18446744073709551616 ys) (haly : NoTouch bz oz by_ oy n) (hn9 : n ≤ 1000000000) :
    Calls Tryd.prog 127 #[.slice (some ⟨bz, oz, none⟩) n cz, .slice (some ⟨bx, ox, none⟩) n cx, .slice (some ⟨by_, oy, none⟩) n cy] w (VecPost 77 w bz oz n L (fun zs c => 0 ≤ c ∧ c ≤ 1 ∧ val 18446744073709551616 zs + 18446744073709551616 ^ n * c = val 18446744073709551616 xs + val 18446744073709551616 ys)) := by
  have HZ := Lib.hid hz
  have HNx := Lib.hid hnx
  have HSx := Lib.hid hsx
  have HDx := Lib.hid hdx
  have HALx := Lib.hid halx
  clear hz hnx hsx hdx halx
  have HNy := Lib.hid hny
  have HSy := Lib.hid hsy
  have HDy := Lib.hid hdy
  have HALy := Lib.hid haly
  clear hny hsy hdy haly
  go_enter Tryd.func127, Tryd.ntmps127
  go_wp2_with fail
  go_loopg [6, 25] n (VecRel 77 w bz oz n L (fun i pre c => 0 ≤ c ∧ c ≤ 1 ∧ val 18446744073709551616 pre + 18446744073709551616 ^ i * c = val 18446744073709551616 (xs.take i) + val 18446744073709551616 (ys.take i)))
  case atStart => exact ⟨0, [], 0, by omega, rfl, rfl, rfl, by rw [spl_nil]; exact HZ.out, Fr.refl _ _, rfl, DG.nil _, by omega, by omega, by simp [val_nil]⟩
  case round =>
    obtain ⟨i, pre, c, hi, rfl, rfl, rfl, hrow, hf, hl, hdg, hc0, hc1, hv⟩ := hrel
    by_cases h1 : i < n
    · have hlen : (spl L oz pre).length = L.length := spl_len (by omega)
      have hfz := hrow.frozen (oz + i)
      have cz := hrow.cell (i := oz + i) (by omega)
      obtain ⟨old, hold⟩ : ∃ old, old = (spl L oz pre).getD (oz + i) 0 := ⟨_, rfl⟩
      rw [← hold] at cz
      have HV := Lib.hid hv
      have HL := Lib.hid hl
      have HLEN := Lib.hid hlen
      have key : True := trivial
      have cx := HSx.out.spl HZ.out hrow hf (by omega) (j := i) (by rw [HNx.out]; exact h1) (by rcases HALx.out with h | h | h; exact .inl h; exact .inr (.inr (by omega)); exact .inr (.inl (by omega)))
      obtain ⟨x, hx⟩ : ∃ x, x = xs.getD i 0 := ⟨_, rfl⟩
      rw [← hx] at cx
      have hxd := HDx.out.getD (by omega) i
      rw [← hx] at hxd
      obtain ⟨hx0, hx1⟩ := hxd
      have Hx := Lib.hid hx
      clear hx
      have cy := HSy.out.spl HZ.out hrow hf (by omega) (j := i) (by rw [HNy.out]; exact h1) (by rcases HALy.out with h | h | h; exact .inl h; exact .inr (.inr (by omega)); exact .inr (.inl (by omega)))
      obtain ⟨y, hy⟩ : ∃ y, y = ys.getD i 0 := ⟨_, rfl⟩
      rw [← hy] at cy
      have hyd := HDy.out.getD (by omega) i
      rw [← hy] at hyd
      obtain ⟨hy0, hy1⟩ := hyd
      have Hy := Lib.hid hy
      clear hy
      clear hold hv hlen hl
      have CA := fun W => badd_any x y c W hx0 hx1 hy0 hy1 hc0 hc1
      go_wp2_with fail
      go_quiet ((go_at_call 131; exact q_left (CA _)))
      go_wp2_with fail
      go_roundg (n - (i + 1))
      case measure => omega
      case rel =>
        have e : oz + i = oz + pre.length := by rw [HL.out]
        refine ⟨i + 1, pre ++ [(x + y + c) % 18446744073709551616], _, by omega, rfl, by go_num, rfl, ?_, by repeat (first | exact hf | apply Fr.drewN | apply Fr.set _ (.inl (by simp))), by rw [List.length_append, HL.out]; simp, hdg.append (DG.cons (Int.emod_nonneg _ (by omega)) (Int.emod_lt_of_pos _ (by omega)) (DG.nil _)), by omega, by omega, ?_⟩
        · rw [← spl_set_end (by rw [HL.out]; omega), ← e]; exact (hrow.drewN _).set _ _
        · rw [val_snoc, HL.out]
          rw [val_take_succ', val_take_succ', ← Hx.out, ← Hy.out]
          have h := HV.out
          have e := Int.emod_add_mul_ediv (x + y + c) 18446744073709551616
          rw [Int.pow_succ]
          grind
    · obtain rfl : i = n := by omega
      go_wp2_with fail
      go_ret
      have hv' := hv
      have e1 : xs.take i = xs := List.take_of_length_le (by rw [HNx.out]; omega)
      have e2 : ys.take i = ys := List.take_of_length_le (by rw [HNy.out]; omega)
      rw [e1, e2] at hv'
      exact ⟨pre, c, rfl, hrow, hf, hl, hdg, hc0, hc1, hv'⟩
set_option maxRecDepth 100000 in
set_option maxHeartbeats 2000000 in
theorem subVV_any (bz oz cz bx ox cx by_ oy cy n : Nat) (L xs ys : List Int) (w : World) (hz : Row .u64 77 w bz L) (hfit : oz + n ≤ L.length) (hnx : xs.length = n) (hsx : Src .u64 w bx ox xs) (hdx : DG 18446744073709551616 xs) (halx : NoTouch bz oz bx ox n)
    (hny : ys.length = n) (hsy : Src .u64 w by_ oy ys) (hdy : DG 18446744073709551616 ys) (haly : NoTouch bz oz by_ oy n) (hn9 : n ≤ 1000000000) :
    Calls Tryd.prog 149 #[.slice (some ⟨bz, oz, none⟩) n cz, .slice (some ⟨bx, ox, none⟩) n cx, .slice (some ⟨by_, oy, none⟩) n cy] w (VecPost 77 w bz oz n L (fun zs c => 0 ≤ c ∧ c ≤ 1 ∧ val 18446744073709551616 zs + val 18446744073709551616 ys = val 18446744073709551616 xs + 18446744073709551616 ^ n * c)) := by
  have HZ := Lib.hid hz
  have HNx := Lib.hid hnx
  have HSx := Lib.hid hsx
  have HDx := Lib.hid hdx
  have HALx := Lib.hid halx
  clear hz hnx hsx hdx halx
  have HNy := Lib.hid hny
  have HSy := Lib.hid hsy
  have HDy := Lib.hid hdy
  have HALy := Lib.hid haly
  clear hny hsy hdy haly
  go_enter Tryd.func149, Tryd.ntmps149
  go_wp2_with fail
  go_loopg [6, 25] n (VecRel 77 w bz oz n L (fun i pre c => 0 ≤ c ∧ c ≤ 1 ∧ val 18446744073709551616 pre + val 18446744073709551616 (ys.take i) = val 18446744073709551616 (xs.take i) + 18446744073709551616 ^ i * c))
  case atStart => exact ⟨0, [], 0, by omega, rfl, rfl, rfl, by rw [spl_nil]; exact HZ.out, Fr.refl _ _, rfl, DG.nil _, by omega, by omega, by simp [val_nil]⟩
  case round =>
    obtain ⟨i, pre, c, hi, rfl, rfl, rfl, hrow, hf, hl, hdg, hc0, hc1, hv⟩ := hrel
    by_cases h1 : i < n
    · have hlen : (spl L oz pre).length = L.length := spl_len (by omega)
      have hfz := hrow.frozen (oz + i)
      have cz := hrow.cell (i := oz + i) (by omega)
      obtain ⟨old, hold⟩ : ∃ old, old = (spl L oz pre).getD (oz + i) 0 := ⟨_, rfl⟩
      rw [← hold] at cz
      have HV := Lib.hid hv
      have HL := Lib.hid hl
      have HLEN := Lib.hid hlen
      have key : True := trivial
      have cx := HSx.out.spl HZ.out hrow hf (by omega) (j := i) (by rw [HNx.out]; exact h1) (by rcases HALx.out with h | h | h; exact .inl h; exact .inr (.inr (by omega)); exact .inr (.inl (by omega)))
      obtain ⟨x, hx⟩ : ∃ x, x = xs.getD i 0 := ⟨_, rfl⟩
      rw [← hx] at cx
      have hxd := HDx.out.getD (by omega) i
      rw [← hx] at hxd
      obtain ⟨hx0, hx1⟩ := hxd
      have Hx := Lib.hid hx
      clear hx
      have cy := HSy.out.spl HZ.out hrow hf (by omega) (j := i) (by rw [HNy.out]; exact h1) (by rcases HALy.out with h | h | h; exact .inl h; exact .inr (.inr (by omega)); exact .inr (.inl (by omega)))
      obtain ⟨y, hy⟩ : ∃ y, y = ys.getD i 0 := ⟨_, rfl⟩
      rw [← hy] at cy
      have hyd := HDy.out.getD (by omega) i
      rw [← hy] at hyd
      obtain ⟨hy0, hy1⟩ := hyd
      have Hy := Lib.hid hy
      clear hy
      clear hold hv hlen hl
      have CA := fun W => bsub_any x y c W hx0 hx1 hy0 hy1 hc0 hc1
      go_wp2_with fail
      go_quiet ((go_at_call 148; exact q_left (CA _)))
      go_wp2_with fail
      go_roundg (n - (i + 1))
      case measure => omega
      case rel =>
        have e : oz + i = oz + pre.length := by rw [HL.out]
        refine ⟨i + 1, pre ++ [(x - y - c) % 18446744073709551616], _, by omega, rfl, by go_num, rfl, ?_, by repeat (first | exact hf | apply Fr.drewN | apply Fr.set _ (.inl (by simp))), by rw [List.length_append, HL.out]; simp, hdg.append (DG.cons (Int.emod_nonneg _ (by omega)) (Int.emod_lt_of_pos _ (by omega)) (DG.nil _)), by unfold borrow; split <;> omega, by unfold borrow; split <;> omega, ?_⟩
        · rw [← spl_set_end (by rw [HL.out]; omega), ← e]; exact (hrow.drewN _).set _ _
        · rw [val_snoc, HL.out]
          rw [val_take_succ', val_take_succ', ← Hx.out, ← Hy.out]
          have h := HV.out
          have e := borrow_eq hx0 hx1 hy0 hy1 hc0 hc1
          rw [Int.pow_succ]
          grind
    · obtain rfl : i = n := by omega
      go_wp2_with fail
      go_ret
      have hv' := hv
      have e1 : xs.take i = xs := List.take_of_length_le (by rw [HNx.out]; omega)
      have e2 : ys.take i = ys := List.take_of_length_le (by rw [HNy.out]; omega)
      rw [e1, e2] at hv'
      exact ⟨pre, c, rfl, hrow, hf, hl, hdg, hc0, hc1, hv'⟩
set_option maxRecDepth 100000 in
set_option maxHeartbeats 2000000 in
theorem mulAddVWW_any (bz oz cz bx ox cx n : Nat) (L xs : List Int) (y r : Int) (w : World) (hz : Row .u64 77 w bz L) (hfit : oz + n ≤ L.length) (hnx : xs.length = n) (hsx : Src .u64 w bx ox xs) (hdx : DG 18446744073709551616 xs) (halx : NoTouch bz oz bx ox n) (hn9 : n ≤ 1000000000) (hy0 : 0 ≤ y) (hy1 : y < 18446744073709551616) (hr0 : 0 ≤ r) (hr1 : r < 18446744073709551616) :
    Calls Tryd.prog 142 #[.slice (some ⟨bz, oz, none⟩) n cz, .slice (some ⟨bx, ox, none⟩) n cx, .int .u64 y, .int .u64 r] w (VecPost 77 w bz oz n L (fun zs c => 0 ≤ c ∧ c < 18446744073709551616 ∧ val 18446744073709551616 zs + 18446744073709551616 ^ n * c = val 18446744073709551616 xs * y + r)) := by
  have HZ := Lib.hid hz
  have HNx := Lib.hid hnx
  have HSx := Lib.hid hsx
  have HDx := Lib.hid hdx
  have HALx := Lib.hid halx
  clear hz hnx hsx hdx halx
  go_enter Tryd.func142, Tryd.ntmps142
  go_wp2_with fail
  go_loopg [8, 19] n (VecRel 77 w bz oz n L (fun i pre c => 0 ≤ c ∧ c < 18446744073709551616 ∧ val 18446744073709551616 pre + 18446744073709551616 ^ i * c = val 18446744073709551616 (xs.take i) * y + r))
  case atStart => exact ⟨0, [], r, by omega, rfl, rfl, rfl, by rw [spl_nil]; exact HZ.out, Fr.refl _ _, rfl, DG.nil _, hr0, hr1, by simp [val_nil]⟩
  case round =>
    obtain ⟨i, pre, c, hi, rfl, rfl, rfl, hrow, hf, hl, hdg, hc0, hc1, hv⟩ := hrel
    by_cases h1 : i < n
    · have hlen : (spl L oz pre).length = L.length := spl_len (by omega)
      have hfz := hrow.frozen (oz + i)
      have cz := hrow.cell (i := oz + i) (by omega)
      obtain ⟨old, hold⟩ : ∃ old, old = (spl L oz pre).getD (oz + i) 0 := ⟨_, rfl⟩
      rw [← hold] at cz
      have HV := Lib.hid hv
      have HL := Lib.hid hl
      have HLEN := Lib.hid hlen
      have key : True := trivial
      have cx := HSx.out.spl HZ.out hrow hf (by omega) (j := i) (by rw [HNx.out]; exact h1) (by rcases HALx.out with h | h | h; exact .inl h; exact .inr (.inr (by omega)); exact .inr (.inl (by omega)))
      obtain ⟨x, hx⟩ : ∃ x, x = xs.getD i 0 := ⟨_, rfl⟩
      rw [← hx] at cx
      have hxd := HDx.out.getD (by omega) i
      rw [← hx] at hxd
      obtain ⟨hx0, hx1⟩ := hxd
      have Hx := Lib.hid hx
      clear hx
      clear hold hv hlen hl
      have CA := fun W => mulAdd_any x y c W hx0 hx1 hy0 hy1 hc0 hc1
      have hb := mulc_bound hx0 hx1 hy0 hy1 hc0 hc1
      obtain ⟨p, hp⟩ : ∃ p, p = x * y + c := ⟨_, rfl⟩
      rw [← hp] at hb
      simp only [← hp] at CA
      have HP := Lib.hid hp
      have HB := Lib.hid hb
      have HCA := Lib.hid CA
      clear hp hb CA
      go_wp2_with (go_at_call 141; refine (HCA.out _).mono ?_; rintro e w1 ⟨rfl, rfl⟩)
      go_roundg (n - (i + 1))
      case measure => omega
      case rel =>
        have e : oz + i = oz + pre.length := by rw [HL.out]
        refine ⟨i + 1, pre ++ [p % 18446744073709551616], _, by omega, rfl, by go_num, rfl, ?_, by repeat (first | exact hf | apply Fr.drewN | apply Fr.set _ (.inl (by simp))), by rw [List.length_append, HL.out]; simp, hdg.append (DG.cons (Int.emod_nonneg _ (by omega)) (Int.emod_lt_of_pos _ (by omega)) (DG.nil _)), by have := HB.out; omega, by have := HB.out; omega, ?_⟩
        · rw [← spl_set_end (by rw [HL.out]; omega), ← e]; exact hrow.set _ _
        · rw [val_snoc, HL.out]
          rw [val_take_succ', ← Hx.out]
          have h := HV.out
          have e := Int.emod_add_mul_ediv p 18446744073709551616
          have hp := HP.out
          rw [Int.pow_succ]
          grind
    · obtain rfl : i = n := by omega
      go_wp2_with fail
      go_ret
      have hv' := hv
      rw [List.take_of_length_le (by rw [HNx.out]; omega)] at hv'
      exact ⟨pre, c, rfl, hrow, hf, hl, hdg, hc0, hc1, hv'⟩
set_option maxRecDepth 100000 in
set_option maxHeartbeats 2000000 in
theorem addMulVVWW_any (bz oz cz bx ox cx by_ oy cy n : Nat) (L xs ys : List Int) (m a : Int) (w : World) (hz : Row .u64 77 w bz L) (hfit : oz + n ≤ L.length) (hnx : xs.length = n) (hsx : Src .u64 w bx ox xs) (hdx : DG 18446744073709551616 xs) (halx : NoTouch bz oz bx ox n)
    (hny : ys.length = n) (hsy : Src .u64 w by_ oy ys) (hdy : DG 18446744073709551616 ys) (haly : NoTouch bz oz by_ oy n) (hn9 : n ≤ 1000000000) (hm0 : 0 ≤ m) (hm1 : m < 18446744073709551616) (ha0 : 0 ≤ a) (ha1 : a < 18446744073709551616) :
    Calls Tryd.prog 125 #[.slice (some ⟨bz, oz, none⟩) n cz, .slice (some ⟨bx, ox, none⟩) n cx, .slice (some ⟨by_, oy, none⟩) n cy, .int .u64 m, .int .u64 a] w (VecPost 77 w bz oz n L (fun zs c => 0 ≤ c ∧ c < 18446744073709551616 ∧ val 18446744073709551616 zs + 18446744073709551616 ^ n * c = val 18446744073709551616 xs + val 18446744073709551616 ys * m + a)) := by
  have HZ := Lib.hid hz
  have HNx := Lib.hid hnx
  have HSx := Lib.hid hsx
  have HDx := Lib.hid hdx
  have HALx := Lib.hid halx
  clear hz hnx hsx hdx halx
  have HNy := Lib.hid hny
  have HSy := Lib.hid hsy
  have HDy := Lib.hid hdy
  have HALy := Lib.hid haly
  clear hny hsy hdy haly
  go_enter Tryd.func125, Tryd.ntmps125
  go_wp2_with fail
  go_loopg [10, 32] n (VecRel 77 w bz oz n L (fun i pre c => 0 ≤ c ∧ c < 18446744073709551616 ∧ val 18446744073709551616 pre + 18446744073709551616 ^ i * c = val 18446744073709551616 (xs.take i) + val 18446744073709551616 (ys.take i) * m + a))
  case atStart => exact ⟨0, [], a, by omega, rfl, rfl, rfl, by rw [spl_nil]; exact HZ.out, Fr.refl _ _, rfl, DG.nil _, ha0, ha1, by simp [val_nil]⟩
  case round =>
    obtain ⟨i, pre, c, hi, rfl, rfl, rfl, hrow, hf, hl, hdg, hc0, hc1, hv⟩ := hrel
    by_cases h1 : i < n
    · have hlen : (spl L oz pre).length = L.length := spl_len (by omega)
      have hfz := hrow.frozen (oz + i)
      have cz := hrow.cell (i := oz + i) (by omega)
      obtain ⟨old, hold⟩ : ∃ old, old = (spl L oz pre).getD (oz + i) 0 := ⟨_, rfl⟩
      rw [← hold] at cz
      have HV := Lib.hid hv
      have HL := Lib.hid hl
      have HLEN := Lib.hid hlen
      have key : True := trivial
      have cx := HSx.out.spl HZ.out hrow hf (by omega) (j := i) (by rw [HNx.out]; exact h1) (by rcases HALx.out with h | h | h; exact .inl h; exact .inr (.inr (by omega)); exact .inr (.inl (by omega)))
      obtain ⟨x, hx⟩ : ∃ x, x = xs.getD i 0 := ⟨_, rfl⟩
      rw [← hx] at cx
      have hxd := HDx.out.getD (by omega) i
      rw [← hx] at hxd
      obtain ⟨hx0, hx1⟩ := hxd
      have Hx := Lib.hid hx
      clear hx
      have cy := HSy.out.spl HZ.out hrow hf (by omega) (j := i) (by rw [HNy.out]; exact h1) (by rcases HALy.out with h | h | h; exact .inl h; exact .inr (.inr (by omega)); exact .inr (.inl (by omega)))
      obtain ⟨y, hy⟩ : ∃ y, y = ys.getD i 0 := ⟨_, rfl⟩
      rw [← hy] at cy
      have hyd := HDy.out.getD (by omega) i
      rw [← hy] at hyd
      obtain ⟨hy0, hy1⟩ := hyd
      have Hy := Lib.hid hy
      clear hy
      clear hold hv hlen hl
      have CA := fun W => mulAdd_any y m x W hy0 hy1 hm0 hm1 hx0 hx1
      have hb := mulc_bound hy0 hy1 hm0 hm1 hx0 hx1
      obtain ⟨p, hp⟩ : ∃ p, p = y * m + x := ⟨_, rfl⟩
      rw [← hp] at hb
      simp only [← hp] at CA
      obtain ⟨ph, hph⟩ : ∃ ph, ph = p / 18446744073709551616 := ⟨_, rfl⟩
      obtain ⟨pl, hpl⟩ : ∃ pl, pl = p % 18446744073709551616 := ⟨_, rfl⟩
      simp only [← hph, ← hpl] at CA
      have hpb : 0 ≤ pl ∧ pl < 18446744073709551616 ∧ 0 ≤ ph ∧ ph ≤ 18446744073709551615 ∧ p = pl + 18446744073709551616 * ph := by omega
      obtain ⟨hpl0, hpl1, hph0, hph1, hpe⟩ := hpb
      have CB := fun W => badd_any pl c 0 W hpl0 hpl1 hc0 hc1 (by omega) (by omega)
      have hs : IntKind.u64.wrap ((pl + c + 0) / 18446744073709551616 + ph) = (pl + c + 0) / 18446744073709551616 + ph := IntWalk.u64_in _ (by omega)
      obtain ⟨sh, hsh⟩ : ∃ sh, sh = (pl + c + 0) / 18446744073709551616 := ⟨_, rfl⟩
      obtain ⟨sl, hsl⟩ : ∃ sl, sl = (pl + c + 0) % 18446744073709551616 := ⟨_, rfl⟩
      simp only [← hsh, ← hsl] at CB
      rw [← hsh] at hs
      have hsb : 0 ≤ sl ∧ sl < 18446744073709551616 ∧ 0 ≤ sh ∧ sh + ph < 18446744073709551616 ∧ pl + c = sl + 18446744073709551616 * sh := by omega
      obtain ⟨hsl0, hsl1, hsh0, hsh1, hse⟩ := hsb
      have HPE := Lib.hid hpe
      have HSE := Lib.hid hse
      have HP := Lib.hid hp
      have HCB := Lib.hid CB
      clear hp hb hph hpl hpe hsh hsl hse CB
      go_wp2_with fail
      go_quiet ((go_at_call 141; exact q_left (CA _)))
      clear CA
      go_wp2_with (go_at_call 131; refine (HCB.out _).mono ?_; rintro e w1 ⟨rfl, rfl⟩)
      go_roundg (n - (i + 1))
      case measure => omega
      case rel =>
        have e : oz + i = oz + pre.length := by rw [HL.out]
        refine ⟨i + 1, pre ++ [sl], _, by omega, rfl, by go_num, rfl, ?_, by repeat (first | exact hf | apply Fr.drewN | apply Fr.set _ (.inl (by simp))), by rw [List.length_append, HL.out]; simp, hdg.append (DG.cons hsl0 hsl1 (DG.nil _)), by omega, by omega, ?_⟩
        · rw [← spl_set_end (by rw [HL.out]; omega), ← e]; exact (hrow.drewN _).set _ _
        · rw [val_snoc, HL.out]
          rw [val_take_succ', val_take_succ', ← Hx.out, ← Hy.out]
          have h := HV.out
          have e1 := HPE.out
          have e2 := HSE.out
          have hp := HP.out
          rw [Int.pow_succ]
          grind
    · obtain rfl : i = n := by omega
      go_wp2_with fail
      go_ret
      have hv' := hv
      have e1 : xs.take i = xs := List.take_of_length_le (by rw [HNx.out]; omega)
      have e2 : ys.take i = ys := List.take_of_length_le (by rw [HNy.out]; omega)
      rw [e1, e2] at hv'
      exact ⟨pre, c, rfl, hrow, hf, hl, hdg, hc0, hc1, hv'⟩
end Go.Proofs.YtknokndpeneogaaDoor
end
section
namespace Go.Big
open Go.RowKit
theorem step_copy {P : Program} {ops : Array Oper} {o : Oper} {a : Act} {w : World} {K : Act → World → Prop} {Q : Exit → Act → World → Prop} {E : Prop} (hgd : o.guard = none) (d s : Operand) (dT sT : TypeId)
    (ho : o.op = .call { callee := .builtin .copy, args := #[d, s], argTypes := #[dT, sT] }) (k : IntKind) (T : TypeId) (hu : P.underlying dT = some (.slice T)) (hsz : (P.info? T).map (·.size) = some 1)
    (dp sp : Option Addr) (dLen dCap sCap : Nat) (hd : a.eval d = .slice dp dLen dCap) (xs : List Int) (hs : a.eval s = .slice sp dLen sCap) (hn : xs.length = dLen) (bx ox : Nat) (hsl : Src k w bx ox xs) (g off : Nat) (L : List Int) (hrow : Row k T w g L)
    (hdp : 0 < dLen → dp = some ⟨g, off, none⟩ ∧ sp = some ⟨bx, ox, none⟩) (hfit : off + dLen ≤ L.length)
    (h : ∀ w', Row k T w' g (spl L off xs) → Fr [g] w w' → K (a.put o.dst (goInt dLen)) w') :
    if Region.wanted o (yielded ops a.tmps) = true then Oper.wp P o a w K Q else E := by
  have hw : Region.wanted o (yielded ops a.tmps) = true := by simp [Region.wanted, hgd]
  rw [if_pos hw]
  by_cases h0 : dLen = 0
  · have hrun := run_copy_none (P := P) w dT sT o.type T dp sp dLen dCap dLen sCap hu hsz (by simp [h0])
    unfold Oper.wp
    simp [execOp, ho, resolve, invoke, builtin, hd, hs, hrun, Result.andThen]
    have e := h w (by rw [List.eq_nil_of_length_eq_zero (hn.trans h0), spl_nil]; exact hrow) (Fr.refl _ _)
    rw [h0] at e
    exact e
  · obtain ⟨rfl, rfl⟩ := hdp (by omega)
    have hrun := run_copy_row (P := P) w dT sT o.type T g off dLen dCap ⟨bx, ox, none⟩ dLen sCap _ T (xs.map (Value.int k)) hu hsz hrow (by simp [hn]) (by
      intro j v hj
      rw [List.getElem?_map] at hj
      have hlt : j < xs.length := by
        rcases Nat.lt_or_ge j xs.length with hl | hl
        · exact hl
        · rw [List.getElem?_eq_none hl] at hj; cases hj
      have hc := hsl j hlt
      rw [List.getElem?_eq_getElem hlt] at hj
      simp only [Option.map_some, Option.some.injEq] at hj
      subst hj
      rw [getD_in hlt] at hc
      rw [← hc]
      unfold Addr.add
      split
      · rename_i hj0; subst hj0; rfl
      · rfl) (by rw [List.length_map, hn]; simpa using hfit) (ints_oneCell k _)
    unfold Oper.wp
    simp [execOp, ho, resolve, invoke, builtin, hd, hs, hrun, Result.andThen]
    rw [hn]
    refine h _ ?_ ?_
    · unfold Row spl
      rw [setRow_heap w g _ _ T _ hrow]
      simp [List.map_take, List.map_drop, hn]
    · refine ⟨rfl, rfl, rfl, by simp [World.setRow], fun b hb hn => setRow_other w g b _ (by simpa using hn)⟩
end Go.Big
namespace Go.Proofs.YtknokndpeneogaaDoor
open Go.Big Go.RowKit

theorem spl_app {L : List Int} {o : Nat} {cs ds : List Int} (h : o + cs.length ≤ L.length) : spl (spl L o cs) (o + cs.length) ds = spl L o (cs ++ ds) := by
  have ht : (L.take o).length = o := by rw [List.length_take]; omega
  unfold spl
  rw [List.take_append, List.drop_append]
  simp only [List.length_append, List.length_take, List.take_append, List.drop_append, List.take_take, List.drop_drop]
  rw [Nat.min_eq_left (show o ≤ L.length by omega)]
  simp only [List.append_assoc]
  congr 1
  · rw [Nat.min_eq_right (by omega)]
  · rw [show o + cs.length - o = cs.length by omega, List.take_length]
    congr 1
    rw [show cs.length - cs.length = 0 by omega]
    simp only [List.take_zero, List.nil_append]
    rw [List.drop_eq_nil_of_le (show (L.take o).length ≤ o + cs.length + ds.length by omega), List.drop_eq_nil_of_le (show cs.length ≤ o + cs.length + ds.length - o by omega)]
    simp only [List.nil_append]
    congr 2
    omega
theorem size_wordV : (Tryd.prog.info? 77).map (·.size) = some 1 := by kernel_rfl
set_option maxRecDepth 100000 in
theorem neq_ptr {bz oz bx ox : Nat} {L X : List Int} {T T' : TypeId} (w : World) (hne : bx ≠ bz) (hz : Row .u64 T w bz L) (hx : Row .u64 T' w bx X) :
    (binOp .neq 114 (.pointer (some ⟨bz, oz, none⟩)) (.pointer (some ⟨bx, ox, none⟩))).run Tryd.prog w = .ok (.bool true) w := by
  obtain ⟨j, hj, hjs⟩ : ∃ j, Tryd.prog.info? 77 = some j ∧ j.size = 1 := by
    have h := size_wordV
    cases e : Tryd.prog.info? 77 with
    | none => rw [e] at h; cases h
    | some j => rw [e] at h; exact ⟨j, rfl, by simpa using h⟩
  have h : ∀ d : Nat, (Op.equalIn (d + 1) 114 (.pointer (some ⟨bz, oz, none⟩)) (.pointer (some ⟨bx, ox, none⟩))).run Tryd.prog w = .ok false w := fun d => by
    simp [Op.equalIn, run_underlying Tryd.underlying114, sizeOf, typeInfo, hj, hjs, run_sameAddr_other w (a := ⟨bz, oz, none⟩) (b := ⟨bx, ox, none⟩) (fun e => hne (by injection e with e; exact e.symm)) hz hx]
  simp only [binOp]
  simp [Op.equal, Op.maxDepth, h 9999]
theorem fr_same {w w1 w2 : World} {b : Nat} (h : Fr [b] w w1) (h' : Fr [b] w1 w2) : Fr [b] w w2 := h.trans h' (fun _ hx _ => hx)
set_option maxRecDepth 100000 in
set_option maxHeartbeats 4000000 in
theorem addVW_any (bz oz kz bx ox kx n : Nat) (L xs : List Int) (y : Int) (w : World) (hz : Row .u64 77 w bz L) (hfit : oz + n ≤ L.length) (hnx : xs.length = n) (hsx : Src .u64 w bx ox xs) (hdx : DG 18446744073709551616 xs) (X : List Int) (hX : Row .u64 77 w bx X) (hne : bx ≠ bz) (hn0 : 0 < n) (hn9 : n ≤ 1000000000) (hkz : n ≤ kz) (hkx : n ≤ kx) (hkz9 : kz ≤ maxLen) (hkx9 : kx ≤ maxLen) (hy0 : 0 ≤ y) (hy1 : y < 18446744073709551616) :
    Calls Tryd.prog 107 #[.slice (some ⟨bz, oz, none⟩) n kz, .slice (some ⟨bx, ox, none⟩) n kx, .int .u64 y] w (VecPost 77 w bz oz n L (fun zs c => 0 ≤ c ∧ c ≤ 1 ∧ val 18446744073709551616 zs + 18446744073709551616 ^ n * c = val 18446744073709551616 xs + y)) := by
  unfold maxLen at hkz9 hkx9
  have HZ := Lib.hid hz
  have HNx := Lib.hid hnx
  have HSx := Lib.hid hsx
  have HDx := Lib.hid hdx
  have HX := Lib.hid hX
  have hn0' : (n : Int) ≠ 0 := by omega
  have hn1' : (1 : Int) ≤ (n : Int) := by omega
  have cx0 := hsx 0 (by omega)
  obtain ⟨x, hx⟩ : ∃ x, x = xs.getD 0 0 := ⟨_, rfl⟩
  rw [← hx] at cx0
  have hxd := hdx.getD (by omega) 0
  rw [← hx] at hxd
  obtain ⟨hx0, hx1⟩ := hxd
  have ht1 : val 18446744073709551616 (xs.take 1) = x := by
    have e := val_take_succ' 18446744073709551616 xs 0
    rw [← hx] at e
    simpa [val_nil] using e
  have HT1 := Lib.hid ht1
  have hfz := hz.frozen (oz + 0)
  have cz := hz.cell (i := oz + 0) (by omega)
  obtain ⟨old, hold⟩ : ∃ old, old = L.getD (oz + 0) 0 := ⟨_, rfl⟩
  rw [← hold] at cz
  simp only [Nat.add_zero] at cz cx0 hfz
  obtain ⟨s, hs⟩ : ∃ s, s = (x + y + 0) % 18446744073709551616 := ⟨_, rfl⟩
  obtain ⟨c, hc⟩ : ∃ c, c = (x + y + 0) / 18446744073709551616 := ⟨_, rfl⟩
  have CA := badd_any x y 0 w hx0 hx1 hy0 hy1 (by omega) (by omega)
  rw [← hs, ← hc] at CA
  have HCA := Lib.hid CA
  have hs0 : 0 ≤ s ∧ s < 18446744073709551616 := by omega
  have hc0 : c = 0 ∨ c = 1 := by omega
  have hsc : s + 18446744073709551616 * c = x + y := by omega
  have HSC := Lib.hid hsc
  have HS0 := Lib.hid hs0
  have hrow1 : Row .u64 77 (w.setCell ⟨bz, oz, none⟩ (.int .u64 s)) bz (spl L oz [s]) := by
    have h := HZ.out.set oz s
    have e := spl_set_end (L := L) (o := oz) (cs := []) (by simp; omega) s
    rw [spl_nil] at e
    rw [show L.set oz s = spl L oz [s] from e] at h
    exact h
  have hf1 : Fr [bz] w (w.setCell ⟨bz, oz, none⟩ (.int .u64 s)) := by apply Fr.set _ (.inl (by simp)); exact Fr.refl _ _
  have HROW1 := Lib.hid hrow1
  have HF1 := Lib.hid hf1
  clear hz hnx hsx hdx hx hold hs hc CA hs0 hsc hX ht1 hrow1 hf1
  rcases hc0 with rfl | rfl
  · go_enter Tryd.func107, Tryd.ntmps107
    go_wp2_with (go_at_call 131; refine (HCA.out).mono ?_; rintro e w1 ⟨rfl, rfl⟩)
    have hrow1 := HROW1.out
    have hf1 := HF1.out
    have hX1 := HX.out.fr hf1 (by simpa using hne)
    have hs1 := HSx.out.fr hf1 (by simpa using hne)
    obtain ⟨w1, hw1⟩ : ∃ w1, w1 = w.setCell ⟨bz, oz, none⟩ (.int .u64 s) := ⟨_, rfl⟩
    clear HROW1 HF1
    rw [← hw1] at hrow1 hf1 hX1 hs1 ⊢
    clear hw1
    have hq := neq_ptr (oz := oz) (ox := ox) w1.drew hne hrow1.drew hX1.drew
    have HROW := Lib.hid hrow1
    have HF := Lib.hid hf1
    have HS1 := Lib.hid hs1
    clear hrow1 hf1 hX1 hs1
    go_region
    go_wp2_with fail
    go_region_law (refine step_copy rfl (.tmp 40) (.tmp 42) _ _ rfl .u64 77 Tryd.underlying57 size_wordV _ _ (n - 1) (kz - 1) (kx - 1) rfl (xs.drop 1) rfl (by rw [List.length_drop, HNx.out]) bx (ox + 1) (HS1.out.drop 1) bz (oz + 1) (spl L oz [s]) HROW.out.drew.drew (fun hp => ⟨by rw [if_neg (by omega)], by rw [if_neg (by omega)]⟩) (by rw [spl_len (by simp; omega)]; omega) ?_; intro w2 row2 f2)
    all_goals (go_wp2_with fail)
    all_goals go_ret
    all_goals (
      have row3 := row2
      rw [show oz + 1 = oz + [s].length from rfl, spl_app (by simp; omega)] at row3
      refine ⟨[s] ++ xs.drop 1, 0, rfl, row3, fr_same HF.out.drew.drew f2, ?_, DG.append (DG.cons HS0.out.1 HS0.out.2 (DG.nil _)) (HDx.out.drop 1), by omega, by omega, ?_⟩
      · rw [List.length_append, List.length_drop, HNx.out]; simp; omega
      · have e := val_split 18446744073709551616 xs 1 (by rw [HNx.out]; omega)
        have h := HSC.out
        rw [HT1.out] at e
        rw [e]
        simp [val_cons, val_nil]
        omega)
  · have hh : val 18446744073709551616 [s] = s := by simp [val_cons, val_nil]
    have HH := Lib.hid hh
    clear hh
    go_enter Tryd.func107, Tryd.ntmps107
    go_wp2_with (go_at_call 131; refine (HCA.out).mono ?_; rintro e w1 ⟨rfl, rfl⟩)
    go_loopg [9] (n - 1) (fun g iv wr => ∃ (i : Nat) (pre : List Int), 1 ≤ i ∧ i ≤ n ∧ g = n - i ∧ iv = .int .i64 i ∧ Row .u64 77 wr bz (spl L oz pre) ∧ Fr [bz] w wr ∧ pre.length = i ∧ DG 18446744073709551616 pre ∧ val 18446744073709551616 pre + 18446744073709551616 ^ i * 1 = val 18446744073709551616 (xs.take i) + y)
    case atStart =>
      refine ⟨1, [s], by omega, by omega, rfl, rfl, HROW1.out, HF1.out, rfl, DG.cons HS0.out.1 HS0.out.2 (DG.nil _), ?_⟩
      have h := HSC.out
      rw [HH.out, HT1.out]
      omega
    case round =>
      obtain ⟨i, pre, hi1, hi, rfl, rfl, hrow, hf, hl, hdg, hv⟩ := hrel
      have HL := Lib.hid hl
      have HV := Lib.hid hv
      have HROW := Lib.hid hrow
      have HF := Lib.hid hf
      clear HROW1 HF1 HSC HS0 HH HT1 HCA cx0 cz hfz
      by_cases h1 : i < n
      · have hlen : (spl L oz pre).length = L.length := spl_len (by omega)
        have HLEN := Lib.hid hlen
        have hfz := hrow.frozen (oz + i)
        have cz := hrow.cell (i := oz + i) (by omega)
        obtain ⟨old, hold⟩ : ∃ old, old = (spl L oz pre).getD (oz + i) 0 := ⟨_, rfl⟩
        rw [← hold] at cz
        have cx := (HSx.out.fr hf (by simpa using hne)) i (by rw [HNx.out]; exact h1)
        obtain ⟨q, hq⟩ : ∃ q, q = xs.getD i 0 := ⟨_, rfl⟩
        rw [← hq] at cx
        have hqd := HDx.out.getD (by omega) i
        rw [← hq] at hqd
        obtain ⟨hq0, hq1⟩ := hqd
        have Hq := Lib.hid hq
        have ein : ((i : Int) + 1).toNat = i + 1 := by omega
        have hwi : IntKind.i64.wrap ((i : Int) + 1) = (i : Int) + 1 := by rw [IntKind.wrap_i64]; omega
        have hi1' : (i : Int) + 1 ≤ (n : Int) := by omega
        have hi0' : (0 : Int) ≤ (i : Int) + 1 := by omega
        clear hq hold hlen hl hv hrow hf
        by_cases h2 : q = 18446744073709551615
        · subst h2
          go_wp2_with fail
          go_roundg (n - (i + 1))
          case measure => omega
          case rel =>
            have e : oz + i = oz + pre.length := by rw [HL.out]
            refine ⟨i + 1, pre ++ [0], by omega, by omega, rfl, by go_num, ?_, by repeat (first | exact HF.out | apply Fr.drewN | apply Fr.set _ (.inl (by simp))), by rw [List.length_append, HL.out]; simp, hdg.append (DG.cons (by omega) (by omega) (DG.nil _)), ?_⟩
            · rw [← spl_set_end (by rw [HL.out]; omega), ← e]; exact HROW.out.set _ _
            · rw [val_snoc, HL.out, val_take_succ', ← Hq.out, Int.pow_succ]
              have h := HV.out
              grind
        · have hw : IntKind.u64.wrap (q + 1) = q + 1 := IntWalk.u64_in _ (by omega)
          have hrow1 : Row .u64 77 ((wr).setCell ⟨bz, oz + i, none⟩ (.int .u64 (q + 1))) bz (spl L oz (pre ++ [q + 1])) := by
            have h := HROW.out.set (oz + i) (q + 1)
            have e : oz + i = oz + pre.length := by rw [HL.out]
            rw [← spl_set_end (by rw [HL.out]; omega), ← e]
            exact h
          have hf1 : Fr [bz] w ((wr).setCell ⟨bz, oz + i, none⟩ (.int .u64 (q + 1))) := by apply Fr.set _ (.inl (by simp)); exact HF.out
          have HROW1 := Lib.hid hrow1
          have HF1 := Lib.hid hf1
          clear hrow1 hf1
          go_wp2_with fail
          have hrow1 := HROW1.out
          have hf1 := HF1.out
          have hX1 := HX.out.fr hf1 (by simpa using hne)
          have hs1 := HSx.out.fr hf1 (by simpa using hne)
          obtain ⟨w1, hw1⟩ : ∃ w1, w1 = wr.setCell ⟨bz, oz + i, none⟩ (.int .u64 (q + 1)) := ⟨_, rfl⟩
          clear HROW1 HF1
          rw [← hw1] at hrow1 hf1 hX1 hs1 ⊢
          clear hw1
          have hq := neq_ptr (oz := oz) (ox := ox) w1.drew hne hrow1.drew hX1.drew
          have HROW1 := Lib.hid hrow1
          have HF1 := Lib.hid hf1
          have HS1 := Lib.hid hs1
          clear hrow1 hf1 hX1 hs1 cx cz hfz HROW HF
          have FIN : ∀ w2, Row .u64 77 w2 bz (spl (spl L oz (pre ++ [q + 1])) (oz + (i + 1)) (xs.drop (i + 1))) → Fr [bz] w1.drew.drew w2 → VecPost 77 w bz oz n L (fun zs c => 0 ≤ c ∧ c ≤ 1 ∧ val 18446744073709551616 zs + 18446744073709551616 ^ n * c = val 18446744073709551616 xs + y) (.returned (.int .u64 0)) w2 := by
            intro w2 row2 f2
            have hlp : (pre ++ [q + 1]).length = i + 1 := by simp [HL.out]
            rw [← hlp, spl_app (by rw [hlp]; omega), hlp] at row2
            refine ⟨(pre ++ [q + 1]) ++ xs.drop (i + 1), 0, rfl, row2, fr_same HF1.out.drew.drew f2, ?_, DG.append (DG.append hdg (DG.cons (by omega) (by omega) (DG.nil _))) (HDx.out.drop (i + 1)), by omega, by omega, ?_⟩
            · rw [List.length_append, List.length_drop, HNx.out, hlp]; omega
            · have e := val_split 18446744073709551616 xs (i + 1) (by rw [HNx.out]; omega)
              have h := HV.out
              rw [val_take_succ', ← Hq.out] at e
              rw [e, val_append, val_snoc, HL.out, hlp, Int.mul_zero, Int.add_zero, Int.mul_add, Int.mul_one]
              rw [Int.mul_one] at h
              omega
          have HFIN := Lib.hid FIN
          have HLP : spl L oz (pre ++ [q + 1]) = spl L oz (pre ++ [q + 1]) ∧ (spl L oz (pre ++ [q + 1])).length = L.length := ⟨rfl, spl_len (by simp [HL.out]; omega)⟩
          have HLX := Lib.hid (show oz + (i + 1) + (n - (i + 1)) ≤ (spl L oz (pre ++ [q + 1])).length by rw [HLP.2]; omega)
          have HLD := Lib.hid (show (xs.drop (i + 1)).length = n - (i + 1) by rw [List.length_drop, HNx.out])
          obtain ⟨LL, hLL⟩ : ∃ LL, LL = spl L oz (pre ++ [q + 1]) := ⟨_, rfl⟩
          rw [← hLL] at HFIN HLX HROW1
          clear FIN HLP hLL hw
          go_region
          go_wp2_with fail
          clear hq
          have HDP := Lib.hid (show 0 < n - (i + 1) → (if kz = i + 1 then some (⟨bz, oz, none⟩ : Addr) else some ⟨bz, oz + (i + 1), none⟩) = some ⟨bz, oz + (i + 1), none⟩ ∧ (if kx = i + 1 then some (⟨bx, ox, none⟩ : Addr) else some ⟨bx, ox + (i + 1), none⟩) = some ⟨bx, ox + (i + 1), none⟩ from fun hp => ⟨by rw [if_neg (by omega)], by rw [if_neg (by omega)]⟩)
          have HSD := Lib.hid (show Src .u64 w1.drew.drew bx (ox + (i + 1)) (xs.drop (i + 1)) from HS1.out.drop (i + 1))
          have HRD := Lib.hid (show Row .u64 77 w1.drew.drew bz LL from HROW1.out.drew.drew)
          go_region_law (refine step_copy rfl (.tmp 69) (.tmp 73) _ _ rfl .u64 77 Tryd.underlying57 size_wordV (if kz = i + 1 then some ⟨bz, oz, none⟩ else some ⟨bz, oz + (i + 1), none⟩) (if kx = i + 1 then some ⟨bx, ox, none⟩ else some ⟨bx, ox + (i + 1), none⟩) (n - (i + 1)) (kz - (i + 1)) (kx - (i + 1)) (by simp [Act.eval, Act.put]) (xs.drop (i + 1)) (by simp [Act.eval, Act.put]) HLD.out bx (ox + (i + 1)) HSD.out bz (oz + (i + 1)) LL HRD.out HDP.out HLX.out ?_; intro w2 row2 f2; have G2 := Lib.hid (HFIN.out w2 row2 f2); clear HFIN row2 f2)
          all_goals (go_wp2_with fail)
          all_goals go_ret
          all_goals exact G2.out
      · obtain rfl : i = n := by omega
        clear hrow hf hl hv
        go_wp2_with fail
        go_ret
        have hv' := HV.out
        rw [show xs.take i = xs from List.take_of_length_le (by rw [HNx.out]; omega)] at hv'
        exact ⟨pre, 1, rfl, HROW.out, HF.out, HL.out, hdg, by omega, by omega, hv'⟩
set_option maxRecDepth 100000 in
set_option maxHeartbeats 4000000 in
theorem subVW_any (bz oz kz bx ox kx n : Nat) (L xs : List Int) (y : Int) (w : World) (hz : Row .u64 77 w bz L) (hfit : oz + n ≤ L.length) (hnx : xs.length = n) (hsx : Src .u64 w bx ox xs) (hdx : DG 18446744073709551616 xs) (X : List Int) (hX : Row .u64 77 w bx X) (hne : bx ≠ bz) (hn0 : 0 < n) (hn9 : n ≤ 1000000000) (hkz : n ≤ kz) (hkx : n ≤ kx) (hkz9 : kz ≤ maxLen) (hkx9 : kx ≤ maxLen) (hy0 : 0 ≤ y) (hy1 : y < 18446744073709551616) :
    Calls Tryd.prog 133 #[.slice (some ⟨bz, oz, none⟩) n kz, .slice (some ⟨bx, ox, none⟩) n kx, .int .u64 y] w (VecPost 77 w bz oz n L (fun zs c => 0 ≤ c ∧ c ≤ 1 ∧ val 18446744073709551616 zs + y = val 18446744073709551616 xs + 18446744073709551616 ^ n * c)) := by
  unfold maxLen at hkz9 hkx9
  have HZ := Lib.hid hz
  have HNx := Lib.hid hnx
  have HSx := Lib.hid hsx
  have HDx := Lib.hid hdx
  have HX := Lib.hid hX
  have hn0' : (n : Int) ≠ 0 := by omega
  have hn1' : (1 : Int) ≤ (n : Int) := by omega
  have cx0 := hsx 0 (by omega)
  obtain ⟨x, hx⟩ : ∃ x, x = xs.getD 0 0 := ⟨_, rfl⟩
  rw [← hx] at cx0
  have hxd := hdx.getD (by omega) 0
  rw [← hx] at hxd
  obtain ⟨hx0, hx1⟩ := hxd
  have ht1 : val 18446744073709551616 (xs.take 1) = x := by
    have e := val_take_succ' 18446744073709551616 xs 0
    rw [← hx] at e
    simpa [val_nil] using e
  have HT1 := Lib.hid ht1
  have hfz := hz.frozen (oz + 0)
  have cz := hz.cell (i := oz + 0) (by omega)
  obtain ⟨old, hold⟩ : ∃ old, old = L.getD (oz + 0) 0 := ⟨_, rfl⟩
  rw [← hold] at cz
  simp only [Nat.add_zero] at cz cx0 hfz
  obtain ⟨s, hs⟩ : ∃ s, s = (x - y - 0) % 18446744073709551616 := ⟨_, rfl⟩
  obtain ⟨c, hc⟩ : ∃ c, c = borrow x y 0 := ⟨_, rfl⟩
  have CA := bsub_any x y 0 w hx0 hx1 hy0 hy1 (by omega) (by omega)
  rw [← hs, ← hc] at CA
  have HCA := Lib.hid CA
  have hs0 : 0 ≤ s ∧ s < 18446744073709551616 := by omega
  have hc0 : c = 0 ∨ c = 1 := by rw [hc]; unfold borrow; split <;> omega
  have hsc : s + y = x + 18446744073709551616 * c := by have e := borrow_eq hx0 hx1 hy0 hy1 (show (0 : Int) ≤ 0 by omega) (by omega); rw [← hs, ← hc] at e; omega
  have HSC := Lib.hid hsc
  have HS0 := Lib.hid hs0
  have hrow1 : Row .u64 77 (w.setCell ⟨bz, oz, none⟩ (.int .u64 s)) bz (spl L oz [s]) := by
    have h := HZ.out.set oz s
    have e := spl_set_end (L := L) (o := oz) (cs := []) (by simp; omega) s
    rw [spl_nil] at e
    rw [show L.set oz s = spl L oz [s] from e] at h
    exact h
  have hf1 : Fr [bz] w (w.setCell ⟨bz, oz, none⟩ (.int .u64 s)) := by apply Fr.set _ (.inl (by simp)); exact Fr.refl _ _
  have HROW1 := Lib.hid hrow1
  have HF1 := Lib.hid hf1
  clear hz hnx hsx hdx hx hold hs hc CA hs0 hsc hX ht1 hrow1 hf1
  rcases hc0 with rfl | rfl
  · go_enter Tryd.func133, Tryd.ntmps133
    go_wp2_with (go_at_call 148; refine (HCA.out).mono ?_; rintro e w1 ⟨rfl, rfl⟩)
    have hrow1 := HROW1.out
    have hf1 := HF1.out
    have hX1 := HX.out.fr hf1 (by simpa using hne)
    have hs1 := HSx.out.fr hf1 (by simpa using hne)
    obtain ⟨w1, hw1⟩ : ∃ w1, w1 = w.setCell ⟨bz, oz, none⟩ (.int .u64 s) := ⟨_, rfl⟩
    clear HROW1 HF1
    rw [← hw1] at hrow1 hf1 hX1 hs1 ⊢
    clear hw1
    have hq := neq_ptr (oz := oz) (ox := ox) w1.drew hne hrow1.drew hX1.drew
    have HROW := Lib.hid hrow1
    have HF := Lib.hid hf1
    have HS1 := Lib.hid hs1
    clear hrow1 hf1 hX1 hs1
    go_region
    go_wp2_with fail
    go_region_law (refine step_copy rfl (.tmp 40) (.tmp 42) _ _ rfl .u64 77 Tryd.underlying57 size_wordV _ _ (n - 1) (kz - 1) (kx - 1) rfl (xs.drop 1) rfl (by rw [List.length_drop, HNx.out]) bx (ox + 1) (HS1.out.drop 1) bz (oz + 1) (spl L oz [s]) HROW.out.drew.drew (fun hp => ⟨by rw [if_neg (by omega)], by rw [if_neg (by omega)]⟩) (by rw [spl_len (by simp; omega)]; omega) ?_; intro w2 row2 f2)
    all_goals (go_wp2_with fail)
    all_goals go_ret
    all_goals (
      have row3 := row2
      rw [show oz + 1 = oz + [s].length from rfl, spl_app (by simp; omega)] at row3
      refine ⟨[s] ++ xs.drop 1, 0, rfl, row3, fr_same HF.out.drew.drew f2, ?_, DG.append (DG.cons HS0.out.1 HS0.out.2 (DG.nil _)) (HDx.out.drop 1), by omega, by omega, ?_⟩
      · rw [List.length_append, List.length_drop, HNx.out]; simp; omega
      · have e := val_split 18446744073709551616 xs 1 (by rw [HNx.out]; omega)
        have h := HSC.out
        rw [HT1.out] at e
        rw [e]
        simp [val_cons, val_nil]
        omega)
  · have hh : val 18446744073709551616 [s] = s := by simp [val_cons, val_nil]
    have HH := Lib.hid hh
    clear hh
    go_enter Tryd.func133, Tryd.ntmps133
    go_wp2_with (go_at_call 148; refine (HCA.out).mono ?_; rintro e w1 ⟨rfl, rfl⟩)
    go_loopg [9] (n - 1) (fun g iv wr => ∃ (i : Nat) (pre : List Int), 1 ≤ i ∧ i ≤ n ∧ g = n - i ∧ iv = .int .i64 i ∧ Row .u64 77 wr bz (spl L oz pre) ∧ Fr [bz] w wr ∧ pre.length = i ∧ DG 18446744073709551616 pre ∧ val 18446744073709551616 pre + y = val 18446744073709551616 (xs.take i) + 18446744073709551616 ^ i * 1)
    case atStart =>
      refine ⟨1, [s], by omega, by omega, rfl, rfl, HROW1.out, HF1.out, rfl, DG.cons HS0.out.1 HS0.out.2 (DG.nil _), ?_⟩
      have h := HSC.out
      rw [HH.out, HT1.out]
      omega
    case round =>
      obtain ⟨i, pre, hi1, hi, rfl, rfl, hrow, hf, hl, hdg, hv⟩ := hrel
      have HL := Lib.hid hl
      have HV := Lib.hid hv
      have HROW := Lib.hid hrow
      have HF := Lib.hid hf
      clear HROW1 HF1 HSC HS0 HH HT1 HCA cx0 cz hfz
      by_cases h1 : i < n
      · have hlen : (spl L oz pre).length = L.length := spl_len (by omega)
        have HLEN := Lib.hid hlen
        have hfz := hrow.frozen (oz + i)
        have cz := hrow.cell (i := oz + i) (by omega)
        obtain ⟨old, hold⟩ : ∃ old, old = (spl L oz pre).getD (oz + i) 0 := ⟨_, rfl⟩
        rw [← hold] at cz
        have cx := (HSx.out.fr hf (by simpa using hne)) i (by rw [HNx.out]; exact h1)
        obtain ⟨q, hq⟩ : ∃ q, q = xs.getD i 0 := ⟨_, rfl⟩
        rw [← hq] at cx
        have hqd := HDx.out.getD (by omega) i
        rw [← hq] at hqd
        obtain ⟨hq0, hq1⟩ := hqd
        have Hq := Lib.hid hq
        have ein : ((i : Int) + 1).toNat = i + 1 := by omega
        have hwi : IntKind.i64.wrap ((i : Int) + 1) = (i : Int) + 1 := by rw [IntKind.wrap_i64]; omega
        have hi1' : (i : Int) + 1 ≤ (n : Int) := by omega
        have hi0' : (0 : Int) ≤ (i : Int) + 1 := by omega
        clear hq hold hlen hl hv hrow hf
        by_cases h2 : q = 0
        · subst h2
          go_wp2_with fail
          go_roundg (n - (i + 1))
          case measure => omega
          case rel =>
            have e : oz + i = oz + pre.length := by rw [HL.out]
            refine ⟨i + 1, pre ++ [18446744073709551615], by omega, by omega, rfl, by go_num, ?_, by repeat (first | exact HF.out | apply Fr.drewN | apply Fr.set _ (.inl (by simp))), by rw [List.length_append, HL.out]; simp, hdg.append (DG.cons (by omega) (by omega) (DG.nil _)), ?_⟩
            · rw [← spl_set_end (by rw [HL.out]; omega), ← e]; exact HROW.out.set _ _
            · rw [val_snoc, HL.out, val_take_succ', ← Hq.out, Int.pow_succ]
              have h := HV.out
              grind
        · have hw : IntKind.u64.wrap (q - 1) = q - 1 := IntWalk.u64_in _ (by omega)
          have hrow1 : Row .u64 77 ((wr).setCell ⟨bz, oz + i, none⟩ (.int .u64 (q - 1))) bz (spl L oz (pre ++ [q - 1])) := by
            have h := HROW.out.set (oz + i) (q - 1)
            have e : oz + i = oz + pre.length := by rw [HL.out]
            rw [← spl_set_end (by rw [HL.out]; omega), ← e]
            exact h
          have hf1 : Fr [bz] w ((wr).setCell ⟨bz, oz + i, none⟩ (.int .u64 (q - 1))) := by apply Fr.set _ (.inl (by simp)); exact HF.out
          have HROW1 := Lib.hid hrow1
          have HF1 := Lib.hid hf1
          clear hrow1 hf1
          go_wp2_with fail
          have hrow1 := HROW1.out
          have hf1 := HF1.out
          have hX1 := HX.out.fr hf1 (by simpa using hne)
          have hs1 := HSx.out.fr hf1 (by simpa using hne)
          obtain ⟨w1, hw1⟩ : ∃ w1, w1 = wr.setCell ⟨bz, oz + i, none⟩ (.int .u64 (q - 1)) := ⟨_, rfl⟩
          clear HROW1 HF1
          rw [← hw1] at hrow1 hf1 hX1 hs1 ⊢
          clear hw1
          have hq := neq_ptr (oz := oz) (ox := ox) w1.drew hne hrow1.drew hX1.drew
          have HROW1 := Lib.hid hrow1
          have HF1 := Lib.hid hf1
          have HS1 := Lib.hid hs1
          clear hrow1 hf1 hX1 hs1 cx cz hfz HROW HF
          have FIN : ∀ w2, Row .u64 77 w2 bz (spl (spl L oz (pre ++ [q - 1])) (oz + (i + 1)) (xs.drop (i + 1))) → Fr [bz] w1.drew.drew w2 → VecPost 77 w bz oz n L (fun zs c => 0 ≤ c ∧ c ≤ 1 ∧ val 18446744073709551616 zs + y = val 18446744073709551616 xs + 18446744073709551616 ^ n * c) (.returned (.int .u64 0)) w2 := by
            intro w2 row2 f2
            have hlp : (pre ++ [q - 1]).length = i + 1 := by simp [HL.out]
            rw [← hlp, spl_app (by rw [hlp]; omega), hlp] at row2
            refine ⟨(pre ++ [q - 1]) ++ xs.drop (i + 1), 0, rfl, row2, fr_same HF1.out.drew.drew f2, ?_, DG.append (DG.append hdg (DG.cons (by omega) (by omega) (DG.nil _))) (HDx.out.drop (i + 1)), by omega, by omega, ?_⟩
            · rw [List.length_append, List.length_drop, HNx.out, hlp]; omega
            · have e := val_split 18446744073709551616 xs (i + 1) (by rw [HNx.out]; omega)
              have h := HV.out
              rw [val_take_succ', ← Hq.out] at e
              rw [e, val_append, val_snoc, HL.out, hlp, Int.mul_zero, Int.add_zero, Int.mul_sub, Int.mul_one]
              rw [Int.mul_one] at h
              omega
          have HFIN := Lib.hid FIN
          have HLP : spl L oz (pre ++ [q - 1]) = spl L oz (pre ++ [q - 1]) ∧ (spl L oz (pre ++ [q - 1])).length = L.length := ⟨rfl, spl_len (by simp [HL.out]; omega)⟩
          have HLX := Lib.hid (show oz + (i + 1) + (n - (i + 1)) ≤ (spl L oz (pre ++ [q - 1])).length by rw [HLP.2]; omega)
          have HLD := Lib.hid (show (xs.drop (i + 1)).length = n - (i + 1) by rw [List.length_drop, HNx.out])
          obtain ⟨LL, hLL⟩ : ∃ LL, LL = spl L oz (pre ++ [q - 1]) := ⟨_, rfl⟩
          rw [← hLL] at HFIN HLX HROW1
          clear FIN HLP hLL hw
          go_region
          go_wp2_with fail
          clear hq
          have HDP := Lib.hid (show 0 < n - (i + 1) → (if kz = i + 1 then some (⟨bz, oz, none⟩ : Addr) else some ⟨bz, oz + (i + 1), none⟩) = some ⟨bz, oz + (i + 1), none⟩ ∧ (if kx = i + 1 then some (⟨bx, ox, none⟩ : Addr) else some ⟨bx, ox + (i + 1), none⟩) = some ⟨bx, ox + (i + 1), none⟩ from fun hp => ⟨by rw [if_neg (by omega)], by rw [if_neg (by omega)]⟩)
          have HSD := Lib.hid (show Src .u64 w1.drew.drew bx (ox + (i + 1)) (xs.drop (i + 1)) from HS1.out.drop (i + 1))
          have HRD := Lib.hid (show Row .u64 77 w1.drew.drew bz LL from HROW1.out.drew.drew)
          go_region_law (refine step_copy rfl (.tmp 69) (.tmp 73) _ _ rfl .u64 77 Tryd.underlying57 size_wordV (if kz = i + 1 then some ⟨bz, oz, none⟩ else some ⟨bz, oz + (i + 1), none⟩) (if kx = i + 1 then some ⟨bx, ox, none⟩ else some ⟨bx, ox + (i + 1), none⟩) (n - (i + 1)) (kz - (i + 1)) (kx - (i + 1)) (by simp [Act.eval, Act.put]) (xs.drop (i + 1)) (by simp [Act.eval, Act.put]) HLD.out bx (ox + (i + 1)) HSD.out bz (oz + (i + 1)) LL HRD.out HDP.out HLX.out ?_; intro w2 row2 f2; have G2 := Lib.hid (HFIN.out w2 row2 f2); clear HFIN row2 f2)
          all_goals (go_wp2_with fail)
          all_goals go_ret
          all_goals exact G2.out
      · obtain rfl : i = n := by omega
        clear hrow hf hl hv
        go_wp2_with fail
        go_ret
        have hv' := HV.out
        rw [show xs.take i = xs from List.take_of_length_le (by rw [HNx.out]; omega)] at hv'
        exact ⟨pre, 1, rfl, HROW.out, HF.out, HL.out, hdg, by omega, by omega, hv'⟩
end Go.Proofs.YtknokndpeneogaaDoor
end
