/-
  addVV_g, subVV_g, mulAddVWW_g, addMulVVWW_g, walked. Conditions: what is read can be read, what is written is a row; where both lie in one row, what is still to be read has not been written.
-/
import Derived.Test.YtknokndpeneogaaDoorShift
import Derived.Test.YtknokndpeneogaaDoorBits
import Derived.Deep.QuietTactic
import Derived.BigQuiet
set_option linter.unusedSimpArgs false
set_option linter.unusedVariables false
namespace Go.Proofs.YtknokndpeneogaaDoor
open Go.Big Go.RowKit

theorem q_left {P : Program} {f : FuncId} {args : Array Value} {w : World} {n : Nat} {v : Value} (h : Calls P f args (w.drewN n) fun e w' => e = .returned v ∧ w.drewN n = w') :
    Calls P f args (w.drewN n) fun e w'' => e = .returned v ∧ ∃ m, w'' = w.drewN m := h.mono fun _ _ ⟨he, hm⟩ => ⟨he, n, hm.symm⟩

/-- a vector's operation: the words zs lie over L from oz on, c is carried; what they are: R -/
def VecPost (T : TypeId) (w : World) (bz oz n : Nat) (L : List Int) (R : List Int → Int → Prop) (e : Ending) (w' : World) : Prop :=
  ∃ (zs : List Int) (c : Int), e = .returned (.int .u64 c) ∧ Row .u64 T w' bz (spl L oz zs) ∧ Fr [bz] w w' ∧ zs.length = n ∧ DG 18446744073709551616 zs ∧ R zs c
def VecRel (T : TypeId) (w : World) (bz oz n : Nat) (L : List Int) (R : Nat → List Int → Int → Prop) (g : Nat) (cv iv : Value) (wr : World) : Prop :=
  ∃ (i : Nat) (pre : List Int) (c : Int), i ≤ n ∧ g = n - i ∧ iv = .int .i64 i ∧ cv = .int .u64 c ∧ Row .u64 T wr bz (spl L oz pre) ∧ Fr [bz] w wr ∧ pre.length = i ∧ DG 18446744073709551616 pre ∧ R i pre c
/-- what may lie where -/
def NoTouch (bz oz bx ox n : Nat) : Prop := bx ≠ bz ∨ oz ≤ ox ∨ ox + n ≤ oz

set_option maxRecDepth 100000 in
set_option maxHeartbeats 2000000 in
theorem addVV_any (bz oz cz bx ox cx by_ oy cy n : Nat) (L xs ys : List Int) (w : World) (hz : Row .u64 77 w bz L) (hfit : oz + n ≤ L.length) (hnx : xs.length = n) (hsx : Src .u64 w bx ox xs) (hdx : DG 18446744073709551616 xs) (halx : NoTouch bz oz bx ox n)
    (hny : ys.length = n) (hsy : Src .u64 w by_ oy ys) (hdy : DG 18446744073709551616 ys) (haly : NoTouch bz oz by_ oy n) (hn9 : n ≤ 1000000000) :
    Calls Tryd.prog 127 #[.slice (some ⟨bz, oz, none⟩) n cz, .slice (some ⟨bx, ox, none⟩) n cx, .slice (some ⟨by_, oy, none⟩) n cy] w (VecPost 77 w bz oz n L (fun zs c => 0 ≤ c ∧ c ≤ 1 ∧ val 18446744073709551616 zs + 18446744073709551616 ^ n * c = val 18446744073709551616 xs + val 18446744073709551616 ys)) := by
  have HZ := Lib.hid hz
  have HNx := Lib.hid hnx
  have HSx := Lib.hid hsx
  have HDx := Lib.hid hdx
  have HALx := Lib.hid halx
  clear hz hnx hsx hdx halx
  have HNy := Lib.hid hny
  have HSy := Lib.hid hsy
  have HDy := Lib.hid hdy
  have HALy := Lib.hid haly
  clear hny hsy hdy haly
  go_enter Tryd.func127, Tryd.ntmps127
  go_wp2_with fail
  go_loopg [6, 25] n (VecRel 77 w bz oz n L (fun i pre c => 0 ≤ c ∧ c ≤ 1 ∧ val 18446744073709551616 pre + 18446744073709551616 ^ i * c = val 18446744073709551616 (xs.take i) + val 18446744073709551616 (ys.take i)))
  case atStart => exact ⟨0, [], 0, by omega, rfl, rfl, rfl, by rw [spl_nil]; exact HZ.out, Fr.refl _ _, rfl, DG.nil _, by omega, by omega, by simp [val_nil]⟩
  case round =>
    obtain ⟨i, pre, c, hi, rfl, rfl, rfl, hrow, hf, hl, hdg, hc0, hc1, hv⟩ := hrel
    by_cases h1 : i < n
    · have hlen : (spl L oz pre).length = L.length := spl_len (by omega)
      have hfz := hrow.frozen (oz + i)
      have cz := hrow.cell (i := oz + i) (by omega)
      obtain ⟨old, hold⟩ : ∃ old, old = (spl L oz pre).getD (oz + i) 0 := ⟨_, rfl⟩
      rw [← hold] at cz
      have HV := Lib.hid hv
      have HL := Lib.hid hl
      have HLEN := Lib.hid hlen
      have key : True := trivial
      have cx := HSx.out.spl HZ.out hrow hf (by omega) (j := i) (by rw [HNx.out]; exact h1) (by rcases HALx.out with h | h | h; exact .inl h; exact .inr (.inr (by omega)); exact .inr (.inl (by omega)))
      obtain ⟨x, hx⟩ : ∃ x, x = xs.getD i 0 := ⟨_, rfl⟩
      rw [← hx] at cx
      have hxd := HDx.out.getD (by omega) i
      rw [← hx] at hxd
      obtain ⟨hx0, hx1⟩ := hxd
      have Hx := Lib.hid hx
      clear hx
      have cy := HSy.out.spl HZ.out hrow hf (by omega) (j := i) (by rw [HNy.out]; exact h1) (by rcases HALy.out with h | h | h; exact .inl h; exact .inr (.inr (by omega)); exact .inr (.inl (by omega)))
      obtain ⟨y, hy⟩ : ∃ y, y = ys.getD i 0 := ⟨_, rfl⟩
      rw [← hy] at cy
      have hyd := HDy.out.getD (by omega) i
      rw [← hy] at hyd
      obtain ⟨hy0, hy1⟩ := hyd
      have Hy := Lib.hid hy
      clear hy
      clear hold hv hlen hl
      have CA := fun W => badd_any x y c W hx0 hx1 hy0 hy1 hc0 hc1
      go_wp2_with fail
      go_quiet ((go_at_call 131; exact q_left (CA _)))
      go_wp2_with fail
      go_roundg (n - (i + 1))
      case measure => omega
      case rel =>
        have e : oz + i = oz + pre.length := by rw [HL.out]
        refine ⟨i + 1, pre ++ [(x + y + c) % 18446744073709551616], _, by omega, rfl, by go_num, rfl, ?_, by repeat (first | exact hf | apply Fr.drewN | apply Fr.set _ (.inl (by simp))), by rw [List.length_append, HL.out]; simp, hdg.append (DG.cons (Int.emod_nonneg _ (by omega)) (Int.emod_lt_of_pos _ (by omega)) (DG.nil _)), by omega, by omega, ?_⟩
        · rw [← spl_set_end (by rw [HL.out]; omega), ← e]; exact (hrow.drewN _).set _ _
        · rw [val_snoc, HL.out]
          rw [val_take_succ', val_take_succ', ← Hx.out, ← Hy.out]
          have h := HV.out
          have e := Int.emod_add_mul_ediv (x + y + c) 18446744073709551616
          rw [Int.pow_succ]
          grind
    · obtain rfl : i = n := by omega
      go_wp2_with fail
      go_ret
      have hv' := hv
      have e1 : xs.take i = xs := List.take_of_length_le (by rw [HNx.out]; omega)
      have e2 : ys.take i = ys := List.take_of_length_le (by rw [HNy.out]; omega)
      rw [e1, e2] at hv'
      exact ⟨pre, c, rfl, hrow, hf, hl, hdg, hc0, hc1, hv'⟩
set_option maxRecDepth 100000 in
set_option maxHeartbeats 2000000 in
theorem subVV_any (bz oz cz bx ox cx by_ oy cy n : Nat) (L xs ys : List Int) (w : World) (hz : Row .u64 77 w bz L) (hfit : oz + n ≤ L.length) (hnx : xs.length = n) (hsx : Src .u64 w bx ox xs) (hdx : DG 18446744073709551616 xs) (halx : NoTouch bz oz bx ox n)
    (hny : ys.length = n) (hsy : Src .u64 w by_ oy ys) (hdy : DG 18446744073709551616 ys) (haly : NoTouch bz oz by_ oy n) (hn9 : n ≤ 1000000000) :
    Calls Tryd.prog 149 #[.slice (some ⟨bz, oz, none⟩) n cz, .slice (some ⟨bx, ox, none⟩) n cx, .slice (some ⟨by_, oy, none⟩) n cy] w (VecPost 77 w bz oz n L (fun zs c => 0 ≤ c ∧ c ≤ 1 ∧ val 18446744073709551616 zs + val 18446744073709551616 ys = val 18446744073709551616 xs + 18446744073709551616 ^ n * c)) := by
  have HZ := Lib.hid hz
  have HNx := Lib.hid hnx
  have HSx := Lib.hid hsx
  have HDx := Lib.hid hdx
  have HALx := Lib.hid halx
  clear hz hnx hsx hdx halx
  have HNy := Lib.hid hny
  have HSy := Lib.hid hsy
  have HDy := Lib.hid hdy
  have HALy := Lib.hid haly
  clear hny hsy hdy haly
  go_enter Tryd.func149, Tryd.ntmps149
  go_wp2_with fail
  go_loopg [6, 25] n (VecRel 77 w bz oz n L (fun i pre c => 0 ≤ c ∧ c ≤ 1 ∧ val 18446744073709551616 pre + val 18446744073709551616 (ys.take i) = val 18446744073709551616 (xs.take i) + 18446744073709551616 ^ i * c))
  case atStart => exact ⟨0, [], 0, by omega, rfl, rfl, rfl, by rw [spl_nil]; exact HZ.out, Fr.refl _ _, rfl, DG.nil _, by omega, by omega, by simp [val_nil]⟩
  case round =>
    obtain ⟨i, pre, c, hi, rfl, rfl, rfl, hrow, hf, hl, hdg, hc0, hc1, hv⟩ := hrel
    by_cases h1 : i < n
    · have hlen : (spl L oz pre).length = L.length := spl_len (by omega)
      have hfz := hrow.frozen (oz + i)
      have cz := hrow.cell (i := oz + i) (by omega)
      obtain ⟨old, hold⟩ : ∃ old, old = (spl L oz pre).getD (oz + i) 0 := ⟨_, rfl⟩
      rw [← hold] at cz
      have HV := Lib.hid hv
      have HL := Lib.hid hl
      have HLEN := Lib.hid hlen
      have key : True := trivial
      have cx := HSx.out.spl HZ.out hrow hf (by omega) (j := i) (by rw [HNx.out]; exact h1) (by rcases HALx.out with h | h | h; exact .inl h; exact .inr (.inr (by omega)); exact .inr (.inl (by omega)))
      obtain ⟨x, hx⟩ : ∃ x, x = xs.getD i 0 := ⟨_, rfl⟩
      rw [← hx] at cx
      have hxd := HDx.out.getD (by omega) i
      rw [← hx] at hxd
      obtain ⟨hx0, hx1⟩ := hxd
      have Hx := Lib.hid hx
      clear hx
      have cy := HSy.out.spl HZ.out hrow hf (by omega) (j := i) (by rw [HNy.out]; exact h1) (by rcases HALy.out with h | h | h; exact .inl h; exact .inr (.inr (by omega)); exact .inr (.inl (by omega)))
      obtain ⟨y, hy⟩ : ∃ y, y = ys.getD i 0 := ⟨_, rfl⟩
      rw [← hy] at cy
      have hyd := HDy.out.getD (by omega) i
      rw [← hy] at hyd
      obtain ⟨hy0, hy1⟩ := hyd
      have Hy := Lib.hid hy
      clear hy
      clear hold hv hlen hl
      have CA := fun W => bsub_any x y c W hx0 hx1 hy0 hy1 hc0 hc1
      go_wp2_with fail
      go_quiet ((go_at_call 148; exact q_left (CA _)))
      go_wp2_with fail
      go_roundg (n - (i + 1))
      case measure => omega
      case rel =>
        have e : oz + i = oz + pre.length := by rw [HL.out]
        refine ⟨i + 1, pre ++ [(x - y - c) % 18446744073709551616], _, by omega, rfl, by go_num, rfl, ?_, by repeat (first | exact hf | apply Fr.drewN | apply Fr.set _ (.inl (by simp))), by rw [List.length_append, HL.out]; simp, hdg.append (DG.cons (Int.emod_nonneg _ (by omega)) (Int.emod_lt_of_pos _ (by omega)) (DG.nil _)), by unfold borrow; split <;> omega, by unfold borrow; split <;> omega, ?_⟩
        · rw [← spl_set_end (by rw [HL.out]; omega), ← e]; exact (hrow.drewN _).set _ _
        · rw [val_snoc, HL.out]
          rw [val_take_succ', val_take_succ', ← Hx.out, ← Hy.out]
          have h := HV.out
          have e := borrow_eq hx0 hx1 hy0 hy1 hc0 hc1
          rw [Int.pow_succ]
          grind
    · obtain rfl : i = n := by omega
      go_wp2_with fail
      go_ret
      have hv' := hv
      have e1 : xs.take i = xs := List.take_of_length_le (by rw [HNx.out]; omega)
      have e2 : ys.take i = ys := List.take_of_length_le (by rw [HNy.out]; omega)
      rw [e1, e2] at hv'
      exact ⟨pre, c, rfl, hrow, hf, hl, hdg, hc0, hc1, hv'⟩
set_option maxRecDepth 100000 in
set_option maxHeartbeats 2000000 in
theorem mulAddVWW_any (bz oz cz bx ox cx n : Nat) (L xs : List Int) (y r : Int) (w : World) (hz : Row .u64 77 w bz L) (hfit : oz + n ≤ L.length) (hnx : xs.length = n) (hsx : Src .u64 w bx ox xs) (hdx : DG 18446744073709551616 xs) (halx : NoTouch bz oz bx ox n) (hn9 : n ≤ 1000000000) (hy0 : 0 ≤ y) (hy1 : y < 18446744073709551616) (hr0 : 0 ≤ r) (hr1 : r < 18446744073709551616) :
    Calls Tryd.prog 142 #[.slice (some ⟨bz, oz, none⟩) n cz, .slice (some ⟨bx, ox, none⟩) n cx, .int .u64 y, .int .u64 r] w (VecPost 77 w bz oz n L (fun zs c => 0 ≤ c ∧ c < 18446744073709551616 ∧ val 18446744073709551616 zs + 18446744073709551616 ^ n * c = val 18446744073709551616 xs * y + r)) := by
  have HZ := Lib.hid hz
  have HNx := Lib.hid hnx
  have HSx := Lib.hid hsx
  have HDx := Lib.hid hdx
  have HALx := Lib.hid halx
  clear hz hnx hsx hdx halx
  go_enter Tryd.func142, Tryd.ntmps142
  go_wp2_with fail
  go_loopg [8, 19] n (VecRel 77 w bz oz n L (fun i pre c => 0 ≤ c ∧ c < 18446744073709551616 ∧ val 18446744073709551616 pre + 18446744073709551616 ^ i * c = val 18446744073709551616 (xs.take i) * y + r))
  case atStart => exact ⟨0, [], r, by omega, rfl, rfl, rfl, by rw [spl_nil]; exact HZ.out, Fr.refl _ _, rfl, DG.nil _, hr0, hr1, by simp [val_nil]⟩
  case round =>
    obtain ⟨i, pre, c, hi, rfl, rfl, rfl, hrow, hf, hl, hdg, hc0, hc1, hv⟩ := hrel
    by_cases h1 : i < n
    · have hlen : (spl L oz pre).length = L.length := spl_len (by omega)
      have hfz := hrow.frozen (oz + i)
      have cz := hrow.cell (i := oz + i) (by omega)
      obtain ⟨old, hold⟩ : ∃ old, old = (spl L oz pre).getD (oz + i) 0 := ⟨_, rfl⟩
      rw [← hold] at cz
      have HV := Lib.hid hv
      have HL := Lib.hid hl
      have HLEN := Lib.hid hlen
      have key : True := trivial
      have cx := HSx.out.spl HZ.out hrow hf (by omega) (j := i) (by rw [HNx.out]; exact h1) (by rcases HALx.out with h | h | h; exact .inl h; exact .inr (.inr (by omega)); exact .inr (.inl (by omega)))
      obtain ⟨x, hx⟩ : ∃ x, x = xs.getD i 0 := ⟨_, rfl⟩
      rw [← hx] at cx
      have hxd := HDx.out.getD (by omega) i
      rw [← hx] at hxd
      obtain ⟨hx0, hx1⟩ := hxd
      have Hx := Lib.hid hx
      clear hx
      clear hold hv hlen hl
      have CA := fun W => mulAdd_any x y c W hx0 hx1 hy0 hy1 hc0 hc1
      have hb := mulc_bound hx0 hx1 hy0 hy1 hc0 hc1
      obtain ⟨p, hp⟩ : ∃ p, p = x * y + c := ⟨_, rfl⟩
      rw [← hp] at hb
      simp only [← hp] at CA
      have HP := Lib.hid hp
      have HB := Lib.hid hb
      have HCA := Lib.hid CA
      clear hp hb CA
      go_wp2_with (go_at_call 141; refine (HCA.out _).mono ?_; rintro e w1 ⟨rfl, rfl⟩)
      go_roundg (n - (i + 1))
      case measure => omega
      case rel =>
        have e : oz + i = oz + pre.length := by rw [HL.out]
        refine ⟨i + 1, pre ++ [p % 18446744073709551616], _, by omega, rfl, by go_num, rfl, ?_, by repeat (first | exact hf | apply Fr.drewN | apply Fr.set _ (.inl (by simp))), by rw [List.length_append, HL.out]; simp, hdg.append (DG.cons (Int.emod_nonneg _ (by omega)) (Int.emod_lt_of_pos _ (by omega)) (DG.nil _)), by have := HB.out; omega, by have := HB.out; omega, ?_⟩
        · rw [← spl_set_end (by rw [HL.out]; omega), ← e]; exact hrow.set _ _
        · rw [val_snoc, HL.out]
          rw [val_take_succ', ← Hx.out]
          have h := HV.out
          have e := Int.emod_add_mul_ediv p 18446744073709551616
          have hp := HP.out
          rw [Int.pow_succ]
          grind
    · obtain rfl : i = n := by omega
      go_wp2_with fail
      go_ret
      have hv' := hv
      rw [List.take_of_length_le (by rw [HNx.out]; omega)] at hv'
      exact ⟨pre, c, rfl, hrow, hf, hl, hdg, hc0, hc1, hv'⟩
set_option maxRecDepth 100000 in
set_option maxHeartbeats 2000000 in
theorem addMulVVWW_any (bz oz cz bx ox cx by_ oy cy n : Nat) (L xs ys : List Int) (m a : Int) (w : World) (hz : Row .u64 77 w bz L) (hfit : oz + n ≤ L.length) (hnx : xs.length = n) (hsx : Src .u64 w bx ox xs) (hdx : DG 18446744073709551616 xs) (halx : NoTouch bz oz bx ox n)
    (hny : ys.length = n) (hsy : Src .u64 w by_ oy ys) (hdy : DG 18446744073709551616 ys) (haly : NoTouch bz oz by_ oy n) (hn9 : n ≤ 1000000000) (hm0 : 0 ≤ m) (hm1 : m < 18446744073709551616) (ha0 : 0 ≤ a) (ha1 : a < 18446744073709551616) :
    Calls Tryd.prog 125 #[.slice (some ⟨bz, oz, none⟩) n cz, .slice (some ⟨bx, ox, none⟩) n cx, .slice (some ⟨by_, oy, none⟩) n cy, .int .u64 m, .int .u64 a] w (VecPost 77 w bz oz n L (fun zs c => 0 ≤ c ∧ c < 18446744073709551616 ∧ val 18446744073709551616 zs + 18446744073709551616 ^ n * c = val 18446744073709551616 xs + val 18446744073709551616 ys * m + a)) := by
  have HZ := Lib.hid hz
  have HNx := Lib.hid hnx
  have HSx := Lib.hid hsx
  have HDx := Lib.hid hdx
  have HALx := Lib.hid halx
  clear hz hnx hsx hdx halx
  have HNy := Lib.hid hny
  have HSy := Lib.hid hsy
  have HDy := Lib.hid hdy
  have HALy := Lib.hid haly
  clear hny hsy hdy haly
  go_enter Tryd.func125, Tryd.ntmps125
  go_wp2_with fail
  go_loopg [10, 32] n (VecRel 77 w bz oz n L (fun i pre c => 0 ≤ c ∧ c < 18446744073709551616 ∧ val 18446744073709551616 pre + 18446744073709551616 ^ i * c = val 18446744073709551616 (xs.take i) + val 18446744073709551616 (ys.take i) * m + a))
  case atStart => exact ⟨0, [], a, by omega, rfl, rfl, rfl, by rw [spl_nil]; exact HZ.out, Fr.refl _ _, rfl, DG.nil _, ha0, ha1, by simp [val_nil]⟩
  case round =>
    obtain ⟨i, pre, c, hi, rfl, rfl, rfl, hrow, hf, hl, hdg, hc0, hc1, hv⟩ := hrel
    by_cases h1 : i < n
    · have hlen : (spl L oz pre).length = L.length := spl_len (by omega)
      have hfz := hrow.frozen (oz + i)
      have cz := hrow.cell (i := oz + i) (by omega)
      obtain ⟨old, hold⟩ : ∃ old, old = (spl L oz pre).getD (oz + i) 0 := ⟨_, rfl⟩
      rw [← hold] at cz
      have HV := Lib.hid hv
      have HL := Lib.hid hl
      have HLEN := Lib.hid hlen
      have key : True := trivial
      have cx := HSx.out.spl HZ.out hrow hf (by omega) (j := i) (by rw [HNx.out]; exact h1) (by rcases HALx.out with h | h | h; exact .inl h; exact .inr (.inr (by omega)); exact .inr (.inl (by omega)))
      obtain ⟨x, hx⟩ : ∃ x, x = xs.getD i 0 := ⟨_, rfl⟩
      rw [← hx] at cx
      have hxd := HDx.out.getD (by omega) i
      rw [← hx] at hxd
      obtain ⟨hx0, hx1⟩ := hxd
      have Hx := Lib.hid hx
      clear hx
      have cy := HSy.out.spl HZ.out hrow hf (by omega) (j := i) (by rw [HNy.out]; exact h1) (by rcases HALy.out with h | h | h; exact .inl h; exact .inr (.inr (by omega)); exact .inr (.inl (by omega)))
      obtain ⟨y, hy⟩ : ∃ y, y = ys.getD i 0 := ⟨_, rfl⟩
      rw [← hy] at cy
      have hyd := HDy.out.getD (by omega) i
      rw [← hy] at hyd
      obtain ⟨hy0, hy1⟩ := hyd
      have Hy := Lib.hid hy
      clear hy
      clear hold hv hlen hl
      have CA := fun W => mulAdd_any y m x W hy0 hy1 hm0 hm1 hx0 hx1
      have hb := mulc_bound hy0 hy1 hm0 hm1 hx0 hx1
      obtain ⟨p, hp⟩ : ∃ p, p = y * m + x := ⟨_, rfl⟩
      rw [← hp] at hb
      simp only [← hp] at CA
      obtain ⟨ph, hph⟩ : ∃ ph, ph = p / 18446744073709551616 := ⟨_, rfl⟩
      obtain ⟨pl, hpl⟩ : ∃ pl, pl = p % 18446744073709551616 := ⟨_, rfl⟩
      simp only [← hph, ← hpl] at CA
      have hpb : 0 ≤ pl ∧ pl < 18446744073709551616 ∧ 0 ≤ ph ∧ ph ≤ 18446744073709551615 ∧ p = pl + 18446744073709551616 * ph := by omega
      obtain ⟨hpl0, hpl1, hph0, hph1, hpe⟩ := hpb
      have CB := fun W => badd_any pl c 0 W hpl0 hpl1 hc0 hc1 (by omega) (by omega)
      have hs : IntKind.u64.wrap ((pl + c + 0) / 18446744073709551616 + ph) = (pl + c + 0) / 18446744073709551616 + ph := IntWalk.u64_in _ (by omega)
      obtain ⟨sh, hsh⟩ : ∃ sh, sh = (pl + c + 0) / 18446744073709551616 := ⟨_, rfl⟩
      obtain ⟨sl, hsl⟩ : ∃ sl, sl = (pl + c + 0) % 18446744073709551616 := ⟨_, rfl⟩
      simp only [← hsh, ← hsl] at CB
      rw [← hsh] at hs
      have hsb : 0 ≤ sl ∧ sl < 18446744073709551616 ∧ 0 ≤ sh ∧ sh + ph < 18446744073709551616 ∧ pl + c = sl + 18446744073709551616 * sh := by omega
      obtain ⟨hsl0, hsl1, hsh0, hsh1, hse⟩ := hsb
      have HPE := Lib.hid hpe
      have HSE := Lib.hid hse
      have HP := Lib.hid hp
      have HCB := Lib.hid CB
      clear hp hb hph hpl hpe hsh hsl hse CB
      go_wp2_with fail
      go_quiet ((go_at_call 141; exact q_left (CA _)))
      clear CA
      go_wp2_with (go_at_call 131; refine (HCB.out _).mono ?_; rintro e w1 ⟨rfl, rfl⟩)
      go_roundg (n - (i + 1))
      case measure => omega
      case rel =>
        have e : oz + i = oz + pre.length := by rw [HL.out]
        refine ⟨i + 1, pre ++ [sl], _, by omega, rfl, by go_num, rfl, ?_, by repeat (first | exact hf | apply Fr.drewN | apply Fr.set _ (.inl (by simp))), by rw [List.length_append, HL.out]; simp, hdg.append (DG.cons hsl0 hsl1 (DG.nil _)), by omega, by omega, ?_⟩
        · rw [← spl_set_end (by rw [HL.out]; omega), ← e]; exact (hrow.drewN _).set _ _
        · rw [val_snoc, HL.out]
          rw [val_take_succ', val_take_succ', ← Hx.out, ← Hy.out]
          have h := HV.out
          have e1 := HPE.out
          have e2 := HSE.out
          have hp := HP.out
          rw [Int.pow_succ]
          grind
    · obtain rfl : i = n := by omega
      go_wp2_with fail
      go_ret
      have hv' := hv
      have e1 : xs.take i = xs := List.take_of_length_le (by rw [HNx.out]; omega)
      have e2 : ys.take i = ys := List.take_of_length_le (by rw [HNy.out]; omega)
      rw [e1, e2] at hv'
      exact ⟨pre, c, rfl, hrow, hf, hl, hdg, hc0, hc1, hv'⟩
end Go.Proofs.YtknokndpeneogaaDoor
