/-
  spec.Of: words as a natural number of the reference. Conditions: the words can be read; at most 1,000,000.
-/
import Derived.Test.YtknokndpeneogaaDoorOps
import Derived.Test.YtknokndpeneogaaDoorTrim
import Derived.WalkSpells
import Derived.Deep.LoopGhost
import Derived.KernelRfl
set_option linter.unusedSimpArgs false
set_option linter.unusedVariables false
namespace Go.Proofs.YtknokndpeneogaaDoor
open Go.Big Go.RowKit

abbrev W64 : Int := 18446744073709551616
theorem ty_nat : IntTy Tryd.prog .i64 26 3 8 := ⟨Tryd.underlying26, by kernel_rfl⟩
theorem ty_uints : IntTy Tryd.prog .u64 22 28 8 := ⟨Tryd.underlying22, by kernel_rfl⟩

theorem and16 (x : Int) (h0 : 0 ≤ x) (h1 : x < 18446744073709551616) : wrap64 (bits .and .u64 x 65535) = x % 65536 := by
  rw [u64_and x 65535 h0 h1 (by omega) (by omega)]
  rw [show (65535 : Int).toNat = 2 ^ 16 - 1 from rfl, Nat.and_two_pow_sub_one_eq_mod]
  rw [IntWalk.wrap64_in _ (by omega)]
  omega
theorem and16_1 (x : Int) (h0 : 0 ≤ x) (h1 : x < 18446744073709551616) : wrap64 (bits .and .u64 (x / 65536) 65535) = x / 65536 % 65536 := and16 _ (by omega) (by omega)
theorem and16_2 (x : Int) (h0 : 0 ≤ x) (h1 : x < 18446744073709551616) : wrap64 (bits .and .u64 (x / 4294967296) 65535) = x / 4294967296 % 65536 := and16 _ (by omega) (by omega)
theorem and16_3 (x : Int) (h0 : 0 ≤ x) (h1 : x < 18446744073709551616) : wrap64 (bits .and .u64 (x / 281474976710656) 65535) = x / 281474976710656 % 65536 := and16 _ (by omega) (by omega)

/-- what comes back is the number n; nothing that was there has turned -/
def RetSN (n : Int) (w : World) (e : Ending) (w' : World) : Prop := ∃ v, e = .returned v ∧ SN w' v n ∧ Fr [] w w'

/-- trim, of what a call owns -/
theorem trim_own {w0 : World} {v : Value} {ds : List Int} {w : World} (h : Own .i64 3 w0 w v ds) (hd : DG 65536 ds) (hf : Fr [] w0 w) :
    Calls Tryd.prog 46 #[v] w (RetSN (val 65536 ds) w0) := by
  obtain ⟨A, cap, rfl, h1, h2, h3⟩ := h.sl
  refine (trim_any A cap ds w h1 h2 (fun hp => ?_)).mono ?_
  · obtain ⟨b, off, e, _, hs⟩ := h3 hp
    exact ⟨b, off, e, hs⟩
  · rintro e w' ⟨i, ⟨hi, hz, hzs⟩, rfl, rfl⟩
    refine ⟨_, rfl, ⟨ds.take i, ⟨A, cap, by rw [List.length_take, Nat.min_eq_left hi], ?_, h2, fun hp => ?_⟩, hd.take i, nz_take hi hz, val_cut 65536 hi hzs⟩, hf⟩
    · rw [List.length_take]; omega
    · rw [List.length_take] at hp
      obtain ⟨b, off, e, hb, hs⟩ := h3 (by omega)
      exact ⟨b, off, e, hb, hs.take i⟩

/-- trim, of a whole row -/
theorem trim_row {w0 w : World} {b n : Nat} {L : List Int} (h : Row .i64 3 w b L) (hd : DG 65536 L) (hn : L.length = n) (hm : n ≤ maxLen) (hf : Fr [] w0 w) (hb : w0.heap.size ≤ b) :
    Calls Tryd.prog 46 #[.slice (some ⟨b, 0, none⟩) n n] w (RetSN (val 65536 L) w0) := by
  subst hn
  have hs : Src .i64 w b 0 L := fun j hj => by rw [Nat.zero_add]; exact h.cell hj
  refine (trim_any (some ⟨b, 0, none⟩) L.length L w (Nat.le_refl _) hm (fun _ => ⟨b, 0, rfl, hs⟩)).mono ?_
  rintro e w' ⟨i, ⟨hi, hz, hzs⟩, rfl, rfl⟩
  refine ⟨_, rfl, ⟨L.take i, ⟨_, L.length, by rw [List.length_take, Nat.min_eq_left hi], ?_, hm, fun hp => ⟨b, 0, rfl, h.lt, hs.take i⟩⟩, hd.take i, nz_take hi hz, val_cut 65536 hi hzs⟩, hf⟩
  rw [List.length_take]; omega

set_option maxHeartbeats 1000000 in
theorem of_any (v : Value) (xs : List Int) (w : World) (hx : Sl .u64 w v xs) (hd : DG 18446744073709551616 xs) (hl : xs.length ≤ 1000000) :
    Calls Tryd.prog 19 #[v] w (RetSN (val 18446744073709551616 xs) w) := by
  obtain ⟨A, cap, rfl, hlc, hm, hsrc⟩ := hx
  unfold maxLen at hm
  have HD := Lib.hid hd
  clear hd
  go_enter Tryd.func19, Tryd.ntmps19
  go_wp2_with fail
  go_loopg [3, 10] xs.length (fun g out iv wr => ∃ i : Nat, i ≤ xs.length ∧ g = xs.length - i ∧ iv = .int .i64 i ∧ Own .i64 3 w wr out (quads (xs.take i)) ∧ Fr [] w wr)
  case atStart => exact ⟨0, by omega, rfl, rfl, Own.lit0 _ _ _ _ (Nat.le_refl _), (Fr.refl _ _).alloc _⟩
  case round =>
    obtain ⟨i, hi, rfl, rfl, hown, hf⟩ := hrel
    by_cases hlt : i < xs.length
    · obtain ⟨b, off, rfl, hb, hs⟩ := hsrc (by omega)
      have hc := (hs.fr hf (by simp)) i hlt
      obtain ⟨x, hx⟩ : ∃ x, x = xs.getD i 0 := ⟨_, rfl⟩
      rw [← hx] at hc
      have hxd := HD.out.getD (by omega) i
      rw [← hx] at hxd
      obtain ⟨hx0, hx1⟩ := hxd
      have HX := Lib.hid hx
      clear hx hs hsrc
      go_wp2_with fail
      clear hc
      obtain ⟨wo, rfl⟩ : ∃ wo : World, wo = wr := ⟨_, rfl⟩
      go_loopg [3, 6] 4 (fun g out jv wr => ∃ j : Nat, j ≤ 4 ∧ g = 4 - j ∧ jv = .int .i64 j ∧ Own .i64 3 w wr out (quads (xs.take i) ++ (quad x).take j) ∧ Fr [] w wr)
      case atStart => exact ⟨0, by omega, rfl, rfl, by simpa using hown, hf⟩
      case round =>
        clear hown hf
        obtain ⟨j, hj, rfl, rfl, hown, hf⟩ := hrel
        have hlen : (quads (xs.take i) ++ (quad x).take j).length < 1099511627776 := by
          rw [List.length_append, quads_len, List.length_take, List.length_take]; simp [quad]; omega
        have HL := Lib.hid hlen
        clear hlen
        rcases (by omega : j = 0 ∨ j = 1 ∨ j = 2 ∨ j = 3 ∨ j = 4) with rfl | rfl | rfl | rfl | rfl
        · go_wp2_with (at_builtin; refine wp_app1 rfl (.tmp 18) (.tmp 25) _ rfl .i64 _ 8 ty_nat (by omega) w [] _ _ _ rfl hown hf rfl HL.out ?_; intro v' w' hown' hf')
          go_roundg 3
          case measure => omega
          case rel => rw [and16 x hx0 hx1] at hown'; exact ⟨1, by omega, rfl, rfl, by simpa [quad] using hown', hf'⟩
        · go_wp2_with (at_builtin; refine wp_app1 rfl (.tmp 18) (.tmp 25) _ rfl .i64 _ 8 ty_nat (by omega) w [] _ _ _ rfl hown hf rfl HL.out ?_; intro v' w' hown' hf')
          go_roundg 2
          case measure => omega
          case rel => rw [and16_1 x hx0 hx1] at hown'; exact ⟨2, by omega, rfl, rfl, by simpa [quad] using hown', hf'⟩
        · go_wp2_with (at_builtin; refine wp_app1 rfl (.tmp 18) (.tmp 25) _ rfl .i64 _ 8 ty_nat (by omega) w [] _ _ _ rfl hown hf rfl HL.out ?_; intro v' w' hown' hf')
          go_roundg 1
          case measure => omega
          case rel => rw [and16_2 x hx0 hx1] at hown'; exact ⟨3, by omega, rfl, rfl, by simpa [quad] using hown', hf'⟩
        · go_wp2_with (at_builtin; refine wp_app1 rfl (.tmp 18) (.tmp 25) _ rfl .i64 _ 8 ty_nat (by omega) w [] _ _ _ rfl hown hf rfl HL.out ?_; intro v' w' hown' hf')
          go_roundg 0
          case measure => omega
          case rel => rw [and16_3 x hx0 hx1] at hown'; exact ⟨4, by omega, rfl, rfl, by simpa [quad] using hown', hf'⟩
        · go_wp2_with fail
          go_roundg (xs.length - (i + 1))
          case measure => omega
          case rel =>
            refine ⟨i + 1, by omega, rfl, by go_num, ?_, hf⟩
            rw [List.take_succ_eq_append_getElem hlt, quads_append]
            have e : quads [xs[i]] = quad x := by rw [HX.out, getD_in hlt]; simp [quads]
            rw [e]
            simpa [quad] using hown
    · obtain rfl : i = xs.length := by omega
      rw [List.take_length] at hown
      go_wp2_with (go_at_call 46; refine (trim_own hown (quads_dg _) hf).mono ?_; rintro e w' ⟨v', rfl, hsn, hf'⟩)
      go_ret
      rw [quads_val HD.out] at hsn
      exact ⟨v', rfl, hsn, hf'⟩
end Go.Proofs.YtknokndpeneogaaDoor
