/-
  Bytes as numbers: beUint32, beUint64, slices.Clone of bytes, nat.setBytes at a nil receiver. Conditions: what is read can be read.
-/
import Derived.Test.YtjapebgihnahjaaShiftN
import Derived.Laws.BitsAllLaws
set_option linter.unusedSimpArgs false
set_option linter.unusedVariables false
namespace Go.Big
open Go.RowKit
theorem or_lo32 (k : Nat) {a b : Int} (ha0 : 0 ≤ a) (ha : a < 2 ^ k) (hb : 0 ≤ b) (h : b * 2 ^ k < 4294967296) (hk : k < 32) : bits .or .u32 a (b * 2 ^ k) = a + b * 2 ^ k := by
  obtain ⟨m, rfl⟩ := Int.eq_ofNat_of_zero_le ha0
  obtain ⟨n, rfl⟩ := Int.eq_ofNat_of_zero_le hb
  have e : ((n : Int) * 2 ^ k) = ((n * 2 ^ k : Nat) : Int) := by simp
  have e2 : (2 : Int) ^ k = ((2 ^ k : Nat) : Int) := by simp
  rw [e] at h ⊢
  rw [e2] at ha
  have hm : m < 2 ^ k := by omega
  have hp : 2 ^ k < 2 ^ 32 := Nat.pow_lt_pow_right (by omega) hk
  rw [u32_or_nat m _ (by omega) (by omega), ← Int.natCast_add]
  congr 1
  rw [Nat.mul_comm, Nat.or_comm, Nat.add_comm, Nat.two_pow_add_eq_or_of_lt hm]
theorem or_lo64 (k : Nat) {a b : Int} (ha0 : 0 ≤ a) (ha : a < 2 ^ k) (hb : 0 ≤ b) (h : b * 2 ^ k < 18446744073709551616) (hk : k < 64) : bits .or .u64 a (b * 2 ^ k) = a + b * 2 ^ k := by
  obtain ⟨m, rfl⟩ := Int.eq_ofNat_of_zero_le ha0
  obtain ⟨n, rfl⟩ := Int.eq_ofNat_of_zero_le hb
  have e : ((n : Int) * 2 ^ k) = ((n * 2 ^ k : Nat) : Int) := by simp
  have e2 : (2 : Int) ^ k = ((2 ^ k : Nat) : Int) := by simp
  rw [e] at h ⊢
  rw [e2] at ha
  have hm : m < 2 ^ k := by omega
  have hp : 2 ^ k < 2 ^ 64 := Nat.pow_lt_pow_right (by omega) hk
  rw [u64_or_nat m _ (by omega) (by omega), ← Int.natCast_add]
  congr 1
  rw [Nat.mul_comm, Nat.or_comm, Nat.add_comm, Nat.two_pow_add_eq_or_of_lt hm]
theorem or_hi64 (k : Nat) {a b : Int} (ha0 : 0 ≤ a) (ha : a < 2 ^ k) (hb : 0 ≤ b) (h : b * 2 ^ k < 18446744073709551616) (hk : k < 64) : bits .or .u64 (b * 2 ^ k) a = b * 2 ^ k + a := by
  obtain ⟨m, rfl⟩ := Int.eq_ofNat_of_zero_le ha0
  obtain ⟨n, rfl⟩ := Int.eq_ofNat_of_zero_le hb
  have e : ((n : Int) * 2 ^ k) = ((n * 2 ^ k : Nat) : Int) := by simp
  have e2 : (2 : Int) ^ k = ((2 ^ k : Nat) : Int) := by simp
  rw [e] at h ⊢
  rw [e2] at ha
  have hm : m < 2 ^ k := by omega
  have hp : 2 ^ k < 2 ^ 64 := Nat.pow_lt_pow_right (by omega) hk
  rw [u64_or_nat _ m (by omega) (by omega), ← Int.natCast_add]
  congr 1
  rw [Nat.mul_comm, Nat.two_pow_add_eq_or_of_lt hm]
theorem rev_get {bs : List Int} {j : Nat} (h : j < bs.length) : bs.reverse.getD j 0 = bs.getD (bs.length - 1 - j) 0 := by
  rw [getD_in (by simpa using h), getD_in (by omega), List.getElem_reverse]
theorem rev_dg {B : Int} {bs : List Int} (h : DG B bs) : DG B bs.reverse := fun d hd => h d (by simpa using hd)
/-- four bytes, the highest first -/
def be4 (bs : List Int) (i : Nat) : Int := bs.getD i 0 * 16777216 + bs.getD (i + 1) 0 * 65536 + bs.getD (i + 2) 0 * 256 + bs.getD (i + 3) 0
theorem be4_bd {bs : List Int} (h : DG 256 bs) (i : Nat) : 0 ≤ be4 bs i ∧ be4 bs i < 4294967296 := by
  have h0 := h.getD (by omega) i
  have h1 := h.getD (by omega) (i + 1)
  have h2 := h.getD (by omega) (i + 2)
  have h3 := h.getD (by omega) (i + 3)
  unfold be4
  omega
/-- a word more -/
theorem be8_val {bs : List Int} {i k : Nat} (h : i + 8 + 8 * k = bs.length) : val 256 (bs.reverse.take (8 * (k + 1))) = val 256 (bs.reverse.take (8 * k)) + 18446744073709551616 ^ k * (be4 bs i * 4294967296 + be4 bs (i + 4)) := by
  have g : ∀ j, j < 8 → bs.reverse.getD (8 * k + j) 0 = bs.getD (i + 7 - j) 0 := by
    intro j hj
    rw [rev_get (by omega)]
    congr 1
    omega
  have e : (18446744073709551616 : Int) ^ k = 256 ^ (8 * k) := by rw [Int.pow_mul]; rfl
  have g0 := g 0 (by omega)
  have g1 := g 1 (by omega)
  have g2 := g 2 (by omega)
  have g3 := g 3 (by omega)
  have g4 := g 4 (by omega)
  have g5 := g 5 (by omega)
  have g6 := g 6 (by omega)
  have g7 := g 7 (by omega)
  simp only [Nat.add_zero, Nat.sub_zero, show i + 7 - 1 = i + 6 by omega, show i + 7 - 2 = i + 5 by omega, show i + 7 - 3 = i + 4 by omega, show i + 7 - 4 = i + 3 by omega, show i + 7 - 5 = i + 2 by omega, show i + 7 - 6 = i + 1 by omega, show i + 7 - 7 = i by omega] at g0 g1 g2 g3 g4 g5 g6 g7
  rw [show 8 * (k + 1) = 8 * k + 7 + 1 by omega, val_take_succ', g7, show 8 * k + 7 = 8 * k + 6 + 1 by omega, val_take_succ', g6, show 8 * k + 6 = 8 * k + 5 + 1 by omega, val_take_succ', g5, show 8 * k + 5 = 8 * k + 4 + 1 by omega, val_take_succ', g4, show 8 * k + 4 = 8 * k + 3 + 1 by omega, val_take_succ', g3, show 8 * k + 3 = 8 * k + 2 + 1 by omega, val_take_succ', g2, show 8 * k + 2 = 8 * k + 1 + 1 by omega, val_take_succ', g1, val_take_succ', g0, e]
  unfold be4
  simp only [show i + 4 + 1 = i + 5 by omega, show i + 4 + 2 = i + 6 by omega, show i + 4 + 3 = i + 7 by omega]
  generalize bs.getD i 0 = a0
  generalize bs.getD (i + 1) 0 = a1
  generalize bs.getD (i + 2) 0 = a2
  generalize bs.getD (i + 3) 0 = a3
  generalize bs.getD (i + 4) 0 = a4
  generalize bs.getD (i + 5) 0 = a5
  generalize bs.getD (i + 6) 0 = a6
  generalize bs.getD (i + 7) 0 = a7
  simp only [Int.pow_succ]
  generalize (256 : Int) ^ (8 * k) = P
  generalize val 256 (List.take (8 * k) bs.reverse) = V
  grind
end Go.Big
namespace Go.Proofs.Ytjapebgihnahjaa
open Go.Big Go.RowKit
theorem ty_bytes : IntTy Try.prog .u8 35 5 1 := ⟨Try.underlying35, by kernel_rfl⟩
set_option maxRecDepth 100000 in
theorem clone8_any (v : Value) (xs : List Int) (w : World) (hx : Sl .u8 w v xs) (hl : xs.length ≤ 1000000) : Calls Try.prog 72 #[v] w fun e w' => ∃ v', e = .returned v' ∧ Sl .u8 w' v' xs ∧ Fr [] w w' := by
  obtain ⟨A, cap, rfl, hlc, hm, hsrc⟩ := hx
  have hnil := fun w => Lib.run_eql_slice_nil (P := Try.prog) w 35 5 A xs.length cap 0 0 Try.underlying35
  rcases A with _ | ad
  · have hxs : xs = [] := by
      rcases Nat.eq_zero_or_pos xs.length with h0 | h0
      · exact List.eq_nil_of_length_eq_zero h0
      · obtain ⟨b, off, e, _⟩ := hsrc h0; cases e
    subst hxs
    clear hsrc hlc hl
    simp only [Option.isNone_none, List.length_nil] at hnil
    simp only [List.length_nil]
    go_enter Try.func72, Try.ntmps72
    go_wp2
    go_ret
    exact ⟨_, rfl, Sl.nil _ _, Fr.refl _ _⟩
  · have own0 : Own .u8 5 w (w.alloc (.cells #[] 5)) (.slice (some ⟨w.heap.size, 0, none⟩) 0 0) [] := Own.lit0 _ _ _ _ (Nat.le_refl _)
    have fr0 : Fr [] w (w.alloc (.cells #[] 5)) := (Fr.refl _ _).alloc _
    have sl0 : Sl .u8 (w.alloc (.cells #[] 5)) (.slice (some ad) xs.length cap) xs := Sl.fr0 ⟨_, cap, rfl, hlc, hm, hsrc⟩ fr0
    simp only [Option.isNone_some] at hnil
    clear hsrc hlc
    go_enter Try.func72, Try.ntmps72
    go_wp2_with (at_builtin; refine wp_apps rfl (.tmp 5) (.tmp 6) _ rfl .u8 _ 1 ty_bytes (by omega) w [] _ _ _ _ rfl own0 fr0 rfl sl0 (by simp; omega) ?_; intro v1 w1 own1 fr1; clear sl0 own0 fr0)
    go_ret
    exact ⟨_, rfl, by simpa using own1.sl, fr1⟩
set_option maxRecDepth 100000 in
theorem be32_any (b off n c : Nat) (bs : List Int) (i : Nat) (w : World) (hs : Src .u8 w b off bs) (hd : DG 256 bs) (hi : i + 4 ≤ bs.length) (hn : 4 ≤ n) (hn9 : n ≤ 1000000) :
    Calls Try.prog 144 #[.slice (some ⟨b, off + i, none⟩) n c] w fun e w' => e = .returned (.int .u32 (be4 bs i)) ∧ ∃ m, w' = w.drewN m := by
  have c0 := hs i (by omega)
  have c1 := hs (i + 1) (by omega)
  have c2 := hs (i + 2) (by omega)
  have c3 := hs (i + 3) (by omega)
  simp only [← Nat.add_assoc] at c0 c1 c2 c3
  obtain ⟨x0, hx0⟩ : ∃ x, x = bs.getD i 0 := ⟨_, rfl⟩
  obtain ⟨x1, hx1⟩ : ∃ x, x = bs.getD (i + 1) 0 := ⟨_, rfl⟩
  obtain ⟨x2, hx2⟩ : ∃ x, x = bs.getD (i + 2) 0 := ⟨_, rfl⟩
  obtain ⟨x3, hx3⟩ : ∃ x, x = bs.getD (i + 3) 0 := ⟨_, rfl⟩
  have b0 := hd.getD (by omega) i
  have b1 := hd.getD (by omega) (i + 1)
  have b2 := hd.getD (by omega) (i + 2)
  have b3 := hd.getD (by omega) (i + 3)
  have hr : be4 bs i = x3 + x2 * 256 + x1 * 65536 + x0 * 16777216 := by rw [hx0, hx1, hx2, hx3]; unfold be4; omega
  rw [← hx0] at c0 b0
  rw [← hx1] at c1 b1
  rw [← hx2] at c2 b2
  rw [← hx3] at c3 b3
  have HR := Lib.hid hr
  obtain ⟨b0, b0'⟩ := b0
  obtain ⟨b1, b1'⟩ := b1
  obtain ⟨b2, b2'⟩ := b2
  obtain ⟨b3, b3'⟩ := b3
  clear hr hx0 hx1 hx2 hx3 hs hd
  have o1 : bits .or .u32 x3 (x2 * 256) = x3 + x2 * 256 := or_lo32 8 (by omega) (by omega) (by omega) (by omega) (by omega)
  have o2 : bits .or .u32 (x3 + x2 * 256) (x1 * 65536) = x3 + x2 * 256 + x1 * 65536 := or_lo32 16 (by omega) (by omega) (by omega) (by omega) (by omega)
  have o3 : bits .or .u32 (x3 + x2 * 256 + x1 * 65536) (x0 * 16777216) = x3 + x2 * 256 + x1 * 65536 + x0 * 16777216 := or_lo32 24 (by omega) (by omega) (by omega) (by omega) (by omega)
  have w1 : IntKind.u32.wrap (x2 * 256) = x2 * 256 := by rw [IntKind.wrap_u32']; omega
  have w2 : IntKind.u32.wrap (x1 * 65536) = x1 * 65536 := by rw [IntKind.wrap_u32']; omega
  have w3 : IntKind.u32.wrap (x0 * 16777216) = x0 * 16777216 := by rw [IntKind.wrap_u32']; omega
  have v0 : IntKind.u32.wrap x0 = x0 := by rw [IntKind.wrap_u32']; omega
  have v1 : IntKind.u32.wrap x1 = x1 := by rw [IntKind.wrap_u32']; omega
  have v2 : IntKind.u32.wrap x2 = x2 := by rw [IntKind.wrap_u32']; omega
  have v3 : IntKind.u32.wrap x3 = x3 := by rw [IntKind.wrap_u32']; omega
  go_enter Try.func144, Try.ntmps144
  go_wp2_with fail
  go_quiet (fail)
  go_wp2_with fail
  go_ret
  exact ⟨by rw [HR.out]; rfl, _, rfl⟩
end Go.Proofs.Ytjapebgihnahjaa
