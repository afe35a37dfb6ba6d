/-
  nat.bytes into a buffer of eight bytes a word, impl.Bytes and the law FnBytes. Conditions: what is read can be read.
-/
import Derived.Test.YtjapebgihnahjaaBytesU
set_option linter.unusedSimpArgs false
set_option linter.unusedVariables false
namespace Go.Big
theorem rep_set (q : Nat) (y : Int) (L : List Int) : (List.replicate (q + 1) 0 ++ L).set q y = List.replicate q 0 ++ (y :: L) := by
  rw [List.replicate_succ', List.append_assoc, List.set_append_right _ _ (by simp)]
  simp
theorem byte_step {V d y d2 X : Int} {cs : List Int} {m : Nat} (hl : cs.length = m) (hy : y = d % 256) (hd : d2 = d / 256) (h : val 256 cs + 256 ^ m * d = V) : val 256 (cs ++ [y]) + 256 ^ (m + 1) * d2 = V := by
  rw [val_snoc, hl, Int.pow_succ, ← h]
  have e := Int.emod_add_mul_ediv d 256
  rw [← hy, ← hd] at e
  rw [← e]
  grind
theorem rev_cut {bs : List Int} {i : Nat} (hi : i ≤ bs.length) (h : ∀ j, j < i → bs.getD j 0 = 0) : val 256 (bs.drop i).reverse = val 256 bs.reverse := by
  rw [List.reverse_drop]
  refine val_cut 256 (by simp) ?_
  intro j h1 h2
  rw [List.length_reverse] at h2
  rw [rev_get h2]
  exact h _ (by omega)
end Go.Big
namespace Go.Proofs.Ytjapebgihnahjaa
open Go.Big Go.RowKit
def ByRel (ws : List Int) (b n : Nat) (w1 : World) (g : Nat) (iv jv : Value) (wr : World) : Prop :=
  ∃ (k p : Nat) (cs : List Int), k ≤ ws.length ∧ g = ws.length - k ∧ p + 8 * k = n ∧ iv = .int .i64 p ∧ jv = .int .i64 k ∧ Row .u8 5 wr b (List.replicate p 0 ++ cs.reverse) ∧ Fr [b] w1 wr ∧ cs.length = 8 * k ∧ DG 256 cs ∧ val 256 cs = val 18446744073709551616 (ws.take k)
def ByIn (V : Int) (b p0 m0 : Nat) (w1 : World) (g : Nat) (iv dv jv : Value) (wr : World) : Prop :=
  ∃ (j p : Nat) (d : Int) (cs : List Int), j ≤ 8 ∧ g = 8 - j ∧ p + j = p0 ∧ iv = .int .i64 p ∧ dv = .int .u64 d ∧ jv = .int .i64 j ∧ 0 ≤ d ∧ d < 256 ^ (8 - j) ∧ Row .u8 5 wr b (List.replicate p 0 ++ cs.reverse) ∧ Fr [b] w1 wr ∧ cs.length = m0 + j ∧ DG 256 cs ∧ val 256 cs + 256 ^ (m0 + j) * d = V
def ByOut (ls : List Int) (w1 : World) (g : Nat) (iv : Value) (wr : World) : Prop :=
  ∃ i : Nat, i ≤ ls.length ∧ g = ls.length - i ∧ iv = .int .i64 i ∧ (∀ j, j < i → ls.getD j 0 = 0) ∧ ∃ m, wr = w1.drewN m
set_option maxRecDepth 100000 in
set_option maxHeartbeats 1000000 in
theorem bytes_any (v : Value) (ws : List Int) (b N : Nat) (w0 w : World) (hx : Sl .u64 w0 v ws) (hd : DG 18446744073709551616 ws) (hN : N = ws.length) (hl : N ≤ 1000000) (f : Fr [] w0 w) (hb : w0.heap.size ≤ b) (row : Row .u8 5 w b (List.replicate (N * 8) 0)) :
    Calls Try.prog 95 #[v, .slice (some ⟨b, 0, none⟩) (N * 8) (N * 8)] w fun e w' => ∃ (i : Nat) (ls : List Int), e = .returned (.int .i64 i) ∧ Row .u8 5 w' b ls ∧ ls.length = N * 8 ∧ DG 256 ls ∧ i ≤ N * 8 ∧ (i < N * 8 → ls.getD i 0 ≠ 0) ∧ val 256 (ls.drop i).reverse = val 18446744073709551616 ws ∧ Fr [b] w w' := by
  obtain ⟨A, cap, rfl, hlc, hm, hsrc⟩ := hx
  unfold maxLen at hm
  have HN := Lib.hid hN
  have HD := Lib.hid hd
  rw [← hN] at hlc ⊢
  have hsrc : 0 < N → ∃ b off, A = some ⟨b, off, none⟩ ∧ b < w0.heap.size ∧ Src .u64 w0 b off ws := by rw [hN]; exact hsrc
  have HS := Lib.hid hsrc
  have HROW := Lib.hid row
  clear hN hd hsrc row
  obtain ⟨n, hn⟩ : ∃ n, n = N * 8 := ⟨_, rfl⟩
  rw [← hn] at HROW ⊢
  have HNE := Lib.hid hn
  have hn1 : n ≤ 8 * N := by omega
  have hn2 : 8 * N ≤ n := by omega
  clear hn
  go_enter Try.func95, Try.ntmps95
  go_wp2_with fail
  go_loopg [4, 12] N (ByRel ws b n w)
  case atStart => exact ⟨0, n, [], by omega, by rw [← HN.out]; rfl, by omega, rfl, rfl, by simpa using HROW.out, Fr.refl _ _, rfl, DG.nil _, by simp [val_nil]⟩
  case round =>
    obtain ⟨k, p, cs, hk, hg, hpk, rfl, rfl, hrow, hf, hcl, hcd, hcv⟩ := hrel
    rw [← HN.out] at hk hg
    subst hg
    have HR := Lib.hid hrow
    have HF := Lib.hid hf
    have HCL := Lib.hid hcl
    have HCD := Lib.hid hcd
    have HCV := Lib.hid hcv
    clear hrow hf hcl hcd hcv
    by_cases h1 : k < N
    · obtain ⟨zb, o, rfl, hzb, sa⟩ := HS.out (by omega)
      have cA := sa.fr ((f.mono (S' := [b]) (by simp)).trans HF.out (fun x hx _ => hx)) (by simp; omega) k (by rw [← HN.out]; exact h1)
      obtain ⟨x, hx⟩ : ∃ x, x = ws.getD k 0 := ⟨_, rfl⟩
      obtain ⟨hx0, hx1⟩ := HD.out.getD (by omega) k
      rw [← hx] at hx0 hx1 cA
      have HX := Lib.hid hx
      clear hx sa
      go_wp2_with fail
      go_loopg [4, 6, 7] 8 (ByIn (val 18446744073709551616 (ws.take (k + 1))) b p (8 * k) wr)
      case atStart =>
        refine ⟨0, p, x, cs, by omega, rfl, by omega, rfl, rfl, rfl, hx0, by rw [show (256 : Int) ^ (8 - 0) = 18446744073709551616 by rfl]; exact hx1, HR.out, Fr.refl _ _, HCL.out, HCD.out, ?_⟩
        rw [val_take_succ', HCV.out, HX.out]
        have e : (256 : Int) ^ (8 * k + 0) = 18446744073709551616 ^ k := by rw [Nat.add_zero, Int.pow_mul]; rfl
        rw [e]
      case round =>
        clear cA hx0 hx1 HX HR HCL HCD HCV
        rename_i wq _ _ _ _ _
        obtain ⟨j, q, d, ds, hj, rfl, hqj, rfl, rfl, rfl, hd0, hd1, hrow, hf, hdl, hdd, hdv⟩ := hrel
        have HR := Lib.hid hrow
        have HF2 := Lib.hid hf
        have HDL := Lib.hid hdl
        have HDD := Lib.hid hdd
        have HDV := Lib.hid hdv
        have HD1 := Lib.hid hd1
        have hdW : d < 18446744073709551616 := by
          have := pow_le_pow_ (B := 256) (by omega) (show 8 - j ≤ 8 by omega)
          rw [show (256 : Int) ^ 8 = 18446744073709551616 by rfl] at this
          omega
        clear hrow hf hdl hdd hdv hd1
        by_cases h2 : j < 8
        · obtain ⟨r, hr⟩ : ∃ r, q = r + 1 := ⟨q - 1, by omega⟩
          have hqr : (q : Int) - 1 = (r : Int) := by omega
          have hrn : (r : Int) < (n : Int) := by omega
          have hrlen : (List.replicate q 0 ++ ds.reverse).length = n := by simp [HDL.out]; omega
          have hfz := HR.out.frozen r
          have cz := HR.out.cell (i := r) (by rw [hrlen]; omega)
          obtain ⟨old, hold⟩ : ∃ old, old = (List.replicate q 0 ++ ds.reverse).getD r 0 := ⟨_, rfl⟩
          rw [← hold] at cz
          obtain ⟨y, hy⟩ : ∃ y, y = d % 256 := ⟨_, rfl⟩
          obtain ⟨d2, hd2⟩ : ∃ d2, d2 = d / 256 := ⟨_, rfl⟩
          have hwy : IntKind.u8.wrap d = y := by rw [hy]; simp [IntKind.wrap, IntKind.signed, IntKind.bits]
          have hd2e : d / 256 = d2 := hd2.symm
          have hd20 : 0 ≤ d2 := by omega
          have HNX : Hid (d2 < 256 ^ (8 - (j + 1)) ∧ 0 ≤ y ∧ y < 256 ∧ val 256 (ds ++ [y]) + 256 ^ (8 * k + (j + 1)) * d2 = val 18446744073709551616 (ws.take (k + 1))) := by
            refine Lib.hid ⟨?_, by omega, by omega, ?_⟩
            · rw [hd2]
              have h := HD1.out
              rw [show 8 - j = 8 - (j + 1) + 1 by omega, Int.pow_succ] at h
              exact Int.ediv_lt_of_lt_mul (by omega) h
            · rw [← Nat.add_assoc]; exact byte_step (X := 0) HDL.out hy hd2 HDV.out
          have HRR := Lib.hid hr
          clear hold hy hd2 hrlen hr
          go_wp2_with fail
          go_roundg (8 - (j + 1))
          case measure => omega
          case rel =>
            refine ⟨j + 1, r, d2, ds ++ [y], by omega, rfl, by have := HRR.out; omega, rfl, rfl, by go_num, hd20, HNX.out.1, ?_, HF2.out.set (.inl (by simp)) _, by simp [HDL.out]; omega, HDD.out.append (DG.cons HNX.out.2.1 HNX.out.2.2.1 (DG.nil _)), HNX.out.2.2.2⟩
            have h := HR.out.set r y
            rw [HRR.out, rep_set] at h
            rw [List.reverse_append]
            exact h
        · obtain rfl : j = 8 := by omega
          have hd0' : d = 0 := by
            have := HD1.out
            rw [show (256 : Int) ^ (8 - 8) = 1 by rfl] at this
            omega
          have hfin := HDV.out
          rw [hd0', Int.mul_zero, Int.add_zero] at hfin
          have HFIN := Lib.hid hfin
          clear hfin hd0'
          go_wp2_with fail
          go_roundg (N - (k + 1))
          case measure => omega
          case rel => exact ⟨k + 1, q, ds, by rw [← HN.out]; omega, by rw [← HN.out], by omega, rfl, by go_num, HR.out, HF.out.trans HF2.out (fun x hx _ => hx), by rw [HDL.out]; omega, HDD.out, HFIN.out⟩
    · obtain rfl : k = N := by omega
      obtain rfl : p = 0 := by omega
      have hrow := HR.out
      rw [List.replicate_zero, List.nil_append] at hrow
      obtain ⟨ls, hls⟩ : ∃ ls, ls = cs.reverse := ⟨_, rfl⟩
      have hll : ls.length = n := by rw [hls, List.length_reverse, HCL.out]; omega
      have hlv : val 256 ls.reverse = val 18446744073709551616 ws := by rw [hls, List.reverse_reverse, HCV.out, List.take_of_length_le (by rw [HN.out]; exact Nat.le_refl _)]
      have hld : DG 256 ls := by rw [hls]; exact rev_dg HCD.out
      rw [← hls] at hrow
      have HLL := Lib.hid hll
      have HLV := Lib.hid hlv
      have HLD := Lib.hid hld
      have HROW2 := Lib.hid hrow
      clear hls hll hlv hld hrow HR HCL HCD HCV HROW
      go_wp2_with fail
      go_loopg [4] n (ByOut ls wr)
      case atStart => exact ⟨0, by omega, by rw [HLL.out]; rfl, rfl, fun j hj => by omega, 0, rfl⟩
      case round =>
        obtain ⟨i, hi, hg, rfl, hz, m, rfl⟩ := hrel
        rw [HLL.out] at hi hg
        subst hg
        have HZ := Lib.hid hz
        clear hz
        by_cases h2 : i < n
        · have cA := (HROW2.out.drewN m).cell (i := i) (by rw [HLL.out]; exact h2)
          obtain ⟨y, hy⟩ : ∃ y, y = ls.getD i 0 := ⟨_, rfl⟩
          rw [← hy] at cA
          have HY := Lib.hid hy
          clear hy
          by_cases h3 : y = 0
          · have h3b : (y == 0) = true := by simp [h3]
            have H3 := Lib.hid h3
            clear h3
            go_wp2_with fail
            go_roundg (n - (i + 1))
            case measure => omega
            case rel =>
              refine ⟨i + 1, by rw [HLL.out]; omega, by rw [HLL.out], by go_num, ?_, _, rfl⟩
              intro j hj
              by_cases e : j = i
              · subst e; rw [← HY.out]; exact H3.out
              · exact HZ.out j (by omega)
          · have h3b : (y == 0) = false := by simp [h3]
            have H3 := Lib.hid h3
            clear h3
            go_wp2_with fail
            go_ret
            refine ⟨i, ls, rfl, HROW2.out, by rw [HLL.out], HLD.out, by omega, fun _ => by rw [← HY.out]; exact H3.out, ?_, HF.out.drewN _⟩
            rw [rev_cut (by rw [HLL.out]; exact hi) HZ.out, HLV.out]
        · obtain rfl : i = n := by omega
          go_wp2_with fail
          go_ret
          refine ⟨i, ls, rfl, HROW2.out, by rw [HLL.out], HLD.out, by omega, fun h => by omega, ?_, HF.out.drewN _⟩
          rw [rev_cut (by rw [HLL.out]; exact hi) HZ.out, HLV.out]
theorem drop_nz {ls : List Int} {i n : Nat} (hl : ls.length = n) (h0 : i < n → ls.getD i 0 ≠ 0) : ls.drop i = [] ∨ (ls.drop i).getD 0 0 ≠ 0 := by
  by_cases h : i < n
  · right
    have := h0 h
    simpa [List.getD_eq_getElem?_getD] using this
  · left; exact List.eq_nil_of_length_eq_zero (by rw [List.length_drop]; omega)
/-- bytes, the highest first, without a nought ahead -/
def RetB (n : Int) (m : Nat) (w : World) (e : Ending) (w' : World) : Prop := ∃ v bs, e = .returned v ∧ Sl .u8 w' v bs ∧ bs.length ≤ m ∧ DG 256 bs ∧ (bs = [] ∨ bs.getD 0 0 ≠ 0) ∧ val 256 bs.reverse = n ∧ Fr [] w w'
set_option maxRecDepth 100000 in
theorem zzBytes_any (v : Value) (xs : List Int) (w : World) (hx : Sl .u64 w v xs) (hd : DG 18446744073709551616 xs) (hl : xs.length ≤ 100000) :
    Calls Try.prog 68 #[v] w (RetB (val 18446744073709551616 xs) (xs.length * 8) w) := by
  have HD := Lib.hid hd
  have HX := Lib.hid hx
  obtain ⟨N, hN⟩ : ∃ N, N = xs.length := ⟨_, rfl⟩
  have HN := Lib.hid hN
  have C1 := Lib.hid (fun W (h : Sl .u64 W v xs) => zzIn_any v xs W h (by omega))
  simp only [← hN] at C1 hl ⊢
  have hw8 : IntKind.i64.wrap ((N : Int) * 8) = ((N * 8 : Nat) : Int) := by rw [IntKind.wrap_i64]; omega
  clear hd hx hN
  go_enter Try.func68, Try.ntmps68
  go_wp2_with (first
    | (go_at_call 92; refine (C1.out _ HX.out).mono ?_; rintro e w1 ⟨b1, rfl, row1, hb1, f1⟩; have HR1 := Lib.hid row1; clear row1)
    | (at_make; refine wp_mk rfl (.tmp 9) (.tmp 9) _ rfl .u8 5 1 ty_bytes (by omega) (N * 8) (by first | rfl | (show Value.int IntKind.i64 _ = _; congr 1)) (by first | rfl | (show Value.int IntKind.i64 _ = _; congr 1)) (by omega) ?_; intro z w2 hz row2 f2; have HR2 := Lib.hid row2; clear row2)
    | (go_at_call 95; refine (bytes_any _ xs z N w1 _ (by have := HR1.out.sl (by have := HN.out; omega); rwa [← HN.out] at this) HD.out HN.out (by omega) f2 hz HR2.out).mono ?_; rintro e w3 ⟨i, ls, rfl, row3, hll, hld, hin, hi0, hlv, f3⟩; have HLL := Lib.hid hll; have HLD := Lib.hid hld; have HI0 := Lib.hid hi0; have HLV := Lib.hid hlv; have HR3 := Lib.hid row3; clear hll hld hi0 hlv row3))
  all_goals go_ret
  all_goals have hlen : (ls.drop i).length = N * 8 - i := by rw [List.length_drop, HLL.out]
  all_goals have hnz := drop_nz HLL.out HI0.out
  all_goals have hff := fr_new'' (f1.t f2) f3 (by have := f1.size; omega)
  · have h : N * 8 = i := by assumption
    refine ⟨_, ls.drop i, rfl, ⟨_, _, by rw [hlen, h, Nat.sub_self]; rfl, by rw [hlen]; omega, by unfold maxLen; omega, fun hp => by rw [hlen] at hp; omega⟩, by rw [hlen]; omega, HLD.out.drop i, hnz, HLV.out, hff⟩
  · have h : ¬ N * 8 = i := by assumption
    refine ⟨_, ls.drop i, rfl, ⟨_, _, by rw [hlen]; rfl, by rw [hlen]; omega, by unfold maxLen; omega, fun hp => ⟨z, i, rfl, HR3.out.lt, HR3.out.src (by rw [HLL.out]; omega)⟩⟩, by rw [hlen]; omega, HLD.out.drop i, hnz, HLV.out, hff⟩
set_option maxRecDepth 100000 in
theorem implBytes_any (v : Value) (xs : List Int) (w : World) (hx : Sl .u64 w v xs) (hd : DG 18446744073709551616 xs) (hl : xs.length ≤ 100000) :
    Calls Try.prog 26 #[v] w (RetB (val 18446744073709551616 xs) (xs.length * 8) w) := by
  have C1 := Lib.hid (normed_any v xs w hx hd (by omega))
  obtain ⟨N, hN⟩ : ∃ N, N = xs.length := ⟨_, rfl⟩
  have HN := Lib.hid hN
  rw [← hN] at hl ⊢
  clear hx hd hN
  go_enter Try.func26, Try.ntmps26
  go_wp2_with (first
    | (go_at_call 67; refine (Hid.out C1).mono ?_; rintro e w1 ⟨v1, ys, rfl, sl1, dy, nzy, hvy, hly, f1⟩; have HVY := Lib.hid hvy; have HLY := Lib.hid hly; clear hvy hly)
    | (go_at_call 68; refine (zzBytes_any _ ys _ sl1 dy (by have := HLY.out; have := HN.out; omega)).mono ?_; rintro e w2 ⟨v2, bs, rfl, sl2, hbl, hbd, hb0, hbv, f2⟩; have HBL := Lib.hid hbl; have HB0 := Lib.hid hb0; have HBV := Lib.hid hbv; clear hbl hb0 hbv))
  go_ret
  exact ⟨_, bs, rfl, sl2, by have := HBL.out; have := HLY.out; have := HN.out; omega, hbd, HB0.out, by rw [HBV.out, HVY.out], f1.t f2⟩
theorem bytes_zero {bs : List Int} (hd : DG 256 bs) (h : bs = [] ∨ bs.getD 0 0 ≠ 0) (hv : val 256 bs.reverse = 0) : bs = [] := by
  rcases h with h | h
  · exact h
  · by_cases hne : bs = []
    · exact hne
    · exfalso
      have hp : 0 < bs.length := List.length_pos_iff.2 hne
      have hz : NZ bs.reverse := .inr (by rw [List.length_reverse, rev_get (by omega), show bs.length - 1 - (bs.length - 1) = 0 by omega]; exact h)
      have := nz_pos (by omega) (rev_dg hd) hz (by simpa using hne)
      omega
set_option maxRecDepth 100000 in
set_option maxHeartbeats 1000000 in
theorem law_FnBytes (v : Value) (xs : List Int) (w : World) (hx : Sl .u64 w v xs) (hd : DG 18446744073709551616 xs) :
    Calls Try.prog 4 #[v] w fun e w' => e = .returned (.bool true) ∧ Fr [] w w' := by
  have HX := Lib.hid hx
  have HD := Lib.hid hd
  obtain ⟨A, cap, rfl, hlc, hm, hs⟩ := hx
  unfold maxLen at hm
  clear hs hd
  by_cases h1 : 2147483647 < xs.length
  · go_enter Try.func4, Try.ntmps4
    go_wp2_with fail
    go_ret
    exact ⟨rfl, Fr.refl _ _⟩
  by_cases h2 : xs.length ≤ 260
  case neg =>
    go_enter Try.func4, Try.ntmps4
    go_wp2_with (go_at_call 20; refine (few1_no 260 A _ _ _ _ (by omega) (by omega) (by omega)).mono ?_; rintro e w1 ⟨rfl, rfl⟩)
    go_ret
    exact ⟨rfl, (Fr.refl _ _).alloc _⟩
  have f0 : Fr [] w (w.alloc (.cells #[.slice A xs.length cap] 22)) := (Fr.refl _ _).alloc _
  have C1 := Lib.hid (implBytes_any _ xs _ (HX.out.fr0 f0) HD.out (by omega))
  have CO := Lib.hid (fun W (f : Fr [] w W) => of_any _ xs W (HX.out.fr0 f) HD.out (by omega))
  obtain ⟨X, hX⟩ : ∃ X, X = val 18446744073709551616 xs := ⟨_, rfl⟩
  rw [← hX] at C1
  simp only [← hX] at CO
  obtain ⟨N, hN⟩ : ∃ N, N = xs.length := ⟨_, rfl⟩
  rw [← hN] at hlc C1 h1 h2 f0 ⊢
  simp only [← hN] at CO
  have HN := Lib.hid hN
  clear hX
  by_cases h0 : X = 0
  · have C2 : Calls Try.prog 26 #[.slice A N cap] (w.alloc (.cells #[.slice A N cap] 22)) fun e w' => ∃ A' c, e = .returned (.slice A' 0 c) ∧ Sl .u8 w' (.slice A' 0 c) [] ∧ Fr [] (w.alloc (.cells #[.slice A N cap] 22)) w' := by
      refine C1.out.mono ?_
      rintro e w' ⟨v, bs, rfl, sl, _, hbd, hb0, hbv, f⟩
      obtain rfl := bytes_zero hbd hb0 (by omega)
      obtain ⟨A', c, rfl, q1, q2, q3⟩ := sl
      exact ⟨A', c, rfl, ⟨A', c, rfl, q1, q2, q3⟩, f⟩
    have C3 := Lib.hid C2
    have CB := Lib.hid (fun v W (h : Sl .u8 W v []) => ofBytes_any v [] W h (DG.nil _) (by simp))
    rw [show val 256 ([] : List Int).reverse = X by rw [h0]; rfl] at CB
    clear hN C1 C2 h0
    go_enter Try.func4, Try.ntmps4
    go_wp2_with (first
      | (go_at_call 20; refine (few1_yes 260 A _ _ _ _ (by omega) h2).mono ?_; rintro e w1 ⟨rfl, rfl⟩)
      | (go_at_call 26; refine (Hid.out C3).mono ?_; clear C3; rintro e w2 ⟨A', c, rfl, sl2, f2⟩)
      | (go_at_call 28; refine (CB.out _ _ sl2).mono ?_; rintro e w3 ⟨v3, rfl, sn3, f3⟩)
      | (go_at_call 22; refine (CO.out _ ((f0.t f2).t f3)).mono ?_; rintro e w4 ⟨v4, rfl, sn4, f4⟩)
      | (go_at_call 27; refine (cmp_same _ _ _ _ (sn3.fr0 f4) sn4).mono ?_; rintro e w5 ⟨rfl, f5⟩))
    go_ret
    exact ⟨rfl, (((f0.t f2).t f3).t f4).t f5⟩
  · have C2 : Calls Try.prog 26 #[.slice A N cap] (w.alloc (.cells #[.slice A N cap] 22)) fun e w' => ∃ b o c bs y, e = .returned (.slice (some ⟨b, o, none⟩) bs.length c) ∧ Sl .u8 w' (.slice (some ⟨b, o, none⟩) bs.length c) bs ∧ 0 < bs.length ∧ bs.length ≤ c ∧ c ≤ maxLen ∧ w'.cell? ⟨b, o, none⟩ = some (.int .u8 y) ∧ y ≠ 0 ∧ 0 ≤ y ∧ y < 256 ∧ DG 256 bs ∧ bs.length ≤ N * 8 ∧ val 256 bs.reverse = X ∧ Fr [] (w.alloc (.cells #[.slice A N cap] 22)) w' := by
      refine C1.out.mono ?_
      rintro e w' ⟨v, bs, rfl, sl, hbl, hbd, hb0, hbv, f⟩
      have hne : bs ≠ [] := by rintro rfl; exact h0 hbv.symm
      have hp : 0 < bs.length := List.length_pos_iff.2 hne
      have hsl := sl
      obtain ⟨A', c, rfl, q1, q2, q3⟩ := sl
      obtain ⟨b, o, rfl, hb, hs⟩ := q3 hp
      have hc := hs 0 hp
      rw [Nat.add_zero] at hc
      obtain ⟨y0, y1⟩ := hbd.getD (by omega) 0
      exact ⟨b, o, c, bs, _, rfl, hsl, hp, q1, q2, hc, hb0.resolve_left hne, y0, y1, hbd, hbl, hbv, f⟩
    have C3 := Lib.hid C2
    clear hN C1 C2 h0
    go_enter Try.func4, Try.ntmps4
    go_wp2_with (first
      | (go_at_call 20; refine (few1_yes 260 A _ _ _ _ (by omega) h2).mono ?_; rintro e w1 ⟨rfl, rfl⟩)
      | (go_at_call 26; refine (Hid.out C3).mono ?_; clear C3; rintro e w2 ⟨b, o, c, bs, y, rfl, sl2, hp, hc1, hc2, cy, hy, hy0, hy1, hbd, hbl, hbv, f2⟩; have HBV := Lib.hid hbv; have hyb : (y == 0) = false := (by rw [beq_eq_false_iff_ne]; exact hy); have hyb2 : (y != 0) = true := (by rw [bne_iff_ne]; exact hy); have hlb : ((bs.length : Int) == 0) = false := (by rw [beq_eq_false_iff_ne]; omega); unfold maxLen at hc2; clear hbv)
      | (go_at_call 28; refine (ofBytes_any _ bs _ sl2 hbd (by omega)).mono ?_; rw [HBV.out]; rintro e w3 ⟨v3, rfl, sn3, f3⟩)
      | (go_at_call 22; refine (CO.out _ ((f0.t f2).t f3)).mono ?_; rintro e w4 ⟨v4, rfl, sn4, f4⟩)
      | (go_at_call 27; refine (cmp_same _ _ _ _ (sn3.fr0 f4) sn4).mono ?_; rintro e w5 ⟨rfl, f5⟩))
    go_ret
    exact ⟨rfl, (((f0.t f2).t f3).t f4).t f5⟩
end Go.Proofs.Ytjapebgihnahjaa
