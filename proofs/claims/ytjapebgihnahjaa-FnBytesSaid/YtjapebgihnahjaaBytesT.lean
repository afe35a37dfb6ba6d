/-
  beUint64 and nat.setBytes at a nil receiver. Conditions: what is read can be read.
-/
import Derived.Test.YtjapebgihnahjaaBytesS
set_option linter.unusedSimpArgs false
set_option linter.unusedVariables false
namespace Go.Proofs.Ytjapebgihnahjaa
open Go.Big Go.RowKit
set_option maxRecDepth 100000 in
set_option maxHeartbeats 2000000 in
theorem be64_any (b off c : Nat) (bs : List Int) (i : Nat) (w : World) (hs : Src .u8 w b off bs) (hd : DG 256 bs) (hi : i + 8 ≤ bs.length) (hc : 8 ≤ c) (hc9 : c ≤ maxLen) :
    Calls Try.prog 143 #[.slice (some ⟨b, off + i, none⟩) 8 c] w fun e w' => e = .returned (.int .u64 (be4 bs i * 4294967296 + be4 bs (i + 4))) ∧ ∃ m, w' = w.drewN m := by
  unfold maxLen at hc9
  have c7 := hs (i + 7) (by omega)
  simp only [← Nat.add_assoc] at c7
  obtain ⟨x7, hx7⟩ : ∃ x, x = bs.getD (i + 7) 0 := ⟨_, rfl⟩
  rw [← hx7] at c7
  obtain ⟨p0, p1⟩ := be4_bd hd i
  obtain ⟨q0, q1⟩ := be4_bd hd (i + 4)
  have C1 := Lib.hid (fun W (hs : Src .u8 W b off bs) => be32_any b off 8 c bs i W hs hd (by omega) (by omega) (by omega))
  have C2 := Lib.hid (fun W (hs : Src .u8 W b off bs) => be32_any b off 4 (c - 4) bs (i + 4) W hs hd (by omega) (by omega) (by omega))
  simp only [← Nat.add_assoc] at C2
  obtain ⟨P, hP⟩ : ∃ P, be4 bs i = P := ⟨_, rfl⟩
  obtain ⟨Q, hQ⟩ : ∃ Q, be4 bs (i + 4) = Q := ⟨_, rfl⟩
  rw [hP] at p0 p1
  rw [hQ] at q0 q1
  simp only [hP, hQ] at C1 C2 ⊢
  have w1 : IntKind.u64.wrap (P * 4294967296) = P * 4294967296 := by rw [IntKind.wrap_u64]; omega
  have w2 : IntKind.u64.wrap P = P := by rw [IntKind.wrap_u64]; omega
  have w3 : IntKind.u64.wrap Q = Q := by rw [IntKind.wrap_u64]; omega
  have o1 : bits .or .u64 (P * 4294967296) Q = P * 4294967296 + Q := or_hi64 32 (by omega) (by omega) (by omega) (by omega) (by omega)
  have hc4 : ¬ c = 4 := by omega
  have HS := Lib.hid hs
  have T1 : True := trivial
  clear hs hd hx7 hP hQ
  go_enter Try.func143, Try.ntmps143
  go_wp2_with fail
  go_region_with (first
    | (go_at_call 144; clear T1; refine (C1.out _ (HS.out.drewN _)).mono ?_; rintro e w2 ⟨rfl, m1, rfl⟩)
    | (go_at_call 144; refine (C2.out _ (HS.out.drewN _)).mono ?_; rintro e w3 ⟨rfl, m2, rfl⟩))
  all_goals (go_wp2_with fail)
  all_goals go_ret
  all_goals first | exact ⟨rfl, _, rfl⟩ | exact ⟨rfl, _, by simp only [World.drew_is_drewN, World.drewN_drewN]⟩
def SetBRel (bs : List Int) (z c : Nat) (w1 : World) (g : Nat) (iv kv : Value) (wr : World) : Prop :=
  ∃ (k i : Nat) (ws : List Int), i + 8 * k = bs.length ∧ i = g ∧ iv = .int .i64 i ∧ kv = .int .i64 k ∧ Row .u64 87 wr z (spl (List.replicate c 0) 0 ws) ∧ Fr [z] w1 wr ∧ ws.length = k ∧ DG 18446744073709551616 ws ∧
    val 18446744073709551616 ws = val 256 (bs.reverse.take (8 * k))
def SetBIn (bs : List Int) (k i0 : Nat) (X : Int) (w1 : World) (g : Nat) (iv dv sv : Value) (wr : World) : Prop :=
  ∃ (p j : Nat) (d : Int), p + j = i0 ∧ p = g ∧ iv = .int .i64 p ∧ dv = .int .u64 d ∧ sv = .int .u64 (8 * j : Nat) ∧ 0 ≤ d ∧ d < 2 ^ (8 * j) ∧ X + 18446744073709551616 ^ k * d = val 256 (bs.reverse.take (8 * k + j)) ∧ w1 = wr
set_option maxRecDepth 100000 in
set_option maxHeartbeats 1000000 in
theorem setBytes_any (v : Value) (bs : List Int) (w : World) (hx : Sl .u8 w v bs) (hd : DG 256 bs) (hl : bs.length ≤ 1000000) :
    Calls Try.prog 99 #[.slice none 0 0, v] w (RetW (val 256 bs.reverse) w) := by
  obtain ⟨A, cap, rfl, hlc, hm, hsrc⟩ := hx
  unfold maxLen at hm
  by_cases h0 : bs.length = 0
  · have hb : bs = [] := List.eq_nil_of_length_eq_zero h0
    subst hb
    simp only [List.length_nil, List.reverse_nil, val_nil]
    clear hsrc hlc hl h0
    go_enter Try.func99, Try.ntmps99
    go_wp2_with (first
      | (go_at_call 120; refine (make0 _).mono ?_; rintro e w1 ⟨rfl, rfl⟩))
    go_loopg [5, 6] 0 (fun g iv kv wr => iv = .int .i64 0 ∧ w = wr)
    case atStart => exact ⟨rfl, rfl⟩
    case round =>
      obtain ⟨rfl, rfl⟩ := hrel
      go_wp2_with (first
        | (go_at_call 118; refine (bnorm_sl _ [] _ (Sl.nil _ _) (DG.nil _)).mono ?_; rw [val_nil]; rintro e w4 ⟨⟨v4, rfl, sw4⟩, rfl⟩))
      go_ret
      exact ⟨_, rfl, sw4, Fr.refl _ _⟩
  obtain ⟨b, off, rfl, hb, hs⟩ := hsrc (by omega)
  obtain ⟨N, hN⟩ : ∃ N, N = bs.length := ⟨_, rfl⟩
  obtain ⟨n, hn⟩ : ∃ n, n = (N + 7) / 8 := ⟨_, rfl⟩
  have hq1 : ((N : Int) + 8 - 1) / 8 = (n : Int) := by omega
  have HM := Lib.hid (fun W => make_any n W (by omega) (by omega))
  have HS := Lib.hid hs
  have HD := Lib.hid hd
  have HN := Lib.hid hN
  have HNN := Lib.hid hn
  have hN9 : N ≤ 1000000 := by omega
  have hNc : N ≤ cap := by omega
  have hN0 : 0 < N := by omega
  rw [← hN]
  clear hs hd hsrc hl h0 hn hN hlc
  go_enter Try.func99, Try.ntmps99
  go_wp2_with (first
    | (go_at_call 120; refine (HM.out _).mono ?_; rintro e w1 ⟨z, c, rfl, hc1, hc2, row, hz, f⟩; have HROW := Lib.hid row; clear row))
  go_loopg [5, 6] N (SetBRel bs z c w1)
  case atStart => exact ⟨0, N, [], by have := HN.out; omega, rfl, rfl, rfl, by rw [spl_nil]; exact HROW.out, Fr.refl _ _, rfl, DG.nil _, by simp [val_nil]⟩
  case round =>
    clear hq1
    obtain ⟨k, i, ws, hik, rfl, rfl, rfl, hrow, hf, hwl, hwd, hwv⟩ := hrel
    have HIK := Lib.hid hik
    have HR := Lib.hid hrow
    have HF := Lib.hid hf
    have HWL := Lib.hid hwl
    have HWD := Lib.hid hwd
    have HWV := Lib.hid hwv
    have hnk : i + 8 * k = N := by have := HN.out; omega
    have hn8 : 8 * n ≤ N + 7 ∧ N ≤ 8 * n := by have := HNN.out; omega
    obtain ⟨hn81, hn82⟩ := hn8
    have hsrc := HS.out.fr ((f.mono (S' := [z]) (by simp)).trans hf (fun x hx _ => hx)) (by simp; omega)
    have HSR := Lib.hid hsrc
    clear HROW hik hrow hf hwl hwd hwv hsrc
    by_cases h8 : 8 ≤ i
    · obtain ⟨j, hj⟩ : ∃ j, i = j + 8 := ⟨i - 8, by omega⟩
      have hsub : (i : Int) - 8 = (j : Int) := by omega
      have hlen : i - j = 8 := by omega
      have hcj : ¬ cap = j := by omega
      have hkn : (k : Int) < (n : Int) := by omega
      have hji : (j : Int) ≤ (i : Int) := by omega
      have hic : (i : Int) ≤ (cap : Int) := by omega
      have hfz := HR.out.frozen k
      have cz := HR.out.cell (i := k) (by rw [spl_len (by simp; have := HWL.out; omega)]; simp; omega)
      obtain ⟨old, hold⟩ : ∃ old, old = (spl (List.replicate c (0 : Int)) 0 ws).getD k 0 := ⟨_, rfl⟩
      rw [← hold] at cz
      have HC := Lib.hid (fun c' (h : 8 ≤ c') (h' : c' ≤ maxLen) => be64_any b off c' bs j wr HSR.out HD.out (by have := HIK.out; omega) h h')
      have hv8 := be8_val (bs := bs) (i := j) (k := k) (by have := HIK.out; omega)
      have hbd := be4_bd HD.out j
      have hbd2 := be4_bd HD.out (j + 4)
      obtain ⟨V, hV⟩ : ∃ V, V = be4 bs j * 4294967296 + be4 bs (j + 4) := ⟨_, rfl⟩
      rw [← hV] at hv8
      simp only [← hV] at HC
      have hV01 : 0 ≤ V ∧ V < 18446744073709551616 := by omega
      have HV01 := Lib.hid hV01
      have HV8 := Lib.hid hv8
      have HJ := Lib.hid hj
      clear hold hV hbd hbd2 hv8 hV01 hj
      go_wp2_with (first
        | (go_at_call 143; refine (HC.out _ (by omega) (by unfold maxLen; omega)).mono ?_; rintro e w2 ⟨rfl, m, rfl⟩)
        | (go_at_call 121; go_in))
      go_roundg j
      case measure => have := HJ.out; omega
      case rel =>
        refine ⟨k + 1, j, ws ++ [V], by have := HIK.out; have := HJ.out; omega, rfl, rfl, by go_num, ?_, (HF.out.drewN _).set (.inl (by simp)) _, by simp [HWL.out], HWD.out.append (DG.cons HV01.out.1 HV01.out.2 (DG.nil _)), ?_⟩
        · have h := (HR.out.drewN m).set k V
          have hsp := spl_set_end (L := List.replicate c (0 : Int)) (o := 0) (cs := ws) (by simp; have := HWL.out; omega) V
          rw [Nat.zero_add, HWL.out] at hsp
          rw [hsp] at h
          exact h
        · rw [val_snoc, HWL.out, HWV.out, HV8.out]
    · by_cases hi0 : i = 0
      · subst hi0
        have hkn : n = k := by omega
        subst hkn
        have hfin : val 18446744073709551616 ws = val 256 bs.reverse := by
          rw [HWV.out, List.take_of_length_le (by simp; have := HIK.out; omega)]
        have HFIN := Lib.hid hfin
        clear hfin
        go_wp2_with (first
          | (go_at_call 118; refine (bnorm_sl _ ws _ ((src_spl HR.out (by rw [HWL.out]; simp; omega)).sl HWL.out hc1 (by unfold maxLen; omega)) HWD.out).mono ?_; rw [HFIN.out]; rintro e w4 ⟨⟨v4, rfl, sw4⟩, rfl⟩))
        go_ret
        exact ⟨_, rfl, sw4, fr_new'' f HF.out hz⟩
      · have hkn : n = k + 1 := by omega
        have hkn2 : (n : Int) - 1 = (k : Int) := by omega
        have hklt : (k : Int) < (n : Int) := by omega
        go_wp2_with fail
        go_loopg [5, 7, 8] i (SetBIn bs k i (val 18446744073709551616 ws) wr)
        case atStart => exact ⟨i, 0, 0, by omega, rfl, rfl, rfl, rfl, by omega, by simp, by rw [HWV.out]; simp, rfl⟩
        case round =>
          obtain ⟨p, j, d, hpj, rfl, rfl, rfl, rfl, hd0, hd1, hdv, rfl⟩ := hrel
          have HDV := Lib.hid hdv
          have HD1 := Lib.hid hd1
          have HPJ := Lib.hid hpj
          obtain ⟨s, hs⟩ : ∃ s, s = 8 * j := ⟨_, rfl⟩
          have hs56 : s ≤ 56 := by omega
          have hd64 : d < 18446744073709551616 := by
            have := pow_le_pow_ (B := 2) (by omega) (show 8 * j ≤ 56 by omega)
            omega
          by_cases hp0 : p = 0
          · subst hp0
            have hfz := HR.out.frozen k
            have cz := HR.out.cell (i := k) (by rw [spl_len (by simp; have := HWL.out; omega)]; simp; omega)
            obtain ⟨old, hold⟩ : ∃ old, old = (spl (List.replicate c (0 : Int)) 0 ws).getD k 0 := ⟨_, rfl⟩
            rw [← hold] at cz
            have hrow3 : Row .u64 87 (wr.setCell ⟨z, k, none⟩ (.int .u64 d)) z (spl (List.replicate c 0) 0 (ws ++ [d])) := by
              have h := HR.out.set k d
              have hsp := spl_set_end (L := List.replicate c (0 : Int)) (o := 0) (cs := ws) (by simp; have := HWL.out; omega) d
              rw [Nat.zero_add, HWL.out] at hsp
              rw [hsp] at h
              exact h
            have hfin : val 18446744073709551616 (ws ++ [d]) = val 256 bs.reverse := by
              rw [val_snoc, HWL.out, HDV.out, List.take_of_length_le (by simp; have := HIK.out; have := HPJ.out; omega)]
            have HFIN := Lib.hid hfin
            have HROW3 := Lib.hid hrow3
            have HSL := Lib.hid ((src_spl hrow3 (by simp [HWL.out]; omega)).sl (n := n) (by simp [HWL.out]; omega) hc1 (by unfold maxLen; omega))
            have HWD3 := Lib.hid (HWD.out.append (DG.cons hd0 hd64 (DG.nil _)))
            clear hfin hrow3 hold hs hpj hd1 hdv hkn
            go_wp2_with (first
              | (go_at_call 118; refine (bnorm_sl _ (ws ++ [d]) _ HSL.out HWD3.out).mono ?_; rw [HFIN.out]; rintro e w4 ⟨⟨v4, rfl, sw4⟩, rfl⟩))
            go_ret
            exact ⟨_, rfl, sw4, fr_new'' f (HF.out.set (.inl (by simp)) _) hz⟩
          · obtain ⟨q, hq⟩ : ∃ q, p = q + 1 := ⟨p - 1, by omega⟩
            have hpq : (p : Int) - 1 = (q : Int) := by omega
            have hqN : (q : Int) < (N : Int) := by omega
            have cq := HSR.out q (by have := HIK.out; omega)
            obtain ⟨y, hy⟩ : ∃ y, y = bs.getD q 0 := ⟨_, rfl⟩
            have hyd := HD.out.getD (by omega) q
            rw [← hy] at cq hyd
            obtain ⟨hy0, hy1⟩ := hyd
            have hyr : y = bs.reverse.getD (8 * k + j) 0 := by
              rw [rev_get (by have := HIK.out; omega), hy]
              congr 1
              have := HIK.out
              omega
            obtain ⟨P, hP⟩ : ∃ P : Int, P = 2 ^ s := ⟨_, rfl⟩
            have hP0 : 0 < P := by rw [hP]; exact pow_pos_ (by omega) s
            have hP9 : P ≤ 72057594037927936 := by
              have := pow_le_pow_ (B := 2) (by omega) hs56
              rw [hP]; exact this
            have hdP : d < P := by rw [hP, hs]; exact hd1
            have hyP : y * P ≤ 255 * P := Int.mul_le_mul_of_nonneg_right (by omega) (by omega)
            have hyP0 : 0 ≤ y * P := Int.mul_nonneg hy0 (by omega)
            have ho : bits .or .u64 d (y * P) = d + y * P := by
              rw [hP]; exact or_lo64 s hd0 (by rw [← hP]; exact hdP) hy0 (by rw [← hP]; omega) (by omega)
            have hmin : min s 64 = s := by omega
            have hpow : (2 : Int) ^ s = P := hP.symm
            have hw1 : IntKind.u64.wrap y = y := by rw [IntKind.wrap_u64]; omega
            have hw2 : IntKind.u64.wrap (y * P) = y * P := by rw [IntKind.wrap_u64]; omega
            have HNX : Hid (0 ≤ d + y * P ∧ d + y * P < 2 ^ (8 * (j + 1)) ∧ val 18446744073709551616 ws + 18446744073709551616 ^ k * (d + y * P) = val 256 (bs.reverse.take (8 * k + (j + 1)))) := by
              refine Lib.hid ⟨by omega, ?_, ?_⟩
              · rw [show 8 * (j + 1) = s + 8 by omega, Int.pow_add, hpow]; omega
              · have e : (18446744073709551616 : Int) ^ k * P = 256 ^ (8 * k + j) := by
                  rw [hP, hs, Int.pow_add, Int.pow_mul, Int.pow_mul]; rfl
                rw [← Nat.add_assoc, val_take_succ', ← hyr, ← hdv, ← e]
                grind
            have HS8 := Lib.hid hs
            have HQ := Lib.hid hq
            rw [← hs]
            clear hP hy hyr hs hpj hd1 hdv hdP hkn hq HSR
            go_wp2_with fail
            go_roundg q
            case measure => have := HQ.out; omega
            case rel =>
              exact ⟨q, j + 1, d + y * P, by have := HPJ.out; have := HQ.out; omega, rfl, rfl, rfl, by have := HS8.out; congr 1; omega, HNX.out.1, HNX.out.2.1, HNX.out.2.2, rfl⟩
end Go.Proofs.Ytjapebgihnahjaa
