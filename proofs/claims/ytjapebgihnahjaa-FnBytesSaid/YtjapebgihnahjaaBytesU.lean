/-
  The reference's number of bytes, impl.SetBytes and the law FnSetBytes. Conditions: what is read can be read.
-/
import Derived.Test.YtjapebgihnahjaaBytesT
import Derived.Test.YtjapebgihnahjaaWords2
import Derived.Test.YtjapebgihnahjaaMulAddW
set_option linter.unusedSimpArgs false
set_option linter.unusedVariables false
namespace Go.Proofs.Ytjapebgihnahjaa
open Go.Big Go.RowKit
def OfBRel (bs : List Int) (w0 : World) (g : Nat) (out iv : Value) (wr : World) : Prop :=
  ∃ (i : Nat) (ws : List Int), i ≤ bs.length ∧ g = bs.length - i ∧ iv = .int .i64 i ∧ Own .u64 31 w0 wr out ws ∧ Fr [] w0 wr ∧ ws.length = (i + 7) / 8 ∧ DG 18446744073709551616 ws ∧
    val 18446744073709551616 ws = val 256 (bs.reverse.take i) ∧ (i % 8 ≠ 0 → ws.getD (i / 8) 0 < 256 ^ (i % 8))
theorem ofBRel_next {bs ws : List Int} {w0 wr : World} {out : Value} {i N : Nat} {hN : N = bs.length} (hi : i < bs.length) {y d : Int} (hd : d = bs.reverse.getD i 0) (hd0 : 0 ≤ d) (hd1 : d < 256)
    (hl : ws.length = i / 8 + 1) (hdg : DG 18446744073709551616 ws) (hy : y = ws.getD (i / 8) 0) (hyb : y < 256 ^ (i % 8)) (hv : val 18446744073709551616 ws = val 256 (bs.reverse.take i))
    {z : Int} (hz : z = y + d * 256 ^ (i % 8)) (hown : Own .u64 31 w0 wr out (ws.set (i / 8) z)) (hf : Fr [] w0 wr) : OfBRel bs w0 (N - (i + 1)) out (.int .i64 (i + 1 : Nat)) wr := by
  subst hN
  have hy0 : 0 ≤ y := by rw [hy]; exact (hdg.getD (by omega) _).1
  have hzb : z < 256 ^ (i % 8 + 1) := by
    rw [hz, Int.pow_succ]
    have := Int.mul_le_mul_of_nonneg_right (show d ≤ 255 by omega) (show (0 : Int) ≤ 256 ^ (i % 8) from Int.le_of_lt (pow_pos_ (by omega) _))
    omega
  have hz0 : 0 ≤ z := by
    rw [hz]; have := Int.mul_nonneg hd0 (show (0 : Int) ≤ 256 ^ (i % 8) from Int.le_of_lt (pow_pos_ (by omega) _)); omega
  have hzW : z < 18446744073709551616 := by
    have := pow_le_pow_ (B := 256) (by omega) (show i % 8 + 1 ≤ 8 by omega)
    have e : (256 : Int) ^ 8 = 18446744073709551616 := by rfl
    omega
  refine ⟨i + 1, _, by omega, rfl, rfl, hown, hf, by rw [List.length_set]; omega, hdg.set _ hz0 hzW, ?_, fun h => ?_⟩
  · have e : (18446744073709551616 : Int) ^ (i / 8) * 256 ^ (i % 8) = 256 ^ i := by
      have e1 : (18446744073709551616 : Int) ^ (i / 8) = 256 ^ (8 * (i / 8)) := by rw [Int.pow_mul]; rfl
      rw [e1, ← Int.pow_add]; congr 1; omega
    rw [val_set' _ _ _ (by omega), ← hy, hz, hv, val_take_succ', ← hd, ← e, show y + d * 256 ^ (i % 8) - y = d * 256 ^ (i % 8) by omega]
    grind
  · have e1 : (i + 1) / 8 = i / 8 := by omega
    have e2 : (i + 1) % 8 = i % 8 + 1 := by omega
    rw [e1, e2, getD_set_self _ (by omega)]
    exact hzb
set_option maxRecDepth 100000 in
set_option maxHeartbeats 1000000 in
theorem ofBytes_any (v : Value) (bs : List Int) (w : World) (hx : Sl .u8 w v bs) (hd : DG 256 bs) (hl : bs.length ≤ 1000000) :
    Calls Try.prog 28 #[v] w (RetSN (val 256 bs.reverse) w) := by
  obtain ⟨A, cap, rfl, hlc, hm, hsrc⟩ := hx
  unfold maxLen at hm
  have DA := Lib.hid hd
  obtain ⟨N, hN⟩ : ∃ N, N = bs.length := ⟨_, rfl⟩
  have HN := Lib.hid hN
  rw [← hN] at hlc hl ⊢
  have hsrc : 0 < N → ∃ b off, A = some ⟨b, off, none⟩ ∧ b < w.heap.size ∧ Src .u8 w b off bs := by rw [hN]; exact hsrc
  have HS := Lib.hid hsrc
  clear hd hN hsrc
  go_enter Try.func28, Try.ntmps28
  go_wp2_with fail
  go_loopg [3, 9] N (OfBRel bs w)
  case atStart => exact ⟨0, [], by omega, by rw [← HN.out]; rfl, rfl, Own.lit0 _ _ _ _ (Nat.le_refl _), (Fr.refl _ _).alloc _, by simp, DG.nil _, by simp [val_nil], fun h => by simp at h⟩
  case round =>
    obtain ⟨i, ws, hi, rfl, rfl, hown, hf, hl', hdg, hv, hlast⟩ := hrel
    have hiN : i ≤ N := by rw [HN.out]; exact hi
    have HL := Lib.hid hl'
    have HDG := Lib.hid hdg
    have HV := Lib.hid hv
    have HLA := Lib.hid hlast
    clear hl' hdg hv hlast hi
    by_cases h1 : i < N
    · obtain ⟨b, o, rfl, _, sa⟩ := HS.out (by omega)
      obtain ⟨k, hk⟩ : ∃ k, k = N - 1 - i := ⟨_, rfl⟩
      have hkk : (N : Int) - 1 - (i : Int) = (k : Int) := by omega
      have hkN : (k : Int) < (N : Int) := by omega
      have cA := (sa.fr hf (by simp)) k (by rw [← HN.out]; omega)
      obtain ⟨d, hd⟩ : ∃ d, d = bs.getD k 0 := ⟨_, rfl⟩
      obtain ⟨hd0, hd1⟩ := DA.out.getD (by omega) k
      rw [← hd] at hd0 hd1 cA
      have hdr : d = bs.reverse.getD i 0 := by rw [rev_get (by rw [← HN.out]; exact h1), hd, ← HN.out, hk]
      have HD := Lib.hid hdr
      have hwl : ws.length < 1099511627776 := by have := HL.out; omega
      have HWL := Lib.hid hwl
      have HSA := Lib.hid sa
      have HDK := Lib.hid hd
      clear hd sa hwl hdr hk
      obtain ⟨q, hq⟩ : ∃ q, i / 8 = q := ⟨_, rfl⟩
      have hqi : (i : Int) / 8 = (q : Int) := by omega
      obtain ⟨r, hr⟩ : ∃ r, i % 8 = r := ⟨_, rfl⟩
      have hri : (i : Int) % 8 = (r : Int) := by omega
      obtain ⟨s, hs⟩ : ∃ s, s = 8 * r := ⟨_, rfl⟩
      have hs56 : s ≤ 56 := by omega
      have hsi : 8 * (r : Int) = (s : Int) := by omega
      obtain ⟨P, hP⟩ : ∃ P : Int, P = 2 ^ s := ⟨_, rfl⟩
      have hPP : P = 256 ^ (i % 8) := by rw [hP, hs, Int.pow_mul, hr]; rfl
      have hP0 : 0 < P := by rw [hP]; exact pow_pos_ (by omega) s
      have hP9 : P ≤ 72057594037927936 := by
        have := pow_le_pow_ (B := 2) (by omega) hs56
        rw [hP]; exact this
      have hdP : d * P ≤ 255 * P := Int.mul_le_mul_of_nonneg_right (by omega) (by omega)
      have hdP0 : 0 ≤ d * P := Int.mul_nonneg hd0 (by omega)
      have hmin : min s 64 = s := by omega
      have hpow : (2 : Int) ^ s = P := hP.symm
      have hwd : IntKind.u64.wrap d = d := IntWalk.u64_in _ (by omega)
      have hws : IntKind.u64.wrap (d * P) = d * P := IntWalk.u64_in _ (by omega)
      have hwq : IntKind.i64.wrap (q : Int) = q := IntWalk.i64_in _ (by omega)
      have hwk : IntKind.i64.wrap (k : Int) = k := IntWalk.i64_in _ (by omega)
      have hwss : IntKind.i64.wrap (s : Int) = s := IntWalk.i64_in _ (by omega)
      have hsn : ¬ (s : Int) < 0 := by omega
      have HP := Lib.hid hP
      have HPP := Lib.hid hPP
      have HQ := Lib.hid hq
      have HRR := Lib.hid hr
      clear hP hPP hq hs
      by_cases hr0 : r = 0
      · have hr : i % 8 = 0 := by omega
        have hri0 : (r : Int) = 0 := by omega
        have HR := Lib.hid hr
        clear hr
        have hrb : ((r : Int) == 0) = true := by simp [hr0]
        go_wp2_with (at_builtin; refine wp_app1 rfl (.tmp 20) (.tmp 21) _ rfl .u64 _ 8 ty_uints (by omega) w [] _ _ _ rfl hown hf rfl HWL.out ?_; intro v' w' hown' hf')
        clear cA
        have cA := (HSA.out.fr hf' (by simp)) k (by rw [← HN.out]; omega)
        rw [← HDK.out] at cA
        obtain ⟨L, hLe⟩ : ∃ L, L = ws ++ [0] := ⟨_, rfl⟩
        rw [← hLe] at hown'
        have hLl : L.length = q + 1 := by rw [hLe, List.length_append, HL.out, ← HQ.out]; have := HR.out; simp; omega
        obtain ⟨g, cap', rfl, hg, hlc, hcm, hcell, hfz⟩ := hown'.addr (by omega)
        have cL := hcell q (by omega)
        have fL := hfz q
        obtain ⟨y, hy⟩ : ∃ y, y = L.getD q 0 := ⟨_, rfl⟩
        rw [← hy] at cL
        have hy0' : L.getD q 0 = 0 := by
          have e : ws.length = q := by rw [HL.out, ← HQ.out]; have := HR.out; omega
          subst e; rw [hLe]; simp [List.getD_eq_getElem?_getD]
        have hyb : y < 256 ^ (i % 8) := by rw [hy, hy0']; exact pow_pos_ (by omega) _
        have hdgL : DG 18446744073709551616 L := by rw [hLe]; exact HDG.out.append (DG.cons (by omega) (by omega) (DG.nil _))
        have hvL : val 18446744073709551616 L = val 256 (bs.reverse.take i) := by rw [hLe, val_snoc, HV.out]; simp
        have HDGL := Lib.hid hdgL
        have HVL := Lib.hid hvL
        have HYB := Lib.hid hyb
        have hy0 : 0 ≤ y := by rw [hy]; exact (hdgL.getD (by omega) _).1
        have ho : bits .or .u64 y (d * P) = y + d * P := by
          rw [HP.out]; exact or_lo64 s hy0 (by have := HPP.out; have := HP.out; omega) hd0 (by rw [← HP.out]; omega) (by omega)
        have HO := Lib.hid ho
        have HY := Lib.hid hy
        have HLl := Lib.hid hLl
        have hql : (q : Int) < (L.length : Int) := by omega
        have hq0 : 0 ≤ (q : Int) := by omega
        unfold maxLen at hcm
        clear hy hLl hcell hfz hyb ho hy0 hdgL hvL hLe hy0'
        go_region
        go_wp2_with fail
        go_roundg (N - (i + 1))
        case measure => have := HN.out; omega
        case rel =>
          refine ofBRel_next (hN := HN.out) (y := y) (by have := HN.out; omega) HD.out hd0 hd1 (by rw [HLl.out, HQ.out]) HDGL.out (by rw [HQ.out]; exact HY.out) HYB.out HVL.out (z := bits BinOp.or IntKind.u64 y d) ?_ ?_ ?_
          · have hP1 : P = 1 := by rw [HPP.out, HR.out]; rfl
            have h := HO.out
            rw [hP1, Int.mul_one] at h
            rw [h, HR.out]; simp
          · rw [HQ.out]; exact (hown'.set q _).drewN 1
          · exact (hf'.set (.inr hg) _).drewN 1
      · have hri0 : ¬ (r : Int) = 0 := by omega
        have HR := Lib.hid (show i % 8 ≠ 0 by omega)
        clear hr
        obtain ⟨L, hLe⟩ : ∃ L, L = ws := ⟨_, rfl⟩
        have hown' := hown
        have hf' := hf
        rw [← hLe] at hown'
        have hLl : L.length = q + 1 := by rw [hLe, HL.out, ← HQ.out]; have := HR.out; omega
        obtain ⟨g, cap', rfl, hg, hlc, hcm, hcell, hfz⟩ := hown'.addr (by omega)
        have cL := hcell q (by omega)
        have fL := hfz q
        obtain ⟨y, hy⟩ : ∃ y, y = L.getD q 0 := ⟨_, rfl⟩
        rw [← hy] at cL
        have hyb : y < 256 ^ (i % 8) := by rw [hy, hLe, ← HQ.out]; exact HLA.out HR.out
        have hdgL : DG 18446744073709551616 L := by rw [hLe]; exact HDG.out
        have hvL : val 18446744073709551616 L = val 256 (bs.reverse.take i) := by rw [hLe, HV.out]
        have HDGL := Lib.hid hdgL
        have HVL := Lib.hid hvL
        have HYB := Lib.hid hyb
        have hy0 : 0 ≤ y := by rw [hy]; exact (hdgL.getD (by omega) _).1
        have ho : bits .or .u64 y (d * P) = y + d * P := by
          rw [HP.out]; exact or_lo64 s hy0 (by have := HPP.out; have := HP.out; omega) hd0 (by rw [← HP.out]; omega) (by omega)
        have HO := Lib.hid ho
        have HY := Lib.hid hy
        have HLl := Lib.hid hLl
        have hql : (q : Int) < (L.length : Int) := by omega
        have hq0 : 0 ≤ (q : Int) := by omega
        unfold maxLen at hcm
        clear hy hLl hcell hfz hyb ho hy0 hdgL hvL hLe hown hf
        go_wp2_with fail
        go_region
        go_wp2_with fail
        go_roundg (N - (i + 1))
        case measure => have := HN.out; omega
        case rel =>
          refine ofBRel_next (hN := HN.out) (y := y) (by have := HN.out; omega) HD.out hd0 hd1 (by rw [HLl.out, HQ.out]) HDGL.out (by rw [HQ.out]; exact HY.out) HYB.out HVL.out (z := bits BinOp.or IntKind.u64 y (d * P)) ?_ ?_ ?_
          · rw [HO.out, HPP.out]
          · rw [HQ.out]; exact (hown'.set q _).drewN 1
          · exact (hf'.set (.inr hg) _).drewN 1
    · obtain rfl : i = N := by omega
      have hv := HV.out
      rw [List.take_of_length_le (by rw [List.length_reverse, ← HN.out]; exact Nat.le_refl _)] at hv
      have C := Lib.hid (of_any _ ws wr hown.sl HDG.out (by have := HL.out; omega))
      rw [hv] at C
      clear hv
      go_wp2_with (go_at_call 22; refine (Hid.out C).mono ?_; rintro e w2 ⟨v2, rfl, sn2, f2⟩)
      go_ret
      exact ⟨_, rfl, sn2, hf.t f2⟩
theorem val_bytes_BIG {bs : List Int} (hd : DG 256 bs) (hl : bs.length ≤ 1000000) : val 256 bs.reverse < BIG := by
  have h := val_lt (B := 256) (by omega) (rev_dg hd)
  rw [List.length_reverse] at h
  have h2 := pow_le_pow_ (B := 256) (by omega) (show bs.length ≤ 8 * bs.length by omega)
  have e : (256 : Int) ^ (8 * bs.length) = 18446744073709551616 ^ bs.length := by rw [Int.pow_mul]; rfl
  exact lt_BIG64 bs.length (by omega) hl


set_option maxRecDepth 100000 in
theorem implSetBytes_any (v : Value) (bs : List Int) (w : World) (hx : Sl .u8 w v bs) (hd : DG 256 bs) (hl : bs.length ≤ 1000000) :
    Calls Try.prog 31 #[v] w (RetW (val 256 bs.reverse) w) := by
  have HD := Lib.hid hd
  have HX := Lib.hid hx
  have hB : val 256 bs.reverse < BIG := val_bytes_BIG hd hl
  obtain ⟨V, hV⟩ : ∃ V, V = val 256 bs.reverse := ⟨_, rfl⟩
  have C2 := Lib.hid (fun v W (h : Sl .u8 W v bs) => setBytes_any v bs W h hd hl)
  simp only [← hV] at C2 hB ⊢
  clear hd hx hV
  go_enter Try.func31, Try.ntmps31
  go_wp2_with (first
    | (go_at_call 72; refine (clone8_any v bs _ HX.out hl).mono ?_; rintro e w1 ⟨v1, rfl, sl1, f1⟩)
    | (go_at_call 71; go_in)
    | (go_at_call 99; refine (C2.out _ _ sl1).mono ?_; rintro e w2 ⟨v2, rfl, sw2, f2⟩)
    | (go_at_call 97; refine (zzOutW_any _ V _ sw2 hB).mono ?_; rintro e w3 ⟨v3, rfl, sw3, f3⟩))
  go_ret
  exact ⟨v3, rfl, sw3, (f1.t f2).t f3⟩
set_option maxRecDepth 100000 in
set_option maxHeartbeats 1000000 in
theorem law_FnSetBytes (v : Value) (bs : List Int) (w : World) (hx : Sl .u8 w v bs) (hd : DG 256 bs) :
    Calls Try.prog 6 #[v] w fun e w' => e = .returned (.bool true) ∧ Fr [] w w' := by
  have HX := Lib.hid hx
  have HD := Lib.hid hd
  obtain ⟨A, cap, rfl, hlc, hm, hsrc⟩ := hx
  unfold maxLen at hm
  obtain ⟨N, hN⟩ : ∃ N, N = bs.length := ⟨_, rfl⟩
  have HN := Lib.hid hN
  rw [← hN] at hlc ⊢
  rw [← hN] at HX
  clear hsrc hd
  by_cases h1 : 2147483647 < N
  · clear hN
    go_enter Try.func6, Try.ntmps6
    go_wp2_with fail
    go_ret
    exact ⟨rfl, Fr.refl _ _⟩
  by_cases h2 : 2000 < N
  · clear hN
    go_enter Try.func6, Try.ntmps6
    go_wp2_with fail
    go_ret
    exact ⟨rfl, Fr.refl _ _⟩
  have hl : bs.length ≤ 1000000 := by omega
  have hB : val 256 bs.reverse < BIG := val_bytes_BIG HD.out hl
  have C1 := Lib.hid (implSetBytes_any _ bs w HX.out HD.out hl)
  have C2 := Lib.hid (fun W (h : Sl .u8 W (.slice A N cap) bs) => ofBytes_any _ bs W h HD.out hl)
  have C3 := Lib.hid (fun W => implSetBytes_any _ [1] (W.alloc (.cells #[.int .u8 1] 5)) (row1 W _ _ _) (DG.cons (by omega) (by omega) (DG.nil _)) (by simp))
  obtain ⟨V, hV⟩ : ∃ V, V = val 256 bs.reverse := ⟨_, rfl⟩
  simp only [← hV] at C1 C2 hB
  rw [show val 256 ([1] : List Int).reverse = 1 by simp [val_cons, val_nil]] at C3
  clear hN hl hV
  have T1 : True := trivial
  go_enter Try.func6, Try.ntmps6
  go_wp2_with (first
    | (go_at_call 31; clear T1; refine (Hid.out C1).mono ?_; rintro e w1 ⟨v1, rfl, sw1, f1⟩)
    | (go_at_call 28; refine (C2.out _ (HX.out.fr0 f1)).mono ?_; rintro e w2 ⟨v2, rfl, sn2, f2⟩)
    | (go_at_call 29; refine (exact_any _ _ V _ (sw1.fr0 f2) sn2 hB).mono ?_; rintro e w3 ⟨rfl, f3⟩)
    | (go_at_call 31; refine (C3.out _).mono ?_; rintro e w4 ⟨v4, rfl, sw4, f4⟩; obtain ⟨A4, c4, rfl⟩ := sw4.one))
  go_ret
  exact ⟨rfl, (((f1.t f2).t f3).alloc _).t f4⟩
end Go.Proofs.Ytjapebgihnahjaa
