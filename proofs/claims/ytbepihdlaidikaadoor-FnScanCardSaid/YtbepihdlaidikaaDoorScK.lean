/-
  nat.scan over a strings.Reader, bases 2, 4, 16. Conditions: the reader's cells; io.EOF and errNoDigits read as laid.
-/
import Derived.Test.YtbepihdlaidikaaDoorScT
set_option linter.unusedSimpArgs false
set_option linter.unusedVariables false
namespace Go.Proofs.YtbepihdlaidikaaDoor
open Go.Big Go.RowKit
/-- at the loop's head, digits that fit words whole -/
structure SkI (p : Nat) (s : ByteArray) (b : Int) (n : Nat) (w0 : World) (k i : Nat) (di : Int) (v : Value) (zs : List Int) (wr : World) : Prop where
  fr : Fr [p] w0 wr
  z : AppZ .u64 48 w0 wr v zs
  zd : DG 18446744073709551616 zs
  zl : zs.length ≤ k
  ev : bigE zs * b ^ i + di = figs b ((bytesL s).take k)
  d0 : 0 ≤ di
  d1 : di < b ^ i
  il : i < n
  dg : ∀ j, j < k → digC b (byteAt s j) < b
  kl : k ≤ s.size
theorem SkI.rd {p : Nat} {s : ByteArray} {b : Int} {n : Nat} {w0 : World} {k i : Nat} {di : Int} {v : Value} {zs : List Int} {wr w1 : World} (I : SkI p s b n w0 k i di v zs wr) (hp : p < w0.heap.size) (f : Fr [p] wr w1) : SkI p s b n w0 k i di v zs w1 :=
  ⟨I.fr.trans f (fun x hx _ => hx), I.z.fr f (by simp; exact hp), I.zd, I.zl, I.ev, I.d0, I.d1, I.il, I.dg, I.kl⟩
theorem sk_next1 {p : Nat} {s : ByteArray} {b dv : Int} {n : Nat} {w0 : World} {k i : Nat} {di : Int} {v : Value} {zs : List Int} {wr : World} (I : SkI p s b n w0 k i di v zs wr) (hk : k < s.size) (hdv : dv = digC b (byteAt s k)) (hb2 : 2 ≤ b) (hd : dv < b) (hin : i + 1 < n) : SkI p s b n w0 (k + 1) (i + 1) (di * b + dv) v zs wr := by
  have hdb := digC_bd b (byteAt s k)
  have hsd := scan_di hb2 I.d0 I.d1 (show 0 ≤ dv by rw [hdv]; exact hdb.1) hd
  refine ⟨I.fr, I.z, I.zd, by have := I.zl; omega, ?_, hsd.1, hsd.2, hin, fun j hj => ?_, hk⟩
  · rw [Int.pow_succ]
    exact scan_step I.ev (by rw [figs_take (by rw [bytesL_len]; exact hk), bytesL_get s hk, ← hdv])
  · rcases (show j < k ∨ j = k by omega) with h | rfl
    · exact I.dg j h
    · rw [← hdv]; exact hd
theorem sk_next2 {p : Nat} {s : ByteArray} {b dv : Int} {n : Nat} {w0 : World} {k i : Nat} {di : Int} {v v' : Value} {zs : List Int} {wr w6 : World} (I : SkI p s b n w0 k i di v zs wr) (hk : k < s.size) (hdv : dv = digC b (byteAt s k)) (hb2 : 2 ≤ b) (hd : dv < b) (hin : i + 1 = n) (hbn : b ^ n = 18446744073709551616)
    (hz : AppZ .u64 48 w0 w6 v' (zs ++ [di * b + dv])) (hf : FrB w0.heap.size wr w6) : SkI p s b n w0 (k + 1) 0 0 v' (zs ++ [di * b + dv]) w6 := by
  have hdb := digC_bd b (byteAt s k)
  have hsd := scan_di hb2 I.d0 I.d1 (show 0 ≤ dv by rw [hdv]; exact hdb.1) hd
  rw [hin, hbn] at hsd
  refine ⟨hf.fr I.fr, hz, I.zd.append (DG.cons hsd.1 hsd.2 (DG.nil _)), by have := I.zl; simp; omega, ?_, by omega, by rw [Int.pow_zero]; omega, by omega, fun j hj => ?_, hk⟩
  · rw [Int.pow_zero, Int.mul_one, Int.add_zero, bigE_snoc, ← hbn, ← hin, Int.pow_succ]
    exact scan_step I.ev (by rw [figs_take (by rw [bytesL_len]; exact hk), bytesL_get s hk, ← hdv])
  · rcases (show j < k ∨ j = k by omega) with h | rfl
    · exact I.dg j h
    · rw [← hdv]; exact hd
def SkJ (ea : Addr) (p : Nat) (s : ByteArray) (b : Int) (n : Nat) (w0 : World) (g : Nat) (v0 v3 v10 v11 v13 v14 v15 v20 v21 v22 : Value) (wr : World) : Prop :=
  ∃ (v : Value) (k i : Nat) (di : Int) (zs : List Int) (pv ch : Int), v = v0 ∧ g = s.size + 1 - k ∧ v3 = .bool false ∧ v14 = .bool false ∧ v22 = .int .i64 (-1) ∧ v10 = .int .i64 (k : Int) ∧ v13 = .int .i32 pv ∧ v15 = .int .u8 ch ∧ v20 = .int .u64 di ∧ v21 = .int .i64 (i : Int) ∧ pv ≠ 95 ∧ SkI p s b n w0 k i di v zs wr ∧ RdS ea p s k ch v11 wr
/-- behind the loop -/
def SkX (ea : Addr) (p : Nat) (s : ByteArray) (b : Int) (n : Nat) (w0 : World) (v0 v3 v10 v11 v13 v14 v15 v20 v21 v22 v23 : Value) (wr : World) : Prop :=
  ∃ (v : Value) (k i : Nat) (di : Int) (zs : List Int) (pv : Int), v = v0 ∧ v3 = .bool false ∧ v14 = .bool false ∧ v22 = .int .i64 (-1) ∧ v10 = .int .i64 (k : Int) ∧ v13 = .int .i32 pv ∧ v20 = .int .u64 di ∧ v21 = .int .i64 (i : Int) ∧ pv ≠ 95 ∧ SkI p s b n w0 k i di v zs wr ∧
    ((k = s.size ∧ v11 = .iface 92 (.pointer (some ea)) ∧ RdAt wr p s k (-1)) ∨ (k < s.size ∧ b ≤ digC b (byteAt s k) ∧ v11 = .nilIface ∧ RdAt wr p s k (-1)))
theorem RdAt.frB {w w1 : World} {p i N : Nat} {s : ByteArray} {pr : Int} (h : RdAt w p s i pr) (f : FrB N w w1) (hp : p < N) : RdAt w1 p s i pr := (f.block p hp).trans h
theorem ty_natW : IntTy Tryd.prog .u64 36 48 8 := ⟨Tryd.underlying36, by kernel_rfl⟩
theorem sk_fin {b : Int} {kb n i : Nat} (Z di : Int) (hW : b ^ n = 18446744073709551616) (hbk : (b = 2 ∧ kb = 1 ∧ n = 64) ∨ (b = 4 ∧ kb = 2 ∧ n = 32) ∨ (b = 16 ∧ kb = 4 ∧ n = 16)) (hi : i ≤ n) : (Z * 18446744073709551616 + di * b ^ (n - i)) / 2 ^ ((n - i) * kb) = Z * b ^ i + di :=
  Go.Big.scan_pack (W := 0) hW (by rcases hbk with ⟨rfl, rfl, _⟩ | ⟨rfl, rfl, _⟩ | ⟨rfl, rfl, _⟩ <;> rfl) hi
set_option maxRecDepth 100000 in
set_option maxHeartbeats 8000000 in
theorem scan_pack {w : World} {p : Nat} {s : ByteArray} {pr b : Int} {kb n : Nat} {T2 : TypeId} {ea na : Addr} (h : RdAt w p s 0 pr) (hs0 : 0 < s.size) (hs : s.size ≤ 3000) (hbk : (b = 2 ∧ kb = 1 ∧ n = 64) ∨ (b = 4 ∧ kb = 2 ∧ n = 32) ∨ (b = 16 ∧ kb = 4 ∧ n = 16)) (he : EofAt w 92 ea) (hp : p ≠ 0) (hn : w.cell? ⟨2, 0, none⟩ = some (.iface T2 (.pointer (some na)))) (hp2 : p ≠ 2) :
    Calls Tryd.prog 21 #[.slice none 0 0, .iface 44 (.pointer (some ⟨p, 0, none⟩)), .int .i64 b, .bool false] w (ScanPost p s b w) := by
  have hm1 := rd_method
  have hm2 := rd_call
  have hm3 := un_method
  have hm4 := un_call
  have hm5 := eof_eql
  have hm6 := nil_eql
  have CR := Lib.hid (readByte_any h (by omega) (by omega) he hp)
  have hplt := h.lt
  have HE := Lib.hid he
  have HN := Lib.hid hn
  have hb2 : 2 ≤ b := by omega
  have hb62 : b ≤ 62 := by omega
  have hn64 : n ≤ 64 ∧ 16 ≤ n := by omega
  obtain ⟨hn64, hn16⟩ := hn64
  have HBW := Lib.hid (show b ^ n = 18446744073709551616 by rcases hbk with ⟨rfl, _, rfl⟩ | ⟨rfl, _, rfl⟩ | ⟨rfl, _, rfl⟩ <;> rfl)
  have HBK := Lib.hid hbk
  have e0 : (b == 0) = false := by rw [beq_eq_false_iff_ne]; omega
  have ew : IntKind.u64.wrap b = b := by rw [IntKind.wrap_u64]; omega
  clear h he hn hbk
  go_enter Tryd.func21, Tryd.ntmps21
  go_upto_block 1 with (first
    | (go_at_call 63; refine (CR.out).mono ?_; rintro e w1 ⟨ch, err, rfl, hr, hf⟩; have HR := Lib.hid hr; have HF := Lib.hid hf; clear hr hf))
  go_cut [18, 19] from 107 to 117 (fun v18 v19 wx => v18 = .int .u64 0 ∧ v19 = .int .i64 (n : Int) ∧ w1 = wx)
  case first =>
    rcases HBK.out with ⟨rfl, _, rfl⟩ | ⟨rfl, _, rfl⟩ | ⟨rfl, _, rfl⟩
    · go_wp2_with fail
      go_meet
      exact ⟨rfl, rfl, rfl⟩
    · go_wp2_with fail
      go_meet
      exact ⟨rfl, rfl, rfl⟩
    · go_wp2_with fail
      go_meet
      exact ⟨rfl, rfl, rfl⟩
  obtain ⟨rfl, rfl, rfl⟩ := hcut
  go_upto_block 2 with fail
  go_cut [0, 3, 10, 11, 13, 14, 15, 20, 21, 22, 23] from 118 to 206 (SkX ea p s b n w)
  case first =>
    go_wp2_with fail
    go_loopg [0, 3, 10, 11, 13, 14, 15, 20, 21, 22] (s.size + 1) (SkJ ea p s b n w)
    case atStart => exact ⟨_, 0, 0, 0, [], 46, ch, rfl, rfl, rfl, rfl, rfl, rfl, rfl, rfl, rfl, rfl, by omega, ⟨HF.out, AppZ.nil _ _ _ _, DG.nil _, Nat.zero_le _, by rw [List.take_zero, figs_nil, bigE_nil, Int.zero_mul, Int.add_zero], by omega, by rw [Int.pow_zero]; omega, by omega, fun j hj => by omega, Nat.zero_le _⟩, HR.out⟩
    case round =>
      obtain ⟨v, k, i, di, zs, pv, ch', rfl, rfl, rfl, rfl, rfl, rfl, rfl, rfl, rfl, rfl, hpv, hi, hrd⟩ := hrel
      have I := Lib.hid hi
      have hkl := hi.kl
      have hil := hi.il
      have hzl := hi.zl
      have hd0 := hi.d0
      have hfs := hi.fr.size
      clear hi HR
      rcases hrd with ⟨hk, hch, rfl, hr⟩ | ⟨hk, hch, rfl, hr⟩
      · have HRD := Lib.hid hr
        have hcb := byteAt_bd s k
        rw [← hch] at hcb
        obtain ⟨hcb0, hcb1⟩ := hcb
        have HCH := Lib.hid hch
        clear hr hch
        go_upto_region 47 with fail
        go_cut [124] from 120 to 124 (fun v wx => ScCut (.bool false) (fun wx => wr = wx) v wx)
        case first =>
          by_cases h46 : ch' = 46
          · subst h46
            go_wp2_with fail
            go_meet
            exact ⟨rfl, rfl⟩
          · have hb46 : (ch' == 46) = false := by rw [beq_eq_false_iff_ne]; exact h46
            go_wp2_with fail
            go_meet
            exact ⟨rfl, rfl⟩
        case rest =>
          obtain ⟨rfl, rfl⟩ := hcut
          go_upto_region 53 with fail
          go_cut [133] from 128 to 133 (fun v wx => ScCut (.bool false) (fun wx => wr = wx) v wx)
          case first =>
            by_cases h95 : ch' = 95
            · subst h95
              go_wp2_with fail
              go_meet
              exact ⟨rfl, rfl⟩
            · have hb95 : (ch' == 95) = false := by rw [beq_eq_false_iff_ne]; exact h95
              go_wp2_with fail
              go_meet
              exact ⟨rfl, rfl⟩
          case rest =>
            obtain ⟨rfl, rfl⟩ := hcut
            obtain ⟨dv, hdv⟩ : ∃ x, x = digC b ch' := ⟨_, rfl⟩
            have HDV := Lib.hid hdv
            have hdb := digC_bd b ch'
            rw [← hdv] at hdb
            obtain ⟨hdb0, hdb1⟩ := hdb
            clear hdv
            go_upto_block 4 with fail
            go_cut [23] from 136 to 173 (fun v wx => ScCut (.int .u64 dv) (fun wx => wr = wx) v wx)
            case first =>
              by_cases h1 : 48 ≤ ch' ∧ ch' ≤ 57
              · obtain ⟨h1, h2⟩ := h1
                obtain rfl : dv = ch' - 48 := by rw [HDV.out]; unfold digC; rw [if_pos ⟨h1, h2⟩]
                have u1 : IntKind.u8.wrap (ch' - 48) = ch' - 48 := by rw [IntKind.wrap_u8]; omega
                have u2 : IntKind.u64.wrap (ch' - 48) = ch' - 48 := by rw [IntKind.wrap_u64]; omega
                go_wp2_with fail
                go_meet
                exact ⟨rfl, rfl⟩
              · by_cases h3 : 97 ≤ ch' ∧ ch' ≤ 122
                · obtain ⟨h3, h4⟩ := h3
                  have h5 : 48 ≤ ch' := by omega
                  have h6 : ¬ ch' ≤ 57 := by omega
                  obtain rfl : dv = ch' - 97 + 10 := by rw [HDV.out]; unfold digC; rw [if_neg h1, if_pos ⟨h3, h4⟩]; omega
                  have u1 : IntKind.u8.wrap (ch' - 97) = ch' - 97 := by rw [IntKind.wrap_u8]; omega
                  have u2 : IntKind.u8.wrap (ch' - 97 + 10) = ch' - 97 + 10 := by rw [IntKind.wrap_u8]; omega
                  have u3 : IntKind.u64.wrap (ch' - 97 + 10) = ch' - 97 + 10 := by rw [IntKind.wrap_u64]; omega
                  clear h1
                  go_wp2_with fail
                  go_meet
                  exact ⟨rfl, rfl⟩
                · by_cases h7 : 65 ≤ ch' ∧ ch' ≤ 90
                  · obtain ⟨h7, h8⟩ := h7
                    have h5 : 48 ≤ ch' := by omega
                    have h6 : ¬ ch' ≤ 57 := by omega
                    have h9 : ¬ 97 ≤ ch' := by omega
                    have u1 : IntKind.u8.wrap (ch' - 65) = ch' - 65 := by rw [IntKind.wrap_u8]; omega
                    by_cases h10 : b ≤ 36
                    · obtain rfl : dv = ch' - 65 + 10 := by rw [HDV.out]; unfold digC; rw [if_neg h1, if_neg h3, if_pos ⟨h7, h8⟩, if_pos h10]; omega
                      have u2 : IntKind.u8.wrap (ch' - 65 + 10) = ch' - 65 + 10 := by rw [IntKind.wrap_u8]; omega
                      have u3 : IntKind.u64.wrap (ch' - 65 + 10) = ch' - 65 + 10 := by rw [IntKind.wrap_u64]; omega
                      clear h1 h3
                      go_wp2_with fail
                      go_meet
                      exact ⟨rfl, rfl⟩
                    · obtain rfl : dv = ch' - 65 + 36 := by rw [HDV.out]; unfold digC; rw [if_neg h1, if_neg h3, if_pos ⟨h7, h8⟩, if_neg h10]; omega
                      have u2 : IntKind.u8.wrap (ch' - 65 + 36) = ch' - 65 + 36 := by rw [IntKind.wrap_u8]; omega
                      have u3 : IntKind.u64.wrap (ch' - 65 + 36) = ch' - 65 + 36 := by rw [IntKind.wrap_u64]; omega
                      clear h1 h3
                      go_wp2_with fail
                      go_meet
                      exact ⟨rfl, rfl⟩
                  · obtain rfl : dv = 63 := by rw [HDV.out]; unfold digC; rw [if_neg h1, if_neg h3, if_neg h7]
                    rcases (show ch' < 48 ∨ (57 < ch' ∧ ch' < 65) ∨ (90 < ch' ∧ ch' < 97) ∨ 122 < ch' by omega) with hh | ⟨hh, hh'⟩ | ⟨hh, hh'⟩ | hh
                    · have q1 : ¬ 48 ≤ ch' := by omega
                      have q2 : ¬ 97 ≤ ch' := by omega
                      have q3 : ¬ 65 ≤ ch' := by omega
                      clear h1 h3 h7
                      go_wp2_with fail
                      go_meet
                      exact ⟨rfl, rfl⟩
                    · have q1 : 48 ≤ ch' := by omega
                      have q4 : ¬ ch' ≤ 57 := by omega
                      have q2 : ¬ 97 ≤ ch' := by omega
                      have q3 : ¬ 65 ≤ ch' := by omega
                      clear h1 h3 h7
                      go_wp2_with fail
                      go_meet
                      exact ⟨rfl, rfl⟩
                    · have q1 : 48 ≤ ch' := by omega
                      have q4 : ¬ ch' ≤ 57 := by omega
                      have q2 : ¬ 97 ≤ ch' := by omega
                      have q3 : 65 ≤ ch' := by omega
                      have q5 : ¬ ch' ≤ 90 := by omega
                      clear h1 h3 h7
                      go_wp2_with fail
                      go_meet
                      exact ⟨rfl, rfl⟩
                    · have q1 : 48 ≤ ch' := by omega
                      have q4 : ¬ ch' ≤ 57 := by omega
                      have q2 : 97 ≤ ch' := by omega
                      have q6 : ¬ ch' ≤ 122 := by omega
                      have q3 : 65 ≤ ch' := by omega
                      have q5 : ¬ ch' ≤ 90 := by omega
                      clear h1 h3 h7
                      go_wp2_with fail
                      go_meet
                      exact ⟨rfl, rfl⟩
            case rest =>
              obtain ⟨rfl, rfl⟩ := hcut
              by_cases hd : dv < b
              · have hdB : decide (b ≤ dv) = false := decide_eq_false (by omega)
                have hsd := scan_di hb2 hd0 I.out.d1 hdb0 hd
                have hpn := powB_le (b := b) (by omega) (show i + 1 ≤ n by omega)
                rw [HBW.out] at hpn
                have hdi0 : 0 ≤ di * b := Int.mul_nonneg hd0 (by omega)
                have w1_ : IntKind.u64.wrap (di * b) = di * b := by rw [IntKind.wrap_u64]; omega
                obtain ⟨dn, hdn⟩ : ∃ x, x = di * b + dv := ⟨_, rfl⟩
                have w2_ : IntKind.u64.wrap (di * b + dv) = dn := by rw [IntKind.wrap_u64]; omega
                have CRB := Lib.hid (fun (W : World) (hW : RdAt W p s (k + 1) (-1)) (hf : Fr [p] w W) => readByte_any hW (show k + 1 ≤ s.size by omega) (by omega) (HE.out.fr hf hp) hp)
                have HDN := Lib.hid hdn
                have HDD := Lib.hid hd
                have HDVK := Lib.hid (show dv = digC b (byteAt s k) by rw [HDV.out, HCH.out])
                clear hsd hpn hdi0 hdn
                go_upto_if 176 with fail
                try simp only [hdB]
                go_upto_if 190 with fail
                by_cases hin : i + 1 = n
                · have hinb : (((i : Int) + 1) == (n : Int)) = true := by rw [beq_iff_eq]; omega
                  have HIN := Lib.hid hin
                  have HZI := Lib.hid I.out.z
                  try simp only [hinb]
                  clear hin hdB hd
                  go_wp2_with (first
                    | (refine wp_appZ rfl (.tmp 193) (.tmp 195) _ rfl .u64 48 8 ty_natW (by omega) v zs dn rfl HZI.out hfs rfl (by omega) ?_; intro v' w6 hz6 hf6; have SI := Lib.hid (sk_next2 I.out hk HDVK.out hb2 HDD.out HIN.out HBW.out (by rw [← HDN.out]; exact hz6) hf6); have M8 := Lib.hid (HRD.out.frB hf6 hplt); clear hz6 hf6)
                    | (go_at_call 63; refine (CRB.out _ M8.out SI.out.fr).mono ?_; rintro e w7 ⟨ch2, err2, rfl, r7, f7⟩; have R7 := Lib.hid r7; have S7 := Lib.hid (SI.out.rd hplt f7); clear r7 f7))
                  go_roundg (s.size + 1 - (k + 1))
                  case measure => omega
                  case rel => exact ⟨v', k + 1, 0, 0, _, 48, ch2, rfl, rfl, rfl, rfl, rfl, by first | rfl | go_num, rfl, rfl, rfl, rfl, by omega, S7.out, R7.out⟩
                · have hinb : (((i : Int) + 1) == (n : Int)) = false := by rw [beq_eq_false_iff_ne]; omega
                  have SI := Lib.hid (sk_next1 I.out hk HDVK.out hb2 hd (show i + 1 < n by omega))
                  try simp only [hinb]
                  clear hin hdB hd
                  go_wp2_with (go_at_call 63; refine (CRB.out _ HRD.out SI.out.fr).mono ?_; rintro e w7 ⟨ch2, err2, rfl, r7, f7⟩; have R7 := Lib.hid r7; have S7 := Lib.hid (SI.out.rd hplt f7); clear r7 f7)
                  go_roundg (s.size + 1 - (k + 1))
                  case measure => omega
                  case rel =>
                    have S8 := S7.out
                    rw [← HDN.out] at S8
                    exact ⟨v, k + 1, i + 1, dn, zs, 48, ch2, rfl, rfl, rfl, rfl, rfl, by first | rfl | go_num, rfl, rfl, rfl, by first | rfl | go_num, by omega, S8, R7.out⟩
              · have hdB : decide (b ≤ dv) = true := decide_eq_true (by omega)
                have HBD := Lib.hid (show b ≤ digC b (byteAt s k) by rw [← HCH.out, ← HDV.out]; omega)
                have CU := Lib.hid (unreadByte_any HRD.out (show k ≤ 1000000 by omega))
                clear hd
                go_upto_if 176 with fail
                try simp only [hdB]
                clear hdB
                go_wp2_with (go_at_call 64; refine (CU.out).mono ?_; rintro e w3 ⟨rfl, r3, f3⟩; have R3 := Lib.hid r3; clear r3)
                go_meet
                exact ⟨v, k, i, di, zs, pv, rfl, rfl, rfl, rfl, rfl, rfl, rfl, rfl, hpv, I.out.rd hplt f3, .inr ⟨hk, HBD.out, rfl, R3.out⟩⟩
      · have HRD := Lib.hid hr
        have HK := Lib.hid hk
        clear hr hk hch
        go_wp2_with fail
        go_meet
        exact ⟨v, k, i, di, zs, pv, rfl, rfl, rfl, rfl, rfl, rfl, rfl, rfl, hpv, I.out, .inl ⟨HK.out, rfl, HRD.out⟩⟩
  case rest =>
    obtain ⟨v, k, i, di, zs, pv, rfl, rfl, rfl, rfl, rfl, rfl, rfl, rfl, hpv, hi, hx⟩ := hcut
    have I := Lib.hid hi
    have hkl := hi.kl
    have hil := hi.il
    have hzl := hi.zl
    have hd0 := hi.d0
    have hd1 := hi.d1
    have hfs := hi.fr.size
    have hpvb : (pv == 95) = false := by rw [beq_eq_false_iff_ne]; exact hpv
    have hbp : 0 < b ^ i := pow_pos_ (by omega) i
    have hbi : b ^ i < 18446744073709551616 := by
      have h1 := powB_le (b := b) (by omega) (show i + 1 ≤ n by omega)
      rw [HBW.out, Int.pow_succ] at h1
      have h2 : b ^ i * 2 ≤ b ^ i * b := Int.mul_le_mul_of_nonneg_left hb2 (by omega)
      omega
    obtain ⟨m, hm⟩ : ∃ m, m = n - i := ⟨_, rfl⟩
    have hmI : (n : Int) - (i : Int) = (m : Int) := by omega
    have hm0 : 0 < m ∧ m ≤ n := by omega
    obtain ⟨hm0, hmn⟩ := hm0
    obtain ⟨bm, hbm⟩ : ∃ x, x = b ^ m := ⟨_, rfl⟩
    have hbm0 : 0 < bm := by rw [hbm]; exact pow_pos_ (by omega) m
    have hbim : b ^ i * bm = 18446744073709551616 := by rw [hbm, ← Int.pow_add, ← HBW.out]; congr 1; omega
    have hdW : 0 ≤ di * bm ∧ di * bm < 18446744073709551616 := by
      refine ⟨Int.mul_nonneg hd0 (by omega), ?_⟩
      have h1 : (di + 1) * bm ≤ b ^ i * bm := Int.mul_le_mul_of_nonneg_right (by omega) (by omega)
      have h2 : (di + 1) * bm = di * bm + bm := by grind
      omega
    obtain ⟨Y, hY⟩ : ∃ x, x = di * bm := ⟨_, rfl⟩
    obtain ⟨hY0, hY1⟩ := hdW
    rw [← hY] at hY0 hY1
    have wY : IntKind.u64.wrap (di * bm) = Y := by rw [IntKind.wrap_u64]; omega
    have hkb : 1 ≤ kb ∧ n * kb = 64 := by rcases HBK.out with ⟨_, rfl, rfl⟩ | ⟨_, rfl, rfl⟩ | ⟨_, rfl, rfl⟩ <;> omega
    have hkb4 : kb ≤ 4 := by rcases HBK.out with ⟨_, rfl, rfl⟩ | ⟨_, rfl, rfl⟩ | ⟨_, rfl, rfl⟩ <;> omega
    have HKB := Lib.hid hkb
    have hq : (64 : Int).tdiv (n : Int) = (kb : Int) := by rcases HBK.out with ⟨_, rfl, rfl⟩ | ⟨_, rfl, rfl⟩ | ⟨_, rfl, rfl⟩ <;> rfl
    have hmk : m * kb + i * kb = 64 := by rw [← Nat.add_mul, show m + i = n by omega]; exact HKB.out.2
    obtain ⟨sh, hsh⟩ : ∃ x, x = m * kb := ⟨_, rfl⟩
    have hshI : (m : Int) * (kb : Int) = (sh : Int) := by rw [hsh]; simp
    have hsh0 : 0 < sh := by rw [hsh]; exact Nat.mul_pos hm0 hkb.1
    have hsh1 : i ≠ 0 → sh < 64 := fun h0 => by have : 0 < i * kb := Nat.mul_pos (by omega) hkb.1; omega
    have wm : IntKind.u64.wrap (m : Int) = (m : Int) := by rw [IntKind.wrap_u64]; omega
    have wkb : IntKind.u64.wrap (kb : Int) = (kb : Int) := by rw [IntKind.wrap_u64]; omega
    have wsh : IntKind.u64.wrap (sh : Int) = (sh : Int) := by rw [IntKind.wrap_u64]; omega
    have HSH := Lib.hid hsh1
    have CP0 : ∀ W, Calls Tryd.prog 24 #[.int .u64 b, .int .i64 (m : Int)] W fun e w' => e = .returned (.int .u64 (b ^ m % 18446744073709551616)) ∧ W = w' := fun W => pow_any b m W (by omega) (by omega) (by omega)
    have HFIN := Lib.hid (show (bigE zs * 18446744073709551616 + Y) / 2 ^ sh = figs b ((bytesL s).take k) from by
      rw [hY, hbm, hsh, hm]
      exact (sk_fin (bigE zs) di HBW.out HBK.out (Nat.le_of_lt hil)).trans hi.ev)
    have CP : i ≠ 0 → ∀ W, Calls Tryd.prog 24 #[.int .u64 b, .int .i64 (m : Int)] W fun e w' => e = .returned (.int .u64 bm) ∧ W = w' := fun h0 W => by
      have h := CP0 W
      have h1 : b ^ m < 18446744073709551616 := by
        rw [← hbm]
        have h2 : 2 ≤ b ^ i := by
          have := powB_le (b := b) (by omega) (show 1 ≤ i by omega)
          rw [Int.pow_one] at this; omega
        have h3 : 2 * bm ≤ b ^ i * bm := Int.mul_le_mul_of_nonneg_right h2 (by omega)
        omega
      rw [← hbm] at h h1
      rw [Int.emod_eq_of_lt (by omega) h1] at h
      exact h
    have HCP := Lib.hid CP
    have EI := Lib.hid hi.ev
    have ZD := Lib.hid hi.zd
    have RV0 := Lib.hid (rev_appz hi.z (by omega) hfs)
    clear hi CP0 CP hbm hbim hm hY hkb hmk hsh hsh1 hbp hbi HF HR
    rcases hx with ⟨hk, rfl, hr⟩ | ⟨hk, hbd, rfl, hr⟩
    · have HRD := Lib.hid hr
      have HK := Lib.hid hk
      have ce : wc.cell? ⟨0, 0, none⟩ = some (.iface 92 (.pointer (some ea))) := HE.out.fr I.out.fr hp
      have hk0 : ((k : Int) == 0) = false := by rw [beq_eq_false_iff_ne]; omega
      have EF := Lib.hid (show figs b ((bytesL s).take k) = figs b (bytesL s) by rw [List.take_of_length_le (by rw [bytesL_len]; omega)])
      clear hr hk
      by_cases hi0 : i = 0
      · subst hi0
        obtain ⟨A0, b0, c0, rfl, nb0, cm0, crv0⟩ := RV0.out
        have CRV := Lib.hid crv0
        have hzl9 : zs.length ≤ 1000000 := by omega
        unfold maxLen at cm0
        clear crv0
        go_wp2_with (first
          | (go_at_call 25; refine (CRV.out).mono ?_; rintro e w5 ⟨rfl, n5, f5⟩; have N5 := Lib.hid n5; have F5 := Lib.hid f5; have ZR := Lib.hid (show zs.reverse.length = zs.length from List.length_reverse); clear n5 f5)
          | (go_at_call 26; have CN := normN_any A0 b0 0 c0 zs.reverse _ N5.out (dg_reverse ZD.out); rw [ZR.out] at CN; refine CN.mono ?_; rintro e w6 ⟨⟨us, rfl, g1, g2, g3, g4, g5⟩, rfl⟩; have G1 := Lib.hid g1; have G2 := Lib.hid g2; have G3 := Lib.hid g3; have G4 := Lib.hid g4; clear g1 g2 g3 g4 g5 CN))
        refine bodyPost_ret (v := .tuple #[.slice A0 us.length c0, .int .i64 b, .int .i64 (k : Int), .nilIface]) (by simp [results, Tryd.results21, go_sem]) rfl ⟨A0, us.length, c0, k, .nilIface, rfl, F5.out.fr I.out.fr, ?_⟩
        have hv : SW w5 (.slice A0 us.length c0) (figs b ((bytesL s).take k)) := by
          have h1 := nm_sw G1.out G2.out G3.out
          rw [G4.out] at h1
          have h2 := I.out.d1
          have h3 := EI.out
          rw [Int.pow_zero] at h2 h3
          rw [← h3, show di = 0 by omega, Int.mul_one, Int.add_zero]
          exact h1
        rw [EF.out] at hv
        exact .inl ⟨fun j hj => I.out.dg j (by rw [HK.out]; exact hj), rfl, hv, (by have := (HRD.out.frB F5.out hplt); rwa [HK.out] at this)⟩
      · have hi1 : 0 < (i : Int) := by omega
        have hdI : decide (0 < (i : Int)) = true := decide_eq_true hi1
        have hdN : decide (0 < i) = true := decide_eq_true (by omega)
        have CP := Lib.hid (HCP.out hi0)
        have hsh64 := HSH.out hi0
        clear hi0
        have HZI := Lib.hid I.out.z
        clear hi1
        go_upto_if 231 with fail
        first | simp only [hdI] | simp only [hdN] | skip
        go_upto_if 247 with (first
          | (go_at_call 24; refine (CP.out _).mono ?_; rintro e w4 ⟨rfl, rfl⟩)
          | (refine wp_appZ rfl (.tmp 232) (.tmp 240) _ rfl .u64 48 8 ty_natW (by omega) v zs Y rfl HZI.out hfs rfl (by omega) ?_; intro v' w4 hz4 hf4; obtain ⟨zt, hzt⟩ : ∃ x, x = zs ++ [Y] := ⟨_, rfl⟩; rw [← hzt] at hz4; have HZT := Lib.hid hzt; have ZL1 := Lib.hid (show zt.length = zs.length + 1 from by rw [hzt, List.length_append]; rfl); clear hzt; obtain ⟨A0, b0, c0, rfl, nb0, cm0, crv0⟩ := rev_appz hz4 (show zt.length ≤ 1000000 by rw [ZL1.out]; omega) (Nat.le_trans hfs hf4.size); have CRV := Lib.hid crv0; have F4 := Lib.hid hf4; unfold maxLen at cm0; clear hz4 hf4 crv0)
          | (go_at_call 25; refine (CRV.out).mono ?_; rintro e w5 ⟨rfl, n5, f5⟩; have N5 := Lib.hid n5; have F5 := Lib.hid f5; have ZR := Lib.hid (show zt.reverse.length = zt.length from List.length_reverse); clear n5 f5)
          | (go_at_call 26; have CN := normN_any A0 b0 0 c0 zt.reverse _ N5.out (dg_reverse (by rw [HZT.out]; exact ZD.out.append (DG.cons hY0 hY1 (DG.nil _)))); rw [ZR.out] at CN; refine CN.mono ?_; rintro e w6 ⟨⟨us, rfl, g1, g2, g3, g4, g5⟩, rfl⟩; have hus : us.length ≤ 1000000 := (by rw [ZL1.out] at g5; omega); have CSH := Lib.hid (rshZ_any A0 b0 0 c0 us sh w.heap.size _ g1 g2 hus (Nat.le_trans hfs (Nat.le_trans F4.out.size F5.out.size)) nb0 hsh0 hsh64); have G4 := Lib.hid g4; clear g1 g2 g3 g4 g5 CN))
        first | simp only [hdI] | simp only [hdN] | skip
        clear hdI hdN
        go_wp2_with (go_at_call 27; refine (CSH.out).mono ?_; rintro e w7 ⟨A7, c7, ys, rfl, s7, f7⟩; have S7 := Lib.hid s7; have F7 := Lib.hid f7; clear s7 f7)
        refine bodyPost_ret (v := .tuple #[.slice A7 ys.length c7, .int .i64 b, .int .i64 (k : Int), .nilIface]) (by simp [results, Tryd.results21, go_sem]) rfl ⟨A7, ys.length, c7, k, .nilIface, rfl, F7.out.fr (F5.out.fr (F4.out.fr I.out.fr)), ?_⟩
        have hv : SW w7 (.slice A7 ys.length c7) (figs b ((bytesL s).take k)) := by
          have h1 := S7.out
          rw [G4.out, HZT.out] at h1
          have h2 : val 18446744073709551616 (zs ++ [Y]).reverse = bigE zs * 18446744073709551616 + Y := bigE_snoc zs Y
          rw [h2, HFIN.out] at h1
          exact h1
        rw [EF.out] at hv
        exact .inl ⟨fun j hj => I.out.dg j (by rw [HK.out]; exact hj), rfl, hv, (by have := ((((HRD.out.frB F4.out hplt).frB F5.out hplt).frB F7.out hplt)); rwa [HK.out] at this)⟩
    · have HRD := Lib.hid hr
      have HBD := Lib.hid hbd
      have ce : wc.cell? ⟨0, 0, none⟩ = some (.iface 92 (.pointer (some ea))) := HE.out.fr I.out.fr hp
      have cn := cellFr HN.out I.out.fr hp2
      have HK := Lib.hid hk
      clear hr hbd hk
      by_cases hk0 : k = 0
      · have hkb : ((k : Int) == 0) = true := by rw [beq_iff_eq]; omega
        clear hk0
        by_cases hi0 : i = 0
        · subst hi0
          obtain ⟨A0, b0, c0, rfl, nb0, cm0, crv0⟩ := RV0.out
          have CRV := Lib.hid crv0
          have hzl9 : zs.length ≤ 1000000 := by omega
          unfold maxLen at cm0
          clear crv0
          go_wp2_with (first
            | (go_at_call 25; refine (CRV.out).mono ?_; rintro e w5 ⟨rfl, n5, f5⟩; have N5 := Lib.hid n5; have F5 := Lib.hid f5; have ZR := Lib.hid (show zs.reverse.length = zs.length from List.length_reverse); clear n5 f5)
            | (go_at_call 26; have CN := normN_any A0 b0 0 c0 zs.reverse _ N5.out (dg_reverse ZD.out); rw [ZR.out] at CN; refine CN.mono ?_; rintro e w6 ⟨⟨us, rfl, g1, g2, g3, g4, g5⟩, rfl⟩; have G1 := Lib.hid g1; have G2 := Lib.hid g2; have G3 := Lib.hid g3; have G4 := Lib.hid g4; clear g1 g2 g3 g4 g5 CN))
          refine bodyPost_ret (v := .tuple #[.slice A0 us.length c0, .int .i64 b, .int .i64 (k : Int), .iface T2 (.pointer (some na))]) (by simp [results, Tryd.results21, go_sem]) rfl ⟨A0, us.length, c0, k, .iface T2 (.pointer (some na)), rfl, F5.out.fr I.out.fr, ?_⟩
          have hv : SW w5 (.slice A0 us.length c0) (figs b ((bytesL s).take k)) := by
            have h1 := nm_sw G1.out G2.out G3.out
            rw [G4.out] at h1
            have h2 := I.out.d1
            have h3 := EI.out
            rw [Int.pow_zero] at h2 h3
            rw [← h3, show di = 0 by omega, Int.mul_one, Int.add_zero]
            exact h1
          exact .inr ⟨k, HK.out, HBD.out, .inr ⟨T2, na, rfl⟩⟩
        · have hi1 : 0 < (i : Int) := by omega
          have hdI : decide (0 < (i : Int)) = true := decide_eq_true hi1
          have hdN : decide (0 < i) = true := decide_eq_true (by omega)
          have CP := Lib.hid (HCP.out hi0)
          have hsh64 := HSH.out hi0
          clear hi0
          have HZI := Lib.hid I.out.z
          clear hi1
          go_upto_if 231 with fail
          first | simp only [hdI] | simp only [hdN] | skip
          go_upto_if 247 with (first
            | (go_at_call 24; refine (CP.out _).mono ?_; rintro e w4 ⟨rfl, rfl⟩)
            | (refine wp_appZ rfl (.tmp 232) (.tmp 240) _ rfl .u64 48 8 ty_natW (by omega) v zs Y rfl HZI.out hfs rfl (by omega) ?_; intro v' w4 hz4 hf4; obtain ⟨zt, hzt⟩ : ∃ x, x = zs ++ [Y] := ⟨_, rfl⟩; rw [← hzt] at hz4; have HZT := Lib.hid hzt; have ZL1 := Lib.hid (show zt.length = zs.length + 1 from by rw [hzt, List.length_append]; rfl); clear hzt; obtain ⟨A0, b0, c0, rfl, nb0, cm0, crv0⟩ := rev_appz hz4 (show zt.length ≤ 1000000 by rw [ZL1.out]; omega) (Nat.le_trans hfs hf4.size); have CRV := Lib.hid crv0; have F4 := Lib.hid hf4; unfold maxLen at cm0; clear hz4 hf4 crv0)
            | (go_at_call 25; refine (CRV.out).mono ?_; rintro e w5 ⟨rfl, n5, f5⟩; have N5 := Lib.hid n5; have F5 := Lib.hid f5; have ZR := Lib.hid (show zt.reverse.length = zt.length from List.length_reverse); clear n5 f5)
            | (go_at_call 26; have CN := normN_any A0 b0 0 c0 zt.reverse _ N5.out (dg_reverse (by rw [HZT.out]; exact ZD.out.append (DG.cons hY0 hY1 (DG.nil _)))); rw [ZR.out] at CN; refine CN.mono ?_; rintro e w6 ⟨⟨us, rfl, g1, g2, g3, g4, g5⟩, rfl⟩; have hus : us.length ≤ 1000000 := (by rw [ZL1.out] at g5; omega); have CSH := Lib.hid (rshZ_any A0 b0 0 c0 us sh w.heap.size _ g1 g2 hus (Nat.le_trans hfs (Nat.le_trans F4.out.size F5.out.size)) nb0 hsh0 hsh64); have G4 := Lib.hid g4; clear g1 g2 g3 g4 g5 CN))
          first | simp only [hdI] | simp only [hdN] | skip
          clear hdI hdN
          go_wp2_with (go_at_call 27; refine (CSH.out).mono ?_; rintro e w7 ⟨A7, c7, ys, rfl, s7, f7⟩; have S7 := Lib.hid s7; have F7 := Lib.hid f7; clear s7 f7)
          refine bodyPost_ret (v := .tuple #[.slice A7 ys.length c7, .int .i64 b, .int .i64 (k : Int), .iface T2 (.pointer (some na))]) (by simp [results, Tryd.results21, go_sem]) rfl ⟨A7, ys.length, c7, k, .iface T2 (.pointer (some na)), rfl, F7.out.fr (F5.out.fr (F4.out.fr I.out.fr)), ?_⟩
          have hv : SW w7 (.slice A7 ys.length c7) (figs b ((bytesL s).take k)) := by
            have h1 := S7.out
            rw [G4.out, HZT.out] at h1
            have h2 : val 18446744073709551616 (zs ++ [Y]).reverse = bigE zs * 18446744073709551616 + Y := bigE_snoc zs Y
            rw [h2, HFIN.out] at h1
            exact h1
          exact .inr ⟨k, HK.out, HBD.out, .inr ⟨T2, na, rfl⟩⟩
      · have hkb : ((k : Int) == 0) = false := by rw [beq_eq_false_iff_ne]; omega
        clear hk0
        by_cases hi0 : i = 0
        · subst hi0
          obtain ⟨A0, b0, c0, rfl, nb0, cm0, crv0⟩ := RV0.out
          have CRV := Lib.hid crv0
          have hzl9 : zs.length ≤ 1000000 := by omega
          unfold maxLen at cm0
          clear crv0
          go_wp2_with (first
            | (go_at_call 25; refine (CRV.out).mono ?_; rintro e w5 ⟨rfl, n5, f5⟩; have N5 := Lib.hid n5; have F5 := Lib.hid f5; have ZR := Lib.hid (show zs.reverse.length = zs.length from List.length_reverse); clear n5 f5)
            | (go_at_call 26; have CN := normN_any A0 b0 0 c0 zs.reverse _ N5.out (dg_reverse ZD.out); rw [ZR.out] at CN; refine CN.mono ?_; rintro e w6 ⟨⟨us, rfl, g1, g2, g3, g4, g5⟩, rfl⟩; have G1 := Lib.hid g1; have G2 := Lib.hid g2; have G3 := Lib.hid g3; have G4 := Lib.hid g4; clear g1 g2 g3 g4 g5 CN))
          refine bodyPost_ret (v := .tuple #[.slice A0 us.length c0, .int .i64 b, .int .i64 (k : Int), .nilIface]) (by simp [results, Tryd.results21, go_sem]) rfl ⟨A0, us.length, c0, k, .nilIface, rfl, F5.out.fr I.out.fr, ?_⟩
          have hv : SW w5 (.slice A0 us.length c0) (figs b ((bytesL s).take k)) := by
            have h1 := nm_sw G1.out G2.out G3.out
            rw [G4.out] at h1
            have h2 := I.out.d1
            have h3 := EI.out
            rw [Int.pow_zero] at h2 h3
            rw [← h3, show di = 0 by omega, Int.mul_one, Int.add_zero]
            exact h1
          exact .inr ⟨k, HK.out, HBD.out, .inl ⟨rfl, (HRD.out.frB F5.out hplt)⟩⟩
        · have hi1 : 0 < (i : Int) := by omega
          have hdI : decide (0 < (i : Int)) = true := decide_eq_true hi1
          have hdN : decide (0 < i) = true := decide_eq_true (by omega)
          have CP := Lib.hid (HCP.out hi0)
          have hsh64 := HSH.out hi0
          clear hi0
          have HZI := Lib.hid I.out.z
          clear hi1
          go_upto_if 231 with fail
          first | simp only [hdI] | simp only [hdN] | skip
          go_upto_if 247 with (first
            | (go_at_call 24; refine (CP.out _).mono ?_; rintro e w4 ⟨rfl, rfl⟩)
            | (refine wp_appZ rfl (.tmp 232) (.tmp 240) _ rfl .u64 48 8 ty_natW (by omega) v zs Y rfl HZI.out hfs rfl (by omega) ?_; intro v' w4 hz4 hf4; obtain ⟨zt, hzt⟩ : ∃ x, x = zs ++ [Y] := ⟨_, rfl⟩; rw [← hzt] at hz4; have HZT := Lib.hid hzt; have ZL1 := Lib.hid (show zt.length = zs.length + 1 from by rw [hzt, List.length_append]; rfl); clear hzt; obtain ⟨A0, b0, c0, rfl, nb0, cm0, crv0⟩ := rev_appz hz4 (show zt.length ≤ 1000000 by rw [ZL1.out]; omega) (Nat.le_trans hfs hf4.size); have CRV := Lib.hid crv0; have F4 := Lib.hid hf4; unfold maxLen at cm0; clear hz4 hf4 crv0)
            | (go_at_call 25; refine (CRV.out).mono ?_; rintro e w5 ⟨rfl, n5, f5⟩; have N5 := Lib.hid n5; have F5 := Lib.hid f5; have ZR := Lib.hid (show zt.reverse.length = zt.length from List.length_reverse); clear n5 f5)
            | (go_at_call 26; have CN := normN_any A0 b0 0 c0 zt.reverse _ N5.out (dg_reverse (by rw [HZT.out]; exact ZD.out.append (DG.cons hY0 hY1 (DG.nil _)))); rw [ZR.out] at CN; refine CN.mono ?_; rintro e w6 ⟨⟨us, rfl, g1, g2, g3, g4, g5⟩, rfl⟩; have hus : us.length ≤ 1000000 := (by rw [ZL1.out] at g5; omega); have CSH := Lib.hid (rshZ_any A0 b0 0 c0 us sh w.heap.size _ g1 g2 hus (Nat.le_trans hfs (Nat.le_trans F4.out.size F5.out.size)) nb0 hsh0 hsh64); have G4 := Lib.hid g4; clear g1 g2 g3 g4 g5 CN))
          first | simp only [hdI] | simp only [hdN] | skip
          clear hdI hdN
          go_wp2_with (go_at_call 27; refine (CSH.out).mono ?_; rintro e w7 ⟨A7, c7, ys, rfl, s7, f7⟩; have S7 := Lib.hid s7; have F7 := Lib.hid f7; clear s7 f7)
          refine bodyPost_ret (v := .tuple #[.slice A7 ys.length c7, .int .i64 b, .int .i64 (k : Int), .nilIface]) (by simp [results, Tryd.results21, go_sem]) rfl ⟨A7, ys.length, c7, k, .nilIface, rfl, F7.out.fr (F5.out.fr (F4.out.fr I.out.fr)), ?_⟩
          have hv : SW w7 (.slice A7 ys.length c7) (figs b ((bytesL s).take k)) := by
            have h1 := S7.out
            rw [G4.out, HZT.out] at h1
            have h2 : val 18446744073709551616 (zs ++ [Y]).reverse = bigE zs * 18446744073709551616 + Y := bigE_snoc zs Y
            rw [h2, HFIN.out] at h1
            exact h1
          exact .inr ⟨k, HK.out, HBD.out, .inl ⟨rfl, ((((HRD.out.frB F4.out hplt).frB F5.out hplt).frB F7.out hplt))⟩⟩
end Go.Proofs.YtbepihdlaidikaaDoor
