/-
  spec.OfFigures. Conditions: the base lies between 2 and 62, at most 3000 bytes.
-/
import Derived.Test.YtbepihdlaidikaaDoorScG
import Derived.Test.YtbepihdlaidikaaDoorSmall
import Derived.Test.YtbepihdlaidikaaDoorgSpec
set_option linter.unusedSimpArgs false
set_option linter.unusedVariables false
namespace Go.Proofs.YtbepihdlaidikaaDoor
open Go.Big Go.RowKit
theorem figs_BIG {s : ByteArray} {b : Int} (hb : 2 ≤ b) (hb62 : b ≤ 62) (hs : s.size ≤ 3000) {k : Nat} (hk : k ≤ s.size) (hd : ∀ j, j < k → digC b (byteAt s j) < b) : figs b ((bytesL s).take k) < BIG ∧ figs b ((bytesL s).take k) * b < BIG := by
  have h1 := figs_all hb hk hd
  have h2 := pow62 hb hb62 (show k ≤ 3000 by omega)
  have h3 : figs b ((bytesL s).take k) * b ≤ figs b ((bytesL s).take k) * 18446744073709551616 := Int.mul_le_mul_of_nonneg_left (by omega) h1.1
  have h4 : (18446744073709551616 : Int) ^ 301 = 18446744073709551616 ^ 300 * 18446744073709551616 := Int.pow_succ _ _
  exact ⟨lt_BIG64 300 (by omega) (by omega), lt_BIG64 301 (by omega) (by omega)⟩
/-- what a byte counts, -1 where it is no figure -/
def digO (b c : Int) : Int := if digC b c = 63 then -1 else digC b c
def OfRel (s : ByteArray) (b : Int) (w0 : World) (g : Nat) (v6 v7 v8 v9 : Value) (wr : World) : Prop :=
  ∃ (v : Value) (k : Nat), v = v6 ∧ g = s.size - k ∧ v7 = .int .i64 (k : Int) ∧ k ≤ s.size ∧ (∀ j, j < k → digC b (byteAt s j) < b) ∧ SN wr v (figs b ((bytesL s).take k)) ∧ Fr [] w0 wr
def OfCut (v0 : Value) (wr : World) (v : Value) (w : World) : Prop := v = v0 ∧ wr = w
def OFPost (s : ByteArray) (b : Int) (w : World) (e : Ending) (w' : World) : Prop :=
  ∃ v ok, e = .returned (.tuple #[v, .bool ok]) ∧ Fr [] w w' ∧
    ((0 < s.size ∧ (∀ j, j < s.size → digC b (byteAt s j) < b) ∧ ok = true ∧ SN w' v (figs b (bytesL s))) ∨ ((s.size = 0 ∨ ∃ k, k < s.size ∧ b ≤ digC b (byteAt s k)) ∧ ok = false))
set_option maxRecDepth 100000 in
set_option maxHeartbeats 4000000 in
theorem ofFigures_any (s : ByteArray) (b : Int) (w : World) (hs : s.size ≤ 3000) (hb2 : 2 ≤ b) (hb62 : b ≤ 62) :
    Calls Tryd.prog 4 #[.string s, .int .i64 b] w (OFPost s b w) := by
  have CZ := Lib.hid (small_any 0 · (by omega) (by omega))
  have CBs := Lib.hid (small_any b · (by omega) (by omega))
  go_enter Tryd.func4, Tryd.ntmps4
  go_wp2_with (go_at_call 7; refine (CZ.out _).mono ?_; rintro e w1 ⟨v1, rfl, s1, f1⟩; have S1 := Lib.hid s1; have F1 := Lib.hid f1; clear s1 f1)
  go_loopg [6, 7, 8, 9] s.size (OfRel s b w)
  case atStart => exact ⟨_, 0, rfl, rfl, rfl, Nat.zero_le _, fun j hj => by omega, by rw [List.take_zero, figs_nil]; exact S1.out, F1.out⟩
  case round =>
    obtain ⟨v, k, rfl, rfl, rfl, hk, hd, hsn, hf⟩ := hrel
    have HSN := Lib.hid hsn
    have HF := Lib.hid hf
    have HD := Lib.hid hd
    have HB := Lib.hid (figs_BIG hb2 hb62 hs hk hd)
    clear hsn hf hd S1 F1
    by_cases hkn : k < s.size
    · have hkI : (k : Int) < (s.size : Int) := by omega
      have hcb := byteAt_bd s k
      obtain ⟨c, hc⟩ : ∃ x, x = byteAt s k := ⟨_, rfl⟩
      have hidx : ((s[k]'hkn).toNat : Int) = c := by rw [hc]; unfold byteAt; rw [dif_pos hkn]
      rw [← hc] at hcb
      obtain ⟨hc0, hc1⟩ := hcb
      have HC := Lib.hid hc
      have HKN := Lib.hid hkn
      clear hc
      go_upto_block 2 with fail
      obtain ⟨dv, hdv⟩ : ∃ x, x = digC b c := ⟨_, rfl⟩
      have HDV := Lib.hid hdv
      have hdb := digC_bd b c
      rw [← hdv] at hdb
      obtain ⟨hdb0, hdb1⟩ := hdb
      clear hdv
      go_cut [8] from 20 to 66 (fun v wx => OfCut (.int .i64 (if dv = 63 then -1 else dv)) wr v wx)
      case first =>
        by_cases h1 : 48 ≤ c ∧ c ≤ 57
        · obtain ⟨h1, h2⟩ := h1
          obtain rfl : dv = c - 48 := by rw [HDV.out]; unfold digC; rw [if_pos ⟨h1, h2⟩]
          have u1 : IntKind.u8.wrap (c - 48) = c - 48 := by rw [IntKind.wrap_u8]; omega
          have u2 : IntKind.i64.wrap (c - 48) = c - 48 := by rw [IntKind.wrap_i64]; omega
          go_wp2_with fail
          go_meet
          exact ⟨congrArg (Value.int .i64) (if_neg (by omega)).symm, rfl⟩
        · by_cases h3 : 97 ≤ c ∧ c ≤ 122
          · obtain ⟨h3, h4⟩ := h3
            have h5 : 48 ≤ c := by omega
            have h6 : ¬ c ≤ 57 := by omega
            obtain rfl : dv = c - 97 + 10 := by rw [HDV.out]; unfold digC; rw [if_neg h1, if_pos ⟨h3, h4⟩]; omega
            have u1 : IntKind.u8.wrap (c - 97) = c - 97 := by rw [IntKind.wrap_u8]; omega
            have u2 : IntKind.i64.wrap (c - 97) = c - 97 := by rw [IntKind.wrap_i64]; omega
            have u3 : IntKind.i64.wrap (c - 97 + 10) = c - 97 + 10 := by rw [IntKind.wrap_i64]; omega
            clear h1
            go_wp2_with fail
            go_meet
            exact ⟨congrArg (Value.int .i64) (if_neg (by omega)).symm, rfl⟩
          · by_cases h7 : 65 ≤ c ∧ c ≤ 90
            · obtain ⟨h7, h8⟩ := h7
              have h5 : 48 ≤ c := by omega
              have h6 : ¬ c ≤ 57 := by omega
              have h9 : ¬ 97 ≤ c := by omega
              have u1 : IntKind.u8.wrap (c - 65) = c - 65 := by rw [IntKind.wrap_u8]; omega
              have u2 : IntKind.i64.wrap (c - 65) = c - 65 := by rw [IntKind.wrap_i64]; omega
              by_cases h10 : b ≤ 36
              · obtain rfl : dv = c - 65 + 10 := by rw [HDV.out]; unfold digC; rw [if_neg h1, if_neg h3, if_pos ⟨h7, h8⟩, if_pos h10]; omega
                have u3 : IntKind.i64.wrap (c - 65 + 10) = c - 65 + 10 := by rw [IntKind.wrap_i64]; omega
                clear h1 h3
                go_wp2_with fail
                go_meet
                exact ⟨congrArg (Value.int .i64) (if_neg (by omega)).symm, rfl⟩
              · obtain rfl : dv = c - 65 + 36 := by rw [HDV.out]; unfold digC; rw [if_neg h1, if_neg h3, if_pos ⟨h7, h8⟩, if_neg h10]; omega
                have u3 : IntKind.i64.wrap (c - 65 + 36) = c - 65 + 36 := by rw [IntKind.wrap_i64]; omega
                clear h1 h3
                go_wp2_with fail
                go_meet
                exact ⟨congrArg (Value.int .i64) (if_neg (by omega)).symm, rfl⟩
            · obtain rfl : dv = 63 := by rw [HDV.out]; unfold digC; rw [if_neg h1, if_neg h3, if_neg h7]
              rcases (show c < 48 ∨ (57 < c ∧ c < 65) ∨ (90 < c ∧ c < 97) ∨ 122 < c by omega) with hh | ⟨hh, hh'⟩ | ⟨hh, hh'⟩ | hh
              · have q1 : ¬ 48 ≤ c := by omega
                have q2 : ¬ 97 ≤ c := by omega
                have q3 : ¬ 65 ≤ c := by omega
                clear h1 h3 h7
                go_wp2_with fail
                go_meet
                exact ⟨congrArg (Value.int .i64) (by simp), rfl⟩
              · have q1 : 48 ≤ c := by omega
                have q4 : ¬ c ≤ 57 := by omega
                have q2 : ¬ 97 ≤ c := by omega
                have q3 : ¬ 65 ≤ c := by omega
                clear h1 h3 h7
                go_wp2_with fail
                go_meet
                exact ⟨congrArg (Value.int .i64) (by simp), rfl⟩
              · have q1 : 48 ≤ c := by omega
                have q4 : ¬ c ≤ 57 := by omega
                have q2 : ¬ 97 ≤ c := by omega
                have q3 : 65 ≤ c := by omega
                have q5 : ¬ c ≤ 90 := by omega
                clear h1 h3 h7
                go_wp2_with fail
                go_meet
                exact ⟨congrArg (Value.int .i64) (by simp), rfl⟩
              · have q1 : 48 ≤ c := by omega
                have q4 : ¬ c ≤ 57 := by omega
                have q2 : 97 ≤ c := by omega
                have q6 : ¬ c ≤ 122 := by omega
                have q3 : 65 ≤ c := by omega
                have q5 : ¬ c ≤ 90 := by omega
                clear h1 h3 h7
                go_wp2_with fail
                go_meet
                exact ⟨congrArg (Value.int .i64) (by simp), rfl⟩
      case rest =>
        obtain ⟨rfl, rfl⟩ := hcut
        by_cases hd : dv < b
        · have q : (if dv = 63 then (-1 : Int) else dv) = dv := if_neg (by omega)
          rw [q]
          have hdn : ¬ dv < 0 := by omega
          have hdB : ¬ b ≤ dv := by omega
          have HDD := Lib.hid (show digC b (byteAt s k) < b by rw [← HC.out, ← HDV.out]; exact hd)
          have HDE := Lib.hid (show digC b (byteAt s k) = dv by rw [← HC.out, ← HDV.out])
          have hkw : IntKind.i64.wrap ((k : Int) + 1) = ((k + 1 : Nat) : Int) := by rw [IntKind.wrap_i64]; omega
          obtain ⟨F, hF⟩ : ∃ x, x = figs b ((bytesL s).take k) := ⟨_, rfl⟩
          rw [← hF] at HSN HB
          have HFF := Lib.hid hF
          have CD := Lib.hid (fun W => small_any dv W hdb0 (by omega))
          have BB := Lib.hid (word_BIG (n := b) (by omega))
          have BD := Lib.hid (word_BIG (n := dv) (by omega))
          have T1 : True := trivial
          clear hF hidx q
          go_wp2_with (first
            | (go_at_call 7; clear T1; refine (CBs.out _).mono ?_; rintro e w2 ⟨v2, rfl, s2, f2⟩; have S2 := Lib.hid s2; have F2 := Lib.hid f2; clear s2 f2)
            | (go_at_call 9; refine (mul_any _ _ F b _ (HSN.out.fr0 F2.out) S2.out HB.out.1 BB.out).mono ?_; rintro e w3 ⟨v3, rfl, s3, f3⟩; have S3 := Lib.hid s3; have F3 := Lib.hid f3; clear s3 f3)
            | (go_at_call 7; refine (CD.out _).mono ?_; rintro e w4 ⟨v4, rfl, s4, f4⟩; have S4 := Lib.hid s4; have F4 := Lib.hid f4; clear s4 f4)
            | (go_at_call 8; refine (add_any _ _ (F * b) dv _ (S3.out.fr0 F4.out) S4.out HB.out.2 BD.out).mono ?_; rintro e w5 ⟨v5, rfl, s5, f5⟩; have S5 := Lib.hid s5; have F5 := Lib.hid f5; clear s5 f5))
          go_roundg (s.size - (k + 1))
          case measure => omega
          case rel =>
            refine ⟨v5, k + 1, rfl, rfl, by first | rfl | go_num, HKN.out, fun j hj => ?_, ?_, (((HF.out.t F2.out).t F3.out).t F4.out).t F5.out⟩
            · rcases (show j < k ∨ j = k by omega) with h | rfl
              · exact HD.out j h
              · exact HDD.out
            · rw [figs_take (by rw [bytesL_len]; exact HKN.out), bytesL_get s HKN.out, HDE.out, ← HFF.out]
              exact S5.out
        · have HBD := Lib.hid (show b ≤ digC b (byteAt s k) by rw [← HC.out, ← HDV.out]; omega)
          by_cases h63 : dv = 63
          · subst h63
            have q : (if (63 : Int) = 63 then (-1 : Int) else 63) = -1 := if_pos rfl
            rw [q]
            clear hidx hd q
            go_wp2_with (go_at_call 7; refine (CZ.out _).mono ?_; rintro e w2 ⟨v2, rfl, s2, f2⟩; have F2 := Lib.hid f2; clear s2 f2)
            go_ret2
            exact ⟨_, _, rfl, HF.out.t F2.out, .inr ⟨.inr ⟨k, HKN.out, HBD.out⟩, rfl⟩⟩
          · have q : (if dv = 63 then (-1 : Int) else dv) = dv := if_neg h63
            rw [q]
            have hdn : ¬ dv < 0 := by omega
            have hdB : b ≤ dv := by omega
            clear hidx hd q h63
            go_wp2_with (go_at_call 7; refine (CZ.out _).mono ?_; rintro e w2 ⟨v2, rfl, s2, f2⟩; have F2 := Lib.hid f2; clear s2 f2)
            go_ret2
            exact ⟨_, _, rfl, HF.out.t F2.out, .inr ⟨.inr ⟨k, HKN.out, HBD.out⟩, rfl⟩⟩
    · obtain rfl : k = s.size := by omega
      have hkI : ¬ (s.size : Int) < (s.size : Int) := by omega
      have HT := Lib.hid (show (bytesL s).take s.size = bytesL s from List.take_of_length_le (by rw [bytesL_len]; omega))
      rcases Nat.eq_zero_or_pos s.size with h0 | h0
      · have h0I : ¬ 0 < (s.size : Int) := by omega
        have HH := Lib.hid h0
        clear h0 hkn
        go_wp2_with fail
        go_ret2
        exact ⟨_, _, rfl, HF.out, .inr ⟨.inl HH.out, decide_eq_false (by have := HH.out; omega)⟩⟩
      · have h0I : 0 < (s.size : Int) := by omega
        have HH := Lib.hid h0
        clear h0 hkn
        go_wp2_with fail
        go_ret2
        refine ⟨_, _, rfl, HF.out, .inl ⟨HH.out, HD.out, decide_eq_true HH.out, ?_⟩⟩
        have h := HSN.out
        rwa [HT.out] at h
end Go.Proofs.YtbepihdlaidikaaDoor
