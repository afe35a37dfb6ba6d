/-
  Int.SetString and impl.Scan of a text without a sign. Conditions: io.EOF and errNoDigits read as laid.
-/
import Derived.Test.YtbepihdlaidikaaDoorScI
set_option linter.unusedSimpArgs false
set_option linter.unusedVariables false
namespace Go.Proofs.YtbepihdlaidikaaDoor
open Go.Big Go.RowKit
/-- the two errors as laid -/
def ErrsAt (w : World) : Prop := (∃ ea, EofAt w 92 ea) ∧ ∃ T2 na, w.cell? ⟨2, 0, none⟩ = some (.iface T2 (.pointer (some na)))
theorem ErrsAt.fr0 {w w1 : World} (h : ErrsAt w) (f : Fr [] w w1) : ErrsAt w1 := by
  obtain ⟨⟨ea, h1⟩, T2, na, h2⟩ := h
  refine ⟨⟨ea, h1.frS f (by simp)⟩, T2, na, ?_⟩
  rw [World.cell?_of_block (f.block _ (World.block_lt_of_cell? w _ h2) (by simp))]
  exact h2
def ISetP (pz : Nat) (s : ByteArray) (b : Int) (w : World) (e : Ending) (w' : World) : Prop :=
  ∃ v ok, e = .returned (.tuple #[v, .bool ok]) ∧ Fr [pz] w w' ∧
    ((Good b s ∧ ok = true ∧ v = .pointer (some ⟨pz, 0, none⟩) ∧ ∃ A l c, IntB w' pz false A l c ∧ SW w' (.slice A l c) (figs b (bytesL s))) ∨
     (¬ Good b s ∧ ok = false ∧ v = .pointer none))
set_option maxRecDepth 100000 in
theorem setString_any {w : World} {pz : Nat} {s : ByteArray} {b : Int} (hs : s.size ≤ 3000) (hg : 0 < s.size → byteAt s 0 ≠ 43 ∧ byteAt s 0 ≠ 45) (hb2 : 2 ≤ b) (hb62 : b ≤ 62) (hE : ErrsAt w) (hz : IntB w pz false none 0 0) (hpzE : pz ≠ 0) :
    Calls Tryd.prog 10 #[.pointer (some ⟨pz, 0, none⟩), .string s, .int .i64 b] w (ISetP pz s b w) := by
  have hplt := hz.lt
  have hlt1 : 0 < w.heap.size := by obtain ⟨⟨ea, h1⟩, _⟩ := hE; exact World.block_lt_of_cell? w _ h1
  have hlt2 : 2 < w.heap.size := by obtain ⟨_, T2, na, h2⟩ := hE; exact World.block_lt_of_cell? w _ h2
  have CN := Lib.hid (newReader_any s w)
  have CS := Lib.hid (fun (W : World) (p : Nat) (f : Fr [] w W) (hr : RdAt W p s 0 (-1)) (hp : w.heap.size ≤ p) => by
    obtain ⟨⟨ea, h1⟩, T2, na, h2⟩ := hE.fr0 f
    exact setFrom_any hr hs hg hb2 hb62 h1 (by omega) h2 (by omega) (hz.fr0 f) (by omega) hpzE)
  clear hg hE hz
  go_enter Tryd.func10, Tryd.ntmps10
  go_wp2_with (first
    | (go_at_call 16; refine (CN.out).mono ?_; rintro e w1 ⟨p, rfl, hr, hp, f1⟩; have HR := Lib.hid hr; have HP := Lib.hid hp; have F1 := Lib.hid f1; clear hr hp f1)
    | (go_at_call 15; refine (CS.out _ _ F1.out HR.out HP.out).mono ?_; rintro e w2 ⟨v, ok, rfl, f2, hpost⟩; have F2 := Lib.hid f2; have HQ := Lib.hid hpost; clear f2 hpost))
  go_ret2
  have hpw := HP.out
  have hFF : Fr [pz] w w2 := (F1.out.mono (S' := [pz]) (by simp)).trans F2.out (fun x hx hlt => by
    simp only [List.mem_cons, List.not_mem_nil, or_false] at hx ⊢
    rcases hx with hx | hx
    · omega
    · exact hx)
  exact ⟨_, _, rfl, hFF, HQ.out⟩
def IScanP (s : ByteArray) (b : Int) (w : World) (e : Ending) (w' : World) : Prop :=
  ∃ v ok, e = .returned (.tuple #[v, .bool ok]) ∧ Fr [] w w' ∧ ((Good b s ∧ ok = true ∧ SW w' v (figs b (bytesL s))) ∨ (¬ Good b s ∧ ok = false))
theorem figs_len {s : ByteArray} {b : Int} (hb : 2 ≤ b) (hb62 : b ≤ 62) (hs : s.size ≤ 3000) (hg : Good b s) {ys : List Int} (h2 : DG 18446744073709551616 ys) (h3 : NZ ys) (h4 : val 18446744073709551616 ys = figs b (bytesL s)) : ys.length ≤ 300 := by
  have h := (figs_all hb (Nat.le_refl _) hg.2).2
  rw [List.take_of_length_le (by rw [bytesL_len]; omega)] at h
  have h1 := pow62 hb hb62 (show s.size ≤ 3000 by omega)
  exact len_le (by omega) h2 h3 (by omega)
set_option maxRecDepth 100000 in
set_option maxHeartbeats 2000000 in
theorem implScan_any {w : World} {s : ByteArray} {b : Int} (hs : s.size ≤ 3000) (hg : 0 < s.size → byteAt s 0 ≠ 43 ∧ byteAt s 0 ≠ 45) (hb2 : 2 ≤ b) (hb62 : b ≤ 62) (hE : ErrsAt w) :
    Calls Tryd.prog 5 #[.string s, .int .i64 b] w (IScanP s b w) := by
  have hlt1 : 0 < w.heap.size := by obtain ⟨⟨ea, h1⟩, _⟩ := hE; exact World.block_lt_of_cell? w _ h1
  have e0 : (b == 0) = false := by rw [beq_eq_false_iff_ne]; omega
  have FA := Lib.hid (fun v => (Fr.refl [] w).alloc v)
  have CS := Lib.hid (fun (W : World) (pz : Nat) (f : Fr [] w W) (h : IntB W pz false none 0 0) (hp : w.heap.size ≤ pz) => setString_any hs hg hb2 hb62 (hE.fr0 f) h (by omega))
  clear hg hE
  go_enter Tryd.func5, Tryd.ntmps5
  go_upto_region 4 with (go_at_call 10; refine (CS.out _ _ (FA.out _) (heap_alloc_new w _) (Nat.le_refl _)).mono ?_; rintro e w1 ⟨v, ok, rfl, f1, hpost⟩; have F1 := Lib.hid (Fr.trans (FA.out _) f1 (fun x hx hlt => by simp at hx; omega)); have HQ := Lib.hid hpost; clear f1 hpost)
  rcases HQ.out with ⟨hgd, rfl, rfl, A, l, c, hi, ys, ⟨A0, c0, e0, h1⟩, h2, h3, h4⟩ | ⟨hbad, rfl, rfl⟩
  · injection e0 with q1 q2 q3
    subst q1 q2 q3
    have HL := Lib.hid (figs_len hb2 hb62 hs hgd h2 h3 h4)
    have HG := Lib.hid hgd
    have CW := Lib.hid (wordsOf_any ys hi ⟨A, c, rfl, h1⟩ (by have := HL.out; omega))
    have HY := Lib.hid (And.intro h2 (And.intro h3 h4))
    rcases Nat.eq_zero_or_pos ys.length with hy | hy
    · have CG := Lib.hid (show Calls Tryd.prog 11 #[.pointer (some ⟨w.heap.size, 0, none⟩)] w1 fun e w' => e = .returned (.int .i64 0) ∧ w1 = w' by rw [hy] at hi; exact sign_nil hi)
      clear hi h1 h2 h3 h4 hgd hy HQ CS
      go_wp2_with (first
        | (go_at_call 11; refine (CG.out).mono ?_; rintro e w2 ⟨rfl, rfl⟩)
        | (go_at_call 12; refine (CW.out).mono ?_; rintro e w3 ⟨v3, rfl, s3, f3⟩; have S3 := Lib.hid s3; have F3 := Lib.hid f3; clear s3 f3))
      go_ret2
      exact ⟨_, _, rfl, F1.out.t F3.out, .inl ⟨HG.out, rfl, ys, S3.out, HY.out⟩⟩
    · have CG := Lib.hid (sign_pos hi hy (by have := HL.out; omega))
      clear hi h1 h2 h3 h4 hgd hy HQ CS
      go_wp2_with (first
        | (go_at_call 11; refine (CG.out).mono ?_; rintro e w2 ⟨rfl, rfl⟩)
        | (go_at_call 12; refine (CW.out).mono ?_; rintro e w3 ⟨v3, rfl, s3, f3⟩; have S3 := Lib.hid s3; have F3 := Lib.hid f3; clear s3 f3))
      go_ret2
      exact ⟨_, _, rfl, F1.out.t F3.out, .inl ⟨HG.out, rfl, ys, S3.out, HY.out⟩⟩
  · have HB := Lib.hid hbad
    clear hbad HQ CS
    go_wp2_with fail
    go_ret2
    exact ⟨_, _, rfl, F1.out, .inr ⟨HB.out, rfl⟩⟩
end Go.Proofs.YtbepihdlaidikaaDoor
