/-
  nat.scan over a strings.Reader, bases other than 2, 4, 16. Conditions: the reader's cells; io.EOF and errNoDigits read as laid.
-/
import Derived.Test.YtbepihdlaidikaaDoorScN
import Derived.Test.YtbepihdlaidikaaDoorMadR
import Derived.Test.YtbepihdlaidikaaDoorMaxPow
import Derived.Test.YtbepihdlaidikaaDoorLPow
import Derived.Deep.DeepCutAuto
import Derived.Deep.CutBlock
set_option linter.unusedSimpArgs false
set_option linter.unusedVariables false
namespace Go.Proofs.YtbepihdlaidikaaDoor
open Go.Big Go.RowKit
/-- the bytes of a text -/
def bytesL (s : ByteArray) : List Int := (List.range s.size).map (byteAt s)
theorem bytesL_len (s : ByteArray) : (bytesL s).length = s.size := by unfold bytesL; simp
theorem bytesL_get (s : ByteArray) {j : Nat} (h : j < s.size) : (bytesL s).getD j 0 = byteAt s j := by
  rw [getD_in (by rw [bytesL_len]; exact h)]; unfold bytesL; simp
/-- what a ReadByte hands on at a place -/
def RdS (ea : Addr) (p : Nat) (s : ByteArray) (k : Nat) (ch : Int) (err : Value) (w : World) : Prop :=
  (k < s.size ∧ ch = byteAt s k ∧ err = .nilIface ∧ RdAt w p s (k + 1) (-1)) ∨ (k = s.size ∧ ch = 0 ∧ err = .iface 92 (.pointer (some ea)) ∧ RdAt w p s k (-1))
theorem EofAt.fr {w w1 : World} {ea : Addr} {p : Nat} (h : EofAt w 92 ea) (f : Fr [p] w w1) (hp : p ≠ 0) : EofAt w1 92 ea := by
  unfold EofAt at h ⊢
  rw [World.cell?_of_block (f.block _ (World.block_lt_of_cell? w _ h) (by simp; exact hp.symm))]
  exact h
theorem readByte_any {w : World} {p i : Nat} {s : ByteArray} {pr : Int} {ea : Addr} (h : RdAt w p s i pr) (hi : i ≤ s.size) (hs : s.size ≤ 1000000) (he : EofAt w 92 ea) (hp : p ≠ 0) :
    Calls Tryd.prog 63 #[.pointer (some ⟨p, 0, none⟩)] w fun e w' => ∃ ch err, e = .returned (.tuple #[.int .u8 ch, err]) ∧ RdS ea p s i ch err w' ∧ Fr [p] w w' := by
  rcases Nat.lt_or_ge i s.size with h1 | h1
  · exact (readByte_in h h1 hs).mono fun e w' ⟨a, b, c⟩ => ⟨_, _, a, .inl ⟨h1, rfl, rfl, b⟩, c⟩
  · exact (readByte_end h h1 hs (by omega) he hp).mono fun e w' ⟨a, b, c⟩ => ⟨_, _, a, .inr ⟨by omega, rfl, rfl, b⟩, c⟩
/-- the reader's block is no row of words -/
theorem RdAt.row_ne {w : World} {p i b : Nat} {s : ByteArray} {pr : Int} {L : List Int} (h : RdAt w p s i pr) (hr : Row .u64 48 w b L) : b ≠ p := by
  rintro rfl
  unfold Row at hr; unfold RdAt at h
  rw [h] at hr
  injection hr with hr
  injection hr with _ h2 _
  exact absurd h2 (by decide)
theorem RdAt.put {w w1 : World} {p i b o c : Nat} {s : ByteArray} {pr : Int} {A : Option Addr} (h : RdAt w p s i pr) (hr : Rcv w A b o c) (hf : Fc 48 (In1 b o c) w w1) : RdAt w1 p s i pr := by
  refine (hf.block p h.lt (fun j hj => ?_)).trans h
  by_cases e : c = 0
  · have := hj.2.1; have := hj.2.2; omega
  · obtain ⟨L, hL, _⟩ := hr.row (by omega)
    exact h.row_ne hL hj.1.symm
theorem RdS.put {w w1 : World} {ea : Addr} {p k b o c : Nat} {s : ByteArray} {ch : Int} {err : Value} {A : Option Addr} (h : RdS ea p s k ch err w) (hr : Rcv w A b o c) (hf : Fc 48 (In1 b o c) w w1) : RdS ea p s k ch err w1 := by
  rcases h with ⟨h1, h2, h3, h4⟩ | ⟨h1, h2, h3, h4⟩
  · exact .inl ⟨h1, h2, h3, h4.put hr hf⟩
  · exact .inr ⟨h1, h2, h3, h4.put hr hf⟩
theorem frPut {w0 w w1 : World} {p b o c : Nat} (h : Fr [p] w0 w) (hf : Fc 48 (In1 b o c) w w1) (hn : c = 0 ∨ w0.heap.size ≤ b) : Fr [p] w0 w1 :=
  ⟨hf.os.trans h.os, hf.tape.trans h.tape, hf.output.trans h.output, Nat.le_trans h.size hf.size, fun x hx hxp => (hf.block x (Nat.lt_of_lt_of_le hx h.size) (fun i hi => by have e1 := hi.1; have := hi.2.1; have := hi.2.2; omega)).trans (h.block x hx hxp)⟩
/-- at the loop's head -/
structure ScI (p : Nat) (s : ByteArray) (b : Int) (n : Nat) (w0 : World) (k i : Nat) (di : Int) (A : Option Addr) (bz oz c : Nat) (zs : List Int) (wr : World) : Prop where
  fr : Fr [p] w0 wr
  z : Nm wr A bz oz c zs
  zd : DG 18446744073709551616 zs
  zz : NZ zs
  zn : c = 0 ∨ w0.heap.size ≤ bz
  c9 : c ≤ 2000000
  ev : val 18446744073709551616 zs * b ^ i + di = figs b ((bytesL s).take k)
  d0 : 0 ≤ di
  d1 : di < b ^ i
  il : i < n
  dg : ∀ j, j < k → digC b (byteAt s j) < b
  kl : k ≤ s.size
theorem figs_all {s : ByteArray} {b : Int} (hb : 2 ≤ b) {k : Nat} (hk : k ≤ s.size) (hd : ∀ j, j < k → digC b (byteAt s j) < b) : 0 ≤ figs b ((bytesL s).take k) ∧ figs b ((bytesL s).take k) < b ^ k :=
  figs_bd hb k (by rw [bytesL_len]; exact hk) (fun j hj => by rw [bytesL_get s (by omega)]; exact hd j hj)
theorem pow62 {b : Int} {k : Nat} (hb : 2 ≤ b) (hb62 : b ≤ 62) (hk : k ≤ 3000) : b ^ k < 18446744073709551616 ^ 300 := by
  have h1 := pow_base_le (show 0 ≤ b by omega) (show b ≤ 64 by omega) k
  have h2 := pow_le_pow_ (B := 64) (by omega) hk
  have e1 : (64 : Int) ^ 3000 = 2 ^ (6 * 3000) := by rw [Int.pow_mul]; rfl
  have e2 : (18446744073709551616 : Int) ^ 300 = 2 ^ (64 * 300) := by rw [Int.pow_mul]; rfl
  have h3 := pow_le_pow_ (B := 2) (by omega) (show 6 * 3000 + 1 ≤ 64 * 300 by omega)
  have h4 := pow_pos_ (B := 2) (by omega) (6 * 3000)
  rw [Int.pow_succ] at h3
  rw [e2]; rw [e1] at h2
  omega
theorem powB_le {b : Int} {i n : Nat} (hb : 1 ≤ b) (h : i ≤ n) : b ^ i ≤ b ^ n := by
  obtain ⟨d, rfl⟩ : ∃ d, n = i + d := ⟨n - i, by omega⟩
  rw [Int.pow_add]
  have h1 := pow_pos_ (B := b) (by omega) i
  have h2 := pow_pos_ (B := b) (by omega) d
  have : b ^ i * 1 ≤ b ^ i * b ^ d := Int.mul_le_mul_of_nonneg_left (by omega) (by omega)
  omega
theorem sc_val {p : Nat} {s : ByteArray} {b : Int} {n : Nat} {w0 : World} {k i : Nat} {di : Int} {A : Option Addr} {bz oz c : Nat} {zs : List Int} {wr : World} (I : ScI p s b n w0 k i di A bz oz c zs wr) (hs : s.size ≤ 3000) (hb2 : 2 ≤ b) (hb62 : b ≤ 62) : val 18446744073709551616 zs < 18446744073709551616 ^ 300 := by
  have h1 := figs_all hb2 I.kl I.dg
  have h2 := pow62 hb2 hb62 (show k ≤ 3000 by have := I.kl; omega)
  have h3 := val_nonneg (B := 18446744073709551616) (by omega) I.zd
  have h4 := pow_pos_ (B := b) (by omega) i
  have h5 : val 18446744073709551616 zs * 1 ≤ val 18446744073709551616 zs * b ^ i := Int.mul_le_mul_of_nonneg_left (by omega) h3
  have := I.ev
  have := I.d0
  omega
theorem sc_len {p : Nat} {s : ByteArray} {b : Int} {n : Nat} {w0 : World} {k i : Nat} {di : Int} {A : Option Addr} {bz oz c : Nat} {zs : List Int} {wr : World} (I : ScI p s b n w0 k i di A bz oz c zs wr) (hs : s.size ≤ 3000) (hb2 : 2 ≤ b) (hb62 : b ≤ 62) : zs.length ≤ 1000000 := by
  have := len_le (by omega) I.zd I.zz (sc_val I hs hb2 hb62)
  omega
def ScCut (v0 : Value) (R : World → Prop) (v : Value) (w : World) : Prop := v = v0 ∧ R w
theorem nm_sw {w : World} {A : Option Addr} {b o c : Nat} {xs : List Int} (h : Nm w A b o c xs) (hd : DG 18446744073709551616 xs) (hz : NZ xs) : SW w (.slice A xs.length c) (val 18446744073709551616 xs) := ⟨xs, h.sl, hd, hz, rfl⟩
/-- ReadByte and UnreadByte leave the number alone -/
theorem nm_rd {w w1 : World} {p i : Nat} {s : ByteArray} {pr : Int} {A : Option Addr} {b o c : Nat} {zs : List Int} (h : Nm w A b o c zs) (hr : RdAt w p s i pr) (f : Fr [p] w w1) : Nm w1 A b o c zs := by
  have hf : Fc 48 (fun x _ => x = p) w w1 := Fc.of_fr f (fun x hx _ _ => by simpa using hx) (fun x hx L hL => by
    have e : x = p := by simpa using hx
    exact hr.row_ne hL e)
  refine h.fc hf (fun j h1 h2 e => ?_)
  obtain ⟨L, hL, _⟩ := h.rcv.row (by have := h.le; omega)
  exact hr.row_ne hL e
theorem ScI.rd {p : Nat} {s : ByteArray} {b : Int} {n : Nat} {w0 : World} {k i : Nat} {di : Int} {A : Option Addr} {bz oz c : Nat} {zs : List Int} {wr w1 : World} {j : Nat} {pr : Int} (I : ScI p s b n w0 k i di A bz oz c zs wr) (hr : RdAt wr p s j pr) (f : Fr [p] wr w1) : ScI p s b n w0 k i di A bz oz c zs w1 :=
  ⟨I.fr.trans f (fun x hx _ => hx), nm_rd I.z hr f, I.zd, I.zz, I.zn, I.c9, I.ev, I.d0, I.d1, I.il, I.dg, I.kl⟩
/-- the collected digits are added -/
theorem sc_mul {p : Nat} {s : ByteArray} {b : Int} {n : Nat} {w0 : World} {k i : Nat} {di : Int} {A : Option Addr} {bz oz c : Nat} {zs : List Int} {wr : World} (I : ScI p s b n w0 k i di A bz oz c zs wr) (hs : s.size ≤ 3000) (hb2 : 2 ≤ b) (hb62 : b ≤ 62) (P d : Int) (hP0 : 0 < P) (hP1 : P < 18446744073709551616) (hd0 : 0 ≤ d) (hd1 : d < 18446744073709551616) :
    Calls Tryd.prog 23 #[.slice A zs.length c, .slice A zs.length c, .int .u64 P, .int .u64 d] wr fun e w' => ∃ A' b' o' c' us, e = .returned (.slice A' us.length c') ∧ Nm w' A' b' o' c' us ∧ DG 18446744073709551616 us ∧ NZ us ∧ val 18446744073709551616 us = val 18446744073709551616 zs * P + d ∧ (c' = 0 ∨ w0.heap.size ≤ b') ∧ c' ≤ 2000000 ∧ Fr [p] w0 w' ∧ (∀ j pr, RdAt wr p s j pr → RdAt w' p s j pr) := by
  refine (nmulAddR_any A zs.length bz oz c A bz oz c zs P d wr I.z.rcv I.z.le I.z I.zd (sc_len I hs hb2 hb62) (.inr ⟨rfl, rfl⟩) hP0 hP1 hd0 hd1).mono ?_
  rintro e w' ⟨A', b', o', c', us, rfl, p1, p2, p3, p4, p5, p6⟩
  refine ⟨A', b', o', c', us, rfl, p1, p2, p3, p4, ?_, ?_, frPut I.fr p6 I.zn, fun j pr hr => hr.put I.z.rcv p6⟩
  · rcases p5 with ⟨_, rfl, _, rfl⟩ | ⟨h, _⟩
    · exact I.zn
    · exact .inr (Nat.le_trans I.fr.size h)
  · rcases p5 with ⟨_, _, _, rfl⟩ | ⟨_, h⟩
    · exact I.c9
    · exact h
theorem cellFr {w w1 : World} {a : Addr} {v : Value} {p : Nat} (h : w.cell? a = some v) (f : Fr [p] w w1) (hp : p ≠ a.block) : w1.cell? a = some v := by
  rw [World.cell?_of_block (f.block _ (World.block_lt_of_cell? w _ h) (by simp; exact hp.symm))]
  exact h
theorem sc_next1 {p : Nat} {s : ByteArray} {b dv : Int} {n : Nat} {w0 : World} {k i : Nat} {di : Int} {A : Option Addr} {bz oz c : Nat} {zs : List Int} {wr : World} (I : ScI p s b n w0 k i di A bz oz c zs wr) (hk : k < s.size) (hdv : dv = digC b (byteAt s k)) (hb2 : 2 ≤ b) (hd : dv < b) (hin : i + 1 < n) : ScI p s b n w0 (k + 1) (i + 1) (di * b + dv) A bz oz c zs wr := by
  have hdb := digC_bd b (byteAt s k)
  have hsd := scan_di hb2 I.d0 I.d1 (show 0 ≤ dv by rw [hdv]; exact hdb.1) hd
  refine ⟨I.fr, I.z, I.zd, I.zz, I.zn, I.c9, ?_, hsd.1, hsd.2, hin, fun j hj => ?_, hk⟩
  · rw [Int.pow_succ]
    exact scan_step I.ev (by rw [figs_take (by rw [bytesL_len]; exact hk), bytesL_get s hk, ← hdv])
  · rcases (show j < k ∨ j = k by omega) with h | rfl
    · exact I.dg j h
    · rw [← hdv]; exact hd
theorem sc_next2 {p : Nat} {s : ByteArray} {b dv : Int} {n : Nat} {w0 : World} {k i : Nat} {di : Int} {A : Option Addr} {bz oz c : Nat} {zs : List Int} {wr w6 : World} {A' : Option Addr} {b' o' c' : Nat} {us : List Int} (I : ScI p s b n w0 k i di A bz oz c zs wr) (hk : k < s.size) (hdv : dv = digC b (byteAt s k)) (hb2 : 2 ≤ b) (hd : dv < b) (hin : i + 1 = n)
    (m1 : Nm w6 A' b' o' c' us) (m2 : DG 18446744073709551616 us) (m3 : NZ us) (m4 : val 18446744073709551616 us = val 18446744073709551616 zs * b ^ n + (di * b + dv)) (m5 : c' = 0 ∨ w0.heap.size ≤ b') (m6 : c' ≤ 2000000) (m7 : Fr [p] w0 w6) : ScI p s b n w0 (k + 1) 0 0 A' b' o' c' us w6 := by
  refine ⟨m7, m1, m2, m3, m5, m6, ?_, by omega, by rw [Int.pow_zero]; omega, by omega, fun j hj => ?_, hk⟩
  · rw [Int.pow_zero, Int.mul_one, Int.add_zero, m4, ← hin, Int.pow_succ]
    exact scan_step I.ev (by rw [figs_take (by rw [bytesL_len]; exact hk), bytesL_get s hk, ← hdv])
  · rcases (show j < k ∨ j = k by omega) with h | rfl
    · exact I.dg j h
    · rw [← hdv]; exact hd
def ScJ (ea : Addr) (p : Nat) (s : ByteArray) (b : Int) (n : Nat) (w0 : World) (g : Nat) (v0 v3 v10 v11 v13 v14 v15 v20 v21 v22 : Value) (wr : World) : Prop :=
  ∃ (k i : Nat) (di : Int) (A : Option Addr) (bz oz c : Nat) (zs : List Int) (pv ch : Int), g = s.size + 1 - k ∧ v0 = .slice A zs.length c ∧ v3 = .bool false ∧ v14 = .bool false ∧ v22 = .int .i64 (-1) ∧ v10 = .int .i64 (k : Int) ∧ v13 = .int .i32 pv ∧ v15 = .int .u8 ch ∧ v20 = .int .u64 di ∧ v21 = .int .i64 (i : Int) ∧ pv ≠ 95 ∧ ScI p s b n w0 k i di A bz oz c zs wr ∧ RdS ea p s k ch v11 wr
def ScanPost (p : Nat) (s : ByteArray) (b : Int) (w : World) (e : Ending) (w' : World) : Prop :=
  ∃ (A : Option Addr) (l c : Nat) (cnt : Int) (err : Value), e = .returned (.tuple #[.slice A l c, .int .i64 b, .int .i64 cnt, err]) ∧ Fr [p] w w' ∧
    (((∀ j, j < s.size → digC b (byteAt s j) < b) ∧ err = .nilIface ∧ SW w' (.slice A l c) (figs b (bytesL s)) ∧ RdAt w' p s s.size (-1)) ∨
     (∃ k, k < s.size ∧ b ≤ digC b (byteAt s k) ∧ ((err = .nilIface ∧ RdAt w' p s k (-1)) ∨ ∃ T a, err = .iface T (.pointer (some a)))))
set_option maxRecDepth 100000 in
set_option maxHeartbeats 8000000 in
theorem scan_gen {w : World} {p : Nat} {s : ByteArray} {pr b : Int} {T2 : TypeId} {ea na : Addr} (h : RdAt w p s 0 pr) (hs0 : 0 < s.size) (hs : s.size ≤ 3000) (hb2 : 2 ≤ b) (hb62 : b ≤ 62) (g2 : b ≠ 2) (g4 : b ≠ 4) (g16 : b ≠ 16) (he : EofAt w 92 ea) (hp : p ≠ 0) (hn : w.cell? ⟨2, 0, none⟩ = some (.iface T2 (.pointer (some na)))) (hp2 : p ≠ 2) :
    Calls Tryd.prog 21 #[.slice none 0 0, .iface 44 (.pointer (some ⟨p, 0, none⟩)), .int .i64 b, .bool false] w (ScanPost p s b w) := by
  have hm1 := rd_method
  have hm2 := rd_call
  have hm3 := un_method
  have hm4 := un_call
  have hm5 := eof_eql
  have hm6 := nil_eql
  have CR := Lib.hid (readByte_any h (by omega) (by omega) he hp)
  have CM := Lib.hid (fun W => maxPow_any b W hb2 (by omega))
  have H := Lib.hid h
  have HE := Lib.hid he
  have HN := Lib.hid hn
  have e0 : (b == 0) = false := by rw [beq_eq_false_iff_ne]; omega
  have e2 : (b == 2) = false := by rw [beq_eq_false_iff_ne]; exact g2
  have e4 : (b == 4) = false := by rw [beq_eq_false_iff_ne]; exact g4
  have e16 : (b == 16) = false := by rw [beq_eq_false_iff_ne]; exact g16
  have ew : IntKind.u64.wrap b = b := by rw [IntKind.wrap_u64]; omega
  clear h he hn g2 g4 g16
  go_enter Tryd.func21, Tryd.ntmps21
  go_wp2_with (first
    | (go_at_call 63; refine (CR.out).mono ?_; rintro e w1 ⟨ch, err, rfl, hr, hf⟩; have HR := Lib.hid hr; have HF := Lib.hid hf; clear hr hf)
    | (go_at_call 22; refine (CM.out _).mono ?_; rintro e w2 ⟨bn, n, rfl, hn1, hn63, hbn, hbn0, hbnW, hbnM, rfl⟩; have HBN := Lib.hid hbn; clear hbn))
  clear CR CM
  go_loopg [0, 3, 10, 11, 13, 14, 15, 20, 21, 22] (s.size + 1) (ScJ ea p s b n w)
  case atStart => exact ⟨0, 0, 0, none, w.heap.size, 0, 0, [], 46, ch, rfl, rfl, rfl, rfl, rfl, rfl, rfl, rfl, rfl, rfl, by omega, ⟨HF.out, Nm.nil (Rcv.nil _ _ _), DG.nil _, NZ.nil, .inl rfl, by omega, by rw [List.take_zero, figs_nil, val_nil, Int.zero_mul, Int.add_zero], by omega, by rw [Int.pow_zero]; omega, by omega, fun j hj => by omega, Nat.zero_le _⟩, HR.out⟩
  case round =>
    obtain ⟨k, i, di, A, bz, oz, c, zs, pv, ch', rfl, rfl, rfl, rfl, rfl, rfl, rfl, rfl, rfl, rfl, hpv, hi, hrd⟩ := hrel
    have I := Lib.hid hi
    have hzl := hi.z.le
    have hc9 := hi.c9
    have hkl := hi.kl
    have hil := hi.il
    have hpvb : (pv == 95) = false := by rw [beq_eq_false_iff_ne]; exact hpv
    have hE := hi.fr
    have hbp : 0 < b ^ i := pow_pos_ (by omega) i
    have hbi : b ^ i < 18446744073709551616 := by have := powB_le (b := b) (by omega) (show i ≤ n by omega); rw [HBN.out] at hbnW; omega
    have hdw : di < 18446744073709551616 := by have := hi.d1; omega
    have hd0 := hi.d0
    have hbnp : 0 < bn := by rw [HBN.out]; exact pow_pos_ (by omega) n
    have CP0 : ∀ W, Calls Tryd.prog 24 #[.int .u64 b, .int .i64 (i : Int)] W fun e w' => e = .returned (.int .u64 (b ^ i)) ∧ W = w' := fun W => by
      have h := pow_any b i W (by omega) (by omega) (by omega)
      rw [Int.emod_eq_of_lt (Int.le_of_lt hbp) hbi] at h
      exact h
    have CP := Lib.hid CP0
    clear CP0
    have EI := Lib.hid (hi.ev)
    clear hi HR
    rcases hrd with ⟨hk, hch, rfl, hr⟩ | ⟨hk, hch, rfl, hr⟩
    · have HRD := Lib.hid hr
      have hcb := byteAt_bd s k
      rw [← hch] at hcb
      obtain ⟨hcb0, hcb1⟩ := hcb
      have HCH := Lib.hid hch
      have hEr := I.out.fr
      clear hr hch
      go_upto_region 47 with fail
      go_cut [124] from 120 to 124 (fun v wx => ScCut (.bool false) (fun wx => wr = wx) v wx)
      case first =>
        by_cases h46 : ch' = 46
        · subst h46
          go_wp2_with fail
          go_meet
          exact ⟨rfl, rfl⟩
        · have hb46 : (ch' == 46) = false := by rw [beq_eq_false_iff_ne]; exact h46
          go_wp2_with fail
          go_meet
          exact ⟨rfl, rfl⟩
      case rest =>
        obtain ⟨rfl, rfl⟩ := hcut
        go_upto_region 53 with fail
        go_cut [133] from 128 to 133 (fun v wx => ScCut (.bool false) (fun wx => wr = wx) v wx)
        case first =>
          by_cases h95 : ch' = 95
          · subst h95
            go_wp2_with fail
            go_meet
            exact ⟨rfl, rfl⟩
          · have hb95 : (ch' == 95) = false := by rw [beq_eq_false_iff_ne]; exact h95
            go_wp2_with fail
            go_meet
            exact ⟨rfl, rfl⟩
        case rest =>
          obtain ⟨rfl, rfl⟩ := hcut
          obtain ⟨dv, hdv⟩ : ∃ x, x = digC b ch' := ⟨_, rfl⟩
          have HDV := Lib.hid hdv
          have hdb := digC_bd b ch'
          rw [← hdv] at hdb
          obtain ⟨hdb0, hdb1⟩ := hdb
          clear hdv
          go_upto_block 4 with fail
          go_cut [23] from 136 to 173 (fun v wx => ScCut (.int .u64 dv) (fun wx => wr = wx) v wx)
          case first =>
            by_cases h1 : 48 ≤ ch' ∧ ch' ≤ 57
            · obtain ⟨h1, h2⟩ := h1
              obtain rfl : dv = ch' - 48 := by rw [HDV.out]; unfold digC; rw [if_pos ⟨h1, h2⟩]
              have u1 : IntKind.u8.wrap (ch' - 48) = ch' - 48 := by rw [IntKind.wrap_u8]; omega
              have u2 : IntKind.u64.wrap (ch' - 48) = ch' - 48 := by rw [IntKind.wrap_u64]; omega
              go_wp2_with fail
              go_meet
              exact ⟨rfl, rfl⟩
            · by_cases h3 : 97 ≤ ch' ∧ ch' ≤ 122
              · obtain ⟨h3, h4⟩ := h3
                have h5 : 48 ≤ ch' := by omega
                have h6 : ¬ ch' ≤ 57 := by omega
                obtain rfl : dv = ch' - 97 + 10 := by rw [HDV.out]; unfold digC; rw [if_neg h1, if_pos ⟨h3, h4⟩]; omega
                have u1 : IntKind.u8.wrap (ch' - 97) = ch' - 97 := by rw [IntKind.wrap_u8]; omega
                have u2 : IntKind.u8.wrap (ch' - 97 + 10) = ch' - 97 + 10 := by rw [IntKind.wrap_u8]; omega
                have u3 : IntKind.u64.wrap (ch' - 97 + 10) = ch' - 97 + 10 := by rw [IntKind.wrap_u64]; omega
                clear h1
                go_wp2_with fail
                go_meet
                exact ⟨rfl, rfl⟩
              · by_cases h7 : 65 ≤ ch' ∧ ch' ≤ 90
                · obtain ⟨h7, h8⟩ := h7
                  have h5 : 48 ≤ ch' := by omega
                  have h6 : ¬ ch' ≤ 57 := by omega
                  have h9 : ¬ 97 ≤ ch' := by omega
                  have u1 : IntKind.u8.wrap (ch' - 65) = ch' - 65 := by rw [IntKind.wrap_u8]; omega
                  by_cases h10 : b ≤ 36
                  · obtain rfl : dv = ch' - 65 + 10 := by rw [HDV.out]; unfold digC; rw [if_neg h1, if_neg h3, if_pos ⟨h7, h8⟩, if_pos h10]; omega
                    have u2 : IntKind.u8.wrap (ch' - 65 + 10) = ch' - 65 + 10 := by rw [IntKind.wrap_u8]; omega
                    have u3 : IntKind.u64.wrap (ch' - 65 + 10) = ch' - 65 + 10 := by rw [IntKind.wrap_u64]; omega
                    clear h1 h3
                    go_wp2_with fail
                    go_meet
                    exact ⟨rfl, rfl⟩
                  · obtain rfl : dv = ch' - 65 + 36 := by rw [HDV.out]; unfold digC; rw [if_neg h1, if_neg h3, if_pos ⟨h7, h8⟩, if_neg h10]; omega
                    have u2 : IntKind.u8.wrap (ch' - 65 + 36) = ch' - 65 + 36 := by rw [IntKind.wrap_u8]; omega
                    have u3 : IntKind.u64.wrap (ch' - 65 + 36) = ch' - 65 + 36 := by rw [IntKind.wrap_u64]; omega
                    clear h1 h3
                    go_wp2_with fail
                    go_meet
                    exact ⟨rfl, rfl⟩
                · obtain rfl : dv = 63 := by rw [HDV.out]; unfold digC; rw [if_neg h1, if_neg h3, if_neg h7]
                  rcases (show ch' < 48 ∨ (57 < ch' ∧ ch' < 65) ∨ (90 < ch' ∧ ch' < 97) ∨ 122 < ch' by omega) with hh | ⟨hh, hh'⟩ | ⟨hh, hh'⟩ | hh
                  · have q1 : ¬ 48 ≤ ch' := by omega
                    have q2 : ¬ 97 ≤ ch' := by omega
                    have q3 : ¬ 65 ≤ ch' := by omega
                    clear h1 h3 h7
                    go_wp2_with fail
                    go_meet
                    exact ⟨rfl, rfl⟩
                  · have q1 : 48 ≤ ch' := by omega
                    have q4 : ¬ ch' ≤ 57 := by omega
                    have q2 : ¬ 97 ≤ ch' := by omega
                    have q3 : ¬ 65 ≤ ch' := by omega
                    clear h1 h3 h7
                    go_wp2_with fail
                    go_meet
                    exact ⟨rfl, rfl⟩
                  · have q1 : 48 ≤ ch' := by omega
                    have q4 : ¬ ch' ≤ 57 := by omega
                    have q2 : ¬ 97 ≤ ch' := by omega
                    have q3 : 65 ≤ ch' := by omega
                    have q5 : ¬ ch' ≤ 90 := by omega
                    clear h1 h3 h7
                    go_wp2_with fail
                    go_meet
                    exact ⟨rfl, rfl⟩
                  · have q1 : 48 ≤ ch' := by omega
                    have q4 : ¬ ch' ≤ 57 := by omega
                    have q2 : 97 ≤ ch' := by omega
                    have q6 : ¬ ch' ≤ 122 := by omega
                    have q3 : 65 ≤ ch' := by omega
                    have q5 : ¬ ch' ≤ 90 := by omega
                    clear h1 h3 h7
                    go_wp2_with fail
                    go_meet
                    exact ⟨rfl, rfl⟩
          case rest =>
            obtain ⟨rfl, rfl⟩ := hcut
            by_cases hd : dv < b
            · have hdB : decide (b ≤ dv) = false := decide_eq_false (by omega)
              have hsd := scan_di hb2 hd0 I.out.d1 hdb0 hd
              have hpn := powB_le (b := b) (by omega) (show i + 1 ≤ n by omega)
              have hbW : b ^ n < 18446744073709551616 := by rw [← HBN.out]; exact hbnW
              have hdi0 : 0 ≤ di * b := Int.mul_nonneg hd0 (by omega)
              have w1_ : IntKind.u64.wrap (di * b) = di * b := by rw [IntKind.wrap_u64]; omega
              obtain ⟨dn, hdn⟩ : ∃ x, x = di * b + dv := ⟨_, rfl⟩
              have w2_ : IntKind.u64.wrap (di * b + dv) = dn := by rw [IntKind.wrap_u64]; omega
              have hdn0 : 0 ≤ dn := by omega
              have hdn1 : dn < 18446744073709551616 := by omega
              have hbnp' : (bn == 0) = false := by rw [beq_eq_false_iff_ne]; omega
              have CMB := Lib.hid (sc_mul I.out hs hb2 hb62 bn dn hbnp hbnW hdn0 hdn1)
              have CRB := Lib.hid (fun (W : World) (hW : RdAt W p s (k + 1) (-1)) (hf : Fr [p] w W) => readByte_any hW (show k + 1 ≤ s.size by omega) (by omega) (HE.out.fr hf hp) hp)
              have HDN := Lib.hid hdn
              have HDD := Lib.hid hd
              have HDVK := Lib.hid (show dv = digC b (byteAt s k) by rw [HDV.out, HCH.out])
              clear hsd hpn hbW hdi0 hdn
              go_upto_if 176 with fail
              try simp only [hdB]
              go_upto_if 190 with fail
              by_cases hin : i + 1 = n
              · have hinb : (((i : Int) + 1) == (n : Int)) = true := by rw [beq_iff_eq]; omega
                have HIN := Lib.hid hin
                try simp only [hinb]
                clear hin hdB hd
                go_wp2_with (first
                  | (go_at_call 23; refine (CMB.out).mono ?_; rintro e w6 ⟨A', b', o', c', us, rfl, m1, m2, m3, m4, m5, m6, m7, m8⟩; have SI := Lib.hid (sc_next2 I.out hk HDVK.out hb2 HDD.out HIN.out m1 m2 m3 (by rw [← HBN.out, ← HDN.out]; exact m4) m5 m6 m7); have M8 := Lib.hid (m8 _ _ HRD.out); clear m1 m2 m3 m4 m5 m6 m7 m8)
                  | (go_at_call 63; refine (CRB.out _ M8.out SI.out.fr).mono ?_; rintro e w7 ⟨ch2, err2, rfl, r7, f7⟩; have R7 := Lib.hid r7; have S7 := Lib.hid (SI.out.rd M8.out f7); clear r7 f7))
                go_roundg (s.size + 1 - (k + 1))
                case measure => omega
                case rel => exact ⟨k + 1, 0, 0, A', b', o', c', us, 48, ch2, rfl, rfl, rfl, rfl, rfl, by first | rfl | go_num, rfl, rfl, rfl, rfl, by omega, S7.out, R7.out⟩
              · have hinb : (((i : Int) + 1) == (n : Int)) = false := by rw [beq_eq_false_iff_ne]; omega
                have SI := Lib.hid (sc_next1 I.out hk HDVK.out hb2 hd (show i + 1 < n by omega))
                try simp only [hinb]
                clear hin hdB hd
                go_wp2_with (go_at_call 63; refine (CRB.out _ HRD.out SI.out.fr).mono ?_; rintro e w7 ⟨ch2, err2, rfl, r7, f7⟩; have R7 := Lib.hid r7; have S7 := Lib.hid (SI.out.rd HRD.out f7); clear r7 f7)
                go_roundg (s.size + 1 - (k + 1))
                case measure => omega
                case rel =>
                  have S8 := S7.out
                  rw [← HDN.out] at S8
                  exact ⟨k + 1, i + 1, dn, A, bz, oz, c, zs, 48, ch2, rfl, rfl, rfl, rfl, rfl, by first | rfl | go_num, rfl, rfl, rfl, by first | rfl | go_num, by omega, S8, R7.out⟩
            · have hdB : decide (b ≤ dv) = true := decide_eq_true (by omega)
              have HBD := Lib.hid (show b ≤ digC b (byteAt s k) by rw [← HCH.out, ← HDV.out]; omega)
              have CU := Lib.hid (unreadByte_any HRD.out (show k ≤ 1000000 by omega))
              have hbn0' : (bn == 0) = false := by rw [beq_eq_false_iff_ne]; omega
              have CMA := Lib.hid (fun (W : World) (f : Fr [p] wr W) => sc_mul (I.out.rd HRD.out f) hs hb2 hb62 (b ^ i) di hbp hbi hd0 hdw)
              obtain ⟨bi, hbie⟩ : ∃ x, x = b ^ i := ⟨_, rfl⟩
              rw [← hbie] at CP CMA
              clear hbie hd
              go_upto_if 176 with fail
              try simp only [hdB]
              clear hdB
              go_upto_if 209 with (go_at_call 64; refine (CU.out).mono ?_; rintro e w3 ⟨rfl, r3, f3⟩; have R3 := Lib.hid r3; have ce := HE.out.fr (I.out.fr.trans f3 (fun x hx _ => hx)) hp; unfold EofAt at ce; have cn := cellFr HN.out (I.out.fr.trans f3 (fun x hx _ => hx)) hp2; clear r3)
              by_cases hk0 : k = 0
              · have hkb : ((k : Int) == 0) = true := by rw [beq_iff_eq]; omega
                clear hk0
                by_cases hi0 : i = 0
                · subst hi0
                  go_wp2_with fail
                  refine bodyPost_ret (v := .tuple #[.slice A zs.length c, .int .i64 b, .int .i64 (k : Int), .iface T2 (.pointer (some na))]) (by simp [results, Tryd.results21, go_sem]) rfl ⟨A, zs.length, c, k, .iface T2 (.pointer (some na)), rfl, (I.out.rd HRD.out f3).fr, .inr ⟨k, hk, HBD.out, .inr ⟨T2, na, rfl⟩⟩⟩
                · have hi1 : 0 < (i : Int) := by omega
                  have hd : decide (0 < (i : Int)) = true := decide_eq_true hi1
                  have hdN : decide (0 < i) = true := decide_eq_true (by omega)
                  go_upto_if 260 with fail
                  first | simp only [hd] | simp only [hdN] | skip
                  clear hi0 hi1 hd hdN
                  go_wp2_with (first
                    | (go_at_call 24; refine (CP.out _).mono ?_; rintro e w5 ⟨rfl, rfl⟩)
                    | (go_at_call 23; refine (CMA.out _ f3).mono ?_; rintro e w6 ⟨A', b', o', c', us, rfl, m1, m2, m3, m4, m5, m6, m7, m8⟩; have M7 := Lib.hid m7; have M8 := Lib.hid (m8 _ _ R3.out); clear m1 m2 m3 m4 m5 m7 m8))
                  refine bodyPost_ret (v := .tuple #[.slice A' us.length c', .int .i64 b, .int .i64 (k : Int), .iface T2 (.pointer (some na))]) (by simp [results, Tryd.results21, go_sem]) rfl ⟨A', us.length, c', k, .iface T2 (.pointer (some na)), rfl, M7.out, .inr ⟨k, hk, HBD.out, .inr ⟨T2, na, rfl⟩⟩⟩
              · have hkb : ((k : Int) == 0) = false := by rw [beq_eq_false_iff_ne]; omega
                clear hk0
                by_cases hi0 : i = 0
                · subst hi0
                  go_wp2_with fail
                  refine bodyPost_ret (v := .tuple #[.slice A zs.length c, .int .i64 b, .int .i64 (k : Int), .nilIface]) (by simp [results, Tryd.results21, go_sem]) rfl ⟨A, zs.length, c, k, .nilIface, rfl, (I.out.rd HRD.out f3).fr, .inr ⟨k, hk, HBD.out, .inl ⟨rfl, R3.out⟩⟩⟩
                · have hi1 : 0 < (i : Int) := by omega
                  have hd : decide (0 < (i : Int)) = true := decide_eq_true hi1
                  have hdN : decide (0 < i) = true := decide_eq_true (by omega)
                  go_upto_if 260 with fail
                  first | simp only [hd] | simp only [hdN] | skip
                  clear hi0 hi1 hd hdN
                  go_wp2_with (first
                    | (go_at_call 24; refine (CP.out _).mono ?_; rintro e w5 ⟨rfl, rfl⟩)
                    | (go_at_call 23; refine (CMA.out _ f3).mono ?_; rintro e w6 ⟨A', b', o', c', us, rfl, m1, m2, m3, m4, m5, m6, m7, m8⟩; have M7 := Lib.hid m7; have M8 := Lib.hid (m8 _ _ R3.out); clear m1 m2 m3 m4 m5 m7 m8))
                  refine bodyPost_ret (v := .tuple #[.slice A' us.length c', .int .i64 b, .int .i64 (k : Int), .nilIface]) (by simp [results, Tryd.results21, go_sem]) rfl ⟨A', us.length, c', k, .nilIface, rfl, M7.out, .inr ⟨k, hk, HBD.out, .inl ⟨rfl, M8.out⟩⟩⟩
    · have HRD := Lib.hid hr
      have HK := Lib.hid hk
      have ce : wr.cell? ⟨0, 0, none⟩ = some (.iface 92 (.pointer (some ea))) := HE.out.fr hE hp
      have hk0 : ((k : Int) == 0) = false := by rw [beq_eq_false_iff_ne]; omega
      have hbn0' : (bn == 0) = false := by rw [beq_eq_false_iff_ne]; omega
      have CMA := Lib.hid (sc_mul I.out hs hb2 hb62 (b ^ i) di hbp hbi hd0 hdw)
      have EF := Lib.hid (show figs b ((bytesL s).take k) = figs b (bytesL s) by rw [List.take_of_length_le (by rw [bytesL_len]; omega)])
      obtain ⟨bi, hbie⟩ : ∃ x, x = b ^ i := ⟨_, rfl⟩
      rw [← hbie] at CP CMA EI
      have HBI := Lib.hid hbie
      clear hr hk hE hch hbie
      by_cases hi0 : i = 0
      · subst hi0
        go_wp2_with fail
        refine bodyPost_ret (v := .tuple #[.slice A zs.length c, .int .i64 b, .int .i64 (k : Int), .nilIface]) (by simp [results, Tryd.results21, go_sem]) rfl ⟨A, zs.length, c, k, .nilIface, rfl, I.out.fr, .inl ⟨fun j hj => I.out.dg j (by rw [HK.out]; exact hj), rfl, ?_, by have := HRD.out; rwa [HK.out] at this⟩⟩
        have h1 := nm_sw I.out.z I.out.zd I.out.zz
        have h2 := I.out.d1
        have h3 := EI.out
        rw [HBI.out, Int.pow_zero, Int.mul_one] at h3
        rw [Int.pow_zero] at h2
        rw [← EF.out, ← h3, show di = 0 by omega, Int.add_zero]
        exact h1
      · have hi1 : 0 < (i : Int) := by omega
        have hd : decide (0 < (i : Int)) = true := decide_eq_true hi1
        have hdN : decide (0 < i) = true := decide_eq_true (by omega)
        go_upto_if 260 with fail
        first | simp only [hd] | simp only [hdN] | skip
        clear hi0 hi1 hd hdN
        go_upto_region 96 with fail
        go_wp2_with (first
          | (go_at_call 24; refine (CP.out _).mono ?_; rintro e w5 ⟨rfl, rfl⟩)
          | (go_at_call 23; refine (CMA.out).mono ?_; rintro e w6 ⟨A', b', o', c', us, rfl, m1, m2, m3, m4, m5, m6, m7, m8⟩; have M1 := Lib.hid m1; have M2 := Lib.hid m2; have M3 := Lib.hid m3; have M4 := Lib.hid m4; have M7 := Lib.hid m7; have M8 := Lib.hid m8; clear m1 m2 m3 m4 m5 m7 m8))
        refine bodyPost_ret (v := .tuple #[.slice A' us.length c', .int .i64 b, .int .i64 (k : Int), .nilIface]) (by simp [results, Tryd.results21, go_sem]) rfl ⟨A', us.length, c', k, .nilIface, rfl, M7.out, .inl ⟨fun j hj => I.out.dg j (by rw [HK.out]; exact hj), rfl, ?_, by have := M8.out _ _ HRD.out; rwa [HK.out] at this⟩⟩
        have h1 := nm_sw M1.out M2.out M3.out
        rw [M4.out, EI.out, EF.out] at h1
        exact h1
end Go.Proofs.YtbepihdlaidikaaDoor
