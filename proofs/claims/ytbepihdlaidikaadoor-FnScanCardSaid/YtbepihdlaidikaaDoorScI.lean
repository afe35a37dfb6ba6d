/-
  Int.scan, setFromScanner, SetString of a text without a sign, and impl.Scan. Conditions: io.EOF and errNoDigits read as laid.
-/
import Derived.Test.YtbepihdlaidikaaDoorScK
import Derived.Test.YtbepihdlaidikaaDoorWof
set_option linter.unusedSimpArgs false
set_option linter.unusedVariables false
namespace Go.Proofs.YtbepihdlaidikaaDoor
open Go.Big Go.RowKit
/-- all its bytes are figures to the base, one at least -/
def Good (b : Int) (s : ByteArray) : Prop := 0 < s.size ∧ ∀ j, j < s.size → digC b (byteAt s j) < b
theorem bad_at {b : Int} {s : ByteArray} {k : Nat} (hk : k < s.size) (h : b ≤ digC b (byteAt s k)) : ¬ Good b s := fun g => by have := g.2 k hk; omega
theorem EofAt.frS {S : List Nat} {w w1 : World} {T : TypeId} {ea : Addr} (h : EofAt w T ea) (f : Fr S w w1) (hS : 0 ∉ S) : EofAt w1 T ea := by
  unfold EofAt at h ⊢
  rw [World.cell?_of_block (f.block _ (World.block_lt_of_cell? w _ h) hS)]
  exact h
theorem nil_neqI (T : TypeId) (v : Value) (w : World) : (binOp .neq 53 (.iface T v) .nilIface).run Tryd.prog w = .ok (.bool true) w := by
  have h : ∀ d : Nat, (Op.equalIn (d + 1) 53 (.iface T v) .nilIface).run Tryd.prog w = .ok false w := fun d => by simp [Op.equalIn, run_underlying Tryd.underlying53]
  simp only [binOp]
  simp [Op.equal, Op.maxDepth, h 9999]
theorem IntB.src_ne {w : World} {p b off l c : Nat} {neg : Bool} {A : Option Addr} {xs : List Int} (h : IntB w p neg A l c) (hs : Go.Big.Src .u64 w b off xs) (hx : 0 < xs.length) : b ≠ p := by
  rintro rfl
  have h1 := hs 0 hx
  unfold IntB at h
  unfold World.cell? at h1
  rw [h] at h1
  simp at h1
  rcases off with _ | _ | k <;> simp at h1
theorem RdAt.src_ne {w : World} {p i b off : Nat} {s : ByteArray} {pr : Int} {xs : List Int} (h : RdAt w p s i pr) (hs : Go.Big.Src .u64 w b off xs) (hx : 0 < xs.length) : b ≠ p := by
  rintro rfl
  have h1 := hs 0 hx
  unfold RdAt at h
  unfold World.cell? at h1
  rw [h] at h1
  simp at h1
  rcases off with _ | _ | _ | k <;> simp at h1
theorem sl_frN {w w1 : World} {v : Value} {xs : List Int} {S : List Nat} (h : Sl .u64 w v xs) (hf : Fr S w w1) (hS : ∀ b off, Go.Big.Src .u64 w b off xs → 0 < xs.length → b ∉ S) : Sl .u64 w1 v xs := by
  obtain ⟨A, cap, rfl, h1, h2, h3⟩ := h
  refine ⟨A, cap, rfl, h1, h2, fun hp => ?_⟩
  obtain ⟨b, off, rfl, h4, h5⟩ := h3 hp
  exact ⟨b, off, rfl, Nat.lt_of_lt_of_le h4 hf.size, h5.fr hf (hS b off h5 hp)⟩
theorem SW.int {w w1 : World} {p l c : Nat} {neg : Bool} {A : Option Addr} {v : Value} {n : Int} (h : SW w v n) (hi : IntB w p neg A l c) (hf : Fr [p] w w1) : SW w1 v n := by
  obtain ⟨ys, h1, h2⟩ := h
  exact ⟨ys, sl_frN h1 hf (fun b off hs hx => by simp; exact hi.src_ne hs hx), h2⟩
theorem SW.rd {w w1 : World} {p i : Nat} {s : ByteArray} {pr : Int} {v : Value} {n : Int} (h : SW w v n) (hi : RdAt w p s i pr) (hf : Fr [p] w w1) : SW w1 v n := by
  obtain ⟨ys, h1, h2⟩ := h
  exact ⟨ys, sl_frN h1 hf (fun b off hs hx => by simp; exact hi.src_ne hs hx), h2⟩
theorem IntB.fr1 {w w1 : World} {p q l c : Nat} {neg : Bool} {A : Option Addr} (h : IntB w q neg A l c) (f : Fr [p] w w1) (hq : q ≠ p) : IntB w1 q neg A l c := (f.block q h.lt (by simp; exact hq)).trans h
theorem RdAt.fr1 {w w1 : World} {p q i : Nat} {s : ByteArray} {pr : Int} (h : RdAt w p s i pr) (f : Fr [q] w w1) (hq : p ≠ q) : RdAt w1 p s i pr := h.fr f (by simp; exact hq)
theorem fr_two {w w1 : World} {p q : Nat} (f : Fr [p] w w1) : Fr [p, q] w w1 := f.mono (by simp)
theorem fr_two' {w w1 : World} {p q : Nat} (f : Fr [q] w w1) : Fr [p, q] w w1 := f.mono (by simp)
set_option maxRecDepth 100000 in
/-- nothing there -/
theorem scanSign_end {w : World} {p : Nat} {s : ByteArray} {pr : Int} {ea : Addr} (h : RdAt w p s 0 pr) (hs0 : s.size = 0) (he : EofAt w 92 ea) (hp : p ≠ 0) :
    Calls Tryd.prog 20 #[.iface 44 (.pointer (some ⟨p, 0, none⟩))] w fun e w' => e = .returned (.tuple #[.bool false, .iface 92 (.pointer (some ea))]) ∧ Fr [p] w w' := by
  have CR := Lib.hid (readByte_end h (by omega) (by omega) (by omega) he hp)
  have hm1 := rd_method
  have hm2 := rd_call
  have hm5 := nil_neqI
  clear h
  go_enter Tryd.func20, Tryd.ntmps20
  go_wp2_with (go_at_call 63; refine (CR.out).mono ?_; rintro e w1 ⟨rfl, hr, hf⟩; have HF := Lib.hid hf; clear hr hf)
  go_ret2
  exact ⟨rfl, HF.out⟩
theorem scan_any {w : World} {p : Nat} {s : ByteArray} {pr b : Int} {T2 : TypeId} {ea na : Addr} (h : RdAt w p s 0 pr) (hs0 : 0 < s.size) (hs : s.size ≤ 3000) (hb2 : 2 ≤ b) (hb62 : b ≤ 62) (he : EofAt w 92 ea) (hp : p ≠ 0) (hn : w.cell? ⟨2, 0, none⟩ = some (.iface T2 (.pointer (some na)))) (hp2 : p ≠ 2) :
    Calls Tryd.prog 21 #[.slice none 0 0, .iface 44 (.pointer (some ⟨p, 0, none⟩)), .int .i64 b, .bool false] w (ScanPost p s b w) := by
  by_cases g2 : b = 2
  · exact scan_pack h hs0 hs (.inl ⟨g2, rfl, rfl⟩) he hp hn hp2
  by_cases g4 : b = 4
  · exact scan_pack h hs0 hs (.inr (.inl ⟨g4, rfl, rfl⟩)) he hp hn hp2
  by_cases g16 : b = 16
  · exact scan_pack h hs0 hs (.inr (.inr ⟨g16, rfl, rfl⟩)) he hp hn hp2
  exact scan_gen h hs0 hs hb2 hb62 g2 g4 g16 he hp hn hp2
def IScan (p pz : Nat) (s : ByteArray) (b : Int) (w : World) (e : Ending) (w' : World) : Prop :=
  ∃ v n err, e = .returned (.tuple #[v, .int .i64 n, err]) ∧ Fr [p, pz] w w' ∧
    ((Good b s ∧ err = .nilIface ∧ v = .pointer (some ⟨pz, 0, none⟩) ∧ RdAt w' p s s.size (-1) ∧ ∃ A l c, IntB w' pz false A l c ∧ SW w' (.slice A l c) (figs b (bytesL s))) ∨
     (¬ Good b s ∧ ((err = .nilIface ∧ ∃ k, k < s.size ∧ RdAt w' p s k (-1)) ∨ ∃ T a, err = .iface T (.pointer (some a)))))
set_option maxRecDepth 100000 in
set_option maxHeartbeats 2000000 in
theorem intScan_any {w : World} {p pz : Nat} {s : ByteArray} {pr b : Int} {T2 : TypeId} {ea na : Addr} (h : RdAt w p s 0 pr) (hs : s.size ≤ 3000) (hg : 0 < s.size → byteAt s 0 ≠ 43 ∧ byteAt s 0 ≠ 45) (hb2 : 2 ≤ b) (hb62 : b ≤ 62) (he : EofAt w 92 ea) (hp : p ≠ 0) (hn : w.cell? ⟨2, 0, none⟩ = some (.iface T2 (.pointer (some na)))) (hp2 : p ≠ 2)
    (hz : IntB w pz false none 0 0) (hpz : pz ≠ p) :
    Calls Tryd.prog 19 #[.pointer (some ⟨pz, 0, none⟩), .iface 44 (.pointer (some ⟨p, 0, none⟩)), .int .i64 b] w (IScan p pz s b w) := by
  have hnq := nil_neqI
  rcases Nat.eq_zero_or_pos s.size with h0 | h0
  · have CS := Lib.hid (scanSign_end h h0 he hp)
    have BAD := Lib.hid (show ¬ Good b s from fun g => by have := g.1; omega)
    clear h he hn hg
    go_enter Tryd.func19, Tryd.ntmps19
    go_wp2_with (go_at_call 20; refine (CS.out).mono ?_; rintro e w1 ⟨rfl, hf⟩; have HF := Lib.hid hf; clear hf)
    refine bodyPost_ret (v := .tuple #[.pointer none, .int .i64 0, .iface 92 (.pointer (some ea))]) (by simp [results, Tryd.results19, go_sem]) rfl ?_
    exact ⟨_, _, _, rfl, fr_two HF.out, .inr ⟨BAD.out, .inr ⟨_, _, rfl⟩⟩⟩
  · have CS := Lib.hid (scanSign_any h h0 (by omega) (hg h0).1 (hg h0).2)
    have CN := Lib.hid (fun (W : World) (hW : RdAt W p s 0 (-1)) (f : Fr [p] w W) => scan_any hW h0 hs hb2 hb62 (he.fr f hp) hp (cellFr hn f hp2) hp2)
    have HZ := Lib.hid hz
    have H0 := Lib.hid h0
    clear h he hn hg hz
    go_enter Tryd.func19, Tryd.ntmps19
    go_upto_region 4 with (go_at_call 20; refine (CS.out).mono ?_; rintro e w1 ⟨rfl, hr, hf⟩; have HR := Lib.hid hr; have HF := Lib.hid hf; have Z1 := Lib.hid (HZ.out.fr1 hf hpz); have z11 := Z1.out.cell1; clear hr hf)
    go_upto_region 5 with (go_at_call 21; refine (CN.out _ HR.out HF.out).mono ?_; rintro e w2 ⟨A2, l2, c2, cnt, err, rfl, f2, hpost⟩; have F2 := Lib.hid f2; have HP := Lib.hid hpost; have Z2 := Lib.hid (Z1.out.fr1 f2 hpz); have z2f := Z2.out.frozen 1; have z20 := Z2.out.cell0; have z21 := Z2.out.cell1; have Z3 := Lib.hid (Z2.out.set1 A2 l2 c2); have z31 := Z3.out.cell1; have z3f := Z3.out.frozen 0; clear f2 hpost)
    have FF := Lib.hid (Fr.trans (fr_two (q := pz) HF.out) (Fr.trans (fr_two (q := pz) F2.out) ((Fr.refl [p, pz] w2).set (p := ⟨pz, 1, none⟩) (.inl (by simp)) (.slice A2 l2 c2)) (fun x hx _ => hx)) (fun x hx _ => hx))
    rcases HP.out with ⟨hd, rfl, hsw, hr2⟩ | ⟨k, hk, hbd, ⟨rfl, hr2⟩ | ⟨T, a, rfl⟩⟩
    · have HSW := Lib.hid hsw
      have HR2 := Lib.hid hr2
      have HD := Lib.hid hd
      clear hd hsw hr2 HP CN CS
      go_wp2_with fail
      all_goals
        refine bodyPost_ret (v := .tuple #[.pointer (some ⟨pz, 0, none⟩), .int .i64 b, .nilIface]) (by simp [results, Tryd.results19, go_sem]) rfl ?_
        have g2 : Fr [pz] w2 (w2.setCell ⟨pz, 1, none⟩ (.slice A2 l2 c2)) := (Fr.refl _ _).set (.inl (by simp)) _
        have g3 : Fr [pz] (w2.setCell ⟨pz, 1, none⟩ (.slice A2 l2 c2)) ((w2.setCell ⟨pz, 1, none⟩ (.slice A2 l2 c2)).setCell ⟨pz, 0, none⟩ (.bool false)) := (Fr.refl _ _).set (.inl (by simp)) _
        refine ⟨_, _, _, rfl, FF.out.trans (fr_two' g3) (fun x hx _ => hx), .inl ⟨⟨H0.out, HD.out⟩, rfl, rfl, (HR2.out.fr1 g2 hpz.symm).fr1 g3 hpz.symm, A2, l2, c2, Z3.out.set0 false, (HSW.out.int Z2.out g2).int Z3.out g3⟩⟩
    · have HR2 := Lib.hid hr2
      have HK := Lib.hid hk
      have BAD := Lib.hid (bad_at hk hbd)
      clear hr2 hk hbd HP CN CS
      go_wp2_with fail
      all_goals
        refine bodyPost_ret (v := .tuple #[.pointer (some ⟨pz, 0, none⟩), .int .i64 b, .nilIface]) (by simp [results, Tryd.results19, go_sem]) rfl ?_
        have g2 : Fr [pz] w2 (w2.setCell ⟨pz, 1, none⟩ (.slice A2 l2 c2)) := (Fr.refl _ _).set (.inl (by simp)) _
        have g3 : Fr [pz] (w2.setCell ⟨pz, 1, none⟩ (.slice A2 l2 c2)) ((w2.setCell ⟨pz, 1, none⟩ (.slice A2 l2 c2)).setCell ⟨pz, 0, none⟩ (.bool false)) := (Fr.refl _ _).set (.inl (by simp)) _
        exact ⟨_, _, _, rfl, FF.out.trans (fr_two' g3) (fun x hx _ => hx), .inr ⟨BAD.out, .inl ⟨rfl, k, HK.out, (HR2.out.fr1 g2 hpz.symm).fr1 g3 hpz.symm⟩⟩⟩
    · have BAD := Lib.hid (bad_at hk hbd)
      clear hk hbd HP CN CS
      go_wp2_with fail
      refine bodyPost_ret (v := .tuple #[.pointer none, .int .i64 b, .iface T (.pointer (some a))]) (by simp [results, Tryd.results19, go_sem]) rfl ?_
      exact ⟨_, _, _, rfl, FF.out, .inr ⟨BAD.out, .inr ⟨_, _, rfl⟩⟩⟩
def ISet (p pz : Nat) (s : ByteArray) (b : Int) (w : World) (e : Ending) (w' : World) : Prop :=
  ∃ v ok, e = .returned (.tuple #[v, .bool ok]) ∧ Fr [p, pz] w w' ∧
    ((Good b s ∧ ok = true ∧ v = .pointer (some ⟨pz, 0, none⟩) ∧ ∃ A l c, IntB w' pz false A l c ∧ SW w' (.slice A l c) (figs b (bytesL s))) ∨
     (¬ Good b s ∧ ok = false ∧ v = .pointer none))
set_option maxRecDepth 100000 in
set_option maxHeartbeats 2000000 in
theorem setFrom_any {w : World} {p pz : Nat} {s : ByteArray} {pr b : Int} {T2 : TypeId} {ea na : Addr} (h : RdAt w p s 0 pr) (hs : s.size ≤ 3000) (hg : 0 < s.size → byteAt s 0 ≠ 43 ∧ byteAt s 0 ≠ 45) (hb2 : 2 ≤ b) (hb62 : b ≤ 62) (he : EofAt w 92 ea) (hp : p ≠ 0) (hn : w.cell? ⟨2, 0, none⟩ = some (.iface T2 (.pointer (some na)))) (hp2 : p ≠ 2)
    (hz : IntB w pz false none 0 0) (hpz : pz ≠ p) (hpzE : pz ≠ 0) :
    Calls Tryd.prog 15 #[.pointer (some ⟨pz, 0, none⟩), .iface 44 (.pointer (some ⟨p, 0, none⟩)), .int .i64 b] w (ISet p pz s b w) := by
  have hnq := nil_neqI
  have hne := eof_neq
  have hnn := nil_neq
  have hm1 := rd_method
  have hm2 := rd_call
  have CI := Lib.hid (intScan_any h hs hg hb2 hb62 he hp hn hp2 hz hpz)
  have HE := Lib.hid he
  clear h he hn hg hz
  go_enter Tryd.func15, Tryd.ntmps15
  go_upto_region 2 with (go_at_call 19; refine (CI.out).mono ?_; rintro e w1 ⟨v1, n1, err, rfl, f1, hpost⟩; have F1 := Lib.hid f1; have HP := Lib.hid hpost; have E1 := Lib.hid (HE.out.frS f1 (by simp; exact ⟨hp.symm, hpzE.symm⟩)); clear f1 hpost)
  rcases HP.out with ⟨hgood, rfl, rfl, hr2, A, l, c, hI, hsw⟩ | ⟨hbad, ⟨rfl, k, hk, hr2⟩ | ⟨T, a, rfl⟩⟩
  · have HG := Lib.hid hgood
    have HI := Lib.hid hI
    have HSW := Lib.hid hsw
    have HR2 := Lib.hid hr2
    have CRE := Lib.hid (readByte_end hr2 (Nat.le_refl _) (by omega) (by omega) E1.out hp)
    clear hgood hI hsw hr2 HP CI
    go_upto_region 5 with (go_at_call 63; refine (CRE.out).mono ?_; rintro e w3 ⟨rfl, r3, f3⟩; have F3 := Lib.hid f3; have ce : w3.cell? ⟨0, 0, none⟩ = some (.iface 92 (.pointer (some ea))) := E1.out.fr f3 hp; clear r3 f3)
    go_wp2_with fail
    go_ret2
    exact ⟨_, _, rfl, Fr.trans F1.out (fr_two (q := pz) F3.out) (fun x hx _ => hx), .inl ⟨HG.out, rfl, rfl, A, l, c, HI.out.fr1 F3.out hpz, HSW.out.rd HR2.out F3.out⟩⟩
  · have HB := Lib.hid hbad
    have HR2 := Lib.hid hr2
    have CRE := Lib.hid (readByte_in hr2 hk (by omega))
    clear hbad hr2 hk HP CI
    go_upto_region 5 with (go_at_call 63; refine (CRE.out).mono ?_; rintro e w3 ⟨rfl, r3, f3⟩; have F3 := Lib.hid f3; have ce : w3.cell? ⟨0, 0, none⟩ = some (.iface 92 (.pointer (some ea))) := E1.out.fr f3 hp; clear r3 f3)
    go_wp2_with fail
    go_ret2
    exact ⟨_, _, rfl, Fr.trans F1.out (fr_two (q := pz) F3.out) (fun x hx _ => hx), .inr ⟨HB.out, rfl, rfl⟩⟩
  · have HB := Lib.hid hbad
    clear hbad HP CI
    go_wp2_with fail
    go_ret2
    exact ⟨_, _, rfl, F1.out, .inr ⟨HB.out, rfl, rfl⟩⟩
end Go.Proofs.YtbepihdlaidikaaDoor
