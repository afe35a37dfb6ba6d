/-
  The stack of numbers: a new number of so many words. Conditions: the stack's blocks are as such; not too much in use.
-/
import Derived.Test.YtknokndpeneogaaDoorStkN
import Derived.Lib.QuoteBits
import Derived.Laws.BitsAllLaws
set_option linter.unusedSimpArgs false
set_option linter.unusedVariables false
namespace Go.Big
theorem andNot3 (i : Nat) (h : i < 4611686018427387904) : bits .andNot .i64 (i : Int) 3 = ((i / 4 * 4 : Nat) : Int) := by
  show IntKind.i64.wrap ((BitVec.ofInt 64 (i : Int) &&& ~~~BitVec.ofInt 64 ((3 : Nat) : Int)).toNat : Int) = _
  rw [BitVec.toNat_and, BitVec.toNat_not, ofInt_u64 i (by omega), ofInt_u64 3 (by omega)]
  have e : i &&& (2 ^ 64 - 1 - 3) = i / 4 * 4 := by
    apply Nat.eq_of_testBit_eq
    intro j
    rw [Nat.testBit_and, show 2 ^ 64 - 1 - 3 = (2 ^ 62 - 1) <<< 2 from by decide, Nat.testBit_shiftLeft, Nat.testBit_two_pow_sub_one, show i / 4 * 4 = (i >>> 2) <<< 2 from by rw [Nat.shiftRight_eq_div_pow, Nat.shiftLeft_eq], Nat.testBit_shiftLeft, Nat.testBit_shiftRight]
    by_cases hj : 2 ≤ j
    · rw [show 2 + (j - 2) = j by omega]
      by_cases h2 : j - 2 < 62
      · simp [hj, h2]
      · have : i.testBit j = false := Nat.testBit_lt_two_pow (Nat.lt_of_lt_of_le h (by
          have := Nat.pow_le_pow_right (n := 2) (by omega) (show 62 ≤ j by omega)
          simpa using this))
        simp [this]
    · simp [hj]
  rw [e]
  exact Lib.wrap_i64_small _ (by omega)
end Go.Big
namespace Go.Proofs.YtknokndpeneogaaDoor
open Go.Big Go.RowKit
def GrowPost (A : Option Addr) (len cap nr : Nat) (L : List Int) (w : World) (e : Ending) (w' : World) : Prop :=
  ∃ g c L1, e = .returned (.slice (some ⟨g, 0, none⟩) len c) ∧ len + nr ≤ c ∧ c ≤ maxLen ∧ Row .u64 77 w' g L1 ∧ L1.length = c ∧ Fr [] w w' ∧ (A = some ⟨g, 0, none⟩ ∧ c = cap ∧ L1 = L ∨ w.heap.size ≤ g)
theorem grow_both (A : Option Addr) (len cap nr : Nat) (L : List Int) (w : World) (hl : len ≤ cap) (hc : cap ≤ maxLen) (hn : len + nr ≤ 1000000000000) (hA : 0 < cap → ∃ b, A = some ⟨b, 0, none⟩ ∧ Row .u64 77 w b L) (hL : L.length = cap) (hn0 : 0 < nr) :
    Calls Tryd.prog 138 #[.slice A len cap, .int .i64 nr] w (GrowPost A len cap nr L w) := by
  by_cases hr : len + nr ≤ cap
  · refine (growW_room A len cap nr w hl hc hr).mono ?_
    rintro e w' ⟨rfl, rfl⟩
    obtain ⟨b, rfl, row⟩ := hA (by omega)
    exact ⟨b, cap, L, rfl, hr, hc, row, hL, Fr.refl _ _, .inl ⟨rfl, rfl, rfl⟩⟩
  · have := growW_new A len nr L w (by omega) (by omega) hn (by rw [hL]; exact hA)
    rw [hL] at this
    refine this.mono ?_
    rintro e w' ⟨g, c, rfl, h1, h2, h3, h4, h5, h6⟩
    exact ⟨g, c, _, rfl, h1, h2, h5, by simp; omega, h6, .inr h4⟩
def InatPost (si : Nat) (A : Option Addr) (len cap n : Nat) (w : World) (e : Ending) (w' : World) : Prop :=
  ∃ g c, e = .returned (.slice (some ⟨g, len, none⟩) n n) ∧ StkIn w' ⟨si, g, len + (n + 3) / 4 * 4, c⟩ ∧ (A = some ⟨g, 0, none⟩ ∧ c = cap ∨ w.heap.size ≤ g) ∧ Fc 77 (fun b i => b = si ∨ (A = some ⟨b, 0, none⟩ ∧ len ≤ i)) w w'
theorem inat_fin {si : Nat} {A : Option Addr} {len cap n nr g c : Nat} {L1 : List Int} {w w1 w' : World} (hnr : nr = (n + 3) / 4 * 4) (hn0 : 0 < n) (hsi : w.heap[si]? = some (.cells #[.slice A len cap] 111 (0, 0))) (h1 : len + nr ≤ c) (h2 : c ≤ maxLen) (h3 : Row .u64 77 w1 g L1) (h4 : L1.length = c) (h5 : Fr [] w w1) (h6 : A = some ⟨g, 0, none⟩ ∧ c = cap ∨ w.heap.size ≤ g) (hne : g ≠ si)
    (hw : w' = (((w1.setCell ⟨si, 0, none⟩ (.slice (some ⟨g, 0, none⟩) len c)).setCell ⟨si, 0, none⟩ (.slice (some ⟨g, 0, none⟩) (len + nr) c)).setCell ⟨g, len, none⟩ (.int .u64 1043915))) : InatPost si A len cap n w (.returned (.slice (some ⟨g, len, none⟩) n n)) w' := by
  have s1 : w1.heap[si]? = some (.cells #[.slice A len cap] 111 (0, 0)) := (h5.block si (heap_lt hsi) (by simp)).trans hsi
  have s2 := set_of1 s1 (.slice (some ⟨g, 0, none⟩) len c)
  have s3 := set_of1 s2 (.slice (some ⟨g, 0, none⟩) (len + nr) c)
  have r3 := (h3.far (p := ⟨si, 0, none⟩) hne (.slice (some ⟨g, 0, none⟩) len c)).far (p := ⟨si, 0, none⟩) hne (.slice (some ⟨g, 0, none⟩) (len + nr) c)
  have r4 := r3.set len 1043915
  have fa : Fr [si] w1 ((w1.setCell ⟨si, 0, none⟩ (.slice (some ⟨g, 0, none⟩) len c)).setCell ⟨si, 0, none⟩ (.slice (some ⟨g, 0, none⟩) (len + nr) c)) := by
    apply Fr.set _ (.inl (by simp)); apply Fr.set _ (.inl (by simp)); exact Fr.refl _ _
  have ca : Fc 77 (fun b i => b = si ∨ (b = g ∧ i = len)) w1 ((w1.setCell ⟨si, 0, none⟩ (.slice (some ⟨g, 0, none⟩) len c)).setCell ⟨si, 0, none⟩ (.slice (some ⟨g, 0, none⟩) (len + nr) c)) :=
    Fc.of_fr fa (fun b hb _ i => by simp at hb; exact .inl hb) (fun b hb L hr => by
      simp at hb; subst hb
      unfold Row at hr; rw [s1] at hr; simp at hr)
  have fb : Fr [g] ((w1.setCell ⟨si, 0, none⟩ (.slice (some ⟨g, 0, none⟩) len c)).setCell ⟨si, 0, none⟩ (.slice (some ⟨g, 0, none⟩) (len + nr) c)) w' := by
    rw [hw]; apply Fr.set _ (.inl (by simp)); exact Fr.refl _ _
  rw [← hw] at r4
  have cb : Fc 77 (fun b i => b = si ∨ (b = g ∧ i = len)) _ w' := Fc.of_row fb r3 r4 (by simp) (fun i hi => getD_set _ (fun e => hi (.inr ⟨rfl, e.symm⟩)))
  refine ⟨g, c, rfl, ⟨?_, ⟨_, r4, by simp [h4]⟩, by simp only; omega, h2⟩, h6, (Fc.fr0 h5 _ _).trans (ca.t cb) (fun b i hb hlt => ?_)⟩
  · have := (fb.block si (heap_lt s3) (by simpa using fun e => hne e.symm)).trans s3
    rw [← hnr]; exact this
  · rcases hb with rfl | ⟨rfl, rfl⟩
    · exact .inl rfl
    · rcases h6 with ⟨h, _⟩ | h
      · exact .inr ⟨h, Nat.le_refl _⟩
      · omega
set_option maxRecDepth 100000 in
set_option maxHeartbeats 2000000 in
theorem inat_any (si len cap n : Nat) (A : Option Addr) (L : List Int) (w : World) (hsi : w.heap[si]? = some (.cells #[.slice A len cap] 111 (0, 0))) (hl : len ≤ cap) (hc : cap ≤ maxLen) (hA : 0 < cap → ∃ b, A = some ⟨b, 0, none⟩ ∧ Row .u64 77 w b L) (hL : L.length = cap) (hn0 : 0 < n) (hn : n ≤ 1000000000) (hlen : len ≤ 100000000000) :
    Calls Tryd.prog 123 #[.pointer (some ⟨si, 0, none⟩), .int .i64 (n : Int)] w (InatPost si A len cap n w) := by
  obtain ⟨nr, hnr⟩ : ∃ nr, nr = (n + 3) / 4 * 4 := ⟨_, rfl⟩
  have hbit : bits .andNot .i64 ((n : Int) + 3) 3 = (nr : Int) := by
    have := andNot3 (n + 3) (by omega)
    rw [hnr]; simpa using this
  have hnr1 : n ≤ nr ∧ nr ≤ n + 3 := by omega
  obtain ⟨hnr1, hnr2⟩ := hnr1
  have C := Lib.hid (grow_both A len cap nr L w hl hc (by omega) hA hL (by omega))
  have c0 := cell_of1 hsi
  have z0 := frozen_of1 hsi
  have HNR := Lib.hid hnr
  have HSI := Lib.hid hsi
  have hlt := heap_lt hsi
  clear hnr hsi hA hL
  go_enter Tryd.func123, Tryd.ntmps123
  go_wp2_with (go_at_call 138; refine (Hid.out C).mono ?_; clear C; rintro e w1 ⟨g, c, L1, rfl, h1, h2, h3, h4, h5, h6⟩; have hne : g ≠ si := (by rintro rfl; have := (h5.block g hlt (by simp)).trans HSI.out; unfold Row at h3; rw [h3] at this; simp at this); have hne' : ¬ si = g := fun e => hne e.symm; have c1 := h5.cell_some c0 (by simp); have z1 : w1.frozen? ⟨si, 0, none⟩ = false := frozen_of1 ((h5.block si hlt (by simp)).trans HSI.out); have cg := h3.cell (i := len) (by omega); have zg := h3.frozen len; obtain ⟨old, hold⟩ : ∃ old, old = L1.getD len 0 := ⟨_, rfl⟩; rw [← hold] at cg; clear hold; unfold maxLen at h2; have HR := Lib.hid h3; have HL1 := Lib.hid h4; have HF := Lib.hid h5; have H6 := Lib.hid h6; clear h3 h4 h5 h6)
  go_ret
  rw [show len + n - len = n by omega]
  exact inat_fin HNR.out hn0 HSI.out h1 (by unfold maxLen; omega) HR.out HL1.out HF.out (H6.out.imp (fun h => ⟨h.1, h.2.1⟩) id) hne rfl
/-- a new number of n words: the cells from o on of block b; c is their capacity -/
def NatPost (s n : Nat) (q : Option StkSt) (w : World) (e : Ending) (w' : World) : Prop :=
  ∃ b o c q', e = .returned (.slice (some ⟨b, o, none⟩) n c) ∧ n ≤ c ∧ c ≤ maxLen ∧ (∃ L, Row .u64 77 w' b L ∧ o + c ≤ L.length) ∧ StkAt w' s q' ∧ StkLe w.heap.size q q' ∧ lenS q ≤ lenS q' ∧ lenS q' ≤ lenS q + n + 3 ∧ Fc 77 (StS s q) w w' ∧
    (b < w.heap.size → ∀ i, o ≤ i → i < o + c → StS s q b i) ∧ (∀ i, o ≤ i → i < o + c → ¬ StS s q' b i)
set_option maxRecDepth 100000 in
set_option maxHeartbeats 2000000 in
theorem nat_some (s n : Nat) (q : StkSt) (w : World) (h : StkAt w s (some q)) (hn0 : 0 < n) (hn : n ≤ 1000000000) (hlen : q.len ≤ 100000000000) : Calls Tryd.prog 92 #[.pointer (some ⟨s, 0, none⟩), .int .i64 (n : Int)] w (NatPost s n (some q) w) := by
  have hH := h
  have hne := h.ne
  obtain ⟨h1, h2⟩ := h
  have hneg := h2.neg
  obtain ⟨si, g0, len, cap⟩ := q
  obtain ⟨h3, ⟨L, hL, hl⟩, h4, h5⟩ := h2
  simp only at *
  have C := Lib.hid (inat_any si len cap n _ L w h3 h4 h5 (fun _ => ⟨g0, rfl, hL⟩) hl hn0 hn hlen)
  have c0 := cell_of1 h1
  have FIN : ∀ e w', InatPost si (some ⟨g0, 0, none⟩) len cap n w e w' → NatPost s n (some ⟨si, g0, len, cap⟩) w e w' := by
    rintro e w' ⟨g, c, rfl, hst, hg, hf⟩
    have hfc := hf.mono (S' := StS s (some ⟨si, g0, len, cap⟩)) (fun b i hb _ => by
      rcases hb with rfl | ⟨hb, hi⟩
      · exact .inr (.inl rfl)
      · injection hb with hb; injection hb with hb; exact .inr (.inr ⟨hb.symm, hi⟩))
    have hs' : w'.heap[s]? = some (.cells #[.pointer (some ⟨si, 0, none⟩)] 82 (0, 0)) := (hf.block s (heap_lt h1) (by
      rintro i (rfl | ⟨hb, _⟩)
      · exact hne rfl
      · injection hb with hb; injection hb with hb; subst hb; unfold Row at hL; rw [hL] at h1; simp at h1)).trans h1
    have hstat : StkAt w' s (some ⟨si, g, len + (n + 3) / 4 * 4, c⟩) := ⟨hs', hst⟩
    obtain ⟨_, ⟨L', hL', hl'⟩, hb1, hb2⟩ := hst
    simp only at hL' hl' hb1 hb2
    have hsg : g ≠ s := hstat.row_ne hL'
    have hsig : g ≠ si := hstat.2.row_ne hL'
    refine ⟨g, len, n, _, rfl, Nat.le_refl _, by unfold maxLen; omega, ⟨L', hL', by omega⟩, hstat, ?_, ?_, ?_, hfc, fun hlt i hi1 hi2 => ?_, fun i hi1 hi2 hh => ?_⟩
    · refine ⟨rfl, ?_⟩
      rcases hg with ⟨hg, hc⟩ | hg
      · injection hg with hg; injection hg with hg; exact .inl ⟨hg.symm, hc⟩
      · exact .inr hg
    · show len ≤ len + _; omega
    · show len + _ ≤ len + n + 3; omega
    · rcases hg with ⟨hg, hc⟩ | hg
      · injection hg with hg; injection hg with hg; exact .inr (.inr ⟨hg.symm, hi1⟩)
      · omega
    · rcases hh with hh | hh | ⟨_, hh⟩
      · exact hsg hh
      · exact hsig hh
      · simp only at hh; omega
  have HFIN := Lib.hid FIN
  clear h1 h3 hL hl h4 h5 FIN hH
  go_enter Tryd.func92, Tryd.ntmps92
  go_wp2_with (go_at_call 123; refine (Hid.out C).mono ?_; intro e w1 hpost; have HP := Lib.hid (HFIN.out _ _ hpost); obtain ⟨g, c, rfl, _⟩ := hpost)
  go_ret
  exact HP.out
set_option maxRecDepth 100000 in
set_option maxHeartbeats 2000000 in
theorem nat_few (s n : Nat) (w : World) (h : StkAt w s none) (hn0 : 0 < n) (hn : n ≤ 4) : Calls Tryd.prog 92 #[.pointer (some ⟨s, 0, none⟩), .int .i64 (n : Int)] w (NatPost s n none w) := by
  have c0 := cell_of1 h
  have H := Lib.hid h
  have C := Lib.hid (growN_nil n w hn0 (by omega))
  clear h
  go_enter Tryd.func92, Tryd.ntmps92
  go_wp2_with (go_at_call 122; refine (Hid.out C).mono ?_; clear C; rintro e w1 ⟨g, c, rfl, h1, h2, _, h4, h5, h6⟩; have cg := h5.cell (i := 0) (by simp; omega); have zg := h5.frozen 0; obtain ⟨old, hold⟩ : ∃ old, old = (([] : List Int) ++ List.replicate (c - ([] : List Int).length) 0).getD 0 0 := ⟨_, rfl⟩; rw [← hold] at cg; clear hold; unfold maxLen at h2; have HR := Lib.hid h5; have HF := Lib.hid h6; clear h5 h6)
  go_ret
  have hf2 : Fr [g] w1 (w1.setCell ⟨g, 0, none⟩ (.int .u64 11259375)) := by apply Fr.set _ (.inl (by simp)); exact Fr.refl _ _
  have hf3 := fr_new'' HF.out hf2 h4
  have hst := H.out.fr0 hf3
  have hgs : g ≠ s := by rintro rfl; have := heap_lt H.out; omega
  refine ⟨g, 0, c, none, rfl, by omega, by unfold maxLen; omega, ⟨_, HR.out.set 0 _, by simp⟩, hst, trivial, Nat.le_refl _, by omega, Fc.fr0 hf3 _ _, fun hlt => ?_, fun i _ _ hh => hgs hh⟩
  omega
set_option maxRecDepth 100000 in
set_option maxHeartbeats 2000000 in
theorem nat_first (s n : Nat) (w : World) (h : StkAt w s none) (hn0 : 4 < n) (hn : n ≤ 1000000000) : Calls Tryd.prog 92 #[.pointer (some ⟨s, 0, none⟩), .int .i64 (n : Int)] w (NatPost s n none w) := by
  have c0 := cell_of1 h
  have z0 := frozen_of1 h
  have hlt := heap_lt h
  obtain ⟨w1, hw1⟩ : ∃ w1, w1 = w.setCell ⟨s, 0, none⟩ (.pointer (some ⟨w.heap.size, 0, none⟩)) := ⟨_, rfl⟩
  obtain ⟨w2, hw2⟩ : ∃ w2, w2 = w1.alloc (.cells #[.slice none 0 0] 111) := ⟨_, rfl⟩
  have f1 : Fr [s] w w1 := by rw [hw1]; apply Fr.set _ (.inl (by simp)); exact Fr.refl _ _
  have s1 : w1.heap[s]? = some (.cells #[.pointer (some ⟨w.heap.size, 0, none⟩)] 82 (0, 0)) := by rw [hw1]; exact set_of1 h _
  have hsz1 : w1.heap.size = w.heap.size := by rw [hw1]; simp [World.setCell]
  have f2 : Fr [] w1 w2 := by rw [hw2]; exact (Fr.refl _ _).alloc _
  have s2 : w2.heap[s]? = some (.cells #[.pointer (some ⟨w.heap.size, 0, none⟩)] 82 (0, 0)) := (f2.block s (heap_lt s1) (by simp)).trans s1
  have b2 : w2.heap[w.heap.size]? = some (.cells #[.slice none 0 0] 111 (0, 0)) := by rw [hw2, ← hsz1]; exact heap_alloc_new w1 _
  have c2 : Fc 77 (StS s none) w w2 := (Fc.of_fr f1 (fun b hb _ i => by simp at hb; exact hb) (fun b hb L hr => by simp at hb; subst hb; unfold Row at hr; rw [h] at hr; simp at hr)).t (Fc.fr0 f2 _ _)
  have C := Lib.hid (inat_any w.heap.size 0 0 n none [] w2 b2 (Nat.le_refl _) (by unfold maxLen; omega) (by omega) rfl (by omega) hn (by omega))
  have hsz : w.heap.size + 1 ≤ w2.heap.size := by rw [hw2]; simp [hsz1]
  have FIN : ∀ e w', InatPost w.heap.size none 0 0 n w2 e w' → NatPost s n none w e w' := by
    rintro e w' ⟨g, c, rfl, hst, hg, hf⟩
    have hs' : w'.heap[s]? = some (.cells #[.pointer (some ⟨w.heap.size, 0, none⟩)] 82 (0, 0)) := (hf.block s (heap_lt s2) (by
      rintro i (rfl | ⟨hb, _⟩)
      · exact absurd hlt (Nat.lt_irrefl _)
      · cases hb)).trans s2
    have hstat : StkAt w' s (some ⟨w.heap.size, g, 0 + (n + 3) / 4 * 4, c⟩) := ⟨hs', hst⟩
    obtain ⟨_, ⟨L', hL', hl'⟩, hb1, hb2⟩ := hst
    simp only at hL' hl' hb1 hb2
    have hsg : g ≠ s := hstat.row_ne hL'
    have hsig : g ≠ w.heap.size := hstat.2.row_ne hL'
    have hgn : w2.heap.size ≤ g := by
      rcases hg with ⟨hg, _⟩ | hg
      · cases hg
      · exact hg
    have hfc : Fc 77 (StS s none) w w' := c2.trans hf (fun b i hb hlt' => by
      rcases hb with rfl | ⟨hb, _⟩
      · omega
      · cases hb)
    refine ⟨g, 0, n, _, rfl, Nat.le_refl _, by unfold maxLen; omega, ⟨L', hL', by omega⟩, hstat, ⟨Nat.le_refl _, by simp only; omega⟩, ?_, ?_, hfc, fun hlt' => by omega, fun i hi1 hi2 hh => ?_⟩
    · show 0 ≤ _; omega
    · show 0 + _ ≤ 0 + n + 3; omega
    · rcases hh with hh | hh | ⟨_, hh⟩
      · exact hsg hh
      · exact hsig hh
      · simp only at hh; omega
  have HFIN := Lib.hid FIN
  have HW1 := Lib.hid hw1
  have HW2 := Lib.hid hw2
  have hne : ¬ w.heap.size = s := by omega
  rw [hw2, hw1] at C HFIN
  clear h f1 s1 f2 s2 b2 c2 FIN hsz hsz1 HW1 HW2 hw2 hw1
  go_enter Tryd.func92, Tryd.ntmps92
  go_wp2_with (go_at_call 123; go_loud (refine (Hid.out C).mono ?_); intro e w3 hpost; have HP := Lib.hid (HFIN.out _ _ hpost); obtain ⟨g, c, rfl, _⟩ := hpost)
  go_ret
  exact HP.out
theorem nat_any (s n : Nat) (q : Option StkSt) (w : World) (h : StkAt w s q) (hn0 : 0 < n) (hn : n ≤ 1000000000) (hlen : lenS q ≤ 100000000000) : Calls Tryd.prog 92 #[.pointer (some ⟨s, 0, none⟩), .int .i64 (n : Int)] w (NatPost s n q w) := by
  cases q with
  | some q => exact nat_some s n q w h hn0 hn hlen
  | none =>
    by_cases h4 : n ≤ 4
    · exact nat_few s n w h hn0 h4
    · exact nat_first s n w h (by omega) hn
end Go.Proofs.YtknokndpeneogaaDoor
