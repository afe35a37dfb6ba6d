/-
  divRecursiveStep: its contract; divBasic where the dividend is shorter than the divisor. Conditions: target, dividend and divisor lie apart; the stack is as such; the thresholds lie in their variables.
-/
import Derived.Test.YtknokndpeneogaaDoorgKar
import Derived.Test.YtknokndpeneogaaDoorDivB
import Derived.Test.YtknokndpeneogaaDoorDrP
import Derived.Test.YtknokndpeneogaaDoorCmpG
set_option linter.unusedSimpArgs false
set_option linter.unusedVariables false
namespace Go.Proofs.YtknokndpeneogaaDoor
open Go.Big Go.RowKit
attribute [local go_sem ↓] Go.wp_at_zero Go.wp_at_succ
/-- quotient and rest, in place -/
def DrPost (s : Nat) (q : Option StkSt) (bz oz lz bu ou lu : Nat) (U V : Int) (w : World) (e : Ending) (w' : World) : Prop :=
  ∃ q' Z' U', e = .returned (.tuple #[]) ∧ StkAt w' s q' ∧ StkLe w.heap.size q q' ∧ lenS q' = lenS q ∧ Wr 77 w' bz oz Z' ∧ Z'.length = lz ∧ DG 18446744073709551616 Z' ∧ val 18446744073709551616 Z' = U / V ∧
    Wr 77 w' bu ou U' ∧ U'.length = lu ∧ DG 18446744073709551616 U' ∧ val 18446744073709551616 U' = U % V ∧ Fc 77 (fun b i => StS s q b i ∨ In1 bz oz lz b i ∨ In1 bu ou lu b i) w w'
structure DrPre (n lu lz s : Nat) (q : Option StkSt) (bz oz cz bu ou cu bv ov cv : Nat) (U V : List Int) (w : World) : Prop where
  st : StkAt w s q
  len : lenS q + 10000 * (n + 1) ≤ 100000000000
  thr : Glo w 2 40
  td : Glo w 3 40
  z : Wr 77 w bz oz (List.replicate lz 0)
  u : Wr 77 w bu ou U
  ul : U.length = lu
  ud : DG 18446744073709551616 U
  v : Nm w (some ⟨bv, ov, none⟩) bv ov cv V
  kv : KnV n V
  fit : val 18446744073709551616 U < 9223372036854775808 * 18446744073709551616 ^ (n + lz - 1)
  few : n ≤ 900
  lz9 : lz ≤ 100000
  lu9 : lu ≤ 100000
  cz1 : lz ≤ cz
  cz9 : cz ≤ 4611686018427387904
  cu1 : lu ≤ cu
  cu9 : cu ≤ 4611686018427387904
  cv9 : cv ≤ 4611686018427387904
  dvu : Dj bv ov n bu ou lu
  dzu : Dj bz oz lz bu ou lu
  dvz : Dj bv ov n bz oz lz
  oz_ : Off (StS s q) bz oz lz
  ou_ : Off (StS s q) bu ou lu
  ov_ : Off (StS s q) bv ov cv
def DrOK (n : Nat) : Prop := ∀ (lu lz s : Nat) (q : Option StkSt) (bz oz cz bu ou cu bv ov cv : Nat) (U V : List Int) (d : Int) (w : World),
  DrPre n lu lz s q bz oz cz bu ou cu bv ov cv U V w →
    Calls Tryd.prog 109 #[.slice (some ⟨bz, oz, none⟩) lz cz, .pointer (some ⟨s, 0, none⟩), .slice (some ⟨bu, ou, none⟩) lu cu, .slice (some ⟨bv, ov, none⟩) n cv, .int .i64 d] w (DrPost s q bz oz lz bu ou lu (val 18446744073709551616 U) (val 18446744073709551616 V) w)
/-- divBasic, the dividend shorter: nothing is done -/
def SamePost (s : Nat) (q : Option StkSt) (w : World) (e : Ending) (w' : World) : Prop :=
  ∃ q', e = .returned (.tuple #[]) ∧ StkAt w' s q' ∧ StkLe w.heap.size q q' ∧ lenS q' = lenS q ∧ Fc 77 (StS s q) w w'
set_option maxRecDepth 100000 in
set_option maxHeartbeats 4000000 in
theorem divBasic_few (s : Nat) (q : Option StkSt) (A : Option Addr) (lq cq : Nat) (Au : Option Addr) (cu bv ov cv n lu : Nat) (V : List Int) (w : World) (hst : StkAt w s q) (hlen : lenS q ≤ 100000000000)
    (hV : Go.Big.Src .u64 w bv ov V) (hVk : KnV n V) (hn9 : n ≤ 10000000) (hlu : lu < n) (oV : Off (StS s q) bv ov n) (hcu : lu ≤ cu) (hcu9 : cu ≤ maxLen) (hcv : n ≤ cv) (hcv9 : cv ≤ maxLen) :
    Calls Tryd.prog 132 #[.slice A lq cq, .pointer (some ⟨s, 0, none⟩), .slice Au lu cu, .slice (some ⟨bv, ov, none⟩) n cv] w (SamePost s q w) := by
  unfold maxLen at hcu9 hcv9
  have hn2 := hVk.two
  obtain ⟨N1, hN1⟩ : ∃ N1, N1 = n + 1 := ⟨_, rfl⟩
  obtain ⟨n1, hn1⟩ : ∃ n1, n1 = n - 1 := ⟨_, rfl⟩
  have a1 : (n : Int) + 1 = (N1 : Int) := by omega
  have a2 : (n : Int) - 1 = (n1 : Int) := by omega
  have a4 : ¬ (0 : Int) ≤ (lu : Int) - (n : Int) := by omega
  have hn1n : (n1 : Int) < (n : Int) := by omega
  have CS := Lib.hid (save_any s q w hst)
  have CN := Lib.hid (nat_any s N1 q w hst (by omega) (by omega) hlen)
  obtain ⟨v1, hv1⟩ : ∃ v1, v1 = V.getD (n - 1) 0 := ⟨_, rfl⟩
  have hv1b : 9223372036854775808 ≤ v1 ∧ v1 < 18446744073709551616 := by rw [hv1]; exact ⟨hVk.top, hVk.bd.1⟩
  obtain ⟨hv10, hv11⟩ := hv1b
  have hL : IsLen v1 64 := .inr ⟨by omega, by simpa using hv10, by simpa using hv11⟩
  have CR := Lib.hid (fun W => recip_any v1 64 W (by omega) hv11 hL)
  have HV1 := Lib.hid hv1
  have HVL := Lib.hid hVk.len
  have HV := Lib.hid hV
  have OV := Lib.hid oV
  have HN11 := Lib.hid hn1
  clear hv1 hL hVk hN1 hn1 hV oV hst
  go_enter_defers Tryd.func132, Tryd.ntmps132
  refine wp_mono ?_ bodyPostN_D
  go_wp2_with (first
    | (go_at_call 91; refine (Hid.out CS).mono ?_; rintro e w1 ⟨rfl, rfl⟩)
    | (go_at_call 92; refine (Hid.out CN).mono ?_; clear CN; rintro e w1 ⟨b, o, ch, q1, rfl, hch, hch9, hH, hst1, hle1, hl1, hl1', hf1, hnw, hoff⟩; have cv1 := (HV.out.fc hf1 (by rw [HVL.out]; exact OV.out)) n1 (by rw [HVL.out]; have := HN11.out; omega); rw [HN11.out, ← HV1.out, ← HN11.out] at cv1; have HST1 := Lib.hid hst1; have HLE1 := Lib.hid hle1; have HF1 := Lib.hid hf1; clear hH hst1 hle1 hf1 hnw hoff)
    | (go_at_call 145; refine (CR.out _).mono ?_; rintro e w2 ⟨rfl, f2⟩))
  go_loopg [14] 1 (fun g jv wr => jv = .int .i64 ((lu : Int) - (n : Int)) ∧ Fr [] w1 wr)
  case atStart => exact ⟨rfl, f2⟩
  case round =>
    obtain ⟨rfl, hf⟩ := hrel
    go_wp2_with fail
    show Leaves _ _ _ _ _ _ _
    have st2 := HST1.out.fr0 hf
    have hcap : ∀ p, q1 = some p → lenS q ≤ p.cap := fun p hp => by
      subst hp
      have h3 := HST1.out.2.2.2.1
      have e : lenS (some p) = p.len := rfl
      omega
    refine leaves_cons (f := 90) (args := #[.pointer (some ⟨s, 0, none⟩), .int .i64 ((lenS q : Nat) : Int)]) (by simp) (by simp [go_sem]) ?_
    refine (restore_deferred s (lenS q) q1 .returning _ st2 hcap).mono ?_
    rintro e u' w3 ⟨rfl, rfl, hst10, hf10⟩
    refine ⟨_, results_none rfl _ _ _, _, rfl, hst10, HLE1.out.res, lenS_res (fun hh => by rw [hh] at hl1; have e : lenS none = 0 := rfl; omega), ?_⟩
    exact (HF1.out.t (Fc.fr0 hf _ _)).trans hf10 (fun b i hb hlt => HLE1.out.sub hl1 b i hb hlt)
/-- where the noughts at the upper end begin -/
theorem cut_ex (xs : List Int) : ∀ k, k ≤ xs.length → (∀ j, k ≤ j → j < xs.length → xs.getD j 0 = 0) → ∃ i, CutAt xs i := by
  intro k
  induction k with
  | zero => exact fun h1 h2 => ⟨0, Nat.zero_le _, .inl rfl, h2⟩
  | succ k ih =>
    intro h1 h2
    by_cases e : xs.getD k 0 = 0
    · exact ih (by omega) (fun j h3 h4 => by
        by_cases e2 : j = k
        · subst e2; exact e
        · exact h2 j (by omega) h4)
    · exact ⟨k + 1, h1, .inr (by rw [Nat.add_sub_cancel]; exact e), h2⟩
theorem cut_at (xs : List Int) : ∃ i, CutAt xs i := cut_ex xs xs.length (Nat.le_refl _) (fun j h1 h2 => by omega)
theorem cut_uniq {xs : List Int} {i j : Nat} (h : CutAt xs i) (h' : CutAt xs j) : i = j := by
  obtain ⟨a1, a2, a3⟩ := h
  obtain ⟨b1, b2, b3⟩ := h'
  rcases Nat.lt_trichotomy i j with hh | hh | hh
  · rcases b2 with b2 | b2
    · omega
    · exact absurd (a3 (j - 1) (by omega) (by omega)) b2
  · exact hh
  · rcases a2 with a2 | a2
    · omega
    · exact absurd (b3 (i - 1) (by omega) (by omega)) a2
theorem cut_drop {xs : List Int} {i : Nat} (h : CutAt xs i) : val 18446744073709551616 (xs.drop i) = 0 := by
  obtain ⟨a1, a2, a3⟩ := h
  have e : xs.drop i = List.replicate (xs.length - i) 0 := by
    apply List.ext_getElem (by rw [List.length_drop, List.length_replicate])
    intro j h1 h2
    rw [List.length_drop] at h1
    have := a3 (i + j) (by omega) (by omega)
    rw [Go.Big.getD_in (show i + j < xs.length by omega)] at this
    rw [List.getElem_drop, List.getElem_replicate, this]
  rw [e, val_rep]
/-- norm, the place where the noughts begin known ahead -/
theorem normD_any (b o c i : Nat) (xs : List Int) (w : World) (h : Go.Big.Src .u64 w b o xs) (hl : xs.length ≤ c) (hc : c ≤ maxLen) (hi : CutAt xs i) :
    Calls Tryd.prog 88 #[.slice (some ⟨b, o, none⟩) xs.length c] w fun e w' => e = .returned (.slice (some ⟨b, o, none⟩) i c) ∧ w = w' := by
  refine (bnorm_any (some ⟨b, o, none⟩) c xs w hl hc (fun _ => ⟨b, o, rfl, h⟩)).mono ?_
  rintro e w' ⟨j, hj, rfl, rfl⟩
  obtain rfl := cut_uniq hi hj
  exact ⟨rfl, rfl⟩
theorem knv_cut {n : Nat} {V : List Int} (h : KnV n V) : CutAt V n := by
  have h2 := h.two
  have h3 := h.top
  exact ⟨Nat.le_of_eq h.len.symm, .inr (by omega), fun j a b => by rw [h.len] at b; omega⟩
section
variable {n lu lz s i : Nat} {q : Option StkSt} {bz oz cz bu ou cu bv ov cv : Nat} {U V : List Int} {w w' : World}
/-- told of the whole, what was told of the part below the noughts -/
theorem DrPost.full {X Y : Int} {e : Ending} (h : DrPost s q bz oz lz bu ou i X Y w e w') (hu : Wr 77 w bu ou U) (hl : U.length = lu) (hd : DG 18446744073709551616 U) (hi : CutAt U i) (dzu : Dj bz oz lz bu ou lu) (ou_ : Off (StS s q) bu ou lu) : DrPost s q bz oz lz bu ou lu X Y w e w' := by
  obtain ⟨q', Z', U', rfl, h1, h2, h3, h4, h5, h6, h7, h8, h9, h10, h11, h12⟩ := h
  have hil := hi.1
  rw [hl] at hil
  have hW := hu.upd2 (i := 0) (zs := U') h8 h12 (fun j a1 a2 a3 hh => by
    rw [hl] at a2
    rw [h9] at a3
    rcases hh with hh | hh | hh
    · exact ou_ j a1 a2 hh
    · exact dzu.symm.off j a1 a2 hh
    · exact a3 ⟨by omega, by have := hh.2.2; omega⟩) (by omega)
  refine ⟨q', Z', spl U 0 U', rfl, h1, h2, h3, h4, h5, h6, h7, hW, by rw [spl_len (by omega), hl], spl_dg hd h10, ?_, h12.mono (fun b j hh _ => hh.imp id (fun hh => hh.imp id (fun hh => ⟨hh.1, hh.2.1, by have := hh.2.2; omega⟩)))⟩
  rw [val_spl (by omega), h9, List.drop_zero, val_cut _ hi.1 hi.2.2, h11]
  omega
theorem DrPre.vn (h : DrPre n lu lz s q bz oz cz bu ou cu bv ov cv U V w) : n ≤ cv := by
  have := h.v.le
  rwa [h.kv.len] at this
/-- the dividend below the divisor's length -/
theorem div_few {X Y : Int} (h0 : 0 ≤ X) (h1 : X < Y) : X / Y = 0 ∧ X % Y = X := ⟨Int.ediv_eq_zero_of_lt h0 h1, Int.emod_eq_of_lt h0 h1⟩
theorem DrPre.ulen (h : DrPre n lu lz s q bz oz cz bu ou cu bv ov cv U V w) (hi : CutAt U i) : i ≤ n + lz := by
  obtain ⟨h1, h2, h3, h4⟩ := cut_facts h.ud hi
  have := h.fit
  have hn := h.kv.two
  rw [← h1]
  refine len_le (by omega) h2 h3 ?_
  rw [h4, show n + lz = (n + lz - 1) + 1 by omega, Int.pow_succ]
  have := pow_pos_ (B := 18446744073709551616) (by omega) (n + lz - 1)
  omega
theorem DrPre.uq (h : DrPre n lu lz s q bz oz cz bu ou cu bv ov cv U V w) : val 18446744073709551616 U < val 18446744073709551616 V * 18446744073709551616 ^ lz := by
  have h1 := h.fit
  have h2 := h.kv.lo
  have hn := h.kv.two
  have hp := pow_pos_ (B := 18446744073709551616) (by omega) lz
  have h3 : 9223372036854775808 * 18446744073709551616 ^ (n - 1) * 18446744073709551616 ^ lz ≤ val 18446744073709551616 V * 18446744073709551616 ^ lz := Int.mul_le_mul_of_nonneg_right h2 (by omega)
  rw [Int.mul_assoc, ← Int.pow_add, show n - 1 + lz = n + lz - 1 by omega] at h3
  omega
set_option maxRecDepth 100000 in
set_option maxHeartbeats 4000000 in
theorem dr_zero (d : Int) (h : DrPre n lu lz s q bz oz cz bu ou cu bv ov cv U V w) (hi : CutAt U 0) :
    Calls Tryd.prog 109 #[.slice (some ⟨bz, oz, none⟩) lz cz, .pointer (some ⟨s, 0, none⟩), .slice (some ⟨bu, ou, none⟩) lu cu, .slice (some ⟨bv, ov, none⟩) n cv, .int .i64 d] w (DrPost s q bz oz lz bu ou lu (val 18446744073709551616 U) (val 18446744073709551616 V) w) := by
  have H := Lib.hid h
  have hvn := h.vn
  have cz1 := h.cz1
  have cz9 := h.cz9
  have cu1 := h.cu1
  have cu9 := h.cu9
  have cv9 := h.cv9
  have CU := normD_any bu ou cu 0 U w h.u.src (by rw [h.ul]; exact cu1) (by unfold maxLen; omega) hi
  have CV := normD_any bv ov cv n V w (h.v.2.2 (by rw [h.kv.len]; have := h.kv.two; omega)) (by rw [h.kv.len]; exact hvn) (by unfold maxLen; omega) (knv_cut h.kv)
  rw [h.ul] at CU
  rw [h.kv.len] at CV
  have HCU := Lib.hid CU
  have HCV := Lib.hid CV
  have HI := Lib.hid hi
  obtain ⟨L, hL, hLl⟩ := h.z.2
  rw [List.length_replicate] at hLl
  have HL := Lib.hid hL
  have T1 : True := trivial
  clear h CU CV hi hL
  go_enter_defers Tryd.func109, Tryd.ntmps109
  refine wp_mono ?_ bodyPostN_D
  go_wp2_with (first
    | (go_at_call 88; clear T1; refine (HCU.out).mono ?_; rintro e w1 ⟨rfl, rfl⟩)
    | (go_at_call 88; refine (HCV.out).mono ?_; rintro e w1 ⟨rfl, rfl⟩)
    | (refine wp_clear rfl (.tmp 38) _ rfl .u64 77 8 ty_big (some ⟨bz, oz, none⟩) bz oz lz cz rfl (fun _ => rfl) L HL.out hLl ?_; intro w2 row2 f2; have HR := Lib.hid row2; have HF := Lib.hid f2; clear row2 f2))
  show Leaves _ _ _ _ _ _ _
  have hlr : (List.replicate lz (0 : Int)).length = lz := List.length_replicate
  have hf : Fc 77 (In1 bz oz lz) w w2 := fc_row (L' := L) HL.out HR.out HF.out (by rw [hlr]; exact hLl) (fun i h1 h2 => ⟨rfl, h1, by rw [hlr] at h2; exact h2⟩)
  have hU0 : val 18446744073709551616 U = 0 := by
    have := cut_drop HI.out
    rwa [List.drop_zero] at this
  have HH := H.out
  refine ⟨_, results_none rfl _ _ _, q, List.replicate lz 0, U, rfl, HH.st.fc hf (fun j hh => HH.st.row_ne HL.out hh.1.symm) (fun p hp j hh => by subst hp; exact HH.st.2.row_ne HL.out hh.1.symm), StkLe.refl _ _, rfl, Wr.of_spl HR.out (by rw [hlr]; exact hLl), hlr, DG.rep (by omega) _, by rw [hU0, val_rep, Int.zero_ediv], HH.u.fc hf (fun j a1 a2 hh => ?_), HH.ul, HH.ud, by rw [hU0, Int.zero_emod], hf.mono (fun b j hh _ => .inr (.inl hh))⟩
  rw [HH.ul] at a2
  exact HH.dzu.symm.off j a1 a2 hh
set_option maxRecDepth 100000 in
set_option maxHeartbeats 4000000 in
theorem dr_few (d : Int) (h : DrPre n lu lz s q bz oz cz bu ou cu bv ov cv U V w) (hi : CutAt U i) (hi0 : 0 < i) (hin : i < n) :
    Calls Tryd.prog 109 #[.slice (some ⟨bz, oz, none⟩) lz cz, .pointer (some ⟨s, 0, none⟩), .slice (some ⟨bu, ou, none⟩) lu cu, .slice (some ⟨bv, ov, none⟩) n cv, .int .i64 d] w (DrPost s q bz oz lz bu ou lu (val 18446744073709551616 U) (val 18446744073709551616 V) w) := by
  have H := Lib.hid h
  have hvn := h.vn
  have cz1 := h.cz1
  have cz9 := h.cz9
  have cu1 := h.cu1
  have cu9 := h.cu9
  have cv9 := h.cv9
  have few := h.few
  have hil : i ≤ lu := by have := hi.1; rwa [h.ul] at this
  have hsv := h.v.2.2 (by rw [h.kv.len]; have := h.kv.two; omega)
  have CU := normD_any bu ou cu i U w h.u.src (by rw [h.ul]; exact cu1) (by unfold maxLen; omega) hi
  have CV := normD_any bv ov cv n V w hsv (by rw [h.kv.len]; exact hvn) (by unfold maxLen; omega) (knv_cut h.kv)
  rw [h.ul] at CU
  rw [h.kv.len] at CV
  have HCU := Lib.hid CU
  have HCV := Lib.hid CV
  have CB := Lib.hid (divBasic_few s q (some ⟨bz, oz, none⟩) lz cz (some ⟨bu, ou, none⟩) cu bv ov cv n i V w h.st (by have := h.len; omega) hsv h.kv (by omega) hin (Off.take h.ov_ hvn) (by omega) (by unfold maxLen; omega) hvn (by unfold maxLen; omega))
  -- the dividend is below the divisor
  have hlt : val 18446744073709551616 U < val 18446744073709551616 V := by
    obtain ⟨h1, h2, h3, h4⟩ := cut_facts h.ud hi
    have a1 := val_lt_of_len (B := 18446744073709551616) (by omega) h2 (k := n - 1) (by omega)
    have a2 := h.kv.lo
    have a3 := pow_pos_ (B := 18446744073709551616) (by omega) (n - 1)
    rw [h4] at a1
    omega
  have hd := div_few (val_nonneg (by omega) h.ud) hlt
  have FIN := Lib.hid (fun (e : Ending) (w2 : World) (hp : SamePost s q w e w2) => show DrPost s q bz oz lz bu ou lu (val 18446744073709551616 U) (val 18446744073709551616 V) w e w2 from by
    obtain ⟨q', rfl, g1, g2, g3, g4⟩ := hp
    exact ⟨q', List.replicate lz 0, U, rfl, g1, g2, g3, h.z.fc g4 (by rw [List.length_replicate]; exact h.oz_), List.length_replicate, DG.rep (by omega) _, by rw [hd.1, val_rep], h.u.fc g4 (by rw [h.ul]; exact h.ou_), h.ul, h.ud, hd.2.symm, g4.mono (fun b j hh _ => .inl hh)⟩)
  have td : w.cell? ⟨3, 0, none⟩ = some (.int .i64 40) := h.td
  have hi0' : ((i : Int) == 0) = false := by rw [beq_eq_false_iff_ne]; omega
  have hneg : (i : Int) - (n : Int) < 0 := by omega
  have T1 : True := trivial
  by_cases hn40 : n < 40
  · have hnI : (n : Int) < 40 := by omega
    clear h CU CV hi hsv hlt hd
    go_enter_defers Tryd.func109, Tryd.ntmps109
    refine wp_mono ?_ bodyPostN_D
    go_wp2_with (first
      | (go_at_call 88; clear T1; refine (HCU.out).mono ?_; rintro e w1 ⟨rfl, rfl⟩)
      | (go_at_call 88; refine (HCV.out).mono ?_; rintro e w1 ⟨rfl, rfl⟩)
      | (go_at_call 132; refine (CB.out).mono ?_; intro e w2 hp; have HP := Lib.hid (FIN.out _ _ hp); obtain ⟨_, rfl, _⟩ := hp))
    show Leaves _ _ _ _ _ _ _
    exact ⟨_, results_none rfl _ _ _, HP.out⟩
  · have hnI : ¬ (n : Int) < 40 := by omega
    have HS := Lib.hid (FIN.out (.returned (.tuple #[])) w ⟨q, rfl, h.st, StkLe.refl _ _, rfl, Fc.refl _ _ _⟩)
    clear h CU CV hi hsv hlt hd CB FIN
    go_enter_defers Tryd.func109, Tryd.ntmps109
    refine wp_mono ?_ bodyPostN_D
    go_wp2_with (first
      | (go_at_call 88; clear T1; refine (HCU.out).mono ?_; rintro e w1 ⟨rfl, rfl⟩)
      | (go_at_call 88; refine (HCV.out).mono ?_; rintro e w1 ⟨rfl, rfl⟩))
    show Leaves _ _ _ _ _ _ _
    exact ⟨_, results_none rfl _ _ _, HS.out⟩
set_option maxRecDepth 100000 in
set_option maxHeartbeats 4000000 in
theorem dr_basic (d : Int) (h : DrPre n lu lz s q bz oz cz bu ou cu bv ov cv U V w) (hi : CutAt U i) (hin : n ≤ i) (hn40 : n < 40) :
    Calls Tryd.prog 109 #[.slice (some ⟨bz, oz, none⟩) lz cz, .pointer (some ⟨s, 0, none⟩), .slice (some ⟨bu, ou, none⟩) lu cu, .slice (some ⟨bv, ov, none⟩) n cv, .int .i64 d] w (DrPost s q bz oz lz bu ou lu (val 18446744073709551616 U) (val 18446744073709551616 V) w) := by
  have H := Lib.hid h
  have hvn := h.vn
  have cz1 := h.cz1
  have cz9 := h.cz9
  have cu1 := h.cu1
  have cu9 := h.cu9
  have cv9 := h.cv9
  have few := h.few
  have hn2 := h.kv.two
  have hil : i ≤ lu := by have := hi.1; rwa [h.ul] at this
  have hsv := h.v.2.2 (by rw [h.kv.len]; omega)
  have CU := normD_any bu ou cu i U w h.u.src (by rw [h.ul]; exact cu1) (by unfold maxLen; omega) hi
  have CV := normD_any bv ov cv n V w hsv (by rw [h.kv.len]; exact hvn) (by unfold maxLen; omega) (knv_cut h.kv)
  rw [h.ul] at CU
  rw [h.kv.len] at CV
  have HCU := Lib.hid CU
  have HCV := Lib.hid CV
  obtain ⟨m, hm⟩ : ∃ m, i = m + n := ⟨i - n, by omega⟩
  have hml : m ≤ lz := by have := h.ulen hi; omega
  obtain ⟨c1, c2, c3, c4⟩ := cut_facts h.ud hi
  have huq := h.uq
  have lu9 := h.lu9
  have lz9 := h.lz9
  have CB := divBasic_any s q bz oz cz bu ou cu bv ov cv n m i lz (List.replicate lz 0) (U.take i) V w h.st (by have := h.len; omega) h.z List.length_replicate (h.u.take i (by rw [h.ul]; exact hil)) hm (by rw [c1, hm]) c2 hsv (h.v.lt (by rw [h.kv.len]; omega)) h.kv (by omega) (by omega) (by
      by_cases e : m = lz
      · rw [c4, e]; exact .inr ⟨rfl, huq⟩
      · exact .inl (by omega)) (h.dvu.sub1 (Nat.le_refl _) hil) (h.dzu.sub1 (Nat.le_refl _) hil) h.dvz (Off.take h.ou_ hil) h.oz_ (Off.take h.ov_ hvn) (by omega) (by unfold maxLen; omega) hvn (by unfold maxLen; omega) cz1 (by unfold maxLen; omega)
  have CB := Lib.hid CB
  have FIN := Lib.hid (fun (e : Ending) (w2 : World) (hp : DivPost s q bz oz lz bu ou i m (List.replicate lz 0) (U.take i) V w e w2) => show DrPost s q bz oz lz bu ou lu (val 18446744073709551616 U) (val 18446744073709551616 V) w e w2 from by
    obtain ⟨q', Q', U', rfl, g1, g2, g3, g4, g5, g6, g7, g8, g9, g10, g11, g12, g13⟩ := hp
    rw [c4] at g9 g11
    have eD : Q'.drop (m + 1) = List.replicate (lz - (m + 1)) 0 := by
      apply List.ext_getElem (by rw [List.length_drop, List.length_replicate, g5])
      intro j h1 h2
      rw [List.length_drop, g5] at h1
      have := g12 (m + 1 + j) (by omega)
      rw [Go.Big.getD_in (show m + 1 + j < Q'.length by omega), Go.Big.getD_rep] at this
      rw [List.getElem_drop, List.getElem_replicate, this]
    have hQd : DG 18446744073709551616 Q' := by
      have := g10.append (eD ▸ DG.rep (by omega) _ : DG 18446744073709551616 (Q'.drop (m + 1)))
      rwa [List.take_append_drop] at this
    have hQv : val 18446744073709551616 Q' = val 18446744073709551616 U / val 18446744073709551616 V := by
      rw [← g11]
      conv => lhs; rw [← List.take_append_drop (m + 1) Q']
      rw [val_append, eD, val_rep, Int.mul_zero, Int.add_zero]
    exact DrPost.full (i := i) ⟨q', Q', U', rfl, g1, g2, g3, g4, g5, hQd, hQv, g6, g7, g8, g9, g13⟩ h.u h.ul h.ud hi h.dzu h.ou_)
  have td : w.cell? ⟨3, 0, none⟩ = some (.int .i64 40) := h.td
  have hi0' : ((i : Int) == 0) = false := by rw [beq_eq_false_iff_ne]; omega
  have hnI : (n : Int) < 40 := by omega
  have T1 : True := trivial
  clear h CU CV hi hsv c1 c2 c3 c4 huq hm
  go_enter_defers Tryd.func109, Tryd.ntmps109
  refine wp_mono ?_ bodyPostN_D
  go_wp2_with (first
    | (go_at_call 88; clear T1; refine (HCU.out).mono ?_; rintro e w1 ⟨rfl, rfl⟩)
    | (go_at_call 88; refine (HCV.out).mono ?_; rintro e w1 ⟨rfl, rfl⟩)
    | (go_at_call 132; refine (CB.out).mono ?_; intro e w2 hp; have HP := Lib.hid (FIN.out _ _ hp); obtain ⟨_, _, _, rfl, _⟩ := hp))
  show Leaves _ _ _ _ _ _ _
  exact ⟨_, results_none rfl _ _ _, HP.out⟩
end
end Go.Proofs.YtknokndpeneogaaDoor
