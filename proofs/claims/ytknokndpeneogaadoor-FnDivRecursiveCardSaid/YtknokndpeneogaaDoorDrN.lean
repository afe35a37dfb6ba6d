/-
  divRecursiveStep, the great case: the numbers of a section, and what holds at the loop's head, no walk. Conditions: those of its contract.
-/
import Derived.Test.YtknokndpeneogaaDoorDrE
set_option linter.unusedSimpArgs false
set_option linter.unusedVariables false
namespace Go.Proofs.YtknokndpeneogaaDoor
open Go.Big Go.RowKit
/-- a section's guess, and what comes of it -/
structure DrQ (n B p a : Nat) (V Uc : List Int) (X qh R0 : Int) : Prop where
  xe : X = val 18446744073709551616 (Uc.drop a)
  qe : qh = val 18446744073709551616 (Uc.drop (a + p)) / val 18446744073709551616 (V.drop p)
  re : R0 = val 18446744073709551616 ((Uc.drop a).take p) + 18446744073709551616 ^ p * (val 18446744073709551616 (Uc.drop (a + p)) % val 18446744073709551616 (V.drop p))
  q0 : 0 ≤ qh
  q2 : qh < 18446744073709551616 ^ (B + 1)
  pb : qh * val 18446744073709551616 (V.take p) < 18446744073709551616 ^ (2 * B)
  hfit : val 18446744073709551616 (Uc.drop (a + p)) < 9223372036854775808 * 18446744073709551616 ^ (n - p + B)
  fit : qh * val 18446744073709551616 (V.take p) ≤ R0 → X / val 18446744073709551616 V = qh ∧ X % val 18446744073709551616 V = R0 - qh * val 18446744073709551616 (V.take p)
  over : R0 < qh * val 18446744073709551616 (V.take p) → 1 ≤ qh ∧ val 18446744073709551616 (V.take p) ≤ qh * val 18446744073709551616 (V.take p) ∧ X / val 18446744073709551616 V = qh - 1 ∧ X % val 18446744073709551616 V = R0 + 18446744073709551616 ^ p * val 18446744073709551616 (V.drop p) - (qh * val 18446744073709551616 (V.take p) - val 18446744073709551616 (V.take p)) ∧
    qh * val 18446744073709551616 (V.take p) - val 18446744073709551616 (V.take p) ≤ R0 + 18446744073709551616 ^ p * val 18446744073709551616 (V.drop p) ∧ R0 + 18446744073709551616 ^ p * val 18446744073709551616 (V.drop p) ≤ X
theorem dr_num {n B p a : Nat} {V Uc : List Int} (kv : KnV n V) (n40 : 40 ≤ n) (hB : B = n / 2) (hp : p + 1 = B) (hd : DG 18446744073709551616 Uc) (ha : a + p ≤ Uc.length) (hX : val 18446744073709551616 (Uc.drop a) < 18446744073709551616 ^ (n + B)) :
    ∃ X qh R0, DrQ n B p a V Uc X qh R0 := by
  have hvl := kv.len
  have e0 := val_drop_split (xs := Uc) (a := a) (p := p) ha
  have eV := val_split 18446744073709551616 V p (by omega)
  have hv1 := (kv.drop (i := p) (by omega)).lo
  have V0n := val_nonneg (B := 18446744073709551616) (by omega) (kv.dg.take p)
  have V0l := val_lt_of_len (B := 18446744073709551616) (by omega) (kv.dg.take p) (k := p) (by rw [List.length_take]; omega)
  have ulo0 := val_nonneg (B := 18446744073709551616) (by omega) ((hd.drop a).take p)
  have ulo1 := val_lt_of_len (B := 18446744073709551616) (by omega) ((hd.drop a).take p) (k := p) (by rw [List.length_take, List.length_drop]; omega)
  have uhi0 := val_nonneg (B := 18446744073709551616) (by omega) (hd.drop (a + p))
  obtain ⟨X, eX⟩ : ∃ X, X = val 18446744073709551616 (Uc.drop a) := ⟨_, rfl⟩
  obtain ⟨uhi, euhi⟩ : ∃ x, x = val 18446744073709551616 (Uc.drop (a + p)) := ⟨_, rfl⟩
  obtain ⟨ulo, eulo⟩ : ∃ x, x = val 18446744073709551616 ((Uc.drop a).take p) := ⟨_, rfl⟩
  obtain ⟨V1, eV1⟩ : ∃ x, x = val 18446744073709551616 (V.drop p) := ⟨_, rfl⟩
  obtain ⟨V0, eV0⟩ : ∃ x, x = val 18446744073709551616 (V.take p) := ⟨_, rfl⟩
  obtain ⟨Y, eY⟩ : ∃ x, x = val 18446744073709551616 V := ⟨_, rfl⟩
  rw [show n - p - 1 = n - B by omega] at hv1
  obtain ⟨P, hP⟩ : ∃ P, P = (18446744073709551616 : Int) ^ p := ⟨_, rfl⟩
  have hP0 : 0 < P := by rw [hP]; exact pow_pos_ (by omega) _
  have hR0 := pow_pos_ (B := 18446744073709551616) (by omega) (n - B)
  rw [← eX, ← eulo, ← euhi, ← hP] at e0
  rw [← eY, ← eV0, ← eV1, ← hP] at eV
  rw [← eV1] at hv1
  rw [← eV0] at V0n V0l
  rw [← eulo] at ulo0 ulo1
  rw [← euhi] at uhi0
  rw [← eX] at hX
  rw [← hP] at V0l ulo1
  have hV1p : 0 < V1 := by omega
  obtain ⟨qh, eqh⟩ : ∃ x, x = uhi / V1 := ⟨_, rfl⟩
  obtain ⟨rem, erem⟩ : ∃ x, x = uhi % V1 := ⟨_, rfl⟩
  have hq : uhi = qh * V1 + rem := by rw [eqh, erem, Int.mul_comm]; exact (Int.mul_ediv_add_emod _ _).symm
  have hr0 : 0 ≤ rem := by rw [erem]; exact Int.emod_nonneg _ (by omega)
  have hr1 : rem < V1 := by rw [erem]; exact Int.emod_lt_of_pos _ hV1p
  have hq0 : 0 ≤ qh := by rw [eqh]; exact Int.ediv_nonneg uhi0 (by omega)
  have eV' : Y = V1 * P + V0 := by rw [eV, Int.mul_comm P V1]; omega
  have e0' : X = uhi * P + ulo := by rw [e0, Int.mul_comm P uhi]; omega
  have hpB : p = B - 1 := by omega
  obtain ⟨g1, g2, g3⟩ := dr_guess (n := n) (B := B) (V := Y) (V1 := V1) (V0 := V0) (uu := X) (uhi := uhi) (ulo := ulo) (qh := qh) (rem := rem) (by omega) (by omega) (by rw [← hpB, ← hP]; exact eV') V0n (by rw [← hpB, ← hP]; exact V0l) hv1 (by rw [← hpB, ← hP]; exact e0') ulo0 hX hq hr0 hq0
  have hrP : 0 ≤ P * rem := Int.mul_nonneg (by omega) hr0
  have hqV : 0 ≤ qh * V0 := Int.mul_nonneg hq0 V0n
  refine ⟨X, qh, ulo + P * rem, eX, by rw [eqh, euhi, eV1], by rw [eulo, erem, hP, euhi, eV1], hq0, ?_, by rw [← eV0]; exact g3, ?_, ?_, ?_⟩
  · rw [Int.pow_succ]
    have := pow_pos_ (B := 18446744073709551616) (by omega) B
    omega
  · rw [← euhi]
    have h1 : uhi * P < 18446744073709551616 ^ (n - p + B) * P := by
      rw [hP, ← Int.pow_add, show n - p + B + p = n + B by omega, ← hP]
      omega
    have h2 : uhi < 18446744073709551616 ^ (n - p + B) := Int.lt_of_mul_lt_mul_right h1 (by omega)
    have := pow_pos_ (B := 18446744073709551616) (by omega) (n - p + B)
    omega
  · rw [← eV0, ← eY]
    intro hc
    have := dr_fit eV' V0n e0' ulo0 ulo1 hq hq0 hr1 hP0 (by rw [Int.mul_comm rem P]; omega)
    rw [Int.mul_comm rem P] at this
    exact ⟨this.1, by omega⟩
  · rw [← eV0, ← eY, ← eV1, ← hP]
    intro hc
    have h1 : 1 ≤ qh := by
      rcases (by omega : qh = 0 ∨ 1 ≤ qh) with h | h
      · rw [h, Int.zero_mul] at hc
        omega
      · exact h
    have h2 : V0 ≤ qh * V0 := by
      have : 1 * V0 ≤ qh * V0 := Int.mul_le_mul_of_nonneg_right h1 V0n
      omega
    have := dr_over eV' e0' ulo0 hq hr0 hP0 (by rw [Int.mul_comm rem P]; omega) g2
    rw [Int.mul_comm rem P, Int.mul_comm V1 P] at this
    obtain ⟨b1, b2, b3⟩ := this
    refine ⟨h1, h2, b1, by omega, by omega, ?_⟩
    have h3 : 1 * (V1 * P) ≤ qh * (V1 * P) := Int.mul_le_mul_of_nonneg_right h1 (by have := Int.mul_pos hV1p hP0; omega)
    have h4 : uhi * P = qh * (V1 * P) + P * rem := by rw [hq]; grind
    have h5 : P * V1 = V1 * P := Int.mul_comm _ _
    omega
/-- the guess's words fit the target -/
theorem dr_qlen {n B p a lz : Nat} {V Uc : List Int} {X qh R0 : Int} (Q : DrQ n B p a V Uc X qh R0) (kv : KnV n V) (n40 : 40 ≤ n) (hB : B = n / 2) (hp : p + 1 = B) (hd : DG 18446744073709551616 Uc) (ha : a + p ≤ Uc.length) (hX : X < 9223372036854775808 * 18446744073709551616 ^ (n + B - 1)) : qh < 18446744073709551616 ^ B := by
  have hv1 := (kv.drop (i := p) (by have := kv.len; omega)).lo
  have e0 := val_drop_split (xs := Uc) (a := a) (p := p) ha
  have ulo0 := val_nonneg (B := 18446744073709551616) (by omega) ((hd.drop a).take p)
  rw [← Q.xe] at e0
  have hR0 := pow_pos_ (B := 18446744073709551616) (by omega) (n - p - 1)
  have hP0 := pow_pos_ (B := 18446744073709551616) (by omega) p
  have hqe := Q.qe
  generalize val 18446744073709551616 (V.drop p) = V1 at *
  generalize val 18446744073709551616 (Uc.drop (a + p)) = uhi at *
  generalize val 18446744073709551616 ((Uc.drop a).take p) = ulo at *
  have h1 : qh * V1 ≤ uhi := by
    rw [hqe]
    exact Int.ediv_mul_le _ (by omega)
  rcases Int.lt_or_le qh (18446744073709551616 ^ B) with h | h
  · exact h
  · exfalso
    have eN : (18446744073709551616 : Int) ^ (n + B - 1) = 18446744073709551616 ^ p * (18446744073709551616 ^ B * 18446744073709551616 ^ (n - p - 1)) := by
      rw [← Int.pow_add, ← Int.pow_add]; congr 1; omega
    have hB0 := pow_pos_ (B := 18446744073709551616) (by omega) B
    have c1 : 18446744073709551616 ^ B * (9223372036854775808 * 18446744073709551616 ^ (n - p - 1)) ≤ qh * V1 := by
      have d1 : 18446744073709551616 ^ B * (9223372036854775808 * 18446744073709551616 ^ (n - p - 1)) ≤ 18446744073709551616 ^ B * V1 := Int.mul_le_mul_of_nonneg_left hv1 (by omega)
      have d2 : 18446744073709551616 ^ B * V1 ≤ qh * V1 := Int.mul_le_mul_of_nonneg_right h (by omega)
      omega
    have c2 : 18446744073709551616 ^ p * (18446744073709551616 ^ B * (9223372036854775808 * 18446744073709551616 ^ (n - p - 1))) ≤ 18446744073709551616 ^ p * uhi := Int.mul_le_mul_of_nonneg_left (by omega) (by omega)
    have c3 : (18446744073709551616 : Int) ^ p * (18446744073709551616 ^ B * (9223372036854775808 * 18446744073709551616 ^ (n - p - 1))) = 9223372036854775808 * (18446744073709551616 ^ p * (18446744073709551616 ^ B * 18446744073709551616 ^ (n - p - 1))) := by grind
    rw [eN] at hX
    omega
/-- a world of the walk between sections -/
structure DrH (B lz lu s : Nat) (q1 : Option StkSt) (bz oz bu ou b0 o0 : Nat) (w : World) (q' : Option StkSt) (Uc Zc : List Int) (w' : World) : Prop where
  fc : Fc 77 (DrS s q1 bz oz lz bu ou lu b0 o0 (B + 1)) w w'
  st : StkAt w' s q'
  le : StkLe w.heap.size q1 q'
  ll : lenS q' = lenS q1
  u : Wr 77 w' bu ou Uc
  ul : Uc.length = lu
  ud : DG 18446744073709551616 Uc
  z : Wr 77 w' bz oz Zc
  zl : Zc.length = lz
  zd : DG 18446744073709551616 Zc
def DrI (n B m lz lu s : Nat) (q1 : Option StkSt) (bz oz bu ou b0 o0 : Nat) (V : List Int) (U0 : Int) (w : World) (j : Nat) (w' : World) : Prop :=
  ∃ q' Uc Zc, DrH B lz lu s q1 bz oz bu ou b0 o0 w q' Uc Zc w' ∧ j ≤ m ∧ val 18446744073709551616 Uc + val 18446744073709551616 V * val 18446744073709551616 Zc = U0 ∧ val 18446744073709551616 Uc < 18446744073709551616 ^ (n + j) ∧ (j = lz → val 18446744073709551616 Uc < 9223372036854775808 * 18446744073709551616 ^ (n + j - 1))
def DrR (n B m lz lu s : Nat) (q1 : Option StkSt) (bz oz bu ou b0 o0 : Nat) (V : List Int) (U0 : Int) (w : World) (g : Nat) (jv : Value) (w' : World) : Prop := ∃ j : Nat, g = j ∧ jv = .int .i64 j ∧ DrI n B m lz lu s q1 bz oz bu ou b0 o0 V U0 w j w'
section
variable {n B p m lz lu s : Nat} {q1 q2 q' : Option StkSt} {bz oz cz bu ou cu bv ov cv b0 o0 bt ot n3 : Nat} {V Uc Zc Qc : List Int} {U0 : Int} {w w' W w2 w3 : World}
theorem DrH.row (H : DrH B lz lu s q1 bz oz bu ou b0 o0 w q' Uc Zc w') (C : DrC n B p lz lu s q1 bz oz cz bu ou cu bv ov cv b0 o0 V w) : ∃ L, Row .u64 77 w' b0 L ∧ o0 + (B + 1) ≤ L.length := (C.r0.fc H.fc).row (by omega)
/-- the guess's words are nought -/
theorem dr_clr0 (C : DrC n B p lz lu s q1 bz oz cz bu ou cu bv ov cv b0 o0 V w) (H : DrH B lz lu s q1 bz oz bu ou b0 o0 w q' Uc Zc w') {L : List Int} (hL : Row .u64 77 w' b0 L) (hl : o0 + (B + 1) ≤ L.length) (row : Row .u64 77 w2 b0 (spl L o0 (List.replicate (B + 1) 0))) (f : Fr [b0] w' w2) :
    DrW B lz lu s q1 bz oz bu ou b0 o0 w q' Uc Zc (List.replicate (B + 1) 0) w2 := by
  have hlr : (List.replicate (B + 1) (0 : Int)).length = B + 1 := List.length_replicate
  have hf : Fc 77 (In1 b0 o0 (B + 1)) w' w2 := fc_row (L' := L) hL row f (by rw [hlr]; exact hl) (fun i h1 h2 => ⟨rfl, h1, by rw [hlr] at h2; exact h2⟩)
  exact ⟨H.fc.t (hf.mono (fun b i hh _ => .inr (.inr (.inr hh)))), H.st.fc hf (fun i hh => H.st.row_ne hL hh.1.symm) (fun x hx i hh => by subst hx; exact H.st.2.row_ne hL hh.1.symm), H.le, H.ll, H.u.fc hf (by rw [H.ul]; exact C.d0u.symm.off), H.ul, H.ud, H.z.fc hf (by rw [H.zl]; exact C.d0z.symm.off), H.zl, H.zd, Wr.of_spl row (by rw [hlr]; exact hl), hlr, DG.rep (by omega) _⟩
theorem DrW.h (K : DrW B lz lu s q1 bz oz bu ou b0 o0 w q' Uc Zc Qc w') : DrH B lz lu s q1 bz oz bu ou b0 o0 w q' Uc Zc w' := ⟨K.fc, K.st, K.le, K.ll, K.u, K.ul, K.ud, K.z, K.zl, K.zd⟩
/-- the next round -/
theorem dr_next {j a : Nat} {lo X zv : Int} (kv : KnV n V) (hdU : DG 18446744073709551616 Uc) (hB : 0 < B) (hj : a + B = j) (hjm : j ≤ m) (hml : m ≤ lz) (h0 : lo + 18446744073709551616 ^ a * X + val 18446744073709551616 V * zv = U0) (hl0 : val 18446744073709551616 (Uc.take a) = lo) (hal : a ≤ Uc.length) (hR : val 18446744073709551616 (Uc.drop a) = X % val 18446744073709551616 V) (hz : val 18446744073709551616 Zc = zv + 18446744073709551616 ^ a * (X / val 18446744073709551616 V)) (H : DrH B lz lu s q1 bz oz bu ou b0 o0 w q' Uc Zc w') :
    DrI n B m lz lu s q1 bz oz bu ou b0 o0 V U0 w a w' := by
  have e := val_split 18446744073709551616 Uc a hal
  have hV := kv.hi
  have hVp := kv.pos
  have hr := Int.emod_lt_of_pos X hVp
  have hp := pow_pos_ (B := 18446744073709551616) (by omega) a
  have llt := val_lt_of_len (B := 18446744073709551616) (by omega) (hdU.take a) (k := a) (by rw [List.length_take]; omega)
  rw [hl0] at llt e
  rw [hR] at e
  refine ⟨q', Uc, Zc, H, by omega, ?_, ?_, fun hh => by omega⟩
  · rw [e, hz, ← h0]
    have := Int.mul_ediv_add_emod X (val 18446744073709551616 V)
    generalize val 18446744073709551616 V = Y at *
    generalize X / Y = d at *
    generalize X % Y = r at *
    generalize (18446744073709551616 : Int) ^ a = P at *
    subst this
    grind
  · rw [e, Int.pow_add]
    have h1 : 18446744073709551616 ^ a * (X % val 18446744073709551616 V + 1) ≤ 18446744073709551616 ^ a * 18446744073709551616 ^ n := Int.mul_le_mul_of_nonneg_left (by omega) (by omega)
    rw [Int.mul_add, Int.mul_one] at h1
    rw [Int.mul_comm (18446744073709551616 ^ n)]
    omega
end
end Go.Proofs.YtknokndpeneogaaDoor
