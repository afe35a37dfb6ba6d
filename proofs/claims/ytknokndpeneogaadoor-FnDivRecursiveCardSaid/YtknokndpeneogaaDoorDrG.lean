/-
  divRecursiveStep, the great case: the start, the end, the inner loop's relation, no walk. Conditions: those of its contract.
-/
import Derived.Test.YtknokndpeneogaaDoorDrN
set_option linter.unusedSimpArgs false
set_option linter.unusedVariables false
namespace Go.Proofs.YtknokndpeneogaaDoor
open Go.Big Go.RowKit
attribute [local go_sem ↓] Go.wp_at_zero Go.wp_at_succ
section
variable {n B p m i lz lu s : Nat} {q q1 q2 q' : Option StkSt} {bz oz cz bu ou cu bv ov cv b0 o0 bt ot n3 : Nat} {U V Uc Zc Qc T : List Int} {w w1 w2 w' : World}
set_option maxRecDepth 100000 in
theorem dr_ctx0 (h : DrPre n lu lz s q bz oz cz bu ou cu bv ov cv U V w) (hi : CutAt U i) (hm : i = m + n) (n40 : 40 ≤ n) (hB : B = n / 2) (hp : p + 1 = B)
    (hT : ∃ L, Row .u64 77 w1 b0 L ∧ o0 + (B + 1) ≤ L.length) (st1 : StkAt w1 s q1) (le : StkLe w.heap.size q q1) (l : lenS q ≤ lenS q1) (l' : lenS q1 ≤ lenS q + (B + 1) + 3) (hf : Fc 77 (StS s q) w w1) (hnw : b0 < w.heap.size → ∀ j, o0 ≤ j → j < o0 + (B + 1) → StS s q b0 j) (hoff : ∀ j, o0 ≤ j → j < o0 + (B + 1) → ¬ StS s q1 b0 j) :
    DrC n B p lz i s q1 bz oz cz bu ou cu bv ov cv b0 o0 V w1 ∧ lenS q1 + 9500 * (n + 1) ≤ 100000000000 ∧ DrI n B m lz i s q1 bz oz bu ou b0 o0 V (val 18446744073709551616 U) w1 m w1 ∧ m ≤ lz := by
  have hil := hi.1
  rw [h.ul] at hil
  have hlen := h.len
  have few := h.few
  have cu1 := h.cu1
  have lu9 := h.lu9
  have hvn := h.vn
  have hvl := h.kv.len
  have hml := h.ulen hi
  obtain ⟨c1, c2, c3, c4⟩ := cut_facts h.ud hi
  have b1 := h.u.lt
  have b2 := h.z.lt
  have b3 := h.v.lt (by omega)
  have ou' : Off (StS s q) bu ou i := Off.take h.ou_ hil
  have u0 := h.u.take i (by rw [h.ul]; exact hil)
  have u1 : Wr 77 w1 bu ou (U.take i) := u0.fc hf (by rw [c1]; exact ou')
  have z1 : Wr 77 w1 bz oz (List.replicate lz 0) := h.z.fc hf (by rw [List.length_replicate]; exact h.oz_)
  have v1 : Nm w1 (some ⟨bv, ov, none⟩) bv ov cv V := h.v.fc hf (by rw [hvl]; exact Off.take h.ov_ hvn)
  obtain ⟨L, hL, hLl⟩ := hT
  have C : DrC n B p lz i s q1 bz oz cz bu ou cu bv ov cv b0 o0 V w1 :=
    ⟨n40, few, hB, hp, h.lz9, by omega, h.cz1, h.cz9, by omega, h.cu9, hvn, h.cv9, h.thr.fc hf (glo_stk h.thr h.st 0), h.td.fc hf (glo_stk h.td h.st 0), st1, by omega, v1, h.kv, Rcv.of_row hL hLl (by unfold maxLen; omega), ⟨_, z1, List.length_replicate⟩, ⟨_, u1, c1⟩, h.dvu.sub1 (Nat.le_refl _) hil, h.dzu.sub1 (Nat.le_refl _) hil, h.dvz, (nat_dj hnw b1 ou').symm, (nat_dj hnw b2 h.oz_).symm, (nat_dj hnw b3 (Off.take h.ov_ hvn)).symm, off_le le l h.oz_ b2, off_le le l ou' b1, off_le le l h.ov_ b3, hoff⟩
  refine ⟨C, by omega, ⟨q1, U.take i, List.replicate lz 0, ⟨Fc.refl _ _ _, st1, StkLe.refl _ _, rfl, u1, c1, c2, z1, List.length_replicate, DG.rep (by omega) _⟩, Nat.le_refl _, by rw [val_rep, c4]; omega, ?_, fun hh => ?_⟩, by omega⟩
  · have := val_lt_of_len (B := 18446744073709551616) (by omega) c2 (k := n + m) (by omega)
    exact this
  · rw [c4, hh]
    exact h.fit
theorem dr_end (h : DrPre n lu lz s q bz oz cz bu ou cu bv ov cv U V w) (hi : CutAt U i) (le : StkLe w.heap.size q q1) (l : lenS q ≤ lenS q1) (hf : Fc 77 (StS s q) w w1) (hnw : b0 < w.heap.size → ∀ j, o0 ≤ j → j < o0 + (B + 1) → StS s q b0 j)
    (L : DrL lz i s q1 q2 bz oz bu ou b0 o0 (B + 1) bt ot n3 w1 w2) (C2 : DrT n B p lz i s q2 bz oz cz bu ou cu bv ov cv b0 o0 bt ot n3 V w2) (K : DrM B lz i s q2 bz oz bu ou b0 o0 bt ot n3 w2 q' Uc Zc Qc T w') (hz : val 18446744073709551616 Zc = val 18446744073709551616 U / val 18446744073709551616 V) (hu : val 18446744073709551616 Uc = val 18446744073709551616 U % val 18446744073709551616 V) :
    StkAt w' s q' ∧ (∀ p, q' = some p → lenS q ≤ p.cap) ∧ ∀ w3, StkAt w3 s (resS (lenS q) q') → Fc 77 (StS s q') w' w3 → DrPost s q bz oz lz bu ou lu (val 18446744073709551616 U) (val 18446744073709551616 V) w (.returned (.tuple #[])) w3 := by
  have ll := K.ll
  have l1 := L.ll
  have s0 := hf.size
  have s1 := L.fc.size
  obtain ⟨oz', ou', ov', o0'⟩ := C2.c.offs K.le K.ll
  refine ⟨K.st, fun x hx => ?_, fun w3 h3 hf3 => ?_⟩
  · subst hx
    have h4 := K.st.2.2.2.1
    have e : lenS (some x) = x.len := rfl
    omega
  · have q1q : ∀ b j, StS s q1 b j → b < w.heap.size → StS s q b j := fun b j hh hlt => le.sub l b j hh hlt
    have q2q : ∀ b j, StS s q2 b j → b < w.heap.size → StS s q b j := fun b j hh hlt => q1q b j (L.le.sub L.ll b j hh (by omega)) hlt
    have F2 : Fc 77 (fun b j => StS s q b j ∨ In1 bz oz lz b j ∨ In1 bu ou i b j) w w2 := (hf.mono (fun b j hh _ => .inl hh)).trans L.fc (fun b j hh hlt => by
      rcases hh with hh | hh | hh | hh
      · exact .inl (q1q b j hh hlt)
      · exact .inr (.inl hh)
      · exact .inr (.inr hh)
      · obtain ⟨rfl, h1, h2⟩ := hh
        exact .inl (hnw hlt j h1 h2))
    have F3 : Fc 77 (fun b j => StS s q b j ∨ In1 bz oz lz b j ∨ In1 bu ou i b j) w w' := F2.trans K.fc (fun b j hh hlt => by
      rcases hh with (hh | hh | hh | hh) | hh
      · exact .inl (q2q b j hh hlt)
      · exact .inr (.inl hh)
      · exact .inr (.inr hh)
      · obtain ⟨rfl, h1, h2⟩ := hh
        exact .inl (hnw hlt j h1 h2)
      · obtain ⟨rfl, h1, h2⟩ := hh
        exact .inl (q1q _ j (L.nw (by omega) j h1 h2) hlt))
    have F4 : Fc 77 (fun b j => StS s q b j ∨ In1 bz oz lz b j ∨ In1 bu ou i b j) w w3 := F3.trans hf3 (fun b j hh hlt => .inl (q2q b j (K.le.sub (Nat.le_of_eq K.ll.symm) b j hh (by omega)) hlt))
    exact DrPost.full (i := i) ⟨_, Zc, Uc, rfl, h3, ((le.trans L.le s0).trans K.le (by omega)).res, lenS_res (fun hh => by rw [hh] at ll; have e : lenS none = 0 := rfl; omega), K.z.fc hf3 (by rw [K.zl]; exact oz'), K.zl, K.zd, hz, K.u.fc hf3 (by rw [K.ul]; exact ou'), K.ul, K.ud, hu, F4⟩ h.u h.ul h.ud hi h.dzu h.ou_
end
def CutV (v : Value) (P : World → Prop) (s0 : Value) (wx : World) : Prop := s0 = v ∧ P wx
/-- the product tq, the section R, the guess qq: they fit, or are one too great -/
def DrE (p : Nat) (V : List Int) (X R tq qq : Int) (i : Nat) : Prop :=
  (tq ≤ R → X / val 18446744073709551616 V = qq ∧ X % val 18446744073709551616 V = R - tq) ∧
  (R < tq → i = 0 ∧ 1 ≤ qq ∧ val 18446744073709551616 (V.take p) ≤ tq ∧ X / val 18446744073709551616 V = qq - 1 ∧ X % val 18446744073709551616 V = R + 18446744073709551616 ^ p * val 18446744073709551616 (V.drop p) - (tq - val 18446744073709551616 (V.take p)) ∧
    tq - val 18446744073709551616 (V.take p) ≤ R + 18446744073709551616 ^ p * val 18446744073709551616 (V.drop p) ∧ R + 18446744073709551616 ^ p * val 18446744073709551616 (V.drop p) ≤ X)
theorem DrQ.e0 {n B p a : Nat} {V Uc : List Int} {X qh R0 : Int} (Q : DrQ n B p a V Uc X qh R0) : DrE p V X R0 (qh * val 18446744073709551616 (V.take p)) qh 0 :=
  ⟨Q.fit, fun h => ⟨rfl, Q.over h⟩⟩
theorem DrE.next {p i : Nat} {V : List Int} {X R tq qq : Int} (E : DrE p V X R tq qq i) (h : R < tq) : DrE p V X (R + 18446744073709551616 ^ p * val 18446744073709551616 (V.drop p)) (tq - val 18446744073709551616 (V.take p)) (qq - 1) 1 := by
  obtain ⟨_, h1, h2, h3, h4, h5, h6⟩ := E.2 h
  exact ⟨fun _ => ⟨h3, h4⟩, fun hh => by omega⟩
theorem DrE.same {p i : Nat} {V : List Int} {X R tq qq : Int} (E : DrE p V X R tq qq i) (h : tq ≤ R) (k : Nat) : DrE p V X R tq qq k := ⟨E.1, fun hh => by omega⟩
/-- behind the guess of the last section -/
def DrGu (B lz lu s : Nat) (q1 : Option StkSt) (bz oz bu ou b0 o0 : Nat) (w : World) (Zc : List Int) (P : List Int → List Int → Prop) (w' : World) : Prop := ∃ q3 Uc3 Qc3, DrW B lz lu s q1 bz oz bu ou b0 o0 w q3 Uc3 Zc Qc3 w' ∧ P Uc3 Qc3
theorem cmp_le {a b : Int} (h : a ≤ b) : cmpI a b ≤ 0 := by unfold cmpI; split <;> (try split) <;> omega
theorem cmp_gt {a b : Int} (h : b < a) : ¬ cmpI a b ≤ 0 := by unfold cmpI; split <;> (try split) <;> omega
theorem DrV.fr0 {n B lz lu s : Nat} {q2 : Option StkSt} {bz oz bu ou b0 o0 bt ot n3 : Nat} {w w' w2 : World} {a l lq : Nat} {lo R zv tq qq : Int} {f : Bool} (K : DrV n B lz lu s q2 bz oz bu ou b0 o0 bt ot n3 w a l lq lo R zv tq qq f w') (hf : Fr [] w' w2) : DrV n B lz lu s q2 bz oz bu ou b0 o0 bt ot n3 w a l lq lo R zv tq qq f w2 := by
  obtain ⟨q', Uc, Zc, Qc, T, M, N⟩ := K
  exact ⟨q', Uc, Zc, Qc, T, M.fr0 hf, N⟩
theorem dr_cap {w : World} {s k : Nat} {q : Option StkSt} (h : StkAt w s q) (hk : k ≤ lenS q) : ∀ x, q = some x → k ≤ x.cap := by
  intro x hx
  subst hx
  have h4 := h.2.2.2.1
  have e : lenS (some x) = x.len := rfl
  omega
/-- the inner loop's relation -/
def DrJ (M n B p lz lu s : Nat) (q2 : Option StkSt) (bz oz bu ou b0 o0 bt ot n3 : Nat) (w : World) (a l lq : Nat) (lo zv X : Int) (V : List Int) (g : Nat) (iv : Value) (w' : World) : Prop :=
  ∃ i : Nat, i ≤ M ∧ g = M - i ∧ iv = .int .i64 i ∧ ∃ R tq qq, DrV n B lz lu s q2 bz oz bu ou b0 o0 bt ot n3 w a l lq lo R zv tq qq true w' ∧ DrE p V X R tq qq i
theorem dr_hv {n B p a lx : Nat} {Uc : List Int} (hd : DG 18446744073709551616 Uc) (ha : a + p ≤ Uc.length) (hX : val 18446744073709551616 (Uc.drop a) < 18446744073709551616 ^ (n + B)) (hpn : p ≤ n) (hlx : lx = B + n - p) : val 18446744073709551616 ((Uc.drop (a + p)).take lx) = val 18446744073709551616 (Uc.drop (a + p)) := by
  refine (val_take_all (by omega) (hd.drop _) ?_).1
  have e0 := val_drop_split (xs := Uc) (a := a) (p := p) ha
  have u0 := val_nonneg (B := 18446744073709551616) (by omega) ((hd.drop a).take p)
  have e2 : (18446744073709551616 : Int) ^ (n + B) = 18446744073709551616 ^ p * 18446744073709551616 ^ lx := by rw [← Int.pow_add]; congr 1; omega
  rw [e2] at hX
  exact Int.lt_of_mul_lt_mul_left (by omega) (Int.le_of_lt (pow_pos_ (B := 18446744073709551616) (by omega) p))
theorem dr_xlz {n B a j : Nat} {Uc : List Int} (hd : DG 18446744073709551616 Uc) (ha : a ≤ Uc.length) (hj : a + B = j) (hB : 0 < n + B) (h : val 18446744073709551616 Uc < 9223372036854775808 * 18446744073709551616 ^ (n + j - 1)) : val 18446744073709551616 (Uc.drop a) < 9223372036854775808 * 18446744073709551616 ^ (n + B - 1) := by
  have e := val_split 18446744073709551616 Uc a ha
  have u0 := val_nonneg (B := 18446744073709551616) (by omega) (hd.take a)
  have e2 : (18446744073709551616 : Int) ^ (n + j - 1) = 18446744073709551616 ^ a * 18446744073709551616 ^ (n + B - 1) := by rw [← Int.pow_add]; congr 1; omega
  rw [e2] at h
  have e3 : (9223372036854775808 : Int) * (18446744073709551616 ^ a * 18446744073709551616 ^ (n + B - 1)) = 18446744073709551616 ^ a * (9223372036854775808 * 18446744073709551616 ^ (n + B - 1)) := by grind
  rw [e3] at h
  exact Int.lt_of_mul_lt_mul_left (by omega) (Int.le_of_lt (pow_pos_ (B := 18446744073709551616) (by omega) a))
theorem dr_zfit {n a lz : Nat} {V Uc : List Int} {U0 zv : Int} (kv : KnV n V) (hd : DG 18446744073709551616 Uc) (ha : a ≤ Uc.length) (hs : val 18446744073709551616 Uc + val 18446744073709551616 V * zv = U0) (hU : U0 < val 18446744073709551616 V * 18446744073709551616 ^ lz) :
    zv + 18446744073709551616 ^ a * (val 18446744073709551616 (Uc.drop a) / val 18446744073709551616 V) < 18446744073709551616 ^ lz := by
  have e := val_split 18446744073709551616 Uc a ha
  have u0 := val_nonneg (B := 18446744073709551616) (by omega) (hd.take a)
  have hp := pow_pos_ (B := 18446744073709551616) (by omega) a
  have hV := kv.pos
  have h1 := Int.mul_ediv_add_emod (val 18446744073709551616 (Uc.drop a)) (val 18446744073709551616 V)
  have h2 := Int.emod_nonneg (val 18446744073709551616 (Uc.drop a)) (show val 18446744073709551616 V ≠ 0 by omega)
  generalize val 18446744073709551616 V = Y at *
  generalize val 18446744073709551616 (Uc.drop a) / Y = d at *
  generalize val 18446744073709551616 (Uc.drop a) % Y = r at *
  generalize val 18446744073709551616 (Uc.drop a) = X at *
  generalize val 18446744073709551616 (Uc.take a) = lo at *
  generalize val 18446744073709551616 Uc = W at *
  generalize (18446744073709551616 : Int) ^ a = P at *
  generalize (18446744073709551616 : Int) ^ lz = L at *
  have h3 : 0 ≤ P * r := Int.mul_nonneg (by omega) h2
  have h4 : Y * (zv + P * d) < Y * L := by
    have : Y * (zv + P * d) = U0 - lo - P * r := by subst h1; subst e; subst hs; grind
    omega
  exact Int.lt_of_mul_lt_mul_left h4 (by omega)
theorem dr_fin {X Y zv U0 : Int} (hY : 0 < Y) (h : X + Y * zv = U0) : zv + X / Y = U0 / Y ∧ X % Y = U0 % Y := by
  subst h
  rw [Int.add_mul_ediv_left _ _ (by omega), Int.add_mul_emod_self_left]
  exact ⟨by omega, rfl⟩
/-- the product's words before the product -/
theorem dr_v0 {n B p lz lu s : Nat} {q2 q' : Option StkSt} {bz oz bu ou b0 o0 bt ot n3 a iq : Nat} {V Uc Ui Zc Qc : List Int} {w w' : World} {X qh R0 lo zv : Int} (K : DrM B lz lu s q2 bz oz bu ou b0 o0 bt ot n3 w q' Uc Zc Qc (List.replicate n3 0) w') (Q : DrQ n B p a V Ui X qh R0) (hlo : val 18446744073709551616 (Uc.take a) = lo) (hR : val 18446744073709551616 (Uc.drop a) = val 18446744073709551616 ((Ui.drop a).take p) + 18446744073709551616 ^ p * (val 18446744073709551616 (Ui.drop (a + p)) % val 18446744073709551616 (V.drop p))) (hz : val 18446744073709551616 Zc = zv) (hq : val 18446744073709551616 Qc = val 18446744073709551616 (Ui.drop (a + p)) / val 18446744073709551616 (V.drop p)) (hiq : CutAt Qc iq) :
    DrV n B lz lu s q2 bz oz bu ou b0 o0 bt ot n3 w a n3 iq lo R0 zv 0 qh false w' := by
  obtain ⟨c1, c2, c3, c4⟩ := cut_facts K.cd hiq
  exact ⟨q', Uc, Zc, Qc, _, K, hlo, hR.trans Q.re.symm, hz, val_rep _ _, by rw [List.take_replicate, val_rep], c4.trans (hq.trans Q.qe.symm), fun hh => by cases hh⟩
/-- the guess's length -/
theorem dr_iq {iq : Nat} {Qc : List Int} {qh : Int} {k : Nat} (hd : DG 18446744073709551616 Qc) (hiq : CutAt Qc iq) (hv : val 18446744073709551616 Qc = qh) (hk : qh < 18446744073709551616 ^ k) : iq ≤ k := by
  obtain ⟨c1, c2, c3, c4⟩ := cut_facts hd hiq
  rw [← c1]
  exact len_le (by omega) c2 c3 (by rw [c4, hv]; exact hk)
end Go.Proofs.YtknokndpeneogaaDoor
