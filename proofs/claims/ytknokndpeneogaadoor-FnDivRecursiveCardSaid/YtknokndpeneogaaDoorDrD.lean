/-
  divRecursiveStep, the great case: the product of the guess, its mending, the subtraction, no walk. Conditions: those of its contract.
-/
import Derived.Test.YtknokndpeneogaaDoorDrB
set_option linter.unusedSimpArgs false
set_option linter.unusedVariables false
namespace Go.Proofs.YtknokndpeneogaaDoor
open Go.Big Go.RowKit
def DrTS (s : Nat) (q : Option StkSt) (bz oz lz bu ou lu b0 o0 c0 bt ot n3 b i : Nat) : Prop := DrS s q bz oz lz bu ou lu b0 o0 c0 b i ∨ In1 bt ot n3 b i
structure DrM (B lz lu s : Nat) (q2 : Option StkSt) (bz oz bu ou b0 o0 bt ot n3 : Nat) (w : World) (q' : Option StkSt) (Uc Zc Qc T : List Int) (w' : World) : Prop where
  fc : Fc 77 (DrTS s q2 bz oz lz bu ou lu b0 o0 (B + 1) bt ot n3) w w'
  st : StkAt w' s q'
  le : StkLe w.heap.size q2 q'
  ll : lenS q' = lenS q2
  u : Wr 77 w' bu ou Uc
  ul : Uc.length = lu
  ud : DG 18446744073709551616 Uc
  z : Wr 77 w' bz oz Zc
  zl : Zc.length = lz
  zd : DG 18446744073709551616 Zc
  c : Wr 77 w' b0 o0 Qc
  cl : Qc.length = B + 1
  cd : DG 18446744073709551616 Qc
  t : Wr 77 w' bt ot T
  tl : T.length = n3
  td : DG 18446744073709551616 T
/-- the numbers: below the section lo, the section R, the target zv, the product tq, the guess qq -/
structure DrN (n a l lq : Nat) (lo R zv tq qq : Int) (f : Bool) (Uc Zc Qc T : List Int) : Prop where
  hlo : val 18446744073709551616 (Uc.take a) = lo
  hR : val 18446744073709551616 (Uc.drop a) = R
  hz : val 18446744073709551616 Zc = zv
  ht : val 18446744073709551616 T = tq
  htt : val 18446744073709551616 (T.take l) = tq
  hq : val 18446744073709551616 (Qc.take lq) = qq
  hnz : f = true → NZ (T.take l) ∨ (l ≤ n ∧ 18446744073709551616 ^ (n - 1) ≤ R)
def DrV (n B lz lu s : Nat) (q2 : Option StkSt) (bz oz bu ou b0 o0 bt ot n3 : Nat) (w : World) (a l lq : Nat) (lo R zv tq qq : Int) (f : Bool) (w' : World) : Prop :=
  ∃ q' Uc Zc Qc T, DrM B lz lu s q2 bz oz bu ou b0 o0 bt ot n3 w q' Uc Zc Qc T w' ∧ DrN n a l lq lo R zv tq qq f Uc Zc Qc T
section
variable {n B p lz lu s : Nat} {q2 q' : Option StkSt} {bz oz cz bu ou cu bv ov cv b0 o0 bt ot n3 : Nat} {V Uc Zc Qc T : List Int} {w w' w2 : World}
theorem DrM.fr0 (K : DrM B lz lu s q2 bz oz bu ou b0 o0 bt ot n3 w q' Uc Zc Qc T w') (f : Fr [] w' w2) : DrM B lz lu s q2 bz oz bu ou b0 o0 bt ot n3 w q' Uc Zc Qc T w2 :=
  ⟨K.fc.t (Fc.fr0 f _ _), K.st.fr0 f, K.le, K.ll, K.u.fr0 f, K.ul, K.ud, K.z.fr0 f, K.zl, K.zd, K.c.fr0 f, K.cl, K.cd, K.t.fr0 f, K.tl, K.td⟩
theorem DrT.gn (C : DrT n B p lz lu s q2 bz oz cz bu ou cu bv ov cv b0 o0 bt ot n3 V w) {g : Nat} {v : Int} (hg : Glo w g v) : ¬ DrTS s q2 bz oz lz bu ou lu b0 o0 (B + 1) bt ot n3 g 0 := by
  rintro (e | e)
  · exact C.c.gn hg e
  · exact glo_rcv hg C.rt (by have := C.h3; have := C.c.n40; omega) e.1
theorem DrT.von (C : DrT n B p lz lu s q2 bz oz cz bu ou cu bv ov cv b0 o0 bt ot n3 V w) : Off (DrTS s q2 bz oz lz bu ou lu b0 o0 (B + 1) bt ot n3) bv ov V.length := by
  have hl := C.c.kv.len
  rintro i h1 h2 (e | e)
  · exact C.c.von i h1 h2 e
  · exact C.dtv.symm.off i h1 (by omega) e
theorem DrT.v' (C : DrT n B p lz lu s q2 bz oz cz bu ou cu bv ov cv b0 o0 bt ot n3 V w) (K : DrM B lz lu s q2 bz oz bu ou b0 o0 bt ot n3 w q' Uc Zc Qc T w') : Nm w' (some ⟨bv, ov, none⟩) bv ov cv V := C.c.v.fc K.fc C.von
theorem DrT.offt (C : DrT n B p lz lu s q2 bz oz cz bu ou cu bv ov cv b0 o0 bt ot n3 V w) (K : DrM B lz lu s q2 bz oz bu ou b0 o0 bt ot n3 w q' Uc Zc Qc T w') : Off (StS s q') bt ot n3 :=
  off_le K.le (Nat.le_of_eq K.ll.symm) C.ot_ (C.rt.lt (by have := C.h3; have := C.c.n40; omega))
/-- a part of u was written -/
theorem DrM.wu (C : DrT n B p lz lu s q2 bz oz cz bu ou cu bv ov cv b0 o0 bt ot n3 V w) (K : DrM B lz lu s q2 bz oz bu ou b0 o0 bt ot n3 w q' Uc Zc Qc T w') {x : Nat} {zs : List Int} (h : Wr 77 w2 bu (ou + x) zs) (hf : Fc 77 (In1 bu (ou + x) zs.length) w' w2) (hx : x + zs.length ≤ lu) (hd : DG 18446744073709551616 zs) :
    DrM B lz lu s q2 bz oz bu ou b0 o0 bt ot n3 w q' (spl Uc x zs) Zc Qc T w2 := by
  have hul := K.ul
  have dzu := C.c.dzu
  have d0u := C.c.d0u
  have dtu := C.dtu
  refine ⟨K.fc.t (hf.mono (fun b i hh _ => .inl (.inr (.inr (.inl ⟨hh.1, by have := hh.2.1; omega, by have := hh.2.2; omega⟩))))), st_in1 K.st K.u hf, K.le, K.ll, K.u.upd h hf (by omega), by rw [spl_len (by omega), hul], spl_dg K.ud hd, K.z.fc hf (fun j a1 a2 hh => ?_), K.zl, K.zd, K.c.fc hf (fun j a1 a2 hh => ?_), K.cl, K.cd, K.t.fc hf (fun j a1 a2 hh => ?_), K.tl, K.td⟩
  · rw [K.zl] at a2
    exact dzu.off j a1 a2 ⟨hh.1, by have := hh.2.1; omega, by have := hh.2.2; omega⟩
  · rw [K.cl] at a2
    exact d0u.off j a1 a2 ⟨hh.1, by have := hh.2.1; omega, by have := hh.2.2; omega⟩
  · rw [K.tl] at a2
    exact dtu.off j a1 a2 ⟨hh.1, by have := hh.2.1; omega, by have := hh.2.2; omega⟩
theorem DrM.wz (C : DrT n B p lz lu s q2 bz oz cz bu ou cu bv ov cv b0 o0 bt ot n3 V w) (K : DrM B lz lu s q2 bz oz bu ou b0 o0 bt ot n3 w q' Uc Zc Qc T w') {x : Nat} {zs : List Int} (h : Wr 77 w2 bz (oz + x) zs) (hf : Fc 77 (In1 bz (oz + x) zs.length) w' w2) (hx : x + zs.length ≤ lz) (hd : DG 18446744073709551616 zs) :
    DrM B lz lu s q2 bz oz bu ou b0 o0 bt ot n3 w q' Uc (spl Zc x zs) Qc T w2 := by
  have hzl := K.zl
  have dzu := C.c.dzu
  have d0z := C.c.d0z
  have dtz := C.dtz
  refine ⟨K.fc.t (hf.mono (fun b i hh _ => .inl (.inr (.inl ⟨hh.1, by have := hh.2.1; omega, by have := hh.2.2; omega⟩)))), st_in1 K.st K.z hf, K.le, K.ll, K.u.fc hf (fun j a1 a2 hh => ?_), K.ul, K.ud, K.z.upd h hf (by omega), by rw [spl_len (by omega), hzl], spl_dg K.zd hd, K.c.fc hf (fun j a1 a2 hh => ?_), K.cl, K.cd, K.t.fc hf (fun j a1 a2 hh => ?_), K.tl, K.td⟩
  · rw [K.ul] at a2
    exact dzu.symm.off j a1 a2 ⟨hh.1, by have := hh.2.1; omega, by have := hh.2.2; omega⟩
  · rw [K.cl] at a2
    exact d0z.off j a1 a2 ⟨hh.1, by have := hh.2.1; omega, by have := hh.2.2; omega⟩
  · rw [K.tl] at a2
    exact dtz.off j a1 a2 ⟨hh.1, by have := hh.2.1; omega, by have := hh.2.2; omega⟩
theorem DrM.wc (C : DrT n B p lz lu s q2 bz oz cz bu ou cu bv ov cv b0 o0 bt ot n3 V w) (K : DrM B lz lu s q2 bz oz bu ou b0 o0 bt ot n3 w q' Uc Zc Qc T w') {x : Nat} {zs : List Int} (h : Wr 77 w2 b0 (o0 + x) zs) (hf : Fc 77 (In1 b0 (o0 + x) zs.length) w' w2) (hx : x + zs.length ≤ B + 1) (hd : DG 18446744073709551616 zs) :
    DrM B lz lu s q2 bz oz bu ou b0 o0 bt ot n3 w q' Uc Zc (spl Qc x zs) T w2 := by
  have hcl := K.cl
  have d0u := C.c.d0u
  have d0z := C.c.d0z
  have dt0 := C.dt0
  refine ⟨K.fc.t (hf.mono (fun b i hh _ => .inl (.inr (.inr (.inr ⟨hh.1, by have := hh.2.1; omega, by have := hh.2.2; omega⟩))))), st_in1 K.st K.c hf, K.le, K.ll, K.u.fc hf (fun j a1 a2 hh => ?_), K.ul, K.ud, K.z.fc hf (fun j a1 a2 hh => ?_), K.zl, K.zd, K.c.upd h hf (by omega), by rw [spl_len (by omega), hcl], spl_dg K.cd hd, K.t.fc hf (fun j a1 a2 hh => ?_), K.tl, K.td⟩
  · rw [K.ul] at a2
    exact d0u.symm.off j a1 a2 ⟨hh.1, by have := hh.2.1; omega, by have := hh.2.2; omega⟩
  · rw [K.zl] at a2
    exact d0z.symm.off j a1 a2 ⟨hh.1, by have := hh.2.1; omega, by have := hh.2.2; omega⟩
  · rw [K.tl] at a2
    exact dt0.off j a1 a2 ⟨hh.1, by have := hh.2.1; omega, by have := hh.2.2; omega⟩
theorem DrM.wt (C : DrT n B p lz lu s q2 bz oz cz bu ou cu bv ov cv b0 o0 bt ot n3 V w) (K : DrM B lz lu s q2 bz oz bu ou b0 o0 bt ot n3 w q' Uc Zc Qc T w') {x : Nat} {zs : List Int} (h : Wr 77 w2 bt (ot + x) zs) (hf : Fc 77 (In1 bt (ot + x) zs.length) w' w2) (hx : x + zs.length ≤ n3) (hd : DG 18446744073709551616 zs) :
    DrM B lz lu s q2 bz oz bu ou b0 o0 bt ot n3 w q' Uc Zc Qc (spl T x zs) w2 := by
  have htl := K.tl
  have dtu := C.dtu
  have dtz := C.dtz
  have dt0 := C.dt0
  refine ⟨K.fc.t (hf.mono (fun b i hh _ => .inr ⟨hh.1, by have := hh.2.1; omega, by have := hh.2.2; omega⟩)), st_in1 K.st K.t hf, K.le, K.ll, K.u.fc hf (fun j a1 a2 hh => ?_), K.ul, K.ud, K.z.fc hf (fun j a1 a2 hh => ?_), K.zl, K.zd, K.c.fc hf (fun j a1 a2 hh => ?_), K.cl, K.cd, K.t.upd h hf (by omega), by rw [spl_len (by omega), htl], spl_dg K.td hd⟩
  · rw [K.ul] at a2
    exact dtu.symm.off j a1 a2 ⟨hh.1, by have := hh.2.1; omega, by have := hh.2.2; omega⟩
  · rw [K.zl] at a2
    exact dtz.symm.off j a1 a2 ⟨hh.1, by have := hh.2.1; omega, by have := hh.2.2; omega⟩
  · rw [K.cl] at a2
    exact dt0.symm.off j a1 a2 ⟨hh.1, by have := hh.2.1; omega, by have := hh.2.2; omega⟩
set_option maxRecDepth 100000 in
/-- the guess times the divisor's lower part -/
theorem dr_mul (C : DrT n B p lz lu s q2 bz oz cz bu ou cu bv ov cv b0 o0 bt ot n3 V w) {a lq : Nat} {lo R zv qq : Int} {f : Bool} (K : DrV n B lz lu s q2 bz oz bu ou b0 o0 bt ot n3 w a n3 lq lo R zv 0 qq f w') (hlq : lq ≤ B + 1) (hb : qq * val 18446744073709551616 (V.take p) < 18446744073709551616 ^ (2 * B)) (W : World) (fW : Fr [] w' W) :
    Calls Tryd.prog 78 #[.slice (some ⟨bt, ot, none⟩) n3 n3, .pointer (some ⟨s, 0, none⟩), .slice (some ⟨b0, o0, none⟩) lq (B + 1 : Nat), .slice (some ⟨bv, ov, none⟩) p cv] W fun e w2 => ∃ l, e = .returned (.slice (some ⟨bt, ot, none⟩) l n3) ∧ l ≤ 2 * B ∧ DrV n B lz lu s q2 bz oz bu ou b0 o0 bt ot n3 w a l lq lo R zv (qq * val 18446744073709551616 (V.take p)) qq true w2 := by
  obtain ⟨q', Uc, Zc, Qc, T, K, N⟩ := K
  have n40 := C.c.n40
  have few := C.c.few
  have hB := C.c.hB
  have hp := C.c.hp
  have h3 := C.h3
  have hlen := C.c.len
  have hll := K.ll
  have hvl := C.c.kv.len
  have cv1 := C.c.cv1
  have hcl := K.cl
  have htl := K.tl
  have dtv := C.dtv
  have dt0 := C.dt0
  have KW := K.fr0 fW
  have vW := C.v' KW
  obtain ⟨oz', ou', ov', o0'⟩ := C.c.offs KW.le KW.ll
  have ot' := C.offt KW
  have rtW := C.rt.fc KW.fc
  have r0W := C.c.r0.fc KW.fc
  have hql : (Qc.take lq).length = lq := by rw [List.length_take]; omega
  have hvp : (V.take p).length = p := by rw [List.length_take]; omega
  have x0 : Nm W (some ⟨b0, o0, none⟩) b0 o0 (B + 1) (Qc.take lq) := Nm.of_wr (KW.c.take lq (by omega)) r0W (by omega)
  have y0 : Nm W (some ⟨bv, ov, none⟩) bv ov cv (V.take p) := vW.cut (by omega)
  have hT0 : T = List.replicate n3 0 := by
    refine eq_of_val_len KW.td (DG.rep (by omega) _) (by rw [List.length_replicate, htl]) ?_
    rw [N.ht, val_rep]
  refine (mul_ok lq p s q' (some ⟨bt, ot, none⟩) n3 bt ot n3 _ b0 o0 (B + 1) (Qc.take lq) _ bv ov cv (V.take p) W ⟨KW.st, fun _ => by omega, fun _ => by omega, C.c.thr.fc KW.fc (C.gn C.c.thr), rtW, Nat.le_refl _, by omega, x0, hql, KW.cd.take lq, by omega, y0, hvp, C.c.kv.dg.take p, C.c.cv9, by omega, by omega, by omega, by unfold Dj at *; omega, by unfold Dj at *; omega, fun _ _ => C.e0, fun _ _ => C.ev, ot', o0', ov', rcv_stk KW.st rtW (.inl (by omega))⟩).mono ?_
  rintro e w2 ⟨A', b', o', c', zs, q3, rfl, hn, hd, hz, hv, hpl, st2, le2, l2, hf, hfull⟩
  obtain ⟨rfl, rfl, rfl, rfl⟩ : A' = some ⟨bt, ot, none⟩ ∧ b' = bt ∧ o' = ot ∧ c' = n3 := by
    rcases hpl with h | h
    · exact h
    · omega
  rw [N.hq] at hv hfull
  have hzl : zs.length ≤ 2 * B := len_le (by omega) hd hz (by rw [hv]; exact hb)
  have hfm : Fc 77 (DrTS s q2 bz oz lz bu ou lu b0 o0 (B + 1) b' o' c') w w2 := KW.fc.trans hf (fun b i hh hlt => by
    rcases hh with hh | hh
    · exact .inl (.inl (KW.le.sub (Nat.le_of_eq KW.ll.symm) b i hh hlt))
    · exact .inr ⟨hh.1, hh.2.1, by have := hh.2.2; omega⟩)
  have hu2 : Wr 77 w2 bu ou Uc := KW.u.fc hf (fun j a1 a2 hh => by
    rw [KW.ul] at a2
    rcases hh with hh | hh
    · exact ou' j a1 a2 hh
    · exact C.dtu.symm.off j a1 a2 ⟨hh.1, hh.2.1, by have := hh.2.2; omega⟩)
  have hz2 : Wr 77 w2 bz oz Zc := KW.z.fc hf (fun j a1 a2 hh => by
    rw [KW.zl] at a2
    rcases hh with hh | hh
    · exact oz' j a1 a2 hh
    · exact C.dtz.symm.off j a1 a2 ⟨hh.1, hh.2.1, by have := hh.2.2; omega⟩)
  have hc2 : Wr 77 w2 b0 o0 Qc := KW.c.fc hf (fun j a1 a2 hh => by
    rw [KW.cl] at a2
    rcases hh with hh | hh
    · exact o0' j a1 a2 hh
    · exact dt0.symm.off j a1 a2 ⟨hh.1, hh.2.1, by have := hh.2.2; omega⟩)
  have mk : ∀ T2, Wr 77 w2 b' o' T2 → T2.length = c' → DG 18446744073709551616 T2 → DrM B lz lu s q2 bz oz bu ou b0 o0 b' o' c' w q3 Uc Zc Qc T2 w2 := fun T2 ht hl hd2 =>
    ⟨hfm, st2, KW.le.trans le2 KW.fc.size, l2.trans KW.ll, hu2, KW.ul, KW.ud, hz2, KW.zl, KW.zd, hc2, KW.cl, KW.cd, ht, hl, hd2⟩
  refine ⟨zs.length, rfl, hzl, q3, Uc, Zc, Qc, ?_⟩
  rcases hfull with ⟨hv0, hf0⟩ | ⟨Z, hZ, hZl, hZd, hZv⟩
  · have hzs : zs = [] := by
      rcases hz with h | h
      · exact h
      · by_cases e : zs = []
        · exact e
        · exfalso
          have := val_pos (by omega) hd (.inr h) e
          have := pow_pos_ (B := 18446744073709551616) (by omega) (zs.length - 1)
          omega
    have hT2 : Wr 77 w2 b' o' T := KW.t.fc hf0 (fun j a1 a2 => ot' j a1 (by omega))
    refine ⟨T, mk T hT2 htl KW.td, N.hlo, N.hR, N.hz, N.ht.trans hv0.symm, ?_, N.hq, fun _ => .inl ?_⟩
    · rw [hzs, List.length_nil, List.take_zero, val_nil, hv0]
    · rw [hzs, List.length_nil, List.take_zero]; exact NZ.nil
  · have hsp : Wr 77 w2 b' o' (spl T 0 Z) := KW.t.upd2 (i := 0) hZ hf (fun j a1 a2 a3 hh => by
      rw [htl] at a2
      rcases hh with hh | hh
      · exact ot' j a1 a2 hh
      · exact a3 ⟨by omega, by have := hh.2.2; omega⟩) (by omega)
    have hval : val 18446744073709551616 (spl T 0 Z) = qq * val 18446744073709551616 (V.take p) := by
      rw [val_spl (by omega), hZv, N.ht, List.drop_zero, hT0, List.take_replicate, val_rep]
      omega
    have hle := hn.le
    have htk : (spl T 0 Z).take zs.length = zs := by
      by_cases h0 : zs.length = 0
      · rw [h0, List.take_zero]; exact (List.eq_nil_of_length_eq_zero h0).symm
      · refine src_eq ((hsp.take zs.length (by rw [spl_len (by omega)]; omega)).src) (hn.2.2 (by omega)) (by rw [List.length_take, spl_len (by omega)]; omega)
    exact ⟨spl T 0 Z, mk _ hsp (by rw [spl_len (by omega), htl]) (spl_dg KW.td hZd), N.hlo, N.hR, N.hz, hval, by rw [htk, hv], N.hq, fun _ => .inl (by rw [htk]; exact hz)⟩
/-- the product against the section -/
theorem dr_cmp (C : DrT n B p lz lu s q2 bz oz cz bu ou cu bv ov cv b0 o0 bt ot n3 V w) {a l lq : Nat} {lo R zv tq qq : Int} (K : DrV n B lz lu s q2 bz oz bu ou b0 o0 bt ot n3 w a l lq lo R zv tq qq true w') (hl : l ≤ n3) {oa la ca : Nat} (e1 : oa = ou + a) (e2 : la = lu - a) (ha : a ≤ lu) (hla : la ≤ ca) (hca : ca ≤ 4611686018427387904) :
    ∃ i, (∀ W, Fr [] w' W → Calls Tryd.prog 88 #[.slice (some ⟨bu, oa, none⟩) la ca] W fun e w2 => e = .returned (.slice (some ⟨bu, oa, none⟩) i ca) ∧ W = w2) ∧ ∀ W, Fr [] w' W → Calls Tryd.prog 80 #[.slice (some ⟨bt, ot, none⟩) l n3, .slice (some ⟨bu, oa, none⟩) i ca] W fun e w2 => e = .returned (.int .i64 (cmpI tq R)) ∧ Fr [] W w2 := by
  obtain ⟨q', Uc, Zc, Qc, T, K, N⟩ := K
  obtain ⟨i, hi⟩ := cut_at (Uc.drop a)
  have hul := K.ul
  have htl := K.tl
  have n40 := C.c.n40
  have few := C.c.few
  have h3 := C.h3
  have hdl : (Uc.drop a).length = la := by rw [List.length_drop]; omega
  obtain ⟨c1, c2, c3, c4⟩ := cut_facts (K.ud.drop a) hi
  have hil : i ≤ la := by have := hi.1; omega
  refine ⟨i, fun W fW => ?_, fun W fW => ?_⟩
  · have := normD_any bu oa ca i (Uc.drop a) W (by rw [e1]; exact ((K.u.fr0 fW).drop a (by omega)).src) (by omega) (by unfold maxLen; omega) hi
    rwa [hdl] at this
  · have hT : Sl .u64 W (.slice (some ⟨bt, ot, none⟩) l n3) (T.take l) := by
      have e : (T.take l).length = l := by rw [List.length_take]; omega
      exact ⟨_, n3, by rw [e], by omega, by unfold maxLen; omega, fun _ => ⟨bt, ot, rfl, (K.t.fr0 fW).lt, ((K.t.fr0 fW).take l (by omega)).src⟩⟩
    have hU : Sl .u64 W (.slice (some ⟨bu, oa, none⟩) i ca) ((Uc.drop a).take i) := by
      refine ⟨_, ca, by rw [c1], by omega, by unfold maxLen; omega, fun _ => ⟨bu, oa, rfl, (K.u.fr0 fW).lt, ?_⟩⟩
      rw [e1]
      exact ((K.u.fr0 fW).sub a i (by omega)).src
    have := bcmp_gen _ _ (T.take l) ((Uc.drop a).take i) W hT hU (K.td.take l) c2 (lt_of_shorter (by omega) (K.td.take l) c2 c3) (fun hlt => by
      rcases N.hnz rfl with hz | ⟨hz1, hz2⟩
      · exact lt_of_shorter (by omega) c2 (K.td.take l) hz hlt
      · exfalso
        rw [c1, List.length_take, htl] at hlt
        have b1 := val_lt_of_len (B := 18446744073709551616) (by omega) c2 (k := n - 1) (by omega)
        rw [c4, N.hR] at b1
        omega)
    rw [c4, N.hR, N.htt] at this
    exact this
set_option maxRecDepth 100000 in
/-- one less of the guess -/
theorem dr_dec (C : DrT n B p lz lu s q2 bz oz cz bu ou cu bv ov cv b0 o0 bt ot n3 V w) {a l lq : Nat} {lo R zv tq qq : Int} {f : Bool} (K : DrV n B lz lu s q2 bz oz bu ou b0 o0 bt ot n3 w a l lq lo R zv tq qq f w') (hlq : lq ≤ B + 1) (hq : 1 ≤ qq) (W : World) (fW : Fr [] w' W) :
    Calls Tryd.prog 133 #[.slice (some ⟨b0, o0, none⟩) lq (B + 1 : Nat), .slice (some ⟨b0, o0, none⟩) lq (B + 1 : Nat), .int .u64 1] W fun e w2 => (∃ c, e = .returned (.int .u64 c)) ∧ DrV n B lz lu s q2 bz oz bu ou b0 o0 bt ot n3 w a l lq lo R zv tq (qq - 1) f w2 := by
  obtain ⟨q', Uc, Zc, Qc, T, K, N⟩ := K
  have KW := K.fr0 fW
  have hcl := K.cl
  have few := C.c.few
  have hB := C.c.hB
  have hql : (Qc.take lq).length = lq := by rw [List.length_take]; omega
  have hq0 : 0 < lq := by
    rcases Nat.eq_zero_or_pos lq with h | h
    · subst h
      have := N.hq
      rw [List.take_zero, val_nil] at this
      omega
    · exact h
  refine (subVWw_any b0 o0 (B + 1) b0 o0 (B + 1) lq (Qc.take lq) (Qc.take lq) 1 W (KW.c.take lq (by omega)) hql hql (KW.c.take lq (by omega)) (K.cd.take lq) (.inr ⟨rfl, rfl⟩) hq0 (by omega) hlq hlq (by unfold maxLen; omega) (by unfold maxLen; omega) (by omega) (by omega)).mono ?_
  rintro e w2 ⟨zs, c, rfl, h1, h2, h3, h4, h5, h6, h7⟩
  rw [N.hq] at h7
  have hc : c = 0 := by
    rcases (by omega : c = 0 ∨ c = 1) with h | h
    · exact h
    · exfalso
      subst h
      have := val_lt_of_len (B := 18446744073709551616) (by omega) h4 (k := lq) (by omega)
      omega
  subst hc
  rw [Int.mul_zero, Int.add_zero] at h7
  have M := DrM.wc C KW (x := 0) h1 (by rw [h3]; exact h2) (by omega) h4
  refine ⟨⟨_, rfl⟩, q', Uc, Zc, _, T, M, N.hlo, N.hR, N.hz, N.ht, N.htt, ?_, N.hnz⟩
  rw [show lq = zs.length from h3.symm, spl_take_in (by omega)]
  omega
end
end Go.Proofs.YtknokndpeneogaaDoor
