/-
  divRecursiveStep, the great case, no walk: what holds between its calls, and what each call does. Conditions: those of its contract.
-/
import Derived.Test.YtknokndpeneogaaDoorDrA
set_option linter.unusedSimpArgs false
set_option linter.unusedVariables false
namespace Go.Big
theorem spl_take_lo {L zs : List Int} {a o : Nat} (h : a ≤ o) (ho : o ≤ L.length) : (spl L o zs).take a = L.take a := by
  unfold spl
  rw [List.take_append_of_le_length (by rw [List.length_take]; omega), List.take_take, Nat.min_eq_left h]
theorem spl_drop_lo {L zs : List Int} {a o : Nat} (h : a ≤ o) (ho : o ≤ L.length) : (spl L o zs).drop a = spl (L.drop a) (o - a) zs := by
  unfold spl
  rw [List.drop_append_of_le_length (by rw [List.length_take]; omega), List.drop_take, List.drop_drop, show a + (o - a + zs.length) = o + zs.length by omega]
theorem spl_take_in {L zs : List Int} (h : zs.length ≤ L.length) : (spl L 0 zs).take zs.length = zs := by
  unfold spl
  simp
theorem val_drop_split {xs : List Int} {a p : Nat} (h : a + p ≤ xs.length) : val 18446744073709551616 (xs.drop a) = val 18446744073709551616 ((xs.drop a).take p) + 18446744073709551616 ^ p * val 18446744073709551616 (xs.drop (a + p)) := by
  rw [val_split 18446744073709551616 (xs.drop a) p (by rw [List.length_drop]; omega), List.drop_drop]
theorem src_eq {k : IntKind} {w : World} {b o : Nat} {xs ys : List Int} (h : Src k w b o xs) (h' : Src k w b o ys) (hl : xs.length = ys.length) : xs = ys := by
  apply List.ext_getElem hl
  intro i h1 h2
  have e1 := h i h1
  have e2 := h' i h2
  rw [e1] at e2
  injection e2 with e2
  injection e2 with e2 e3
  rwa [getD_in h1, getD_in h2] at e3
end Go.Big
namespace Go.Proofs.YtknokndpeneogaaDoor
open Go.Big Go.RowKit
theorem st_in1 {w w2 : World} {s b o x k : Nat} {q : Option StkSt} {xs : List Int} (st : StkAt w s q) (h : Wr 77 w b o xs) (hf : Fc 77 (In1 b x k) w w2) : StkAt w2 s q := by
  obtain ⟨_, L, hL, _⟩ := h
  exact st.fc hf (fun i hh => st.row_ne hL hh.1.symm) (fun p hp i hh => by subst hp; exact st.2.row_ne hL hh.1.symm)
def DrS (s : Nat) (q : Option StkSt) (bz oz lz bu ou lu b0 o0 c0 b i : Nat) : Prop := StS s q b i ∨ In1 bz oz lz b i ∨ In1 bu ou lu b i ∨ In1 b0 o0 c0 b i
/-- what holds when the guess's words stand ready -/
structure DrC (n B p lz lu s : Nat) (q1 : Option StkSt) (bz oz cz bu ou cu bv ov cv b0 o0 : Nat) (V : List Int) (w : World) : Prop where
  n40 : 40 ≤ n
  few : n ≤ 900
  hB : B = n / 2
  hp : p + 1 = B
  lz9 : lz ≤ 100000
  lu9 : lu ≤ 100000
  cz1 : lz ≤ cz
  cz9 : cz ≤ 4611686018427387904
  cu1 : lu ≤ cu
  cu9 : cu ≤ 4611686018427387904
  cv1 : n ≤ cv
  cv9 : cv ≤ 4611686018427387904
  thr : Glo w 2 40
  td : Glo w 3 40
  st : StkAt w s q1
  len : lenS q1 + 9000 * (n + 1) ≤ 100000000000
  v : Nm w (some ⟨bv, ov, none⟩) bv ov cv V
  kv : KnV n V
  r0 : Rcv w (some ⟨b0, o0, none⟩) b0 o0 (B + 1)
  zr : ∃ Z, Wr 77 w bz oz Z ∧ Z.length = lz
  ur : ∃ U, Wr 77 w bu ou U ∧ U.length = lu
  dvu : Dj bv ov n bu ou lu
  dzu : Dj bz oz lz bu ou lu
  dvz : Dj bv ov n bz oz lz
  d0u : Dj b0 o0 (B + 1) bu ou lu
  d0z : Dj b0 o0 (B + 1) bz oz lz
  d0v : Dj b0 o0 (B + 1) bv ov n
  oz_ : Off (StS s q1) bz oz lz
  ou_ : Off (StS s q1) bu ou lu
  ov_ : Off (StS s q1) bv ov cv
  o0_ : Off (StS s q1) b0 o0 (B + 1)
/-- a world of the walk, told from the guess's making on -/
structure DrW (B lz lu s : Nat) (q1 : Option StkSt) (bz oz bu ou b0 o0 : Nat) (w : World) (q' : Option StkSt) (Uc Zc Qc : List Int) (w' : World) : Prop where
  fc : Fc 77 (DrS s q1 bz oz lz bu ou lu b0 o0 (B + 1)) w w'
  st : StkAt w' s q'
  le : StkLe w.heap.size q1 q'
  ll : lenS q' = lenS q1
  u : Wr 77 w' bu ou Uc
  ul : Uc.length = lu
  ud : DG 18446744073709551616 Uc
  z : Wr 77 w' bz oz Zc
  zl : Zc.length = lz
  zd : DG 18446744073709551616 Zc
  c : Wr 77 w' b0 o0 Qc
  cl : Qc.length = B + 1
  cd : DG 18446744073709551616 Qc
section
variable {n B p lz lu s : Nat} {q1 : Option StkSt} {bz oz cz bu ou cu bv ov cv b0 o0 : Nat} {V : List Int} {w : World}
theorem DrC.gn (C : DrC n B p lz lu s q1 bz oz cz bu ou cu bv ov cv b0 o0 V w) {g : Nat} {v : Int} (hg : Glo w g v) : ¬ DrS s q1 bz oz lz bu ou lu b0 o0 (B + 1) g 0 := by
  obtain ⟨Z, hZ, _⟩ := C.zr
  obtain ⟨U, hU, _⟩ := C.ur
  obtain ⟨_, LZ, hLZ, _⟩ := hZ
  obtain ⟨_, LU, hLU, _⟩ := hU
  rintro (e | e | e | e)
  · exact glo_stk hg C.st 0 e
  · exact hg.row_ne hLZ e.1
  · exact hg.row_ne hLU e.1
  · exact glo_rcv hg C.r0 (by omega) e.1
theorem DrC.von (C : DrC n B p lz lu s q1 bz oz cz bu ou cu bv ov cv b0 o0 V w) : Off (DrS s q1 bz oz lz bu ou lu b0 o0 (B + 1)) bv ov V.length := by
  have hl := C.kv.len
  have hc := C.cv1
  rintro i h1 h2 (e | e | e | e)
  · exact C.ov_ i h1 (by omega) e
  · exact C.dvz.off i h1 (by omega) e
  · exact C.dvu.off i h1 (by omega) e
  · exact C.d0v.symm.off i h1 (by omega) e
theorem DrC.offs (C : DrC n B p lz lu s q1 bz oz cz bu ou cu bv ov cv b0 o0 V w) {q' : Option StkSt} (le : StkLe w.heap.size q1 q') (ll : lenS q' = lenS q1) : Off (StS s q') bz oz lz ∧ Off (StS s q') bu ou lu ∧ Off (StS s q') bv ov cv ∧ Off (StS s q') b0 o0 (B + 1) := by
  obtain ⟨Z, hZ, _⟩ := C.zr
  obtain ⟨U, hU, _⟩ := C.ur
  exact ⟨off_le le (Nat.le_of_eq ll.symm) C.oz_ hZ.lt, off_le le (Nat.le_of_eq ll.symm) C.ou_ hU.lt, off_le le (Nat.le_of_eq ll.symm) C.ov_ (C.v.lt (by rw [C.kv.len]; have := C.n40; omega)), off_le le (Nat.le_of_eq ll.symm) C.o0_ (C.r0.lt (by omega))⟩
theorem nm_drop {A : Option Addr} {b o c i : Nat} {xs : List Int} (h : Nm w A b o c xs) (hi : i < xs.length) : Nm w (some ⟨b, o + i, none⟩) b (o + i) (c - i) (xs.drop i) :=
  ⟨by rw [List.length_drop]; have := h.le; omega, h.rcv.drop (by have := h.le; omega), fun _ => (h.2.2 (by omega)).drop i⟩
set_option maxRecDepth 100000 in
/-- the guess, by the upper parts -/
theorem dr_rec (D : DrOK (n - p)) (C : DrC n B p lz lu s q1 bz oz cz bu ou cu bv ov cv b0 o0 V w) {q' : Option StkSt} {Uc Zc : List Int} {w' : World} (K : DrW B lz lu s q1 bz oz bu ou b0 o0 w q' Uc Zc (List.replicate (B + 1) 0) w') {a x ox lx cx : Nat} (d : Int) (hx : x = a + p) (hox : ox = ou + x) (hlx : x + lx ≤ lu) (hcx : lx ≤ cx) (hcx9 : cx ≤ 4611686018427387904)
    (hv : val 18446744073709551616 ((Uc.drop x).take lx) = val 18446744073709551616 (Uc.drop x)) (hfit : val 18446744073709551616 (Uc.drop x) < 9223372036854775808 * 18446744073709551616 ^ (n - p + B)) (W : World) (fW : Fr [] w' W) :
    Calls Tryd.prog 109 #[.slice (some ⟨b0, o0, none⟩) (B + 1 : Nat) (B + 1 : Nat), .pointer (some ⟨s, 0, none⟩), .slice (some ⟨bu, ox, none⟩) lx cx, .slice (some ⟨bv, ov + p, none⟩) (n - p : Nat) (cv - p : Nat), .int .i64 d] W fun e w2 => e = .returned (.tuple #[]) ∧
      ∃ q2 Uc2 Qc, DrW B lz lu s q1 bz oz bu ou b0 o0 w q2 Uc2 Zc Qc w2 ∧ val 18446744073709551616 Qc = val 18446744073709551616 (Uc.drop x) / val 18446744073709551616 (V.drop p) ∧ val 18446744073709551616 (Uc2.take a) = val 18446744073709551616 (Uc.take a) ∧
        val 18446744073709551616 (Uc2.drop a) = val 18446744073709551616 ((Uc.drop a).take p) + 18446744073709551616 ^ p * (val 18446744073709551616 (Uc.drop x) % val 18446744073709551616 (V.drop p)) := by
  have n40 := C.n40
  have few := C.few
  have hB := C.hB
  have hp := C.hp
  have cv1 := C.cv1
  have cv9 := C.cv9
  have hlen := C.len
  have hll := K.ll
  have hvl := C.kv.len
  have hul := K.ul
  have lu9 := C.lu9
  have dvu := C.dvu
  have d0u := C.d0u
  have d0v := C.d0v
  obtain ⟨oz', ou', ov', o0'⟩ := C.offs K.le K.ll
  have hsz := K.fc.size
  have vW := (C.v.fc K.fc C.von).fr0 fW
  have hlt : ((Uc.drop x).take lx).length = lx := by rw [List.length_take, List.length_drop]; omega
  refine (D lx (B + 1) s q' b0 o0 (B + 1) bu ox cx bv (ov + p) (cv - p) ((Uc.drop x).take lx) (V.drop p) d W ⟨K.st.fr0 fW, by omega, (C.thr.fc K.fc (C.gn C.thr)).fr0 fW, (C.td.fc K.fc (C.gn C.td)).fr0 fW, K.c.fr0 fW, by rw [hox]; exact (K.u.sub x lx (by omega)).fr0 fW, hlt, (K.ud.drop x).take lx, nm_drop vW (by omega), C.kv.drop (by omega), by rw [hv, show n - p + (B + 1) - 1 = n - p + B by omega]; exact hfit, by omega, by omega, by omega, Nat.le_refl _, by omega, hcx, hcx9, by omega, by unfold Dj at *; omega, by unfold Dj at *; omega, by unfold Dj at *; omega, o0', fun j a1 a2 hh => ou' j (by omega) (by omega) hh, fun j a1 a2 hh => ov' j (by omega) (by omega) hh⟩).mono ?_
  rintro e w2 ⟨q2, Qc, U', rfl, g1, g2, g3, g4, g5, g6, g7, g8, g9, g10, g11, g12⟩
  rw [hv] at g7 g11
  have hf : Fc 77 (fun b i => StS s q' b i ∨ In1 b0 o0 (B + 1) b i ∨ In1 bu ox lx b i) w' w2 := (Fc.fr0 fW _ _).t g12
  have hlu : x + U'.length ≤ Uc.length := by omega
  have hU : Wr 77 w2 bu ou (spl Uc x U') := K.u.upd2 (by rw [← hox]; exact g8) hf (fun j a1 a2 a3 hh => by
    rcases hh with hh | hh | hh
    · exact ou' j a1 (by omega) hh
    · exact d0u.symm.off j a1 (by omega) hh
    · exact a3 ⟨by have := hh.2.1; omega, by have := hh.2.2; omega⟩) hlu
  have hZ : Wr 77 w2 bz oz Zc := K.z.fc hf (fun j a1 a2 hh => by
    rw [K.zl] at a2
    rcases hh with hh | hh | hh
    · exact oz' j a1 a2 hh
    · exact C.d0z.symm.off j a1 a2 hh
    · exact C.dzu.off j a1 a2 ⟨hh.1, by have := hh.2.1; omega, by have := hh.2.2; omega⟩)
  refine ⟨rfl, q2, spl Uc x U', Qc, ⟨K.fc.trans hf (fun b i hh hlt => ?_), g1, K.le.trans (g2.le (Nat.le_trans hsz fW.size)) (Nat.le_refl _), g3.trans K.ll, hU, by rw [spl_len hlu, hul], spl_dg K.ud g10, hZ, K.zl, K.zd, g4, g5, g6⟩, g7, by rw [spl_take_lo (by omega) (by omega)], ?_⟩
  · rcases hh with hh | hh | hh
    · exact .inl (K.le.sub (Nat.le_of_eq K.ll.symm) b i hh hlt)
    · exact .inr (.inr (.inr hh))
    · exact .inr (.inr (.inl ⟨hh.1, by have := hh.2.1; omega, by have := hh.2.2; omega⟩))
  · rw [spl_drop_lo (by omega) (by omega), val_spl (by rw [List.length_drop]; omega), List.drop_drop, show a + (x - a) = x by omega, g9, hv, g11, show x - a = p by omega, val_drop_split (a := a) (p := p) (by omega), ← hx]
    generalize val 18446744073709551616 ((Uc.drop a).take p) = X1
    generalize val 18446744073709551616 (Uc.drop x) = X2
    generalize (18446744073709551616 : Int) ^ p = X3
    generalize X2 % val 18446744073709551616 (V.drop p) = X4
    grind
/-- what holds when the product's words stand ready too -/
structure DrT (n B p lz lu s : Nat) (q2 : Option StkSt) (bz oz cz bu ou cu bv ov cv b0 o0 bt ot n3 : Nat) (V : List Int) (w : World) : Prop where
  c : DrC n B p lz lu s q2 bz oz cz bu ou cu bv ov cv b0 o0 V w
  h3 : n3 = 3 * n
  rt : Rcv w (some ⟨bt, ot, none⟩) bt ot n3
  dtu : Dj bt ot n3 bu ou lu
  dtz : Dj bt ot n3 bz oz lz
  dtv : Dj bt ot n3 bv ov n
  dt0 : Dj bt ot n3 b0 o0 (B + 1)
  e0 : bt ≠ b0 ∨ ot + n3 ≠ o0 + (B + 1)
  ev : bt ≠ bv ∨ ot + n3 ≠ ov + cv
  ot_ : Off (StS s q2) bt ot n3
end
end Go.Proofs.YtknokndpeneogaaDoor
