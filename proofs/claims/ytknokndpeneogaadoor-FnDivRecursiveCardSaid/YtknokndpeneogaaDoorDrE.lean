/-
  divRecursiveStep, the great case: the mending, the subtraction, the target, the stack, no walk. Conditions: those of its contract.
-/
import Derived.Test.YtknokndpeneogaaDoorDrD
set_option linter.unusedSimpArgs false
set_option linter.unusedVariables false
namespace Go.Big
theorem spl_drop_hi {L zs : List Int} {o l : Nat} (h : o + zs.length ≤ l) (ho : o ≤ L.length) : (spl L o zs).drop l = L.drop l := by
  unfold spl
  have e : (L.take o).length = o := by rw [List.length_take]; omega
  rw [List.drop_append, List.drop_eq_nil_of_le (by rw [e]; omega), List.nil_append, e, List.drop_append, List.drop_eq_nil_of_le (by omega), List.nil_append, List.drop_drop]
  congr 1; omega
theorem take_full {xs : List Int} {l : Nat} {v : Int} (hl : l ≤ xs.length) (h : val 18446744073709551616 (xs.drop l) = 0) (hv : val 18446744073709551616 xs = v) : val 18446744073709551616 (xs.take l) = v := by
  have := val_split 18446744073709551616 xs l hl
  rw [h, Int.mul_zero] at this
  omega
theorem drop_zero_of {xs : List Int} {l : Nat} (hl : l ≤ xs.length) (h : val 18446744073709551616 (xs.take l) = val 18446744073709551616 xs) : val 18446744073709551616 (xs.drop l) = 0 := by
  have := val_split 18446744073709551616 xs l hl
  have hp := pow_pos_ (B := 18446744073709551616) (by omega) l
  have h0 : (18446744073709551616 : Int) ^ l * val 18446744073709551616 (xs.drop l) = 0 := by omega
  rcases Int.mul_eq_zero.1 h0 with h1 | h1
  · omega
  · exact h1
end Go.Big
namespace Go.Proofs.YtknokndpeneogaaDoor
open Go.Big Go.RowKit
section
variable {n B p lz lu s : Nat} {q2 q' : Option StkSt} {bz oz cz bu ou cu bv ov cv b0 o0 bt ot n3 : Nat} {V Uc Zc Qc T : List Int} {w w' w2 : World}
set_option maxRecDepth 100000 in
/-- the divisor's lower part off the product -/
theorem dr_sub1 (C : DrT n B p lz lu s q2 bz oz cz bu ou cu bv ov cv b0 o0 bt ot n3 V w) {a l lq : Nat} {lo R zv tq qq : Int} {f : Bool} (K : DrV n B lz lu s q2 bz oz bu ou b0 o0 bt ot n3 w a l lq lo R zv tq qq f w') (hl : l ≤ 2 * B) (ht : val 18446744073709551616 (V.take p) ≤ tq) (W : World) (fW : Fr [] w' W) :
    Calls Tryd.prog 134 #[.slice (some ⟨bt, ot, none⟩) p n3, .slice (some ⟨bt, ot, none⟩) p n3, .slice (some ⟨bv, ov, none⟩) p cv] W fun e w2 => ∃ c, e = .returned (.int .u64 c) ∧ 0 ≤ c ∧ c ≤ 1 ∧ (l ≤ p → c = 0) ∧ DrV n B lz lu s q2 bz oz bu ou b0 o0 bt ot n3 w a l lq lo R zv (tq - val 18446744073709551616 (V.take p) + 18446744073709551616 ^ p * c) qq false w2 := by
  obtain ⟨q', Uc, Zc, Qc, T, K, N⟩ := K
  have KW := K.fr0 fW
  have htl := K.tl
  have few := C.c.few
  have n40 := C.c.n40
  have hB := C.c.hB
  have hp := C.c.hp
  have h3 := C.h3
  have hvl := C.c.kv.len
  have dtv := C.dtv
  have vW := C.v' KW
  have htp : (T.take p).length = p := by rw [List.length_take]; omega
  have hvp : (V.take p).length = p := by rw [List.length_take]; omega
  refine (subVVw_any bt ot n3 bt ot n3 bv ov cv p (T.take p) (T.take p) (V.take p) W (KW.t.take p (by omega)) htp htp (KW.t.take p (by omega)).src (K.td.take p) (.inr ⟨rfl, Nat.le_refl _⟩) hvp ((vW.2.2 (by omega)).take p) (C.c.kv.dg.take p) (.inl (by unfold Dj at *; omega)) (by omega)).mono ?_
  rintro e w2 ⟨us, c, rfl, h1, h2, h3', h4, h5, h6, h7⟩
  have M := DrM.wt C KW (x := 0) h1 (by rw [h3']; exact h2) (by omega) h4
  have hval : val 18446744073709551616 (spl T 0 us) = tq - val 18446744073709551616 (V.take p) + 18446744073709551616 ^ p * c := by
    rw [val_spl (by omega), h3', List.drop_zero, Int.pow_zero, Int.one_mul, N.ht]
    omega
  have hTd := drop_zero_of (xs := T) (l := l) (by omega) (N.htt.trans N.ht.symm)
  have hc0 : l ≤ p → c = 0 := fun hlp => by
    have hp0 := drop_zero_of (xs := T) (l := p) (by omega) (by
      refine take_full (by omega) ?_ rfl
      have : T.drop p = (T.drop l).drop (p - l) := by rw [List.drop_drop]; congr 1; omega
      rw [this]
      have hs := val_split 18446744073709551616 (T.drop l) (p - l) (by rw [List.length_drop]; omega)
      rw [hTd] at hs
      have b1 := val_nonneg (B := 18446744073709551616) (by omega) ((K.td.drop l).take (p - l))
      have b2 := val_nonneg (B := 18446744073709551616) (by omega) ((K.td.drop l).drop (p - l))
      have hpp := pow_pos_ (B := 18446744073709551616) (by omega) (p - l)
      have b3 := Int.mul_nonneg (Int.le_of_lt hpp) b2
      have b4 : (18446744073709551616 : Int) ^ (p - l) * val 18446744073709551616 ((T.drop l).drop (p - l)) = 0 := by omega
      rcases Int.mul_eq_zero.1 b4 with h | h
      · omega
      · exact h)
    have hpv := take_full (xs := T) (l := p) (by omega) hp0 N.ht
    rw [hpv] at h7
    rcases (by omega : c = 0 ∨ c = 1) with h | h
    · exact h
    · exfalso
      subst h
      have := val_lt_of_len (B := 18446744073709551616) (by omega) h4 (k := p) (by omega)
      omega
  refine ⟨c, rfl, h5, h6, hc0, q', Uc, Zc, Qc, _, M, N.hlo, N.hR, N.hz, hval, ?_, N.hq, fun hh => by cases hh⟩
  by_cases hlp : l ≤ p
  · have e := hc0 hlp
    rw [← hval]
    have v0 := val_nonneg (B := 18446744073709551616) (by omega) (C.c.kv.dg.take p)
    have tlt := val_lt_of_len (B := 18446744073709551616) (by omega) (K.td.take l) (k := l) (by rw [List.length_take]; omega)
    rw [N.htt] at tlt
    refine (val_take_all (by omega) (spl_dg K.td h4) ?_).1
    rw [hval, e]
    omega
  · refine take_full (by rw [spl_len (by omega)]; omega) ?_ hval
    rw [spl_drop_hi (by omega) (by omega), hTd]
set_option maxRecDepth 100000 in
theorem dr_sub2 (C : DrT n B p lz lu s q2 bz oz cz bu ou cu bv ov cv b0 o0 bt ot n3 V w) {a l lq : Nat} {lo R zv t' qq c : Int} {f : Bool} (K : DrV n B lz lu s q2 bz oz bu ou b0 o0 bt ot n3 w a l lq lo R zv (t' + 18446744073709551616 ^ p * c) qq f w') (hl : l ≤ 2 * B) (hpl : p < l) (h0 : 0 ≤ t') (hc0 : 0 ≤ c) (hc1 : c ≤ 1) (W : World) (fW : Fr [] w' W) :
    Calls Tryd.prog 133 #[.slice (some ⟨bt, ot + p, none⟩) (l - p : Nat) (n3 - p : Nat), .slice (some ⟨bt, ot + p, none⟩) (l - p : Nat) (n3 - p : Nat), .int .u64 c] W fun e w2 => (∃ c', e = .returned (.int .u64 c')) ∧ DrV n B lz lu s q2 bz oz bu ou b0 o0 bt ot n3 w a l lq lo R zv t' qq false w2 := by
  obtain ⟨q', Uc, Zc, Qc, T, K, N⟩ := K
  have KW := K.fr0 fW
  have htl := K.tl
  have few := C.c.few
  have n40 := C.c.n40
  have hB := C.c.hB
  have h3 := C.h3
  have hxl : ((T.drop p).take (l - p)).length = l - p := by rw [List.length_take, List.length_drop]; omega
  have wx := KW.t.sub p (l - p) (by omega)
  refine (subVWw_any bt (ot + p) (n3 - p) bt (ot + p) (n3 - p) (l - p) _ _ c W wx hxl hxl wx ((K.td.drop p).take _) (.inr ⟨rfl, rfl⟩) (by omega) (by omega) (by omega) (by omega) (by unfold maxLen; omega) (by unfold maxLen; omega) hc0 (by omega)).mono ?_
  rintro e w2 ⟨us, c2, rfl, h1, h2, h3', h4, h5, h6, h7⟩
  have M := DrM.wt C KW (x := p) h1 (by rw [h3']; exact h2) (by omega) h4
  have hTd := drop_zero_of (xs := T) (l := l) (by omega) (N.htt.trans N.ht.symm)
  have hval : val 18446744073709551616 (spl T p us) = t' + 18446744073709551616 ^ l * c2 := by
    rw [val_spl (by omega), h3', N.ht]
    have e2 : (18446744073709551616 : Int) ^ l = 18446744073709551616 ^ p * 18446744073709551616 ^ (l - p) := by rw [← Int.pow_add]; congr 1; omega
    rw [e2]
    generalize val 18446744073709551616 us = X1 at *
    generalize val 18446744073709551616 ((T.drop p).take (l - p)) = X2 at *
    generalize (18446744073709551616 : Int) ^ (l - p) = X3 at *
    generalize (18446744073709551616 : Int) ^ p = X4 at *
    have : X1 = X2 + X3 * c2 - c := by omega
    subst this
    grind
  have hd2 : val 18446744073709551616 ((spl T p us).drop l) = 0 := by rw [spl_drop_hi (by omega) (by omega), hTd]
  have htk := take_full (xs := spl T p us) (l := l) (by rw [spl_len (by omega)]; omega) hd2 hval
  have hlt := val_lt_of_len (B := 18446744073709551616) (by omega) ((spl_dg (o := p) K.td h4).take l) (k := l) (by rw [List.length_take]; omega)
  have hc2 : c2 = 0 := by
    rcases (by omega : c2 = 0 ∨ c2 = 1) with h | h
    · exact h
    · exfalso
      subst h
      rw [htk] at hlt
      omega
  subst hc2
  rw [Int.mul_zero, Int.add_zero] at hval htk
  exact ⟨⟨_, rfl⟩, q', Uc, Zc, Qc, _, M, N.hlo, N.hR, N.hz, hval, htk, N.hq, fun hh => by cases hh⟩
set_option maxRecDepth 100000 in
/-- the divisor's upper part onto the section -/
theorem dr_addu (C : DrT n B p lz lu s q2 bz oz cz bu ou cu bv ov cv b0 o0 bt ot n3 V w) {a l lq : Nat} {lo R zv tq qq : Int} {f : Bool} (K : DrV n B lz lu s q2 bz oz bu ou b0 o0 bt ot n3 w a l lq lo R zv tq qq f w') (hl : l ≤ n) {ox lx cx : Nat} (hox : ox = ou + (a + p)) (hlx : lx = lu - a - p) (ha : a + n ≤ lu) (hcx : lx ≤ cx) (hcx9 : cx ≤ 4611686018427387904)
    (hR : R + 18446744073709551616 ^ p * val 18446744073709551616 (V.drop p) < 18446744073709551616 ^ (lu - a)) (W : World) (fW : Fr [] w' W) :
    Calls Tryd.prog 102 #[.slice (some ⟨bu, ox, none⟩) lx cx, .slice (some ⟨bv, ov + p, none⟩) (n - p : Nat) (cv - p : Nat)] W fun e w2 => e = .returned (.tuple #[]) ∧ DrV n B lz lu s q2 bz oz bu ou b0 o0 bt ot n3 w a l lq lo (R + 18446744073709551616 ^ p * val 18446744073709551616 (V.drop p)) zv tq qq true w2 := by
  obtain ⟨q', Uc, Zc, Qc, T, K, N⟩ := K
  have KW := K.fr0 fW
  have hul := K.ul
  have few := C.c.few
  have n40 := C.c.n40
  have hB := C.c.hB
  have hp := C.c.hp
  have lu9 := C.c.lu9
  have hvl := C.c.kv.len
  have dvu := C.c.dvu
  have vW := nm_drop (C.v' KW) (i := p) (by omega)
  have hdl : (Uc.drop (a + p)).length = lx := by rw [List.length_drop]; omega
  have hvd : (V.drop p).length = n - p := by rw [List.length_drop]; omega
  have wx := KW.u.drop (a + p) (by omega)
  rw [← hox] at wx
  refine (addTo_any bu ox cx lx _ bv (ov + p) (cv - p) (n - p) (Uc.drop (a + p)) (V.drop p) W wx hdl (K.ud.drop _) vW (C.c.kv.dg.drop p) hvd (by omega) (by omega) hcx (by unfold maxLen; omega) (fun _ => by unfold Dj at *; omega)).mono ?_
  rintro e w2 ⟨us, c, rfl, h1, h2, h3', h4, h5, h6, h7⟩
  rw [hox] at h1 h4
  have M := DrM.wu C KW (x := a + p) h1 (by rw [h2]; exact h4) (by omega) h3'
  have hval : val 18446744073709551616 ((spl Uc (a + p) us).drop a) = R + 18446744073709551616 ^ p * val 18446744073709551616 (V.drop p) - 18446744073709551616 ^ (lu - a) * c := by
    rw [spl_drop_lo (by omega) (by omega), val_spl (by rw [List.length_drop]; omega), List.drop_drop, N.hR, h2, show a + p - a = p by omega, List.take_of_length_le (by rw [hdl]; omega)]
    have e2 : (18446744073709551616 : Int) ^ (lu - a) = 18446744073709551616 ^ p * 18446744073709551616 ^ lx := by rw [← Int.pow_add]; congr 1; omega
    rw [e2]
    generalize val 18446744073709551616 us = X1 at *
    generalize val 18446744073709551616 (Uc.drop (a + p)) = X2 at *
    generalize (18446744073709551616 : Int) ^ lx = X3 at *
    generalize (18446744073709551616 : Int) ^ p = X4 at *
    generalize val 18446744073709551616 (V.drop p) = X5 at *
    have : X1 = X2 + X5 - X3 * c := by omega
    subst this
    grind
  have hpos := val_nonneg (B := 18446744073709551616) (by omega) ((spl_dg (o := a + p) K.ud h3').drop a)
  have hc : c = 0 := by
    rcases (by omega : c = 0 ∨ c = 1) with h | h
    · exact h
    · exfalso
      subst h
      rw [hval] at hpos
      omega
  subst hc
  rw [Int.mul_zero, Int.sub_zero] at hval
  refine ⟨rfl, q', _, Zc, Qc, T, M, by rw [spl_take_lo (by omega) (by omega)]; exact N.hlo, hval, N.hz, N.ht, N.htt, N.hq, fun _ => .inr ⟨hl, ?_⟩⟩
  have b1 := (C.c.kv.drop (i := p) (by omega)).lo
  have b2 : (18446744073709551616 : Int) ^ p * (9223372036854775808 * 18446744073709551616 ^ (n - p - 1)) ≤ 18446744073709551616 ^ p * val 18446744073709551616 (V.drop p) := Int.mul_le_mul_of_nonneg_left b1 (Int.le_of_lt (pow_pos_ (by omega) _))
  have b3 : (18446744073709551616 : Int) ^ (n - 1) = 18446744073709551616 ^ p * 18446744073709551616 ^ (n - p - 1) := by rw [← Int.pow_add]; congr 1; omega
  have b4 : (18446744073709551616 : Int) ^ p * (9223372036854775808 * 18446744073709551616 ^ (n - p - 1)) = 9223372036854775808 * (18446744073709551616 ^ p * 18446744073709551616 ^ (n - p - 1)) := by grind
  rw [b4, ← b3] at b2
  have b5 := pow_pos_ (B := 18446744073709551616) (by omega) (n - 1)
  have b6 := val_nonneg (B := 18446744073709551616) (by omega) (K.ud.drop a)
  rw [N.hR] at b6
  omega
set_option maxRecDepth 100000 in
/-- the product off the section -/
theorem dr_subu1 (C : DrT n B p lz lu s q2 bz oz cz bu ou cu bv ov cv b0 o0 bt ot n3 V w) {a l lq : Nat} {lo R zv tq qq : Int} {f : Bool} (K : DrV n B lz lu s q2 bz oz bu ou b0 o0 bt ot n3 w a l lq lo R zv tq qq f w') (hl : l ≤ n) {oa ca : Nat} (hoa : oa = ou + a) (ha : a + n ≤ lu) (W : World) (fW : Fr [] w' W) :
    Calls Tryd.prog 134 #[.slice (some ⟨bu, oa, none⟩) l ca, .slice (some ⟨bu, oa, none⟩) l ca, .slice (some ⟨bt, ot, none⟩) l n3] W fun e w2 => ∃ c, e = .returned (.int .u64 c) ∧ 0 ≤ c ∧ c ≤ 1 ∧ (l = lu - a → tq ≤ R → c = 0) ∧ DrV n B lz lu s q2 bz oz bu ou b0 o0 bt ot n3 w a l lq lo (R - tq + 18446744073709551616 ^ l * c) zv tq qq false w2 := by
  obtain ⟨q', Uc, Zc, Qc, T, K, N⟩ := K
  have KW := K.fr0 fW
  have hul := K.ul
  have htl := K.tl
  have few := C.c.few
  have n40 := C.c.n40
  have h3 := C.h3
  have dtu := C.dtu
  have hxl : ((Uc.drop a).take l).length = l := by rw [List.length_take, List.length_drop]; omega
  have htk : (T.take l).length = l := by rw [List.length_take]; omega
  have wx := KW.u.sub a l (by omega)
  rw [← hoa] at wx
  refine (subVVw_any bu oa ca bu oa ca bt ot n3 l _ _ (T.take l) W wx hxl hxl wx.src ((K.ud.drop a).take l) (.inr ⟨rfl, Nat.le_refl _⟩) htk (KW.t.take l (by omega)).src (K.td.take l) (.inl (by unfold Dj at *; omega)) (by omega)).mono ?_
  rintro e w2 ⟨us, c, rfl, h1, h2, h3', h4, h5, h6, h7⟩
  rw [hoa] at h1 h2
  have M := DrM.wu C KW (x := a) h1 (by rw [h3']; exact h2) (by omega) h4
  rw [N.htt] at h7
  have hval : val 18446744073709551616 ((spl Uc a us).drop a) = R - tq + 18446744073709551616 ^ l * c := by
    rw [spl_drop_lo (Nat.le_refl _) (by omega), Nat.sub_self, val_spl (by rw [List.length_drop]; omega), List.drop_zero, N.hR, h3', Int.pow_zero, Int.one_mul]
    omega
  refine ⟨c, rfl, h5, h6, fun hll htR => ?_, q', _, Zc, Qc, T, M, by rw [spl_take_lo (Nat.le_refl _) (by omega)]; exact N.hlo, hval, N.hz, N.ht, N.htt, N.hq, fun hh => by cases hh⟩
  rcases (by omega : c = 0 ∨ c = 1) with h | h
  · exact h
  · exfalso
    subst h
    have := val_lt_of_len (B := 18446744073709551616) (by omega) ((spl_dg (o := a) K.ud h4).drop a) (k := l) (by rw [List.length_drop, spl_len (by omega)]; omega)
    rw [hval] at this
    omega
set_option maxRecDepth 100000 in
theorem dr_subu2 (C : DrT n B p lz lu s q2 bz oz cz bu ou cu bv ov cv b0 o0 bt ot n3 V w) {a l lq : Nat} {lo R' zv tq qq c : Int} {f : Bool} (K : DrV n B lz lu s q2 bz oz bu ou b0 o0 bt ot n3 w a l lq lo (R' + 18446744073709551616 ^ l * c) zv tq qq f w') (h0 : 0 ≤ R') (hc0 : 0 ≤ c) (hc1 : c ≤ 1) {ox lx cx : Nat} (hox : ox = ou + (a + l)) (hlx : lx = lu - a - l) (hal : a + l < lu) (hcx : lx ≤ cx) (hcx9 : cx ≤ 4611686018427387904) (W : World) (fW : Fr [] w' W) :
    Calls Tryd.prog 133 #[.slice (some ⟨bu, ox, none⟩) lx cx, .slice (some ⟨bu, ox, none⟩) lx cx, .int .u64 c] W fun e w2 => e = .returned (.int .u64 0) ∧ DrV n B lz lu s q2 bz oz bu ou b0 o0 bt ot n3 w a l lq lo R' zv tq qq false w2 := by
  obtain ⟨q', Uc, Zc, Qc, T, K, N⟩ := K
  have KW := K.fr0 fW
  have hul := K.ul
  have lu9 := C.c.lu9
  have hdl : (Uc.drop (a + l)).length = lx := by rw [List.length_drop]; omega
  have wx := KW.u.drop (a + l) (by omega)
  rw [← hox] at wx
  refine (subVWw_any bu ox cx bu ox cx lx _ _ c W wx hdl hdl wx (K.ud.drop _) (.inr ⟨rfl, rfl⟩) (by omega) (by omega) hcx hcx (by unfold maxLen; omega) (by unfold maxLen; omega) hc0 (by omega)).mono ?_
  rintro e w2 ⟨us, c2, rfl, h1, h2, h3', h4, h5, h6, h7⟩
  rw [hox] at h1 h2
  have M := DrM.wu C KW (x := a + l) h1 (by rw [h3']; exact h2) (by omega) h4
  have hval : val 18446744073709551616 ((spl Uc (a + l) us).drop a) = R' + 18446744073709551616 ^ (lu - a) * c2 := by
    rw [spl_drop_lo (by omega) (by omega), val_spl (by rw [List.length_drop]; omega), List.drop_drop, N.hR, h3', show a + (a + l - a) = a + l by omega, show a + l - a = l by omega, List.take_of_length_le (by rw [hdl]; omega)]
    have e2 : (18446744073709551616 : Int) ^ (lu - a) = 18446744073709551616 ^ l * 18446744073709551616 ^ lx := by rw [← Int.pow_add]; congr 1; omega
    rw [e2]
    generalize val 18446744073709551616 us = X1 at *
    generalize val 18446744073709551616 (Uc.drop (a + l)) = X2 at *
    generalize (18446744073709551616 : Int) ^ lx = X3 at *
    generalize (18446744073709551616 : Int) ^ l = X4 at *
    have : X1 = X2 + X3 * c2 - c := by omega
    subst this
    grind
  have hlt := val_lt_of_len (B := 18446744073709551616) (by omega) ((spl_dg (o := a + l) K.ud h4).drop a) (k := lu - a) (by rw [List.length_drop, spl_len (by omega)]; omega)
  have hc2 : c2 = 0 := by
    rcases (by omega : c2 = 0 ∨ c2 = 1) with h | h
    · exact h
    · exfalso
      subst h
      rw [hval] at hlt
      omega
  subst hc2
  rw [Int.mul_zero, Int.add_zero] at hval
  exact ⟨rfl, q', _, Zc, Qc, T, M, by rw [spl_take_lo (by omega) (by omega)]; exact N.hlo, hval, N.hz, N.ht, N.htt, N.hq, fun hh => by cases hh⟩
/-- the guess without its noughts -/
theorem dr_normq (C : DrT n B p lz lu s q2 bz oz cz bu ou cu bv ov cv b0 o0 bt ot n3 V w) {a l lq : Nat} {lo R zv tq qq : Int} {f : Bool} (K : DrV n B lz lu s q2 bz oz bu ou b0 o0 bt ot n3 w a l lq lo R zv tq qq f w') (hlq : lq ≤ B + 1) :
    ∃ i, i ≤ lq ∧ (∀ k, qq < 18446744073709551616 ^ k → i ≤ k) ∧ (∀ W, Fr [] w' W → Calls Tryd.prog 88 #[.slice (some ⟨b0, o0, none⟩) lq (B + 1 : Nat)] W fun e w2 => e = .returned (.slice (some ⟨b0, o0, none⟩) i (B + 1 : Nat)) ∧ W = w2) ∧ DrV n B lz lu s q2 bz oz bu ou b0 o0 bt ot n3 w a l i lo R zv tq qq f w' := by
  obtain ⟨q', Uc, Zc, Qc, T, K, N⟩ := K
  obtain ⟨i, hi⟩ := cut_at (Qc.take lq)
  have hcl := K.cl
  have few := C.c.few
  have hB := C.c.hB
  have hql : (Qc.take lq).length = lq := by rw [List.length_take]; omega
  have hilq : i ≤ lq := by have := hi.1; omega
  obtain ⟨c1, c2, c3, c4⟩ := cut_facts (K.cd.take lq) hi
  have e : (Qc.take lq).take i = Qc.take i := by rw [List.take_take, Nat.min_eq_left hilq]
  rw [e] at c1 c2 c3 c4
  refine ⟨i, hilq, fun k hk => ?_, fun W fW => ?_, q', Uc, Zc, Qc, T, K, N.hlo, N.hR, N.hz, N.ht, N.htt, c4.trans N.hq, N.hnz⟩
  · rw [← c1]
    exact len_le (by omega) c2 c3 (by rw [c4, N.hq]; exact hk)
  · have := normD_any b0 o0 (B + 1) i (Qc.take lq) W ((K.c.fr0 fW).take lq (by omega)).src (by omega) (by unfold maxLen; omega) hi
    rwa [hql] at this
set_option maxRecDepth 100000 in
/-- the guess onto the target -/
theorem dr_addz (C : DrT n B p lz lu s q2 bz oz cz bu ou cu bv ov cv b0 o0 bt ot n3 V w) {a l lq : Nat} {lo R zv tq qq : Int} {f : Bool} (K : DrV n B lz lu s q2 bz oz bu ou b0 o0 bt ot n3 w a l lq lo R zv tq qq f w') (hlq : lq ≤ B + 1) {ox lx cx : Nat} (hox : ox = oz + a) (hlx : lx = lz - a) (ha : a ≤ lz) (hql : lq ≤ lx) (hcx : lx ≤ cx) (hcx9 : cx ≤ 4611686018427387904) (hzv : zv + 18446744073709551616 ^ a * qq < 18446744073709551616 ^ lz) (W : World) (fW : Fr [] w' W) :
    Calls Tryd.prog 102 #[.slice (some ⟨bz, ox, none⟩) lx cx, .slice (some ⟨b0, o0, none⟩) lq (B + 1 : Nat)] W fun e w2 => e = .returned (.tuple #[]) ∧ DrV n B lz lu s q2 bz oz bu ou b0 o0 bt ot n3 w a l lq lo R (zv + 18446744073709551616 ^ a * qq) tq qq f w2 := by
  obtain ⟨q', Uc, Zc, Qc, T, K, N⟩ := K
  have KW := K.fr0 fW
  have hzl := K.zl
  have hcl := K.cl
  have few := C.c.few
  have hB := C.c.hB
  have lz9 := C.c.lz9
  have d0z := C.c.d0z
  have r0W := C.c.r0.fc KW.fc
  have hqq : (Qc.take lq).length = lq := by rw [List.length_take]; omega
  have hdl : (Zc.drop a).length = lx := by rw [List.length_drop]; omega
  have wx := KW.z.drop a (by omega)
  rw [← hox] at wx
  refine (addTo_any bz ox cx lx _ b0 o0 (B + 1) lq (Zc.drop a) (Qc.take lq) W wx hdl (K.zd.drop _) (Nm.of_wr (KW.c.take lq (by omega)) r0W (by omega)) (K.cd.take lq) hqq hql (by omega) hcx (by unfold maxLen; omega) (fun _ => by unfold Dj at *; omega)).mono ?_
  rintro e w2 ⟨us, c, rfl, h1, h2, h3', h4, h5, h6, h7⟩
  rw [hox] at h1 h4
  rw [N.hq] at h7
  have M := DrM.wz C KW (x := a) h1 (by rw [h2]; exact h4) (by omega) h3'
  have hval : val 18446744073709551616 (spl Zc a us) = zv + 18446744073709551616 ^ a * qq - 18446744073709551616 ^ lz * c := by
    rw [val_spl (by omega), N.hz, h2, List.take_of_length_le (by rw [hdl]; omega)]
    have e2 : (18446744073709551616 : Int) ^ lz = 18446744073709551616 ^ a * 18446744073709551616 ^ lx := by rw [← Int.pow_add]; congr 1; omega
    rw [e2]
    generalize val 18446744073709551616 us = X1 at *
    generalize val 18446744073709551616 (Zc.drop a) = X2 at *
    generalize (18446744073709551616 : Int) ^ lx = X3 at *
    generalize (18446744073709551616 : Int) ^ a = X4 at *
    have : X1 = X2 + qq - X3 * c := by omega
    subst this
    grind
  have hpos := val_nonneg (B := 18446744073709551616) (by omega) (spl_dg (o := a) K.zd h3')
  have hc : c = 0 := by
    rcases (by omega : c = 0 ∨ c = 1) with h | h
    · exact h
    · exfalso
      subst h
      rw [hval] at hpos
      omega
  subst hc
  rw [Int.mul_zero, Int.sub_zero] at hval
  exact ⟨rfl, q', Uc, _, Qc, T, M, N.hlo, N.hR, hval, N.ht, N.htt, N.hq, N.hnz⟩
end
/-- how the product's words hang on what was before -/
structure DrL (lz lu s : Nat) (q1 q2 : Option StkSt) (bz oz bu ou b0 o0 c0 bt ot n3 : Nat) (w w2 : World) : Prop where
  le : StkLe w.heap.size q1 q2
  ll : lenS q1 ≤ lenS q2
  fc : Fc 77 (DrS s q1 bz oz lz bu ou lu b0 o0 c0) w w2
  nw : bt < w.heap.size → ∀ i, ot ≤ i → i < ot + n3 → StS s q1 bt i
section
variable {n B p lz lu s : Nat} {q1 q2 q' : Option StkSt} {bz oz cz bu ou cu bv ov cv b0 o0 bt ot n3 : Nat} {V Uc Zc Qc : List Int} {w w' W w2 w3 : World}
set_option maxRecDepth 100000 in
theorem dr_nat (C : DrC n B p lz lu s q1 bz oz cz bu ou cu bv ov cv b0 o0 V w) (hlen : lenS q1 + 9500 * (n + 1) ≤ 100000000000) (K : DrW B lz lu s q1 bz oz bu ou b0 o0 w q' Uc Zc Qc w') (h3 : n3 = 3 * n) (fW : Fr [] w' W)
    (hT : ∃ L, Row .u64 77 w2 bt L ∧ ot + n3 ≤ L.length) (st2 : StkAt w2 s q2) (le2 : StkLe W.heap.size q' q2) (l2 : lenS q' ≤ lenS q2) (l2' : lenS q2 ≤ lenS q' + n3 + 3) (hf : Fc 77 (StS s q') W w2) (hnw : bt < W.heap.size → ∀ i, ot ≤ i → i < ot + n3 → StS s q' bt i) (hoff : ∀ i, ot ≤ i → i < ot + n3 → ¬ StS s q2 bt i) :
    DrT n B p lz lu s q2 bz oz cz bu ou cu bv ov cv b0 o0 bt ot n3 V w2 ∧ DrL lz lu s q1 q2 bz oz bu ou b0 o0 (B + 1) bt ot n3 w w2 ∧ Wr 77 w2 bu ou Uc ∧ Wr 77 w2 bz oz Zc ∧ Wr 77 w2 b0 o0 Qc := by
  have n40 := C.n40
  have few := C.few
  have hB := C.hB
  have cv1 := C.cv1
  have hll := K.ll
  have hvl := C.kv.len
  have s1 := K.fc.size
  have s2 := fW.size
  have s3 := hf.size
  obtain ⟨oz', ou', ov', o0'⟩ := C.offs K.le K.ll
  have uW := K.u.fr0 fW
  have zW := K.z.fr0 fW
  have cW := K.c.fr0 fW
  have vW := (C.v.fc K.fc C.von).fr0 fW
  have r0W := (C.r0.fc K.fc).fc (Fc.fr0 fW 77 (fun _ _ => False))
  have b1 := uW.lt
  have b2 := zW.lt
  have b3 := cW.lt
  have b4 := vW.lt (by omega)
  have u2 : Wr 77 w2 bu ou Uc := uW.fc hf (by rw [K.ul]; exact ou')
  have z2 : Wr 77 w2 bz oz Zc := zW.fc hf (by rw [K.zl]; exact oz')
  have c2 : Wr 77 w2 b0 o0 Qc := cW.fc hf (by rw [K.cl]; exact o0')
  have v2 : Nm w2 (some ⟨bv, ov, none⟩) bv ov cv V := vW.fc hf (by rw [hvl]; exact Off.take ov' cv1)
  have g1 : Glo w2 2 40 := ((C.thr.fc K.fc (C.gn C.thr)).fr0 fW).fc hf (glo_stk ((C.thr.fc K.fc (C.gn C.thr)).fr0 fW) (K.st.fr0 fW) 0)
  have g2 : Glo w2 3 40 := ((C.td.fc K.fc (C.gn C.td)).fr0 fW).fc hf (glo_stk ((C.td.fc K.fc (C.gn C.td)).fr0 fW) (K.st.fr0 fW) 0)
  obtain ⟨L, hL, hLl⟩ := hT
  have leT : StkLe w.heap.size q1 q2 := K.le.trans le2 (by omega)
  refine ⟨⟨⟨n40, few, hB, C.hp, C.lz9, C.lu9, C.cz1, C.cz9, C.cu1, C.cu9, cv1, C.cv9, g1, g2, st2, by omega, v2, C.kv, r0W.fc hf, ⟨Zc, z2, K.zl⟩, ⟨Uc, u2, K.ul⟩, C.dvu, C.dzu, C.dvz, C.d0u, C.d0z, C.d0v, off_le le2 l2 oz' b2, off_le le2 l2 ou' b1, off_le le2 l2 ov' b4, off_le le2 l2 o0' b3⟩, h3, Rcv.of_row hL hLl (by unfold maxLen; omega), (nat_dj hnw b1 ou').symm, (nat_dj hnw b2 oz').symm, (nat_dj hnw b4 (Off.take ov' cv1)).symm, (nat_dj hnw b3 o0').symm, nat_ne hnw b3 o0' (by omega) (by omega), nat_ne hnw b4 ov' (by omega) (by omega), hoff⟩,
    ⟨leT, by omega, (K.fc.t (Fc.fr0 fW _ _)).trans hf (fun b i hh hlt => .inl (K.le.sub (Nat.le_of_eq K.ll.symm) b i hh hlt)), fun hlt i a1 a2 => K.le.sub (Nat.le_of_eq K.ll.symm) bt i (hnw (by omega) i a1 a2) hlt⟩, u2, z2, c2⟩
/-- the product's words are nought -/
theorem dr_clear (C : DrT n B p lz lu s q2 bz oz cz bu ou cu bv ov cv b0 o0 bt ot n3 V w2) (u2 : Wr 77 w2 bu ou Uc) (ul : Uc.length = lu) (ud : DG 18446744073709551616 Uc) (z2 : Wr 77 w2 bz oz Zc) (zl : Zc.length = lz) (zd : DG 18446744073709551616 Zc) (c2 : Wr 77 w2 b0 o0 Qc) (cl : Qc.length = B + 1) (cd : DG 18446744073709551616 Qc)
    {L : List Int} (hL : Row .u64 77 w2 bt L) (hl : ot + n3 ≤ L.length) (row : Row .u64 77 w3 bt (spl L ot (List.replicate n3 0))) (f : Fr [bt] w2 w3) :
    DrM B lz lu s q2 bz oz bu ou b0 o0 bt ot n3 w2 q2 Uc Zc Qc (List.replicate n3 0) w3 := by
  have hlr : (List.replicate n3 (0 : Int)).length = n3 := List.length_replicate
  have hf : Fc 77 (In1 bt ot n3) w2 w3 := fc_row (L' := L) hL row f (by rw [hlr]; exact hl) (fun i h1 h2 => ⟨rfl, h1, by rw [hlr] at h2; exact h2⟩)
  refine ⟨hf.mono (fun b i hh _ => .inr hh), C.c.st.fc hf (fun i hh => C.c.st.row_ne hL hh.1.symm) (fun x hx i hh => by subst hx; exact C.c.st.2.row_ne hL hh.1.symm), StkLe.refl _ _, rfl, u2.fc hf (by rw [ul]; exact C.dtu.symm.off), ul, ud, z2.fc hf (by rw [zl]; exact C.dtz.symm.off), zl, zd, c2.fc hf (by rw [cl]; exact C.dt0.symm.off), cl, cd, Wr.of_spl row (by rw [hlr]; exact hl), hlr, DG.rep (by omega) _⟩
/-- the product's words are given back -/
theorem dr_back (L : DrL lz lu s q1 q2 bz oz bu ou b0 o0 (B + 1) bt ot n3 w w2) (C : DrC n B p lz lu s q1 bz oz cz bu ou cu bv ov cv b0 o0 V w) (C2 : DrT n B p lz lu s q2 bz oz cz bu ou cu bv ov cv b0 o0 bt ot n3 V w2) {T : List Int} (K : DrM B lz lu s q2 bz oz bu ou b0 o0 bt ot n3 w2 q' Uc Zc Qc T w') (st : StkAt w3 s (resS (lenS q1) q')) (hf : Fc 77 (StS s q') w' w3) :
    DrW B lz lu s q1 bz oz bu ou b0 o0 w (resS (lenS q1) q') Uc Zc Qc w3 := by
  obtain ⟨oz', ou', ov', o0'⟩ := C2.c.offs K.le K.ll
  have hsub : ∀ b i, StS s q2 b i → b < w.heap.size → StS s q1 b i := fun b i hh hlt => L.le.sub L.ll b i hh hlt
  have s2 := L.fc.size
  have ll := K.ll
  have l1 := L.ll
  refine ⟨(L.fc.trans K.fc (fun b i hh hlt => ?_)).trans hf (fun b i hh hlt => .inl (hsub b i (K.le.sub (Nat.le_of_eq K.ll.symm) b i hh (by omega)) hlt)), st, (L.le.trans K.le s2).res, lenS_res (fun hh => by rw [hh] at ll; have e : lenS none = 0 := rfl; omega), K.u.fc hf (by rw [K.ul]; exact ou'), K.ul, K.ud, K.z.fc hf (by rw [K.zl]; exact oz'), K.zl, K.zd, K.c.fc hf (by rw [K.cl]; exact o0'), K.cl, K.cd⟩
  rcases hh with (hh | hh | hh | hh) | hh
  · exact .inl (hsub b i hh hlt)
  · exact .inr (.inl hh)
  · exact .inr (.inr (.inl hh))
  · exact .inr (.inr (.inr hh))
  · obtain ⟨rfl, h1, h2⟩ := hh
    exact .inl (L.nw hlt i h1 h2)
end
end Go.Proofs.YtknokndpeneogaaDoor
