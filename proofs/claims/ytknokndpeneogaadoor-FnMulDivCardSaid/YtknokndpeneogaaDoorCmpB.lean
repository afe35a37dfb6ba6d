/-
  nat.cmp. Conditions: what is read can be read; no noughts at the upper end.
-/
import Derived.Test.YtknokndpeneogaaDoorgWord
set_option linter.unusedSimpArgs false
set_option linter.unusedVariables false
namespace Go.Proofs.YtknokndpeneogaaDoor
open Go.Big Go.RowKit

set_option maxRecDepth 100000 in
set_option maxHeartbeats 2000000 in
theorem bcmp_any (va vb : Value) (n m : Int) (w : World) (ha : SW w va n) (hb : SW w vb m) :
    Calls Tryd.prog 80 #[va, vb] w fun e w' => e = .returned (.int .i64 (cmpI n m)) ∧ Fr [] w w' := by
  obtain ⟨da, ⟨A, ca, rfl, hla, hma, hsa⟩, dga, nza, rfl⟩ := ha
  obtain ⟨db, ⟨B, cb, rfl, hlb, hmb, hsb⟩, dgb, nzb, rfl⟩ := hb
  unfold maxLen at hma hmb
  have DA := Lib.hid dga
  have DB := Lib.hid dgb
  have NA := Lib.hid nza
  have NB := Lib.hid nzb
  clear dga dgb nza nzb
  rcases Nat.lt_trichotomy da.length db.length with h | h | h
  · have hne : (((da.length : Int) == (db.length : Int))) = false := by simp; omega
    go_enter Tryd.func80, Tryd.ntmps80
    go_wp2
    go_ret
    exact ⟨by rw [cmpI_lt (lt_of_shorter (by omega) DA.out DB.out NB.out h)]; rfl, Fr.refl _ _⟩
  · obtain ⟨n, hn⟩ : ∃ n, n = db.length := ⟨_, rfl⟩
    have hna : da.length = n := by omega
    rw [hna] at hla ⊢
    rw [← hn] at hlb ⊢
    have HN := Lib.hid hn
    have HNA := Lib.hid hna
    rcases Nat.eq_zero_or_pos n with h0 | h0
    · have e1 : da = [] := List.eq_nil_of_length_eq_zero (by omega)
      have e2 : db = [] := List.eq_nil_of_length_eq_zero (by omega)
      have E1 := Lib.hid e1
      have E2 := Lib.hid e2
      clear e1 e2 hn hna h hsa hsb
      subst h0
      go_enter Tryd.func80, Tryd.ntmps80
      go_wp2
      go_ret
      rw [E1.out, E2.out, cmpI_eq]
      exact ⟨rfl, Fr.refl _ _⟩
    · obtain ⟨m, hm⟩ : ∃ m, n = m + 1 := ⟨n - 1, by omega⟩
      obtain ⟨ba, oa, rfl, _, sa⟩ := hsa (by omega)
      obtain ⟨bb, ob, rfl, _, sb⟩ := hsb (by omega)
      have SA := Lib.hid sa
      have SB := Lib.hid sb
      have HM := Lib.hid hm
      have hE : da.length = db.length := h
      clear hsa hsb sa sb hn hna h
      subst hm
      have hnz : (((m : Int) + 1 == 0)) = false := by simp; omega
      have HE := Lib.hid hE
      clear hE
      go_enter Tryd.func80, Tryd.ntmps80
      go_wp2_with fail
      go_loopg [7] (m + 1) (fun g iv wr => ∃ k : Nat, k ≤ m ∧ g = k + 1 ∧ iv = .int .i64 k ∧ (∀ j, k < j → j < da.length → da.getD j 0 = db.getD j 0) ∧ Fr [] w wr)
      case atStart => exact ⟨m, Nat.le_refl _, rfl, rfl, fun j h1 h2 => absurd h2 (by rw [HNA.out]; have := HM.out; omega), Fr.refl _ _⟩
      case round =>
        obtain ⟨k, hk, rfl, rfl, hsame, hf⟩ := hrel
        have HS := Lib.hid hsame
        clear hsame
        have hka : k < da.length := by rw [HNA.out]; have := HM.out; omega
        have hkb : k < db.length := by rw [← HE.out]; exact hka
        have cA := (SA.out.fr hf (by simp)) k hka
        have cB := (SB.out.fr hf (by simp)) k hkb
        obtain ⟨x, hx⟩ : ∃ x, x = da.getD k 0 := ⟨_, rfl⟩
        obtain ⟨y, hy⟩ : ∃ y, y = db.getD k 0 := ⟨_, rfl⟩
        rw [← hx] at cA
        rw [← hy] at cB
        have HX := Lib.hid hx
        have HY := Lib.hid hy
        clear hx hy
        rcases Nat.eq_zero_or_pos k with h00 | h00
        · subst h00
          simp only [Nat.add_zero] at cA cB
          rcases Int.lt_trichotomy x y with hc | hc | hc
          · have hne : (x == y) = false := by simp; omega
            go_wp2_with fail
            go_quiet (fail)
            go_wp2_with fail
            go_quiet (fail)
            go_wp2_with fail
            go_ret
            exact ⟨by rw [cmpI_lt (lt_of_top (by omega) DA.out DB.out HE.out hka HS.out (by rw [← HX.out, ← HY.out]; exact hc))]; rfl, by repeat (first | exact hf | apply Fr.drewN)⟩
          · subst hc
            go_wp2_with fail
            go_quiet (fail)
            go_wp2_with fail
            go_quiet (fail)
            go_wp2_with fail
            go_quiet (fail)
            go_wp2_with fail
            go_ret
            have he : da = db := by
              apply List.ext_getElem HE.out
              intro j h1 h2
              by_cases e : j = 0
              · subst e; have h3 := HX.out; rw [HY.out] at h3; rw [getD_in h1, getD_in h2] at h3; exact h3.symm
              · have h3 := HS.out j (by omega) h1; rwa [getD_in h1, getD_in h2] at h3
            rw [he, cmpI_eq]
            exact ⟨rfl, by repeat (first | exact hf | apply Fr.drewN)⟩
          · have hne : (x == y) = false := by simp; omega
            go_wp2_with fail
            go_quiet (fail)
            go_wp2_with fail
            go_quiet (fail)
            go_wp2_with fail
            go_quiet (fail)
            go_wp2_with fail
            go_ret
            exact ⟨by rw [cmpI_gt (lt_of_top (by omega) DB.out DA.out HE.out.symm hkb (fun i h1 h2 => (HS.out i h1 (by have := HE.out; omega)).symm) (by rw [← HX.out, ← HY.out]; exact hc))]; rfl, by repeat (first | exact hf | apply Fr.drewN)⟩
        · obtain ⟨j, rfl⟩ : ∃ j, k = j + 1 := ⟨k - 1, by omega⟩
          rcases Int.lt_trichotomy x y with hc | hc | hc
          · have hne : (x == y) = false := by simp; omega
            go_wp2_with fail
            go_quiet (fail)
            go_wp2_with fail
            go_quiet (fail)
            go_wp2_with fail
            go_ret
            exact ⟨by rw [cmpI_lt (lt_of_top (by omega) DA.out DB.out HE.out hka HS.out (by rw [← HX.out, ← HY.out]; exact hc))]; rfl, by repeat (first | exact hf | apply Fr.drewN)⟩
          · subst hc
            go_wp2_with fail
            go_quiet (fail)
            go_wp2_with fail
            go_roundg (j + 1)
            case measure => omega
            case rel =>
              refine ⟨j, by omega, rfl, rfl, fun i h1 h2 => ?_, hf.drewN _⟩
              by_cases e : i = j + 1
              · subst e; rw [← HX.out, HY.out]
              · exact HS.out i (by omega) h2
          · have hne : (x == y) = false := by simp; omega
            go_wp2_with fail
            go_quiet (fail)
            go_wp2_with fail
            go_quiet (fail)
            go_wp2_with fail
            go_quiet (fail)
            go_wp2_with fail
            go_ret
            exact ⟨by rw [cmpI_gt (lt_of_top (by omega) DB.out DA.out HE.out.symm hkb (fun i h1 h2 => (HS.out i h1 (by have := HE.out; omega)).symm) (by rw [← HX.out, ← HY.out]; exact hc))]; rfl, by repeat (first | exact hf | apply Fr.drewN)⟩
  · have hne : (((da.length : Int) == (db.length : Int))) = false := by simp; omega
    go_enter Tryd.func80, Tryd.ntmps80
    go_wp2
    go_ret
    exact ⟨by rw [cmpI_gt (lt_of_shorter (by omega) DB.out DA.out NA.out h)]; rfl, Fr.refl _ _⟩
set_option maxRecDepth 100000 in
theorem zzCmp_any (va vb : Value) (n m : Int) (w : World) (ha : SW w va n) (hb : SW w vb m) (hn : n < BIG) (hm : m < BIG) :
    Calls Tryd.prog 57 #[va, vb] w fun e w' => e = .returned (.int .i64 (cmpI n m)) ∧ Fr [] w w' := by
  obtain ⟨xs, sx, dx, zx, hvx⟩ := ha
  obtain ⟨ys, sy, dy, zy, hvy⟩ := hb
  have lx := len_BIG64 dx zx (by rw [hvx]; exact hn)
  have ly := len_BIG64 dy zy (by rw [hvy]; exact hm)
  have SX := Lib.hid sx
  have SY := Lib.hid sy
  have DX := Lib.hid dx
  have DY := Lib.hid dy
  have ZX := Lib.hid zx
  have ZY := Lib.hid zy
  have VX := Lib.hid hvx
  have VY := Lib.hid hvy
  clear sx sy dx dy zx zy hn hm hvx hvy
  have C1 := Lib.hid (zzIn_any va xs w SX.out lx)
  go_enter Tryd.func57, Tryd.ntmps57
  go_wp2_with (first
    | (go_at_call 68; refine (Hid.out C1).mono ?_; clear C1; rintro e w1 ⟨b1, rfl, row1, hb1, f1⟩)
    | (go_at_call 68; refine (zzIn_any vb ys _ (SY.out.fr0 f1) ly).mono ?_; rintro e w2 ⟨b2, rfl, row2, hb2, f2⟩)
    | (go_at_call 80; have a1 := SW.mk (row1.fr f2 (by simp)) DX.out ZX.out lx; have a2 := SW.mk row2 DY.out ZY.out ly; rw [VX.out] at a1; rw [VY.out] at a2; refine (bcmp_any _ _ n m _ a1 a2).mono ?_; rintro e w3 ⟨rfl, f3⟩))
  go_ret
  exact ⟨rfl, (f1.t f2).t f3⟩
set_option maxRecDepth 100000 in
theorem implCmp_any (va vb : Value) (xs ys : List Int) (w : World) (ha : Sl .u64 w va xs) (hb : Sl .u64 w vb ys) (dx : DG 18446744073709551616 xs) (dy : DG 18446744073709551616 ys) (lx : xs.length ≤ 1000000) (ly : ys.length ≤ 1000000) :
    Calls Tryd.prog 33 #[va, vb] w fun e w' => e = .returned (.int .i64 (cmpI (val 18446744073709551616 xs) (val 18446744073709551616 ys))) ∧ Fr [] w w' := by
  have bx := words_BIG dx lx
  have by_ := words_BIG dy ly
  obtain ⟨n, hn⟩ : ∃ n, n = val 18446744073709551616 xs := ⟨_, rfl⟩
  obtain ⟨m, hm⟩ : ∃ m, m = val 18446744073709551616 ys := ⟨_, rfl⟩
  rw [← hn] at bx ⊢
  rw [← hm] at by_ ⊢
  have HN := Lib.hid hn
  have HM := Lib.hid hm
  have BX := Lib.hid bx
  have BY := Lib.hid by_
  have HA := Lib.hid ha
  have HB := Lib.hid hb
  have DX := Lib.hid dx
  have DY := Lib.hid dy
  clear ha hb dx dy hn hm bx by_
  have C1 := Lib.hid (implnorm_any va xs w HA.out DX.out lx)
  go_enter Tryd.func33, Tryd.ntmps33
  go_wp2_with (first
    | (go_at_call 48; refine (Hid.out C1).mono ?_; clear C1; rintro e w1 ⟨v1, rfl, sw1, f1⟩; rw [← HN.out] at sw1)
    | (go_at_call 48; refine (implnorm_any vb ys _ (HB.out.fr0 f1) DY.out ly).mono ?_; rintro e w2 ⟨v2, rfl, sw2, f2⟩; rw [← HM.out] at sw2)
    | (go_at_call 57; refine (zzCmp_any _ _ n m _ (sw1.fr0 f2) sw2 BX.out BY.out).mono ?_; rintro e w3 ⟨rfl, f3⟩))
  go_ret
  exact ⟨rfl, (f1.t f2).t f3⟩
end Go.Proofs.YtknokndpeneogaaDoor
