/-
  Numbers taken together bit by bit: nat.and, or, xor, andNot at a nil receiver. Conditions: what is read can be read.
-/
import Derived.Test.YtjapebgihnahjaaZw
import Derived.Test.YtjapebgihnahjaaSetN
import Derived.Test.YtjapebgihnahjaaMulAddW
import Derived.Test.YtjapebgihnahjaaShiftN
import Derived.Test.YtjapebgihnahjaaVecW
set_option linter.unusedSimpArgs false
set_option linter.unusedVariables false
namespace Go.Big
theorem zw_tail {f : Int → Int → Int} {n : Nat} {xs ys : List Int} (hn : n ≤ xs.length) (h : ∀ i, n ≤ i → i < xs.length → f (xs.getD i 0) (ys.getD i 0) = xs.getD i 0) : zw f xs.length xs ys = zw f n xs ys ++ xs.drop n := by
  apply List.ext_getElem
  · simp [zw_len]; omega
  · intro i h1 h2
    rw [zw_len] at h1
    by_cases hi : i < n
    · rw [List.getElem_append_left (by rw [zw_len]; exact hi)]
      simp [zw]
    · rw [List.getElem_append_right (by rw [zw_len]; omega)]
      simp only [zw_len, List.getElem_drop]
      have e := h i (by omega) h1
      have ei : n + (i - n) = i := by omega
      simp only [ei, zw, List.getElem_map, List.getElem_range]
      rw [e, getD_in h1]
theorem zw_tail2 {f : Int → Int → Int} {n : Nat} {xs ys : List Int} (hn : n ≤ ys.length) (h : ∀ i, n ≤ i → i < ys.length → f (xs.getD i 0) (ys.getD i 0) = ys.getD i 0) : zw f ys.length xs ys = zw f n xs ys ++ ys.drop n := by
  apply List.ext_getElem
  · simp [zw_len]; omega
  · intro i h1 h2
    rw [zw_len] at h1
    by_cases hi : i < n
    · rw [List.getElem_append_left (by rw [zw_len]; exact hi)]
      simp [zw]
    · rw [List.getElem_append_right (by rw [zw_len]; omega)]
      simp only [zw_len, List.getElem_drop]
      have e := h i (by omega) h1
      have ei : n + (i - n) = i := by omega
      simp only [ei, zw, List.getElem_map, List.getElem_range]
      rw [e, getD_in h1]
theorem Src.drew {k : IntKind} {w : World} {b off : Nat} {xs : List Int} (h : Src k w b off xs) : Src k w.drew b off xs := h
theorem step_copy_none {P : Program} {ops : Array Oper} {o : Oper} {a : Act} {w : World} {K : Act → World → Prop} {Q : Exit → Act → World → Prop} {E : Prop} (hgd : o.guard = none) (d s : Operand) (dT sT : TypeId)
    (ho : o.op = .call { callee := .builtin .copy, args := #[d, s], argTypes := #[dT, sT] }) (T : TypeId) (hu : P.underlying dT = some (.slice T)) (hsz : (P.info? T).map (·.size) = some 1)
    (dp sp : Option Addr) (dLen dCap sCap : Nat) (hd : a.eval d = .slice dp 0 dCap) (hs : a.eval s = .slice sp 0 sCap) (hK : K (a.put o.dst (goInt 0)) w) :
    if Region.wanted o (yielded ops a.tmps) = true then Oper.wp P o a w K Q else E := by
  have hw : Region.wanted o (yielded ops a.tmps) = true := by simp [Region.wanted, hgd]
  rw [if_pos hw]
  have hrun := run_copy_none (P := P) w dT sT o.type T dp sp 0 dCap 0 sCap hu hsz (by simp)
  unfold Oper.wp
  simp [execOp, ho, resolve, invoke, builtin, hd, hs, hrun, Result.andThen]
  exact hK
end Go.Big
namespace Go.Proofs.Ytjapebgihnahjaa
open Go.Big Go.RowKit
def BwRel (f : Int → Int → Int) (z c n : Nat) (xs ys : List Int) (w1 : World) (g : Nat) (iv : Value) (wr : World) : Prop :=
  ∃ i : Nat, i ≤ n ∧ g = n - i ∧ iv = .int .i64 i ∧ Row .u64 87 wr z (spl (List.replicate c 0) 0 (zw f i xs ys)) ∧ Fr [z] w1 wr
theorem bw_dg (op : BinOp) (hop : op = .and ∨ op = .or ∨ op = .xor ∨ op = .andNot) {n : Nat} {xs ys : List Int} (hx : DG 18446744073709551616 xs) (hy : DG 18446744073709551616 ys) : DG 18446744073709551616 (zw (bits op .u64) n xs ys) := by
  refine zw_dg (by omega) hx hy (fun a b h0 h1 h2 h3 => ?_)
  have h := u64_bit_bounds a b h0 h1 h2 h3
  rcases hop with rfl | rfl | rfl | rfl
  · exact h.1
  · exact h.2.1
  · exact h.2.2.1
  · exact h.2.2.2
set_option maxRecDepth 100000 in
set_option maxHeartbeats 2000000 in
theorem and_any (vx vy : Value) (xs ys : List Int) (w : World) (hx : Sl .u64 w vx xs) (hy : Sl .u64 w vy ys) (hd : DG 18446744073709551616 xs) (hd' : DG 18446744073709551616 ys) (hlx : xs.length ≤ 100000) (hly : ys.length ≤ 100000) :
    Calls Try.prog 105 #[.slice none 0 0, vx, vy] w (RetW (val 18446744073709551616 (zw (bits .and .u64) (max xs.length ys.length) xs ys)) w) := by
  have HDX := Lib.hid hd
  have HDY := Lib.hid hd'
  have HX := Lib.hid hx
  have HY := Lib.hid hy
  obtain ⟨A, cx, rfl, hcx, hmx, hsx⟩ := hx
  obtain ⟨B, cy, rfl, hcy, hmy, hsy⟩ := hy
  unfold maxLen at hmx hmy
  obtain ⟨p, hp⟩ : ∃ p, p = xs.length := ⟨_, rfl⟩
  obtain ⟨q, hq⟩ : ∃ q, q = ys.length := ⟨_, rfl⟩
  have HP := Lib.hid hp
  have HQ := Lib.hid hq
  rw [← hp] at HX hcx hlx hsx ⊢
  rw [← hq] at HY hcy hly hsy ⊢
  clear hp hq hd hd'
  by_cases hpq : q < p
  · have hle : q ≤ p := by omega
    have hdg := bw_dg .and (by simp) (n := q) HDX.out HDY.out
    have HDG := Lib.hid hdg
    have hfin : val 18446744073709551616 (zw (bits .and .u64) q xs ys) = val 18446744073709551616 (zw (bits .and .u64) (max p q) xs ys) := by
      refine (val_zw_pad (by omega) (fun i h1 h2 => ?_)).symm
      rw [getD_out (xs := ys) (by rw [← HQ.out]; omega)]
      exact (u64_bit_zero _ (HDX.out.getD (by omega) i).1 (HDX.out.getD (by omega) i).2).1
    have HFIN := Lib.hid hfin
    clear hdg hfin
    by_cases h0 : q = 0
    · have HFZ : Hid (val 18446744073709551616 (zw (bits .and .u64) (max p q) xs ys) = 0) := Lib.hid (by rw [← HFIN.out, h0, zw_zero, val_nil])
      rw [HFZ.out]
      have hpq0 : (q : Int) = 0 := by omega
      have hs2 := h0
      subst hs2
      clear hsx hsy
      go_enter Try.func105, Try.ntmps105
      go_wp2_with (first
        | (go_at_call 120; refine (make0 _).mono ?_; rintro e w1 ⟨rfl, rfl⟩))
      go_loopg [9] 0 (fun g iv wr => iv = .int .i64 0 ∧ w = wr)
      case atStart => exact ⟨rfl, rfl⟩
      case round =>
        obtain ⟨rfl, rfl⟩ := hrel
        go_wp2_with (first
          | (go_at_call 118; refine (bnorm_sl _ [] _ (Sl.nil _ _) (DG.nil _)).mono ?_; rw [val_nil]; rintro e w4 ⟨⟨v4, rfl, sw4⟩, rfl⟩))
        go_ret
        exact ⟨_, rfl, sw4, Fr.refl _ _⟩
    have HM := Lib.hid (fun W => make_any q W (by omega) (by omega))
    go_enter Try.func105, Try.ntmps105
    go_wp2_with (go_at_call 120; refine (HM.out _).mono ?_; rintro e w1 ⟨z, c, rfl, hc1, hc2, row, hz, f⟩; have HROW := Lib.hid row; clear row)
    go_loopg [9] q (BwRel (bits .and .u64) z c q xs ys w1)
    case atStart => exact ⟨0, by omega, rfl, rfl, by rw [zw_zero, spl_nil]; exact HROW.out, Fr.refl _ _⟩
    case round =>
      obtain ⟨i, hi, rfl, rfl, hrow, hf⟩ := hrel
      have HROW2 := Lib.hid hrow
      have HF := Lib.hid hf
      clear hrow hf HROW
      by_cases h1 : i < q
      · obtain ⟨bx, ox, rfl, hbx, sx⟩ := hsx (by omega)
        obtain ⟨by_, oy, rfl, hby, sy⟩ := hsy (by omega)
        have cx := (sx.fr ((f.mono (S' := [z]) (by simp)).trans HF.out (fun x hx _ => hx)) (by simp; omega)) i (by rw [← HP.out]; omega)
        have cy := (sy.fr ((f.mono (S' := [z]) (by simp)).trans HF.out (fun x hx _ => hx)) (by simp; omega)) i (by rw [← HQ.out]; omega)
        obtain ⟨x, hx⟩ : ∃ x, x = xs.getD i 0 := ⟨_, rfl⟩
        obtain ⟨y, hy⟩ : ∃ y, y = ys.getD i 0 := ⟨_, rfl⟩
        rw [← hx] at cx
        rw [← hy] at cy
        have HXI := Lib.hid hx
        have HYI := Lib.hid hy
        have hfz := HROW2.out.frozen i
        have cz := HROW2.out.cell (i := i) (by rw [spl_len (by rw [zw_len]; simp; omega)]; simp; omega)
        obtain ⟨old, hold⟩ : ∃ old, old = (spl (List.replicate c (0 : Int)) 0 (zw (bits .and .u64) i xs ys)).getD i 0 := ⟨_, rfl⟩
        rw [← hold] at cz
        clear hx hy hold sx sy hsx hsy
        go_wp2_with fail
        go_region
        go_wp2_with fail
        go_roundg (q - (i + 1))
        case measure => omega
        case rel =>
          refine ⟨i + 1, by omega, rfl, by go_num, ?_, (HF.out.set (.inl (by simp)) _).drew⟩
          have h := HROW2.out.set i (bits .and .u64 x y)
          have hsp := spl_set_end (L := List.replicate c (0 : Int)) (o := 0) (cs := zw (bits .and .u64) i xs ys) (by rw [zw_len]; simp; omega) (bits .and .u64 x y)
          rw [Nat.zero_add, zw_len] at hsp
          rw [hsp, HXI.out, HYI.out, ← zw_succ] at h
          rw [← HXI.out, ← HYI.out] at h
          exact h.drew
      · obtain rfl : i = q := by omega
        have LEN := Lib.hid (zw_len (bits .and .u64) i xs ys)
        clear hsx hsy
        go_wp2_with (go_at_call 118; refine (bnorm_sl _ (zw (bits .and .u64) i xs ys) _ ((src_spl HROW2.out (by rw [LEN.out]; simp; omega)).sl LEN.out hc1 (by unfold maxLen; omega)) HDG.out).mono ?_; rw [HFIN.out]; rintro e w4 ⟨⟨v4, rfl, sw4⟩, rfl⟩)
        go_ret
        exact ⟨_, rfl, sw4, fr_new'' f HF.out hz⟩
  · have hle : p ≤ q := by omega
    have hdg := bw_dg .and (by simp) (n := p) HDX.out HDY.out
    have HDG := Lib.hid hdg
    have hfin : val 18446744073709551616 (zw (bits .and .u64) p xs ys) = val 18446744073709551616 (zw (bits .and .u64) (max p q) xs ys) := by
      refine (val_zw_pad (by omega) (fun i h1 h2 => ?_)).symm
      rw [getD_out (xs := xs) (by rw [← HP.out]; omega)]
      exact (u64_bit_zero _ (HDY.out.getD (by omega) i).1 (HDY.out.getD (by omega) i).2).2.1
    have HFIN := Lib.hid hfin
    clear hdg hfin
    by_cases h0 : p = 0
    · have HFZ : Hid (val 18446744073709551616 (zw (bits .and .u64) (max p q) xs ys) = 0) := Lib.hid (by rw [← HFIN.out, h0, zw_zero, val_nil])
      rw [HFZ.out]
      have hpq0 : (p : Int) = 0 := by omega
      have hs2 := h0
      subst hs2
      clear hsx hsy
      go_enter Try.func105, Try.ntmps105
      go_wp2_with (first
        | (go_at_call 120; refine (make0 _).mono ?_; rintro e w1 ⟨rfl, rfl⟩))
      go_loopg [9] 0 (fun g iv wr => iv = .int .i64 0 ∧ w = wr)
      case atStart => exact ⟨rfl, rfl⟩
      case round =>
        obtain ⟨rfl, rfl⟩ := hrel
        go_wp2_with (first
          | (go_at_call 118; refine (bnorm_sl _ [] _ (Sl.nil _ _) (DG.nil _)).mono ?_; rw [val_nil]; rintro e w4 ⟨⟨v4, rfl, sw4⟩, rfl⟩))
        go_ret
        exact ⟨_, rfl, sw4, Fr.refl _ _⟩
    have HM := Lib.hid (fun W => make_any p W (by omega) (by omega))
    go_enter Try.func105, Try.ntmps105
    go_wp2_with (go_at_call 120; refine (HM.out _).mono ?_; rintro e w1 ⟨z, c, rfl, hc1, hc2, row, hz, f⟩; have HROW := Lib.hid row; clear row)
    go_loopg [9] p (BwRel (bits .and .u64) z c p xs ys w1)
    case atStart => exact ⟨0, by omega, rfl, rfl, by rw [zw_zero, spl_nil]; exact HROW.out, Fr.refl _ _⟩
    case round =>
      obtain ⟨i, hi, rfl, rfl, hrow, hf⟩ := hrel
      have HROW2 := Lib.hid hrow
      have HF := Lib.hid hf
      clear hrow hf HROW
      by_cases h1 : i < p
      · obtain ⟨bx, ox, rfl, hbx, sx⟩ := hsx (by omega)
        obtain ⟨by_, oy, rfl, hby, sy⟩ := hsy (by omega)
        have cx := (sx.fr ((f.mono (S' := [z]) (by simp)).trans HF.out (fun x hx _ => hx)) (by simp; omega)) i (by rw [← HP.out]; omega)
        have cy := (sy.fr ((f.mono (S' := [z]) (by simp)).trans HF.out (fun x hx _ => hx)) (by simp; omega)) i (by rw [← HQ.out]; omega)
        obtain ⟨x, hx⟩ : ∃ x, x = xs.getD i 0 := ⟨_, rfl⟩
        obtain ⟨y, hy⟩ : ∃ y, y = ys.getD i 0 := ⟨_, rfl⟩
        rw [← hx] at cx
        rw [← hy] at cy
        have HXI := Lib.hid hx
        have HYI := Lib.hid hy
        have hfz := HROW2.out.frozen i
        have cz := HROW2.out.cell (i := i) (by rw [spl_len (by rw [zw_len]; simp; omega)]; simp; omega)
        obtain ⟨old, hold⟩ : ∃ old, old = (spl (List.replicate c (0 : Int)) 0 (zw (bits .and .u64) i xs ys)).getD i 0 := ⟨_, rfl⟩
        rw [← hold] at cz
        clear hx hy hold sx sy hsx hsy
        go_wp2_with fail
        go_region
        go_wp2_with fail
        go_roundg (p - (i + 1))
        case measure => omega
        case rel =>
          refine ⟨i + 1, by omega, rfl, by go_num, ?_, (HF.out.set (.inl (by simp)) _).drew⟩
          have h := HROW2.out.set i (bits .and .u64 x y)
          have hsp := spl_set_end (L := List.replicate c (0 : Int)) (o := 0) (cs := zw (bits .and .u64) i xs ys) (by rw [zw_len]; simp; omega) (bits .and .u64 x y)
          rw [Nat.zero_add, zw_len] at hsp
          rw [hsp, HXI.out, HYI.out, ← zw_succ] at h
          rw [← HXI.out, ← HYI.out] at h
          exact h.drew
      · obtain rfl : i = p := by omega
        have LEN := Lib.hid (zw_len (bits .and .u64) i xs ys)
        clear hsx hsy
        go_wp2_with (go_at_call 118; refine (bnorm_sl _ (zw (bits .and .u64) i xs ys) _ ((src_spl HROW2.out (by rw [LEN.out]; simp; omega)).sl LEN.out hc1 (by unfold maxLen; omega)) HDG.out).mono ?_; rw [HFIN.out]; rintro e w4 ⟨⟨v4, rfl, sw4⟩, rfl⟩)
        go_ret
        exact ⟨_, rfl, sw4, fr_new'' f HF.out hz⟩
set_option maxRecDepth 100000 in
set_option maxHeartbeats 2000000 in
theorem or_any (vx vy : Value) (xs ys : List Int) (w : World) (hx : Sl .u64 w vx xs) (hy : Sl .u64 w vy ys) (hd : DG 18446744073709551616 xs) (hd' : DG 18446744073709551616 ys) (hlx : xs.length ≤ 100000) (hly : ys.length ≤ 100000) :
    Calls Try.prog 106 #[.slice none 0 0, vx, vy] w (RetW (val 18446744073709551616 (zw (bits .or .u64) (max xs.length ys.length) xs ys)) w) := by
  have HDX := Lib.hid hd
  have HDY := Lib.hid hd'
  have HX := Lib.hid hx
  have HY := Lib.hid hy
  obtain ⟨A, cx, rfl, hcx, hmx, hsx⟩ := hx
  obtain ⟨B, cy, rfl, hcy, hmy, hsy⟩ := hy
  unfold maxLen at hmx hmy
  obtain ⟨p, hp⟩ : ∃ p, p = xs.length := ⟨_, rfl⟩
  obtain ⟨q, hq⟩ : ∃ q, q = ys.length := ⟨_, rfl⟩
  have HP := Lib.hid hp
  have HQ := Lib.hid hq
  rw [← hp] at HX hcx hlx hsx ⊢
  rw [← hq] at HY hcy hly hsy ⊢
  clear hp hq hd hd'
  by_cases hpq : p < q
  · have hle : p ≤ q := by omega
    have hfin : zw (bits .or .u64) (max p q) xs ys = zw (bits .or .u64) p xs ys ++ ys.drop p := by
      rw [show max p q = ys.length by have := HQ.out; omega]
      refine zw_tail2 (by have := HQ.out; omega) (fun i h1 h2 => ?_)
      rw [getD_out (xs := xs) (by rw [← HP.out]; omega)]
      exact (u64_bit_zero _ (HDY.out.getD (by omega) i).1 (HDY.out.getD (by omega) i).2).2.2.2.1
    rw [hfin]
    have HFIN := Lib.hid hfin
    have HDG := Lib.hid (bw_dg .or (by simp) (n := max p q) HDX.out HDY.out)
    rw [hfin] at HDG
    clear hfin
    have HM := Lib.hid (fun W => make_any q W (by omega) (by omega))
    go_enter Try.func106, Try.ntmps106
    go_wp2_with (go_at_call 120; refine (HM.out _).mono ?_; rintro e w1 ⟨z, c, rfl, hc1, hc2, row, hz, f⟩; have HROW := Lib.hid row; clear row)
    go_loopg [10] p (BwRel (bits .or .u64) z c p xs ys w1)
    case atStart => exact ⟨0, by omega, rfl, rfl, by rw [zw_zero, spl_nil]; exact HROW.out, Fr.refl _ _⟩
    case round =>
      obtain ⟨i, hi, rfl, rfl, hrow, hf⟩ := hrel
      have HROW2 := Lib.hid hrow
      have HF := Lib.hid hf
      clear hrow hf HROW
      by_cases h1 : i < p
      · obtain ⟨bx, ox, rfl, hbx, sx⟩ := hsx (by omega)
        obtain ⟨by_, oy, rfl, hby, sy⟩ := hsy (by omega)
        have cx := (sx.fr ((f.mono (S' := [z]) (by simp)).trans HF.out (fun x hx _ => hx)) (by simp; omega)) i (by rw [← HP.out]; omega)
        have cy := (sy.fr ((f.mono (S' := [z]) (by simp)).trans HF.out (fun x hx _ => hx)) (by simp; omega)) i (by rw [← HQ.out]; omega)
        obtain ⟨x, hx⟩ : ∃ x, x = xs.getD i 0 := ⟨_, rfl⟩
        obtain ⟨y, hy⟩ : ∃ y, y = ys.getD i 0 := ⟨_, rfl⟩
        rw [← hx] at cx
        rw [← hy] at cy
        have HXI := Lib.hid hx
        have HYI := Lib.hid hy
        have hfz := HROW2.out.frozen i
        have cz := HROW2.out.cell (i := i) (by rw [spl_len (by rw [zw_len]; simp; omega)]; simp; omega)
        obtain ⟨old, hold⟩ : ∃ old, old = (spl (List.replicate c (0 : Int)) 0 (zw (bits .or .u64) i xs ys)).getD i 0 := ⟨_, rfl⟩
        rw [← hold] at cz
        clear hx hy hold sx sy hsx hsy
        go_wp2_with fail
        go_region
        go_wp2_with fail
        go_roundg (p - (i + 1))
        case measure => omega
        case rel =>
          refine ⟨i + 1, by omega, rfl, by go_num, ?_, (HF.out.set (.inl (by simp)) _).drew⟩
          have h := HROW2.out.set i (bits .or .u64 x y)
          have hsp := spl_set_end (L := List.replicate c (0 : Int)) (o := 0) (cs := zw (bits .or .u64) i xs ys) (by rw [zw_len]; simp; omega) (bits .or .u64 x y)
          rw [Nat.zero_add, zw_len] at hsp
          rw [hsp, HXI.out, HYI.out, ← zw_succ] at h
          rw [← HXI.out, ← HYI.out] at h
          exact h.drew
      · obtain rfl : i = p := by omega
        obtain ⟨bs, os, rfl, hbs, ss⟩ := hsy (by omega)
        have HSS := Lib.hid ss
        clear ss
        have LEN := Lib.hid (zw_len (bits .or .u64) i xs ys)
        have HLT := Lib.hid (show (ys.drop i).length = q - i by rw [List.length_drop, ← HQ.out])
        have HSD := Lib.hid ((HSS.out.fr ((f.mono (S' := [z]) (by simp)).trans HF.out (fun x hx _ => hx)) (by simp; omega)).drop i)
        have HDP := Lib.hid (show 0 < q - i → (if c = i then some (⟨z, 0, none⟩ : Addr) else some ⟨z, i, none⟩) = some ⟨z, i, none⟩ ∧ (if cy = i then some (⟨bs, os, none⟩ : Addr) else some ⟨bs, os + i, none⟩) = some ⟨bs, os + i, none⟩ from fun hp => ⟨by rw [if_neg (by omega)], by rw [if_neg (by omega)]⟩)
        have HLL := Lib.hid (show i + (q - i) ≤ (spl (List.replicate c (0 : Int)) 0 (zw (bits .or .u64) i xs ys)).length by rw [spl_len (by rw [LEN.out]; simp; omega)]; simp; omega)
        have HG : Hid (∀ w' : World, Row .u64 87 w' z (spl (spl (List.replicate c 0) 0 (zw (bits .or .u64) i xs ys)) i (ys.drop i)) → Row .u64 87 w' z (spl (List.replicate c 0) 0 (zw (bits .or .u64) i xs ys ++ ys.drop i))) := Lib.hid (fun w' h => by
          have e := spl_app (L := List.replicate c (0 : Int)) (o := 0) (cs := zw (bits .or .u64) i xs ys) (ds := ys.drop i) (by rw [LEN.out]; simp; omega)
          rw [LEN.out, Nat.zero_add] at e
          rw [e] at h
          exact h)
        have LEN2 := Lib.hid (show (zw (bits .or .u64) i xs ys ++ ys.drop i).length = q by rw [List.length_append, LEN.out, HLT.out]; omega)
        have him : (i : Int) ≤ (q : Int) := by omega
        have hmc : (q : Int) ≤ (c : Int) := by omega
        have hmcs : (q : Int) ≤ (cy : Int) := by omega
        obtain ⟨ZL, hZL⟩ : ∃ ZL, ZL = zw (bits .or .u64) i xs ys ++ ys.drop i := ⟨_, rfl⟩
        obtain ⟨SL, hSL⟩ : ∃ SL, SL = spl (List.replicate c (0 : Int)) 0 (zw (bits .or .u64) i xs ys) := ⟨_, rfl⟩
        obtain ⟨DL, hDL⟩ : ∃ DL, DL = ys.drop i := ⟨_, rfl⟩
        rw [← hSL] at HROW2 HLL HG
        rw [← hZL] at HG LEN2 HDG HFIN ⊢
        rw [← hDL] at HLT HSD HG
        have HZL := Lib.hid hZL
        clear hsx hsy hZL hSL hDL
        go_wp2_with fail
        go_region_law (refine step_copy rfl (.tmp 45) (.tmp 49) _ _ rfl .u64 87 Try.underlying79 size_wordS (if c = i then some ⟨z, 0, none⟩ else some ⟨z, i, none⟩) (if cy = i then some ⟨bs, os, none⟩ else some ⟨bs, os + i, none⟩) (q - i) (c - i) (cy - i) (by simp [Act.eval, Act.put]) DL (by simp [Act.eval, Act.put]) HLT.out bs (os + i) (Src.drew HSD.out) z i SL HROW2.out.drew HDP.out HLL.out ?_; intro w2 row2 f2; have HR3 := Lib.hid (HG.out _ row2); clear HG row2)
        all_goals (go_wp2_with (go_at_call 118; refine (bnorm_sl _ ZL _ ((src_spl HR3.out (by rw [LEN2.out]; simp; omega)).sl LEN2.out hc1 (by unfold maxLen; omega)) HDG.out).mono ?_; rintro e w4 ⟨⟨v4, rfl, sw4⟩, rfl⟩))
        all_goals go_ret
        all_goals exact ⟨_, rfl, by rw [← HZL.out]; exact sw4, fr_new'' f ((HF.out.drew).trans f2 (fun x hx _ => hx)) hz⟩
  · have hle : q ≤ p := by omega
    have hfin : zw (bits .or .u64) (max p q) xs ys = zw (bits .or .u64) q xs ys ++ xs.drop q := by
      rw [show max p q = xs.length by have := HP.out; omega]
      refine zw_tail (by have := HP.out; omega) (fun i h1 h2 => ?_)
      rw [getD_out (xs := ys) (by rw [← HQ.out]; omega)]
      exact (u64_bit_zero _ (HDX.out.getD (by omega) i).1 (HDX.out.getD (by omega) i).2).2.2.1
    rw [hfin]
    have HFIN := Lib.hid hfin
    have HDG := Lib.hid (bw_dg .or (by simp) (n := max p q) HDX.out HDY.out)
    rw [hfin] at HDG
    clear hfin
    by_cases h0 : p = 0
    · have hn0 : q = 0 := by omega
      have HFZ : Hid (val 18446744073709551616 (zw (bits .or .u64) q xs ys ++ xs.drop q) = 0) := Lib.hid (by rw [hn0, zw_zero, List.eq_nil_of_length_eq_zero (show (xs.drop 0).length = 0 by rw [List.length_drop]; have := HP.out; omega)]; rfl)
      rw [HFZ.out]
      clear HFIN HDG HFZ hsx hsy
      have h0' : q = 0 := by omega
      have h0'' : p = 0 := by omega
      clear h0 hn0 hle
      subst h0' h0''
      go_enter Try.func106, Try.ntmps106
      go_wp2_with (first
        | (go_at_call 120; refine (make0 _).mono ?_; rintro e w1 ⟨rfl, rfl⟩))
      go_loopg [10] 0 (fun g iv wr => iv = .int .i64 0 ∧ w = wr)
      case atStart => exact ⟨rfl, rfl⟩
      case round =>
        obtain ⟨rfl, rfl⟩ := hrel
        go_wp2_with fail
        go_region_law (refine step_copy_none rfl (.tmp 45) (.tmp 49) _ _ rfl 87 Try.underlying79 size_wordS none A 0 0 cx (by simp [Act.eval, Act.put]) (by simp [Act.eval, Act.put]) ?_)
        all_goals (go_wp2_with (first
          | (go_at_call 118; refine (bnorm_sl _ [] _ (Sl.nil _ _) (DG.nil _)).mono ?_; rw [val_nil]; rintro e w4 ⟨⟨v4, rfl, sw4⟩, rfl⟩)))
        all_goals go_ret
        all_goals exact ⟨_, rfl, sw4, (Fr.refl _ _).drewN _⟩
    have HM := Lib.hid (fun W => make_any p W (by omega) (by omega))
    go_enter Try.func106, Try.ntmps106
    go_wp2_with (go_at_call 120; refine (HM.out _).mono ?_; rintro e w1 ⟨z, c, rfl, hc1, hc2, row, hz, f⟩; have HROW := Lib.hid row; clear row)
    go_loopg [10] q (BwRel (bits .or .u64) z c q xs ys w1)
    case atStart => exact ⟨0, by omega, rfl, rfl, by rw [zw_zero, spl_nil]; exact HROW.out, Fr.refl _ _⟩
    case round =>
      obtain ⟨i, hi, rfl, rfl, hrow, hf⟩ := hrel
      have HROW2 := Lib.hid hrow
      have HF := Lib.hid hf
      clear hrow hf HROW
      by_cases h1 : i < q
      · obtain ⟨bx, ox, rfl, hbx, sx⟩ := hsx (by omega)
        obtain ⟨by_, oy, rfl, hby, sy⟩ := hsy (by omega)
        have cx := (sx.fr ((f.mono (S' := [z]) (by simp)).trans HF.out (fun x hx _ => hx)) (by simp; omega)) i (by rw [← HP.out]; omega)
        have cy := (sy.fr ((f.mono (S' := [z]) (by simp)).trans HF.out (fun x hx _ => hx)) (by simp; omega)) i (by rw [← HQ.out]; omega)
        obtain ⟨x, hx⟩ : ∃ x, x = xs.getD i 0 := ⟨_, rfl⟩
        obtain ⟨y, hy⟩ : ∃ y, y = ys.getD i 0 := ⟨_, rfl⟩
        rw [← hx] at cx
        rw [← hy] at cy
        have HXI := Lib.hid hx
        have HYI := Lib.hid hy
        have hfz := HROW2.out.frozen i
        have cz := HROW2.out.cell (i := i) (by rw [spl_len (by rw [zw_len]; simp; omega)]; simp; omega)
        obtain ⟨old, hold⟩ : ∃ old, old = (spl (List.replicate c (0 : Int)) 0 (zw (bits .or .u64) i xs ys)).getD i 0 := ⟨_, rfl⟩
        rw [← hold] at cz
        clear hx hy hold sx sy hsx hsy
        go_wp2_with fail
        go_region
        go_wp2_with fail
        go_roundg (q - (i + 1))
        case measure => omega
        case rel =>
          refine ⟨i + 1, by omega, rfl, by go_num, ?_, (HF.out.set (.inl (by simp)) _).drew⟩
          have h := HROW2.out.set i (bits .or .u64 x y)
          have hsp := spl_set_end (L := List.replicate c (0 : Int)) (o := 0) (cs := zw (bits .or .u64) i xs ys) (by rw [zw_len]; simp; omega) (bits .or .u64 x y)
          rw [Nat.zero_add, zw_len] at hsp
          rw [hsp, HXI.out, HYI.out, ← zw_succ] at h
          rw [← HXI.out, ← HYI.out] at h
          exact h.drew
      · obtain rfl : i = q := by omega
        obtain ⟨bs, os, rfl, hbs, ss⟩ := hsx (by omega)
        have HSS := Lib.hid ss
        clear ss
        have LEN := Lib.hid (zw_len (bits .or .u64) i xs ys)
        have HLT := Lib.hid (show (xs.drop i).length = p - i by rw [List.length_drop, ← HP.out])
        have HSD := Lib.hid ((HSS.out.fr ((f.mono (S' := [z]) (by simp)).trans HF.out (fun x hx _ => hx)) (by simp; omega)).drop i)
        have HDP := Lib.hid (show 0 < p - i → (if c = i then some (⟨z, 0, none⟩ : Addr) else some ⟨z, i, none⟩) = some ⟨z, i, none⟩ ∧ (if cx = i then some (⟨bs, os, none⟩ : Addr) else some ⟨bs, os + i, none⟩) = some ⟨bs, os + i, none⟩ from fun hp => ⟨by rw [if_neg (by omega)], by rw [if_neg (by omega)]⟩)
        have HLL := Lib.hid (show i + (p - i) ≤ (spl (List.replicate c (0 : Int)) 0 (zw (bits .or .u64) i xs ys)).length by rw [spl_len (by rw [LEN.out]; simp; omega)]; simp; omega)
        have HG : Hid (∀ w' : World, Row .u64 87 w' z (spl (spl (List.replicate c 0) 0 (zw (bits .or .u64) i xs ys)) i (xs.drop i)) → Row .u64 87 w' z (spl (List.replicate c 0) 0 (zw (bits .or .u64) i xs ys ++ xs.drop i))) := Lib.hid (fun w' h => by
          have e := spl_app (L := List.replicate c (0 : Int)) (o := 0) (cs := zw (bits .or .u64) i xs ys) (ds := xs.drop i) (by rw [LEN.out]; simp; omega)
          rw [LEN.out, Nat.zero_add] at e
          rw [e] at h
          exact h)
        have LEN2 := Lib.hid (show (zw (bits .or .u64) i xs ys ++ xs.drop i).length = p by rw [List.length_append, LEN.out, HLT.out]; omega)
        have him : (i : Int) ≤ (p : Int) := by omega
        have hmc : (p : Int) ≤ (c : Int) := by omega
        have hmcs : (p : Int) ≤ (cx : Int) := by omega
        obtain ⟨ZL, hZL⟩ : ∃ ZL, ZL = zw (bits .or .u64) i xs ys ++ xs.drop i := ⟨_, rfl⟩
        obtain ⟨SL, hSL⟩ : ∃ SL, SL = spl (List.replicate c (0 : Int)) 0 (zw (bits .or .u64) i xs ys) := ⟨_, rfl⟩
        obtain ⟨DL, hDL⟩ : ∃ DL, DL = xs.drop i := ⟨_, rfl⟩
        rw [← hSL] at HROW2 HLL HG
        rw [← hZL] at HG LEN2 HDG HFIN ⊢
        rw [← hDL] at HLT HSD HG
        have HZL := Lib.hid hZL
        clear hsx hsy hZL hSL hDL
        go_wp2_with fail
        go_region_law (refine step_copy rfl (.tmp 45) (.tmp 49) _ _ rfl .u64 87 Try.underlying79 size_wordS (if c = i then some ⟨z, 0, none⟩ else some ⟨z, i, none⟩) (if cx = i then some ⟨bs, os, none⟩ else some ⟨bs, os + i, none⟩) (p - i) (c - i) (cx - i) (by simp [Act.eval, Act.put]) DL (by simp [Act.eval, Act.put]) HLT.out bs (os + i) (Src.drew HSD.out) z i SL HROW2.out.drew HDP.out HLL.out ?_; intro w2 row2 f2; have HR3 := Lib.hid (HG.out _ row2); clear HG row2)
        all_goals (go_wp2_with (go_at_call 118; refine (bnorm_sl _ ZL _ ((src_spl HR3.out (by rw [LEN2.out]; simp; omega)).sl LEN2.out hc1 (by unfold maxLen; omega)) HDG.out).mono ?_; rintro e w4 ⟨⟨v4, rfl, sw4⟩, rfl⟩))
        all_goals go_ret
        all_goals exact ⟨_, rfl, by rw [← HZL.out]; exact sw4, fr_new'' f ((HF.out.drew).trans f2 (fun x hx _ => hx)) hz⟩
set_option maxRecDepth 100000 in
set_option maxHeartbeats 2000000 in
theorem xor_any (vx vy : Value) (xs ys : List Int) (w : World) (hx : Sl .u64 w vx xs) (hy : Sl .u64 w vy ys) (hd : DG 18446744073709551616 xs) (hd' : DG 18446744073709551616 ys) (hlx : xs.length ≤ 100000) (hly : ys.length ≤ 100000) :
    Calls Try.prog 107 #[.slice none 0 0, vx, vy] w (RetW (val 18446744073709551616 (zw (bits .xor .u64) (max xs.length ys.length) xs ys)) w) := by
  have HDX := Lib.hid hd
  have HDY := Lib.hid hd'
  have HX := Lib.hid hx
  have HY := Lib.hid hy
  obtain ⟨A, cx, rfl, hcx, hmx, hsx⟩ := hx
  obtain ⟨B, cy, rfl, hcy, hmy, hsy⟩ := hy
  unfold maxLen at hmx hmy
  obtain ⟨p, hp⟩ : ∃ p, p = xs.length := ⟨_, rfl⟩
  obtain ⟨q, hq⟩ : ∃ q, q = ys.length := ⟨_, rfl⟩
  have HP := Lib.hid hp
  have HQ := Lib.hid hq
  rw [← hp] at HX hcx hlx hsx ⊢
  rw [← hq] at HY hcy hly hsy ⊢
  clear hp hq hd hd'
  by_cases hpq : p < q
  · have hle : p ≤ q := by omega
    have hfin : zw (bits .xor .u64) (max p q) xs ys = zw (bits .xor .u64) p xs ys ++ ys.drop p := by
      rw [show max p q = ys.length by have := HQ.out; omega]
      refine zw_tail2 (by have := HQ.out; omega) (fun i h1 h2 => ?_)
      rw [getD_out (xs := xs) (by rw [← HP.out]; omega)]
      exact (u64_bit_zero _ (HDY.out.getD (by omega) i).1 (HDY.out.getD (by omega) i).2).2.2.2.2.2.1
    rw [hfin]
    have HFIN := Lib.hid hfin
    have HDG := Lib.hid (bw_dg .xor (by simp) (n := max p q) HDX.out HDY.out)
    rw [hfin] at HDG
    clear hfin
    have HM := Lib.hid (fun W => make_any q W (by omega) (by omega))
    go_enter Try.func107, Try.ntmps107
    go_wp2_with (go_at_call 120; refine (HM.out _).mono ?_; rintro e w1 ⟨z, c, rfl, hc1, hc2, row, hz, f⟩; have HROW := Lib.hid row; clear row)
    go_loopg [10] p (BwRel (bits .xor .u64) z c p xs ys w1)
    case atStart => exact ⟨0, by omega, rfl, rfl, by rw [zw_zero, spl_nil]; exact HROW.out, Fr.refl _ _⟩
    case round =>
      obtain ⟨i, hi, rfl, rfl, hrow, hf⟩ := hrel
      have HROW2 := Lib.hid hrow
      have HF := Lib.hid hf
      clear hrow hf HROW
      by_cases h1 : i < p
      · obtain ⟨bx, ox, rfl, hbx, sx⟩ := hsx (by omega)
        obtain ⟨by_, oy, rfl, hby, sy⟩ := hsy (by omega)
        have cx := (sx.fr ((f.mono (S' := [z]) (by simp)).trans HF.out (fun x hx _ => hx)) (by simp; omega)) i (by rw [← HP.out]; omega)
        have cy := (sy.fr ((f.mono (S' := [z]) (by simp)).trans HF.out (fun x hx _ => hx)) (by simp; omega)) i (by rw [← HQ.out]; omega)
        obtain ⟨x, hx⟩ : ∃ x, x = xs.getD i 0 := ⟨_, rfl⟩
        obtain ⟨y, hy⟩ : ∃ y, y = ys.getD i 0 := ⟨_, rfl⟩
        rw [← hx] at cx
        rw [← hy] at cy
        have HXI := Lib.hid hx
        have HYI := Lib.hid hy
        have hfz := HROW2.out.frozen i
        have cz := HROW2.out.cell (i := i) (by rw [spl_len (by rw [zw_len]; simp; omega)]; simp; omega)
        obtain ⟨old, hold⟩ : ∃ old, old = (spl (List.replicate c (0 : Int)) 0 (zw (bits .xor .u64) i xs ys)).getD i 0 := ⟨_, rfl⟩
        rw [← hold] at cz
        clear hx hy hold sx sy hsx hsy
        go_wp2_with fail
        go_region
        go_wp2_with fail
        go_roundg (p - (i + 1))
        case measure => omega
        case rel =>
          refine ⟨i + 1, by omega, rfl, by go_num, ?_, (HF.out.set (.inl (by simp)) _).drew⟩
          have h := HROW2.out.set i (bits .xor .u64 x y)
          have hsp := spl_set_end (L := List.replicate c (0 : Int)) (o := 0) (cs := zw (bits .xor .u64) i xs ys) (by rw [zw_len]; simp; omega) (bits .xor .u64 x y)
          rw [Nat.zero_add, zw_len] at hsp
          rw [hsp, HXI.out, HYI.out, ← zw_succ] at h
          rw [← HXI.out, ← HYI.out] at h
          exact h.drew
      · obtain rfl : i = p := by omega
        obtain ⟨bs, os, rfl, hbs, ss⟩ := hsy (by omega)
        have HSS := Lib.hid ss
        clear ss
        have LEN := Lib.hid (zw_len (bits .xor .u64) i xs ys)
        have HLT := Lib.hid (show (ys.drop i).length = q - i by rw [List.length_drop, ← HQ.out])
        have HSD := Lib.hid ((HSS.out.fr ((f.mono (S' := [z]) (by simp)).trans HF.out (fun x hx _ => hx)) (by simp; omega)).drop i)
        have HDP := Lib.hid (show 0 < q - i → (if c = i then some (⟨z, 0, none⟩ : Addr) else some ⟨z, i, none⟩) = some ⟨z, i, none⟩ ∧ (if cy = i then some (⟨bs, os, none⟩ : Addr) else some ⟨bs, os + i, none⟩) = some ⟨bs, os + i, none⟩ from fun hp => ⟨by rw [if_neg (by omega)], by rw [if_neg (by omega)]⟩)
        have HLL := Lib.hid (show i + (q - i) ≤ (spl (List.replicate c (0 : Int)) 0 (zw (bits .xor .u64) i xs ys)).length by rw [spl_len (by rw [LEN.out]; simp; omega)]; simp; omega)
        have HG : Hid (∀ w' : World, Row .u64 87 w' z (spl (spl (List.replicate c 0) 0 (zw (bits .xor .u64) i xs ys)) i (ys.drop i)) → Row .u64 87 w' z (spl (List.replicate c 0) 0 (zw (bits .xor .u64) i xs ys ++ ys.drop i))) := Lib.hid (fun w' h => by
          have e := spl_app (L := List.replicate c (0 : Int)) (o := 0) (cs := zw (bits .xor .u64) i xs ys) (ds := ys.drop i) (by rw [LEN.out]; simp; omega)
          rw [LEN.out, Nat.zero_add] at e
          rw [e] at h
          exact h)
        have LEN2 := Lib.hid (show (zw (bits .xor .u64) i xs ys ++ ys.drop i).length = q by rw [List.length_append, LEN.out, HLT.out]; omega)
        have him : (i : Int) ≤ (q : Int) := by omega
        have hmc : (q : Int) ≤ (c : Int) := by omega
        have hmcs : (q : Int) ≤ (cy : Int) := by omega
        obtain ⟨ZL, hZL⟩ : ∃ ZL, ZL = zw (bits .xor .u64) i xs ys ++ ys.drop i := ⟨_, rfl⟩
        obtain ⟨SL, hSL⟩ : ∃ SL, SL = spl (List.replicate c (0 : Int)) 0 (zw (bits .xor .u64) i xs ys) := ⟨_, rfl⟩
        obtain ⟨DL, hDL⟩ : ∃ DL, DL = ys.drop i := ⟨_, rfl⟩
        rw [← hSL] at HROW2 HLL HG
        rw [← hZL] at HG LEN2 HDG HFIN ⊢
        rw [← hDL] at HLT HSD HG
        have HZL := Lib.hid hZL
        clear hsx hsy hZL hSL hDL
        go_wp2_with fail
        go_region_law (refine step_copy rfl (.tmp 45) (.tmp 49) _ _ rfl .u64 87 Try.underlying79 size_wordS (if c = i then some ⟨z, 0, none⟩ else some ⟨z, i, none⟩) (if cy = i then some ⟨bs, os, none⟩ else some ⟨bs, os + i, none⟩) (q - i) (c - i) (cy - i) (by simp [Act.eval, Act.put]) DL (by simp [Act.eval, Act.put]) HLT.out bs (os + i) (Src.drew HSD.out) z i SL HROW2.out.drew HDP.out HLL.out ?_; intro w2 row2 f2; have HR3 := Lib.hid (HG.out _ row2); clear HG row2)
        all_goals (go_wp2_with (go_at_call 118; refine (bnorm_sl _ ZL _ ((src_spl HR3.out (by rw [LEN2.out]; simp; omega)).sl LEN2.out hc1 (by unfold maxLen; omega)) HDG.out).mono ?_; rintro e w4 ⟨⟨v4, rfl, sw4⟩, rfl⟩))
        all_goals go_ret
        all_goals exact ⟨_, rfl, by rw [← HZL.out]; exact sw4, fr_new'' f ((HF.out.drew).trans f2 (fun x hx _ => hx)) hz⟩
  · have hle : q ≤ p := by omega
    have hfin : zw (bits .xor .u64) (max p q) xs ys = zw (bits .xor .u64) q xs ys ++ xs.drop q := by
      rw [show max p q = xs.length by have := HP.out; omega]
      refine zw_tail (by have := HP.out; omega) (fun i h1 h2 => ?_)
      rw [getD_out (xs := ys) (by rw [← HQ.out]; omega)]
      exact (u64_bit_zero _ (HDX.out.getD (by omega) i).1 (HDX.out.getD (by omega) i).2).2.2.2.2.1
    rw [hfin]
    have HFIN := Lib.hid hfin
    have HDG := Lib.hid (bw_dg .xor (by simp) (n := max p q) HDX.out HDY.out)
    rw [hfin] at HDG
    clear hfin
    by_cases h0 : p = 0
    · have hn0 : q = 0 := by omega
      have HFZ : Hid (val 18446744073709551616 (zw (bits .xor .u64) q xs ys ++ xs.drop q) = 0) := Lib.hid (by rw [hn0, zw_zero, List.eq_nil_of_length_eq_zero (show (xs.drop 0).length = 0 by rw [List.length_drop]; have := HP.out; omega)]; rfl)
      rw [HFZ.out]
      clear HFIN HDG HFZ hsx hsy
      have h0' : q = 0 := by omega
      have h0'' : p = 0 := by omega
      clear h0 hn0 hle
      subst h0' h0''
      go_enter Try.func107, Try.ntmps107
      go_wp2_with (first
        | (go_at_call 120; refine (make0 _).mono ?_; rintro e w1 ⟨rfl, rfl⟩))
      go_loopg [10] 0 (fun g iv wr => iv = .int .i64 0 ∧ w = wr)
      case atStart => exact ⟨rfl, rfl⟩
      case round =>
        obtain ⟨rfl, rfl⟩ := hrel
        go_wp2_with fail
        go_region_law (refine step_copy_none rfl (.tmp 45) (.tmp 49) _ _ rfl 87 Try.underlying79 size_wordS none A 0 0 cx (by simp [Act.eval, Act.put]) (by simp [Act.eval, Act.put]) ?_)
        all_goals (go_wp2_with (first
          | (go_at_call 118; refine (bnorm_sl _ [] _ (Sl.nil _ _) (DG.nil _)).mono ?_; rw [val_nil]; rintro e w4 ⟨⟨v4, rfl, sw4⟩, rfl⟩)))
        all_goals go_ret
        all_goals exact ⟨_, rfl, sw4, (Fr.refl _ _).drewN _⟩
    have HM := Lib.hid (fun W => make_any p W (by omega) (by omega))
    go_enter Try.func107, Try.ntmps107
    go_wp2_with (go_at_call 120; refine (HM.out _).mono ?_; rintro e w1 ⟨z, c, rfl, hc1, hc2, row, hz, f⟩; have HROW := Lib.hid row; clear row)
    go_loopg [10] q (BwRel (bits .xor .u64) z c q xs ys w1)
    case atStart => exact ⟨0, by omega, rfl, rfl, by rw [zw_zero, spl_nil]; exact HROW.out, Fr.refl _ _⟩
    case round =>
      obtain ⟨i, hi, rfl, rfl, hrow, hf⟩ := hrel
      have HROW2 := Lib.hid hrow
      have HF := Lib.hid hf
      clear hrow hf HROW
      by_cases h1 : i < q
      · obtain ⟨bx, ox, rfl, hbx, sx⟩ := hsx (by omega)
        obtain ⟨by_, oy, rfl, hby, sy⟩ := hsy (by omega)
        have cx := (sx.fr ((f.mono (S' := [z]) (by simp)).trans HF.out (fun x hx _ => hx)) (by simp; omega)) i (by rw [← HP.out]; omega)
        have cy := (sy.fr ((f.mono (S' := [z]) (by simp)).trans HF.out (fun x hx _ => hx)) (by simp; omega)) i (by rw [← HQ.out]; omega)
        obtain ⟨x, hx⟩ : ∃ x, x = xs.getD i 0 := ⟨_, rfl⟩
        obtain ⟨y, hy⟩ : ∃ y, y = ys.getD i 0 := ⟨_, rfl⟩
        rw [← hx] at cx
        rw [← hy] at cy
        have HXI := Lib.hid hx
        have HYI := Lib.hid hy
        have hfz := HROW2.out.frozen i
        have cz := HROW2.out.cell (i := i) (by rw [spl_len (by rw [zw_len]; simp; omega)]; simp; omega)
        obtain ⟨old, hold⟩ : ∃ old, old = (spl (List.replicate c (0 : Int)) 0 (zw (bits .xor .u64) i xs ys)).getD i 0 := ⟨_, rfl⟩
        rw [← hold] at cz
        clear hx hy hold sx sy hsx hsy
        go_wp2_with fail
        go_region
        go_wp2_with fail
        go_roundg (q - (i + 1))
        case measure => omega
        case rel =>
          refine ⟨i + 1, by omega, rfl, by go_num, ?_, (HF.out.set (.inl (by simp)) _).drew⟩
          have h := HROW2.out.set i (bits .xor .u64 x y)
          have hsp := spl_set_end (L := List.replicate c (0 : Int)) (o := 0) (cs := zw (bits .xor .u64) i xs ys) (by rw [zw_len]; simp; omega) (bits .xor .u64 x y)
          rw [Nat.zero_add, zw_len] at hsp
          rw [hsp, HXI.out, HYI.out, ← zw_succ] at h
          rw [← HXI.out, ← HYI.out] at h
          exact h.drew
      · obtain rfl : i = q := by omega
        obtain ⟨bs, os, rfl, hbs, ss⟩ := hsx (by omega)
        have HSS := Lib.hid ss
        clear ss
        have LEN := Lib.hid (zw_len (bits .xor .u64) i xs ys)
        have HLT := Lib.hid (show (xs.drop i).length = p - i by rw [List.length_drop, ← HP.out])
        have HSD := Lib.hid ((HSS.out.fr ((f.mono (S' := [z]) (by simp)).trans HF.out (fun x hx _ => hx)) (by simp; omega)).drop i)
        have HDP := Lib.hid (show 0 < p - i → (if c = i then some (⟨z, 0, none⟩ : Addr) else some ⟨z, i, none⟩) = some ⟨z, i, none⟩ ∧ (if cx = i then some (⟨bs, os, none⟩ : Addr) else some ⟨bs, os + i, none⟩) = some ⟨bs, os + i, none⟩ from fun hp => ⟨by rw [if_neg (by omega)], by rw [if_neg (by omega)]⟩)
        have HLL := Lib.hid (show i + (p - i) ≤ (spl (List.replicate c (0 : Int)) 0 (zw (bits .xor .u64) i xs ys)).length by rw [spl_len (by rw [LEN.out]; simp; omega)]; simp; omega)
        have HG : Hid (∀ w' : World, Row .u64 87 w' z (spl (spl (List.replicate c 0) 0 (zw (bits .xor .u64) i xs ys)) i (xs.drop i)) → Row .u64 87 w' z (spl (List.replicate c 0) 0 (zw (bits .xor .u64) i xs ys ++ xs.drop i))) := Lib.hid (fun w' h => by
          have e := spl_app (L := List.replicate c (0 : Int)) (o := 0) (cs := zw (bits .xor .u64) i xs ys) (ds := xs.drop i) (by rw [LEN.out]; simp; omega)
          rw [LEN.out, Nat.zero_add] at e
          rw [e] at h
          exact h)
        have LEN2 := Lib.hid (show (zw (bits .xor .u64) i xs ys ++ xs.drop i).length = p by rw [List.length_append, LEN.out, HLT.out]; omega)
        have him : (i : Int) ≤ (p : Int) := by omega
        have hmc : (p : Int) ≤ (c : Int) := by omega
        have hmcs : (p : Int) ≤ (cx : Int) := by omega
        obtain ⟨ZL, hZL⟩ : ∃ ZL, ZL = zw (bits .xor .u64) i xs ys ++ xs.drop i := ⟨_, rfl⟩
        obtain ⟨SL, hSL⟩ : ∃ SL, SL = spl (List.replicate c (0 : Int)) 0 (zw (bits .xor .u64) i xs ys) := ⟨_, rfl⟩
        obtain ⟨DL, hDL⟩ : ∃ DL, DL = xs.drop i := ⟨_, rfl⟩
        rw [← hSL] at HROW2 HLL HG
        rw [← hZL] at HG LEN2 HDG HFIN ⊢
        rw [← hDL] at HLT HSD HG
        have HZL := Lib.hid hZL
        clear hsx hsy hZL hSL hDL
        go_wp2_with fail
        go_region_law (refine step_copy rfl (.tmp 45) (.tmp 49) _ _ rfl .u64 87 Try.underlying79 size_wordS (if c = i then some ⟨z, 0, none⟩ else some ⟨z, i, none⟩) (if cx = i then some ⟨bs, os, none⟩ else some ⟨bs, os + i, none⟩) (p - i) (c - i) (cx - i) (by simp [Act.eval, Act.put]) DL (by simp [Act.eval, Act.put]) HLT.out bs (os + i) (Src.drew HSD.out) z i SL HROW2.out.drew HDP.out HLL.out ?_; intro w2 row2 f2; have HR3 := Lib.hid (HG.out _ row2); clear HG row2)
        all_goals (go_wp2_with (go_at_call 118; refine (bnorm_sl _ ZL _ ((src_spl HR3.out (by rw [LEN2.out]; simp; omega)).sl LEN2.out hc1 (by unfold maxLen; omega)) HDG.out).mono ?_; rintro e w4 ⟨⟨v4, rfl, sw4⟩, rfl⟩))
        all_goals go_ret
        all_goals exact ⟨_, rfl, by rw [← HZL.out]; exact sw4, fr_new'' f ((HF.out.drew).trans f2 (fun x hx _ => hx)) hz⟩
set_option maxRecDepth 100000 in
set_option maxHeartbeats 2000000 in
theorem andNot_any (vx vy : Value) (xs ys : List Int) (w : World) (hx : Sl .u64 w vx xs) (hy : Sl .u64 w vy ys) (hd : DG 18446744073709551616 xs) (hd' : DG 18446744073709551616 ys) (hlx : xs.length ≤ 100000) (hly : ys.length ≤ 100000) :
    Calls Try.prog 108 #[.slice none 0 0, vx, vy] w (RetW (val 18446744073709551616 (zw (bits .andNot .u64) (max xs.length ys.length) xs ys)) w) := by
  have HDX := Lib.hid hd
  have HDY := Lib.hid hd'
  have HX := Lib.hid hx
  have HY := Lib.hid hy
  obtain ⟨A, cx, rfl, hcx, hmx, hsx⟩ := hx
  obtain ⟨B, cy, rfl, hcy, hmy, hsy⟩ := hy
  unfold maxLen at hmx hmy
  obtain ⟨p, hp⟩ : ∃ p, p = xs.length := ⟨_, rfl⟩
  obtain ⟨q, hq⟩ : ∃ q, q = ys.length := ⟨_, rfl⟩
  have HP := Lib.hid hp
  have HQ := Lib.hid hq
  rw [← hp] at HX hcx hlx hsx ⊢
  rw [← hq] at HY hcy hly hsy ⊢
  clear hp hq hd hd'
  by_cases hpq : p < q
  · have hle : p ≤ q := by omega
    have hfin : val 18446744073709551616 (zw (bits .andNot .u64) p xs ys) = val 18446744073709551616 (zw (bits .andNot .u64) (max p q) xs ys) := by
      refine (val_zw_pad (by omega) (fun i h1 h2 => ?_)).symm
      rw [getD_out (xs := xs) (by rw [← HP.out]; omega)]
      exact (u64_bit_zero _ (HDY.out.getD (by omega) i).1 (HDY.out.getD (by omega) i).2).2.2.2.2.2.2.2
    rw [← hfin]
    have HDG := Lib.hid (bw_dg .andNot (by simp) (n := p) HDX.out HDY.out)
    clear hfin
    by_cases h0 : p = 0
    · have hx0 := h0
      subst hx0
      rw [zw_zero, val_nil]
      clear HDG hsx hsy h0
      go_enter Try.func108, Try.ntmps108
      go_wp2_with (first
        | (go_at_call 120; refine (make0 _).mono ?_; rintro e w1 ⟨rfl, rfl⟩))
      go_loopg [9] 0 (fun g iv wr => iv = .int .i64 0 ∧ w = wr)
      case atStart => exact ⟨rfl, rfl⟩
      case round =>
        obtain ⟨rfl, rfl⟩ := hrel
        go_wp2_with fail
        go_region_law (refine step_copy_none rfl (.tmp 41) (.tmp 45) _ _ rfl 87 Try.underlying79 size_wordS none A 0 0 cx (by simp [Act.eval, Act.put]) (by simp [Act.eval, Act.put]) ?_)
        all_goals (go_wp2_with (first
          | (go_at_call 118; refine (bnorm_sl _ [] _ (Sl.nil _ _) (DG.nil _)).mono ?_; rw [val_nil]; rintro e w4 ⟨⟨v4, rfl, sw4⟩, rfl⟩)))
        all_goals go_ret
        all_goals exact ⟨_, rfl, sw4, (Fr.refl _ _).drewN _⟩
    have HM := Lib.hid (fun W => make_any p W (by omega) (by omega))
    go_enter Try.func108, Try.ntmps108
    go_wp2_with (go_at_call 120; refine (HM.out _).mono ?_; rintro e w1 ⟨z, c, rfl, hc1, hc2, row, hz, f⟩; have HROW := Lib.hid row; clear row)
    go_loopg [9] p (BwRel (bits .andNot .u64) z c p xs ys w1)
    case atStart => exact ⟨0, by omega, rfl, rfl, by rw [zw_zero, spl_nil]; exact HROW.out, Fr.refl _ _⟩
    case round =>
      obtain ⟨i, hi, rfl, rfl, hrow, hf⟩ := hrel
      have HROW2 := Lib.hid hrow
      have HF := Lib.hid hf
      clear hrow hf HROW
      by_cases h1 : i < p
      · obtain ⟨bx, ox, rfl, hbx, sx⟩ := hsx (by omega)
        obtain ⟨by_, oy, rfl, hby, sy⟩ := hsy (by omega)
        have cx := (sx.fr ((f.mono (S' := [z]) (by simp)).trans HF.out (fun x hx _ => hx)) (by simp; omega)) i (by rw [← HP.out]; omega)
        have cy := (sy.fr ((f.mono (S' := [z]) (by simp)).trans HF.out (fun x hx _ => hx)) (by simp; omega)) i (by rw [← HQ.out]; omega)
        obtain ⟨x, hx⟩ : ∃ x, x = xs.getD i 0 := ⟨_, rfl⟩
        obtain ⟨y, hy⟩ : ∃ y, y = ys.getD i 0 := ⟨_, rfl⟩
        rw [← hx] at cx
        rw [← hy] at cy
        have HXI := Lib.hid hx
        have HYI := Lib.hid hy
        have hfz := HROW2.out.frozen i
        have cz := HROW2.out.cell (i := i) (by rw [spl_len (by rw [zw_len]; simp; omega)]; simp; omega)
        obtain ⟨old, hold⟩ : ∃ old, old = (spl (List.replicate c (0 : Int)) 0 (zw (bits .andNot .u64) i xs ys)).getD i 0 := ⟨_, rfl⟩
        rw [← hold] at cz
        clear hx hy hold sx sy hsx hsy
        go_wp2_with fail
        go_region
        go_wp2_with fail
        go_roundg (p - (i + 1))
        case measure => omega
        case rel =>
          refine ⟨i + 1, by omega, rfl, by go_num, ?_, (HF.out.set (.inl (by simp)) _).drew⟩
          have h := HROW2.out.set i (bits .andNot .u64 x y)
          have hsp := spl_set_end (L := List.replicate c (0 : Int)) (o := 0) (cs := zw (bits .andNot .u64) i xs ys) (by rw [zw_len]; simp; omega) (bits .andNot .u64 x y)
          rw [Nat.zero_add, zw_len] at hsp
          rw [hsp, HXI.out, HYI.out, ← zw_succ] at h
          rw [← HXI.out, ← HYI.out] at h
          exact h.drew
      · obtain rfl : i = p := by omega
        obtain ⟨bs, os, rfl, hbs, ss⟩ := hsx (by omega)
        clear ss
        have LEN := Lib.hid (zw_len (bits .andNot .u64) i xs ys)
        have hmc : (i : Int) ≤ (c : Int) := by omega
        have hmcs : (i : Int) ≤ (cx : Int) := by omega
        clear hsx hsy
        go_wp2_with fail
        go_region_law (refine step_copy_none rfl (.tmp 41) (.tmp 45) _ _ rfl 87 Try.underlying79 size_wordS (if c = i then some ⟨z, 0, none⟩ else some ⟨z, i, none⟩) (if cx = i then some ⟨bs, os, none⟩ else some ⟨bs, os + i, none⟩) 0 (c - i) (cx - i) (by simp [Act.eval, Act.put]) (by simp [Act.eval, Act.put]) ?_)
        all_goals (go_wp2_with (go_at_call 118; refine (bnorm_sl _ (zw (bits .andNot .u64) i xs ys) _ ((src_spl HROW2.out.drew (by rw [LEN.out]; simp; omega)).sl LEN.out hc1 (by unfold maxLen; omega)) HDG.out).mono ?_; rintro e w4 ⟨⟨v4, rfl, sw4⟩, rfl⟩))
        all_goals go_ret
        all_goals exact ⟨_, rfl, sw4, fr_new'' f HF.out.drew hz⟩
  · have hle : q ≤ p := by omega
    have hfin : zw (bits .andNot .u64) (max p q) xs ys = zw (bits .andNot .u64) q xs ys ++ xs.drop q := by
      rw [show max p q = xs.length by have := HP.out; omega]
      refine zw_tail (by have := HP.out; omega) (fun i h1 h2 => ?_)
      rw [getD_out (xs := ys) (by rw [← HQ.out]; omega)]
      exact (u64_bit_zero _ (HDX.out.getD (by omega) i).1 (HDX.out.getD (by omega) i).2).2.2.2.2.2.2.1
    rw [hfin]
    have HFIN := Lib.hid hfin
    have HDG := Lib.hid (bw_dg .andNot (by simp) (n := max p q) HDX.out HDY.out)
    rw [hfin] at HDG
    clear hfin
    by_cases h0 : p = 0
    · have hn0 : q = 0 := by omega
      have HFZ : Hid (val 18446744073709551616 (zw (bits .andNot .u64) q xs ys ++ xs.drop q) = 0) := Lib.hid (by rw [hn0, zw_zero, List.eq_nil_of_length_eq_zero (show (xs.drop 0).length = 0 by rw [List.length_drop]; have := HP.out; omega)]; rfl)
      rw [HFZ.out]
      clear HFIN HDG HFZ hsx hsy
      have h0' : q = 0 := by omega
      have h0'' : p = 0 := by omega
      clear h0 hn0 hle
      subst h0' h0''
      go_enter Try.func108, Try.ntmps108
      go_wp2_with (first
        | (go_at_call 120; refine (make0 _).mono ?_; rintro e w1 ⟨rfl, rfl⟩))
      go_loopg [9] 0 (fun g iv wr => iv = .int .i64 0 ∧ w = wr)
      case atStart => exact ⟨rfl, rfl⟩
      case round =>
        obtain ⟨rfl, rfl⟩ := hrel
        go_wp2_with fail
        go_region_law (refine step_copy_none rfl (.tmp 41) (.tmp 45) _ _ rfl 87 Try.underlying79 size_wordS none A 0 0 cx (by simp [Act.eval, Act.put]) (by simp [Act.eval, Act.put]) ?_)
        all_goals (go_wp2_with (first
          | (go_at_call 118; refine (bnorm_sl _ [] _ (Sl.nil _ _) (DG.nil _)).mono ?_; rw [val_nil]; rintro e w4 ⟨⟨v4, rfl, sw4⟩, rfl⟩)))
        all_goals go_ret
        all_goals exact ⟨_, rfl, sw4, (Fr.refl _ _).drewN _⟩
    have HM := Lib.hid (fun W => make_any p W (by omega) (by omega))
    go_enter Try.func108, Try.ntmps108
    go_wp2_with (go_at_call 120; refine (HM.out _).mono ?_; rintro e w1 ⟨z, c, rfl, hc1, hc2, row, hz, f⟩; have HROW := Lib.hid row; clear row)
    go_loopg [9] q (BwRel (bits .andNot .u64) z c q xs ys w1)
    case atStart => exact ⟨0, by omega, rfl, rfl, by rw [zw_zero, spl_nil]; exact HROW.out, Fr.refl _ _⟩
    case round =>
      obtain ⟨i, hi, rfl, rfl, hrow, hf⟩ := hrel
      have HROW2 := Lib.hid hrow
      have HF := Lib.hid hf
      clear hrow hf HROW
      by_cases h1 : i < q
      · obtain ⟨bx, ox, rfl, hbx, sx⟩ := hsx (by omega)
        obtain ⟨by_, oy, rfl, hby, sy⟩ := hsy (by omega)
        have cx := (sx.fr ((f.mono (S' := [z]) (by simp)).trans HF.out (fun x hx _ => hx)) (by simp; omega)) i (by rw [← HP.out]; omega)
        have cy := (sy.fr ((f.mono (S' := [z]) (by simp)).trans HF.out (fun x hx _ => hx)) (by simp; omega)) i (by rw [← HQ.out]; omega)
        obtain ⟨x, hx⟩ : ∃ x, x = xs.getD i 0 := ⟨_, rfl⟩
        obtain ⟨y, hy⟩ : ∃ y, y = ys.getD i 0 := ⟨_, rfl⟩
        rw [← hx] at cx
        rw [← hy] at cy
        have HXI := Lib.hid hx
        have HYI := Lib.hid hy
        have hfz := HROW2.out.frozen i
        have cz := HROW2.out.cell (i := i) (by rw [spl_len (by rw [zw_len]; simp; omega)]; simp; omega)
        obtain ⟨old, hold⟩ : ∃ old, old = (spl (List.replicate c (0 : Int)) 0 (zw (bits .andNot .u64) i xs ys)).getD i 0 := ⟨_, rfl⟩
        rw [← hold] at cz
        clear hx hy hold sx sy hsx hsy
        go_wp2_with fail
        go_region
        go_wp2_with fail
        go_roundg (q - (i + 1))
        case measure => omega
        case rel =>
          refine ⟨i + 1, by omega, rfl, by go_num, ?_, (HF.out.set (.inl (by simp)) _).drew⟩
          have h := HROW2.out.set i (bits .andNot .u64 x y)
          have hsp := spl_set_end (L := List.replicate c (0 : Int)) (o := 0) (cs := zw (bits .andNot .u64) i xs ys) (by rw [zw_len]; simp; omega) (bits .andNot .u64 x y)
          rw [Nat.zero_add, zw_len] at hsp
          rw [hsp, HXI.out, HYI.out, ← zw_succ] at h
          rw [← HXI.out, ← HYI.out] at h
          exact h.drew
      · obtain rfl : i = q := by omega
        obtain ⟨bs, os, rfl, hbs, ss⟩ := hsx (by omega)
        have HSS := Lib.hid ss
        clear ss
        have LEN := Lib.hid (zw_len (bits .andNot .u64) i xs ys)
        have HLT := Lib.hid (show (xs.drop i).length = p - i by rw [List.length_drop, ← HP.out])
        have HSD := Lib.hid ((HSS.out.fr ((f.mono (S' := [z]) (by simp)).trans HF.out (fun x hx _ => hx)) (by simp; omega)).drop i)
        have HDP := Lib.hid (show 0 < p - i → (if c = i then some (⟨z, 0, none⟩ : Addr) else some ⟨z, i, none⟩) = some ⟨z, i, none⟩ ∧ (if cx = i then some (⟨bs, os, none⟩ : Addr) else some ⟨bs, os + i, none⟩) = some ⟨bs, os + i, none⟩ from fun hp => ⟨by rw [if_neg (by omega)], by rw [if_neg (by omega)]⟩)
        have HLL := Lib.hid (show i + (p - i) ≤ (spl (List.replicate c (0 : Int)) 0 (zw (bits .andNot .u64) i xs ys)).length by rw [spl_len (by rw [LEN.out]; simp; omega)]; simp; omega)
        have HG : Hid (∀ w' : World, Row .u64 87 w' z (spl (spl (List.replicate c 0) 0 (zw (bits .andNot .u64) i xs ys)) i (xs.drop i)) → Row .u64 87 w' z (spl (List.replicate c 0) 0 (zw (bits .andNot .u64) i xs ys ++ xs.drop i))) := Lib.hid (fun w' h => by
          have e := spl_app (L := List.replicate c (0 : Int)) (o := 0) (cs := zw (bits .andNot .u64) i xs ys) (ds := xs.drop i) (by rw [LEN.out]; simp; omega)
          rw [LEN.out, Nat.zero_add] at e
          rw [e] at h
          exact h)
        have LEN2 := Lib.hid (show (zw (bits .andNot .u64) i xs ys ++ xs.drop i).length = p by rw [List.length_append, LEN.out, HLT.out]; omega)
        have him : (i : Int) ≤ (p : Int) := by omega
        have hmc : (p : Int) ≤ (c : Int) := by omega
        have hmcs : (p : Int) ≤ (cx : Int) := by omega
        obtain ⟨ZL, hZL⟩ : ∃ ZL, ZL = zw (bits .andNot .u64) i xs ys ++ xs.drop i := ⟨_, rfl⟩
        obtain ⟨SL, hSL⟩ : ∃ SL, SL = spl (List.replicate c (0 : Int)) 0 (zw (bits .andNot .u64) i xs ys) := ⟨_, rfl⟩
        obtain ⟨DL, hDL⟩ : ∃ DL, DL = xs.drop i := ⟨_, rfl⟩
        rw [← hSL] at HROW2 HLL HG
        rw [← hZL] at HG LEN2 HDG HFIN ⊢
        rw [← hDL] at HLT HSD HG
        have HZL := Lib.hid hZL
        clear hsx hsy hZL hSL hDL
        go_wp2_with fail
        go_region_law (refine step_copy rfl (.tmp 41) (.tmp 45) _ _ rfl .u64 87 Try.underlying79 size_wordS (if c = i then some ⟨z, 0, none⟩ else some ⟨z, i, none⟩) (if cx = i then some ⟨bs, os, none⟩ else some ⟨bs, os + i, none⟩) (p - i) (c - i) (cx - i) (by simp [Act.eval, Act.put]) DL (by simp [Act.eval, Act.put]) HLT.out bs (os + i) (Src.drew HSD.out) z i SL HROW2.out.drew HDP.out HLL.out ?_; intro w2 row2 f2; have HR3 := Lib.hid (HG.out _ row2); clear HG row2)
        all_goals (go_wp2_with (go_at_call 118; refine (bnorm_sl _ ZL _ ((src_spl HR3.out (by rw [LEN2.out]; simp; omega)).sl LEN2.out hc1 (by unfold maxLen; omega)) HDG.out).mono ?_; rintro e w4 ⟨⟨v4, rfl, sw4⟩, rfl⟩))
        all_goals go_ret
        all_goals exact ⟨_, rfl, by rw [← HZL.out]; exact sw4, fr_new'' f ((HF.out.drew).trans f2 (fun x hx _ => hx)) hz⟩
end Go.Proofs.Ytjapebgihnahjaa
