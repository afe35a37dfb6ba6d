/-
  The thin package's BasicSqr, and the walk of the law FnBasicSqr. Conditions: the words can be read; the threshold lies in its variable.
-/
import Derived.Test.YtknokndpeneogaaDoorGlobS
import Derived.Test.YtknokndpeneogaaDoorBMulL
set_option linter.unusedSimpArgs false
set_option linter.unusedVariables false
namespace Go.Big
open Go.RowKit
theorem Wr.sl' {T : TypeId} {w : World} {b o c : Nat} {xs : List Int} (h : Wr T w b o xs) (hl : xs.length ≤ c) (hc : c ≤ maxLen) : Sl .u64 w (.slice (some ⟨b, o, none⟩) xs.length c) xs :=
  ⟨_, c, rfl, hl, hc, fun _ => ⟨b, o, rfl, h.lt, h.1⟩⟩
theorem Fc.fr_new' {T : TypeId} {S : Nat → Nat → Prop} {w w1 w2 : World} (h : Fc T S w1 w2) (hf : Fr [] w w1) (hS : ∀ b i, S b i → w.heap.size ≤ b) : Fr [] w w2 :=
  ⟨h.os.trans hf.os, h.tape.trans hf.tape, h.output.trans hf.output, Nat.le_trans hf.size h.size, fun b hb hn => (h.block b (Nat.lt_of_lt_of_le hb hf.size) (fun i hi => by have := hS b i hi; omega)).trans (hf.block b hb hn)⟩
end Go.Big
namespace Go.Proofs.YtknokndpeneogaaDoor
open Go.Big Go.RowKit
set_option maxRecDepth 100000 in
theorem getStackQ_any (w : World) : Calls Tryd.prog 73 #[] w fun e w' => ∃ s, e = .returned (.pointer (some ⟨s, 0, none⟩)) ∧ StkAt w' s none ∧ Fr [] w w' ∧ w.heap.size ≤ s := by
  go_enter Tryd.func73, Tryd.ntmps73
  go_wp2_with fail
  go_ret
  exact ⟨w.heap.size, rfl, heap_alloc_new w _, (Fr.refl _ _).alloc _, Nat.le_refl _⟩
set_option maxRecDepth 100000 in
set_option maxHeartbeats 2000000 in
theorem zzBasicSqr_any (v : Value) (xs : List Int) (n2 : Nat) (w : World) (hx : Sl .u64 w v xs) (hd : DG 18446744073709551616 xs) (hm9 : xs.length ≤ 100000) (hm0 : 0 < xs.length) (hn2 : n2 = 2 * xs.length) (hT : ThrB w) :
    Calls Tryd.prog 51 #[v] w (RetP (val 18446744073709551616 xs * val 18446744073709551616 xs) n2 w) := by
  have HX := Lib.hid hx
  have HD := Lib.hid hd
  have HT := Lib.hid hT
  have CB : ∀ s z b W, StkAt W s none → ThrB W → Row .u64 77 W z (List.replicate n2 0) → Row .u64 77 W b xs → z ≠ b → z ≠ s → b ≠ s → Calls Tryd.prog 74 #[.pointer (some ⟨s, 0, none⟩), .slice (some ⟨z, 0, none⟩) n2 n2, .slice (some ⟨b, 0, none⟩) xs.length xs.length] W (BsqPost s none z 0 n2 (val 18446744073709551616 xs) W) := by
    intro s z b W h1 h2 h3 h4 hzb hzs hbs
    have h := basicSqr_any s none z 0 n2 b 0 xs.length xs.length (List.replicate n2 0) xs W h1 (by simp [lenS]) h2 (Wr.row h3) (by rw [List.length_replicate, hn2]) (h4.src (Nat.zero_le _)) h4.lt rfl hd hm0 (by omega) (.inl (fun e => hzb e.symm)) (fun i _ _ hh => hzs hh) (fun i _ _ hh => hbs hh) (Nat.le_refl _) (by unfold maxLen; omega) (by omega) (by omega)
    rw [← hn2] at h
    exact h
  have CB := Lib.hid CB
  obtain ⟨A, ca, rfl, hla, hma, _⟩ := hx
  unfold maxLen at hma
  have a1 : 2 * (xs.length : Int) = (n2 : Int) := by omega
  have hn9 : n2 ≤ 200000 := by omega
  have HN2 := Lib.hid hn2
  clear hd hT hn2
  go_enter Tryd.func51, Tryd.ntmps51
  go_wp2_with (first
    | (go_at_call 73; refine (getStackQ_any _).mono ?_; rintro e w1 ⟨s, rfl, hst1, f1, hs⟩; have HST1 := Lib.hid hst1; have HS := Lib.hid hs; clear hst1 hs)
    | (at_make; refine wp_mk rfl (.tmp 8) (.tmp 8) _ rfl .u64 77 8 ty_big (by omega) n2 rfl rfl (by omega) ?_; intro z w2 hz row2 f2; have HR2 := Lib.hid row2; have HZ := Lib.hid hz; clear row2 hz)
    | (go_at_call 68; refine (zzIn_any _ xs _ ((HX.out.fr0 f1).fr0 f2) (by omega)).mono ?_; rintro e w3 ⟨b, rfl, row3, hb, f3⟩; have HR3 := Lib.hid row3; have HB := Lib.hid hb; clear row3 hb)
    | (go_at_call 74; refine (CB.out s z b _ ((HST1.out.fr0 f2).fr0 f3) (((HT.out.fr0 f1).fr0 f2).fr0 f3) (HR2.out.fr f3 (by simp)) HR3.out (by have h1 := HR2.out.lt; have h2 := HB.out; omega) (by have h1 := HZ.out; have h2 := heap_lt HST1.out; omega) (by have h1 := HB.out; have h2 := heap_lt HST1.out; have h3 := f2.size; omega)).mono ?_; rintro e w4 ⟨q', zs, rfl, _, _, _, hW, hzl, hzd, hzv, hfc⟩; have HF4 := Lib.hid (Fc.fr_new' hfc ((f1.t f2).t f3) (fun b' i hh => by rcases hh with hh | hh; exact hh ▸ HS.out; exact hh.1 ▸ (by have h1 := HZ.out; have h2 := f1.size; omega))); have HW := Lib.hid hW; have HZL := Lib.hid hzl; have HZD := Lib.hid hzd; have HZV := Lib.hid hzv; clear hW hzl hzd hzv hfc)
    | (go_at_call 75; refine (zzOut_any _ zs _ (by have := HW.out.sl' (c := n2) (by rw [HZL.out]; exact Nat.le_refl _) (by unfold maxLen; omega); rwa [HZL.out] at this) (by rw [HZL.out]; omega)).mono ?_; rintro e w5 ⟨v5, rfl, sl5, f5⟩))
  go_ret
  obtain ⟨A5, c5, rfl, h1, h2, h3⟩ := sl5
  exact ⟨A5, c5, zs, by rw [HZL.out]; rfl, ⟨A5, c5, by rw [HZL.out], h1, h2, h3⟩, HZD.out, HZL.out, HZV.out, HF4.out.t f5⟩
set_option maxRecDepth 100000 in
set_option maxHeartbeats 1000000 in
theorem implBasicSqr_any (v : Value) (xs : List Int) (n2 : Nat) (w : World) (hx : Sl .u64 w v xs) (hd : DG 18446744073709551616 xs) (hm9 : xs.length ≤ 100000) (hm0 : 0 < xs.length) (hn2 : n2 = 2 * xs.length) (hT : ThrB w) :
    Calls Tryd.prog 26 #[v] w (RetP (val 18446744073709551616 xs * val 18446744073709551616 xs) n2 w) := by
  have HX := Lib.hid hx
  have C := Lib.hid (fun v W (f : Fr [] w W) (h : Sl .u64 W v xs) => zzBasicSqr_any v xs n2 W h hd hm9 hm0 hn2 (hT.fr0 f))
  obtain ⟨A, ca, rfl, hla, hma, _⟩ := hx
  unfold maxLen at hma
  have h0 : ((xs.length : Int) == 0) = false := by rw [beq_eq_false_iff_ne]; omega
  clear hd hn2 hT
  go_enter Tryd.func26, Tryd.ntmps26
  go_wp2_with (first
    | (go_at_call 52; refine (clone_any _ xs _ HX.out (by omega)).mono ?_; rintro e w1 ⟨v1, rfl, sl1, f1⟩)
    | (go_at_call 51; refine (C.out _ _ f1 sl1).mono ?_; rintro e w3 ⟨A3, c3, zs, rfl, sl3, hzd, hzl, hzv, f3⟩; have HZ := Lib.hid hzl; have HZV := Lib.hid hzv; clear hzl hzv))
  go_ret
  exact ⟨A3, c3, zs, rfl, sl3, hzd, HZ.out, HZV.out, f1.t f3⟩
set_option maxRecDepth 100000 in
set_option maxHeartbeats 1000000 in
theorem law_FnBasicSqr (v : Value) (xs : List Int) (w : World) (hx : Sl .u64 w v xs) (hd : DG 18446744073709551616 xs) (hT : ThrB w) :
    Calls Tryd.prog 5 #[v] w fun e w' => e = .returned (.bool true) ∧ Fr [] w w' := by
  have HX := Lib.hid hx
  have HD := Lib.hid hd
  have HT := Lib.hid hT
  obtain ⟨A, cap, rfl, hlc, hm, hs⟩ := hx
  unfold maxLen at hm
  clear hs hd hT
  by_cases h1 : 2147483647 < xs.length
  · go_enter Tryd.func5, Tryd.ntmps5
    go_wp2_with fail
    go_ret
    exact ⟨rfl, Fr.refl _ _⟩
  by_cases h2 : xs.length ≤ 260
  case neg =>
    go_enter Tryd.func5, Tryd.ntmps5
    go_wp2_with (go_at_call 17; refine (few1_no 260 A _ _ _ _ (by omega) (by omega) (by omega)).mono ?_; rintro e w1 ⟨rfl, rfl⟩)
    go_ret
    exact ⟨rfl, (Fr.refl _ _).alloc _⟩
  by_cases h4 : xs.length = 0
  · obtain rfl : xs = [] := List.eq_nil_of_length_eq_zero h4
    simp only [List.length_nil] at *
    clear h4
    go_enter Tryd.func5, Tryd.ntmps5
    go_wp2_with (go_at_call 17; refine (few1_yes 260 A _ _ _ _ (by omega) (by omega)).mono ?_; rintro e w1 ⟨rfl, rfl⟩)
    go_ret
    exact ⟨rfl, (Fr.refl _ _).alloc _⟩
  have h0 : ((xs.length : Int) == 0) = false := by rw [beq_eq_false_iff_ne]; omega
  have f0 : Fr [] w (w.alloc (.cells #[.slice A xs.length cap] 22)) := (Fr.refl _ _).alloc _
  obtain ⟨n2, hn2⟩ : ∃ n2, n2 = 2 * xs.length := ⟨_, rfl⟩
  have a1 : 2 * (xs.length : Int) = (n2 : Int) := by omega
  have hn9 : n2 ≤ 520 := by omega
  have C1 := Lib.hid (implBasicSqr_any _ xs n2 _ (HX.out.fr0 f0) HD.out (by omega) (by omega) hn2 (HT.out.fr0 f0))
  have HXB := Lib.hid (words_BIG HD.out (show xs.length ≤ 1000000 by omega))
  obtain ⟨X, hX⟩ : ∃ X, val 18446744073709551616 xs = X := ⟨_, rfl⟩
  have HV := Lib.hid hX
  have CO := Lib.hid (fun W (f : Fr [] w W) => of_any _ xs W (HX.out.fr0 f) HD.out (by omega))
  rw [hX] at C1 HXB CO
  have T1 : True := trivial
  clear hn2 hX
  go_enter Tryd.func5, Tryd.ntmps5
  go_wp2_with (first
    | (go_at_call 17; refine (few1_yes 260 A _ _ _ _ (by omega) h2).mono ?_; rintro e w1 ⟨rfl, rfl⟩)
    | (go_at_call 26; refine (Hid.out C1).mono ?_; rintro e w2 ⟨A2, c2, zs, rfl, sl2, hzd, hzl, hzv, f2⟩; have HZL := Lib.hid hzl; have HZV := Lib.hid hzv; have HZD := Lib.hid hzd; clear hzl hzv hzd)
    | (go_at_call 19; clear T1; refine (CO.out _ (f0.t f2)).mono ?_; rintro e w3 ⟨v3, rfl, sn3, f3⟩)
    | (go_at_call 19; refine (CO.out _ ((f0.t f2).t f3)).mono ?_; clear CO; rintro e w4 ⟨v4, rfl, sn4, f4⟩)
    | (go_at_call 28; refine (mul_any _ _ X X _ (sn3.fr0 f4) sn4 HXB.out HXB.out).mono ?_; rintro e w5 ⟨v5, rfl, sn5, f5⟩)
    | (go_at_call 27; refine (is_any _ _ zs (X * X) _ (((sl2.fr0 f3).fr0 f4).fr0 f5) HZD.out (by rw [HZL.out]; omega) sn5 HZV.out).mono ?_; rintro e w6 ⟨rfl, f6⟩))
  go_ret
  exact ⟨rfl, ((((f0.t f2).t f3).t f4).t f5).t f6⟩
end Go.Proofs.YtknokndpeneogaaDoor
