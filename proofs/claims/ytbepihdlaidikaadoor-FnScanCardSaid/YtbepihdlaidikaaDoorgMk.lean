/-
  nat.make at a nil receiver, setWord, mulAddWW. Conditions: what is read can be read.
  setWord, mulAddWW, and the walk of the law FnMulAddWW. Conditions: what is read can be read.
-/
import Derived.Test.YtbepihdlaidikaaDoorgVec
import Derived.Test.YtbepihdlaidikaaDoorNormed
import Derived.Test.YtbepihdlaidikaaDoorgSpec
import Derived.Test.YtbepihdlaidikaaDoorFew
set_option linter.unusedSimpArgs false
set_option linter.unusedVariables false
section
namespace Go.Big
open Go.RowKit
section
variable {P : Program} {ops : Array Oper} {rest : List Oper} {o : Oper} {a : Act} {Q : Exit → Act → World → Prop}
/-- 'make([]T, n, c)': a new row of c noughts -/
theorem wp_mkc {w : World} (hgd : o.guard = none) (l c : Operand) (t : TypeId) (ho : o.op = .makeSlice t l c) (k : IntKind) (T : TypeId) (bytes : Nat) (ht : IntTy P k t T bytes) (hby : bytes ≤ 8)
    (n m : Nat) (hl : a.eval l = .int .i64 (n : Int)) (hc : a.eval c = .int .i64 (m : Int)) (hnm : n ≤ m) (hn : m ≤ 1099511627776)
    (h : ∀ g w', w.heap.size ≤ g → Row k T w' g (List.replicate m 0) → Fr [] w w' → wpList P ops Q rest (a.put o.dst (.slice (some ⟨g, 0, none⟩) n m)) w') : wpList P ops Q (o :: rest) a w := by
  refine wpList_plain hgd fun K hK => ?_
  obtain ⟨ht, hi⟩ := ht
  obtain ⟨i, hi, hz, hsz, hb⟩ := info_parts hi
  have hbb : (i.bytes : Int) * (m : Int) ≤ 281474976710656 := by
    have : bytes * m ≤ 8 * 1099511627776 := Nat.mul_le_mul hby hn
    rw [hb]; omega
  have hrun := run_make (P := P) w t T i (.int k 0) ht hi hz .i64 .i64 (n : Int) (m : Int) (by omega) (by omega) hbb (by omega)
  simp only [Int.toNat_natCast, hsz, Nat.mul_one] at hrun
  rw [show (Value.int k 0).cells = #[.int k 0] from rfl, cells_list, List.map_replicate, List.toArray_replicate] at hrun
  unfold Oper.wp
  simp [execOp, ho, hl, hc, hrun, Result.andThen]
  exact hK _ _ (h _ _ (Nat.le_refl _) (Row.zeros _ _ _ _) ((Fr.refl _ _).alloc _))
end
end Go.Big
namespace Go.Proofs.YtbepihdlaidikaaDoor
open Go.Big Go.RowKit
set_option maxRecDepth 100000 in
set_option maxHeartbeats 1000000 in
theorem make_any (n : Nat) (w : World) (hn0 : 0 < n) (hn : n ≤ 1000000000) :
    Calls Tryd.prog 29 #[.slice none 0 0, .int .i64 (n : Int)] w fun e w' => ∃ b c, e = .returned (.slice (some ⟨b, 0, none⟩) n c) ∧ n ≤ c ∧ c ≤ n + 4 ∧ Row .u64 48 w' b (List.replicate c 0) ∧ w.heap.size ≤ b ∧ Fr [] w w' := by
  by_cases h1 : n = 1
  · subst h1
    go_enter Tryd.func29, Tryd.ntmps29
    go_wp2_with (at_make; refine wp_mkc rfl (.const (.int .i64 1)) (.const (.int .i64 1)) _ rfl .u64 48 8 ty_big (by omega) 1 1 rfl rfl (by omega) (by omega) ?_; intro g w1 hg row f)
    go_ret
    exact ⟨g, 1, rfl, by omega, by omega, row, hg, f⟩
  · have hw : IntKind.i64.wrap ((n : Int) + 4) = ((n + 4 : Nat) : Int) := by rw [IntKind.wrap_i64]; omega
    have h1' : ((n : Int) == 1) = false := by rw [beq_eq_false_iff_ne]; omega
    go_enter Tryd.func29, Tryd.ntmps29
    go_wp2_with (at_make; refine wp_mkc rfl (.tmp 15) (.tmp 17) _ rfl .u64 48 8 ty_big (by omega) n (n + 4) rfl (by first | rfl | (show Value.int IntKind.i64 _ = _; congr 1)) (by omega) (by omega) ?_; intro g w1 hg row f)
    go_ret
    exact ⟨g, n + 4, rfl, by omega, by omega, row, hg, f⟩
end Go.Proofs.YtbepihdlaidikaaDoor
end
section
namespace Go.Proofs.YtbepihdlaidikaaDoor
open Go.Big Go.RowKit
theorem fr_new'' {w w1 w2 : World} {b : Nat} (h : Fr [] w w1) (h' : Fr [b] w1 w2) (hb : w.heap.size ≤ b) : Fr [] w w2 :=
  h.trans h' (fun x hx hlt => by simp at hx; omega)
theorem SW.zero (w : World) : SW w (.slice none 0 0) 0 := ⟨[], Sl.nil _ _, DG.nil _, NZ.nil, rfl⟩
theorem src_spl {w : World} {T : TypeId} {b : Nat} {L cs : List Int} (h : Row .u64 T w b (spl L 0 cs)) (hl : cs.length ≤ L.length) : Src .u64 w b 0 cs := by
  have e := (h.src (off := 0) (Nat.zero_le _)).take cs.length
  rw [List.drop_zero] at e
  have e2 : (spl L 0 cs).take cs.length = cs := by unfold spl; simp
  rwa [e2] at e
set_option maxRecDepth 100000 in
set_option maxHeartbeats 1000000 in
theorem setWord_any (x : Int) (w : World) (h0 : 0 ≤ x) (h1 : x < 18446744073709551616) : Calls Tryd.prog 28 #[.slice none 0 0, .int .u64 x] w (RetW x w) := by
  by_cases hx : x = 0
  · subst hx
    go_enter Tryd.func28, Tryd.ntmps28
    go_wp2_with fail
    go_ret
    exact ⟨_, rfl, SW.zero _, Fr.refl _ _⟩
  · have hx' : (x == 0) = false := by rw [beq_eq_false_iff_ne]; exact hx
    go_enter Tryd.func28, Tryd.ntmps28
    go_wp2_with (go_at_call 29; refine (make_any 1 _ (by omega) (by omega)).mono ?_; rintro e w1 ⟨b, c, rfl, hc1, hc2, row, hb, f⟩; have hfz := row.frozen 0; have cz := row.cell (i := 0) (by simp; omega); obtain ⟨old, hold⟩ : ∃ old, old = (List.replicate c (0 : Int)).getD 0 0 := ⟨_, rfl⟩; rw [← hold] at cz; clear hold)
    go_ret
    have row2 := row.set 0 x
    have hsp := spl_set_end (L := List.replicate c 0) (o := 0) (cs := []) (by simp; omega) x
    rw [spl_nil] at hsp
    rw [show (List.replicate c (0 : Int)).set 0 x = spl (List.replicate c 0) 0 [x] from hsp] at row2
    refine ⟨_, rfl, ⟨[x], (src_spl row2 (by simp; omega)).sl rfl hc1 (by unfold maxLen; omega), DG.cons h0 h1 (DG.nil _), .inr (by simpa using hx), by simp [val_cons, val_nil]⟩, fr_new'' f (by apply Fr.set _ (.inl (by simp)); exact Fr.refl _ _) hb⟩
set_option maxRecDepth 100000 in
set_option maxHeartbeats 2000000 in
theorem nmulAddWW_any (b cx n : Nat) (xs : List Int) (y r : Int) (w : World) (hx : Row .u64 48 w b xs) (hd : DG 18446744073709551616 xs) (hn : xs.length = n) (hl : n ≤ 1000000) (hy0 : 0 ≤ y) (hy1 : y < 18446744073709551616) (hr0 : 0 ≤ r) (hr1 : r < 18446744073709551616) :
    Calls Tryd.prog 23 #[.slice none 0 0, .slice (some ⟨b, 0, none⟩) n cx, .int .u64 y, .int .u64 r] w (RetW (val 18446744073709551616 xs * y + r) w) := by
  have HX := Lib.hid hx
  have HD := Lib.hid hd
  have HN := Lib.hid hn
  by_cases h : n = 0 ∨ y = 0
  · have hv : val 18446744073709551616 xs * y + r = r := by
      rcases h with h | h
      · rw [h] at hn; rw [List.eq_nil_of_length_eq_zero hn]; simp [val_nil]
      · rw [h]; simp
    rw [hv]
    clear hx hd hn hv
    rcases h with rfl | rfl
    · go_enter Tryd.func23, Tryd.ntmps23
      go_wp2_with (go_at_call 28; refine (setWord_any r _ hr0 hr1).mono ?_; rintro e w1 ⟨v1, rfl, sw1, f1⟩)
      go_ret
      exact ⟨_, rfl, sw1, f1⟩
    · go_enter Tryd.func23, Tryd.ntmps23
      go_wp2_with (go_at_call 28; refine (setWord_any r _ hr0 hr1).mono ?_; rintro e w1 ⟨v1, rfl, sw1, f1⟩)
      all_goals go_ret
      all_goals exact ⟨_, rfl, sw1, f1⟩
  · have hn0 : ((n : Int) == 0) = false := by rw [beq_eq_false_iff_ne]; omega
    have hy0' : (y == 0) = false := by rw [beq_eq_false_iff_ne]; omega
    have hw : IntKind.i64.wrap ((n : Int) + 1) = ((n + 1 : Nat) : Int) := by rw [IntKind.wrap_i64]; omega
    have hM := fun W => make_any (n + 1) W (by omega) (by omega)
    have HM := Lib.hid hM
    clear hx hd hn hM
    go_enter Tryd.func23, Tryd.ntmps23
    go_wp2_with (first
      | (go_at_call 29; refine (HM.out _).mono ?_; rintro e w1 ⟨z, c, rfl, hc1, hc2, row, hz, f⟩; have hlt := HX.out.lt; have HROW := Lib.hid row; have hc3 : n ≤ c := by omega)
      | (go_at_call 35; refine (mulAddVWW_any z 0 _ b 0 _ n _ xs y r _ HROW.out (by simp; omega) HN.out ((HX.out.fr f (by simp)).src (Nat.zero_le _)) HD.out (.inl (by omega)) (by omega) hy0 hy1 hr0 hr1).mono ?_; rintro e w2 ⟨zs, k, rfl, row2, f2, hzl, hzd, hk0, hk1, hv⟩; have HZL := Lib.hid hzl; have HV := Lib.hid hv; clear hzl hv; have HR2 := Lib.hid row2; have hfz := row2.frozen n; have cz := row2.cell (i := n) (by rw [spl_len (by simp [HZL.out]; omega)]; simp; omega); obtain ⟨old, hold⟩ : ∃ old, old = (spl (List.replicate c (0 : Int)) 0 zs).getD n 0 := ⟨_, rfl⟩; rw [← hold] at cz; clear hold row2)
      | (go_at_call 30; go_in)
      | (go_at_call 26; have row3 := HR2.out.set n k; have hsp := spl_set_end (L := List.replicate c (0 : Int)) (o := 0) (cs := zs) (by simp [HZL.out]; omega) k; rw [Nat.zero_add, HZL.out] at hsp; rw [hsp] at row3; refine (bnorm_sl _ (zs ++ [k]) _ ((src_spl row3 (by simp [HZL.out]; omega)).sl (by simp [HZL.out]) hc1 (by unfold maxLen; omega)) (hzd.append (DG.cons hk0 hk1 (DG.nil _)))).mono ?_; rintro e w4 ⟨⟨v4, rfl, sw4⟩, rfl⟩; rw [val_snoc, HZL.out, HV.out] at sw4))
    go_ret
    exact ⟨_, rfl, sw4, fr_new'' f (by apply Fr.set _ (.inl (by simp)); exact f2) hz⟩
theorem mulw_BIG {xs : List Int} {y r : Int} (hd : DG 18446744073709551616 xs) (hl : xs.length ≤ 100000) (hy0 : 0 ≤ y) (hy1 : y < 18446744073709551616) (hr0 : 0 ≤ r) (hr1 : r < 18446744073709551616) : val 18446744073709551616 xs * y + r < BIG ∧ val 18446744073709551616 xs * y < BIG := by
  have h0 := val_nonneg (by omega) hd
  have h1 := val_lt (by omega) hd
  have hp := pow_pos_ (B := 18446744073709551616) (by omega) xs.length
  have e1 : val 18446744073709551616 xs * y ≤ (18446744073709551616 ^ xs.length - 1) * 18446744073709551615 :=
    Int.le_trans (Int.mul_le_mul_of_nonneg_left (show y ≤ 18446744073709551615 by omega) h0) (Int.mul_le_mul_of_nonneg_right (show val 18446744073709551616 xs ≤ 18446744073709551616 ^ xs.length - 1 by omega) (by omega))
  have e2 : val 18446744073709551616 xs * y + r < 18446744073709551616 ^ (xs.length + 1) := by rw [Int.pow_succ]; omega
  exact ⟨lt_BIG64 _ e2 (by omega), lt_BIG64 _ (by omega) (show xs.length + 1 ≤ 1000000 by omega)⟩
end Go.Proofs.YtbepihdlaidikaaDoor
end
