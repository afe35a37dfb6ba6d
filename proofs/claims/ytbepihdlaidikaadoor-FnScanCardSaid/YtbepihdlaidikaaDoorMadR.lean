/-
  mulAddWW into a receiver that may have room, in place or apart; append to a number that the walk owns, with the cells behind it known. Conditions: what is read can be read.
-/
import Derived.Test.YtbepihdlaidikaaDoorPut
set_option linter.unusedSimpArgs false
set_option linter.unusedVariables false
namespace Go.Big
open Go.RowKit
/-- a number grown by append alone: its row, noughts behind it or elder words -/
def AppZ (k : IntKind) (T : TypeId) (w0 w : World) (v : Value) (xs : List Int) : Prop :=
  (v = .slice none 0 0 ∧ xs = []) ∨ ∃ g cap L, v = .slice (some ⟨g, 0, none⟩) xs.length cap ∧ w0.heap.size ≤ g ∧ Row k T w g L ∧ L.length = cap ∧ xs.length ≤ cap ∧ cap ≤ maxLen ∧ L.take xs.length = xs
/-- the blocks below a bound stand -/
structure FrB (N : Nat) (w w' : World) : Prop where
  os : w'.os = w.os
  tape : w'.tape = w.tape
  output : w'.output = w.output
  size : w.heap.size ≤ w'.heap.size
  block : ∀ b, b < N → w'.heap[b]? = w.heap[b]?
theorem FrB.refl (N : Nat) (w : World) : FrB N w w := ⟨rfl, rfl, rfl, Nat.le_refl _, fun _ _ => rfl⟩
theorem FrB.trans {N : Nat} {w w1 w2 : World} (h : FrB N w w1) (h' : FrB N w1 w2) : FrB N w w2 := ⟨h'.os.trans h.os, h'.tape.trans h.tape, h'.output.trans h.output, Nat.le_trans h.size h'.size, fun b hb => (h'.block b hb).trans (h.block b hb)⟩
theorem FrB.fr {S : List Nat} {w0 w w1 : World} (h : FrB w0.heap.size w w1) (f : Fr S w0 w) : Fr S w0 w1 := ⟨h.os.trans f.os, h.tape.trans f.tape, h.output.trans f.output, Nat.le_trans f.size h.size, fun b hb hn => (h.block b hb).trans (f.block b hb hn)⟩
theorem FrB.of_fr {S : List Nat} {N : Nat} {w w1 : World} (h : Fr S w w1) (hN : N ≤ w.heap.size) (hS : ∀ b ∈ S, N ≤ b) : FrB N w w1 := ⟨h.os, h.tape, h.output, h.size, fun b hb => h.block b (by omega) (fun hh => by have := hS b hh; omega)⟩
theorem appZ_get {L xs : List Int} {j : Nat} (h7 : L.take xs.length = xs) (hj : j < xs.length) : L.getD j 0 = xs.getD j 0 := by
  have h := congrArg (fun l => l.getD j 0) h7
  simp only [List.getD_eq_getElem?_getD, List.getElem?_take, if_pos hj] at h
  simpa [List.getD_eq_getElem?_getD] using h
theorem AppZ.nil (k : IntKind) (T : TypeId) (w0 w : World) : AppZ k T w0 w (.slice none 0 0) [] := .inl ⟨rfl, rfl⟩
theorem AppZ.fr {k : IntKind} {T : TypeId} {w0 w w1 : World} {v : Value} {xs : List Int} {S : List Nat} (h : AppZ k T w0 w v xs) (hf : Fr S w w1) (hS : ∀ b ∈ S, b < w0.heap.size) : AppZ k T w0 w1 v xs := by
  rcases h with h | ⟨g, cap, L, h1, h2, h3, h4⟩
  · exact .inl h
  · exact .inr ⟨g, cap, L, h1, h2, h3.fr hf (fun hh => by have := hS g hh; omega), h4⟩
theorem AppZ.sl {k : IntKind} {T : TypeId} {w0 w : World} {v : Value} {xs : List Int} (h : AppZ k T w0 w v xs) : Sl k w v xs := by
  rcases h with ⟨rfl, rfl⟩ | ⟨g, cap, L, rfl, h2, h3, h4, h5, h6, h7⟩
  · exact Sl.nil _ _
  · refine ⟨_, cap, rfl, h5, h6, fun hp => ⟨g, 0, rfl, h3.lt, fun j hj => ?_⟩⟩
    have := h3.cell (i := j) (by omega)
    rw [Nat.zero_add, this, appZ_get h7 hj]
theorem zeroCells_int (k : IntKind) (m : Nat) : Builtin.zeroCells (Value.int k 0).cells m = ((List.replicate m (0 : Int)).map (Value.int k)).toArray := by
  apply Array.toList_inj.1
  rw [Builtin.zeroCells, show (Value.int k 0).cells = #[Value.int k 0] from rfl]
  simp [Nat.mod_one]
  rw [List.map_const', List.length_range]
/-- append's run, the row known -/
theorem run_appZ {P : Program} {w0 w : World} {t ty T : TypeId} {k : IntKind} {bytes : Nat} (ht : IntTy P k t T bytes) (hby : bytes ≤ 8) {v : Value} {xs : List Int} (y : Int) (h : AppZ k T w0 w v xs) (hb : w0.heap.size ≤ w.heap.size) (hlen : xs.length < 1000000) :
    ∃ v' w', (Builtin.append_ #[t, t] ty #[v, .slice (some ⟨w.heap.size, 0, none⟩) 1 1]).run P (w.alloc (.cells #[.int k y] T)) = .ok v' w' ∧ AppZ k T w0 w' v' (xs ++ [y]) ∧ FrB w0.heap.size w w' := by
  obtain ⟨ht, hi⟩ := ht
  obtain ⟨i, hi, hz, hsz, hbt⟩ := info_parts hi
  have hcell : ∀ j u, ([Value.int k y] : List Value)[j]? = some u → (w.alloc (.cells #[.int k y] T)).cell? ((⟨w.heap.size, 0, none⟩ : Addr).add j) = some u := by
    intro j u hj
    rcases Nat.eq_zero_or_pos j with rfl | hp
    · simp at hj; subst hj; rw [show (⟨w.heap.size, 0, none⟩ : Addr).add 0 = ⟨w.heap.size, 0, none⟩ from rfl, World.cell?_alloc_at _ _ _ _ rfl]; rfl
    · rw [List.getElem?_eq_none (by simp; omega)] at hj; cases hj
  have hgrow : ∀ (c : Nat), xs.length + 1 ≤ c → c ≤ maxLen → ∀ (old : List Value), old = xs.map (Value.int k) →
      AppZ k T w0 ((w.alloc (.cells #[.int k y] T)).drew.alloc (.cells (old.toArray ++ [Value.int k y].toArray ++ Builtin.zeroCells (Value.int k 0).cells (c - (xs.length + 1))) T)) (.slice (some ⟨(w.alloc (.cells #[.int k y] T)).heap.size, 0, none⟩) (xs.length + 1) c) (xs ++ [y]) ∧
      FrB w0.heap.size w ((w.alloc (.cells #[.int k y] T)).drew.alloc (.cells (old.toArray ++ [Value.int k y].toArray ++ Builtin.zeroCells (Value.int k 0).cells (c - (xs.length + 1))) T)) := by
    intro c h1 h2 old hold
    subst hold
    have e : ((xs.map (Value.int k)).toArray ++ [Value.int k y].toArray ++ Builtin.zeroCells (Value.int k 0).cells (c - (xs.length + 1))) = ((xs ++ [y] ++ List.replicate (c - (xs.length + 1)) 0).map (Value.int k)).toArray := by
      rw [zeroCells_int]; apply Array.toList_inj.1; simp
    rw [e]
    refine ⟨.inr ⟨_, c, xs ++ [y] ++ List.replicate (c - (xs.length + 1)) 0, by rw [List.length_append]; rfl, by simp; omega, Row.new _ _ _ _, by simp; omega, by simp; omega, h2, List.take_left⟩, FrB.of_fr ((((Fr.refl [] w).alloc _).drew).alloc _) hb (by simp)⟩
  rcases h with ⟨rfl, rfl⟩ | ⟨g, cap, L, rfl, h2, h3, h4, h5, h6, h7⟩
  · have hr := run_append_nil (P := P) (w.alloc (.cells #[.int k y] T)) t ty T i (.int k 0) ht hi hz ⟨w.heap.size, 0, none⟩ 1 1 [.int k y] (by rw [hsz]; rfl) hcell (by omega) (by omega) (by rw [hbt]; omega)
    have hg := hgrow (grownCap (w.alloc (.cells #[.int k y] T)) 1 0 T) (grownCap_ge _ _ _ _) (grownCap_le_maxLen _ _ _ _ (by unfold maxLen; omega)) [] rfl
    simp only [List.length_nil, Nat.zero_add] at hg
    refine ⟨_, _, hr, ?_, ?_⟩
    · simpa using hg.1
    · simpa using hg.2
  · by_cases hroom : xs.length + 1 ≤ cap
    · have hrow1 : Row k T (w.alloc (.cells #[.int k y] T)) g L := h3.alloc _
      have hr := run_append_room (P := P) (w.alloc (.cells #[.int k y] T)) t ty T i ht hi g xs.length cap _ hrow1 ⟨w.heap.size, 0, none⟩ 1 1 [.int k y] (by rw [hsz]; rfl) hcell (by intro u hu; simp at hu; subst hu; rfl) hroom (by rw [hsz]; simp; omega)
      refine ⟨_, _, hr, .inr ⟨g, cap, xs ++ [y] ++ L.drop (xs.length + 1), by rw [List.length_append]; rfl, h2, ?_, by simp; omega, by simp; omega, h6, List.take_left⟩, ?_⟩
      · have := setRow_heap _ g _ (((L.map (Value.int k)).toArray.toList.take (xs.length * i.size) ++ [Value.int k y] ++ (L.map (Value.int k)).toArray.toList.drop (xs.length * i.size + [Value.int k y].length)).toArray) T (0, 0) hrow1
        unfold Row
        rw [this, hsz]
        congr 2
        apply Array.toList_inj.1
        simp [List.map_take, List.map_drop]
        rw [← List.map_take, h7]
      · have hS1 := (Fr.refl [] w).alloc (.cells #[.int k y] T)
        exact ⟨rfl, rfl, rfl, by simp [World.setRow], fun b hb' => by rw [setRow_other _ g b _ (by omega)]; exact hS1.block b (by omega) (by simp)⟩
    · have holds : ∀ j u, (xs.map (Value.int k))[j]? = some u → (w.alloc (.cells #[.int k y] T)).cell? ((⟨g, 0, none⟩ : Addr).add j) = some u := by
        intro j u hj
        rw [List.getElem?_map] at hj
        have hlt : j < xs.length := by
          rcases Nat.lt_or_ge j xs.length with hl | hl
          · exact hl
          · rw [List.getElem?_eq_none hl] at hj; cases hj
        rw [List.getElem?_eq_getElem hlt] at hj
        simp only [Option.map_some, Option.some.injEq] at hj
        subst hj
        have hc := (h3.alloc (.cells #[.int k y] T)).cell (i := j) (by omega)
        have e2 : L.getD j 0 = xs[j] := by rw [appZ_get h7 hlt, getD_in hlt]
        rw [e2] at hc
        rw [show (⟨g, 0, none⟩ : Addr).add j = ⟨g, j, none⟩ by unfold Addr.add; split <;> simp_all]
        exact hc
      have hr := run_append_grow (P := P) (w.alloc (.cells #[.int k y] T)) t ty T i (.int k 0) ht hi hz ⟨g, 0, none⟩ xs.length cap (xs.map (Value.int k)) (by rw [hsz]; simp) holds ⟨w.heap.size, 0, none⟩ 1 1 [.int k y] (by rw [hsz]; rfl) hcell (by omega) (by omega) (growslice_fits (by omega) (by rw [hbt]; have : (xs.length + 1) * bytes ≤ (xs.length + 1) * 8 := Nat.mul_le_mul_left _ hby; omega))
      have hg := hgrow (grownCap (w.alloc (.cells #[.int k y] T)) (xs.length + 1) cap T) (grownCap_ge _ _ _ _) (grownCap_le_maxLen _ _ _ _ (by unfold maxLen; omega)) _ rfl
      exact ⟨_, _, hr, hg.1, hg.2⟩
theorem wp_appZ {P : Program} {ops : Array Oper} {rest : List Oper} {o : Oper} {a : Act} {Q : Exit → Act → World → Prop} {w0 w : World} (hgd : o.guard = none) (s x : Operand) (t : TypeId) (ho : o.op = .call { callee := .builtin .append, args := #[s, x], argTypes := #[t, t] })
    (k : IntKind) (T : TypeId) (bytes : Nat) (ht : IntTy P k t T bytes) (hby : bytes ≤ 8) (v : Value) (xs : List Int) (y : Int) (hs : a.eval s = v) (hz : AppZ k T w0 w v xs) (hb : w0.heap.size ≤ w.heap.size) (hx : a.eval x = .slice (some ⟨w.heap.size, 0, none⟩) 1 1) (hlen : xs.length < 1000000)
    (h : ∀ v' w', AppZ k T w0 w' v' (xs ++ [y]) → FrB w0.heap.size w w' → wpList P ops Q rest (a.put o.dst v') w') : wpList P ops Q (o :: rest) a (w.alloc (.cells #[.int k y] T)) := by
  obtain ⟨v', w', hr, h2, h3⟩ := run_appZ (P := P) (t := t) (ty := o.type) ht hby y hz hb hlen
  refine wpList_plain hgd fun _ hK => ?_
  unfold Oper.wp execOp
  simp only [ho, resolve, invoke, builtin, Sem.run_bind, Sem.run_pure, Result.andThen_ok, List.map_toArray, List.map_cons, List.map_nil, hs, hx, hr]
  exact hK _ _ (h v' w' h2 h3)
end Go.Big
namespace Go.Proofs.YtbepihdlaidikaaDoor
open Go.Big Go.RowKit
set_option maxRecDepth 100000 in
set_option maxHeartbeats 2000000 in
theorem nmulAddR_any (A : Option Addr) (l b o c : Nat) (Ax : Option Addr) (bx ox cx : Nat) (xs : List Int) (y r : Int) (w : World) (h : Rcv w A b o c) (hl : l ≤ c) (hx : Nm w Ax bx ox cx xs) (hd : DG 18446744073709551616 xs) (hx9 : xs.length ≤ 1000000) (hal : Al b o c bx ox xs.length) (hy0 : 0 < y) (hy1 : y < 18446744073709551616) (hr0 : 0 ≤ r) (hr1 : r < 18446744073709551616) :
    Calls Tryd.prog 23 #[.slice A l c, .slice Ax xs.length cx, .int .u64 y, .int .u64 r] w fun e w' => ∃ A' b' o' c' zs, e = .returned (.slice A' zs.length c') ∧ PutR w A b o c (val 18446744073709551616 xs * y + r) A' b' o' c' zs w' := by
  have hxc := hx.le
  have hcx := hx.max
  have hcm := h.max
  by_cases h0 : xs.length = 0
  · obtain rfl : xs = [] := List.eq_nil_of_length_eq_zero h0
    have C := Lib.hid (setWordR_any A l b o c r w h hl hr0 hr1)
    unfold maxLen at hcx hcm
    rw [val_nil, Int.zero_mul, Int.zero_add]
    simp only [List.length_nil] at *
    clear h hx hd hal h0
    go_enter Tryd.func23, Tryd.ntmps23
    go_wp2_with (go_at_call 28; refine (C.out).mono ?_; rintro e w1 ⟨A', b', o', c', zs, rfl, hp⟩; have HP := Lib.hid hp; clear hp)
    go_ret
    exact ⟨A', b', o', c', zs, rfl, HP.out⟩
  obtain rfl := hx.addr (by omega)
  obtain ⟨m, hm⟩ : ∃ m, m = xs.length := ⟨_, rfl⟩
  have hy0' : (y == 0) = false := by rw [beq_eq_false_iff_ne]; omega
  have hlt := hx.lt (by omega)
  have HM := Lib.hid (makeR_any A l b o c (m + 1) w h hl (by omega) (by omega))
  have HR := Lib.hid h
  have HX := Lib.hid hx
  have HAL := Lib.hid hal
  have CV : ∀ (z o1 c1 : Nat) (Z : List Int) (W : World), Fr [] w W → Wr 48 W z o1 Z → Z.length = m + 1 → (Dj bx ox m z o1 m ∨ (bx = z ∧ o1 ≤ ox)) →
      Calls Tryd.prog 30 #[.slice (some ⟨z, o1, none⟩) m c1, .slice (some ⟨bx, ox, none⟩) m cx, .int .u64 y, .int .u64 r] W (VecW W z o1 m (fun zs k => 0 ≤ k ∧ k < 18446744073709551616 ∧ val 18446744073709551616 zs + 18446744073709551616 ^ m * k = val 18446744073709551616 xs * y + r)) :=
    fun z o1 c1 Z W f hz hZ hne => mulAddVWWw_any z o1 c1 bx ox cx m (Z.take m) xs y r W (hz.take m (by omega)) (by rw [List.length_take]; omega) hm.symm ((hx.fr0 f).2.2 (by omega)) hd hne (by omega) (by omega) hy1 hr0 hr1
  have HC := Lib.hid CV
  have HMM := Lib.hid hm
  have hm0 : ((m : Int) == 0) = false := by rw [beq_eq_false_iff_ne]; omega
  have hw : IntKind.i64.wrap ((m : Int) + 1) = ((m + 1 : Nat) : Int) := by rw [IntKind.wrap_i64]; omega
  unfold maxLen at hcx hcm
  rw [← hm] at hxc hx9 h0 ⊢
  clear h hx hd hal hm CV
  go_enter Tryd.func23, Tryd.ntmps23
  go_wp2_with (first
    | (go_at_call 29; refine (HM.out).mono ?_; clear HM; intro e w1 hm; obtain ⟨z, o1, c1, Z, rfl, h1, h2, h3, h4, h5, h6, h7⟩ := hm.out (fun hc => HR.out.lt hc); have H2 := Lib.hid h2; have H3 := Lib.hid h3; have H4 := Lib.hid h4; have H5 := Lib.hid h5; have H7 := Lib.hid h7; have hcm1 : c1 ≤ 9223372036854775807 := (by have := h2.1; unfold maxLen at this; omega); have HNE := Lib.hid (show Dj bx ox m z o1 m ∨ (bx = z ∧ o1 ≤ ox) by rcases h7 with ⟨_, e1, e2, e3⟩ | ⟨a, _⟩; (subst e1; subst e2; subst e3; have h8 := HAL.out; rw [← HMM.out] at h8; rcases h8 with h8 | ⟨h8, h9⟩; exact .inl (h8.sub1 (Nat.le_refl _) (by omega)); exact .inr ⟨h8, by omega⟩); exact .inl (.inl (by omega))); clear hm h2 h3 h4 h5 h6 h7)
    | (go_at_call 30; refine (HC.out z o1 c1 Z _ H5.out H3.out H4.out HNE.out).mono ?_; rintro e w2 ⟨zs, k, rfl, hz2, f2, hzl, hzd, hk0, hk1, hv⟩; obtain ⟨hfz, ⟨old, cold⟩, u1, u2⟩ := snoc_put k H3.out H4.out hz2 hzl f2; have U1 := Lib.hid u1; have U2 := Lib.hid u2; have HZL := Lib.hid hzl; have HZD := Lib.hid hzd; have HV := Lib.hid hv; clear hz2 f2 hzl hzd hv u1 u2)
    | (go_at_call 26; have ZL4 := Lib.hid (show (zs ++ [k]).length = m + 1 by rw [List.length_append, HZL.out]; rfl); have CN := normN_any (some ⟨z, o1, none⟩) z o1 c1 (zs ++ [k]) _ (Nm.of_wr U1.out (H2.out.fc U2.out) (by rw [ZL4.out]; exact h1)) (HZD.out.append (DG.cons hk0 hk1 (DG.nil _))); rw [ZL4.out] at CN; refine CN.mono ?_; rintro e w5 ⟨⟨us, rfl, g1, g2, g3, g4, g5⟩, rfl⟩; have G1 := Lib.hid g1; have G2 := Lib.hid g2; have G3 := Lib.hid g3; have G4 := Lib.hid g4; clear g1 g2 g3 g4 g5 CN))
  go_ret
  have hv : val 18446744073709551616 (zs ++ [k]) = val 18446744073709551616 xs * y + r := by rw [val_snoc, HZL.out]; exact HV.out
  refine ⟨_, z, o1, c1, us, rfl, G1.out, G2.out, G3.out, G4.out.trans hv, H7.out.imp id (fun a => ⟨a.1, by have := a.2; omega⟩), (Fc.fr0 H5.out _ _).trans U2.out (fun x i hh hlt => ?_)⟩
  rcases H7.out with ⟨_, rfl, rfl, rfl⟩ | ⟨a, _⟩
  · exact In1.cap hh h1
  · have := hh.1; omega
end Go.Proofs.YtbepihdlaidikaaDoor
