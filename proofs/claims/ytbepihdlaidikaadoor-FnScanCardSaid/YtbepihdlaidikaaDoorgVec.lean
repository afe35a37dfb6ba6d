/-
  addVV_g, subVV_g, mulAddVWW_g, addMulVVWW_g, walked. Conditions: what is read can be read, what is written is a row; where both lie in one row, what is still to be read has not been written.
  addVW, subVW: a word added to words, borrowed from words. Conditions: what is read can be read, what is written is a row of another block.
-/
import Derived.Test.YtbepihdlaidikaaDoorgShift
import Derived.Test.YtbepihdlaidikaaDoorgWord
import Derived.Deep.QuietTactic
import Derived.BigQuiet
import Derived.Deep.RegionLaw
import Derived.LaidEqlPtr
set_option linter.unusedSimpArgs false
set_option linter.unusedVariables false
section
namespace Go.Proofs.YtbepihdlaidikaaDoor
open Go.Big Go.RowKit

theorem q_left {P : Program} {f : FuncId} {args : Array Value} {w : World} {n : Nat} {v : Value} (h : Calls P f args (w.drewN n) fun e w' => e = .returned v ∧ w.drewN n = w') :
    Calls P f args (w.drewN n) fun e w'' => e = .returned v ∧ ∃ m, w'' = w.drewN m := h.mono fun _ _ ⟨he, hm⟩ => ⟨he, n, hm.symm⟩

/-- a vector's operation: the words zs lie over L from oz on, c is carried; what they are: R -/
def VecPost (T : TypeId) (w : World) (bz oz n : Nat) (L : List Int) (R : List Int → Int → Prop) (e : Ending) (w' : World) : Prop :=
  ∃ (zs : List Int) (c : Int), e = .returned (.int .u64 c) ∧ Row .u64 T w' bz (spl L oz zs) ∧ Fr [bz] w w' ∧ zs.length = n ∧ DG 18446744073709551616 zs ∧ R zs c
def VecRel (T : TypeId) (w : World) (bz oz n : Nat) (L : List Int) (R : Nat → List Int → Int → Prop) (g : Nat) (cv iv : Value) (wr : World) : Prop :=
  ∃ (i : Nat) (pre : List Int) (c : Int), i ≤ n ∧ g = n - i ∧ iv = .int .i64 i ∧ cv = .int .u64 c ∧ Row .u64 T wr bz (spl L oz pre) ∧ Fr [bz] w wr ∧ pre.length = i ∧ DG 18446744073709551616 pre ∧ R i pre c
/-- what may lie where -/
def NoTouch (bz oz bx ox n : Nat) : Prop := bx ≠ bz ∨ oz ≤ ox ∨ ox + n ≤ oz

set_option maxRecDepth 100000 in
set_option maxHeartbeats 2000000 in
theorem mulAddVWW_any (bz oz cz bx ox cx n : Nat) (L xs : List Int) (y r : Int) (w : World) (hz : Row .u64 48 w bz L) (hfit : oz + n ≤ L.length) (hnx : xs.length = n) (hsx : Src .u64 w bx ox xs) (hdx : DG 18446744073709551616 xs) (halx : NoTouch bz oz bx ox n) (hn9 : n ≤ 1000000000) (hy0 : 0 ≤ y) (hy1 : y < 18446744073709551616) (hr0 : 0 ≤ r) (hr1 : r < 18446744073709551616) :
    Calls Tryd.prog 35 #[.slice (some ⟨bz, oz, none⟩) n cz, .slice (some ⟨bx, ox, none⟩) n cx, .int .u64 y, .int .u64 r] w (VecPost 48 w bz oz n L (fun zs c => 0 ≤ c ∧ c < 18446744073709551616 ∧ val 18446744073709551616 zs + 18446744073709551616 ^ n * c = val 18446744073709551616 xs * y + r)) := by
  have HZ := Lib.hid hz
  have HNx := Lib.hid hnx
  have HSx := Lib.hid hsx
  have HDx := Lib.hid hdx
  have HALx := Lib.hid halx
  clear hz hnx hsx hdx halx
  go_enter Tryd.func35, Tryd.ntmps35
  go_wp2_with fail
  go_loopg [8, 19] n (VecRel 48 w bz oz n L (fun i pre c => 0 ≤ c ∧ c < 18446744073709551616 ∧ val 18446744073709551616 pre + 18446744073709551616 ^ i * c = val 18446744073709551616 (xs.take i) * y + r))
  case atStart => exact ⟨0, [], r, by omega, rfl, rfl, rfl, by rw [spl_nil]; exact HZ.out, Fr.refl _ _, rfl, DG.nil _, hr0, hr1, by simp [val_nil]⟩
  case round =>
    obtain ⟨i, pre, c, hi, rfl, rfl, rfl, hrow, hf, hl, hdg, hc0, hc1, hv⟩ := hrel
    by_cases h1 : i < n
    · have hlen : (spl L oz pre).length = L.length := spl_len (by omega)
      have hfz := hrow.frozen (oz + i)
      have cz := hrow.cell (i := oz + i) (by omega)
      obtain ⟨old, hold⟩ : ∃ old, old = (spl L oz pre).getD (oz + i) 0 := ⟨_, rfl⟩
      rw [← hold] at cz
      have HV := Lib.hid hv
      have HL := Lib.hid hl
      have HLEN := Lib.hid hlen
      have key : True := trivial
      have cx := HSx.out.spl HZ.out hrow hf (by omega) (j := i) (by rw [HNx.out]; exact h1) (by rcases HALx.out with h | h | h; exact .inl h; exact .inr (.inr (by omega)); exact .inr (.inl (by omega)))
      obtain ⟨x, hx⟩ : ∃ x, x = xs.getD i 0 := ⟨_, rfl⟩
      rw [← hx] at cx
      have hxd := HDx.out.getD (by omega) i
      rw [← hx] at hxd
      obtain ⟨hx0, hx1⟩ := hxd
      have Hx := Lib.hid hx
      clear hx
      clear hold hv hlen hl
      have CA := fun W => mulAdd_any x y c W hx0 hx1 hy0 hy1 hc0 hc1
      have hb := mulc_bound hx0 hx1 hy0 hy1 hc0 hc1
      obtain ⟨p, hp⟩ : ∃ p, p = x * y + c := ⟨_, rfl⟩
      rw [← hp] at hb
      simp only [← hp] at CA
      have HP := Lib.hid hp
      have HB := Lib.hid hb
      have HCA := Lib.hid CA
      clear hp hb CA
      go_wp2_with (go_at_call 37; refine (HCA.out _).mono ?_; rintro e w1 ⟨rfl, rfl⟩)
      go_roundg (n - (i + 1))
      case measure => omega
      case rel =>
        have e : oz + i = oz + pre.length := by rw [HL.out]
        refine ⟨i + 1, pre ++ [p % 18446744073709551616], _, by omega, rfl, by go_num, rfl, ?_, by repeat (first | exact hf | apply Fr.drewN | apply Fr.set _ (.inl (by simp))), by rw [List.length_append, HL.out]; simp, hdg.append (DG.cons (Int.emod_nonneg _ (by omega)) (Int.emod_lt_of_pos _ (by omega)) (DG.nil _)), by have := HB.out; omega, by have := HB.out; omega, ?_⟩
        · rw [← spl_set_end (by rw [HL.out]; omega), ← e]; exact hrow.set _ _
        · rw [val_snoc, HL.out]
          rw [val_take_succ', ← Hx.out]
          have h := HV.out
          have e := Int.emod_add_mul_ediv p 18446744073709551616
          have hp := HP.out
          rw [Int.pow_succ]
          grind
    · obtain rfl : i = n := by omega
      go_wp2_with fail
      go_ret
      have hv' := hv
      rw [List.take_of_length_le (by rw [HNx.out]; omega)] at hv'
      exact ⟨pre, c, rfl, hrow, hf, hl, hdg, hc0, hc1, hv'⟩
end Go.Proofs.YtbepihdlaidikaaDoor
end
section
namespace Go.Big
open Go.RowKit
theorem step_copy {P : Program} {ops : Array Oper} {o : Oper} {a : Act} {w : World} {K : Act → World → Prop} {Q : Exit → Act → World → Prop} {E : Prop} (hgd : o.guard = none) (d s : Operand) (dT sT : TypeId)
    (ho : o.op = .call { callee := .builtin .copy, args := #[d, s], argTypes := #[dT, sT] }) (k : IntKind) (T : TypeId) (hu : P.underlying dT = some (.slice T)) (hsz : (P.info? T).map (·.size) = some 1)
    (dp sp : Option Addr) (dLen dCap sCap : Nat) (hd : a.eval d = .slice dp dLen dCap) (xs : List Int) (hs : a.eval s = .slice sp dLen sCap) (hn : xs.length = dLen) (bx ox : Nat) (hsl : Src k w bx ox xs) (g off : Nat) (L : List Int) (hrow : Row k T w g L)
    (hdp : 0 < dLen → dp = some ⟨g, off, none⟩ ∧ sp = some ⟨bx, ox, none⟩) (hfit : off + dLen ≤ L.length)
    (h : ∀ w', Row k T w' g (spl L off xs) → Fr [g] w w' → K (a.put o.dst (goInt dLen)) w') :
    if Region.wanted o (yielded ops a.tmps) = true then Oper.wp P o a w K Q else E := by
  have hw : Region.wanted o (yielded ops a.tmps) = true := by simp [Region.wanted, hgd]
  rw [if_pos hw]
  by_cases h0 : dLen = 0
  · have hrun := run_copy_none (P := P) w dT sT o.type T dp sp dLen dCap dLen sCap hu hsz (by simp [h0])
    unfold Oper.wp
    simp [execOp, ho, resolve, invoke, builtin, hd, hs, hrun, Result.andThen]
    have e := h w (by rw [List.eq_nil_of_length_eq_zero (hn.trans h0), spl_nil]; exact hrow) (Fr.refl _ _)
    rw [h0] at e
    exact e
  · obtain ⟨rfl, rfl⟩ := hdp (by omega)
    have hrun := run_copy_row (P := P) w dT sT o.type T g off dLen dCap ⟨bx, ox, none⟩ dLen sCap _ T (xs.map (Value.int k)) hu hsz hrow (by simp [hn]) (by
      intro j v hj
      rw [List.getElem?_map] at hj
      have hlt : j < xs.length := by
        rcases Nat.lt_or_ge j xs.length with hl | hl
        · exact hl
        · rw [List.getElem?_eq_none hl] at hj; cases hj
      have hc := hsl j hlt
      rw [List.getElem?_eq_getElem hlt] at hj
      simp only [Option.map_some, Option.some.injEq] at hj
      subst hj
      rw [getD_in hlt] at hc
      rw [← hc]
      unfold Addr.add
      split
      · rename_i hj0; subst hj0; rfl
      · rfl) (by rw [List.length_map, hn]; simpa using hfit) (ints_oneCell k _)
    unfold Oper.wp
    simp [execOp, ho, resolve, invoke, builtin, hd, hs, hrun, Result.andThen]
    rw [hn]
    refine h _ ?_ ?_
    · unfold Row spl
      rw [setRow_heap w g _ _ T _ hrow]
      simp [List.map_take, List.map_drop, hn]
    · refine ⟨rfl, rfl, rfl, by simp [World.setRow], fun b hb hn => setRow_other w g b _ (by simpa using hn)⟩
end Go.Big
namespace Go.Proofs.YtbepihdlaidikaaDoor
open Go.Big Go.RowKit

theorem spl_app {L : List Int} {o : Nat} {cs ds : List Int} (h : o + cs.length ≤ L.length) : spl (spl L o cs) (o + cs.length) ds = spl L o (cs ++ ds) := by
  have ht : (L.take o).length = o := by rw [List.length_take]; omega
  unfold spl
  rw [List.take_append, List.drop_append]
  simp only [List.length_append, List.length_take, List.take_append, List.drop_append, List.take_take, List.drop_drop]
  rw [Nat.min_eq_left (show o ≤ L.length by omega)]
  simp only [List.append_assoc]
  congr 1
  · rw [Nat.min_eq_right (by omega)]
  · rw [show o + cs.length - o = cs.length by omega, List.take_length]
    congr 1
    rw [show cs.length - cs.length = 0 by omega]
    simp only [List.take_zero, List.nil_append]
    rw [List.drop_eq_nil_of_le (show (L.take o).length ≤ o + cs.length + ds.length by omega), List.drop_eq_nil_of_le (show cs.length ≤ o + cs.length + ds.length - o by omega)]
    simp only [List.nil_append]
    congr 2
    omega
theorem size_wordV : (Tryd.prog.info? 48).map (·.size) = some 1 := by kernel_rfl
set_option maxRecDepth 100000 in
theorem neq_ptr {bz oz bx ox : Nat} {L X : List Int} {T T' : TypeId} (w : World) (hne : bx ≠ bz) (hz : Row .u64 T w bz L) (hx : Row .u64 T' w bx X) :
    (binOp .neq 78 (.pointer (some ⟨bz, oz, none⟩)) (.pointer (some ⟨bx, ox, none⟩))).run Tryd.prog w = .ok (.bool true) w := by
  obtain ⟨j, hj, hjs⟩ : ∃ j, Tryd.prog.info? 48 = some j ∧ j.size = 1 := by
    have h := size_wordV
    cases e : Tryd.prog.info? 48 with
    | none => rw [e] at h; cases h
    | some j => rw [e] at h; exact ⟨j, rfl, by simpa using h⟩
  have h : ∀ d : Nat, (Op.equalIn (d + 1) 78 (.pointer (some ⟨bz, oz, none⟩)) (.pointer (some ⟨bx, ox, none⟩))).run Tryd.prog w = .ok false w := fun d => by
    simp [Op.equalIn, run_underlying Tryd.underlying78, sizeOf, typeInfo, hj, hjs, run_sameAddr_other w (a := ⟨bz, oz, none⟩) (b := ⟨bx, ox, none⟩) (fun e => hne (by injection e with e; exact e.symm)) hz hx]
  simp only [binOp]
  simp [Op.equal, Op.maxDepth, h 9999]
theorem fr_same {w w1 w2 : World} {b : Nat} (h : Fr [b] w w1) (h' : Fr [b] w1 w2) : Fr [b] w w2 := h.trans h' (fun _ hx _ => hx)
end Go.Proofs.YtbepihdlaidikaaDoor
end
