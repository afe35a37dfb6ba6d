/-
  basicMul. Conditions: what is read can be read, what is written is a row; the factors lie apart from the product.
-/
import Derived.Test.YtknokndpeneogaaDoorSetN
import Derived.Test.YtknokndpeneogaaDoorgVec
import Derived.Deep.RegionWith
set_option linter.unusedSimpArgs false
set_option linter.unusedVariables false
namespace Go.Big
open Go.RowKit
theorem spl_spl {L zs seg : List Int} {o i : Nat} (hL : o + zs.length ≤ L.length) (h : i + seg.length ≤ zs.length) : spl (spl L o zs) (o + i) seg = spl L o (spl zs i seg) := by
  have ht : (L.take o).length = o := by rw [List.length_take]; omega
  have hl : (spl zs i seg).length = zs.length := spl_len h
  unfold spl at *
  rw [List.take_append, List.drop_append]
  simp only [List.length_append, List.length_take, List.take_append, List.drop_append, List.take_take, List.drop_drop, List.length_drop]
  rw [Nat.min_eq_left (show o ≤ L.length by omega), Nat.min_eq_right (show o ≤ o + i by omega), Nat.min_eq_left (show i ≤ zs.length by omega)]
  rw [show o + i - o = i by omega, show i - zs.length = 0 by omega, List.take_zero, List.append_nil]
  rw [List.drop_eq_nil_of_le (show (L.take o).length ≤ o + i + seg.length by omega), List.nil_append]
  rw [show o + i + seg.length - o = i + seg.length by omega]
  rw [show i + seg.length - zs.length = 0 by omega]
  simp only [List.append_assoc]
  rw [show i + (seg.length + (zs.length - (i + seg.length))) = zs.length by omega, Nat.add_zero]
theorem val_spl {B : Int} {zs seg : List Int} {i : Nat} (h : i + seg.length ≤ zs.length) : val B (spl zs i seg) = val B zs + B ^ i * (val B seg - val B ((zs.drop i).take seg.length)) := by
  have e1 := val_split B zs i (by omega)
  have e2 := val_split B (zs.drop i) seg.length (by rw [List.length_drop]; omega)
  unfold spl
  rw [val_append, val_append, List.length_take, Nat.min_eq_left (by omega), e1, e2, List.drop_drop]
  grind
theorem spl_drop_take {zs : List Int} {i m : Nat} : (zs.drop i).take m = (zs.drop i).take m := rfl
/-- a part of a row and what lies apart from it -/
def Apart (bz oz n bx ox m : Nat) : Prop := bx ≠ bz ∨ ox + m ≤ oz ∨ oz + n ≤ ox
/-- what lies apart from what was written reads as before -/
theorem Src.keep {k : IntKind} {T : TypeId} {w w' : World} {b : Nat} {L : List Int} {o : Nat} {cs : List Int} {bx ox : Nat} {xs : List Int} (hs : Src k w bx ox xs) (hr : Row k T w b L)
    (hr' : Row k T w' b (Big.spl L o cs)) (hf : Fr [b] w w') (hfit : o + cs.length ≤ L.length) (ha : Apart b o cs.length bx ox xs.length) : Src k w' bx ox xs := fun j hj =>
  hs.spl hr hr' hf hfit hj (by rcases ha with h | h | h; exact .inl h; exact .inr (.inl (by omega)); exact .inr (.inr (by omega)))
theorem Src.drew_ {k : IntKind} {w : World} {b off : Nat} {xs : List Int} (h : Src k w b off xs) : Src k w.drew b off xs := h
theorem Row.part {k : IntKind} {T : TypeId} {w : World} {b o i n : Nat} {L zs : List Int} (h : Row k T w b (spl L o zs)) (hL : o + zs.length ≤ L.length) (hi : i + n ≤ zs.length) : Src k w b (o + i) ((zs.drop i).take n) := by
  intro j hj
  rw [List.length_take, List.length_drop] at hj
  rw [h.cell (by rw [spl_len hL]; omega)]
  rw [Nat.add_assoc, spl_get_in (by omega) (by omega)]
  congr 2
  simp only [List.getD_eq_getElem?_getD]
  rw [List.getElem?_take, if_pos (by omega), List.getElem?_drop]
end Go.Big
namespace Go.Proofs.YtknokndpeneogaaDoor
open Go.Big Go.RowKit
set_option maxRecDepth 100000 in
theorem addMulVVWWo_any (bz oz cz bx ox cx by_ oy cy n : Nat) (L xs ys : List Int) (m a : Int) (w : World) (hz : Row .u64 77 w bz L) (hfit : oz + n ≤ L.length) (hnx : xs.length = n) (hsx : Src .u64 w bx ox xs) (hdx : DG 18446744073709551616 xs) (halx : NoTouch bz oz bx ox n)
    (hny : ys.length = n) (hsy : Src .u64 w by_ oy ys) (hdy : DG 18446744073709551616 ys) (haly : NoTouch bz oz by_ oy n) (hn9 : n ≤ 1000000000) (hm0 : 0 ≤ m) (hm1 : m < 18446744073709551616) (ha0 : 0 ≤ a) (ha1 : a < 18446744073709551616) :
    Calls Tryd.prog 94 #[.slice (some ⟨bz, oz, none⟩) n cz, .slice (some ⟨bx, ox, none⟩) n cx, .slice (some ⟨by_, oy, none⟩) n cy, .int .u64 m, .int .u64 a] w (VecPost 77 w bz oz n L (fun zs c => 0 ≤ c ∧ c < 18446744073709551616 ∧ val 18446744073709551616 zs + 18446744073709551616 ^ n * c = val 18446744073709551616 xs + val 18446744073709551616 ys * m + a)) := by
  have C := Lib.hid (addMulVVWW_any bz oz cz bx ox cx by_ oy cy n L xs ys m a w hz hfit hnx hsx hdx halx hny hsy hdy haly hn9 hm0 hm1 ha0 ha1)
  clear hz hfit hnx hsx hdx halx hny hsy hdy haly
  go_enter Tryd.func94, Tryd.ntmps94
  go_wp2_with (go_at_call 125; refine (Hid.out C).mono ?_; rintro e w1 ⟨zs, c, rfl, H⟩; have HH := Lib.hid H; clear H C)
  go_ret
  exact ⟨zs, c, rfl, HH.out⟩
/-- the words zs lie over L from oz on -/
def RowPost (T : TypeId) (w : World) (bz oz n : Nat) (L : List Int) (V : Int) (e : Ending) (w' : World) : Prop :=
  ∃ zs : List Int, e = .returned (.tuple #[]) ∧ Row .u64 T w' bz (spl L oz zs) ∧ Fr [bz] w w' ∧ zs.length = n ∧ DG 18446744073709551616 zs ∧ val 18446744073709551616 zs = V
def BMRel (T : TypeId) (w : World) (bz oz m n : Nat) (L ys : List Int) (X : Int) (g : Nat) (iv : Value) (wr : World) : Prop :=
  ∃ (i : Nat) (zs : List Int), i ≤ n ∧ g = n - i ∧ iv = .int .i64 i ∧ Row .u64 T wr bz (spl L oz zs) ∧ Fr [bz] w wr ∧ zs.length = m + n ∧ DG 18446744073709551616 zs ∧ (∀ j, m + i ≤ j → zs.getD j 0 = 0) ∧ val 18446744073709551616 zs = X * val 18446744073709551616 (ys.take i)
set_option maxRecDepth 100000 in
set_option maxHeartbeats 2000000 in
theorem basicMul_any (bz oz nz cz bx ox cx by_ oy cy m n : Nat) (L xs ys : List Int) (w : World) (hz : Row .u64 77 w bz L) (hfit : oz + nz ≤ L.length) (hmn : m + n ≤ nz) (hcz : nz ≤ cz)
    (hnx : xs.length = m) (hsx : Src .u64 w bx ox xs) (hdx : DG 18446744073709551616 xs) (hax : Apart bz oz (m + n) bx ox m)
    (hny : ys.length = n) (hsy : Src .u64 w by_ oy ys) (hdy : DG 18446744073709551616 ys) (hay : Apart bz oz (m + n) by_ oy n) (hm0 : 0 < m) (hn0 : 0 < n) (hm9 : m ≤ 1000000) (hn9 : n ≤ 1000000) (hcz9 : cz ≤ 4611686018427387904) (hcx : m ≤ cx) (hcy : n ≤ cy) :
    Calls Tryd.prog 82 #[.slice (some ⟨bz, oz, none⟩) nz cz, .slice (some ⟨bx, ox, none⟩) m cx, .slice (some ⟨by_, oy, none⟩) n cy] w (RowPost 77 w bz oz (m + n) L (val 18446744073709551616 xs * val 18446744073709551616 ys)) := by
  have HZ := Lib.hid hz
  have HNx := Lib.hid hnx
  have HSx := Lib.hid hsx
  have HDx := Lib.hid hdx
  have HAx := Lib.hid hax
  have HNy := Lib.hid hny
  have HSy := Lib.hid hsy
  have HDy := Lib.hid hdy
  have HAy := Lib.hid hay
  clear hz hnx hsx hdx hax hny hsy hdy hay
  go_enter Tryd.func82, Tryd.ntmps82
  go_wp2_with (refine wp_clear rfl (.tmp 14) _ rfl .u64 77 8 ty_big (some ⟨bz, oz, none⟩) bz oz (m + n) cz rfl (fun _ => rfl) L HZ.out (by omega) ?_; intro w1 row1 f1; have HR1 := Lib.hid row1; have HF1 := Lib.hid f1; clear row1 f1)
  go_loopg [17] n (BMRel 77 w bz oz m n L ys (val 18446744073709551616 xs))
  case atStart => exact ⟨0, List.replicate (m + n) 0, by omega, rfl, rfl, HR1.out, HF1.out, by simp, DG.rep (by omega) _, fun j _ => by simp only [List.getD_eq_getElem?_getD, List.getElem?_replicate]; split <;> rfl, by rw [val_rep]; simp [val_nil]⟩
  case round =>
    obtain ⟨i, zs, hi, rfl, rfl, hrow, hf, hl, hdg, hz0, hv⟩ := hrel
    have HROW := Lib.hid hrow
    have HF := Lib.hid hf
    have HL := Lib.hid hl
    have HZ0 := Lib.hid hz0
    have HV := Lib.hid hv
    by_cases h1 : i < n
    · have cy := (HSy.out.keep HZ.out hrow hf (by omega) (by rw [hl, HNy.out]; exact HAy.out)) i (by rw [HNy.out]; exact h1)
      obtain ⟨d, hd⟩ : ∃ d, d = ys.getD i 0 := ⟨_, rfl⟩
      rw [← hd] at cy
      have hdd := HDy.out.getD (by omega) i
      rw [← hd] at hdd
      obtain ⟨hd0, hd1⟩ := hdd
      have HD := Lib.hid hd
      have hrel2 : ∀ zs' wr', Row .u64 77 wr' bz (spl L oz zs') → Fr [bz] w wr' → zs'.length = m + n → DG 18446744073709551616 zs' → (∀ j, m + (i + 1) ≤ j → zs'.getD j 0 = 0) → val 18446744073709551616 zs' = val 18446744073709551616 zs + 18446744073709551616 ^ i * (val 18446744073709551616 xs * d) → BMRel 77 w bz oz m n L ys (val 18446744073709551616 xs) (n - (i + 1)) (.int .i64 ((i : Int) + 1)) wr' := by
        intro zs' wr' a1 a2 a3 a4 a5 a6
        refine ⟨i + 1, zs', by omega, rfl, by go_num, a1, a2, a3, a4, a5, ?_⟩
        rw [a6, HV.out, val_take_succ', ← HD.out]
        grind
      have HR := Lib.hid hrel2
      clear hd hrel2 hl hz0 hv
      by_cases h2 : d = 0
      · subst h2
        clear hrow hf
        go_wp2_with fail
        go_roundg (n - (i + 1))
        case measure => omega
        case rel => exact HR.out zs _ HROW.out HF.out HL.out hdg (fun j hj => HZ0.out j (by omega)) (by rw [Int.mul_zero, Int.mul_zero, Int.add_zero])
      · have hd2 : (d == 0) = false := by rw [beq_eq_false_iff_ne]; exact h2
        have hci : ¬ cz = i := by omega
        have hL1 : oz + zs.length ≤ L.length := by rw [HL.out]; omega
        have hL2 : (spl L oz zs).length = L.length := spl_len hL1
        have hsz : Src .u64 wr.drew bz (oz + i) ((zs.drop i).take m) := hrow.drew.part hL1 (by rw [HL.out]; omega)
        have hlz : ((zs.drop i).take m).length = m := by rw [List.length_take, List.length_drop, HL.out]; omega
        have hsx2 : Src .u64 wr.drew bx ox xs := (HSx.out.keep HZ.out hrow hf (by rw [HL.out]; omega) (by rw [HL.out, HNx.out]; exact HAx.out)).drew_
        have CA := Lib.hid (addMulVVWWo_any bz (oz + i) (cz - i) bz (oz + i) (cz - i) bx ox cx m (spl L oz zs) _ xs d 0 wr.drew hrow.drew (by rw [hL2]; omega) hlz hsz ((hdg.drop i).take m) (.inr (.inl (Nat.le_refl _))) HNx.out hsx2 HDx.out (by rcases HAx.out with h | h | h; exact .inl h; exact .inr (.inr (by omega)); exact .inr (.inl (by omega))) (by omega) hd0 hd1 (by omega) (by omega))
        have HLZ := Lib.hid hlz
        have ein : ((m : Int) + (i : Int)).toNat = m + i := by omega
        have ein2 : ((i : Int) + (m : Int)).toNat = i + m := by omega
        have hwi : IntKind.i64.wrap ((m : Int) + (i : Int)) = (m : Int) + (i : Int) := by rw [IntKind.wrap_i64]; omega
        have hwi2 : IntKind.i64.wrap ((i : Int) + (m : Int)) = (i : Int) + (m : Int) := by rw [IntKind.wrap_i64]; omega
        have hii : (i : Int) + (m : Int) ≤ (cz : Int) := by omega
        have hi0 : (0 : Int) ≤ (m : Int) + (i : Int) := by omega
        have hi1 : (m : Int) + (i : Int) < (nz : Int) := by omega
        clear hsz hlz hsx2 hrow hf hL1 hL2
        go_wp2_with fail
        go_region_with (go_at_call 94; refine (Hid.out CA).mono ?_; rintro e w2 ⟨seg, k, rfl, row2, f2, hsl, hsd, hk0, hk1, hv2⟩; have HSL := Lib.hid hsl; have HV2 := Lib.hid hv2; have HF2 := Lib.hid f2; rw [spl_spl (by rw [HL.out]; omega) (by rw [HSL.out, HL.out]; omega)] at row2; have hll := spl_len (L := zs) (o := i) (cs := seg) (by rw [HSL.out, HL.out]; omega); have hfz := row2.frozen (oz + (m + i)); have cz2 := row2.cell (i := oz + (m + i)) (by rw [spl_len (by rw [hll, HL.out]; omega)]; omega); obtain ⟨old, hold⟩ : ∃ old, old = (spl L oz (spl zs i seg)).getD (oz + (m + i)) 0 := ⟨_, rfl⟩; rw [← hold] at cz2; have HR2 := Lib.hid row2; clear hsl hv2 f2 hold hll row2)
        all_goals (
          have hll : (spl zs i seg).length = m + n := by rw [spl_len (by rw [HSL.out, HL.out]; omega)]; exact HL.out
          have row3 := HR2.out.set (oz + (m + i)) k
          rw [spl_set_in (by omega) (by rw [hll]; omega)] at row3
          have hold : (spl zs i seg).getD (m + i) 0 = 0 := by
            rw [spl_get (by rw [HSL.out, HL.out]; omega), if_neg (by omega), if_neg (by rw [HSL.out]; omega)]
            exact HZ0.out _ (by omega)
          have G := Lib.hid (HR.out ((spl zs i seg).set (m + i) k) _ row3 ((fr_same HF.out ((Fr.refl _ _).drew.trans HF2.out (fun _ h _ => h))).set (.inl (by simp)) _) (by rw [List.length_set, hll]) ((spl_dg hdg hsd).set _ hk0 hk1) (fun j hj => by
            rw [getD_set _ (by omega), spl_get (by rw [HSL.out, HL.out]; omega), if_neg (by omega), if_neg (by rw [HSL.out]; omega)]
            exact HZ0.out j (by omega)) (by
            rw [val_set' _ _ _ (by rw [hll]; omega), hold, val_spl (by rw [HSL.out, HL.out]; omega), HSL.out, Int.sub_zero, Nat.add_comm m i, Int.pow_add]
            have h := HV2.out
            grind))
          clear hll row3 hold HR2 HF2
          go_wp2_with fail
          go_roundg (n - (i + 1))
          case measure => omega
          case rel => exact G.out)
    · obtain rfl : i = n := by omega
      have hv' := hv
      rw [List.take_of_length_le (by rw [HNy.out]; omega)] at hv'
      have HV' := Lib.hid hv'
      clear hv hv' hz0 hl hrow hf
      go_wp2_with fail
      go_end0
      exact ⟨zs, rfl, HROW.out, HF.out, HL.out, hdg, HV'.out⟩
end Go.Proofs.YtknokndpeneogaaDoor
