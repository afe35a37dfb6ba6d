/-
  Recursive division, all lengths; divRecursive. Conditions: target, dividend and divisor lie apart; the stack is as such; the thresholds lie in their variables.
-/
import Derived.Test.YtknokndpeneogaaDoorDrF
set_option linter.unusedSimpArgs false
set_option linter.unusedVariables false
namespace Go.Proofs.YtknokndpeneogaaDoor
open Go.Big Go.RowKit
attribute [local go_sem ↓] Go.wp_at_zero Go.wp_at_succ
/-- as DrPre, the target's words not yet nought -/
structure DrP0 (n lu lz s : Nat) (q : Option StkSt) (bz oz cz bu ou cu bv ov cv : Nat) (U V : List Int) (w : World) : Prop where
  st : StkAt w s q
  len : lenS q + 10000 * (n + 1) ≤ 100000000000
  thr : Glo w 2 40
  td : Glo w 3 40
  z : ∃ Z, Wr 77 w bz oz Z ∧ Z.length = lz
  u : Wr 77 w bu ou U
  ul : U.length = lu
  ud : DG 18446744073709551616 U
  v : Nm w (some ⟨bv, ov, none⟩) bv ov cv V
  kv : KnV n V
  fit : val 18446744073709551616 U < 9223372036854775808 * 18446744073709551616 ^ (n + lz - 1)
  few : n ≤ 900
  lz9 : lz ≤ 100000
  lu9 : lu ≤ 100000
  cz1 : lz ≤ cz
  cz9 : cz ≤ 4611686018427387904
  cu1 : lu ≤ cu
  cu9 : cu ≤ 4611686018427387904
  cv9 : cv ≤ 4611686018427387904
  dvu : Dj bv ov n bu ou lu
  dzu : Dj bz oz lz bu ou lu
  dvz : Dj bv ov n bz oz lz
  oz_ : Off (StS s q) bz oz lz
  ou_ : Off (StS s q) bu ou lu
  ov_ : Off (StS s q) bv ov cv
section
variable {n lu lz s : Nat} {q : Option StkSt} {bz oz cz bu ou cu bv ov cv : Nat} {U V : List Int} {w w' : World}
theorem DrP0.pre (h : DrP0 n lu lz s q bz oz cz bu ou cu bv ov cv U V w) (hz : Wr 77 w' bz oz (List.replicate lz 0)) (hf : Fc 77 (In1 bz oz lz) w w') : DrPre n lu lz s q bz oz cz bu ou cu bv ov cv U V w' := by
  obtain ⟨Z, hZ, _⟩ := h.z
  have hZ' := hZ
  obtain ⟨_, LZ, hLZ, _⟩ := hZ'
  refine ⟨st_in1 h.st hZ hf, h.len, h.thr.fc hf (fun e => h.thr.row_ne hLZ e.1), h.td.fc hf (fun e => h.td.row_ne hLZ e.1), hz, h.u.fc hf (by rw [h.ul]; exact h.dzu.symm.off), h.ul, h.ud, h.v.fc hf (by rw [h.kv.len]; exact h.dvz.off), h.kv, h.fit, h.few, h.lz9, h.lu9, h.cz1, h.cz9, h.cu1, h.cu9, h.cv9, h.dvu, h.dzu, h.dvz, h.oz_, h.ou_, h.ov_⟩
theorem DrPost.back {X Y : Int} {e : Ending} {w2 : World} (h : DrPost s q bz oz lz bu ou lu X Y w' e w2) (hf : Fc 77 (In1 bz oz lz) w w') : DrPost s q bz oz lz bu ou lu X Y w e w2 := by
  obtain ⟨q', Z', U', rfl, h1, h2, h3, h4, h5, h6, h7, h8, h9, h10, h11, h12⟩ := h
  exact ⟨q', Z', U', rfl, h1, h2.le hf.size, h3, h4, h5, h6, h7, h8, h9, h10, h11, (hf.mono (fun b j hh _ => .inr (.inl hh))).trans h12 (fun b j hh _ => hh)⟩
theorem dr_ok (n : Nat) : DrOK n := by
  induction n using Nat.strongRecOn with
  | _ n R =>
    intro lu lz s q bz oz cz bu ou cu bv ov cv U V d w h
    obtain ⟨i, hi⟩ := cut_at U
    by_cases h0 : i = 0
    · subst h0
      exact dr_zero d h hi
    by_cases h1 : i < n
    · exact dr_few d h hi (by omega) h1
    by_cases h2 : n < 40
    · exact dr_basic d h hi (by omega) h2
    · exact dr_main d h hi (by omega) (by omega) R
set_option maxRecDepth 100000 in
set_option maxHeartbeats 1000000 in
theorem divRecursive_any (h : DrP0 n lu lz s q bz oz cz bu ou cu bv ov cv U V w) :
    Calls Tryd.prog 84 #[.slice (some ⟨bz, oz, none⟩) lz cz, .pointer (some ⟨s, 0, none⟩), .slice (some ⟨bu, ou, none⟩) lu cu, .slice (some ⟨bv, ov, none⟩) n cv] w (DrPost s q bz oz lz bu ou lu (val 18446744073709551616 U) (val 18446744073709551616 V) w) := by
  obtain ⟨Z, hZ, hZl⟩ := h.z
  obtain ⟨_, L, hL, hLl⟩ := hZ
  rw [hZl] at hLl
  have H := Lib.hid h
  have HL := Lib.hid hL
  have cz1 := h.cz1
  have cz9 := h.cz9
  have cu1 := h.cu1
  have cu9 := h.cu9
  have cv9 := h.cv9
  clear h hL hZl
  go_enter Tryd.func84, Tryd.ntmps84
  go_wp2_with (first
    | (refine wp_clear rfl (.tmp 8) _ rfl .u64 77 8 ty_big (some ⟨bz, oz, none⟩) bz oz lz cz rfl (fun _ => rfl) L HL.out hLl ?_; intro w2 row2 f2; have HR := Lib.hid row2; have HF := Lib.hid f2; clear row2 f2)
    | (go_at_call 109; have hlr : (List.replicate lz (0 : Int)).length = lz := List.length_replicate; have hf : Fc 77 (In1 bz oz lz) w w2 := fc_row (L' := L) HL.out HR.out HF.out (by rw [hlr]; exact hLl) (fun i h1 h2 => ⟨rfl, h1, by rw [hlr] at h2; exact h2⟩); refine (dr_ok n lu lz s q bz oz cz bu ou cu bv ov cv U V 0 w2 (H.out.pre (Wr.of_spl HR.out (by rw [hlr]; exact hLl)) hf)).mono ?_; intro e w3 hp; have HP := Lib.hid (hp.back hf); obtain ⟨_, _, _, rfl, _⟩ := hp))
  first | go_end0 | refine bodyPost_ret (results_none rfl _ _ _) rfl ?_
  exact HP.out
end
end Go.Proofs.YtknokndpeneogaaDoor
