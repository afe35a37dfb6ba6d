/-
  Numbers in places: nat.norm, set, add, sub at any receiver. Conditions: the receiver can be written; the operands lie apart from it or begin where it begins.
-/
import Derived.Test.YtbepihdlaidikaaDoorVWg
import Derived.Test.YtbepihdlaidikaaDoorgStk
set_option linter.unusedSimpArgs false
set_option linter.unusedVariables false
namespace Go.Proofs.YtbepihdlaidikaaDoor
open Go.Big Go.RowKit
/-- a number's slice in a place, c cells of room -/
def Nm (w : World) (A : Option Addr) (b o c : Nat) (xs : List Int) : Prop := xs.length ≤ c ∧ Rcv w A b o c ∧ (0 < xs.length → Go.Big.Src .u64 w b o xs)
section
variable {w w1 w' : World} {A : Option Addr} {b o c n : Nat} {xs Z : List Int} {S : Nat → Nat → Prop}
theorem Rcv.max (h : Rcv w A b o c) : c ≤ maxLen := h.1
theorem Rcv.lt (h : Rcv w A b o c) (hc : 0 < c) : b < w.heap.size := by
  obtain ⟨_, h | ⟨_, Z, hZ, _⟩⟩ := h
  · omega
  · exact hZ.lt
theorem Rcv.addr (h : Rcv w A b o c) (hc : 0 < c) : A = some ⟨b, o, none⟩ := by
  obtain ⟨_, h | ⟨h, _⟩⟩ := h
  · omega
  · exact h
theorem Rcv.row (h : Rcv w A b o c) (hc : 0 < c) : ∃ L, Row .u64 48 w b L ∧ o + c ≤ L.length := by
  obtain ⟨_, h | ⟨_, Z, ⟨_, L, hL, hl⟩, hz⟩⟩ := h
  · omega
  · exact ⟨L, hL, by omega⟩
theorem Rcv.of_row {L : List Int} (h : Row .u64 48 w b L) (hl : o + c ≤ L.length) (hc : c ≤ maxLen) : Rcv w (some ⟨b, o, none⟩) b o c := by
  refine ⟨hc, .inr ⟨rfl, (L.drop o).take c, Wr.of_row h ?_ (fun j hj => ?_), ?_⟩⟩
  · rw [List.length_take, List.length_drop]; omega
  · rw [List.length_take] at hj; rw [getD_drop_take (by omega)]
  · rw [List.length_take, List.length_drop]; omega
theorem Rcv.wr (h : Rcv w A b o c) (hn : n ≤ c) (hc : 0 < c) : ∃ Z, Wr 48 w b o Z ∧ Z.length = n := by
  obtain ⟨_, h | ⟨_, Z, hZ, hl⟩⟩ := h
  · omega
  · exact ⟨Z.take n, hZ.take n (by omega), by rw [List.length_take]; omega⟩
/-- a part of the room -/
theorem Rcv.drop (h : Rcv w A b o c) (hn : n < c) : Rcv w (some ⟨b, o + n, none⟩) b (o + n) (c - n) := by
  obtain ⟨L, hL, hl⟩ := h.row (by omega)
  exact Rcv.of_row hL (by omega) (by have := h.1; omega)
theorem Nm.rcv (h : Nm w A b o c xs) : Rcv w A b o c := h.2.1
theorem Nm.le (h : Nm w A b o c xs) : xs.length ≤ c := h.1
theorem Nm.max (h : Nm w A b o c xs) : c ≤ maxLen := h.2.1.1
theorem Nm.addr (h : Nm w A b o c xs) (hp : 0 < xs.length) : A = some ⟨b, o, none⟩ := h.rcv.addr (by have := h.1; omega)
theorem Nm.lt (h : Nm w A b o c xs) (hp : 0 < xs.length) : b < w.heap.size := h.rcv.lt (by have := h.1; omega)
theorem Nm.wr (h : Nm w A b o c xs) (hp : 0 < xs.length) : Wr 48 w b o xs := by
  obtain ⟨L, hL, hl⟩ := h.rcv.row (by have := h.1; omega)
  exact ⟨h.2.2 hp, L, hL, by have := h.1; omega⟩
theorem Nm.fc (h : Nm w A b o c xs) (hf : Fc 48 S w w1) (ho : Off S b o xs.length) : Nm w1 A b o c xs :=
  ⟨h.1, h.2.1.fc hf, fun hp => (h.2.2 hp).fc hf ho⟩
theorem Nm.fr0 (h : Nm w A b o c xs) (hf : Fr [] w w1) : Nm w1 A b o c xs := h.fc (Fc.fr0 hf 48 (fun _ _ => False)) (fun _ _ _ h => h)
theorem Nm.drew (h : Nm w A b o c xs) : Nm w.drew A b o c xs := h.fr0 (Fr.refl _ _).drew
theorem Nm.of_wr (h : Wr 48 w b o xs) (hr : Rcv w A b o c) (hl : xs.length ≤ c) : Nm w A b o c xs := ⟨hl, hr, fun _ => h.1⟩
theorem Nm.nil (h : Rcv w A b o c) : Nm w A b o c [] := ⟨Nat.zero_le _, h, fun hp => absurd hp (by simp)⟩
theorem Nm.sl (h : Nm w A b o c xs) : Sl .u64 w (.slice A xs.length c) xs := ⟨A, c, rfl, h.1, h.max, fun hp => ⟨b, o, h.addr hp, h.lt hp, h.2.2 hp⟩⟩
/-- cut at its upper end -/
theorem Nm.cut (h : Nm w A b o c xs) {i : Nat} (hi : i ≤ xs.length) : Nm w A b o c (xs.take i) := by
  refine ⟨by rw [List.length_take]; have := h.1; omega, h.2.1, fun hp => ?_⟩
  rw [List.length_take] at hp
  exact (h.2.2 (by omega)).take i
theorem cut_facts {i : Nat} (hd : DG 18446744073709551616 xs) (hc : Go.Proofs.YtbepihdlaidikaaDoor.CutAt xs i) : (xs.take i).length = i ∧ DG 18446744073709551616 (xs.take i) ∧ NZ (xs.take i) ∧ val 18446744073709551616 (xs.take i) = val 18446744073709551616 xs := by
  obtain ⟨h1, h2, h3⟩ := hc
  exact ⟨by rw [List.length_take]; omega, hd.take _, nz_take h1 h2, val_cut _ h1 h3⟩
theorem fc_row {L L' : List Int} {S : Nat → Nat → Prop} {zs : List Int} {off : Nat} (hr : Row .u64 48 w b L) (hr' : Row .u64 48 w1 b (spl L off zs)) (hf : Fr [b] w w1) (hl : off + zs.length ≤ L.length) (hS : ∀ i, off ≤ i → i < off + zs.length → S b i) :
    Fc 48 S w w1 := Fc.of_spl hf hr hr' hl hS
theorem Wr.of_spl {L zs : List Int} {off : Nat} (hr' : Row .u64 48 w1 b (spl L off zs)) (hl : off + zs.length ≤ L.length) : Wr 48 w1 b off zs :=
  Wr.of_row hr' (by rw [spl_len hl]; omega) (fun j hj => spl_get_in (by omega) hj)
end
/-- where an operand may lie beside the target: apart from its k cells, or it begins where the target begins -/
def Al (b o k bx ox m : Nat) : Prop := Dj bx ox m b o k ∨ (bx = b ∧ ox = o)
/-- a number handed back: normed; in the receiver, or in a new block -/
def ResR (w : World) (A : Option Addr) (b o c : Nat) (S : Nat → Nat → Prop) (V : Int) (e : Ending) (w' : World) : Prop :=
  ∃ A' b' o' c' zs, e = .returned (.slice A' zs.length c') ∧ Nm w' A' b' o' c' zs ∧ DG 18446744073709551616 zs ∧ NZ zs ∧ val 18446744073709551616 zs = V ∧ ((A' = A ∧ b' = b ∧ o' = o ∧ c' = c) ∨ (w.heap.size ≤ b' ∧ c' ≤ 2000000)) ∧ Fc 48 S w w'
theorem normN_any (A : Option Addr) (b o c : Nat) (xs : List Int) (w : World) (h : Nm w A b o c xs) (hd : DG 18446744073709551616 xs) :
    Calls Tryd.prog 26 #[.slice A xs.length c] w fun e w' => (∃ zs, e = .returned (.slice A zs.length c) ∧ Nm w A b o c zs ∧ DG 18446744073709551616 zs ∧ NZ zs ∧ val 18446744073709551616 zs = val 18446744073709551616 xs ∧ zs.length ≤ xs.length) ∧ w = w' := by
  refine (bnorm_any A c xs w h.1 h.max (fun hp => ⟨b, o, h.addr hp, h.2.2 hp⟩)).mono ?_
  rintro e w' ⟨i, hc, rfl, rfl⟩
  obtain ⟨h1, h2, h3, h4⟩ := cut_facts hd hc
  exact ⟨⟨xs.take i, by rw [h1], h.cut hc.1, h2, h3, h4, by rw [h1]; exact hc.1⟩, rfl⟩
/-- what was made lies where the receiver may be written, or in a new block -/
theorem MadeR.out {A : Option Addr} {b o c n : Nat} {w : World} {e : Ending} {w' : World} (h : MadeR A b o c n w e w') (hlt : 0 < c → b < w.heap.size) :
    ∃ b' o' c' Z, e = .returned (.slice (some ⟨b', o', none⟩) n c') ∧ n ≤ c' ∧ Rcv w' (some ⟨b', o', none⟩) b' o' c' ∧ Wr 48 w' b' o' Z ∧ Z.length = n ∧ Fr [] w w' ∧ (∀ x i, In1 b' o' n x i → x < w.heap.size → In1 b o n x i) ∧ ((some ⟨b', o', none⟩ = A ∧ b' = b ∧ o' = o ∧ c' = c) ∨ (w.heap.size ≤ b' ∧ c' ≤ n + 4)) := by
  obtain ⟨b', o', c', Z, rfl, h1, h2, hZ, hl, hf, hh⟩ := h
  refine ⟨b', o', c', Z.take n, rfl, h1, ⟨h2, .inr ⟨rfl, Z, hZ, hl⟩⟩, hZ.take n (by omega), by rw [List.length_take]; omega, hf, ?_, ?_⟩
  · intro x i hx hlt'
    rcases hh with ⟨_, rfl, rfl, _⟩ | ⟨_, _, hb⟩
    · exact hx
    · obtain ⟨rfl, _⟩ := hx; omega
  · rcases hh with ⟨hA, rfl, rfl, rfl, _⟩ | ⟨_, h4, hb⟩
    · exact .inl ⟨hA.symm, rfl, rfl, rfl⟩
    · exact .inr ⟨hb, h4⟩
/-- the operand beside what was made -/
theorem Al.made {b o k bx ox m b' o' : Nat} {w : World} (h : Al b o k bx ox m) (hh : (b' = b ∧ o' = o) ∨ w.heap.size ≤ b') (hlt : bx < w.heap.size) : Al b' o' k bx ox m := by
  rcases hh with ⟨rfl, rfl⟩ | hh
  · exact h
  · exact .inl (.inl (by omega))
theorem Al.nt {b o k bx ox m n : Nat} (h : Al b o k bx ox m) (hn : n ≤ m) (hk : n ≤ k) : Dj bx ox n b o n ∨ (bx = b ∧ o ≤ ox) := by
  unfold Al Dj at *; omega
theorem Dj.off' {b o n b' o' n' : Nat} (h : Dj b o n b' o' n') : Off (In1 b' o' n') b o n := h.off
set_option maxRecDepth 100000 in
set_option maxHeartbeats 2000000 in
theorem setR_any (A : Option Addr) (l b o c : Nat) (Ax : Option Addr) (bx ox cx : Nat) (xs : List Int) (w : World) (hx : Nm w Ax bx ox cx xs) (hd : DG 18446744073709551616 xs) (hzx : NZ xs) (h : Rcv w A b o c) (hl : l ≤ c) (hp : 0 < xs.length) (hx9 : xs.length ≤ 1000000) :
    Calls Tryd.prog 33 #[.slice A l c, .slice Ax xs.length cx] w (ResR w A b o c (In1 b o xs.length) (val 18446744073709551616 xs)) := by
  have C := Lib.hid (makeR_any A l b o c xs.length w h hl hp (by omega))
  have HX := Lib.hid hx
  have HD := Lib.hid hd
  have HZ := Lib.hid hzx
  have HR := Lib.hid h
  clear hx hd hzx
  go_enter Tryd.func33, Tryd.ntmps33
  go_wp2_with (first
    | (go_at_call 29; refine (Hid.out C).mono ?_; clear C; intro e w1 hm; obtain ⟨b', o', c', Z, rfl, h1, h2, h3, h4, h5, h6, h7⟩ := hm.out (fun hc => HR.out.lt hc); have H2 := Lib.hid h2; have H3 := Lib.hid h3; have H4 := Lib.hid h4; have H5 := Lib.hid h5; have H6 := Lib.hid h6; have H7 := Lib.hid h7; obtain ⟨_, L, hL, hLl⟩ := h3; have HL := Lib.hid hL; have HLL := Lib.hid (show o' + xs.length ≤ L.length by omega); clear hm h2 h4 h5 h6 h7 hL hLl)
    | (refine wp_copy rfl (.tmp 9) (.tmp 10) _ _ rfl .u64 48 Tryd.underlying36 size_wordS b' o' xs.length c' rfl _ xs rfl (HX.out.fr0 H5.out).sl L HL.out HLL.out ?_; intro w2 row2 f2; have HR2 := Lib.hid row2; have HF2 := Lib.hid f2; clear row2 f2))
  go_ret
  have row2 := HR2.out
  rw [List.take_length] at row2
  have hf2 : Fc 48 (In1 b' o' xs.length) w1 w2 := fc_row (L' := L) HL.out row2 HF2.out HLL.out (fun i a1 a2 => ⟨rfl, a1, a2⟩)
  refine ⟨_, b', o', c', xs, rfl, Nm.of_wr (Wr.of_spl row2 HLL.out) (H2.out.fc hf2) h1, HD.out, HZ.out, rfl, H7.out.imp id (fun a => ⟨a.1, by have := a.2; omega⟩), (Fc.fr0 H5.out _ _).trans hf2 H6.out⟩
end Go.Proofs.YtbepihdlaidikaaDoor
