/-
  rsh by fewer bits than a word has, into a receiver that may have room, in place or apart. Conditions: what is read can be read.
-/
import Derived.Test.YtbepihdlaidikaaDoorPut
import Derived.Test.YtbepihdlaidikaaDoorgShN
set_option linter.unusedSimpArgs false
set_option linter.unusedVariables false
namespace Go.Proofs.YtbepihdlaidikaaDoor
open Go.Big Go.RowKit
set_option maxRecDepth 100000 in
set_option maxHeartbeats 1000000 in
/-- rsh by fewer bits than a word has, in place or apart -/
theorem rshR_lt (A : Option Addr) (l b o c : Nat) (Ax : Option Addr) (bx ox cx : Nat) (xs : List Int) (s : Nat) (w : World) (h : Rcv w A b o c) (hl : l ≤ c) (hx : Nm w Ax bx ox cx xs) (hd : DG 18446744073709551616 xs) (hp : 0 < xs.length) (hx9 : xs.length ≤ 1000000) (hal : Al b o c bx ox xs.length) (hs0 : 0 < s) (hs : s < 64) :
    Calls Tryd.prog 27 #[.slice A l c, .slice Ax xs.length cx, .int .u64 (s : Int)] w fun e w' => ∃ A' b' o' c' zs, e = .returned (.slice A' zs.length c') ∧ PutR w A b o c (val 18446744073709551616 xs / 2 ^ s) A' b' o' c' zs w' := by
  have hxc := hx.le
  have hcx := hx.max
  have hc := h.max
  obtain rfl := hx.addr hp
  obtain ⟨n, hn⟩ : ∃ n, n = xs.length := ⟨_, rfl⟩
  have hse : ((s : Int) == 0) = false := by rw [beq_eq_false_iff_ne]; omega
  have hs1 : (s : Int) / 64 = 0 := by omega
  have hs2 : (s : Int) % 64 = (s : Int) := by omega
  have CM := Lib.hid (makeR_any A l b o c n w h hl (by omega) (by omega))
  have HR := Lib.hid h
  have HX := Lib.hid hx
  have HD := Lib.hid hd
  have HAL := Lib.hid hal
  have HN := Lib.hid hn
  have hlt := hx.lt hp
  rw [← hn] at hp hx9 hxc ⊢
  have hw : IntKind.i64.wrap ((n : Int) - 0) = (n : Int) := by rw [IntKind.wrap_i64]; omega
  have hw1 : (n : Int) - 0 = (n : Int) := by omega
  have hw2 : (n : Int) - (n : Int) = 0 := by omega
  have hw3 : IntKind.i64.wrap ((n : Int) - (n : Int)) = 0 := by rw [IntKind.wrap_i64]; omega
  have hc0 : ¬ cx = 0 := by omega
  have CR : ∀ (b' o' c' : Nat) (Z : List Int) (W : World), Fr [] w W → Wr 48 W b' o' Z → Z.length = n → (bx ≠ b' ∨ o' ≤ ox ∨ ox + n ≤ o') → n ≤ c' → c' ≤ maxLen →
      Calls Tryd.prog 36 #[.slice (some ⟨b', o', none⟩) n c', .slice (some ⟨bx, ox, none⟩) n cx, .int .u64 (s : Int)] W fun e w' => ∃ zs k, e = .returned (.int .u64 k) ∧ Wr 48 w' b' o' zs ∧ Fc 48 (In1 b' o' n) W w' ∧ zs.length = n ∧ DG 18446744073709551616 zs ∧ val 18446744073709551616 zs = val 18446744073709551616 xs / 2 ^ s := by
    intro b' o' c' Z W f hz hZ hne h1 h2
    obtain ⟨_, L, hL, hLl⟩ := hz
    rw [hZ] at hLl
    refine (rshVU_any b' o' c' bx ox cx n s L xs W hL hLl hn.symm ((hx.fr0 f).2.2 (by omega)) hd hs hne h1 hxc hcx (by omega)).mono ?_
    rintro e w' ⟨zs, k, rfl, row, hf, hzl, hzd, h0, h1, hv⟩
    exact ⟨zs, k, rfl, Wr.of_spl row (by omega), fc_row (L' := L) hL row hf (by omega) (fun i a1 a2 => ⟨rfl, a1, by omega⟩), hzl, hzd, rsh_val hs h0 h1 hv⟩
  have HC := Lib.hid CR
  unfold maxLen at hc hcx
  clear h hx hd hal hn CR
  go_enter Tryd.func27, Tryd.ntmps27
  go_wp2_with (first
    | (go_at_call 29; refine (Hid.out CM).mono ?_; clear CM; intro e w1 hm; obtain ⟨b', o', c', Z, rfl, g1, h2, h3, h4, h5, h6, h7⟩ := hm.out (fun hc => HR.out.lt hc); have H2 := Lib.hid h2; have H3 := Lib.hid h3; have H4 := Lib.hid h4; have H5 := Lib.hid h5; have H7 := Lib.hid h7; clear hm h2 h3 h4 h5 h6 h7)
    | (go_at_call 34; go_in)
    | (go_at_call 36; refine (HC.out b' o' c' Z _ H5.out H3.out H4.out (by rcases H7.out with ⟨_, e1, e2, e3⟩ | ⟨a, _⟩; (subst e1; subst e2; subst e3; have h8 := HAL.out; have h9 := HN.out; unfold Al Dj at h8; omega); exact .inl (by omega)) g1 H2.out.max).mono ?_; rintro e w2 ⟨qs, k, rfl, wr2, f2, hql, hqd, hqv⟩; have HW2 := Lib.hid wr2; have HQV := Lib.hid hqv; have HF2 := Lib.hid f2; have CN := Lib.hid (normN_any (some ⟨b', o', none⟩) b' o' c' qs w2 (Nm.of_wr wr2 (H2.out.fc f2) (by omega)) hqd); rw [hql] at CN; clear wr2 hql hqd hqv f2)
    | (go_at_call 26; refine (CN.out).mono ?_; rintro e w4 ⟨⟨zs, rfl, n1, n2, n3, n4, n5⟩, rfl⟩; have N1 := Lib.hid n1; have N2 := Lib.hid n2; have N3 := Lib.hid n3; have N4 := Lib.hid n4; clear n1 n2 n3 n4 n5))
  go_ret
  refine ⟨_, b', o', c', zs, rfl, N1.out, N2.out, N3.out, by rw [N4.out, HQV.out], H7.out.imp id (fun a => ⟨a.1, by have := a.2; omega⟩), (Fc.fr0 H5.out _ _).trans HF2.out (fun x i hh hlt => ?_)⟩
  rcases H7.out with ⟨_, rfl, rfl, rfl⟩ | ⟨a, _⟩
  · exact In1.cap hh g1
  · have := hh.1; omega
end Go.Proofs.YtbepihdlaidikaaDoor
