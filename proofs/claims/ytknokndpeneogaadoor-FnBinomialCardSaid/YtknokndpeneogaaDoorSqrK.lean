/-
  The square by halves, walked; nat.sqr at whatever length. Conditions: those of the contracts.
-/
import Derived.Test.YtknokndpeneogaaDoorSqrB
import Derived.Deep.DeepCutAuto
import Derived.Deep.RegionWith
set_option linter.unusedSimpArgs false
set_option linter.unusedVariables false
namespace Go.Proofs.YtknokndpeneogaaDoor
open Go.Big Go.RowKit
attribute [local go_sem ↓] Go.wp_at_zero Go.wp_at_succ
section
variable {n h r s : Nat} {q : Option StkSt} {z oz cz bx ox cx bt ot : Nat} {u0 u1 v0 v1 : List Int} {p0 p1 r0 r1 t0 t1 t2 tx ty : Nat} {w : World}
theorem sq_c1e {h21 : Nat} (e : h21 = 2 * h + 1) (M : ∀ a, a ≤ h → SqrOK a) (C : KC0 n h r s q z oz cz bx ox cx bt ot u0 u1 v0 v1 p0 p1 r0 r1 t0 t1 t2 tx ty w) (tb : Glo w 0 12) (tk : Glo w 1 80) (hty : w.heap.size ≤ ty) {x y : Int} {nx : Bool} {Ad : Option Addr} {bd od cd : Nat} {d : List Int} {w1 : World} (K : Q1 n h r s q z oz cz bt ot t0 t1 t2 tx ty (x - y) w nx Ad bd od cd d w1) :
    IntB w1 t1 false (some ⟨bt, ot, none⟩) h21 h21 ∧ IntB w1 tx nx Ad d.length cd ∧ ∀ W, Fr [] w1 W → Calls Tryd.prog 77 #[.slice (some ⟨bt, ot, none⟩) h21 h21, .pointer (some ⟨s, 0, none⟩), .slice Ad d.length cd] W (SqC (S3 n h r s q z oz cz bt ot t0 t1 t2 tx ty ((x - y) * (y - x)) w) t1 (some ⟨bt, ot, none⟩) h21 h21 (fun w2 v => (w2.setCell ⟨t1, 1, none⟩ v).setCell ⟨t1, 0, none⟩ (.bool true))) := by
  subst e
  exact ⟨K.i1, K.dx.i, fun W fW => sq_c1 M C tb tk hty K W fW⟩
theorem sq_m0e {h2 : Nat} (e : h2 = 2 * h) (M : ∀ a, a ≤ h → SqrOK a) (C : KC0 n h r s q z oz cz bx ox cx bt ot u0 u1 v0 v1 p0 p1 r0 r1 t0 t1 t2 tx ty w) (tb : Glo w 0 12) (tk : Glo w 1 80) (hty : w.heap.size ≤ ty) {V : Int} {w1 : World} (K : S4 n h r s q z oz cz bt ot t0 t1 t2 tx ty V w w1) :
    IntB w1 t0 false (some ⟨z, oz, none⟩) h2 cz ∧ IntB w1 p0 false (some ⟨bx, ox, none⟩) u0.length cx ∧ ∀ W, Fr [] w1 W → Calls Tryd.prog 77 #[.slice (some ⟨z, oz, none⟩) h2 cz, .pointer (some ⟨s, 0, none⟩), .slice (some ⟨bx, ox, none⟩) u0.length cx] W (SqC (S5 n h r s q z oz cz bt ot t0 t1 t2 tx ty V (val 18446744073709551616 u0 * val 18446744073709551616 u0) w) t0 (some ⟨z, oz, none⟩) h2 cz (fun w2 v => w2.setCell ⟨t0, 1, none⟩ v)) := by
  subst e
  exact sq_m0 M C tb tk hty K
theorem sq_m2e {h2 r2 : Nat} (e : h2 = 2 * h) (e' : r2 = 2 * r) (M : ∀ a, a ≤ h → SqrOK a) (C : KC0 n h r s q z oz cz bx ox cx bt ot u0 u1 v0 v1 p0 p1 r0 r1 t0 t1 t2 tx ty w) (tb : Glo w 0 12) (tk : Glo w 1 80) (hty : w.heap.size ≤ ty) {V Z0 : Int} {w1 : World} (K : S5 n h r s q z oz cz bt ot t0 t1 t2 tx ty V Z0 w w1) :
    IntB w1 t2 false (some ⟨z, oz + h2, none⟩) r2 (cz - h2) ∧ IntB w1 p1 false (some ⟨bx, ox + h, none⟩) u1.length (cx - h) ∧ ∀ W, Fr [] w1 W → Calls Tryd.prog 77 #[.slice (some ⟨z, oz + h2, none⟩) r2 (cz - h2 : Nat), .pointer (some ⟨s, 0, none⟩), .slice (some ⟨bx, ox + h, none⟩) u1.length (cx - h : Nat)] W (SqC (S6 n h r s q z oz cz bt ot t0 t1 t2 tx ty (2 * h) V Z0 (val 18446744073709551616 u1 * val 18446744073709551616 u1) w) t2 (some ⟨z, oz + h2, none⟩) r2 (cz - h2) (fun w2 v => w2.setCell ⟨t2, 1, none⟩ v)) := by
  subst e e'
  exact sq_m2 M C tb tk hty K
end
section
variable {n h r s : Nat} {q q1 : Option StkSt} {z oz cz bx ox cx bt ot : Nat} {xs u0 u1 : List Int} {p0 p1 t0 t1 t2 tx : Nat} {w w7 w8 w9 w10 w11 w12 : World}
theorem ksq_ctx2 {h2 h21 r2 n2 : Nat} (H : KsqPre n s q z oz cz bx ox cx xs w) (n40 : 40 ≤ n) (hh : h = (n + 1) / 2) (hr : h + r = n) (e1 : n2 = 2 * n) (e2 : h2 = 2 * h) (e3 : h21 = 2 * h + 1) (e4 : r2 = n2 - h2) (KX : KHs w bx ox cx h xs u0 u1 p0 p1 w7) (B0 : KB w7 t0 (some ⟨z, oz, none⟩) h2 cz w8) (B2 : KB w8 t2 (some ⟨z, oz + h2, none⟩) r2 (cz - h2) w9)
    (hT : ∃ L, Row .u64 77 w10 bt L ∧ ot + h21 ≤ L.length) (st10 : StkAt w10 s q1) (L5 : StkLe w9.heap.size q q1) (l5 : lenS q ≤ lenS q1) (l5' : lenS q1 ≤ lenS q + h21 + 3) (F9 : Fc 77 (StS s q) w9 w10)
    (hnw : bt < w9.heap.size → ∀ i, ot ≤ i → i < ot + h21 → StS s q bt i) (hoff : ∀ i, ot ≤ i → i < ot + h21 → ¬ StS s q1 bt i)
    (B1 : KB w10 t1 (some ⟨bt, ot, none⟩) h21 h21 w11) (BX : KB w11 tx (some ⟨z, oz, none⟩) h cz w12) :
    ∃ r0 r1 ty, w12.heap.size ≤ ty ∧ KC0 n h r s q1 z oz cz bx ox cx bt ot u0 u1 u0 u1 p0 p1 r0 r1 t0 t1 t2 tx ty w12 ∧ Glo w12 0 12 ∧ Glo w12 1 80 := by
  obtain rfl : r2 = 2 * r := by omega
  subst e2 e3
  exact ⟨_, _, _, by omega, ksq_ctx H n40 hh hr KX B0 B2 hT st10 L5 l5 l5' F9 hnw hoff B1 BX⟩
end
def CutS (P : World → Prop) (p : Nat) (s0 : Value) (wx : World) : Prop := s0 = .pointer (some ⟨p, 0, none⟩) ∧ P wx
set_option maxRecDepth 100000 in
set_option maxHeartbeats 8000000 in
theorem ksq_step {n : Nat} (n80 : 80 ≤ n) (M : ∀ a, a ≤ (n + 1) / 2 → SqrOK a) : KsqOK n := by
  intro s q z oz cz bx ox cx xs w H
  obtain ⟨n2, hn2⟩ : ∃ n2, n2 = 2 * n := ⟨_, rfl⟩
  obtain ⟨h, hh⟩ : ∃ h, h = (n + 1) / 2 := ⟨_, rfl⟩
  obtain ⟨h2, hh2⟩ : ∃ h2, h2 = 2 * h := ⟨_, rfl⟩
  obtain ⟨h21, hh21⟩ : ∃ h21, h21 = 2 * h + 1 := ⟨_, rfl⟩
  obtain ⟨r, hr⟩ : ∃ r, h + r = n := ⟨n - h, by omega⟩
  have a1 : 2 * (n : Int) = (n2 : Int) := by omega
  have a2 : 2 * (h : Int) = (h2 : Int) := by omega
  have a3 : (h2 : Int) + 1 = (h21 : Int) := by omega
  have a4 : ((n : Int) + 1) / 2 = (h : Int) := by omega
  have HM := Lib.hid (fun a (ha : a ≤ h) => M a (by omega))
  have hxn := H.xn
  have lz := H.lz
  have few := H.few
  have cz9 := H.cz9
  have cx9 := H.cx9
  have hxc := H.x.le
  have thr : w.cell? ⟨1, 0, none⟩ = some (.int .i64 80) := H.tk
  have hxc' : n ≤ cx := by omega
  have hN0 : Nm w (some ⟨bx, ox, none⟩) bx ox cx (xs.take h) := H.x.cut (by omega)
  have hN1 : Nm w (some ⟨bx, ox + h, none⟩) bx (ox + h) (cx - h) (xs.drop h) := ⟨by rw [List.length_drop]; omega, H.x.rcv.drop (by omega), fun _ => (H.x.2.2 (by omega)).drop h⟩
  have CN0 := fun W (f : Fr [] w W) => half_any bx ox cx (xs.take h) w W hN0 (H.xd.take h) f
  have CN1 := fun W (f : Fr [] w W) => half_any bx (ox + h) (cx - h) (xs.drop h) w W hN1 (H.xd.drop h) f
  rw [List.length_take, show min h xs.length = h by omega] at CN0
  rw [List.length_drop, show xs.length - h = r by omega] at CN1
  have HN0 := Lib.hid CN0
  have HN1 := Lib.hid CN1
  have HH := Lib.hid H
  have HN2 := Lib.hid hn2
  have Hh := Lib.hid hh
  have Hh2 := Lib.hid hh2
  have Hh21 := Lib.hid hh21
  have Hr := Lib.hid hr
  have n40 : 40 ≤ n := by omega
  have hI : ¬ (n : Int) < 80 := by omega
  have hI2 : ¬ (n : Int) < 2 := by omega
  have hhn : (h : Int) ≤ (n : Int) := by omega
  have hhcx : (h : Int) ≤ (cx : Int) := by omega
  have hcxh : ¬ cx = h := by omega
  have hsub : n - h = r := by omega
  have hhb : h ≤ 500 ∧ 20 ≤ h := by omega
  obtain ⟨hhb, hhc⟩ := hhb
  have hbb : h2 ≤ n2 ∧ n2 ≤ 1800 ∧ h21 ≤ 1001 ∧ h ≤ h2 := by omega
  obtain ⟨hb1, hb2, hb3, hb4⟩ := hbb
  have hlx : h ≤ xs.length := by omega
  have hh2cz : (h2 : Int) ≤ (cz : Int) := by omega
  have hhcz : (h : Int) ≤ (cz : Int) := by omega
  have hh2n2 : (h2 : Int) ≤ (n2 : Int) := by omega
  have hhn2 : (h : Int) ≤ (n2 : Int) := by omega
  have hczh2 : ¬ cz = h2 := by omega
  have hczh : ¬ cz = h := by omega
  obtain ⟨r2, hr2⟩ : ∃ r2, r2 = n2 - h2 := ⟨_, rfl⟩
  have hs2 : n2 - h2 = r2 := hr2.symm
  have HR2 := Lib.hid hr2
  have HRR := Lib.hid (show r2 = 2 * r by omega)
  have HSZ := Lib.hid (show 2 * n - h = n2 - h by omega)
  have HLX := Lib.hid hlx
  rw [← hn2]
  clear hxn H hn2 hh hh2 hh21 hr hr2 hxc CN0 CN1 hN0 hN1 M hlx
  go_enter_defers Tryd.func100, Tryd.ntmps100
  refine wp_mono ?_ bodyPostN_D
  go_upto_region 6 with fail
  simp only [a4]
  clear a4
  go_cut [8, 9] from 36 to 47 (fun s10 s11 wx => CutKH w bx ox cx h xs s10 s11 wx)
  case first =>
    go_region_with (first
      | (go_at_call 88; (with_reducible refine (HN0.out _ ?_).mono ?_); (repeat (first | exact Fr.refl _ _ | apply Fr.drew | apply Fr.alloc)); rintro e w1 ⟨⟨u0, rfl, K0⟩, rfl⟩)
      | (go_at_call 88; (with_reducible refine (HN1.out _ ?_).mono ?_); (repeat (first | exact Fr.refl _ _ | apply Fr.drew | apply Fr.alloc)); rintro e w1 ⟨⟨u1, rfl, K1⟩, rfl⟩))
    all_goals (
      (try go_simp)
      (try go_wp2_with fail)
      go_meet
      first
        | exact ⟨_, _, rfl, rfl, (kh_a K0.out K1.out HLX.out).fr (Fr.refl _ _).drew⟩
        | exact ⟨_, _, rfl, rfl, (kh_b K0.out K1.out HLX.out).fr (Fr.refl _ _).drew⟩)
  case rest =>
    obtain ⟨p0, p1, rfl, rfl, kx⟩ := hcut
    obtain ⟨w7, hw7⟩ : ∃ w7, w7 = wc := ⟨_, rfl⟩
    subst hw7
    have KX := Lib.hid kx
    have F7 := Lib.hid (show Fr [] w w7 by obtain ⟨_, _, k⟩ := kx; exact k.f)
    clear kx HN0 HN1 thr
    go_upto_region 7 with fail
    go_cut [10] from 48 to 53 (fun s14 wx => CutKB w7 (some ⟨z, oz, none⟩) h2 cz s14 wx)
    case first =>
      go_wp2_with fail
      go_meet
      exact ⟨_, rfl, kb_mk _ _ _ _⟩
    case rest =>
      obtain ⟨t0, rfl, b0⟩ := hcut
      obtain ⟨w8, hw8⟩ : ∃ w8, w8 = wc := ⟨_, rfl⟩
      subst hw8
      have B0 := Lib.hid b0
      clear b0
      go_upto_region 8 with fail
      go_cut [11] from 54 to 59 (fun s15 wx => CutKB w8 (some ⟨z, oz + h2, none⟩) r2 (cz - h2) s15 wx)
      case first =>
        go_wp2_with fail
        go_meet
        exact ⟨_, rfl, kb_mk _ _ _ _⟩
      case rest =>
        obtain ⟨t2, rfl, b2⟩ := hcut
        obtain ⟨w9, hw9⟩ : ∃ w9, w9 = wc := ⟨_, rfl⟩
        subst hw9
        have B2 := Lib.hid b2
        have F9 := Lib.hid (show Fr [] w w9 from (F7.out.t B0.out.f).t b2.f)
        clear b2
        have ST9 := Lib.hid (HH.out.st.fr0 F9.out)
        have hq9 : lenS q ≤ 100000000000 := by have := HH.out.len; omega
        go_upto_region 10 with (go_at_call 91; refine (save_any s q _ ST9.out).mono ?_; rintro e wq ⟨rfl, rfl⟩)
        go_cut [12] from 63 to 69 (fun s16 wx => CutK1 s q h21 w9 s16 wx)
        case first =>
          go_wp2_with (go_at_call 92; refine (nat_anyE s h21 q _ ST9.out (by omega) (by omega) hq9).mono ?_; rintro e w10 ⟨bt, ot, ct, q1, rfl, pp1, pp2, pp3, pp4, pp5, pp6, pp7, pp8, pp9, pp10, pp11⟩; obtain rfl : h21 = ct := (pp11 (by omega)).symm; have P3 := Lib.hid pp3; have P4 := Lib.hid pp4; have P5 := Lib.hid pp5; have P6 := Lib.hid pp6; have P7 := Lib.hid pp7; have P8 := Lib.hid pp8; have P9 := Lib.hid pp9; have P10 := Lib.hid pp10; clear pp1 pp2 pp3 pp4 pp5 pp6 pp7 pp8 pp9 pp10 pp11)
          go_meet
          exact ⟨_, bt, ot, q1, w10, rfl, ⟨bt, ot, h21, q1, rfl, Nat.le_refl _, by unfold maxLen; omega, P3.out, P4.out, P5.out, P6.out, P7.out, P8.out, P9.out, P10.out, fun _ => rfl⟩, P3.out, P4.out, P5.out, P6.out, P7.out, P8.out, P9.out, P10.out, kb_mk _ _ _ _⟩
        case rest =>
          obtain ⟨t1, bt, ot, q1, w10, rfl, _, p3, p4, p5, p6, p7, p8, p9, p10, b1⟩ := hcut
          obtain ⟨w11, hw11⟩ : ∃ w11, w11 = wc := ⟨_, rfl⟩
          subst hw11
          have P3 := Lib.hid p3
          have P4 := Lib.hid p4
          have P5 := Lib.hid p5
          have P6 := Lib.hid p6
          have P7 := Lib.hid p7
          have P8 := Lib.hid p8
          have P9 := Lib.hid p9
          have P10 := Lib.hid p10
          have B1 := Lib.hid b1
          clear p3 p4 p5 p6 p7 p8 p9 p10 b1 hq9
          go_upto_region 11 with fail
          go_cut [13] from 70 to 74 (fun s17 wx => CutKB w11 (some ⟨z, oz, none⟩) h cz s17 wx)
          case first =>
            go_wp2_with fail
            go_meet
            exact ⟨_, rfl, kb_mk _ _ _ _⟩
          case rest =>
            obtain ⟨tx, rfl, bx_⟩ := hcut
            obtain ⟨w12, hw12⟩ : ∃ w12, w12 = wc := ⟨_, rfl⟩
            subst hw12
            have BX := Lib.hid bx_
            obtain ⟨u0, u1, kx⟩ := KX.out
            obtain ⟨r0, r1, ty, hty, cc, tb, tk⟩ := ksq_ctx2 HH.out n40 Hh.out Hr.out HN2.out Hh2.out Hh21.out HR2.out kx B0.out B2.out P3.out P4.out P5.out P6.out P7.out P8.out P9.out P10.out B1.out BX.out
            have CC := Lib.hid cc
            have TB := Lib.hid tb
            have TK := Lib.hid tk
            have HTY := Lib.hid hty
            have FIN := Lib.hid (fun w20 K => ksq_fin HH.out n40 HN2.out Hh21.out kx B0.out B2.out P5.out P6.out P8.out P9.out B1.out BX.out HTY.out CC.out (w20 := w20) K)
            clear bx_ kx KX B0 B2 B1 BX P3 P4 P5 P6 P7 P8 P9 P10 F7 F9 ST9 HLX HR2 cc tb tk hty
            go_upto_region 13 with (go_at_call 103; refine (sq_tx CC.out).mono ?_; rintro e w14 ⟨rfl, nx, Ad, bd, od, cd, d, k1⟩; have K1 := Lib.hid k1; clear k1)
            obtain ⟨i1, ix, cs1⟩ := sq_c1e Hh21.out HM.out CC.out TB.out TK.out HTY.out K1.out
            have CS1 := Lib.hid cs1
            have c1 := i1.cell1
            have cx1 := ix.cell1
            clear i1 ix cs1 K1
            go_cut [12] from 79 to 91 (fun s12 wx => CutS (fun wx => (∃ A l c, IntB wx t1 false A l c) ∧ S3 n h r s q1 z oz cz bt ot t0 t1 t2 tx ty ((val 18446744073709551616 u0 - val 18446744073709551616 u1) * (val 18446744073709551616 u1 - val 18446744073709551616 u0)) w12 (wx.setCell ⟨t1, 0, none⟩ (.bool true))) t1 s12 wx)
            case first =>
              go_region_with (go_at_call 77; refine (CS1.out _ (Fr.refl _ _).drew).mono ?_; rintro e w15 ⟨A', k0, c', rfl, hi, hs⟩; have HS := Lib.hid hs; have HI := Lib.hid hi; have y1 := hi.frozen 1; have g1 := hi.cell1; clear hi hs CS1 c1 cx1)
              all_goals (
                (try go_wp2_with fail)
                go_meet
                exact ⟨rfl, ⟨_, _, _, HI.out.set1 _ _ _⟩, HS.out⟩)
            case rest =>
              obtain ⟨rfl, ⟨_, _, _, ib⟩, k3⟩ := hcut
              obtain ⟨w15, hw15⟩ : ∃ w15, w15 = wc := ⟨_, rfl⟩
              subst hw15
              obtain ⟨LZ, hLZ, hLZl⟩ := s3_row CC.out k3
              have K3 := Lib.hid k3
              have HLZ := Lib.hid hLZ
              have HLZl := Lib.hid (show oz + n2 ≤ LZ.length by rw [HN2.out]; exact hLZl)
              have y0 := ib.frozen 0
              have g0 := ib.cell0
              clear ib k3 hLZ hLZl CS1 c1 cx1
              go_upto_region 16 with (refine wp_clear rfl (.tmp 95) _ rfl .u64 77 8 ty_big (some ⟨z, oz, none⟩) z oz n2 cz rfl (fun _ => rfl) LZ HLZ.out HLZl.out ?_; intro w17 row17 f17; have K4 := Lib.hid (kar_clear CC.out K3.out HLZ.out (by rw [← HN2.out]; exact HLZl.out) (by rw [← HN2.out]; exact row17) f17); clear row17 f17 K3 y0 g0)
              obtain ⟨i0, ip0, cs2⟩ := sq_m0e Hh2.out HM.out CC.out TB.out TK.out HTY.out K4.out
              have CS2 := Lib.hid cs2
              have c0 := i0.cell1
              have cp0 := ip0.cell1
              clear i0 ip0 cs2 K4
              rw [put_none]
              go_cut [10] from 96 to 108 (fun s10 wx => CutS (S5 n h r s q1 z oz cz bt ot t0 t1 t2 tx ty ((val 18446744073709551616 u0 - val 18446744073709551616 u1) * (val 18446744073709551616 u1 - val 18446744073709551616 u0)) (val 18446744073709551616 u0 * val 18446744073709551616 u0) w12) t0 s10 wx)
              case first =>
                go_region_with (go_at_call 77; refine (CS2.out _ (Fr.refl _ _).drew).mono ?_; rintro e w18 ⟨A', k0, c', rfl, hi, hs⟩; have HS := Lib.hid hs; have y1 := hi.frozen 1; have g1 := hi.cell1; clear hi hs CS2 c0 cp0)
                all_goals (
                  (try go_wp2_with fail)
                  go_meet
                  exact ⟨rfl, HS.out⟩)
              case rest =>
                obtain ⟨rfl, k5⟩ := hcut
                obtain ⟨w18, hw18⟩ : ∃ w18, w18 = wc := ⟨_, rfl⟩
                subst hw18
                obtain ⟨i2, ip1, cs3⟩ := sq_m2e Hh2.out HRR.out HM.out CC.out TB.out TK.out HTY.out k5
                have CS3 := Lib.hid cs3
                have c2 := i2.cell1
                have cp1 := ip1.cell1
                clear i2 ip1 cs3 k5 CS2 c0 cp0
                go_upto_region 17 with fail
                go_cut [11] from 109 to 121 (fun s11 wx => CutS (S6 n h r s q1 z oz cz bt ot t0 t1 t2 tx ty (2 * h) ((val 18446744073709551616 u0 - val 18446744073709551616 u1) * (val 18446744073709551616 u1 - val 18446744073709551616 u0)) (val 18446744073709551616 u0 * val 18446744073709551616 u0) (val 18446744073709551616 u1 * val 18446744073709551616 u1) w12) t2 s11 wx)
                case first =>
                  go_region_with (go_at_call 77; refine (CS3.out _ (Fr.refl _ _).drew).mono ?_; rintro e w19 ⟨A', k0, c', rfl, hi, hs⟩; have HS := Lib.hid hs; have y1 := hi.frozen 1; have g1 := hi.cell1; clear hi hs CS3 c2 cp1)
                  all_goals (
                    (try go_wp2_with fail)
                    go_meet
                    exact ⟨rfl, HS.out⟩)
                case rest =>
                  obtain ⟨rfl, k6⟩ := hcut
                  obtain ⟨w19, hw19⟩ : ∃ w19, w19 = wc := ⟨_, rfl⟩
                  subst hw19
                  have K6 := Lib.hid k6
                  have T4 : True := trivial
                  clear k6 CS3 c2 cp1
                  go_upto_region 20 with (first
                    | (go_at_call 105; clear T4; refine (kar_a0 CC.out K6.out).mono ?_; rintro e w20 ⟨rfl, k7⟩; have K7 := Lib.hid k7; clear k7 K6)
                    | (go_at_call 105; refine (kar_a2 CC.out K7.out).mono ?_; rintro e w21 ⟨rfl, k8⟩; have K8 := Lib.hid k8; clear k8 K7))
                  obtain ⟨n1, A1, l1, c1, ib1, cat⟩ := kar_at CC.out rfl rfl rfl rfl K8.out
                  rw [HSZ.out] at cat
                  have CAT := Lib.hid cat
                  have cell1 := ib1.cell1
                  clear cat ib1 K8
                  go_region_with (go_at_call 102; refine (CAT.out _ (Fr.refl _ _).drew).mono ?_; rintro e w22 ⟨rfl, k9⟩; have K9 := Lib.hid k9; clear k9 CAT)
                  go_wp2_with fail
                  obtain ⟨q', st9, cap9, fin9⟩ := FIN.out _ K9.out
                  show Leaves _ _ _ _ _ _ _
                  refine leaves_cons (f := 90) (args := #[.pointer (some ⟨s, 0, none⟩), .int .i64 ((lenS q : Nat) : Int)]) (by simp) (by simp [go_sem]) ?_
                  refine (restore_deferred s (lenS q) q' .returning _ st9 cap9).mono ?_
                  rintro e u' w23 ⟨rfl, rfl, hst10, hf10⟩
                  exact ⟨_, results_none rfl _ _ _, fin9 _ hst10 hf10⟩
theorem sqr_ok (n : Nat) : SqrOK n := by
  induction n using Nat.strongRecOn with
  | ind n ih =>
    by_cases h0 : n = 0
    · subst h0; exact sqr_zero
    by_cases h1 : n = 1
    · subst h1; exact sqr_one
    by_cases h12 : n < 12
    · exact sqr_small (by omega) h12
    by_cases h80 : n < 80
    · exact sqr_mid (by omega) h80
    exact sqr_kar (by omega) (ksq_step (by omega) (fun a ha => ih a (by omega)))
end Go.Proofs.YtknokndpeneogaaDoor
