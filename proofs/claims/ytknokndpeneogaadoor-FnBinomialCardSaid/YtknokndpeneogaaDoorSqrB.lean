/-
  The square by halves, step by step, no walk: what holds between its calls. Conditions: those of its contract.
-/
import Derived.Test.YtknokndpeneogaaDoorSqrA
set_option linter.unusedSimpArgs false
set_option linter.unusedVariables false
namespace Go.Proofs.YtknokndpeneogaaDoor
open Go.Big Go.RowKit
/-- a number's new value was stored in its struct -/
theorem sq_fin {s : Nat} {q : Option StkSt} {A A' : Option Addr} {l bz oz cz k pz n c' : Nat} {nz : Bool} {V : Int} {same : Bool} {w W w2 w3 : World} (h : IntB w pz nz A l cz) (f : Fr [] w W) (hst : StkAt w s q) (hpb : pz ≠ bz) (hr : MulP s q A bz oz cz k V W (.returned (.slice A' n c')) w2)
    (hs : same = true → nz = false) (hw : w3 = w2.setCell ⟨pz, 1, none⟩ (.slice A' n c')) : IntMP s q pz same A bz oz cz k (sg nz V) w (.returned (.tuple #[])) w3 := by
  have h2 := mul_mid hr h f hst hpb
  subst hw
  obtain ⟨A1, b1, o1, c1, zs, q', e, hn, hd, hz, hv, hs1, st2, le2, l2, hf, hfull⟩ := hr
  injection e with e; injection e with e1 e2 e3; subst e1 e2 e3
  have h3 := h2.set1 A' zs.length c'
  have g2 := h2.fc_set (a := ⟨pz, 1, none⟩) rfl (.slice A' zs.length c')
  have hn1 := hn.fc g2 (hn.off_int h2)
  have st4 := st2.fc g2 (fun i hh => h2.stk st2 0 (by subst hh; cases q' with | none => exact rfl | some p => exact .inl rfl)) (fun p hp i hh => h2.stk st2 0 (by subst hp; subst hh; exact .inr (.inl rfl)))
  refine ⟨nz, A', b1, o1, c', zs, q', rfl, h3, hn1, hd, hz, by rw [hv], hs, hs1.imp id (fun h => ⟨h.1, h.2.1, Nat.le_trans f.size h.2.2⟩), st4, ?_, l2, ?_, ?_⟩
  · exact le2.le f.size
  · exact (Fc.fr0 f _ _).t ((hf.mono (fun _ _ h _ => .inr h)).t (g2.mono (fun _ _ h _ => .inl h)))
  · rcases hfull with ⟨h0, hf0⟩ | ⟨Z, hZ, hZl, hZd, hZv⟩
    · refine .inl ⟨by rw [h0]; cases nz <;> rfl, (Fc.fr0 f _ _).t ((hf0.mono (fun _ _ h _ => .inr h)).t (g2.mono (fun _ _ h _ => .inl h)))⟩
    · refine .inr ⟨Z, hZ.fc g2 (fun i _ _ hh => ?_), hZl, hZd, by rw [hZv]⟩
      obtain ⟨_, L, hL, _⟩ := hZ
      exact h2.row_ne hL hh
section
variable {n h r s : Nat} {q : Option StkSt} {z oz cz bx ox cx bt ot : Nat} {u0 u1 v0 v1 : List Int} {p0 p1 r0 r1 t0 t1 t2 tx ty : Nat} {w : World}
theorem KC0.gn (C : KC0 n h r s q z oz cz bx ox cx bt ot u0 u1 v0 v1 p0 p1 r0 r1 t0 t1 t2 tx ty w) {g : Nat} {v : Int} (hg : Glo w g v) (hty : g ≠ ty) : ¬ KS n h s q z oz bt ot t0 t1 t2 tx ty g 0 := by
  rintro (e | e | e | e | e | e | e | e)
  · exact glo_int hg C.i0 e
  · exact glo_int hg C.i1 e
  · exact glo_int hg C.i2 e
  · exact glo_int hg C.ix e
  · exact hty e
  · exact glo_stk hg C.st 0 e
  · exact glo_rcv hg C.rz (by have := C.cz2; have := C.n40; omega) e.1
  · exact glo_rcv hg C.rt (by omega) e.1
/-- the operand's halves, in a world of the walk -/
structure QO (h : Nat) (bx ox cx : Nat) (u0 u1 : List Int) (p0 p1 : Nat) (w : World) : Prop where
  ip0 : IntB w p0 false (some ⟨bx, ox, none⟩) u0.length cx
  ip1 : IntB w p1 false (some ⟨bx, ox + h, none⟩) u1.length (cx - h)
  np0 : Nm w (some ⟨bx, ox, none⟩) bx ox cx u0
  np1 : Nm w (some ⟨bx, ox + h, none⟩) bx (ox + h) (cx - h) u1
theorem KC0.ops (C : KC0 n h r s q z oz cz bx ox cx bt ot u0 u1 v0 v1 p0 p1 r0 r1 t0 t1 t2 tx ty w) (hty : w.heap.size ≤ ty) {w1 : World} (hf : Fc 77 (KS n h s q z oz bt ot t0 t1 t2 tx ty) w w1) : QO h bx ox cx u0 u1 p0 p1 w1 := by
  have D := C.kd
  obtain ⟨a4, a5, a6, a7, a8, b3, b4, b5, b6, b7⟩ := D.p
  have hr := C.hr
  have lu0 := C.lu0
  have lu1 := C.lu1
  have m0 := C.np0.le
  have m1 := C.np1.le
  have xz := C.xz
  have xt := C.xt
  have n40 := C.n40
  have hh := C.hh
  have cz2 := C.cz2
  have cxn := C.cxn
  have bxlt := C.np0.rcv.lt (by omega)
  have pn : ∀ {p : Nat} {ng : Bool} {A : Option Addr} {l c : Nat}, IntB w p ng A l c → p ≠ t0 → p ≠ t1 → p ≠ t2 → p ≠ tx → p ≠ ty → ∀ i, ¬ KS n h s q z oz bt ot t0 t1 t2 tx ty p i := by
    intro p ng A l c hi h0 h1 h2 h3 h4 i
    rintro (e | e | e | e | e | e | e | e)
    · exact h0 e
    · exact h1 e
    · exact h2 e
    · exact h3 e
    · exact h4 e
    · exact hi.stk C.st i e
    · exact hi.rcv_ne C.rz (by omega) e.1.symm
    · exact hi.rcv_ne C.rt (by omega) e.1.symm
  have on : ∀ {A : Option Addr} {b o c : Nat} {d : List Int}, Nm w A b o c d → b < w.heap.size → Dj b o d.length z oz (2 * n) → Dj b o d.length bt ot (2 * h + 2) → Off (StS s q) b o d.length → Off (KS n h s q z oz bt ot t0 t1 t2 tx ty) b o d.length := by
    intro A b o c d hn hb hz ht ho
    rintro i h1 h2 (e | e | e | e | e | e | e | e)
    · exact hn.off_int C.i0 i h1 h2 e
    · exact hn.off_int C.i1 i h1 h2 e
    · exact hn.off_int C.i2 i h1 h2 e
    · exact hn.off_int C.ix i h1 h2 e
    · omega
    · exact ho i h1 h2 e
    · exact hz.off i h1 h2 e
    · exact ht.off i h1 h2 e
  exact ⟨C.ip0.fc hf (pn C.ip0 a4 a5 a6 a7 a8), C.ip1.fc hf (pn C.ip1 b3 b4 b5 b6 b7),
    C.np0.fc hf (on C.np0 bxlt (xz.sub1 (by omega) (Nat.le_refl _)) (xt.sub1 (by omega) (Nat.le_refl _)) (Off.take C.xo m0)),
    C.np1.fc hf (on C.np1 bxlt (by unfold Dj at *; omega) (by unfold Dj at *; omega) (by
      by_cases e : u1.length = 0
      · intro i h1 h2; omega
      · exact C.xo.sub (by omega)))⟩
/-- behind the difference -/
structure Q1 (n h r s : Nat) (q : Option StkSt) (z oz cz bt ot t0 t1 t2 tx ty : Nat) (V : Int) (w : World) (nx : Bool) (Ad : Option Addr) (bd od cd : Nat) (d : List Int) (w1 : World) : Prop where
  kw : KW n h s q z oz bt ot t0 t1 t2 tx ty w q w1
  dx : KN w.heap.size tx z oz cz h V w1 nx Ad bd od cd d
  i0 : IntB w1 t0 false (some ⟨z, oz, none⟩) (2 * h) cz
  i1 : IntB w1 t1 false (some ⟨bt, ot, none⟩) (2 * h + 1) (2 * h + 1)
  i2 : IntB w1 t2 false (some ⟨z, oz + 2 * h, none⟩) (2 * r) (cz - 2 * h)
set_option maxRecDepth 100000 in
theorem sq_tx (C : KC0 n h r s q z oz cz bx ox cx bt ot u0 u1 v0 v1 p0 p1 r0 r1 t0 t1 t2 tx ty w) :
    Calls Tryd.prog 103 #[.pointer (some ⟨tx, 0, none⟩), .pointer (some ⟨p0, 0, none⟩), .pointer (some ⟨p1, 0, none⟩)] w fun e w1 => e = .returned (.pointer (some ⟨tx, 0, none⟩)) ∧ ∃ nx Ad bd od cd d, Q1 n h r s q z oz cz bt ot t0 t1 t2 tx ty (val 18446744073709551616 u0 - val 18446744073709551616 u1) w nx Ad bd od cd d w1 := by
  have D := C.kd
  obtain ⟨e1, e2, e3, e4, e5, e6, e7, e8, e9, e10⟩ := D.t
  obtain ⟨z1, z2, z3, z4, z5, z6, z7, z8, z9⟩ := D.z
  obtain ⟨x1, x2, x3, x4, x5, x6, x7, x8, x9, x10⟩ := D.p
  have n40 := C.n40
  have few := C.few
  have hh := C.hh
  have hr := C.hr
  have cz2 := C.cz2
  have lu0 := C.lu0
  have lu1 := C.lu1
  have xz := C.xz
  have cx9 := C.cx9
  have m0 := C.np0.le
  refine (intSub_any h tx false (some ⟨z, oz, none⟩) h z oz cz p0 _ bx ox cx u0 p1 _ bx (ox + h) (cx - h) u1 w C.ix C.rz (by omega) z8 (fun e => x4 e.symm) (fun e => x9 e.symm) z1 z2 C.ip0 C.np0 C.du0 C.zu0 C.ip1 C.np1 C.du1 C.zu1 lu0 (by omega) (by omega) C.cx9 (by omega) C.cz9 (fun _ => .inl (by unfold Dj at *; omega)) (fun _ => .inl (by unfold Dj at *; omega))).mono ?_
  rintro e w1 ⟨nx, Ad, bd, od, cd, d, rfl, hi, hn, hd, hz, hv, hp, hf⟩
  have b0 := val_pow C.du0 lu0 (Nat.le_refl _)
  have b1 := val_pow C.du1 lu1 (show r ≤ h by omega)
  have hl : d.length ≤ h := len_le (by omega) hd hz (sg_bd (val_nonneg (by omega) hd) hv (by omega) (by omega))
  refine ⟨rfl, nx, Ad, bd, od, cd, d, ⟨hf.mono (fun b i hh _ => ?_), st_keep C.st hf C.ix C.rz (by omega) (fun b i hh => hh.imp id (fun hh => hh.1)), StkLe.refl _ _, rfl⟩, ⟨hi, hn, hd, hz, hv, hl, hp⟩, C.i0.fc hf (fun i hh => hh.elim e3 (fun hh => z5 hh.1)), C.i1.fc hf (fun i hh => hh.elim e6 (fun hh => z6 hh.1)), C.i2.fc hf (fun i hh => hh.elim e8 (fun hh => z7 hh.1))⟩
  rcases hh with hh | ⟨rfl, h2, h3⟩
  · exact .inr (.inr (.inr (.inl hh)))
  · exact .inr (.inr (.inr (.inr (.inr (.inr (.inl ⟨rfl, h2, by omega⟩))))))
theorem sg_sq {b : Bool} {v x y : Int} (h : sg b v = x - y) : sg true (v * v) = (x - y) * (y - x) := by
  rw [sg_t]
  have e : y - x = -(x - y) := by omega
  rw [e, ← h]
  cases b
  · rw [sg_f, Int.mul_neg]
  · rw [sg_t]; grind
/-- a stored number: what the walk wants of the call and of the store behind it -/
def SqC (S : World → Prop) (p : Nat) (A : Option Addr) (l c : Nat) (set : World → Value → World) (e : Ending) (w2 : World) : Prop := ∃ A' k c', e = .returned (.slice A' k c') ∧ IntB w2 p false A l c ∧ S (set w2 (.slice A' k c'))
set_option maxRecDepth 100000 in
theorem sq_c1 (M : ∀ a, a ≤ h → SqrOK a) (C : KC0 n h r s q z oz cz bx ox cx bt ot u0 u1 v0 v1 p0 p1 r0 r1 t0 t1 t2 tx ty w) (tb : Glo w 0 12) (tk : Glo w 1 80) (hty : w.heap.size ≤ ty) {x y : Int} {nx : Bool} {Ad : Option Addr} {bd od cd : Nat} {d : List Int} {w1 : World} (K : Q1 n h r s q z oz cz bt ot t0 t1 t2 tx ty (x - y) w nx Ad bd od cd d w1) (W : World) (fW : Fr [] w1 W) :
    Calls Tryd.prog 77 #[.slice (some ⟨bt, ot, none⟩) (2 * h + 1 : Nat) (2 * h + 1 : Nat), .pointer (some ⟨s, 0, none⟩), .slice Ad d.length cd] W (SqC (S3 n h r s q z oz cz bt ot t0 t1 t2 tx ty ((x - y) * (y - x)) w) t1 (some ⟨bt, ot, none⟩) (2 * h + 1) (2 * h + 1) (fun w2 v => (w2.setCell ⟨t1, 1, none⟩ v).setCell ⟨t1, 0, none⟩ (.bool true))) := by
  have D := C.kd
  obtain ⟨x1, x2, x3, x4, x5, x6, x7, x8, x9⟩ := D.b
  have n40 := C.n40
  have few := C.few
  have hh := C.hh
  have hr := C.hr
  have cz2 := C.cz2
  have cz9 := C.cz9
  have hlen := C.len
  have dl := K.dx.l
  have zt := C.zt
  have et := C.et
  have btlt := C.rt.lt (by omega)
  have rt1 := C.rt.fc K.kw.fc
  have dxm := K.dx.n.le
  have pd : (bd = z ∧ od = oz ∧ cd = cz) ∨ (w.heap.size ≤ bd ∧ cd ≤ 2000000) := K.dx.pl.imp (fun h => h.2) id
  have offN : ∀ {b o c : Nat}, w.heap.size ≤ b → Off (StS s q) b o c := fun hb i _ _ hh => by have := stk_lt C.st hh; omega
  have dd : Dj bd od d.length bt ot (d.length + d.length) := by unfold Dj at *; omega
  have b1 := tb.lt
  have b2 := tk.lt
  refine (M d.length dl s q (some ⟨bt, ot, none⟩) (2 * h + 1) bt ot (2 * h + 1) Ad bd od cd d W ⟨K.kw.st.fr0 fW, by omega, (tb.fc K.kw.fc (C.gn tb (by omega))).fr0 fW, (tk.fc K.kw.fc (C.gn tk (by omega))).fr0 fW, rt1.fc (Fc.fr0 fW 77 (fun _ _ => False)), Nat.le_refl _, by omega, K.dx.n.fr0 fW, rfl, K.dx.dg, by rcases pd with h | h <;> omega, by omega, dd, fun _ _ => ?_, C.to_, ?_, rcv_stk K.kw.st rt1 (.inl (by omega))⟩).mono ?_
  · rcases pd with ⟨rfl, rfl, rfl⟩ | h
    · exact et
    · exact .inl (by omega)
  · rcases pd with ⟨rfl, rfl, rfl⟩ | h
    · exact C.zo
    · exact offN h.1
  intro e w2 hm
  obtain ⟨A', k0, c', rfl⟩ := hm.val
  refine ⟨A', k0, c', rfl, mul_mid hm K.i1 fW K.kw.st x6, ?_⟩
  have hI : IntMP s q t1 false (some ⟨bt, ot, none⟩) bt ot (2 * h + 1) (d.length + d.length) (sg true (val 18446744073709551616 d * val 18446744073709551616 d)) w1 (.returned (.tuple #[])) ((w2.setCell ⟨t1, 1, none⟩ (.slice A' k0 c')).setCell ⟨t1, 0, none⟩ (.bool true)) := mul_fin2 K.i1 fW K.kw.st x6 hm rfl (fun hh => by cases hh) rfl
  have := (k3_post C K.kw K.i0 K.i2 K.dx.dg K.dx.dg dl dl rfl hI).2
  rw [sg_sq K.dx.v] at this
  exact this
set_option maxRecDepth 100000 in
theorem sq_cz (M : ∀ a, a ≤ h → SqrOK a) (C : KC0 n h r s q z oz cz bx ox cx bt ot u0 u1 v0 v1 p0 p1 r0 r1 t0 t1 t2 tx ty w) (tb : Glo w 0 12) (tk : Glo w 1 80) (hty : w.heap.size ≤ ty) {q1 : Option StkSt} {w1 : World} (kw : KW n h s q z oz bt ot t0 t1 t2 tx ty w q1 w1) {t i L : Nat} {Aa : Option Addr} {ba oa ca : Nat} {ua Zs : List Int}
    (ht : t = t0 ∨ t = t2) (it : IntB w1 t false (some ⟨z, oz + i, none⟩) L (cz - i)) (hiL : i + L ≤ 2 * n) (hL0 : 0 < L) (NA : Nm w1 Aa ba oa ca ua) (DA : DG 18446744073709551616 ua) (la : ua.length ≤ h) (lab : ua.length + ua.length ≤ L)
    (htz : t ≠ z) (xa : Dj ba oa ua.length z oz (2 * n)) (ea : z ≠ ba ∨ oz + cz ≠ oa + ca) (fa : Off (StS s q) ba oa ca) (ga : 0 < ca → ba < w.heap.size) (ca9 : ca ≤ 4611686018427387904)
    (WZ : Wr 77 w1 z oz Zs) (ZL : Zs.length = 2 * n) (Z0 : (Zs.drop i).take L = List.replicate L 0) (W : World) (fW : Fr [] w1 W) :
    Calls Tryd.prog 77 #[.slice (some ⟨z, oz + i, none⟩) L (cz - i : Nat), .pointer (some ⟨s, 0, none⟩), .slice Aa ua.length ca] W (SqC (fun w3 => ∃ q2 g F, KZ n h s q z oz cz bt ot t0 t1 t2 tx ty t i L (val 18446744073709551616 ua * val 18446744073709551616 ua) w q1 Zs w1 q2 g F w3) t (some ⟨z, oz + i, none⟩) L (cz - i) (fun w2 v => w2.setCell ⟨t, 1, none⟩ v)) := by
  have n40 := C.n40
  have few := C.few
  have hh := C.hh
  have cz2 := C.cz2
  have cz9 := C.cz9
  have hlen := C.len
  have hll := kw.ll
  have zlt := C.rz.lt (by omega)
  have rz1 := C.rz.fc kw.fc
  have rzi : Rcv w1 (some ⟨z, oz + i, none⟩) z (oz + i) (cz - i) := rz1.drop (by omega)
  have zo1 : Off (StS s q1) z oz cz := off_le kw.le (Nat.le_of_eq kw.ll.symm) C.zo zlt
  have offq : ∀ {b o c : Nat}, Off (StS s q) b o c → (0 < c → b < w.heap.size) → Off (StS s q1) b o c := fun ho hb j h1 h2 hh => off_le kw.le (Nat.le_of_eq kw.ll.symm) ho (hb (by omega)) j h1 h2 hh
  have b1 := tb.lt
  have b2 := tk.lt
  refine (M ua.length la s q1 (some ⟨z, oz + i, none⟩) L z (oz + i) (cz - i) Aa ba oa ca ua W ⟨kw.st.fr0 fW, by omega, (tb.fc kw.fc (C.gn tb (by omega))).fr0 fW, (tk.fc kw.fc (C.gn tk (by omega))).fr0 fW, rzi.fc (Fc.fr0 fW 77 (fun _ _ => False)), by omega, by omega, NA.fr0 fW, rfl, DA, ca9, by omega, by unfold Dj at *; omega, fun _ _ => ?_, zo1.sub (by omega), offq fa ga, rcv_stk kw.st rzi (.inl (by omega))⟩).mono ?_
  · rcases ea with h | h
    · exact .inl h
    · exact .inr (by omega)
  intro e w2 hm
  obtain ⟨A', k0, c', rfl⟩ := hm.val
  refine ⟨A', k0, c', rfl, mul_mid hm it fW kw.st htz, ?_⟩
  have hI : IntMP s q1 t true (some ⟨z, oz + i, none⟩) z (oz + i) (cz - i) (ua.length + ua.length) (sg false (val 18446744073709551616 ua * val 18446744073709551616 ua)) w1 (.returned (.tuple #[])) (w2.setCell ⟨t, 1, none⟩ (.slice A' k0 c')) := sq_fin it fW kw.st htz hm (fun _ => rfl) rfl
  exact (kz_post C kw ht hiL DA DA lab htz WZ ZL Z0 hI).2
set_option maxRecDepth 100000 in
theorem sq_m0 (M : ∀ a, a ≤ h → SqrOK a) (C : KC0 n h r s q z oz cz bx ox cx bt ot u0 u1 v0 v1 p0 p1 r0 r1 t0 t1 t2 tx ty w) (tb : Glo w 0 12) (tk : Glo w 1 80) (hty : w.heap.size ≤ ty) {V : Int} {w1 : World} (K : S4 n h r s q z oz cz bt ot t0 t1 t2 tx ty V w w1) :
    IntB w1 t0 false (some ⟨z, oz, none⟩) (2 * h) cz ∧ IntB w1 p0 false (some ⟨bx, ox, none⟩) u0.length cx ∧ ∀ W, Fr [] w1 W → Calls Tryd.prog 77 #[.slice (some ⟨z, oz, none⟩) (2 * h : Nat) cz, .pointer (some ⟨s, 0, none⟩), .slice (some ⟨bx, ox, none⟩) u0.length cx] W (SqC (S5 n h r s q z oz cz bt ot t0 t1 t2 tx ty V (val 18446744073709551616 u0 * val 18446744073709551616 u0) w) t0 (some ⟨z, oz, none⟩) (2 * h) cz (fun w2 v => w2.setCell ⟨t0, 1, none⟩ v)) := by
  obtain ⟨⟨q', n1, A1, b1, o1, c1, f, K⟩, WZ⟩ := K
  have D := C.kd
  obtain ⟨z1, z2, z3, z4, z5, z6, z7, z8, z9⟩ := D.z
  have O := C.ops hty K.kw.fc
  have n40 := C.n40
  have hh := C.hh
  have lu0 := C.lu0
  have z0 : (List.drop 0 (List.replicate (2 * n) (0 : Int))).take (2 * h) = List.replicate (2 * h) 0 := by
    rw [List.drop_zero, List.take_replicate]; congr 1; omega
  refine ⟨K.i0, O.ip0, fun W fW => ?_⟩
  refine (sq_cz M C tb tk hty K.kw (t := t0) (i := 0) (L := 2 * h) (.inl rfl) K.i0 (by omega) (by omega) O.np0 C.du0 lu0 (by omega) z5 (C.xz.sub1 (by omega) (Nat.le_refl _)) C.ex C.xo (fun hc => C.np0.rcv.lt hc) C.cx9 WZ List.length_replicate z0 W fW).mono ?_
  rintro e w2 ⟨A', k0, c', rfl, hi, q2, g, F, G⟩
  exact ⟨A', k0, c', rfl, hi, s5_post C K G⟩
set_option maxRecDepth 100000 in
theorem sq_m2 (M : ∀ a, a ≤ h → SqrOK a) (C : KC0 n h r s q z oz cz bx ox cx bt ot u0 u1 v0 v1 p0 p1 r0 r1 t0 t1 t2 tx ty w) (tb : Glo w 0 12) (tk : Glo w 1 80) (hty : w.heap.size ≤ ty) {V Z0 : Int} {w1 : World} (K : S5 n h r s q z oz cz bt ot t0 t1 t2 tx ty V Z0 w w1) :
    IntB w1 t2 false (some ⟨z, oz + 2 * h, none⟩) (2 * r) (cz - 2 * h) ∧ IntB w1 p1 false (some ⟨bx, ox + h, none⟩) u1.length (cx - h) ∧ ∀ W, Fr [] w1 W → Calls Tryd.prog 77 #[.slice (some ⟨z, oz + 2 * h, none⟩) (2 * r : Nat) (cz - 2 * h : Nat), .pointer (some ⟨s, 0, none⟩), .slice (some ⟨bx, ox + h, none⟩) u1.length (cx - h : Nat)] W (SqC (S6 n h r s q z oz cz bt ot t0 t1 t2 tx ty (2 * h) V Z0 (val 18446744073709551616 u1 * val 18446744073709551616 u1) w) t2 (some ⟨z, oz + 2 * h, none⟩) (2 * r) (cz - 2 * h) (fun w2 v => w2.setCell ⟨t2, 1, none⟩ v)) := by
  obtain ⟨q', n1, A1, b1, o1, c1, f, g0, F0, kw, d1, pe, i2, G0, KF0, WZ⟩ := K
  have D := C.kd
  obtain ⟨z1, z2, z3, z4, z5, z6, z7, z8, z9⟩ := D.z
  have O := C.ops hty kw.fc
  have n40 := C.n40
  have few := C.few
  have hh := C.hh
  have hr := C.hr
  have cz2 := C.cz2
  have lu1 := C.lu1
  have m1 := C.np1.le
  have xz := C.xz
  have cx9 := C.cx9
  have hF0 := KF0.fl
  have ex := C.ex
  have z0 : (List.drop (2 * h) (F0 ++ List.replicate (2 * r) (0 : Int))).take (2 * r) = List.replicate (2 * r) 0 := by
    rw [← hF0, List.drop_left, List.take_of_length_le (by rw [List.length_replicate]; exact Nat.le_refl _)]
  have offC : ∀ {b o c : Nat}, h ≤ c ∨ c < h → Off (StS s q) b o c → Off (StS s q) b (o + h) (c - h) := fun _ ho j a1 a2 hh => ho j (by omega) (by omega) hh
  refine ⟨i2, O.ip1, fun W fW => ?_⟩
  refine (sq_cz M C tb tk hty kw (t := t2) (i := 2 * h) (L := 2 * r) (.inr rfl) i2 (by omega) (by omega) O.np1 C.du1 (by omega) (by omega) z7 (by unfold Dj at *; omega) ?_ (offC (by omega) C.xo) (fun hc => C.np1.rcv.lt hc) (by omega) WZ (by rw [List.length_append, hF0, List.length_replicate]; omega) z0 W fW).mono ?_
  · have := C.cxn; omega
  rintro e w2 ⟨A', k0, c', rfl, hi, q2, g, F, G⟩
  exact ⟨A', k0, c', rfl, hi, s6_post C kw d1 pe G0 KF0 G⟩
end
section
variable {n h r s : Nat} {q q1 : Option StkSt} {z oz cz bx ox cx bt ot : Nat} {xs u0 u1 : List Int} {p0 p1 t0 t1 t2 tx : Nat} {w w7 w8 w9 w10 w11 w12 : World}
set_option maxRecDepth 100000 in
theorem ksq_ctx (H : KsqPre n s q z oz cz bx ox cx xs w) (n40 : 40 ≤ n) (hh : h = (n + 1) / 2) (hr : h + r = n) (KX : KHs w bx ox cx h xs u0 u1 p0 p1 w7) (B0 : KB w7 t0 (some ⟨z, oz, none⟩) (2 * h) cz w8) (B2 : KB w8 t2 (some ⟨z, oz + 2 * h, none⟩) (2 * r) (cz - 2 * h) w9)
    (hT : ∃ L, Row .u64 77 w10 bt L ∧ ot + (2 * h + 1) ≤ L.length) (st10 : StkAt w10 s q1) (L5 : StkLe w9.heap.size q q1) (l5 : lenS q ≤ lenS q1) (l5' : lenS q1 ≤ lenS q + (2 * h + 1) + 3) (F9 : Fc 77 (StS s q) w9 w10)
    (hnw : bt < w9.heap.size → ∀ i, ot ≤ i → i < ot + (2 * h + 1) → StS s q bt i) (hoff : ∀ i, ot ≤ i → i < ot + (2 * h + 1) → ¬ StS s q1 bt i)
    (B1 : KB w10 t1 (some ⟨bt, ot, none⟩) (2 * h + 1) (2 * h + 1) w11) (BX : KB w11 tx (some ⟨z, oz, none⟩) h cz w12) :
    KC0 n h r s q1 z oz cz bx ox cx bt ot u0 u1 u0 u1 p0 p1 w12.heap.size (w12.heap.size + 1) t0 t1 t2 tx (w12.heap.size + 2) w12 ∧ Glo w12 0 12 ∧ Glo w12 1 80 := by
  have few := H.few
  have hlen := H.len
  have hxn := H.xn
  have hxc := H.x.le
  have hcz := H.lz
  have hbx := H.x.lt (by omega)
  have hbz := H.rz.lt (by omega)
  have F9' : Fr [] w w9 := (KX.f.t B0.f).t B2.f
  have F79 : Fr [] w7 w9 := B0.f.t B2.f
  have FZ : Fr [] w10 w12 := B1.f.t BX.f
  have s7 := KX.f.size
  have s8 := B0.f.size
  have s9 := B2.f.size
  have s10 := F9.size
  have s11 := B1.f.size
  have s12 := BX.f.size
  have st9 := H.st.fr0 F9'
  have keep : ∀ {p : Nat} {ng : Bool} {A : Option Addr} {l c : Nat}, IntB w9 p ng A l c → IntB w12 p ng A l c := fun hI => (hI.fc F9 (hI.stk st9)).fr0 FZ
  have keepN : ∀ {A : Option Addr} {b o c : Nat} {d : List Int}, Nm w9 A b o c d → Off (StS s q) b o d.length → Nm w12 A b o c d := fun hN ho => (hN.fc F9 ho).fr0 FZ
  have offC : ∀ {b o c m : Nat}, Off (StS s q) b o c → m ≤ c - h → Off (StS s q) b (o + h) m := fun ho hm j a1 a2 hx => ho j (by omega) (by omega) hx
  have n0l := KX.n0.le
  have n1l := KX.n1.le
  have l1 := KX.l1
  obtain ⟨L, hL, hLl⟩ := hT
  have g0 := KX.g0
  have g1 := KX.g1
  have e0 := KX.s0
  have e1 := KX.s1
  have g4 := B0.g
  have e4 := B0.s
  have g5 := B2.g
  have e5 := B2.s
  have g6 := B1.g
  have e6 := B1.s
  have g7 := BX.g
  have e7 := BX.s
  have ne1 := KX.ne
  have rz12 : Rcv w12 (some ⟨z, oz, none⟩) z oz cz := ((H.rz.fc (Fc.fr0 F9' 77 (fun _ _ => False))).fc F9).fc (Fc.fr0 FZ 77 (fun _ _ => False))
  have rt12 : Rcv w12 (some ⟨bt, ot, none⟩) bt ot (2 * h + 1) := (Rcv.of_row hL hLl (by unfold maxLen; omega)).fc (Fc.fr0 FZ 77 (fun _ _ => False))
  have I0 := keep (KX.i0.fr0 F79)
  have I1 := keep (KX.i1.fr0 F79)
  have J0 := keep (B0.ib.fr0 B2.f)
  have J2 := keep B2.ib
  have J1 := B1.ib.fr0 BX.f
  have zlt := rz12.lt (by omega)
  have tlt := rt12.lt (by omega)
  have Z : ∀ {p : Nat} {ng : Bool} {A : Option Addr} {l c : Nat}, IntB w12 p ng A l c → p ≠ z := fun hi e => hi.rcv_ne rz12 (by omega) e.symm
  have B : ∀ {p : Nat} {ng : Bool} {A : Option Addr} {l c : Nat}, IntB w12 p ng A l c → p ≠ bt := fun hi e => hi.rcv_ne rt12 (by omega) e.symm
  have kd : KD z bt p0 p1 w12.heap.size (w12.heap.size + 1) t0 t1 t2 tx (w12.heap.size + 2) :=
    ⟨by omega, by omega, by omega, by omega, ⟨Z I0, Z I1, by omega, by omega, Z J0, Z J1, Z J2, Z BX.ib, by omega⟩, ⟨B I0, B I1, by omega, by omega, B J0, B J1, B J2, B BX.ib, by omega⟩⟩
  refine ⟨⟨n40, few, hh, hr, H.lz, by omega, H.cz9, H.cx9, st10.fr0 FZ, by omega, rz12, rt12, I0, I1, keepN (KX.n0.fr0 F9') (Off.take H.ox_ n0l), keepN (KX.n1.fr0 F9') (offC H.ox_ n1l),
    KX.d0, KX.d1, KX.d0, KX.d1, KX.z0, KX.z1, KX.l0, by omega, KX.l0, by omega, BX.ib, J0, J1, J2, kd, H.dx, off_le L5 l5 H.ox_ (by omega), off_le L5 l5 H.oz_ (by omega), hoff,
    nat_dj2 hnw (by omega) (by omega) (Off.take H.ox_ (by omega)), nat_dj2 hnw (by omega) (by omega) (Off.take H.oz_ (by omega)), H.ex, nat_ne hnw (by omega) H.oz_ (by omega) (by omega)⟩,
    ((H.tb.fr0 F9').fc F9 (glo_stk (H.tb.fr0 F9') st9 0)).fr0 FZ, ((H.tk.fr0 F9').fc F9 (glo_stk (H.tk.fr0 F9') st9 0)).fr0 FZ⟩
theorem ksq_fin {h21 n2 h2 r2 : Nat} (H : KsqPre n s q z oz cz bx ox cx xs w) (n40 : 40 ≤ n) (e1 : n2 = 2 * n) (e3 : h21 = 2 * h + 1) (KX : KHs w bx ox cx h xs u0 u1 p0 p1 w7) (B0 : KB w7 t0 (some ⟨z, oz, none⟩) h2 cz w8) (B2 : KB w8 t2 (some ⟨z, oz + h2, none⟩) r2 (cz - h2) w9)
    (L5 : StkLe w9.heap.size q q1) (l5 : lenS q ≤ lenS q1) (F9 : Fc 77 (StS s q) w9 w10)
    (hnw : bt < w9.heap.size → ∀ i, ot ≤ i → i < ot + h21 → StS s q bt i)
    (B1 : KB w10 t1 (some ⟨bt, ot, none⟩) h21 h21 w11) (BX : KB w11 tx (some ⟨z, oz, none⟩) h cz w12) {ty r0 r1 : Nat} {v0 v1 : List Int} (hty : w12.heap.size ≤ ty)
    (C : KC0 n h r s q1 z oz cz bx ox cx bt ot u0 u1 v0 v1 p0 p1 r0 r1 t0 t1 t2 tx ty w12) {w20 : World}
    (K : S9 n h s q1 z oz bt ot t0 t1 t2 tx ty ((val 18446744073709551616 u0 + 18446744073709551616 ^ h * val 18446744073709551616 u1) * (val 18446744073709551616 u0 + 18446744073709551616 ^ h * val 18446744073709551616 u1)) w12 w20) :
    ∃ q', StkAt w20 s q' ∧ (∀ p, q' = some p → lenS q ≤ p.cap) ∧ ∀ w21, StkAt w21 s (resS (lenS q) q') → Fc 77 (StS s q') w20 w21 → KarP s q z oz n2 (val 18446744073709551616 xs * val 18446744073709551616 xs) w (.returned (.tuple #[])) w21 := by
  obtain ⟨q', zs, kw, wz, zl, zd, zv⟩ := K
  have hcz := H.lz
  have zlt : z < w12.heap.size := C.rz.lt (by omega)
  have hh := C.hh
  have F9' : Fr [] w w9 := (KX.f.t B0.f).t B2.f
  have FZ : Fr [] w10 w12 := B1.f.t BX.f
  have s7 := KX.f.size
  have s8 := B0.f.size
  have s9 := B2.f.size
  have s10 := F9.size
  have s11 := B1.f.size
  have s12 := BX.f.size
  have g4 := B0.g
  have g5 := B2.g
  have g6 := B1.g
  have g7 := BX.g
  have ll := kw.ll
  refine ⟨q', kw.st, fun p hp => ?_, fun w21 h21' hf => ?_⟩
  · subst hp
    have h3 := kw.st.2.2.2.1
    have e : lenS (some p) = p.len := rfl
    omega
  · have hlq : lenS (resS (lenS q) q') = lenS q := lenS_res (fun hh => by
      subst hh
      have e : lenS none = 0 := rfl
      omega)
    have hle : StkLe w.heap.size q (resS (lenS q) q') := ((L5.le (show w.heap.size ≤ w9.heap.size by omega)).trans kw.le (by omega)).res
    have zo : Off (StS s q') z oz cz := off_le kw.le (Nat.le_of_eq ll.symm) C.zo zlt
    refine ⟨_, zs, rfl, h21', hle, hlq, wz.fc hf (fun i a1 a2 => zo i a1 (by omega)), zl.trans e1.symm, zd, ?_, ?_⟩
    · rw [zv, KX.v0, KX.v1, val_split 18446744073709551616 xs h (by have := H.xn; omega)]
    · have q_sub : ∀ b i, StS s q1 b i → b < w.heap.size → StS s q b i := fun b i hb hlt => L5.sub l5 b i hb (by omega)
      have A1 : Fc 77 (fun b i => StS s q b i ∨ In1 z oz n2 b i) w w10 := (Fc.fr0 F9' 77 _).trans F9 (fun b i hb _ => .inl hb)
      have A2 : Fc 77 (fun b i => StS s q b i ∨ In1 z oz n2 b i) w w12 := A1.t (Fc.fr0 FZ 77 _)
      have A3 : Fc 77 (fun b i => StS s q b i ∨ In1 z oz n2 b i) w w20 := A2.trans kw.fc (fun b i hb hlt => by
        rcases hb with hb | hb | hb | hb | hb | hb | hb | hb
        · omega
        · omega
        · omega
        · omega
        · omega
        · exact .inl (q_sub b i hb hlt)
        · rw [e1]; exact .inr hb
        · obtain ⟨rfl, b1, b2⟩ := hb
          exact .inl ((hnw (by omega) ot (Nat.le_refl _) (by omega)).up b1))
      exact A3.trans hf (fun b i hb hlt => .inl (q_sub b i (kw.le.sub (Nat.le_of_eq ll.symm) b i hb (by omega)) hlt))
end
end Go.Proofs.YtknokndpeneogaaDoor
