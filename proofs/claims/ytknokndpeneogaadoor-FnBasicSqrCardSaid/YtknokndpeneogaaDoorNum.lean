/-
  Numbers as lists of digits, the lowest first: plain arithmetic, no program in sight. Conditions: none (each theorem bears its own).
-/
set_option linter.unusedSimpArgs false
set_option linter.unusedVariables false
namespace Go.Big

def val (B : Int) : List Int → Int
  | [] => 0
  | d :: ds => d + B * val B ds

theorem val_nil (B : Int) : val B [] = 0 := rfl
theorem val_cons (B d : Int) (ds : List Int) : val B (d :: ds) = d + B * val B ds := rfl

theorem val_append (B : Int) (xs ys : List Int) : val B (xs ++ ys) = val B xs + B ^ xs.length * val B ys := by
  induction xs with
  | nil => simp [val_nil]
  | cons x xs ih =>
    simp only [List.cons_append, val_cons, ih, List.length_cons, Int.pow_succ]
    grind

theorem getD_in {xs : List Int} {i : Nat} (h : i < xs.length) : xs.getD i 0 = xs[i] := by simp [List.getD_eq_getElem?_getD, h]
theorem getD_out {xs : List Int} {i : Nat} (h : xs.length ≤ i) : xs.getD i 0 = 0 := by simp [List.getD_eq_getElem?_getD, h]

def DG (B : Int) (ds : List Int) : Prop := ∀ d ∈ ds, 0 ≤ d ∧ d < B

theorem DG.nil (B : Int) : DG B [] := by intro d h; simp at h
theorem DG.tail {B d : Int} {ds : List Int} (h : DG B (d :: ds)) : DG B ds := fun x hx => h x (List.mem_cons_of_mem _ hx)
theorem DG.head {B d : Int} {ds : List Int} (h : DG B (d :: ds)) : 0 ≤ d ∧ d < B := h d (by simp)
theorem DG.cons {B d : Int} {ds : List Int} (h0 : 0 ≤ d) (h1 : d < B) (h : DG B ds) : DG B (d :: ds) := by
  intro x hx
  rcases List.mem_cons.1 hx with rfl | hx
  · exact ⟨h0, h1⟩
  · exact h x hx
theorem DG.append {B : Int} {xs ys : List Int} (h : DG B xs) (k : DG B ys) : DG B (xs ++ ys) := by
  intro x hx
  rcases List.mem_append.1 hx with hx | hx
  · exact h x hx
  · exact k x hx
theorem DG.take {B : Int} {xs : List Int} (h : DG B xs) (k : Nat) : DG B (xs.take k) := fun x hx => h x (List.mem_of_mem_take hx)
theorem DG.drop {B : Int} {xs : List Int} (h : DG B xs) (k : Nat) : DG B (xs.drop k) := fun x hx => h x (List.mem_of_mem_drop hx)
theorem DG.get {B : Int} {xs : List Int} (h : DG B xs) {i : Nat} (hi : i < xs.length) : 0 ≤ xs[i] ∧ xs[i] < B := h _ (List.getElem_mem hi)
theorem DG.getD {B : Int} {xs : List Int} (hB : 0 < B) (h : DG B xs) (i : Nat) : 0 ≤ xs.getD i 0 ∧ xs.getD i 0 < B := by
  by_cases hi : i < xs.length
  · rw [getD_in hi]; exact h.get hi
  · rw [getD_out (by omega)]; omega
theorem DG.rep {B : Int} (hB : 0 < B) (n : Nat) : DG B (List.replicate n 0) := by
  intro x hx
  have := (List.mem_replicate.1 hx).2
  omega
theorem DG.set {B : Int} {xs : List Int} (h : DG B xs) (i : Nat) {v : Int} (h0 : 0 ≤ v) (h1 : v < B) : DG B (xs.set i v) := by
  intro x hx
  rcases List.mem_or_eq_of_mem_set hx with hx | rfl
  · exact h x hx
  · exact ⟨h0, h1⟩

theorem pow_pos_ {B : Int} (h : 0 < B) (n : Nat) : 0 < B ^ n := Int.pow_pos h

theorem val_nonneg {B : Int} (hB : 0 < B) {ds : List Int} (h : DG B ds) : 0 ≤ val B ds := by
  induction ds with
  | nil => simp [val_nil]
  | cons d ds ih =>
    have h1 := ih h.tail
    have h2 := h.head
    have h3 : 0 ≤ B * val B ds := Int.mul_nonneg (by omega) h1
    rw [val_cons]; omega

theorem val_lt {B : Int} (hB : 0 < B) {ds : List Int} (h : DG B ds) : val B ds < B ^ ds.length := by
  induction ds with
  | nil => simp [val_nil]
  | cons d ds ih =>
    have h1 := ih h.tail
    have h2 := h.head
    have h3 : B * (val B ds + 1) ≤ B * B ^ ds.length := Int.mul_le_mul_of_nonneg_left (by omega) (by omega)
    rw [val_cons, List.length_cons, Int.pow_succ]
    grind

theorem val_take_succ (B : Int) (xs : List Int) (k : Nat) (h : k < xs.length) : val B (xs.take (k + 1)) = val B (xs.take k) + B ^ k * xs[k] := by
  rw [List.take_succ_eq_append_getElem h, val_append, List.length_take, Nat.min_eq_left (by omega)]
  simp [val_cons, val_nil]

theorem val_take_succ' (B : Int) (xs : List Int) (k : Nat) : val B (xs.take (k + 1)) = val B (xs.take k) + B ^ k * xs.getD k 0 := by
  by_cases h : k < xs.length
  · rw [val_take_succ B xs k h, getD_in h]
  · rw [List.take_of_length_le (by omega), List.take_of_length_le (by omega), getD_out (by omega)]; simp

theorem val_split (B : Int) (xs : List Int) (k : Nat) (h : k ≤ xs.length) : val B xs = val B (xs.take k) + B ^ k * val B (xs.drop k) := by
  have := val_append B (xs.take k) (xs.drop k)
  rw [List.take_append_drop, List.length_take, Nat.min_eq_left h] at this
  exact this

theorem val_snoc (B : Int) (xs : List Int) (d : Int) : val B (xs ++ [d]) = val B xs + B ^ xs.length * d := by
  rw [val_append]; simp [val_cons, val_nil]

theorem val_rep (B : Int) (n : Nat) : val B (List.replicate n 0) = 0 := by
  induction n with
  | zero => rfl
  | succ n ih => rw [List.replicate_succ, val_cons, ih]; simp

theorem val_zeros (B : Int) {xs : List Int} (h : ∀ x ∈ xs, x = 0) : val B xs = 0 := by
  induction xs with
  | nil => rfl
  | cons x xs ih =>
    rw [val_cons, h x (by simp), ih (fun y hy => h y (List.mem_cons_of_mem _ hy))]; simp

/-- no nought at the upper end -/
def NZ (xs : List Int) : Prop := xs = [] ∨ xs.getD (xs.length - 1) 0 ≠ 0

theorem NZ.nil : NZ [] := .inl rfl
theorem NZ.tail {x : Int} {xs : List Int} (h : NZ (x :: xs)) (hx : xs ≠ []) : NZ xs := by
  rcases h with h | h
  · cases h
  · right
    cases xs with
    | nil => exact absurd rfl hx
    | cons y ys => simpa using h

theorem val_pos {B : Int} (hB : 0 < B) {xs : List Int} (hd : DG B xs) (hz : NZ xs) (hne : xs ≠ []) : B ^ (xs.length - 1) ≤ val B xs := by
  induction xs with
  | nil => exact absurd rfl hne
  | cons x xs ih =>
    cases xs with
    | nil =>
      rcases hz with h | h
      · cases h
      · simp at h
        have := hd.head
        simp [val_cons, val_nil]; omega
    | cons y ys =>
      have h1 := ih hd.tail (hz.tail (by simp)) (by simp)
      have h2 := hd.head
      have h3 : B * B ^ ((y :: ys).length - 1) ≤ B * val B (y :: ys) := Int.mul_le_mul_of_nonneg_left h1 (by omega)
      rw [val_cons]
      have e : (x :: y :: ys).length - 1 = (y :: ys).length - 1 + 1 := by simp
      rw [e, Int.pow_succ, Int.mul_comm]
      omega

theorem nz_pos {B : Int} (hB : 0 < B) {xs : List Int} (hd : DG B xs) (hz : NZ xs) (hne : xs ≠ []) : 0 < val B xs := by
  have := val_pos hB hd hz hne
  have := pow_pos_ hB (xs.length - 1)
  omega

theorem digit_unique {B d e v u : Int} (hd : 0 ≤ d ∧ d < B) (he : 0 ≤ e ∧ e < B) (h : d + B * v = e + B * u) : d = e ∧ v = u := by
  have hB : 0 < B := by omega
  have h1 : (d + B * v) % B = d := by rw [Int.add_mul_emod_self_left]; exact Int.emod_eq_of_lt hd.1 hd.2
  have h2 : (e + B * u) % B = e := by rw [Int.add_mul_emod_self_left]; exact Int.emod_eq_of_lt he.1 he.2
  have h3 : d = e := by rw [← h1, ← h2, h]
  subst h3
  refine ⟨rfl, ?_⟩
  have : B * v = B * u := by omega
  exact Int.eq_of_mul_eq_mul_left (by omega) this

theorem eq_of_val {B : Int} {xs ys : List Int} (hx : DG B xs) (hy : DG B ys) (zx : NZ xs) (zy : NZ ys) (hB : 0 < B) (h : val B xs = val B ys) : xs = ys := by
  induction xs generalizing ys with
  | nil =>
    by_cases e : ys = []
    · exact e.symm
    · have := nz_pos hB hy zy e
      rw [val_nil] at h; omega
  | cons x xs ih =>
    cases ys with
    | nil =>
      have := nz_pos hB hx zx (by simp)
      rw [val_nil] at h; omega
    | cons y ys =>
      rw [val_cons, val_cons] at h
      obtain ⟨rfl, h'⟩ := digit_unique hx.head hy.head h
      by_cases ex : xs = []
      · subst ex
        by_cases ey : ys = []
        · rw [ey]
        · have := nz_pos hB hy.tail (zy.tail ey) ey
          rw [val_nil] at h'; omega
      · by_cases ey : ys = []
        · subst ey
          have := nz_pos hB hx.tail (zx.tail ex) ex
          rw [val_nil] at h'; omega
        · rw [ih hx.tail hy.tail (zx.tail ex) (zy.tail ey) h']

/-- of one length, no condition on the upper end -/
theorem eq_of_val_len {B : Int} {xs ys : List Int} (hx : DG B xs) (hy : DG B ys) (hl : xs.length = ys.length) (h : val B xs = val B ys) : xs = ys := by
  induction xs generalizing ys with
  | nil => cases ys with
    | nil => rfl
    | cons => simp at hl
  | cons x xs ih =>
    cases ys with
    | nil => simp at hl
    | cons y ys =>
      rw [val_cons, val_cons] at h
      obtain ⟨rfl, h'⟩ := digit_unique hx.head hy.head h
      rw [ih hx.tail hy.tail (by simpa using hl) h']

theorem pow_le_pow_ {B : Int} (hB : 1 ≤ B) {m n : Nat} (h : m ≤ n) : B ^ m ≤ B ^ n := by
  obtain ⟨k, rfl⟩ : ∃ k, n = m + k := ⟨n - m, by omega⟩
  rw [Int.pow_add]
  have h1 := pow_pos_ (show 0 < B by omega) m
  have h2 := pow_pos_ (show 0 < B by omega) k
  have := Int.mul_le_mul_of_nonneg_left (show 1 ≤ B ^ k by omega) (show 0 ≤ B ^ m by omega)
  omega

theorem len_le {B : Int} (hB : 1 < B) {xs : List Int} (hd : DG B xs) (hz : NZ xs) {k : Nat} (h : val B xs < B ^ k) : xs.length ≤ k := by
  by_cases hne : xs = []
  · subst hne; simp
  · have h1 := val_pos (by omega) hd hz hne
    by_cases hk : xs.length ≤ k
    · exact hk
    · have h2 := pow_le_pow_ (B := B) (by omega) (show k ≤ xs.length - 1 by omega)
      omega

theorem val_lt_of_len {B : Int} (hB : 1 < B) {xs : List Int} (hd : DG B xs) {k : Nat} (h : xs.length ≤ k) : val B xs < B ^ k := by
  have h1 := val_lt (by omega) hd
  have h2 := pow_le_pow_ (B := B) (by omega) h
  omega

/-- shorter, and no nought at the upper end of the longer: less -/
theorem lt_of_shorter {B : Int} (hB : 1 < B) {xs ys : List Int} (hx : DG B xs) (hy : DG B ys) (zy : NZ ys) (h : xs.length < ys.length) : val B xs < val B ys := by
  have h1 := val_lt_of_len hB hx (show xs.length ≤ ys.length - 1 by omega)
  have h2 := val_pos (by omega) hy zy (by intro e; subst e; simp at h)
  omega

/-- the highest place at which they part decides -/
theorem lt_of_top {B : Int} (hB : 1 < B) {xs ys : List Int} (hx : DG B xs) (hy : DG B ys) (hl : xs.length = ys.length) {i : Nat} (hi : i < xs.length)
    (he : ∀ j, i < j → j < xs.length → xs.getD j 0 = ys.getD j 0) (h : xs.getD i 0 < ys.getD i 0) : val B xs < val B ys := by
  have ed : xs.drop (i + 1) = ys.drop (i + 1) := by
    apply List.ext_getElem
    · simp [hl]
    · intro n h1 h2
      simp only [List.length_drop] at h1 h2
      have := he (i + 1 + n) (by omega) (by omega)
      rw [getD_in (by omega), getD_in (by omega)] at this
      simpa using this
  have h1 := val_split B xs (i + 1) (by omega)
  have h2 := val_split B ys (i + 1) (by omega)
  rw [val_take_succ B xs i hi] at h1
  rw [val_take_succ B ys i (by omega)] at h2
  rw [ed] at h1
  have h3 := val_lt (by omega) (hx.take i)
  rw [List.length_take, Nat.min_eq_left (by omega)] at h3
  have h4 := val_nonneg (by omega) (hy.take i)
  rw [getD_in hi, getD_in (by omega)] at h
  have h5 := pow_pos_ (show 0 < B by omega) i
  have h6 : B ^ i * (xs[i] + 1) ≤ B ^ i * ys[i] := Int.mul_le_mul_of_nonneg_left (by omega) (by omega)
  rw [Int.mul_add, Int.mul_one] at h6
  omega

theorem val_set (B : Int) (xs : List Int) (i : Nat) (h : i < xs.length) (v : Int) : val B (xs.set i v) = val B xs + B ^ i * (v - xs[i]) := by
  induction xs generalizing i with
  | nil => simp at h
  | cons x xs ih =>
    cases i with
    | zero => simp [val_cons]; omega
    | succ i =>
      simp only [List.set_cons_succ, val_cons, List.getElem_cons_succ, Int.pow_succ]
      rw [ih i (by simpa using h)]
      grind

/-- a word as four digits -/
def quad (w : Int) : List Int := [w % 65536, w / 65536 % 65536, w / 4294967296 % 65536, w / 281474976710656 % 65536]
theorem quad_val {w : Int} (h0 : 0 ≤ w) (h1 : w < 18446744073709551616) : val 65536 (quad w) = w := by
  simp only [quad, val_cons, val_nil]; omega
theorem quad_dg (w : Int) : DG 65536 (quad w) := by
  unfold quad
  exact DG.cons (by omega) (by omega) (DG.cons (by omega) (by omega) (DG.cons (by omega) (by omega) (DG.cons (by omega) (by omega) (DG.nil _))))
def quads (ws : List Int) : List Int := ws.flatMap quad
theorem quads_cons (w : Int) (ws : List Int) : quads (w :: ws) = quad w ++ quads ws := rfl
theorem quads_append (xs ys : List Int) : quads (xs ++ ys) = quads xs ++ quads ys := by simp [quads]
theorem quads_len (ws : List Int) : (quads ws).length = 4 * ws.length := by
  induction ws with
  | nil => rfl
  | cons w ws ih => rw [quads_cons, List.length_append, ih]; simp [quad]; omega
theorem quads_dg (ws : List Int) : DG 65536 (quads ws) := by
  induction ws with
  | nil => exact DG.nil _
  | cons w ws ih => rw [quads_cons]; exact (quad_dg w).append ih
theorem quads_val {ws : List Int} (h : DG 18446744073709551616 ws) : val 65536 (quads ws) = val 18446744073709551616 ws := by
  induction ws with
  | nil => rfl
  | cons w ws ih =>
    rw [quads_cons, val_append, quad_val h.head.1 h.head.2, ih h.tail, val_cons]
    simp [quad]

/-- noughts cut off at the upper end -/
theorem nz_take {xs : List Int} {i : Nat} (hi : i ≤ xs.length) (h : i = 0 ∨ xs.getD (i - 1) 0 ≠ 0) : NZ (xs.take i) := by
  rcases Nat.eq_zero_or_pos i with h0 | h0
  · subst h0; left; simp
  · right
    rcases h with h | h
    · omega
    · rw [List.length_take, Nat.min_eq_left hi, getD_in (by simp; omega), List.getElem_take]
      rwa [getD_in (by omega)] at h
theorem val_cut (B : Int) {xs : List Int} {i : Nat} (hi : i ≤ xs.length) (h : ∀ j, i ≤ j → j < xs.length → xs.getD j 0 = 0) : val B (xs.take i) = val B xs := by
  rw [val_split B xs i hi, val_zeros B (xs := xs.drop i)]
  · simp
  · intro x hx
    obtain ⟨n, hn, rfl⟩ := List.mem_iff_getElem.1 hx
    simp only [List.length_drop] at hn
    have := h (i + n) (by omega) (by omega)
    rw [getD_in (by omega)] at this
    simpa using this

theorem val_set' (B : Int) (xs : List Int) (i : Nat) (h : i < xs.length) (v : Int) : val B (xs.set i v) = val B xs + B ^ i * (v - xs.getD i 0) := by
  rw [val_set B xs i h, getD_in h]
theorem getD_set {xs : List Int} {i j : Nat} (v : Int) (h : i ≠ j) : (xs.set i v).getD j 0 = xs.getD j 0 := by
  simp [List.getD_eq_getElem?_getD, List.getElem?_set, h]
theorem getD_set_self {xs : List Int} {i : Nat} (v : Int) (h : i < xs.length) : (xs.set i v).getD i 0 = v := by
  simp [List.getD_eq_getElem?_getD, h]

/-- n has L bits -/
def IsLen (n : Int) (L : Nat) : Prop := (n = 0 ∧ L = 0) ∨ (1 ≤ L ∧ 2 ^ (L - 1) ≤ n ∧ n < 2 ^ L)
theorem IsLen.unique {n : Int} {L M : Nat} (h : IsLen n L) (k : IsLen n M) : L = M := by
  have p1 := fun a => pow_pos_ (B := 2) (by omega) a
  rcases h with ⟨rfl, rfl⟩ | ⟨h1, h2, h3⟩ <;> rcases k with ⟨k0, rfl⟩ | ⟨k1, k2, k3⟩
  · rfl
  · have := p1 (M - 1); omega
  · have := p1 (L - 1); omega
  · rcases Nat.lt_trichotomy L M with h | h | h
    · have := pow_le_pow_ (B := 2) (by omega) (show L ≤ M - 1 by omega); omega
    · exact h
    · have := pow_le_pow_ (B := 2) (by omega) (show M ≤ L - 1 by omega); omega
/-- the highest digit tells the bits -/
theorem IsLen.digits {ds : List Int} (hd : DG 65536 ds) {t : Int} {j : Nat} (hne : 0 < ds.length) (ht : t = ds.getD (ds.length - 1) 0) (hj : IsLen t j) (h1 : 1 ≤ j) : IsLen (val 65536 ds) (16 * (ds.length - 1) + j) := by
  right
  rcases hj with ⟨_, h⟩ | ⟨_, h2, h3⟩
  · omega
  obtain ⟨m, hm⟩ : ∃ m, ds.length = m + 1 := ⟨ds.length - 1, by omega⟩
  have hv := val_take_succ' 65536 ds m
  rw [← hm, List.take_length] at hv
  rw [hm, Nat.add_sub_cancel] at ht ⊢
  rw [← ht] at hv
  have b1 := val_nonneg (by omega) (hd.take m)
  have b2 := val_lt (by omega) (hd.take m)
  rw [List.length_take, Nat.min_eq_left (by omega)] at b2
  have e16 : (2 : Int) ^ (16 * m) = 65536 ^ m := by rw [Int.pow_mul]; rfl
  have e1 : (2 : Int) ^ (16 * m + j) = 65536 ^ m * 2 ^ j := by rw [Int.pow_add, e16]
  have e2 : (2 : Int) ^ (16 * m + j - 1) = 65536 ^ m * 2 ^ (j - 1) := by rw [show 16 * m + j - 1 = 16 * m + (j - 1) by omega, Int.pow_add, e16]
  have p := pow_pos_ (B := 65536) (by omega) m
  have m1 := Int.mul_le_mul_of_nonneg_left h2 (Int.le_of_lt p)
  have m2 := Int.mul_le_mul_of_nonneg_left (show t + 1 ≤ 2 ^ j by omega) (Int.le_of_lt p)
  rw [Int.mul_add, Int.mul_one] at m2
  refine ⟨by omega, ?_, ?_⟩
  · rw [e2, hv]; omega
  · rw [e1, hv]; omega

/-- a bound that is never reckoned -/
def sealed (x : Int) (n : Nat) : Int := if n = 0 then x else sealed x (n - 1)
termination_by n
theorem sealed_eq (x : Int) : sealed x 0 = x := by rw [sealed, if_pos rfl]
def BIG : Int := sealed (65536 ^ 4000000) 0
theorem BIG_eq : BIG = 65536 ^ 4000000 := sealed_eq _
theorem lt_BIG {n : Int} (k : Nat) (h : n < 65536 ^ k) (hk : k ≤ 4000000) : n < BIG := by
  have := pow_le_pow_ (B := 65536) (by omega) hk
  rw [BIG_eq]; omega
theorem pow64 (k : Nat) : (18446744073709551616 : Int) ^ k = 65536 ^ (4 * k) := by rw [Int.pow_mul]; rfl
theorem lt_BIG64 {n : Int} (k : Nat) (h : n < 18446744073709551616 ^ k) (hk : k ≤ 1000000) : n < BIG := by
  rw [pow64] at h; exact lt_BIG (4 * k) h (by omega)
theorem word_BIG {n : Int} (h : n < 18446744073709551616) : n < BIG := lt_BIG64 1 (by simpa using h) (by omega)
theorem words_BIG {xs : List Int} (hd : DG 18446744073709551616 xs) (hl : xs.length ≤ 1000000) : val 18446744073709551616 xs < BIG := lt_BIG64 _ (val_lt (by omega) hd) hl
theorem len_BIG {xs : List Int} (hd : DG 65536 xs) (hz : NZ xs) (h : val 65536 xs < BIG) : xs.length ≤ 4000000 := len_le (by omega) hd hz (by rwa [BIG_eq] at h)

theorem len_BIG64 {xs : List Int} (hd : DG 18446744073709551616 xs) (hz : NZ xs) (h : val 18446744073709551616 xs < BIG) : xs.length ≤ 1000000 :=
  len_le (by omega) hd hz (by rw [pow64]; rw [BIG_eq] at h; exact h)

/-- one digit of a product -/
theorem mul_step {B c x y z V X : Int} {k i : Nat} (h : V + B ^ (i + k) * c = X) :
    V + B ^ (i + k) * ((c + (z + x * y)) % B - z) + B ^ (i + (k + 1)) * ((c + (z + x * y)) / B) = X + B ^ i * (x * (B ^ k * y)) := by
  have e := Int.emod_add_mul_ediv (c + (z + x * y)) B
  have e2 : B ^ (i + k) * ((c + (z + x * y)) % B) + B ^ (i + (k + 1)) * ((c + (z + x * y)) / B) = B ^ (i + k) * (c + (z + x * y)) := by
    rw [← Nat.add_assoc, Int.pow_succ, Int.mul_assoc, ← Int.mul_add, e]
  rw [Int.pow_add] at *
  grind
theorem mul_le_of {x y a b : Int} (hx0 : 0 ≤ x) (hxa : x ≤ a) (hy0 : 0 ≤ y) (hyb : y ≤ b) : 0 ≤ x * y ∧ x * y ≤ a * b :=
  ⟨Int.mul_nonneg hx0 hy0, Int.mul_le_mul hxa hyb hy0 (by omega)⟩

/-- one digit of a sum -/
theorem add_step {B c x y X Y R : Int} {k : Nat} (h : R + B ^ k * c = X + Y) : R + B ^ k * ((c + x + y) % B) + B ^ (k + 1) * ((c + x + y) / B) = X + B ^ k * x + (Y + B ^ k * y) := by
  have e := Int.emod_add_mul_ediv (c + x + y) B
  have e2 : B ^ k * ((c + x + y) % B) + B ^ (k + 1) * ((c + x + y) / B) = B ^ k * (c + x + y) := by
    rw [Int.pow_succ, Int.mul_assoc, ← Int.mul_add, e]
  grind

end Go.Big
