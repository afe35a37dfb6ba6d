/-
  Several rows of one's own, each in a block apart, and an append to one of them. Conditions: none (each theorem bears its own).
-/
import Derived.Test.YtjapebgihnahjaaOps
set_option linter.unusedSimpArgs false
set_option linter.unusedVariables false
namespace Go.Big
open Go.RowKit
def Disj (v u : Value) : Prop := ∀ g, v.ownBlock = some g → u.ownBlock ≠ some g
theorem Disj.symm {v u : Value} (h : Disj v u) : Disj u v := fun g hu hv => h g hv hu
theorem Disj.nil (u : Value) : Disj (.slice none 0 0) u := fun g h => by simp [Value.ownBlock] at h
/-- rows of one's own, all apart -/
def Hold (k : IntKind) (T : TypeId) (w0 w : World) (L : List (Value × List Int)) : Prop :=
  ∀ (i : Nat) (p : Value × List Int), L[i]? = some p → Own k T w0 w p.1 p.2 ∧ ∀ (j : Nat) (q : Value × List Int), L[j]? = some q → i ≠ j → Disj p.1 q.1
section
variable {P : Program} {ops : Array Oper} {rest : List Oper} {o : Oper} {a : Act} {Q : Exit → Act → World → Prop}
/-- 'append(out, y)': the new row is the old one's block or a new block -/
theorem run_app1_block (w : World) (t ty T : TypeId) (i : TypeInfo) (k : IntKind) (bytes : Nat) (ht : P.underlying t = some (.slice T)) (hi : P.info? T = some i) (hz : i.zero = some (.int k 0)) (hsz : i.size = 1) (hb : i.bytes = bytes) (hby : bytes ≤ 8)
    (w0 : World) (v : Value) (xs : List Int) (hown : Own k T w0 w v xs) (A : Addr) (c : Nat) (y : Int) (hcell : ∀ j u, [Value.int k y][j]? = some u → w.cell? (A.add j) = some u) (hlen : xs.length < 1099511627776) {v' : Value} {w' : World}
    (hr : (Builtin.append_ #[t, t] ty #[v, .slice (some A) 1 c]).run P w = .ok v' w') : v'.ownBlock = v.ownBlock ∨ v'.ownBlock = some w.heap.size := by
  obtain ⟨hl, h⟩ := hown
  rcases h with ⟨rfl, hn⟩ | ⟨g, cap, cur, rfl, hbg, hg, hnc, hcm, hcs, htake⟩
  · have e := run_append_nil (P := P) w t ty T i (.int k 0) ht hi hz A 1 c [.int k y] (by rw [hsz]; rfl) hcell (by omega) (by omega) (by omega)
    rw [e] at hr
    injection hr with h1 h2
    right; rw [← h1]; rfl
  · by_cases hroom : xs.length + 1 ≤ cap
    · have e := run_append_room (P := P) w t ty T i ht hi g xs.length cap cur hg A 1 c [.int k y] (by rw [hsz]; rfl) hcell (by intro u hu; simp at hu; subst hu; rfl) hroom (by rw [hsz, hcs]; simp; omega)
      rw [e] at hr
      injection hr with h1 h2
      left; rw [← h1]; rfl
    · have hown' : w.ownsRow w0.heap.size T 1 (.slice (some ⟨g, 0, none⟩) xs.length cap) xs.length (xs.map (Value.int k)) := ⟨hl, .inr ⟨g, cap, cur, rfl, hbg, hg, hnc, hcm, hcs, htake⟩⟩
      have holds := World.ownsRow.cells hown' (g := g) rfl
      have hbb : (xs.length + 1) * i.bytes ≤ 140737488355328 := by
        have : (xs.length + 1) * bytes ≤ 1099511627776 * 8 := Nat.mul_le_mul (by omega) hby
        rw [hb]; omega
      have e := run_append_grow (P := P) w t ty T i (.int k 0) ht hi hz ⟨g, 0, none⟩ xs.length cap (xs.map (Value.int k)) (by rw [hsz]; exact hl) holds A 1 c [.int k y] (by rw [hsz]; rfl) hcell (by omega) (by omega) (growslice_fits (by omega) hbb)
      rw [e] at hr
      injection hr with h1 h2
      right; rw [← h1]; rfl
/-- 'append(out, y)' to the i-th of several rows -/
theorem wp_apph {w : World} (hgd : o.guard = none) (s x : Operand) (t : TypeId) (ho : o.op = .call { callee := .builtin .append, args := #[s, x], argTypes := #[t, t] })
    (k : IntKind) (T : TypeId) (bytes : Nat) (ht : IntTy P k t T bytes) (hby : bytes ≤ 8) (w0 : World) (S : List Nat) (L : List (Value × List Int)) (i : Nat) (v : Value) (xs : List Int) (y : Int)
    (hs : a.eval s = v) (hL : L[i]? = some (v, xs)) (hown : Hold k T w0 w L) (hf : Fr S w0 w) (hx : a.eval x = .slice (some ⟨w.heap.size, 0, none⟩) 1 1) (hlen : xs.length < 1099511627776)
    (h : ∀ v' w', Hold k T w0 w' (L.set i (v', xs ++ [y])) → Fr S w0 w' → wpList P ops Q rest (a.put o.dst v') w') :
    wpList P ops Q (o :: rest) a (w.alloc (.cells #[.int k y] T)) := by
  obtain ⟨ht, hinfo⟩ := ht
  obtain ⟨ti, hi, hz, hsz, hb⟩ := info_parts hinfo
  refine wpList_plain hgd fun K hK => ?_
  obtain ⟨hov, hdv⟩ := hown i _ hL
  have hcell : ∀ j u, [Value.int k y][j]? = some u → (w.alloc (.cells #[.int k y] T)).cell? ((⟨w.heap.size, 0, none⟩ : Addr).add j) = some u := by
    intro j u hj
    rcases Nat.eq_zero_or_pos j with rfl | hp
    · simp at hj; subst hj; rw [show (⟨w.heap.size, 0, none⟩ : Addr).add 0 = ⟨w.heap.size, 0, none⟩ from rfl, World.cell?_alloc_at _ _ _ _ rfl]; rfl
    · rw [List.getElem?_eq_none (by simp; omega)] at hj; cases hj
  have hbb : (xs.length + 1) * bytes ≤ 140737488355328 := by
    have : (xs.length + 1) * bytes ≤ 1099511627776 * 8 := Nat.mul_le_mul (by omega) hby
    omega
  have hova := Own.alloc hov (.cells #[.int k y] T)
  obtain ⟨v', w', hr, h2, h3, _⟩ := run_append_own (P := P) (w.alloc (.cells #[.int k y] T)) w0.heap.size t o.type T ti (.int k 0) 1 bytes ht hi hz hsz hb rfl (by omega) v xs.length (xs.map (Value.int k)) hova _ 1 1 [.int k y] rfl hcell
    (by intro u hu; simp at hu; subst hu; rfl) (by unfold maxLen; omega) hbb (Nat.le_trans hf.size (by simp))
  have hblk := run_app1_block (P := P) (w.alloc (.cells #[.int k y] T)) t o.type T ti k bytes ht hi hz hsz hb hby w0 v xs hova _ 1 y hcell hlen hr
  have hh := h v' w' ?_ (grown_fr (hf.alloc _) hova h3)
  · unfold Oper.wp execOp
    simp only [ho, resolve, invoke, builtin, Sem.run_bind, Sem.run_pure, Result.andThen_ok, List.map_toArray, List.map_cons, List.map_nil, hs, hx, hr]
    exact hK _ _ hh
  · have hnew : ∀ j q, L[j]? = some q → i ≠ j → Own k T w0 w' q.1 q.2 ∧ Disj v' q.1 := by
      intro j q hq hij
      obtain ⟨hoq, _⟩ := hown j q hq
      have hd := hdv j q hq hij
      refine ⟨World.ownsRow.kept (Own.alloc hoq _) h3 ?_, ?_⟩
      · cases hv : q.1.ownBlock with
        | none => left; rfl
        | some g => right; intro e; exact hd g e.symm hv
      · intro g hg hqg
        have hlt := (World.ownsRow.lt hoq g hqg).2
        rcases hblk with e | e
        · exact hd g (by rw [← e]; exact hg) hqg
        · rw [e] at hg
          injection hg with hg
          simp at hg
          omega
    intro j p hp
    rw [List.getElem?_set] at hp
    by_cases hij : i = j
    · subst hij
      rw [if_pos rfl] at hp
      split at hp
      · injection hp with hp
        subst hp
        refine ⟨?_, fun m q hq hm => ?_⟩
        · unfold Own; simpa using h2
        · rw [List.getElem?_set, if_neg hm] at hq
          exact (hnew m q hq hm).2
      · cases hp
    · rw [if_neg hij] at hp
      refine ⟨(hnew j p hp hij).1, fun m q hq hm => ?_⟩
      rw [List.getElem?_set] at hq
      by_cases him : i = m
      · subst him
        rw [if_pos rfl] at hq
        split at hq
        · injection hq with hq
          subst hq
          exact (hnew j p hp hij).2.symm
        · cases hq
      · rw [if_neg him] at hq
        exact (hown j p hp).2 m q hq hm
end
end Go.Big
