/-
  scanSign and nat.scan over a strings.Reader. Conditions: the reader's cells; io.EOF and errNoDigits read as laid.
-/
import Derived.Test.YtbepihdlaidikaaDoorScR
import Derived.Test.YtbepihdlaidikaaDoorScP
import Derived.LaidEql
set_option linter.unusedSimpArgs false
set_option linter.unusedVariables false
namespace Go.Proofs.YtbepihdlaidikaaDoor
open Go.Big Go.RowKit
theorem err_info : ∃ i j, Tryd.prog.info? 92 = some i ∧ i.comparable = true ∧ Tryd.prog.info? 109 = some j := by
  have h1 : (Tryd.prog.info? 92).map (·.comparable) = some true := by kernel_rfl
  have h2 : (Tryd.prog.info? 109).map (·.comparable) = some true := by kernel_rfl
  cases e : Tryd.prog.info? 92 with
  | none => rw [e] at h1; cases h1
  | some i =>
    cases e' : Tryd.prog.info? 109 with
    | none => rw [e'] at h2; cases h2
    | some j => rw [e] at h1; exact ⟨i, j, rfl, by simpa using h1, rfl⟩
/-- io.EOF compared with itself and with nil -/
theorem eof_eql (a : Addr) (w : World) : (binOp .eql 53 (.iface 92 (.pointer (some a))) (.iface 92 (.pointer (some a)))).run Tryd.prog w = .ok (.bool true) w := by
  obtain ⟨i, j, h1, h2, h3⟩ := err_info
  exact run_eql_iface_ptr_same w a Tryd.underlying53 Tryd.underlying92 h1 h2 h3
theorem eof_neq (a : Addr) (w : World) : (binOp .neq 53 (.iface 92 (.pointer (some a))) (.iface 92 (.pointer (some a)))).run Tryd.prog w = .ok (.bool false) w := by
  obtain ⟨i, j, h1, h2, h3⟩ := err_info
  simp only [binOp]
  simp [Op.equal, Op.maxDepth, run_equalIn_iface_ptr_same w 9998 a Tryd.underlying53 Tryd.underlying92 h1 h2 h3]
theorem nil_eql (T : TypeId) (v : Value) (w : World) : (binOp .eql 53 .nilIface (.iface T v)).run Tryd.prog w = .ok (.bool false) w :=
  run_eql_iface_nil_left w T v Tryd.underlying53
theorem nil_neq (T : TypeId) (v : Value) (w : World) : (binOp .neq 53 .nilIface (.iface T v)).run Tryd.prog w = .ok (.bool true) w := by
  have h : ∀ d : Nat, (Op.equalIn (d + 1) 53 .nilIface (.iface T v)).run Tryd.prog w = .ok false w := fun d => by simp [Op.equalIn, run_underlying Tryd.underlying53]
  simp only [binOp]
  simp [Op.equal, Op.maxDepth, h 9999]
theorem rd_method (a : Addr) (w : World) : (method 211 44 (.pointer (some a)) "ReadByte").run Tryd.prog w = .ok (63, .pointer (some a)) w := by kernel_rfl
theorem rd_call (args : Array Value) (w : World) : (callFunc 63 args).run Tryd.prog w = .ok (.enter 63 args) w := by kernel_rfl
theorem un_method (a : Addr) (w : World) : (method 211 44 (.pointer (some a)) "UnreadByte").run Tryd.prog w = .ok (64, .pointer (some a)) w := by kernel_rfl
theorem un_call (args : Array Value) (w : World) : (callFunc 64 args).run Tryd.prog w = .ok (.enter 64 args) w := by kernel_rfl
set_option maxRecDepth 100000 in
/-- no sign ahead -/
theorem scanSign_any {w : World} {p : Nat} {s : ByteArray} {pr : Int} (h : RdAt w p s 0 pr) (hs0 : 0 < s.size) (hs : s.size ≤ 1000000) (h1 : byteAt s 0 ≠ 43) (h2 : byteAt s 0 ≠ 45) :
    Calls Tryd.prog 20 #[.iface 44 (.pointer (some ⟨p, 0, none⟩))] w fun e w' => e = .returned (.tuple #[.bool false, .nilIface]) ∧ RdAt w' p s 0 (-1) ∧ Fr [p] w w' := by
  have CR := Lib.hid (readByte_in h hs0 hs)
  obtain ⟨c, hc⟩ : ∃ x, x = byteAt s 0 := ⟨_, rfl⟩
  rw [← hc] at CR h1 h2
  have h1b : (c == 43) = false := by rw [beq_eq_false_iff_ne]; exact h1
  have h2b : (c == 45) = false := by rw [beq_eq_false_iff_ne]; exact h2
  have hm1 := rd_method
  have hm2 := rd_call
  have hm3 := un_method
  have hm4 := un_call
  have CU := Lib.hid (fun (W : World) (pr' : Int) (h : RdAt W p s 1 pr') => unreadByte_any h (by omega))
  clear h hc
  go_enter Tryd.func20, Tryd.ntmps20
  go_wp2_with (go_at_call 63; refine (CR.out).mono ?_; rintro e w1 ⟨rfl, hr, hf⟩; have HR := Lib.hid hr; have HF := Lib.hid hf; clear hr hf)
  go_wp2_with (go_at_call 64; refine (CU.out _ _ HR.out).mono ?_; rintro e w2 ⟨rfl, hr, hf⟩; have HR2 := Lib.hid hr; have HF2 := Lib.hid hf; clear hr hf)
  go_ret2
  exact ⟨rfl, HR2.out, HF.out.trans HF2.out (fun x hx _ => hx)⟩
end Go.Proofs.YtbepihdlaidikaaDoor
