import Derived.Test.YbulkabocRows
import Derived.WalkKit
import Derived.WalkSpells
import Derived.Deep.QuietTactic
import Derived.BigQuiet
import Derived.LaidEqlPtr
namespace Go.Proofs.Ybulkaboc
open Go.ChangeShapes Go.WideShapes Go.RowKit
set_option linter.unusedVariables false

theorem neq_nil (w : World) : Sem.run Yba.prog (binOp .neq 1 .nilFunc .nilFunc) w = .ok (.bool false) w := by kernel_rfl
theorem neq_fn (f : Fn) (a b : Array Value) (w : World) : Sem.run Yba.prog (binOp .neq 1 (.func f a b) .nilFunc) w = .ok (.bool true) w := by kernel_rfl
theorem assert38 (v : Value) (w : World) : (Instr.typeAssert (.iface 38 v) 29 38 true).run Yba.prog w = .ok (.tuple #[v, .bool true]) w := by kernel_rfl
theorem assert40 (v : Value) (w : World) : (Instr.typeAssert (.iface 40 v) 29 40 true).run Yba.prog w = .ok (.tuple #[v, .bool true]) w := by kernel_rfl
theorem eql32 (A : Addr) (w : World) : Sem.run Yba.prog (binOp .eql 32 (.pointer (some A)) (.pointer (some A))) w = .ok (.bool true) w := by
  obtain ⟨j, hj⟩ : ∃ j, Yba.prog.info? 3 = some j := Option.isSome_iff_exists.1 (by kernel_rfl)
  exact run_eql_ptr_same w A Yba.underlying32 hj
theorem eql34 (A : Addr) (w : World) : Sem.run Yba.prog (binOp .eql 34 (.pointer (some A)) (.pointer (some A))) w = .ok (.bool true) w := by
  obtain ⟨j, hj⟩ : ∃ j, Yba.prog.info? 22 = some j := Option.isSome_iff_exists.1 (by kernel_rfl)
  exact run_eql_ptr_same w A Yba.underlying34 hj
attribute [local go_sem] eql32 eql34 neq_nil neq_fn assert38 assert40

set_option maxRecDepth 100000 in
set_option maxHeartbeats 800000 in
theorem count_ok (nm us : ByteArray) (A : Addr) (least : Int) (w : World) :
    Calls Yba.prog 6 #[.agg #[.string nm, .string us, .iface 38 (.agg #[.pointer (some A), .int .i64 least]), .nilFunc], .string nm, .pointer (some A), .int .i64 least] w fun e w' => e = .returned (.bool true) ∧ Below w.heap.size w w' := by
  go_enter Yba.func6, Yba.ntmps6
  go_wp2
  go_ret
  exact ⟨by simp, ((Below.refl _ _).alloc (Nat.le_refl _) _).alloc (by simp) _⟩

set_option maxRecDepth 100000 in
set_option maxHeartbeats 800000 in
theorem dur_ok (nm us : ByteArray) (A : Addr) (w : World) :
    Calls Yba.prog 7 #[.agg #[.string nm, .string us, .iface 40 (.agg #[.pointer (some A)]), .nilFunc], .string nm, .pointer (some A), .bool false] w fun e w' => e = .returned (.bool true) ∧ Below w.heap.size w w' := by
  go_enter Yba.func7, Yba.ntmps7
  go_wp2
  go_ret
  exact ⟨by simp, ((Below.refl _ _).alloc (Nat.le_refl _) _).alloc (by simp) _⟩

set_option maxRecDepth 100000 in
set_option maxHeartbeats 800000 in
theorem durf_ok (nm us : ByteArray) (A : Addr) (f : Fn) (x y : Array Value) (w : World) :
    Calls Yba.prog 7 #[.agg #[.string nm, .string us, .iface 40 (.agg #[.pointer (some A)]), .func f x y], .string nm, .pointer (some A), .bool true] w fun e w' => e = .returned (.bool true) ∧ Below w.heap.size w w' := by
  go_enter Yba.func7, Yba.ntmps7
  go_wp2
  go_ret
  exact ⟨by simp, ((Below.refl _ _).alloc (Nat.le_refl _) _).alloc (by simp) _⟩
end Go.Proofs.Ybulkaboc
