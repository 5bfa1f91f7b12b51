/-
  The runtime's sum, difference, product, order and equality of two durations (of a duration and a whole number): each as of the numbers.
  Conditions: none.
-/
import Derived.Test.YtlikpgneihjmcaaAny
namespace Go.Proofs.Ytlikpgneihjmcaa
open Go.RowKit

/-- A duration is asked for another type, and for its own; a whole number likewise. -/
@[go_sem] theorem asD_5 (v : Value) (w : World) : (Instr.typeAssert (.iface 44 v) 20 5 true).run Try.prog w = .ok (.tuple #[.int .u8 0, .bool false]) w := by kernel_rfl
@[go_sem] theorem asD_3 (v : Value) (w : World) : (Instr.typeAssert (.iface 44 v) 20 3 true).run Try.prog w = .ok (.tuple #[.int .i64 0, .bool false]) w := by kernel_rfl
@[go_sem] theorem asD_23 (v : Value) (w : World) : (Instr.typeAssert (.iface 44 v) 20 23 true).run Try.prog w = .ok (.tuple #[.float .f64 0, .bool false]) w := by kernel_rfl
@[go_sem] theorem asD_9 (v : Value) (w : World) : (Instr.typeAssert (.iface 44 v) 20 9 true).run Try.prog w = .ok (.tuple #[.string ⟨#[]⟩, .bool false]) w := by kernel_rfl
@[go_sem] theorem asD_45 (v : Value) (w : World) : (Instr.typeAssert (.iface 44 v) 20 45 true).run Try.prog w = .ok (.tuple #[.slice none 0 0, .bool false]) w := by kernel_rfl
@[go_sem] theorem asD_46 (v : Value) (w : World) : (Instr.typeAssert (.iface 44 v) 20 46 true).run Try.prog w = .ok (.tuple #[.slice none 0 0, .bool false]) w := by kernel_rfl
@[go_sem] theorem asD_47 (v : Value) (w : World) : (Instr.typeAssert (.iface 44 v) 20 47 true).run Try.prog w = .ok (.tuple #[.slice none 0 0, .bool false]) w := by kernel_rfl
@[go_sem] theorem asD_48 (v : Value) (w : World) : (Instr.typeAssert (.iface 44 v) 20 48 true).run Try.prog w = .ok (.tuple #[.slice none 0 0, .bool false]) w := by kernel_rfl
@[go_sem] theorem asD_44 (v : Value) (w : World) : (Instr.typeAssert (.iface 44 v) 20 44 true).run Try.prog w = .ok (.tuple #[v, .bool true]) w := by kernel_rfl
@[go_sem] theorem asI_5 (v : Value) (w : World) : (Instr.typeAssert (.iface 3 v) 20 5 true).run Try.prog w = .ok (.tuple #[.int .u8 0, .bool false]) w := by kernel_rfl
@[go_sem] theorem asI_3 (v : Value) (w : World) : (Instr.typeAssert (.iface 3 v) 20 3 true).run Try.prog w = .ok (.tuple #[v, .bool true]) w := by kernel_rfl

set_option maxHeartbeats 1000000 in
set_option maxRecDepth 100000 in
theorem add_spans (a b : Int) (w : World) :
    Calls Try.prog 13 #[.iface 44 (.int .i64 a), .iface 44 (.int .i64 b)] w fun e w' => e = .returned (.iface 44 (.int .i64 (wrap64 (a + b)))) ∧ Below w.heap.size w w' := by
  go_enter Try.func13, Try.ntmps13
  go_wp2
  go_ret
  exact ⟨rfl, Below.refl _ _⟩

set_option maxHeartbeats 1000000 in
set_option maxRecDepth 100000 in
theorem sub_spans (a b : Int) (w : World) :
    Calls Try.prog 15 #[.iface 44 (.int .i64 a), .iface 44 (.int .i64 b)] w fun e w' => e = .returned (.iface 44 (.int .i64 (wrap64 (a - b)))) ∧ Below w.heap.size w w' := by
  go_enter Try.func15, Try.ntmps15
  go_wp2
  go_ret
  exact ⟨rfl, Below.refl _ _⟩

set_option maxHeartbeats 1000000 in
set_option maxRecDepth 100000 in
theorem mul_span (a b : Int) (w : World) :
    Calls Try.prog 17 #[.iface 44 (.int .i64 a), .iface 3 (.int .i64 b)] w fun e w' => e = .returned (.iface 44 (.int .i64 (wrap64 (a * b)))) ∧ Below w.heap.size w w' := by
  go_enter Try.func17, Try.ntmps17
  go_wp2
  go_ret
  exact ⟨rfl, Below.refl _ _⟩

set_option maxHeartbeats 1000000 in
set_option maxRecDepth 100000 in
theorem less_spans (a b : Int) (w : World) :
    Calls Try.prog 19 #[.iface 44 (.int .i64 a), .iface 44 (.int .i64 b)] w fun e w' => e = .returned (.bool (decide (a < b))) ∧ Below w.heap.size w w' := by
  go_enter Try.func19, Try.ntmps19
  go_wp2
  go_ret
  exact ⟨rfl, Below.refl _ _⟩

set_option maxHeartbeats 1000000 in
set_option maxRecDepth 100000 in
theorem same_spans (a b : Int) (w : World) :
    Calls Try.prog 21 #[.iface 44 (.int .i64 a), .iface 44 (.int .i64 b)] w fun e w' => e = .returned (.bool (a == b)) ∧ Below w.heap.size w w' := by
  go_enter Try.func21, Try.ntmps21
  go_wp2
  go_ret
  exact ⟨rfl, Below.refl _ _⟩

end Go.Proofs.Ytlikpgneihjmcaa
