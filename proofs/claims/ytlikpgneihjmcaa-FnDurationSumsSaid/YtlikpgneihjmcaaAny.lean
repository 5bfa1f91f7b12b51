/-
  How the doors take a duration and a whole number in: pdSpan, Value.any, given2, given.
  Conditions: none.
-/
import Derived.Test.YtlikpgneihjmcaaProg
import Derived.WalkKit
import Derived.WalkLawsBesides
import Derived.WalkSpells
import Derived.Lib.Hide
namespace Go.Proofs.Ytlikpgneihjmcaa
open Go.RowKit

/-- A store of a float. -/
@[go_sem] theorem run_store_float {P : Program} {w : World} {a : Addr} {m : Mode} (k : FloatKind) (x : _) : (store a (.float k x) m).run P w = stored P w a (.float k x) m := run_store P w a _ m rfl

set_option maxRecDepth 100000 in
/-- pdSpan: the duration. -/
theorem span_any (a : Int) (w : World) :
    Calls Try.prog 5 #[.int .i64 a] w fun e w' => e = .returned (.agg #[.int .i64 25, .int .i64 a, .int .u64 0, .float .f64 0, .string ⟨#[]⟩, .bool false, .slice none 0 0, .slice none 0 0]) ∧ Below w.heap.size w w' := by
  go_enter Try.func5, Try.ntmps5
  go_wp2
  exact bodyPost_ret (v := .agg #[.int .i64 25, .int .i64 a, .int .u64 0, .float .f64 0, .string ⟨#[]⟩, .bool false, .slice none 0 0, .slice none 0 0]) (by simp [results, Try.results5, go_sem]) rfl ⟨rfl, (Below.refl _ _).alloc (Nat.le_refl _) _⟩

set_option maxRecDepth 100000 in
/-- Value.any of a duration. -/
theorem any_span (a : Int) (w : World) :
    Calls Try.prog 26 #[.agg #[.int .i64 25, .int .i64 a, .int .u64 0, .float .f64 0, .string ⟨#[]⟩, .bool false, .slice none 0 0, .slice none 0 0]] w fun e w' => e = .returned (.tuple #[.iface 44 (.int .i64 a), .bool true]) ∧ Below w.heap.size w w' := by
  go_enter Try.func26, Try.ntmps26
  go_wp2
  go_ret2
  exact ⟨rfl, (Below.refl _ _).alloc (Nat.le_refl _) _⟩

set_option maxRecDepth 100000 in
/-- Value.any of a whole number. -/
theorem any_num (a : Int) (w : World) :
    Calls Try.prog 26 #[.agg #[.int .i64 1, .int .i64 a, .int .u64 0, .float .f64 0, .string ⟨#[]⟩, .bool false, .slice none 0 0, .slice none 0 0]] w fun e w' => e = .returned (.tuple #[.iface 3 (.int .i64 a), .bool true]) ∧ Below w.heap.size w w' := by
  go_enter Try.func26, Try.ntmps26
  go_wp2
  go_ret2
  exact ⟨rfl, (Below.refl _ _).alloc (Nat.le_refl _) _⟩

set_option maxHeartbeats 1000000 in
set_option maxRecDepth 100000 in
/-- given2 of a duration. -/
theorem given2_span (a : Int) (b : Nat) (w : World) (hc : w.cell? ⟨b, 0, none⟩ = some (.int .i64 3000)) (hf : w.frozen? ⟨b, 0, none⟩ = false) (hb : b < w.heap.size) :
    Calls Try.prog 22 #[.agg #[.int .i64 25, .int .i64 a, .int .u64 0, .float .f64 0, .string ⟨#[]⟩, .bool false, .slice none 0 0, .slice none 0 0], .int .i64 30, .pointer (some ⟨b, 0, none⟩)] w fun e w' => e = .returned (.tuple #[.iface 44 (.int .i64 a), .bool true]) ∧ Below b w w' := by
  go_enter Try.func22, Try.ntmps22
  go_wp2_with fail
  refine (any_span a _).mono ?_
  rintro e w1 ⟨rfl, hb1⟩
  go_wp2_with fail
  go_ret2
  exact ⟨rfl, (((Below.refl b w).setCell (Nat.le_refl _) _).alloc (by simp; omega) _).trans (hb1.mono (by simp; omega))⟩

set_option maxHeartbeats 1000000 in
set_option maxRecDepth 100000 in
/-- given of a duration. -/
theorem given_span (a : Int) (w : World) :
    Calls Try.prog 11 #[.agg #[.int .i64 25, .int .i64 a, .int .u64 0, .float .f64 0, .string ⟨#[]⟩, .bool false, .slice none 0 0, .slice none 0 0]] w fun e w' => e = .returned (.tuple #[.iface 44 (.int .i64 a), .bool true]) ∧ Below w.heap.size w w' := by
  go_enter Try.func11, Try.ntmps11
  go_wp2_with fail
  refine (given2_span a (w.heap.size + 1) _ (by simp [go_sem]) (by simp [go_sem]) (by simp)).mono ?_
  rintro e w1 ⟨rfl, hb1⟩
  go_wp2_with fail
  go_ret2
  exact ⟨rfl, (((Below.refl _ w).alloc (Nat.le_refl _) _).alloc (by simp) _).trans (hb1.mono (by omega))⟩

set_option maxHeartbeats 1000000 in
set_option maxRecDepth 100000 in
/-- given2 of a whole number. -/
theorem given2_num (a : Int) (b : Nat) (w : World) (hc : w.cell? ⟨b, 0, none⟩ = some (.int .i64 3000)) (hf : w.frozen? ⟨b, 0, none⟩ = false) (hb : b < w.heap.size) :
    Calls Try.prog 22 #[.agg #[.int .i64 1, .int .i64 a, .int .u64 0, .float .f64 0, .string ⟨#[]⟩, .bool false, .slice none 0 0, .slice none 0 0], .int .i64 30, .pointer (some ⟨b, 0, none⟩)] w fun e w' => e = .returned (.tuple #[.iface 3 (.int .i64 a), .bool true]) ∧ Below b w w' := by
  go_enter Try.func22, Try.ntmps22
  go_wp2_with fail
  refine (any_num a _).mono ?_
  rintro e w1 ⟨rfl, hb1⟩
  go_wp2_with fail
  go_ret2
  exact ⟨rfl, (((Below.refl b w).setCell (Nat.le_refl _) _).alloc (by simp; omega) _).trans (hb1.mono (by simp; omega))⟩

set_option maxHeartbeats 1000000 in
set_option maxRecDepth 100000 in
/-- given of a whole number. -/
theorem given_num (a : Int) (w : World) :
    Calls Try.prog 11 #[.agg #[.int .i64 1, .int .i64 a, .int .u64 0, .float .f64 0, .string ⟨#[]⟩, .bool false, .slice none 0 0, .slice none 0 0]] w fun e w' => e = .returned (.tuple #[.iface 3 (.int .i64 a), .bool true]) ∧ Below w.heap.size w w' := by
  go_enter Try.func11, Try.ntmps11
  go_wp2_with fail
  refine (given2_num a (w.heap.size + 1) _ (by simp [go_sem]) (by simp [go_sem]) (by simp)).mono ?_
  rintro e w1 ⟨rfl, hb1⟩
  go_wp2_with fail
  go_ret2
  exact ⟨rfl, (((Below.refl _ w).alloc (Nat.le_refl _) _).alloc (by simp) _).trans (hb1.mono (by omega))⟩

end Go.Proofs.Ytlikpgneihjmcaa
