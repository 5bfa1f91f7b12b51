/-
  The doors: a sum, a difference, a product, an order and an equality of durations, each without a fault.
  Conditions: none.
-/
import Derived.Test.YtlikpgneihjmcaaDefer
namespace Go.Proofs.Ytlikpgneihjmcaa
open Go.RowKit

/-- Four new blocks, as they lie. -/
theorem four_blocks (w : World) (A B C D : Obj) :
    ((((w.alloc A).alloc B).alloc C).alloc D).heap[w.heap.size + 1]? = some B ∧
    ((((w.alloc A).alloc B).alloc C).alloc D).heap[w.heap.size + 1 + 1]? = some C ∧
    ((((w.alloc A).alloc B).alloc C).alloc D).heap[w.heap.size + 1 + 1 + 1]? = some D ∧
    ((((w.alloc A).alloc B).alloc C).alloc D).heap.size = w.heap.size + 1 + 1 + 1 + 1 ∧
    Below w.heap.size w ((((w.alloc A).alloc B).alloc C).alloc D) := by
  have h1 := new_block (w.alloc A) B
  have h2 := new_block ((w.alloc A).alloc B) C
  have h3 := new_block (((w.alloc A).alloc B).alloc C) D
  simp only [World.size_alloc] at h1 h2 h3
  refine ⟨?_, ?_, h3, by simp, ((((Below.refl _ w).alloc (Nat.le_refl _) _).alloc (by simp) _).alloc (by simp; omega) _).alloc (by simp; omega) _⟩
  · rw [Below.heap_alloc _ _ _ (by simp), Below.heap_alloc _ _ _ (by simp)]; exact h1
  · rw [Below.heap_alloc _ _ _ (by simp)]; exact h2

/-- The cells of a door's value. -/
theorem cells_of {w : World} {b : Nat} {k x : Int} (h : w.heap[b]? = some (.cells #[.int .i64 k, .int .i64 x, .int .u64 0, .float .f64 0, .string ⟨#[]⟩, .bool false, .slice none 0 0, .slice none 0 0] 26 (0, 0))) :
    w.cell? ⟨b, 0, none⟩ = some (.int .i64 k) ∧ w.cell? ⟨b, 1, none⟩ = some (.int .i64 x) ∧ w.cell? ⟨b, 2, none⟩ = some (.int .u64 0) ∧ w.cell? ⟨b, 3, none⟩ = some (.float .f64 0) ∧
    w.cell? ⟨b, 4, none⟩ = some (.string ⟨#[]⟩) ∧ w.cell? ⟨b, 5, none⟩ = some (.bool false) ∧ w.cell? ⟨b, 6, none⟩ = some (.slice none 0 0) ∧ w.cell? ⟨b, 7, none⟩ = some (.slice none 0 0) ∧ (∀ j, w.frozen? ⟨b, j, none⟩ = false) := by
  refine ⟨?_, ?_, ?_, ?_, ?_, ?_, ?_, ?_, Lib.frozen_of_heap h⟩
  all_goals rw [Lib.cell_of_heap h]; rfl

set_option maxHeartbeats 1000000 in
set_option maxRecDepth 100000 in
/-- Add of two durations. -/
theorem door4 (a b : Int) (w : World) :
    Calls Try.prog 4 #[.agg #[.int .i64 25, .int .i64 a, .int .u64 0, .float .f64 0, .string ⟨#[]⟩, .bool false, .slice none 0 0, .slice none 0 0], .agg #[.int .i64 25, .int .i64 b, .int .u64 0, .float .f64 0, .string ⟨#[]⟩, .bool false, .slice none 0 0, .slice none 0 0]] w (Out w (.tuple #[.agg #[.int .i64 25, .int .i64 (wrap64 (a + b)), .int .u64 0, .float .f64 0, .string ⟨#[]⟩, .bool false, .slice none 0 0, .slice none 0 0], .int .i64 0])) := by
  have hmf : ∀ (fn : Fn) (first cap : Array Value) (w : World), (Instr.makeFunc fn first cap).run Try.prog w = .ok (.func fn first cap) w := fun _ _ _ _ => rfl
  go_enter_defers Try.func4, Try.ntmps4
  go_wp2_with fail
  refine (given_span a _).mono ?_
  rintro e w1 ⟨rfl, hb1⟩
  obtain ⟨hB, hC, hD, hs, hbw⟩ := four_blocks w (.cells #[.int .i64 25, .int .i64 a, .int .u64 0, .float .f64 0, .string ⟨#[]⟩, .bool false, .slice none 0 0, .slice none 0 0] 26) (.cells #[.int .i64 25, .int .i64 b, .int .u64 0, .float .f64 0, .string ⟨#[]⟩, .bool false, .slice none 0 0, .slice none 0 0] 26) (.cells #[.int .i64 0, .int .i64 0, .int .u64 0, .float .f64 0, .string ⟨#[]⟩, .bool false, .slice none 0 0, .slice none 0 0] 26) (.cells #[.int .i64 0] 3)
  rw [hs] at hb1
  have hz1 : w.heap.size + 1 + 1 + 1 < w1.heap.size := by have := hb1.size; rw [hs] at this; omega
  obtain ⟨q0, q1, q2, q3, q4, q5, q6, q7, qf⟩ := cells_of ((hb1.block _ (by omega)).trans hB)
  have hC1 := (hb1.block _ (by omega)).trans hC
  have hD1 := (hb1.block _ (by omega)).trans hD
  have hbw1 := hbw.trans (hb1.mono (by omega))
  clear hB hC hD hs hbw hb1
  go_wp2_with fail
  refine (given_span b _).mono ?_
  rintro e w2 ⟨rfl, hb2⟩
  have hz2 : w.heap.size + 1 + 1 + 1 < w2.heap.size := by have := hb2.size; omega
  have hC2 := (hb2.block _ (by omega)).trans hC1
  have hD2 := (hb2.block _ (by omega)).trans hD1
  have hbw2 := hbw1.trans (hb2.mono (by omega))
  clear hC1 hD1 hbw1 hb2 q0 q1 q2 q3 q4 q5 q6 q7 qf
  go_wp2_with fail
  refine (add_spans a b _).mono ?_
  rintro e w3 ⟨rfl, hb3⟩
  have hz3 : w.heap.size + 1 + 1 + 1 < w3.heap.size := by have := hb3.size; omega
  have hC3 := (hb3.block _ (by omega)).trans hC2
  have hD3 := (hb3.block _ (by omega)).trans hD2
  have hbw3 := hbw2.trans (hb3.mono (by omega))
  clear hC2 hD2 hbw2 hb3
  go_wp2_with fail
  refine (told_span _ _).mono ?_
  rintro e w4 ⟨rfl, hb4⟩
  have hz4 : w.heap.size + 1 + 1 + 1 < w4.heap.size := by have := hb4.size; omega
  have hC4 := (hb4.block _ (by omega)).trans hC3
  have hD4 := (hb4.block _ (by omega)).trans hD3
  have hbw4 := hbw3.trans (hb4.mono (by omega))
  clear hC3 hD3 hbw3 hb4 hz1 hz2 hz3
  obtain ⟨q0, q1, q2, q3, q4, q5, q6, q7, qf⟩ := cells_of hC4
  have p0 : w4.cell? ⟨w.heap.size + 1 + 1 + 1, 0, none⟩ = some (.int .i64 0) := by rw [Lib.cell_of_heap hD4]; rfl
  have pf := Lib.frozen_of_heap hD4 0
  clear hC4 hD4
  go_wp2_with fail
  refine leaves_cons (f := 10) (args := #[.pointer (some ⟨w.heap.size + 1 + 1, 0, none⟩), .pointer (some ⟨w.heap.size + 1 + 1 + 1, 0, none⟩)]) (by simp) (by simp [go_sem]) ?_
  refine (idle10 _ _ _).mono ?_
  rintro e u' w'' ⟨rfl, rfl, rfl⟩
  refine ⟨.tuple #[.agg #[.int .i64 25, .int .i64 (wrap64 (a + b)), .int .u64 0, .float .f64 0, .string ⟨#[]⟩, .bool false, .slice none 0 0, .slice none 0 0], .int .i64 0], by simp [results, Try.results4, go_sem, q0, q1, q2, q3, q4, q5, q6, q7, p0], rfl, ?_⟩
  exact ((((((((hbw4.setCell (by simp; omega) _).setCell (by simp; omega) _).setCell (by simp; omega) _).setCell (by simp; omega) _).setCell (by simp; omega) _).setCell (by simp; omega) _).setCell (by simp; omega) _).setCell (by simp; omega) _).setCell (by simp; omega) _

set_option maxHeartbeats 1000000 in
set_option maxRecDepth 100000 in
/-- Subtract of two durations. -/
theorem door6 (a b : Int) (w : World) :
    Calls Try.prog 6 #[.agg #[.int .i64 25, .int .i64 a, .int .u64 0, .float .f64 0, .string ⟨#[]⟩, .bool false, .slice none 0 0, .slice none 0 0], .agg #[.int .i64 25, .int .i64 b, .int .u64 0, .float .f64 0, .string ⟨#[]⟩, .bool false, .slice none 0 0, .slice none 0 0]] w (Out w (.tuple #[.agg #[.int .i64 25, .int .i64 (wrap64 (a - b)), .int .u64 0, .float .f64 0, .string ⟨#[]⟩, .bool false, .slice none 0 0, .slice none 0 0], .int .i64 0])) := by
  have hmf : ∀ (fn : Fn) (first cap : Array Value) (w : World), (Instr.makeFunc fn first cap).run Try.prog w = .ok (.func fn first cap) w := fun _ _ _ _ => rfl
  go_enter_defers Try.func6, Try.ntmps6
  go_wp2_with fail
  refine (given_span a _).mono ?_
  rintro e w1 ⟨rfl, hb1⟩
  obtain ⟨hB, hC, hD, hs, hbw⟩ := four_blocks w (.cells #[.int .i64 25, .int .i64 a, .int .u64 0, .float .f64 0, .string ⟨#[]⟩, .bool false, .slice none 0 0, .slice none 0 0] 26) (.cells #[.int .i64 25, .int .i64 b, .int .u64 0, .float .f64 0, .string ⟨#[]⟩, .bool false, .slice none 0 0, .slice none 0 0] 26) (.cells #[.int .i64 0, .int .i64 0, .int .u64 0, .float .f64 0, .string ⟨#[]⟩, .bool false, .slice none 0 0, .slice none 0 0] 26) (.cells #[.int .i64 0] 3)
  rw [hs] at hb1
  have hz1 : w.heap.size + 1 + 1 + 1 < w1.heap.size := by have := hb1.size; rw [hs] at this; omega
  obtain ⟨q0, q1, q2, q3, q4, q5, q6, q7, qf⟩ := cells_of ((hb1.block _ (by omega)).trans hB)
  have hC1 := (hb1.block _ (by omega)).trans hC
  have hD1 := (hb1.block _ (by omega)).trans hD
  have hbw1 := hbw.trans (hb1.mono (by omega))
  clear hB hC hD hs hbw hb1
  go_wp2_with fail
  refine (given_span b _).mono ?_
  rintro e w2 ⟨rfl, hb2⟩
  have hz2 : w.heap.size + 1 + 1 + 1 < w2.heap.size := by have := hb2.size; omega
  have hC2 := (hb2.block _ (by omega)).trans hC1
  have hD2 := (hb2.block _ (by omega)).trans hD1
  have hbw2 := hbw1.trans (hb2.mono (by omega))
  clear hC1 hD1 hbw1 hb2 q0 q1 q2 q3 q4 q5 q6 q7 qf
  go_wp2_with fail
  refine (sub_spans a b _).mono ?_
  rintro e w3 ⟨rfl, hb3⟩
  have hz3 : w.heap.size + 1 + 1 + 1 < w3.heap.size := by have := hb3.size; omega
  have hC3 := (hb3.block _ (by omega)).trans hC2
  have hD3 := (hb3.block _ (by omega)).trans hD2
  have hbw3 := hbw2.trans (hb3.mono (by omega))
  clear hC2 hD2 hbw2 hb3
  go_wp2_with fail
  refine (told_span _ _).mono ?_
  rintro e w4 ⟨rfl, hb4⟩
  have hz4 : w.heap.size + 1 + 1 + 1 < w4.heap.size := by have := hb4.size; omega
  have hC4 := (hb4.block _ (by omega)).trans hC3
  have hD4 := (hb4.block _ (by omega)).trans hD3
  have hbw4 := hbw3.trans (hb4.mono (by omega))
  clear hC3 hD3 hbw3 hb4 hz1 hz2 hz3
  obtain ⟨q0, q1, q2, q3, q4, q5, q6, q7, qf⟩ := cells_of hC4
  have p0 : w4.cell? ⟨w.heap.size + 1 + 1 + 1, 0, none⟩ = some (.int .i64 0) := by rw [Lib.cell_of_heap hD4]; rfl
  have pf := Lib.frozen_of_heap hD4 0
  clear hC4 hD4
  go_wp2_with fail
  refine leaves_cons (f := 14) (args := #[.pointer (some ⟨w.heap.size + 1 + 1, 0, none⟩), .pointer (some ⟨w.heap.size + 1 + 1 + 1, 0, none⟩)]) (by simp) (by simp [go_sem]) ?_
  refine (idle14 _ _ _).mono ?_
  rintro e u' w'' ⟨rfl, rfl, rfl⟩
  refine ⟨.tuple #[.agg #[.int .i64 25, .int .i64 (wrap64 (a - b)), .int .u64 0, .float .f64 0, .string ⟨#[]⟩, .bool false, .slice none 0 0, .slice none 0 0], .int .i64 0], by simp [results, Try.results6, go_sem, q0, q1, q2, q3, q4, q5, q6, q7, p0], rfl, ?_⟩
  exact ((((((((hbw4.setCell (by simp; omega) _).setCell (by simp; omega) _).setCell (by simp; omega) _).setCell (by simp; omega) _).setCell (by simp; omega) _).setCell (by simp; omega) _).setCell (by simp; omega) _).setCell (by simp; omega) _).setCell (by simp; omega) _

set_option maxHeartbeats 1000000 in
set_option maxRecDepth 100000 in
/-- Multiply of a duration and a whole number. -/
theorem door7 (a b : Int) (w : World) :
    Calls Try.prog 7 #[.agg #[.int .i64 25, .int .i64 a, .int .u64 0, .float .f64 0, .string ⟨#[]⟩, .bool false, .slice none 0 0, .slice none 0 0], .agg #[.int .i64 1, .int .i64 b, .int .u64 0, .float .f64 0, .string ⟨#[]⟩, .bool false, .slice none 0 0, .slice none 0 0]] w (Out w (.tuple #[.agg #[.int .i64 25, .int .i64 (wrap64 (a * b)), .int .u64 0, .float .f64 0, .string ⟨#[]⟩, .bool false, .slice none 0 0, .slice none 0 0], .int .i64 0])) := by
  have hmf : ∀ (fn : Fn) (first cap : Array Value) (w : World), (Instr.makeFunc fn first cap).run Try.prog w = .ok (.func fn first cap) w := fun _ _ _ _ => rfl
  go_enter_defers Try.func7, Try.ntmps7
  go_wp2_with fail
  refine (given_span a _).mono ?_
  rintro e w1 ⟨rfl, hb1⟩
  obtain ⟨hB, hC, hD, hs, hbw⟩ := four_blocks w (.cells #[.int .i64 25, .int .i64 a, .int .u64 0, .float .f64 0, .string ⟨#[]⟩, .bool false, .slice none 0 0, .slice none 0 0] 26) (.cells #[.int .i64 1, .int .i64 b, .int .u64 0, .float .f64 0, .string ⟨#[]⟩, .bool false, .slice none 0 0, .slice none 0 0] 26) (.cells #[.int .i64 0, .int .i64 0, .int .u64 0, .float .f64 0, .string ⟨#[]⟩, .bool false, .slice none 0 0, .slice none 0 0] 26) (.cells #[.int .i64 0] 3)
  rw [hs] at hb1
  have hz1 : w.heap.size + 1 + 1 + 1 < w1.heap.size := by have := hb1.size; rw [hs] at this; omega
  obtain ⟨q0, q1, q2, q3, q4, q5, q6, q7, qf⟩ := cells_of ((hb1.block _ (by omega)).trans hB)
  have hC1 := (hb1.block _ (by omega)).trans hC
  have hD1 := (hb1.block _ (by omega)).trans hD
  have hbw1 := hbw.trans (hb1.mono (by omega))
  clear hB hC hD hs hbw hb1
  go_wp2_with fail
  refine (given_num b _).mono ?_
  rintro e w2 ⟨rfl, hb2⟩
  have hz2 : w.heap.size + 1 + 1 + 1 < w2.heap.size := by have := hb2.size; omega
  have hC2 := (hb2.block _ (by omega)).trans hC1
  have hD2 := (hb2.block _ (by omega)).trans hD1
  have hbw2 := hbw1.trans (hb2.mono (by omega))
  clear hC1 hD1 hbw1 hb2 q0 q1 q2 q3 q4 q5 q6 q7 qf
  go_wp2_with fail
  refine (mul_span a b _).mono ?_
  rintro e w3 ⟨rfl, hb3⟩
  have hz3 : w.heap.size + 1 + 1 + 1 < w3.heap.size := by have := hb3.size; omega
  have hC3 := (hb3.block _ (by omega)).trans hC2
  have hD3 := (hb3.block _ (by omega)).trans hD2
  have hbw3 := hbw2.trans (hb3.mono (by omega))
  clear hC2 hD2 hbw2 hb3
  go_wp2_with fail
  refine (told_span _ _).mono ?_
  rintro e w4 ⟨rfl, hb4⟩
  have hz4 : w.heap.size + 1 + 1 + 1 < w4.heap.size := by have := hb4.size; omega
  have hC4 := (hb4.block _ (by omega)).trans hC3
  have hD4 := (hb4.block _ (by omega)).trans hD3
  have hbw4 := hbw3.trans (hb4.mono (by omega))
  clear hC3 hD3 hbw3 hb4 hz1 hz2 hz3
  obtain ⟨q0, q1, q2, q3, q4, q5, q6, q7, qf⟩ := cells_of hC4
  have p0 : w4.cell? ⟨w.heap.size + 1 + 1 + 1, 0, none⟩ = some (.int .i64 0) := by rw [Lib.cell_of_heap hD4]; rfl
  have pf := Lib.frozen_of_heap hD4 0
  clear hC4 hD4
  go_wp2_with fail
  refine leaves_cons (f := 16) (args := #[.pointer (some ⟨w.heap.size + 1 + 1, 0, none⟩), .pointer (some ⟨w.heap.size + 1 + 1 + 1, 0, none⟩)]) (by simp) (by simp [go_sem]) ?_
  refine (idle16 _ _ _).mono ?_
  rintro e u' w'' ⟨rfl, rfl, rfl⟩
  refine ⟨.tuple #[.agg #[.int .i64 25, .int .i64 (wrap64 (a * b)), .int .u64 0, .float .f64 0, .string ⟨#[]⟩, .bool false, .slice none 0 0, .slice none 0 0], .int .i64 0], by simp [results, Try.results7, go_sem, q0, q1, q2, q3, q4, q5, q6, q7, p0], rfl, ?_⟩
  exact ((((((((hbw4.setCell (by simp; omega) _).setCell (by simp; omega) _).setCell (by simp; omega) _).setCell (by simp; omega) _).setCell (by simp; omega) _).setCell (by simp; omega) _).setCell (by simp; omega) _).setCell (by simp; omega) _).setCell (by simp; omega) _

set_option maxHeartbeats 1000000 in
set_option maxRecDepth 100000 in
/-- Less of two durations. -/
theorem door8 (a b : Int) (w : World) :
    Calls Try.prog 8 #[.agg #[.int .i64 25, .int .i64 a, .int .u64 0, .float .f64 0, .string ⟨#[]⟩, .bool false, .slice none 0 0, .slice none 0 0], .agg #[.int .i64 25, .int .i64 b, .int .u64 0, .float .f64 0, .string ⟨#[]⟩, .bool false, .slice none 0 0, .slice none 0 0]] w (Out w (.tuple #[.bool (decide (a < b)), .int .i64 0])) := by
  have hmf : ∀ (fn : Fn) (first cap : Array Value) (w : World), (Instr.makeFunc fn first cap).run Try.prog w = .ok (.func fn first cap) w := fun _ _ _ _ => rfl
  go_enter_defers Try.func8, Try.ntmps8
  go_wp2_with fail
  refine (given_span a _).mono ?_
  rintro e w1 ⟨rfl, hb1⟩
  obtain ⟨hB, hC, hD, hs, hbw⟩ := four_blocks w (.cells #[.int .i64 25, .int .i64 a, .int .u64 0, .float .f64 0, .string ⟨#[]⟩, .bool false, .slice none 0 0, .slice none 0 0] 26) (.cells #[.int .i64 25, .int .i64 b, .int .u64 0, .float .f64 0, .string ⟨#[]⟩, .bool false, .slice none 0 0, .slice none 0 0] 26) (.cells #[.bool false] 4) (.cells #[.int .i64 0] 3)
  rw [hs] at hb1
  have hz1 : w.heap.size + 1 + 1 + 1 < w1.heap.size := by have := hb1.size; rw [hs] at this; omega
  obtain ⟨q0, q1, q2, q3, q4, q5, q6, q7, qf⟩ := cells_of ((hb1.block _ (by omega)).trans hB)
  have hC1 := (hb1.block _ (by omega)).trans hC
  have hD1 := (hb1.block _ (by omega)).trans hD
  have hbw1 := hbw.trans (hb1.mono (by omega))
  clear hB hC hD hs hbw hb1
  go_wp2_with fail
  refine (given_span b _).mono ?_
  rintro e w2 ⟨rfl, hb2⟩
  have hz2 : w.heap.size + 1 + 1 + 1 < w2.heap.size := by have := hb2.size; omega
  have hC2 := (hb2.block _ (by omega)).trans hC1
  have hD2 := (hb2.block _ (by omega)).trans hD1
  have hbw2 := hbw1.trans (hb2.mono (by omega))
  clear hC1 hD1 hbw1 hb2 q0 q1 q2 q3 q4 q5 q6 q7 qf
  go_wp2_with fail
  refine (less_spans a b _).mono ?_
  rintro e w3 ⟨rfl, hb3⟩
  have hz3 : w.heap.size + 1 + 1 + 1 < w3.heap.size := by have := hb3.size; omega
  have hC3 := (hb3.block _ (by omega)).trans hC2
  have hD3 := (hb3.block _ (by omega)).trans hD2
  have hbw3 := hbw2.trans (hb3.mono (by omega))
  clear hC2 hD2 hbw2 hb3 hz1 hz2
  have q0 : w3.cell? ⟨w.heap.size + 1 + 1, 0, none⟩ = some (.bool false) := by rw [Lib.cell_of_heap hC3]; rfl
  have qf := Lib.frozen_of_heap hC3 0
  have p0 : w3.cell? ⟨w.heap.size + 1 + 1 + 1, 0, none⟩ = some (.int .i64 0) := by rw [Lib.cell_of_heap hD3]; rfl
  have pf := Lib.frozen_of_heap hD3 0
  clear hC3 hD3
  go_wp2_with fail
  refine leaves_cons (f := 18) (args := #[.pointer (some ⟨w.heap.size + 1 + 1, 0, none⟩), .pointer (some ⟨w.heap.size + 1 + 1 + 1, 0, none⟩)]) (by simp) (by simp [go_sem]) ?_
  refine (idle18 _ _ _).mono ?_
  rintro e u' w'' ⟨rfl, rfl, rfl⟩
  refine ⟨.tuple #[.bool (decide (a < b)), .int .i64 0], by simp [results, Try.results8, go_sem, q0, p0], rfl, ?_⟩
  exact (hbw3.setCell (by simp; omega) _).setCell (by simp; omega) _

set_option maxHeartbeats 1000000 in
set_option maxRecDepth 100000 in
/-- Equal of two durations. -/
theorem door9 (a b : Int) (w : World) :
    Calls Try.prog 9 #[.agg #[.int .i64 25, .int .i64 a, .int .u64 0, .float .f64 0, .string ⟨#[]⟩, .bool false, .slice none 0 0, .slice none 0 0], .agg #[.int .i64 25, .int .i64 b, .int .u64 0, .float .f64 0, .string ⟨#[]⟩, .bool false, .slice none 0 0, .slice none 0 0]] w (Out w (.tuple #[.bool (a == b), .int .i64 0])) := by
  have hmf : ∀ (fn : Fn) (first cap : Array Value) (w : World), (Instr.makeFunc fn first cap).run Try.prog w = .ok (.func fn first cap) w := fun _ _ _ _ => rfl
  go_enter_defers Try.func9, Try.ntmps9
  go_wp2_with fail
  refine (given_span a _).mono ?_
  rintro e w1 ⟨rfl, hb1⟩
  obtain ⟨hB, hC, hD, hs, hbw⟩ := four_blocks w (.cells #[.int .i64 25, .int .i64 a, .int .u64 0, .float .f64 0, .string ⟨#[]⟩, .bool false, .slice none 0 0, .slice none 0 0] 26) (.cells #[.int .i64 25, .int .i64 b, .int .u64 0, .float .f64 0, .string ⟨#[]⟩, .bool false, .slice none 0 0, .slice none 0 0] 26) (.cells #[.bool false] 4) (.cells #[.int .i64 0] 3)
  rw [hs] at hb1
  have hz1 : w.heap.size + 1 + 1 + 1 < w1.heap.size := by have := hb1.size; rw [hs] at this; omega
  obtain ⟨q0, q1, q2, q3, q4, q5, q6, q7, qf⟩ := cells_of ((hb1.block _ (by omega)).trans hB)
  have hC1 := (hb1.block _ (by omega)).trans hC
  have hD1 := (hb1.block _ (by omega)).trans hD
  have hbw1 := hbw.trans (hb1.mono (by omega))
  clear hB hC hD hs hbw hb1
  go_wp2_with fail
  refine (given_span b _).mono ?_
  rintro e w2 ⟨rfl, hb2⟩
  have hz2 : w.heap.size + 1 + 1 + 1 < w2.heap.size := by have := hb2.size; omega
  have hC2 := (hb2.block _ (by omega)).trans hC1
  have hD2 := (hb2.block _ (by omega)).trans hD1
  have hbw2 := hbw1.trans (hb2.mono (by omega))
  clear hC1 hD1 hbw1 hb2 q0 q1 q2 q3 q4 q5 q6 q7 qf
  go_wp2_with fail
  refine (same_spans a b _).mono ?_
  rintro e w3 ⟨rfl, hb3⟩
  have hz3 : w.heap.size + 1 + 1 + 1 < w3.heap.size := by have := hb3.size; omega
  have hC3 := (hb3.block _ (by omega)).trans hC2
  have hD3 := (hb3.block _ (by omega)).trans hD2
  have hbw3 := hbw2.trans (hb3.mono (by omega))
  clear hC2 hD2 hbw2 hb3 hz1 hz2
  have q0 : w3.cell? ⟨w.heap.size + 1 + 1, 0, none⟩ = some (.bool false) := by rw [Lib.cell_of_heap hC3]; rfl
  have qf := Lib.frozen_of_heap hC3 0
  have p0 : w3.cell? ⟨w.heap.size + 1 + 1 + 1, 0, none⟩ = some (.int .i64 0) := by rw [Lib.cell_of_heap hD3]; rfl
  have pf := Lib.frozen_of_heap hD3 0
  clear hC3 hD3
  go_wp2_with fail
  refine leaves_cons (f := 20) (args := #[.pointer (some ⟨w.heap.size + 1 + 1, 0, none⟩), .pointer (some ⟨w.heap.size + 1 + 1 + 1, 0, none⟩)]) (by simp) (by simp [go_sem]) ?_
  refine (idle20 _ _ _).mono ?_
  rintro e u' w'' ⟨rfl, rfl, rfl⟩
  refine ⟨.tuple #[.bool (a == b), .int .i64 0], by simp [results, Try.results9, go_sem, q0, p0], rfl, ?_⟩
  exact (hbw3.setCell (by simp; omega) _).setCell (by simp; omega) _

end Go.Proofs.Ytlikpgneihjmcaa
