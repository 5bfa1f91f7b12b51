/-
  How the doors hand a duration out: valued, told.
  Conditions: none.
-/
import Derived.Test.YtlikpgneihjmcaaOps
import Derived.Lib.Builder
namespace Go.Proofs.Ytlikpgneihjmcaa
open Go.RowKit

set_option maxHeartbeats 1000000 in
set_option maxRecDepth 100000 in
/-- valued of a duration: one step is taken off what is left. -/
theorem valued_span (a : Int) (b : Nat) (w : World) (hc : w.cell? ⟨b, 0, none⟩ = some (.int .i64 40000)) (hf : w.frozen? ⟨b, 0, none⟩ = false) (hb : b < w.heap.size) :
    Calls Try.prog 23 #[.iface 44 (.int .i64 a), .pointer (some ⟨b, 0, none⟩)] w fun e w' => e = .returned (.agg #[.int .i64 25, .int .i64 a, .int .u64 0, .float .f64 0, .string ⟨#[]⟩, .bool false, .slice none 0 0, .slice none 0 0]) ∧ (Below b w w' ∧ w'.cell? ⟨b, 0, none⟩ = some (.int .i64 39999)) := by
  go_enter Try.func23, Try.ntmps23
  go_wp2
  exact bodyPost_ret (v := .agg #[.int .i64 25, .int .i64 a, .int .u64 0, .float .f64 0, .string ⟨#[]⟩, .bool false, .slice none 0 0, .slice none 0 0]) (by simp [results, Try.results23, go_sem]) rfl ⟨rfl, ((Below.refl b w).setCell (Nat.le_refl _) _).alloc (by simp; omega) _, by simp [go_sem, hb, hc]⟩

theorem new_block (w : World) (o : Obj) : (w.alloc o).heap[w.heap.size]? = some o := by
  show (w.heap.push o)[w.heap.size]? = _
  simp

/-- What told hands back. -/
def Out (w : World) (v : Value) (e : Ending) (w' : World) : Prop := e = .returned v ∧ Below w.heap.size w w'

set_option maxHeartbeats 1000000 in
set_option maxRecDepth 100000 in
/-- told of a duration. -/
theorem told_span (a : Int) (w : World) :
    Calls Try.prog 12 #[.iface 44 (.int .i64 a)] w (Out w (.tuple #[.agg #[.int .i64 25, .int .i64 a, .int .u64 0, .float .f64 0, .string ⟨#[]⟩, .bool false, .slice none 0 0, .slice none 0 0], .int .i64 0])) := by
  go_enter Try.func12, Try.ntmps12
  go_wp2_with fail
  refine (valued_span a (w.heap.size + 1) _ (by simp [go_sem]) (by simp [go_sem]) (by simp)).mono ?_
  rintro e w1 ⟨rfl, hb1, hl1⟩
  have hz : w.heap.size + 1 < w1.heap.size := by have := hb1.size; simp at this; omega
  have hz0 : w.heap.size < w1.heap.size := by omega
  have hblk : w1.heap[w.heap.size]? = some (.cells #[.int .i64 0, .int .i64 0, .int .u64 0, .float .f64 0, .string ⟨#[]⟩, .bool false, .slice none 0 0, .slice none 0 0] 26 (0, 0)) := by
    rw [hb1.block _ (by omega), Below.heap_alloc _ _ _ (by simp)]; exact new_block w _
  have hbw : Below w.heap.size w w1 := (((Below.refl _ w).alloc (Nat.le_refl _) _).alloc (by simp) _).trans (hb1.mono (by omega))
  have q0 : w1.cell? ⟨w.heap.size, 0, none⟩ = some (.int .i64 0) := by rw [Lib.cell_of_heap hblk]; rfl
  have q1 : w1.cell? ⟨w.heap.size, 1, none⟩ = some (.int .i64 0) := by rw [Lib.cell_of_heap hblk]; rfl
  have q2 : w1.cell? ⟨w.heap.size, 2, none⟩ = some (.int .u64 0) := by rw [Lib.cell_of_heap hblk]; rfl
  have q3 : w1.cell? ⟨w.heap.size, 3, none⟩ = some (.float .f64 0) := by rw [Lib.cell_of_heap hblk]; rfl
  have q4 : w1.cell? ⟨w.heap.size, 4, none⟩ = some (.string ⟨#[]⟩) := by rw [Lib.cell_of_heap hblk]; rfl
  have q5 : w1.cell? ⟨w.heap.size, 5, none⟩ = some (.bool false) := by rw [Lib.cell_of_heap hblk]; rfl
  have q6 : w1.cell? ⟨w.heap.size, 6, none⟩ = some (.slice none 0 0) := by rw [Lib.cell_of_heap hblk]; rfl
  have q7 : w1.cell? ⟨w.heap.size, 7, none⟩ = some (.slice none 0 0) := by rw [Lib.cell_of_heap hblk]; rfl
  have f0 := Lib.frozen_of_heap hblk 0
  have f1 := Lib.frozen_of_heap hblk 1
  have f2 := Lib.frozen_of_heap hblk 2
  have f3 := Lib.frozen_of_heap hblk 3
  have f4 := Lib.frozen_of_heap hblk 4
  have f5 := Lib.frozen_of_heap hblk 5
  have f6 := Lib.frozen_of_heap hblk 6
  have f7 := Lib.frozen_of_heap hblk 7
  clear hblk hb1
  go_wp2_with fail
  exact bodyPost_ret (v := .tuple #[.agg #[.int .i64 25, .int .i64 a, .int .u64 0, .float .f64 0, .string ⟨#[]⟩, .bool false, .slice none 0 0, .slice none 0 0], .int .i64 0]) (by simp [results, Try.results12, go_sem, q0, q1, q2, q3, q4, q5, q6, q7, hz0]) rfl
    ⟨rfl, ((((((((hbw.setCell (Nat.le_refl _) _).setCell (Nat.le_refl _) _).setCell (Nat.le_refl _) _).setCell (Nat.le_refl _) _).setCell (Nat.le_refl _) _).setCell (Nat.le_refl _) _).setCell (Nat.le_refl _) _).setCell (Nat.le_refl _) _).alloc (by simp; omega) _⟩

end Go.Proofs.Ytlikpgneihjmcaa
