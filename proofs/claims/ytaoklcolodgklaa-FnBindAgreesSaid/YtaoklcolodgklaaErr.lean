/-
  A block that holds an expr error's seven cells: what its cells read, and what stores, new blocks and steps of an iterator leave of it.
  Conditions: none.
-/
import Derived.Test.YtaoklcolodgklaaPlain
import Derived.Lib.OthersKept
namespace Go.Proofs.Ytaoklcolodgklaa
open Go.RowKit

/-- Block b holds an error: the place n, the line l, the column c, the snippet t. -/
def Err (b n l c : Nat) (t : ByteArray) (w : World) : Prop :=
  w.heap[b]? = some (.cells #[.int .i64 n, .int .i64 0, .int .i64 l, .int .i64 c, .string .empty, .string t, .nilIface] 35 (0, 0))

section
variable {b n l c : Nat} {t : ByteArray} {w : World}
theorem Err.lt (h : Err b n l c t w) : b < w.heap.size := (Array.getElem?_eq_some_iff.1 h).1
theorem Err.c0 (h : Err b n l c t w) : w.cell? ⟨b, 0, none⟩ = some (.int .i64 n) := by rw [Lib.cell_of_heap h]; rfl
theorem Err.c2 (h : Err b n l c t w) : w.cell? ⟨b, 2, none⟩ = some (.int .i64 l) := by rw [Lib.cell_of_heap h]; rfl
theorem Err.c3 (h : Err b n l c t w) : w.cell? ⟨b, 3, none⟩ = some (.int .i64 c) := by rw [Lib.cell_of_heap h]; rfl
theorem Err.c5 (h : Err b n l c t w) : w.cell? ⟨b, 5, none⟩ = some (.string t) := by rw [Lib.cell_of_heap h]; rfl
theorem Err.free (h : Err b n l c t w) (j : Nat) : w.frozen? ⟨b, j, none⟩ = false := Lib.frozen_of_heap h j
theorem Err.setLine (h : Err b n l c t w) (l' : Nat) : Err b n l' c t (w.setCell ⟨b, 2, none⟩ (.int .i64 l')) := by
  unfold Err at *
  simp only [World.setCell, Array.getElem?_modify, h]
  simp
theorem Err.setColumn (h : Err b n l c t w) (c' : Nat) : Err b n l c' t (w.setCell ⟨b, 3, none⟩ (.int .i64 c')) := by
  unfold Err at *
  simp only [World.setCell, Array.getElem?_modify, h]
  simp
theorem Err.setLineOf (h : Err b n l c t w) (l' : Nat) (x : Int) (hx : x = l') : Err b n l' c t (w.setCell ⟨b, 2, none⟩ (.int .i64 x)) := by
  subst hx; exact h.setLine l'
theorem Err.setColumnOf (h : Err b n l c t w) (c' : Nat) (x : Int) (hx : x = c') : Err b n l c' t (w.setCell ⟨b, 3, none⟩ (.int .i64 x)) := by
  subst hx; exact h.setColumn c'
theorem Err.setSnippet (h : Err b n l c t w) (t' : ByteArray) : Err b n l c t' (w.setCell ⟨b, 5, none⟩ (.string t')) := by
  unfold Err at *
  simp only [World.setCell, Array.getElem?_modify, h]
  simp
theorem Err.alloc (h : Err b n l c t w) (o : Obj) : Err b n l c t (w.alloc o) := by
  have := Below.heap_alloc w o b h.lt
  unfold Err at *
  rw [this]; exact h
theorem Err.drew (h : Err b n l c t w) : Err b n l c t w.drew := h
theorem Err.iterAt (h : Err b n l c t w) (k : Nat) (s : ByteArray) (pos : Nat) (hk : b ≠ k) : Err b n l c t (w.iterAt k s pos) := by
  unfold Err at *
  rw [Lib.iterAt_other w k b s pos hk]; exact h
theorem Err.below (h : Err b n l c t w) {B : Nat} {w' : World} (hb : Below B w w') (hB : b < B) : Err b n l c t w' := by
  unfold Err at *
  rw [hb.block b hB]; exact h
end

end Go.Proofs.Ytaoklcolodgklaa
