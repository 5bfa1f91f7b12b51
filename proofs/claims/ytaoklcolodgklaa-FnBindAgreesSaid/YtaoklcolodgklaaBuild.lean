/-
  The text builder's calls, told by how much the builder holds at most: Grow, WriteString, WriteByte, String; nothing below the builder's block turns.
  Conditions: what it holds stays below 2^40 bytes.
-/
import Derived.Test.YtaoklcolodgklaaShelf
import Derived.WalkKit
import Derived.Lib.UnsafeStr
namespace Go.Proofs.Ytaoklcolodgklaa
open Go.RowKit

/-- Block b is a builder that holds at most m bytes. -/
def IsB (b m : Nat) (w : World) : Prop := ∃ l : List UInt8, l.length ≤ m ∧ Lib.IsBuilderF 45 5 b b (Lib.byteCells l) w

theorem new_block (w : World) (o : Obj) : (w.alloc o).heap[w.heap.size]? = some o := by
  show (w.heap.push o)[w.heap.size]? = _
  simp

theorem IsB.lt {b m : Nat} {w : World} (h : IsB b m w) : b < w.heap.size := by
  obtain ⟨l, _, h | h⟩ := h
  · exact h.lt
  · exact h.lt

theorem grow_any (b : Nat) (x : Int) (w : World) (hbk : w.heap[b]? = some (.cells #[.pointer none, .slice none 0 0] 45 (0, 0))) (h0 : 0 ≤ x) (h1 : x ≤ 1000000) :
    Calls Try.prog 10 #[.pointer (some ⟨b, 0, none⟩), .int .i64 x] w fun e w' => e = .returned (.tuple #[]) ∧ (IsB b 0 w' ∧ Below b w w') := by
  obtain ⟨n, rfl⟩ := Int.eq_ofNat_of_zero_le h0
  refine (Try.Builder_Grow b b n w (Nat.le_refl _) hbk (Nat.le_of_lt (Array.getElem?_eq_some_iff.1 hbk).1) (by omega)).mono ?_
  rintro e w' ⟨rfl, h, hb⟩
  exact ⟨rfl, ⟨[], by simp, .inr (.of h)⟩, hb⟩

theorem text_any (b m : Nat) (s : ByteArray) (w : World) (h : IsB b m w) (hm : m + s.size ≤ 1000000) :
    Calls Try.prog 11 #[.pointer (some ⟨b, 0, none⟩), .string s] w fun e w' => e = .returned (.tuple #[.int .i64 s.size, .nilIface]) ∧ (IsB b (m + s.size) w' ∧ Below b w w') := by
  have hlt := h.lt
  obtain ⟨l, hl, hB⟩ := h
  refine (Try.Builder_WriteString b b _ s w hB (by rw [Lib.byteCells_length]; omega) (by omega)).mono ?_
  rintro e w' ⟨rfl, h, hb, _⟩
  refine ⟨rfl, ⟨l ++ s.data.toList, ?_, ?_⟩, hb⟩
  · have : s.data.toList.length = s.size := Array.length_toList
    simp only [List.length_append]; omega
  · rw [Lib.byteCells_append]; exact .inr h

theorem mark_any (b m : Nat) (s : ByteArray) (w : World) (h : IsB b m w) (hs : s.size ≤ 4) (hm : m ≤ 900000) :
    Calls Try.prog 11 #[.pointer (some ⟨b, 0, none⟩), .string s] w fun e w' => e = .returned (.tuple #[.int .i64 s.size, .nilIface]) ∧ (IsB b (m + 4) w' ∧ Below b w w') := by
  refine (text_any b m s w h (by omega)).mono ?_
  rintro e w' ⟨rfl, ⟨l, hl, hB⟩, hb⟩
  exact ⟨rfl, ⟨l, by omega, hB⟩, hb⟩

theorem byte_any (b m : Nat) (x : Int) (w : World) (h : IsB b m w) (hm : m + 1 ≤ 1000000) (h0 : 0 ≤ x) (h1 : x < 256) :
    Calls Try.prog 12 #[.pointer (some ⟨b, 0, none⟩), .int .u8 x] w fun e w' => e = .returned .nilIface ∧ (IsB b (m + 1) w' ∧ Below b w w') := by
  have hlt := h.lt
  obtain ⟨l, hl, hB⟩ := h
  refine (Try.Builder_WriteByte b b _ x w hB (by rw [Lib.byteCells_length]; omega) (by omega)).mono ?_
  rintro e w' ⟨rfl, h, hb, _⟩
  refine ⟨rfl, ⟨l ++ [UInt8.ofNat x.toNat], ?_, ?_⟩, hb⟩
  · simp only [List.length_append, List.length_singleton]; omega
  · rw [Lib.byteCells_append]
    have : Lib.byteCells [UInt8.ofNat x.toNat] = [.int .u8 x] := by
      simp only [Lib.byteCells, List.map_cons, List.map_nil]
      congr 2
      simp; omega
    rw [this]; exact .inr h

theorem told_any (b m : Nat) (w : World) (h : IsB b m w) :
    Calls Try.prog 13 #[.pointer (some ⟨b, 0, none⟩)] w fun e w' => ∃ t, e = .returned (.string t) ∧ Below b w w' := by
  have hlt := h.lt
  obtain ⟨l, hl, hB⟩ := h
  refine (Try.Builder_String b b l w hB (by omega)).mono ?_
  rintro e w' ⟨rfl, _, hb, _⟩
  exact ⟨_, rfl, hb⟩

end Go.Proofs.Ytaoklcolodgklaa
