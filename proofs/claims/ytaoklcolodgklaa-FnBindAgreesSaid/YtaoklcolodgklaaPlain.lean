/-
  Plain laws on texts and places: the characters of a text from a byte place on, and the line and column behind some of them.
  Conditions: none.
-/
import Derived.WalkKit
import Derived.Laws.IdiomStrings
namespace Go.Proofs.Ytaoklcolodgklaa
open Go.RowKit

/-- The characters of s from the byte place pos on, at most so many. -/
def rl (s : ByteArray) : Nat → Nat → List Nat
  | 0, _ => []
  | fuel + 1, pos => if pos < s.size then (Utf8.decode s pos).1 :: rl s fuel (pos + (Utf8.decode s pos).2) else []

/-- All characters of s. -/
def rs (s : ByteArray) : List Nat := rl s s.size 0

theorem width_pos (s : ByteArray) (pos : Nat) (h : pos < s.size) : 1 ≤ (Utf8.decode s pos).2 := by
  by_cases ha : (s[pos]'h).toNat < 128
  · rw [decode_ascii s pos h ha]
    exact Nat.le_refl _
  · exact (decode_high s pos h (by omega)).2

theorem rl_end (s : ByteArray) (fuel pos : Nat) (h : ¬ pos < s.size) : rl s fuel pos = [] := by
  cases fuel with
  | zero => rfl
  | succ f => simp [rl, h]

theorem rl_step (s : ByteArray) (fuel pos : Nat) (h : pos < s.size) (hf : s.size ≤ pos + fuel) :
    rl s fuel pos = (Utf8.decode s pos).1 :: rl s (fuel - 1) (pos + (Utf8.decode s pos).2) := by
  obtain ⟨f, rfl⟩ : ∃ f, fuel = f + 1 := ⟨fuel - 1, by omega⟩
  simp [rl, h]

theorem rl_length (s : ByteArray) : ∀ (fuel pos : Nat), (rl s fuel pos).length ≤ fuel
  | 0, _ => by simp [rl]
  | fuel + 1, pos => by
    have := rl_length s fuel (pos + (Utf8.decode s pos).2)
    unfold rl
    split
    · simp; omega
    · simp

theorem rs_length (s : ByteArray) : (rs s).length ≤ s.size := rl_length s s.size 0

theorem rs_pos (s : ByteArray) (h : 0 < s.size) : 0 < (rs s).length := by
  unfold rs
  rw [rl_step s s.size 0 h (by omega)]
  simp

/-- What the conversion to characters gives. -/
theorem runesFrom_eq (s : ByteArray) : ∀ (bound i : Nat) (acc : Array Value),
    Conv.runesFrom s bound i acc = acc ++ ((rl s bound i).map fun r => Value.int .i32 (Int.ofNat r)).toArray
  | 0, _, acc => by simp [Conv.runesFrom, rl]
  | bound + 1, i, acc => by
    unfold Conv.runesFrom rl
    split
    · simp only []
      rw [runesFrom_eq s bound (i + (Utf8.decode s i).2)]
      apply Array.ext'
      simp
    · simp

theorem runes_of (s : ByteArray) : Conv.runesFrom s s.size 0 #[] = ((rs s).map fun r => Value.int .i32 (Int.ofNat r)).toArray := by
  rw [runesFrom_eq]
  simp [rs]

/-- One character more: the line, the column. -/
def lineS (p : Nat × Nat) (r : Nat) : Nat × Nat := if r = 10 then (p.1 + 1, 0) else (p.1, p.2 + 1)
/-- The line and the column behind the characters l. -/
def place (l : List Nat) : Nat × Nat := l.foldl lineS (1, 0)

theorem place_snoc (l : List Nat) (r : Nat) : place (l ++ [r]) = lineS (place l) r := by
  simp [place]

theorem lineS_line (p : Nat × Nat) (r : Nat) (h : r = 10) : (lineS p r).1 = p.1 + 1 ∧ (lineS p r).2 = 0 := by
  simp [lineS, h]
theorem lineS_else (p : Nat × Nat) (r : Nat) (h : ¬ r = 10) : (lineS p r).1 = p.1 ∧ (lineS p r).2 = p.2 + 1 := by
  simp [lineS, h]

theorem foldl_bd : ∀ (l : List Nat) (p : Nat × Nat), (l.foldl lineS p).1 + (l.foldl lineS p).2 ≤ p.1 + p.2 + l.length
  | [], p => by simp
  | r :: l, p => by
    have h := foldl_bd l (lineS p r)
    have h2 : (lineS p r).1 + (lineS p r).2 ≤ p.1 + p.2 + 1 := by unfold lineS; split <;> simp <;> omega
    simp only [List.foldl_cons, List.length_cons]
    omega

theorem place_bd (l : List Nat) : (place l).1 + (place l).2 ≤ 1 + l.length := by
  have := foldl_bd l (1, 0)
  simpa [place] using this

theorem take_snoc (l : List Nat) (k : Nat) (r : Nat) (t : List Nat) (h : l.drop k = r :: t) : l.take (k + 1) = l.take k ++ [r] ∧ l.drop (k + 1) = t ∧ k < l.length := by
  have hk : k < l.length := by
    rcases Nat.lt_or_ge k l.length with h' | h'
    · exact h'
    · rw [List.drop_eq_nil_of_le h'] at h; cases h
  have h1 : l.drop k = l[k] :: l.drop (k + 1) := List.drop_eq_getElem_cons hk
  rw [h1] at h
  injection h with h2 h3
  refine ⟨?_, h3, hk⟩
  rw [List.take_succ_eq_append_getElem hk, h2]

end Go.Proofs.Ytaoklcolodgklaa
