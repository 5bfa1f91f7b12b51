/-
  impl.Bind returns the line and the column behind the first n characters of a text.
  Conditions: a text of at most 300 bytes, and n below the number of its characters.
-/
import Derived.Test.YtaoklcolodgklaaBind
import Derived.Deep.QuietTactic
import Derived.BigQuiet
namespace Go.Proofs.Ytaoklcolodgklaa
open Go.RowKit

/-- file.NewSource. -/
theorem source_of (s : ByteArray) (w : World) :
    Calls Try.prog 7 #[.string s] w fun e w' => e = .returned (.agg #[.string s]) ∧ w.alloc (.cells #[.string s] 38) = w' := by
  go_enter Try.func7, Try.ntmps7
  go_wp2
  exact bodyPost_ret (v := .agg #[.string s]) (by simp [results, Try.results7, go_sem]) rfl ⟨rfl, rfl⟩

/-- What impl.Bind hands back. -/
def Told (n : Nat) (s : ByteArray) (w : World) (e : Ending) (w' : World) : Prop :=
  ∃ t : ByteArray, e = .returned (.tuple #[.int .i64 ((place ((rs s).take n)).1 : Nat), .int .i64 ((place ((rs s).take n)).2 : Nat), .string t]) ∧ Below w.heap.size w w'

theorem err_start (n : Nat) (s : ByteArray) (w : World) :
    Err w.heap.size n 0 0 .empty ((w.alloc (.cells #[.int .i64 n, .int .i64 0, .int .i64 0, .int .i64 0, .string .empty, .string .empty, .nilIface] 35)).alloc (.cells #[.string s] 38)) :=
  Err.alloc (new_block w _) _

set_option maxHeartbeats 1000000 in
set_option maxRecDepth 100000 in
theorem door_any (s : ByteArray) (n : Nat) (w : World) (hs : s.size ≤ 300) (hn : n < (rs s).length) :
    Calls Try.prog 4 #[.string s, .int .i64 n] w (Told n s w) := by
  go_enter Try.func4, Try.ntmps4
  go_wp2_with (go_at_call 7; refine (source_of _ _).mono ?_; rintro e w' ⟨rfl, rfl⟩)
  refine (bind_any s w.heap.size n _ hs hn (err_start n s w)).mono ?_
  rintro e w1 ⟨rfl, t, hE, hb⟩
  have hb' : Below w.heap.size w w1 := (((Below.refl _ w).alloc (Nat.le_refl _) _).alloc (by simp) _).trans hb
  clear hb
  have c2 := hE.c2
  have c3 := hE.c3
  have c5 := hE.c5
  go_wp2_with fail
  go_quiet (fail)
  go_wp2
  go_ret3
  exact ⟨t, rfl, below_drewN hb' _⟩

end Go.Proofs.Ytaoklcolodgklaa
