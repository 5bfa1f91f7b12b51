/-
  The law's own function pdPlace returns the line and the column behind the first n characters of a text.
  Conditions: a text of at most 300 bytes, and n at most 300.
-/
import Derived.Test.YtaoklcolodgklaaPlain
import Derived.Test.YtaoklcolodgklaaShelf
import Derived.WalkLawsBesides
import Derived.WalkSpells
import Derived.Lib.Hide
namespace Go.Proofs.Ytaoklcolodgklaa
open Go.RowKit

/-- What '[]rune(text)' leaves: a new row that holds the characters. -/
theorem conv_runes (s : ByteArray) (w : World) (hs : s.size ≤ 300) :
    ∃ (cap : Nat) (w1 : World), (convert 9 23 (.string s)).run Try.prog w = .ok (.slice (some ⟨w.heap.size, 0, none⟩) (rs s).length cap) w1 ∧
      (∀ j, j < (rs s).length → w1.cell? ⟨w.heap.size, j, none⟩ = some (.int .i32 ((rs s).getD j 0 : Nat))) ∧ Below w.heap.size w w1 := by
  have hl := rs_length s
  have hsz : (Conv.runesFrom s s.size 0 #[]).size = (rs s).length := by rw [runes_of]; simp
  have h := run_runes_of_string (P := Try.prog) w 9 23 21 s Try.underlying9 Try.underlying23 Try.underlying21 (by omega)
  rw [hsz] at h
  refine ⟨_, _, h, ?_, (Below.refl _ w).drew.alloc (Nat.le_refl _) _⟩
  intro j hj
  rw [World.alloc_drew, World.cell?_drew]
  rw [World.cell?_alloc_at _ _ _ _ rfl]
  rw [runes_of, Array.getElem?_append_left (by simpa using hj)]
  simp [List.getElem?_eq_getElem hj]

set_option maxHeartbeats 1000000 in
set_option maxRecDepth 100000 in
/-- pdPlace: the line and the column behind the first n characters. -/
theorem place_any (s : ByteArray) (n : Nat) (w : World) (hs : s.size ≤ 300) (hn : n ≤ 300) :
    Calls Try.prog 5 #[.string s, .int .i64 n] w fun e w' => e = .returned (.tuple #[.int .i64 ((place ((rs s).take n)).1 : Nat), .int .i64 ((place ((rs s).take n)).2 : Nat)]) ∧ Below w.heap.size w w' := by
  obtain ⟨cap, w1, hconv, hcell, hb⟩ := conv_runes s w hs
  have HC := Lib.hid hcell; clear hcell
  have hl := rs_length s
  go_enter Try.func5, Try.ntmps5
  go_wp2
  go_loop [4, 5, 11] (fun l c i => ∃ k : Nat, k ≤ n ∧ k ≤ (rs s).length ∧ i = .int .i64 k ∧ l = .int .i64 ((place ((rs s).take k)).1 : Nat) ∧ c = .int .i64 ((place ((rs s).take k)).2 : Nat)) (fun _ _ i => (rs s).length - (intOf i).toNat)
  case atStart => exact ⟨0, by omega, by omega, rfl, by simp [place], by simp [place]⟩
  case round =>
    obtain ⟨k, hkn, hkl, rfl, rfl, rfl⟩ := hrel
    have hpb := place_bd ((rs s).take k)
    have hpl : ((rs s).take k).length ≤ k := List.length_take_le _ _
    by_cases hk : k < (rs s).length
    · have hck := HC.out k hk
      have HT := Lib.hid (take_snoc (rs s) k _ _ (List.drop_eq_getElem_cons hk)).1
      by_cases he : k = n
      · subst he
        clear HT
        go_wp2
        go_ret2
        exact ⟨rfl, hb⟩
      · have hlt : k < n := by omega
        go_wp2
        · have h10 : ((rs s)[k] : Int) = 10 := by simpa using ‹((((rs s)[k] : Nat) : Int) == 10) = true›
          have hp := lineS_line (place ((rs s).take k)) (rs s)[k] (by omega)
          go_round
          case rel => exact ⟨k + 1, by omega, by omega, by go_num, by rw [HT.out, place_snoc, hp.1]; go_num, by rw [HT.out, place_snoc, hp.2]; go_num⟩
          case measure => simp [intOf]; omega
        · have h10 : ¬ ((rs s)[k] : Int) = 10 := by simpa using ‹((((rs s)[k] : Nat) : Int) == 10) = false›
          have hp := lineS_else (place ((rs s).take k)) (rs s)[k] (by omega)
          go_round
          case rel => exact ⟨k + 1, by omega, by omega, by go_num, by rw [HT.out, place_snoc, hp.1], by rw [HT.out, place_snoc, hp.2]; go_num⟩
          case measure => simp [intOf]; omega
    · have HK := Lib.hid (show (rs s).take k = (rs s).take n by rw [List.take_of_length_le (by omega), List.take_of_length_le (by omega)])
      go_wp2
      go_ret2
      exact ⟨by rw [HK.out]; rfl, hb⟩

end Go.Proofs.Ytaoklcolodgklaa
