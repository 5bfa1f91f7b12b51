/-
  The law FnBindAgrees returns true at every text and every place.
  Conditions: none beyond what every Go value meets.
-/
import Derived.Test.YtaoklcolodgklaaDoor
import Derived.Test.YtaoklcolodgklaaPlace
import Derived.Laws.Cover4
namespace Go.Proofs.Ytaoklcolodgklaa
open Go.RowKit

theorem conv_back (s : ByteArray) (w1 : World) (b cap : Nat) (hc : ∀ j, j < (rs s).length → w1.cell? ⟨b, j, none⟩ = some (.int .i32 ((rs s).getD j 0 : Nat))) :
    (convert 23 9 (.slice (some ⟨b, 0, none⟩) (rs s).length cap)).run Try.prog w1 = .ok (.string (runesBytes ((rs s).map Int.ofNat))) w1 := by
  have h := run_convert_runes (P := Try.prog) w1 23 9 21 ⟨b, 0, none⟩ (rs s).length cap ((rs s).map Int.ofNat) (by simp) Try.underlying23 Try.underlying21 Try.underlying9 (by
    intro j hj
    have hj' : j < (rs s).length := by simpa using hj
    have := hc j hj'
    have e : ((⟨b, 0, none⟩ : Addr).add j) = ⟨b, j, none⟩ := by
      unfold Addr.add
      split
      · subst j; rfl
      · simp
    rw [e, this]
    simp [List.getD, List.getElem?_eq_getElem hj'])
  rw [h, List.take_of_length_le (by simp)]

set_option maxHeartbeats 1000000 in
set_option maxRecDepth 100000 in
theorem law_long (s : ByteArray) (k : Int) (w : World) (hs : 300 < s.size) (hm : s.size ≤ 9223372036854775807) :
    Calls Try.prog 3 #[.string s, .int .u16 k] w fun e w' => e = .returned (.bool true) ∧ Below w.heap.size w w' := by
  by_cases h : 2147483647 < s.size
  all_goals
    go_enter Try.func3, Try.ntmps3
    go_wp2
    go_ret
    exact ⟨rfl, Below.refl _ _⟩

theorem none_or_some (s : ByteArray) (h : s.toList.isEmpty = false) : 0 < s.size := by
  rcases Nat.eq_zero_or_pos s.size with h0 | h0
  · rw [ByteArray.toList_eq, List.isEmpty_eq_false_iff] at h
    exact absurd (List.eq_nil_of_length_eq_zero (by rw [Array.length_toList]; exact h0)) h
  · exact h0

/-- Behind the tests: the loop that looks for carriage returns, the place, both answers. -/
def Good (w : World) (e : Ending) (w' : World) : Prop := e = .returned (.bool true) ∧ Below w.heap.size w w'

set_option maxHeartbeats 1000000 in
set_option maxRecDepth 100000 in
theorem law_short (s : ByteArray) (k : Int) (w : World) (hs : s.size ≤ 300) (h0 : 0 ≤ k) (h1 : k ≤ 65535) :
    Calls Try.prog 3 #[.string s, .int .u16 k] w (Good w) := by
  obtain ⟨cap, w1, hconv, hcell, hb⟩ := conv_runes s w hs
  have hback := conv_back s w1 w.heap.size cap hcell
  clear hcell
  generalize runesBytes ((rs s).map Int.ofNat) = u at hback
  by_cases hu : u.toList = s.toList
  · by_cases hE : s.toList.isEmpty = true
    · go_enter Try.func3, Try.ntmps3
      go_wp2_with fail
      go_ret
      exact ⟨rfl, hb⟩
    · have hE' : s.toList.isEmpty = false := by simpa using hE
      clear hE
      have hpos := none_or_some s hE'
      have hrp := rs_pos s hpos
      have hl := rs_length s
      go_enter Try.func3, Try.ntmps3
      go_wp2_with fail
      go_loopw [] (fun wr => ∃ pos fuel : Nat, s.size ≤ pos + fuel ∧ wr.heap[w1.heap.size]? = some (.stringIter s pos) ∧ Below w.heap.size w wr) (fun wr => s.size - wr.iterPos w1.heap.size)
      case atStart => exact ⟨0, s.size, by omega, new_block w1 _, hb.alloc hb.size _⟩
      case round =>
        clear hback hconv
        obtain ⟨pos, fuel, hf, hit, hbw⟩ := hrel
        by_cases hp : pos < s.size
        · have hwd := width_pos s pos hp
          have hnx := fun ty => Lib.run_next_any_at (P := Try.prog) wr w1.heap.size s pos ty hit hp
          have hit2 := Lib.hid (Lib.iterAt_heap wr w1.heap.size s pos (pos + (Utf8.decode s pos).2) hit)
          have hbw2 := Lib.below_iterAt hbw (k := w1.heap.size) hb.size s (pos + (Utf8.decode s pos).2)
          have HIT := Lib.hid hit
          clear hit
          generalize wr.iterAt w1.heap.size s (pos + (Utf8.decode s pos).2) = W2 at *
          generalize (Utf8.decode s pos).1 = r at *
          generalize (Utf8.decode s pos).2 = d at *
          go_wp2_with fail
          · go_ret
            exact ⟨rfl, hbw2⟩
          · go_roundw
            case rel => exact ⟨pos + d, fuel - 1, by omega, hit2.out, hbw2⟩
            case measure => rw [iterPos_of HIT.out, iterPos_of hit2.out]; omega
        · have hnx := fun ty => Lib.run_next_end_at (P := Try.prog) wr w1.heap.size s pos ty hit hp
          have hsz : wr.heap.size ≥ w.heap.size := hbw.size
          obtain ⟨cap2, w3, hconv3, _, hb3⟩ := conv_runes s wr hs
          have hb4 : Below w.heap.size w w3 := hbw.trans (hb3.mono hsz)
          clear hb3
          obtain ⟨n, hn⟩ : ∃ n : Nat, k % ((rs s).length : Int) = n := ⟨_, (Int.toNat_of_nonneg (Int.emod_nonneg _ (by omega))).symm⟩
          have hnl : n < (rs s).length := by
            have := Int.emod_lt_of_pos k (show (0 : Int) < (rs s).length by omega)
            omega
          have HN := Lib.hid hn
          clear hn
          go_wp2_with fail
          rw [HN.out]
          refine (door_any s n w3 hs hnl).mono ?_
          rintro e w4 ⟨t, rfl, hb5⟩
          have hb6 : Below w.heap.size w w4 := hb4.trans (hb5.mono hb4.size)
          clear hb5
          go_wp2_with fail
          refine (place_any s n w4 hs (by omega)).mono ?_
          rintro e w5 ⟨rfl, hb7⟩
          have hb8 : Below w.heap.size w w5 := hb6.trans (hb7.mono hb6.size)
          clear hb7
          go_wp2
          go_ret
          exact ⟨rfl, hb8⟩
  · go_enter Try.func3, Try.ntmps3
    go_wp2_with fail
    go_ret
    exact ⟨rfl, hb⟩

end Go.Proofs.Ytaoklcolodgklaa
