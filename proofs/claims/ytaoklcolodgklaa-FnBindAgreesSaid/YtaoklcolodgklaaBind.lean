/-
  (*file.Error).Bind sets an error's line and column to those behind the first n characters of the text, n being the error's place.
  Conditions: a text of at most 300 bytes, and n below the number of its characters.
-/
import Derived.Test.YtaoklcolodgklaaErr
import Derived.Test.YtaoklcolodgklaaBuild
import Derived.WalkLawsBesides
import Derived.WalkSpells
import Derived.Lib.Hide
import Derived.Lib.IndexLaws
namespace Go.Proofs.Ytaoklcolodgklaa
open Go.RowKit

/-- file.Source's text. -/
theorem source_text (s : ByteArray) (w : World) :
    Calls Try.prog 8 #[.agg #[.string s]] w fun e w' => e = .returned (.string s) ∧ w.alloc (.cells #[.string s] 38) = w' := by
  go_enter Try.func8, Try.ntmps8
  go_wp2
  go_ret
  exact ⟨rfl, rfl⟩

theorem indexByte_lt (c : UInt8) : ∀ l : List UInt8, Lib.indexByte l c < 0 ∨ Lib.indexByte l c < l.length := by
  intro l
  rcases Int.lt_or_le (Lib.indexByte l c) 0 with h | h
  · exact .inl h
  · right
    obtain ⟨o, ho⟩ := Int.eq_ofNat_of_zero_le h
    have := (Lib.indexByte_some ho).1
    have := (List.getElem?_eq_some_iff.1 this).1
    omega

/-- strings.IndexByte: nothing, or a place in the text. -/
theorem index_any (s : ByteArray) (c : Int) (w : World) :
    Calls Try.prog 9 #[.string s, .int .u8 c] w fun e w' => ∃ x : Int, -1 ≤ x ∧ (x < 0 ∨ x < s.size) ∧ e = .returned (.int .i64 x) ∧ w = w' := by
  refine (Try.strings_IndexByte s c w).mono ?_
  rintro e w' ⟨rfl, rfl⟩
  refine ⟨_, Lib.indexByte_ge _ _, ?_, rfl, rfl⟩
  have h := indexByte_lt c.toNat.toUInt8 s.data.toList
  rw [Array.length_toList] at h
  exact h

/-- What Bind leaves. -/
def Bound (b n : Nat) (s : ByteArray) (w w' : World) : Prop :=
  ∃ t, Err b n (place ((rs s).take n)).1 (place ((rs s).take n)).2 t w' ∧ Below b w w'

/-- Ahead of a round of Bind's loop over the text: k characters are through. -/
def Head (b n : Nat) (s : ByteArray) (w : World) (ls k pos fuel : Nat) (wr : World) : Prop :=
  k ≤ n ∧ ls ≤ pos ∧ s.size ≤ pos + fuel ∧ rl s fuel pos = (rs s).drop k ∧
    wr.heap[w.heap.size + 1 + 1]? = some (.stringIter s pos) ∧ Below b w wr ∧
    Err b n (place ((rs s).take k)).1 (place ((rs s).take k)).2 .empty wr

theorem head_start (b n : Nat) (s : ByteArray) (w : World) (hE : Err b n 0 0 .empty w) :
    Head b n s w 0 0 0 s.size (((((w.setCell ⟨b, 2, none⟩ (.int .i64 1)).setCell ⟨b, 3, none⟩ (.int .i64 0)).alloc (.cells #[.string s] 38)).alloc (.cells #[.string s] 38)).iter s 0) := by
  have hlt := hE.lt
  refine ⟨by omega, by omega, by omega, by simp [rs], ?_, ?_, ?_⟩
  · have := new_block (((((w.setCell ⟨b, 2, none⟩ (.int .i64 1)).setCell ⟨b, 3, none⟩ (.int .i64 0)).alloc (.cells #[.string s] 38)).alloc (.cells #[.string s] 38))) (.stringIter s 0)
    simpa [World.iter] using this
  · exact ((((((Below.refl b w).setCell (Nat.le_refl _) _).setCell (Nat.le_refl _) _).alloc (by simp; omega) _).alloc (by simp; omega) _).alloc (by simp; omega) _)
  · exact ((((hE.setLine 1).setColumn 0).alloc _).alloc _).alloc _

set_option maxHeartbeats 1000000 in
set_option maxRecDepth 100000 in
/-- (*file.Error).Bind at an error whose place is a character of the text. -/
theorem bind_any (s : ByteArray) (b n : Nat) (w : World) (hs : s.size ≤ 300) (hn : n < (rs s).length) (hE : Err b n 0 0 .empty w) :
    Calls Try.prog 6 #[.pointer (some ⟨b, 0, none⟩), .agg #[.string s]] w fun e w' => e = .returned (.pointer (some ⟨b, 0, none⟩)) ∧ Bound b n s w w' := by
  have hlt := hE.lt
  have hl := rs_length s
  have c0 := hE.c0
  have c2 := hE.c2
  have c3 := hE.c3
  have f2 := hE.free 2
  have f3 := hE.free 3
  go_enter Try.func6, Try.ntmps6
  go_wp2_with (go_at_call 8; refine (source_text _ _).mono ?_; rintro e w' ⟨rfl, rfl⟩)
  clear c0 c2 c3 f2 f3
  go_loopw [6, 7] (fun rc l wr => ∃ k ls pos fuel : Nat, rc = .int .i64 k ∧ l = .int .i64 ls ∧ Head b n s w ls k pos fuel wr) (fun _ _ wr => s.size - wr.iterPos (w.heap.size + 1 + 1))
  case atStart => exact ⟨0, 0, 0, s.size, rfl, rfl, head_start b n s w hE⟩
  case round =>
    obtain ⟨k, ls, pos, fuel, rfl, rfl, hkn, hls, hfu, hdr, hit, hbw, hE'⟩ := hrel
    by_cases hp : pos < s.size
    · have hst := rl_step s fuel pos hp hfu
      have hwd := width_pos s pos hp
      obtain ⟨ht, hdr2, hkl⟩ := take_snoc (rs s) k _ _ (hdr.symm.trans hst)
      have hnx0 := fun ty => Lib.run_next_any_at (P := Try.prog) wr (w.heap.size + 1 + 1) s pos ty hit hp
      have hit2 := Lib.iterAt_heap wr (w.heap.size + 1 + 1) s pos (pos + (Utf8.decode s pos).2) hit
      have hbw2 := Lib.below_iterAt hbw (k := w.heap.size + 1 + 1) (by omega) s (pos + (Utf8.decode s pos).2)
      have hE2 := hE'.iterAt (w.heap.size + 1 + 1) s (pos + (Utf8.decode s pos).2) (by omega)
      have hsz : (wr.iterAt (w.heap.size + 1 + 1) s (pos + (Utf8.decode s pos).2)).heap.size = wr.heap.size := by rw [Lib.iterAt_size]
      have hsz0 : w.heap.size + 1 + 1 < wr.heap.size := (Array.getElem?_eq_some_iff.1 hit).1
      generalize wr.iterAt (w.heap.size + 1 + 1) s (pos + (Utf8.decode s pos).2) = W2 at *
      generalize hrr : (Utf8.decode s pos).1 = r at *
      generalize hww : (Utf8.decode s pos).2 = d at *
      have hnx : ∀ ty, (Instr.next (.pointer (some ⟨w.heap.size + 1 + 1, 0, none⟩)) true ty).run Try.prog wr = .ok (.tuple #[.bool true, .int .i64 pos, .int .i32 (r : Int)]) W2 := hnx0
      have HF := Lib.hid hfu
      have HIT := Lib.hid hit
      clear hnx0 hst hdr hit hE' hbw hfu
      have c0 := hE2.c0
      have HT := Lib.hid ht; clear ht
      have HD := Lib.hid hdr2; clear hdr2
      have HZ := Lib.hid hsz; clear hsz
      have HR := Lib.hid hrr; clear hrr
      have HW := Lib.hid hww; clear hww
      have hE3 := Lib.hid hE2
      have hI3 := Lib.hid hit2; clear hit2
      by_cases hk : k = n
      · subst hk
        clear HT HD
        have c3 := hE2.c3
        have f5 := hE2.free 5
        clear hE2
        have hb2 := hE3.out.lt
        go_wp2_with fail
        refine (index_any _ _ _).mono ?_
        rintro e w' ⟨x, hx0, hx1, rfl, rfl⟩
        rw [ByteArray.size_extract] at hx1
        have hxc : (x < 0 ∧ wrap64 ((ls : Int) + x) < ls ∧ ((ls : Int) == (s.size : Int)) = false) ∨ x = 0 ∨ (∃ y : Nat, x = y ∧ ((ls : Int) == (ls : Int) + (y : Int)) = false ∧ ls + y ≤ s.size) := by
          rcases Int.lt_trichotomy x 0 with h | h | h
          · exact .inl ⟨h, by unfold wrap64; omega, by simp; omega⟩
          · exact .inr (.inl h)
          · obtain ⟨y, rfl⟩ := Int.eq_ofNat_of_zero_le (Int.le_of_lt h)
            exact .inr (.inr ⟨y, rfl, by simp; omega, by omega⟩)
        have hpb := place_bd ((rs s).take k)
        have hpl : ((rs s).take k).length ≤ k := List.length_take_le _ _
        have hcb : (place ((rs s).take k)).2 ≤ 301 := by omega
        rcases hxc with ⟨hx, hxs, hne⟩ | rfl | ⟨y, rfl, hne, hys⟩
        · skip
          go_wp2_with fail
          refine (grow_any W2.heap.size _ _ (new_block _ _) (by omega) (by omega)).mono ?_
          rintro e w1 ⟨rfl, hB1, hb1⟩
          have hE1 := (hE3.out.alloc _).below hb1 hb2
          have hL1 := (hbw2.alloc (by omega) _).trans (hb1.mono (by omega))
          generalize hline : s.extract ls (s.size) = line
          have hls3 : line.size ≤ 300 := by rw [← hline, ByteArray.size_extract]; omega
          clear hline
          generalize W2.heap.size = B at *
          generalize hcc : (place ((rs s).take k)).2 = cc at *
          generalize hll : (place ((rs s).take k)).1 = ll at *
          have HC := Lib.hid hcc
          have HLL := Lib.hid hll
          clear hcc hll HZ hI3 hE3 hbw2 hb1
          go_wp2_with fail
          refine (mark_any B 0 _ _ hB1 (by decide) (by omega)).mono ?_
          rintro e w2 ⟨rfl, hB2, hb2'⟩
          have hE2 := hE1.below hb2' hb2
          have hL2 := hL1.trans (hb2'.mono (by omega))
          clear hE1 hL1 hB1 hb2'
          go_wp2_with fail
          go_loopw [13] (fun i wx => ∃ j : Nat, i = .int .i64 j ∧ j ≤ line.size ∧ IsB B (4 + j) wx ∧ Err b k ll cc .empty wx ∧ Below b w wx) (fun i _ => line.size - (intOf i).toNat)
          case atStart => exact ⟨0, rfl, by omega, hB2, hE2, hL2⟩
          case round =>
            clear hB2 hE2 hL2
            obtain ⟨j, rfl, hj, hB, hE, hL⟩ := hrel
            by_cases hjl : j < line.size
            · have hby := line[j].toNat_lt
              go_wp2_with (go_at_call 12; refine (byte_any B (4 + j) _ _ hB (by omega) (by omega) (by omega)).mono ?_; rintro e w3 ⟨rfl, hB3, hb3⟩)
              all_goals
                go_roundw
                case rel => exact ⟨j + 1, by go_num, by omega, hB3, hE.below hb3 hb2, hL.trans (hb3.mono (by omega))⟩
                case measure => simp [intOf]; omega
            · obtain rfl : j = line.size := by omega
              go_wp2_with fail
              refine (mark_any B _ _ _ hB (by decide) (by omega)).mono ?_
              rintro e w3 ⟨rfl, hB3, hb3⟩
              have hE3 := hE.below hb3 hb2
              have hL3 := hL.trans (hb3.mono (by omega))
              clear hE hL hB hb3
              go_wp2_with fail
              go_loopw [14] (fun i wx => ∃ j : Nat, i = .int .i64 j ∧ j ≤ cc ∧ IsB B (8 + line.size + j) wx ∧ Err b k ll cc .empty wx ∧ Below b w wx) (fun i _ => cc - (intOf i).toNat)
              case atStart => exact ⟨0, rfl, by omega, by have e : 4 + line.size + 4 = 8 + line.size + 0 := by omega
                                                          rw [← e]; exact hB3, hE3, hL3⟩
              case round =>
                clear hB3 hE3 hL3
                obtain ⟨j, rfl, hj, hB, hE, hL⟩ := hrel
                have c3 := hE.c3
                by_cases hjl : j < cc
                · go_wp2_with (go_at_call 12; refine (byte_any B (8 + line.size + j) _ _ hB (by omega) (by omega) (by omega)).mono ?_; rintro e w3 ⟨rfl, hB3, hb3⟩)
                  go_roundw
                  case rel => exact ⟨j + 1, by go_num, by omega, hB3, hE.below hb3 hb2, hL.trans (hb3.mono (by omega))⟩
                  case measure => simp [intOf]; omega
                · go_wp2_with fail
                  refine (byte_any B _ _ _ hB (by omega) (by omega) (by omega)).mono ?_
                  rintro e w4 ⟨rfl, hB4, hb4⟩
                  have hE4 := hE.below hb4 hb2
                  have hL4 := hL.trans (hb4.mono (by omega))
                  clear hE hL hB hb4 c3
                  go_wp2_with fail
                  refine (told_any B _ _ hB4).mono ?_
                  rintro e w5 ⟨t, rfl, hb5⟩
                  have hE5 := hE4.below hb5 hb2
                  have hL5 := hL4.trans (hb5.mono (by omega))
                  have f5 := hE5.free 5
                  have c5 := hE5.c5
                  go_wp2_with fail
                  go_ret
                  exact ⟨rfl, t, by rw [HC.out, HLL.out]; exact hE5.setSnippet t, hL5.setCell (Nat.le_refl _) _⟩
        · go_wp2_with fail
          go_ret
          exact ⟨rfl, _, hE3.out, hbw2⟩
        · skip
          go_wp2_with fail
          refine (grow_any W2.heap.size _ _ (new_block _ _) (by omega) (by omega)).mono ?_
          rintro e w1 ⟨rfl, hB1, hb1⟩
          have hE1 := (hE3.out.alloc _).below hb1 hb2
          have hL1 := (hbw2.alloc (by omega) _).trans (hb1.mono (by omega))
          generalize hline : s.extract ls (ls + y) = line
          have hls3 : line.size ≤ 300 := by rw [← hline, ByteArray.size_extract]; omega
          clear hline
          generalize W2.heap.size = B at *
          generalize hcc : (place ((rs s).take k)).2 = cc at *
          generalize hll : (place ((rs s).take k)).1 = ll at *
          have HC := Lib.hid hcc
          have HLL := Lib.hid hll
          clear hcc hll HZ hI3 hE3 hbw2 hb1
          go_wp2_with fail
          refine (mark_any B 0 _ _ hB1 (by decide) (by omega)).mono ?_
          rintro e w2 ⟨rfl, hB2, hb2'⟩
          have hE2 := hE1.below hb2' hb2
          have hL2 := hL1.trans (hb2'.mono (by omega))
          clear hE1 hL1 hB1 hb2'
          go_wp2_with fail
          go_loopw [13] (fun i wx => ∃ j : Nat, i = .int .i64 j ∧ j ≤ line.size ∧ IsB B (4 + j) wx ∧ Err b k ll cc .empty wx ∧ Below b w wx) (fun i _ => line.size - (intOf i).toNat)
          case atStart => exact ⟨0, rfl, by omega, hB2, hE2, hL2⟩
          case round =>
            clear hB2 hE2 hL2
            obtain ⟨j, rfl, hj, hB, hE, hL⟩ := hrel
            by_cases hjl : j < line.size
            · have hby := line[j].toNat_lt
              go_wp2_with (go_at_call 12; refine (byte_any B (4 + j) _ _ hB (by omega) (by omega) (by omega)).mono ?_; rintro e w3 ⟨rfl, hB3, hb3⟩)
              all_goals
                go_roundw
                case rel => exact ⟨j + 1, by go_num, by omega, hB3, hE.below hb3 hb2, hL.trans (hb3.mono (by omega))⟩
                case measure => simp [intOf]; omega
            · obtain rfl : j = line.size := by omega
              go_wp2_with fail
              refine (mark_any B _ _ _ hB (by decide) (by omega)).mono ?_
              rintro e w3 ⟨rfl, hB3, hb3⟩
              have hE3 := hE.below hb3 hb2
              have hL3 := hL.trans (hb3.mono (by omega))
              clear hE hL hB hb3
              go_wp2_with fail
              go_loopw [14] (fun i wx => ∃ j : Nat, i = .int .i64 j ∧ j ≤ cc ∧ IsB B (8 + line.size + j) wx ∧ Err b k ll cc .empty wx ∧ Below b w wx) (fun i _ => cc - (intOf i).toNat)
              case atStart => exact ⟨0, rfl, by omega, by have e : 4 + line.size + 4 = 8 + line.size + 0 := by omega
                                                          rw [← e]; exact hB3, hE3, hL3⟩
              case round =>
                clear hB3 hE3 hL3
                obtain ⟨j, rfl, hj, hB, hE, hL⟩ := hrel
                have c3 := hE.c3
                by_cases hjl : j < cc
                · go_wp2_with (go_at_call 12; refine (byte_any B (8 + line.size + j) _ _ hB (by omega) (by omega) (by omega)).mono ?_; rintro e w3 ⟨rfl, hB3, hb3⟩)
                  go_roundw
                  case rel => exact ⟨j + 1, by go_num, by omega, hB3, hE.below hb3 hb2, hL.trans (hb3.mono (by omega))⟩
                  case measure => simp [intOf]; omega
                · go_wp2_with fail
                  refine (byte_any B _ _ _ hB (by omega) (by omega) (by omega)).mono ?_
                  rintro e w4 ⟨rfl, hB4, hb4⟩
                  have hE4 := hE.below hb4 hb2
                  have hL4 := hL.trans (hb4.mono (by omega))
                  clear hE hL hB hb4 c3
                  go_wp2_with fail
                  refine (told_any B _ _ hB4).mono ?_
                  rintro e w5 ⟨t, rfl, hb5⟩
                  have hE5 := hE4.below hb5 hb2
                  have hL5 := hL4.trans (hb5.mono (by omega))
                  have f5 := hE5.free 5
                  have c5 := hE5.c5
                  go_wp2_with fail
                  go_ret
                  exact ⟨rfl, t, by rw [HC.out, HLL.out]; exact hE5.setSnippet t, hL5.setCell (Nat.le_refl _) _⟩
      · have hlt' : k < n := by omega
        have hkb : ((k : Int) == (n : Int)) = false := by simp; omega
        have c2 := hE2.c2
        have c3 := hE2.c3
        have f2 := hE2.free 2
        have f3 := hE2.free 3
        have hpb := place_bd ((rs s).take k)
        have hpl : ((rs s).take k).length ≤ k := List.length_take_le _ _
        clear hE2
        by_cases hr : r = 10
        · have hrb : ((r : Int) == 10) = true := by simp; omega
          have hlc := lineS_line (place ((rs s).take k)) r hr
          rw [← place_snoc, ← HT.out] at hlc
          have HL := Lib.hid hlc; clear hlc
          go_wp2
          go_roundw
          case rel =>
            refine ⟨k + 1, pos + 1, pos + d, fuel - 1, by go_num, by go_num, by omega, by omega, by have := HF.out; omega, HD.out.symm, ?_, (hbw2.setCell (by simp) _).setCell (by simp) _, ?_⟩
            · rw [Below.heap_setCell _ _ _ _ (by simp; omega), Below.heap_setCell _ _ _ _ (by simp; omega)]; exact hI3.out
            · exact (hE3.out.setLineOf _ _ (by rw [HL.out.1]; omega)).setColumnOf _ _ (by rw [HL.out.2]; rfl)
          case measure =>
            rw [iterPos_of HIT.out, iterPos_of (p := pos + d) (s := s) (by rw [Below.heap_setCell _ _ _ _ (by simp; omega), Below.heap_setCell _ _ _ _ (by simp; omega)]; exact hI3.out)]
            omega
        · have hrb : ((r : Int) == 10) = false := by simp; omega
          have hlc := lineS_else (place ((rs s).take k)) r hr
          rw [← place_snoc, ← HT.out] at hlc
          have HL := Lib.hid hlc; clear hlc
          go_wp2
          go_roundw
          case rel =>
            refine ⟨k + 1, ls, pos + d, fuel - 1, by go_num, rfl, by omega, by omega, by have := HF.out; omega, HD.out.symm, ?_, hbw2.setCell (by simp) _, ?_⟩
            · rw [Below.heap_setCell _ _ _ _ (by simp; omega)]; exact hI3.out
            · rw [HL.out.1]; exact hE3.out.setColumnOf _ _ (by rw [HL.out.2]; omega)
          case measure =>
            rw [iterPos_of HIT.out, iterPos_of (p := pos + d) (s := s) (by rw [Below.heap_setCell _ _ _ _ (by simp; omega)]; exact hI3.out)]
            omega
    · exfalso
      rw [rl_end s fuel pos hp] at hdr
      have := congrArg List.length hdr
      simp at this
      omega

end Go.Proofs.Ytaoklcolodgklaa
