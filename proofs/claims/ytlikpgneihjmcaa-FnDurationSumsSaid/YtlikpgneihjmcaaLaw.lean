/-
  The law FnDurationSums returns true at every two amounts and every whole number.
  Conditions: none beyond what every Go value meets.
-/
import Derived.Test.YtlikpgneihjmcaaDoors
namespace Go.Proofs.Ytlikpgneihjmcaa
open Go.RowKit

set_option maxHeartbeats 2000000 in
set_option maxRecDepth 100000 in
theorem law_any (a b n : Int) (w : World) (hn : -2147483648 ≤ n ∧ n ≤ 2147483647) :
    Calls Try.prog 3 #[.int .i64 a, .int .i64 b, .int .i32 n] w (Out w (.bool true)) := by
  have hbw0 : Below w.heap.size w w := Below.refl _ _
  go_enter Try.func3, Try.ntmps3
  go_wp2_with fail
  clear hn
  generalize a.tmod 1099511627776 = A
  generalize b.tmod 1099511627776 = B
  generalize n.tmod 1048576 = K
  refine (span_any A _).mono ?_
  rintro e w1 ⟨rfl, hb1⟩
  have hbw1 : Below w.heap.size w w1 := hbw0.trans (hb1.mono hbw0.size)
  clear hb1 hbw0
  go_wp2_with fail
  refine (span_any B _).mono ?_
  rintro e w2 ⟨rfl, hb2⟩
  have hbw2 : Below w.heap.size w w2 := hbw1.trans (hb2.mono hbw1.size)
  clear hb2 hbw1
  go_wp2_with fail
  refine (door4 A B _).mono ?_
  rintro e w3 ⟨rfl, hb3⟩
  have hbw3 : Below w.heap.size w w3 := hbw2.trans (hb3.mono hbw2.size)
  clear hb3 hbw2
  have hP := new_block w3 (.cells #[.int .i64 25, .int .i64 (wrap64 (A + B)), .int .u64 0, .float .f64 0, .string ⟨#[]⟩, .bool false, .slice none 0 0, .slice none 0 0] 26)
  have hPl : w3.heap.size < (w3.alloc (.cells #[.int .i64 25, .int .i64 (wrap64 (A + B)), .int .u64 0, .float .f64 0, .string ⟨#[]⟩, .bool false, .slice none 0 0, .slice none 0 0] 26)).heap.size := by simp
  have hbx3 : Below w.heap.size w (w3.alloc (.cells #[.int .i64 25, .int .i64 (wrap64 (A + B)), .int .u64 0, .float .f64 0, .string ⟨#[]⟩, .bool false, .slice none 0 0, .slice none 0 0] 26)) := hbw3.alloc hbw3.size _
  clear hbw3
  go_wp2_with fail
  refine (span_any A _).mono ?_
  rintro e w4 ⟨rfl, hb4⟩
  have hbw4 : Below w.heap.size w w4 := hbx3.trans (hb4.mono hbx3.size)
  have hP4 : w4.heap[w3.heap.size]? = some (.cells #[.int .i64 25, .int .i64 (wrap64 (A + B)), .int .u64 0, .float .f64 0, .string ⟨#[]⟩, .bool false, .slice none 0 0, .slice none 0 0] 26 (0, 0)) := (hb4.block _ hPl).trans hP
  have hPl4 : w3.heap.size < w4.heap.size := Nat.lt_of_lt_of_le hPl hb4.size
  clear hP hPl; have hP := hP4; have hPl := hPl4; clear hP4 hPl4
  clear hb4 hbx3
  go_wp2_with fail
  refine (span_any B _).mono ?_
  rintro e w5 ⟨rfl, hb5⟩
  have hbw5 : Below w.heap.size w w5 := hbw4.trans (hb5.mono hbw4.size)
  have hP5 : w5.heap[w3.heap.size]? = some (.cells #[.int .i64 25, .int .i64 (wrap64 (A + B)), .int .u64 0, .float .f64 0, .string ⟨#[]⟩, .bool false, .slice none 0 0, .slice none 0 0] 26 (0, 0)) := (hb5.block _ hPl).trans hP
  have hPl5 : w3.heap.size < w5.heap.size := Nat.lt_of_lt_of_le hPl hb5.size
  clear hP hPl; have hP := hP5; have hPl := hPl5; clear hP5 hPl5
  clear hb5 hbw4
  go_wp2_with fail
  refine (door6 A B _).mono ?_
  rintro e w6 ⟨rfl, hb6⟩
  have hbw6 : Below w.heap.size w w6 := hbw5.trans (hb6.mono hbw5.size)
  have hP6 : w6.heap[w3.heap.size]? = some (.cells #[.int .i64 25, .int .i64 (wrap64 (A + B)), .int .u64 0, .float .f64 0, .string ⟨#[]⟩, .bool false, .slice none 0 0, .slice none 0 0] 26 (0, 0)) := (hb6.block _ hPl).trans hP
  have hPl6 : w3.heap.size < w6.heap.size := Nat.lt_of_lt_of_le hPl hb6.size
  clear hP hPl; have hP := hP6; have hPl := hPl6; clear hP6 hPl6
  clear hb6 hbw5
  have hQ := new_block w6 (.cells #[.int .i64 25, .int .i64 (wrap64 (A - B)), .int .u64 0, .float .f64 0, .string ⟨#[]⟩, .bool false, .slice none 0 0, .slice none 0 0] 26)
  have hQl : w6.heap.size < (w6.alloc (.cells #[.int .i64 25, .int .i64 (wrap64 (A - B)), .int .u64 0, .float .f64 0, .string ⟨#[]⟩, .bool false, .slice none 0 0, .slice none 0 0] 26)).heap.size := by simp
  have hPx : (w6.alloc (.cells #[.int .i64 25, .int .i64 (wrap64 (A - B)), .int .u64 0, .float .f64 0, .string ⟨#[]⟩, .bool false, .slice none 0 0, .slice none 0 0] 26)).heap[w3.heap.size]? = some (.cells #[.int .i64 25, .int .i64 (wrap64 (A + B)), .int .u64 0, .float .f64 0, .string ⟨#[]⟩, .bool false, .slice none 0 0, .slice none 0 0] 26 (0, 0)) := (Below.heap_alloc _ _ _ hPl).trans hP
  have hPy : w3.heap.size < (w6.alloc (.cells #[.int .i64 25, .int .i64 (wrap64 (A - B)), .int .u64 0, .float .f64 0, .string ⟨#[]⟩, .bool false, .slice none 0 0, .slice none 0 0] 26)).heap.size := by simp only [World.size_alloc]; omega
  clear hP hPl; have hP := hPx; have hPl := hPy; clear hPx hPy
  have hbx6 : Below w.heap.size w (w6.alloc (.cells #[.int .i64 25, .int .i64 (wrap64 (A - B)), .int .u64 0, .float .f64 0, .string ⟨#[]⟩, .bool false, .slice none 0 0, .slice none 0 0] 26)) := hbw6.alloc hbw6.size _
  clear hbw6
  go_wp2_with fail
  refine (span_any A _).mono ?_
  rintro e w7 ⟨rfl, hb7⟩
  have hbw7 : Below w.heap.size w w7 := hbx6.trans (hb7.mono hbx6.size)
  have hP7 : w7.heap[w3.heap.size]? = some (.cells #[.int .i64 25, .int .i64 (wrap64 (A + B)), .int .u64 0, .float .f64 0, .string ⟨#[]⟩, .bool false, .slice none 0 0, .slice none 0 0] 26 (0, 0)) := (hb7.block _ hPl).trans hP
  have hPl7 : w3.heap.size < w7.heap.size := Nat.lt_of_lt_of_le hPl hb7.size
  clear hP hPl; have hP := hP7; have hPl := hPl7; clear hP7 hPl7
  have hQ7 : w7.heap[w6.heap.size]? = some (.cells #[.int .i64 25, .int .i64 (wrap64 (A - B)), .int .u64 0, .float .f64 0, .string ⟨#[]⟩, .bool false, .slice none 0 0, .slice none 0 0] 26 (0, 0)) := (hb7.block _ hQl).trans hQ
  have hQl7 : w6.heap.size < w7.heap.size := Nat.lt_of_lt_of_le hQl hb7.size
  clear hQ hQl; have hQ := hQ7; have hQl := hQl7; clear hQ7 hQl7
  clear hb7 hbx6
  go_wp2_with fail
  refine (door7 A K _).mono ?_
  rintro e w8 ⟨rfl, hb8⟩
  have hbw8 : Below w.heap.size w w8 := hbw7.trans (hb8.mono hbw7.size)
  have hP8 : w8.heap[w3.heap.size]? = some (.cells #[.int .i64 25, .int .i64 (wrap64 (A + B)), .int .u64 0, .float .f64 0, .string ⟨#[]⟩, .bool false, .slice none 0 0, .slice none 0 0] 26 (0, 0)) := (hb8.block _ hPl).trans hP
  have hPl8 : w3.heap.size < w8.heap.size := Nat.lt_of_lt_of_le hPl hb8.size
  clear hP hPl; have hP := hP8; have hPl := hPl8; clear hP8 hPl8
  have hQ8 : w8.heap[w6.heap.size]? = some (.cells #[.int .i64 25, .int .i64 (wrap64 (A - B)), .int .u64 0, .float .f64 0, .string ⟨#[]⟩, .bool false, .slice none 0 0, .slice none 0 0] 26 (0, 0)) := (hb8.block _ hQl).trans hQ
  have hQl8 : w6.heap.size < w8.heap.size := Nat.lt_of_lt_of_le hQl hb8.size
  clear hQ hQl; have hQ := hQ8; have hQl := hQl8; clear hQ8 hQl8
  clear hb8 hbw7
  have hR := new_block w8 (.cells #[.int .i64 25, .int .i64 (wrap64 (A * K)), .int .u64 0, .float .f64 0, .string ⟨#[]⟩, .bool false, .slice none 0 0, .slice none 0 0] 26)
  have hRl : w8.heap.size < (w8.alloc (.cells #[.int .i64 25, .int .i64 (wrap64 (A * K)), .int .u64 0, .float .f64 0, .string ⟨#[]⟩, .bool false, .slice none 0 0, .slice none 0 0] 26)).heap.size := by simp
  have hPx : (w8.alloc (.cells #[.int .i64 25, .int .i64 (wrap64 (A * K)), .int .u64 0, .float .f64 0, .string ⟨#[]⟩, .bool false, .slice none 0 0, .slice none 0 0] 26)).heap[w3.heap.size]? = some (.cells #[.int .i64 25, .int .i64 (wrap64 (A + B)), .int .u64 0, .float .f64 0, .string ⟨#[]⟩, .bool false, .slice none 0 0, .slice none 0 0] 26 (0, 0)) := (Below.heap_alloc _ _ _ hPl).trans hP
  have hPy : w3.heap.size < (w8.alloc (.cells #[.int .i64 25, .int .i64 (wrap64 (A * K)), .int .u64 0, .float .f64 0, .string ⟨#[]⟩, .bool false, .slice none 0 0, .slice none 0 0] 26)).heap.size := by simp only [World.size_alloc]; omega
  clear hP hPl; have hP := hPx; have hPl := hPy; clear hPx hPy
  have hQx : (w8.alloc (.cells #[.int .i64 25, .int .i64 (wrap64 (A * K)), .int .u64 0, .float .f64 0, .string ⟨#[]⟩, .bool false, .slice none 0 0, .slice none 0 0] 26)).heap[w6.heap.size]? = some (.cells #[.int .i64 25, .int .i64 (wrap64 (A - B)), .int .u64 0, .float .f64 0, .string ⟨#[]⟩, .bool false, .slice none 0 0, .slice none 0 0] 26 (0, 0)) := (Below.heap_alloc _ _ _ hQl).trans hQ
  have hQy : w6.heap.size < (w8.alloc (.cells #[.int .i64 25, .int .i64 (wrap64 (A * K)), .int .u64 0, .float .f64 0, .string ⟨#[]⟩, .bool false, .slice none 0 0, .slice none 0 0] 26)).heap.size := by simp only [World.size_alloc]; omega
  clear hQ hQl; have hQ := hQx; have hQl := hQy; clear hQx hQy
  have hbx8 : Below w.heap.size w (w8.alloc (.cells #[.int .i64 25, .int .i64 (wrap64 (A * K)), .int .u64 0, .float .f64 0, .string ⟨#[]⟩, .bool false, .slice none 0 0, .slice none 0 0] 26)) := hbw8.alloc hbw8.size _
  clear hbw8
  go_wp2_with fail
  refine (span_any A _).mono ?_
  rintro e w9 ⟨rfl, hb9⟩
  have hbw9 : Below w.heap.size w w9 := hbx8.trans (hb9.mono hbx8.size)
  have hP9 : w9.heap[w3.heap.size]? = some (.cells #[.int .i64 25, .int .i64 (wrap64 (A + B)), .int .u64 0, .float .f64 0, .string ⟨#[]⟩, .bool false, .slice none 0 0, .slice none 0 0] 26 (0, 0)) := (hb9.block _ hPl).trans hP
  have hPl9 : w3.heap.size < w9.heap.size := Nat.lt_of_lt_of_le hPl hb9.size
  clear hP hPl; have hP := hP9; have hPl := hPl9; clear hP9 hPl9
  have hQ9 : w9.heap[w6.heap.size]? = some (.cells #[.int .i64 25, .int .i64 (wrap64 (A - B)), .int .u64 0, .float .f64 0, .string ⟨#[]⟩, .bool false, .slice none 0 0, .slice none 0 0] 26 (0, 0)) := (hb9.block _ hQl).trans hQ
  have hQl9 : w6.heap.size < w9.heap.size := Nat.lt_of_lt_of_le hQl hb9.size
  clear hQ hQl; have hQ := hQ9; have hQl := hQl9; clear hQ9 hQl9
  have hR9 : w9.heap[w8.heap.size]? = some (.cells #[.int .i64 25, .int .i64 (wrap64 (A * K)), .int .u64 0, .float .f64 0, .string ⟨#[]⟩, .bool false, .slice none 0 0, .slice none 0 0] 26 (0, 0)) := (hb9.block _ hRl).trans hR
  have hRl9 : w8.heap.size < w9.heap.size := Nat.lt_of_lt_of_le hRl hb9.size
  clear hR hRl; have hR := hR9; have hRl := hRl9; clear hR9 hRl9
  clear hb9 hbx8
  go_wp2_with fail
  refine (span_any B _).mono ?_
  rintro e w10 ⟨rfl, hb10⟩
  have hbw10 : Below w.heap.size w w10 := hbw9.trans (hb10.mono hbw9.size)
  have hP10 : w10.heap[w3.heap.size]? = some (.cells #[.int .i64 25, .int .i64 (wrap64 (A + B)), .int .u64 0, .float .f64 0, .string ⟨#[]⟩, .bool false, .slice none 0 0, .slice none 0 0] 26 (0, 0)) := (hb10.block _ hPl).trans hP
  have hPl10 : w3.heap.size < w10.heap.size := Nat.lt_of_lt_of_le hPl hb10.size
  clear hP hPl; have hP := hP10; have hPl := hPl10; clear hP10 hPl10
  have hQ10 : w10.heap[w6.heap.size]? = some (.cells #[.int .i64 25, .int .i64 (wrap64 (A - B)), .int .u64 0, .float .f64 0, .string ⟨#[]⟩, .bool false, .slice none 0 0, .slice none 0 0] 26 (0, 0)) := (hb10.block _ hQl).trans hQ
  have hQl10 : w6.heap.size < w10.heap.size := Nat.lt_of_lt_of_le hQl hb10.size
  clear hQ hQl; have hQ := hQ10; have hQl := hQl10; clear hQ10 hQl10
  have hR10 : w10.heap[w8.heap.size]? = some (.cells #[.int .i64 25, .int .i64 (wrap64 (A * K)), .int .u64 0, .float .f64 0, .string ⟨#[]⟩, .bool false, .slice none 0 0, .slice none 0 0] 26 (0, 0)) := (hb10.block _ hRl).trans hR
  have hRl10 : w8.heap.size < w10.heap.size := Nat.lt_of_lt_of_le hRl hb10.size
  clear hR hRl; have hR := hR10; have hRl := hRl10; clear hR10 hRl10
  clear hb10 hbw9
  go_wp2_with fail
  refine (door8 A B _).mono ?_
  rintro e w11 ⟨rfl, hb11⟩
  have hbw11 : Below w.heap.size w w11 := hbw10.trans (hb11.mono hbw10.size)
  have hP11 : w11.heap[w3.heap.size]? = some (.cells #[.int .i64 25, .int .i64 (wrap64 (A + B)), .int .u64 0, .float .f64 0, .string ⟨#[]⟩, .bool false, .slice none 0 0, .slice none 0 0] 26 (0, 0)) := (hb11.block _ hPl).trans hP
  have hPl11 : w3.heap.size < w11.heap.size := Nat.lt_of_lt_of_le hPl hb11.size
  clear hP hPl; have hP := hP11; have hPl := hPl11; clear hP11 hPl11
  have hQ11 : w11.heap[w6.heap.size]? = some (.cells #[.int .i64 25, .int .i64 (wrap64 (A - B)), .int .u64 0, .float .f64 0, .string ⟨#[]⟩, .bool false, .slice none 0 0, .slice none 0 0] 26 (0, 0)) := (hb11.block _ hQl).trans hQ
  have hQl11 : w6.heap.size < w11.heap.size := Nat.lt_of_lt_of_le hQl hb11.size
  clear hQ hQl; have hQ := hQ11; have hQl := hQl11; clear hQ11 hQl11
  have hR11 : w11.heap[w8.heap.size]? = some (.cells #[.int .i64 25, .int .i64 (wrap64 (A * K)), .int .u64 0, .float .f64 0, .string ⟨#[]⟩, .bool false, .slice none 0 0, .slice none 0 0] 26 (0, 0)) := (hb11.block _ hRl).trans hR
  have hRl11 : w8.heap.size < w11.heap.size := Nat.lt_of_lt_of_le hRl hb11.size
  clear hR hRl; have hR := hR11; have hRl := hRl11; clear hR11 hRl11
  clear hb11 hbw10
  go_wp2_with fail
  refine (span_any A _).mono ?_
  rintro e w12 ⟨rfl, hb12⟩
  have hbw12 : Below w.heap.size w w12 := hbw11.trans (hb12.mono hbw11.size)
  have hP12 : w12.heap[w3.heap.size]? = some (.cells #[.int .i64 25, .int .i64 (wrap64 (A + B)), .int .u64 0, .float .f64 0, .string ⟨#[]⟩, .bool false, .slice none 0 0, .slice none 0 0] 26 (0, 0)) := (hb12.block _ hPl).trans hP
  have hPl12 : w3.heap.size < w12.heap.size := Nat.lt_of_lt_of_le hPl hb12.size
  clear hP hPl; have hP := hP12; have hPl := hPl12; clear hP12 hPl12
  have hQ12 : w12.heap[w6.heap.size]? = some (.cells #[.int .i64 25, .int .i64 (wrap64 (A - B)), .int .u64 0, .float .f64 0, .string ⟨#[]⟩, .bool false, .slice none 0 0, .slice none 0 0] 26 (0, 0)) := (hb12.block _ hQl).trans hQ
  have hQl12 : w6.heap.size < w12.heap.size := Nat.lt_of_lt_of_le hQl hb12.size
  clear hQ hQl; have hQ := hQ12; have hQl := hQl12; clear hQ12 hQl12
  have hR12 : w12.heap[w8.heap.size]? = some (.cells #[.int .i64 25, .int .i64 (wrap64 (A * K)), .int .u64 0, .float .f64 0, .string ⟨#[]⟩, .bool false, .slice none 0 0, .slice none 0 0] 26 (0, 0)) := (hb12.block _ hRl).trans hR
  have hRl12 : w8.heap.size < w12.heap.size := Nat.lt_of_lt_of_le hRl hb12.size
  clear hR hRl; have hR := hR12; have hRl := hRl12; clear hR12 hRl12
  clear hb12 hbw11
  go_wp2_with fail
  refine (span_any B _).mono ?_
  rintro e w13 ⟨rfl, hb13⟩
  have hbw13 : Below w.heap.size w w13 := hbw12.trans (hb13.mono hbw12.size)
  have hP13 : w13.heap[w3.heap.size]? = some (.cells #[.int .i64 25, .int .i64 (wrap64 (A + B)), .int .u64 0, .float .f64 0, .string ⟨#[]⟩, .bool false, .slice none 0 0, .slice none 0 0] 26 (0, 0)) := (hb13.block _ hPl).trans hP
  have hPl13 : w3.heap.size < w13.heap.size := Nat.lt_of_lt_of_le hPl hb13.size
  clear hP hPl; have hP := hP13; have hPl := hPl13; clear hP13 hPl13
  have hQ13 : w13.heap[w6.heap.size]? = some (.cells #[.int .i64 25, .int .i64 (wrap64 (A - B)), .int .u64 0, .float .f64 0, .string ⟨#[]⟩, .bool false, .slice none 0 0, .slice none 0 0] 26 (0, 0)) := (hb13.block _ hQl).trans hQ
  have hQl13 : w6.heap.size < w13.heap.size := Nat.lt_of_lt_of_le hQl hb13.size
  clear hQ hQl; have hQ := hQ13; have hQl := hQl13; clear hQ13 hQl13
  have hR13 : w13.heap[w8.heap.size]? = some (.cells #[.int .i64 25, .int .i64 (wrap64 (A * K)), .int .u64 0, .float .f64 0, .string ⟨#[]⟩, .bool false, .slice none 0 0, .slice none 0 0] 26 (0, 0)) := (hb13.block _ hRl).trans hR
  have hRl13 : w8.heap.size < w13.heap.size := Nat.lt_of_lt_of_le hRl hb13.size
  clear hR hRl; have hR := hR13; have hRl := hRl13; clear hR13 hRl13
  clear hb13 hbw12
  go_wp2_with fail
  refine (door9 A B _).mono ?_
  rintro e w14 ⟨rfl, hb14⟩
  have hbw14 : Below w.heap.size w w14 := hbw13.trans (hb14.mono hbw13.size)
  have hP14 : w14.heap[w3.heap.size]? = some (.cells #[.int .i64 25, .int .i64 (wrap64 (A + B)), .int .u64 0, .float .f64 0, .string ⟨#[]⟩, .bool false, .slice none 0 0, .slice none 0 0] 26 (0, 0)) := (hb14.block _ hPl).trans hP
  have hPl14 : w3.heap.size < w14.heap.size := Nat.lt_of_lt_of_le hPl hb14.size
  clear hP hPl; have hP := hP14; have hPl := hPl14; clear hP14 hPl14
  have hQ14 : w14.heap[w6.heap.size]? = some (.cells #[.int .i64 25, .int .i64 (wrap64 (A - B)), .int .u64 0, .float .f64 0, .string ⟨#[]⟩, .bool false, .slice none 0 0, .slice none 0 0] 26 (0, 0)) := (hb14.block _ hQl).trans hQ
  have hQl14 : w6.heap.size < w14.heap.size := Nat.lt_of_lt_of_le hQl hb14.size
  clear hQ hQl; have hQ := hQ14; have hQl := hQl14; clear hQ14 hQl14
  have hR14 : w14.heap[w8.heap.size]? = some (.cells #[.int .i64 25, .int .i64 (wrap64 (A * K)), .int .u64 0, .float .f64 0, .string ⟨#[]⟩, .bool false, .slice none 0 0, .slice none 0 0] 26 (0, 0)) := (hb14.block _ hRl).trans hR
  have hRl14 : w8.heap.size < w14.heap.size := Nat.lt_of_lt_of_le hRl hb14.size
  clear hR hRl; have hR := hR14; have hRl := hRl14; clear hR14 hRl14
  clear hb14 hbw13
  have hP0 : w14.cell? ⟨w3.heap.size, 0, none⟩ = some (.int .i64 25) := (cells_of hP).1
  have hP1 : w14.cell? ⟨w3.heap.size, 1, none⟩ = some (.int .i64 (wrap64 (A + B))) := (cells_of hP).2.1
  clear hP hPl
  have hQ0 : w14.cell? ⟨w6.heap.size, 0, none⟩ = some (.int .i64 25) := (cells_of hQ).1
  have hQ1 : w14.cell? ⟨w6.heap.size, 1, none⟩ = some (.int .i64 (wrap64 (A - B))) := (cells_of hQ).2.1
  clear hQ hQl
  have hR0 : w14.cell? ⟨w8.heap.size, 0, none⟩ = some (.int .i64 25) := (cells_of hR).1
  have hR1 : w14.cell? ⟨w8.heap.size, 1, none⟩ = some (.int .i64 (wrap64 (A * K))) := (cells_of hR).2.1
  clear hR hRl
  go_wp2
  go_ret
  exact ⟨rfl, hbw14⟩

end Go.Proofs.Ytlikpgneihjmcaa
