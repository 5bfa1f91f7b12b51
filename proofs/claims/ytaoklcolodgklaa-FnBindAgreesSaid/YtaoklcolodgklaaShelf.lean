/-
  The contracts of Go's strings.Builder (Grow, WriteString, WriteByte, String) and of strings.IndexByte at this dump's numbers.
  Conditions: each contract bears its own. Laid out by the shelf's tool, three layings by hand.
-/
import Derived.Shelf.Strings.Builder2
import Derived.Shelf.Small.Strs
import Derived.Shelf.Strings.BuilderK
import Derived.Test.YtaoklcolodgklaaProg
namespace Go.Proofs.Ytaoklcolodgklaa
open Go.Shelf Go.RowKit
def Try.laysB_ren : Go.Shelf.Ren := ⟨fun | 165 => 10 | 166 => 11 | 167 => 12 | 169 => 13 | 240 => 15 | 241 => 16 | 276 => 18 | 277 => 19 | n => n, fun | 70 => 42 | 3 => 3 | 0 => 0 | 4 => 4 | 9 => 9 | 20 => 20 | 72 => 45 | 37 => 43 | 164 => 51 | 5 => 5 | 75 => 33 | 80 => 40 | 127 => 50 | n => n, fun | n => n⟩
theorem Try.lays165 : Go.Proofs.Lays.n165 Try.prog Try.laysB_ren := {
  mixed := by kernel_rfl
  f165 := Try.func10.trans (congrArg some (by kernel_rfl))
  f240 := Try.func15.trans (congrArg some (by kernel_rfl))
  f241 := Try.func16.trans (congrArg some (by kernel_rfl))
  f276 := Try.func18.trans (congrArg some (by kernel_rfl))
  f277 := Try.func19.trans (congrArg some (by kernel_rfl))
  t0 := Try.underlying0
  a0 := Try.isAgg0
  z0 := Try.sizeOf0
  v0 := Try.zeroValue0
  t3 := Try.underlying3
  a3 := Try.isAgg3
  z3 := Try.sizeOf3
  v3 := Try.zeroValue3
  t4 := Try.underlying4
  a4 := Try.isAgg4
  z4 := Try.sizeOf4
  v4 := Try.zeroValue4
  t9 := Try.underlying9
  a9 := Try.isAgg9
  z9 := Try.sizeOf9
  v9 := Try.zeroValue9
  t20 := Try.underlying20
  a20 := Try.isAgg20
  z20 := Try.sizeOf20
  v20 := Try.zeroValue20
  t37 := Try.underlying43
  a37 := Try.isAgg43
  z37 := Try.sizeOf43
  v37 := Try.zeroValue43
  t70 := Try.underlying42
  a70 := Try.isAgg42
  z70 := Try.sizeOf42
  v70 := Try.zeroValue42
  t72 := Try.underlying45
  a72 := Try.isAgg45
  z72 := Try.sizeOf45
  v72 := Try.zeroValue45
  t164 := Try.underlying51
  a164 := Try.isAgg51
  z164 := Try.sizeOf51
  v164 := Try.zeroValue51 }
theorem Try.lays166 : Go.Proofs.Lays.n166 Try.prog Try.laysB_ren := {
  mixed := by kernel_rfl
  f166 := Try.func11.trans (congrArg some (by kernel_rfl))
  f240 := Try.func15.trans (congrArg some (by kernel_rfl))
  f276 := Try.func18.trans (congrArg some (by kernel_rfl))
  t0 := Try.underlying0
  a0 := Try.isAgg0
  z0 := Try.sizeOf0
  v0 := Try.zeroValue0
  t3 := Try.underlying3
  a3 := Try.isAgg3
  z3 := Try.sizeOf3
  v3 := Try.zeroValue3
  t4 := Try.underlying4
  a4 := Try.isAgg4
  z4 := Try.sizeOf4
  v4 := Try.zeroValue4
  t9 := Try.underlying9
  a9 := Try.isAgg9
  z9 := Try.sizeOf9
  v9 := Try.zeroValue9
  t20 := Try.underlying20
  a20 := Try.isAgg20
  z20 := Try.sizeOf20
  v20 := Try.zeroValue20
  t37 := Try.underlying43
  a37 := Try.isAgg43
  z37 := Try.sizeOf43
  v37 := Try.zeroValue43
  t70 := Try.underlying42
  a70 := Try.isAgg42
  z70 := Try.sizeOf42
  v70 := Try.zeroValue42
  t72 := Try.underlying45
  a72 := Try.isAgg45
  z72 := Try.sizeOf45
  v72 := Try.zeroValue45
  t75 := Try.underlying33
  a75 := Try.isAgg33
  z75 := Try.sizeOf33
  v75 := Try.zeroValue33
  t164 := Try.underlying51
  a164 := Try.isAgg51
  z164 := Try.sizeOf51
  v164 := Try.zeroValue51 }
theorem Try.lays167 : Go.Proofs.Lays.n167 Try.prog Try.laysB_ren := {
  mixed := by kernel_rfl
  f167 := Try.func12.trans (congrArg some (by kernel_rfl))
  f240 := Try.func15.trans (congrArg some (by kernel_rfl))
  f276 := Try.func18.trans (congrArg some (by kernel_rfl))
  t0 := Try.underlying0
  a0 := Try.isAgg0
  z0 := Try.sizeOf0
  v0 := Try.zeroValue0
  t4 := Try.underlying4
  a4 := Try.isAgg4
  z4 := Try.sizeOf4
  v4 := Try.zeroValue4
  t5 := Try.underlying5
  a5 := Try.isAgg5
  z5 := Try.sizeOf5
  v5 := Try.zeroValue5
  t9 := Try.underlying9
  a9 := Try.isAgg9
  z9 := Try.sizeOf9
  v9 := Try.zeroValue9
  t20 := Try.underlying20
  a20 := Try.isAgg20
  z20 := Try.sizeOf20
  v20 := Try.zeroValue20
  t37 := Try.underlying43
  a37 := Try.isAgg43
  z37 := Try.sizeOf43
  v37 := Try.zeroValue43
  t70 := Try.underlying42
  a70 := Try.isAgg42
  z70 := Try.sizeOf42
  v70 := Try.zeroValue42
  t72 := Try.underlying45
  a72 := Try.isAgg45
  z72 := Try.sizeOf45
  v72 := Try.zeroValue45
  t75 := Try.underlying33
  a75 := Try.isAgg33
  z75 := Try.sizeOf33
  v75 := Try.zeroValue33
  t164 := Try.underlying51
  a164 := Try.isAgg51
  z164 := Try.sizeOf51
  v164 := Try.zeroValue51 }
theorem Try.lays169 : Go.Proofs.Lays.n169 Try.prog Try.laysB_ren := {
  mixed := by kernel_rfl
  f169 := Try.func13.trans (congrArg some (by kernel_rfl))
  t0 := Try.underlying0
  a0 := Try.isAgg0
  z0 := Try.sizeOf0
  v0 := Try.zeroValue0
  t3 := Try.underlying3
  a3 := Try.isAgg3
  z3 := Try.sizeOf3
  v3 := Try.zeroValue3
  t9 := Try.underlying9
  a9 := Try.isAgg9
  z9 := Try.sizeOf9
  v9 := Try.zeroValue9
  t37 := Try.underlying43
  a37 := Try.isAgg43
  z37 := Try.sizeOf43
  v37 := Try.zeroValue43
  t70 := Try.underlying42
  a70 := Try.isAgg42
  z70 := Try.sizeOf42
  v70 := Try.zeroValue42
  t72 := Try.underlying45
  a72 := Try.isAgg45
  z72 := Try.sizeOf45
  v72 := Try.zeroValue45
  t127 := Try.underlying50
  a127 := Try.isAgg50
  z127 := Try.sizeOf50
  v127 := Try.zeroValue50 }
theorem Try.ExtraB : Builder.Extra Try.prog Try.laysB_ren := {
  sizeBuilder := by kernel_rfl
  liesBuilder := by kernel_rfl
  t5 := Try.underlying5
  a5 := Try.isAgg5
  z5 := Try.sizeOf5
  v5 := Try.zeroValue5
  infoByte := by kernel_rfl
  cellsByte := by kernel_rfl
  sizeByte := by kernel_rfl
  neB5 := by decide }
def Try.lays137_ren : Go.Shelf.Ren := ⟨fun | 137 => 9 | 217 => 14 | 266 => 17 | n => n, fun | 9 => 9 | 5 => 5 | 3 => 3 | n => n, fun | n => n⟩
theorem Try.lays137 : Go.Proofs.Lays.n137 Try.prog Try.lays137_ren := {
  mixed := by kernel_rfl
  f137 := Try.func9.trans (congrArg some (by kernel_rfl))
  f217 := Try.func14.trans (congrArg some (by kernel_rfl))
  f266 := Try.func17.trans (congrArg some (by kernel_rfl))
  t3 := Try.underlying3
  a3 := Try.isAgg3
  z3 := Try.sizeOf3
  v3 := Try.zeroValue3
  t5 := Try.underlying5
  a5 := Try.isAgg5
  z5 := Try.sizeOf5
  v5 := Try.zeroValue5
  t9 := Try.underlying9
  a9 := Try.isAgg9
  z9 := Try.sizeOf9
  v9 := Try.zeroValue9 }

/-- (*strings.Builder).Grow at a builder that has not been written. -/
theorem Try.Builder_Grow (B b n : Nat) (w : World) (hB : B ≤ b) (hbk : w.heap[b]? = some (.cells #[.pointer none, .slice none 0 0] 45 (0, 0))) (hBw : B ≤ w.heap.size) (hn : n ≤ 281474976710656) :
    Calls Try.prog 10 #[.pointer (some ⟨b, 0, none⟩), .int .i64 n] w fun e w' => e = .returned (.tuple #[]) ∧ (Lib.BuilderAt 45 5 B b (.pointer (some ⟨b, 0, none⟩)) [] w' ∧ Below B w w') := Any.Builder_Grow_fresh Try.lays165 Try.ExtraB B b n w hB hbk hBw hn
/-- (*strings.Builder).WriteString. -/
theorem Try.Builder_WriteString (B b : Nat) (bs : List Value) (s : ByteArray) (w : World) (h : Lib.IsBuilderF 45 5 B b bs w) (hlen : bs.length + s.size ≤ 140737488355328) (hBw : B ≤ w.heap.size) :
    Calls Try.prog 11 #[.pointer (some ⟨b, 0, none⟩), .string s] w fun e w' => e = .returned (.tuple #[.int .i64 s.size, .nilIface]) ∧ (Lib.BuilderAtF 45 5 B b (.pointer (some ⟨b, 0, none⟩)) (bs ++ Lib.strCells s) w' ∧ Below B w w' ∧ Lib.OthersKept 5 (some b) w w') := Any.Builder_WriteString_k Try.lays166 Try.ExtraB B b bs s w h hlen hBw
/-- (*strings.Builder).WriteByte. -/
theorem Try.Builder_WriteByte (B b : Nat) (bs : List Value) (c : Int) (w : World) (h : Lib.IsBuilderF 45 5 B b bs w) (hlen : bs.length + 1 ≤ 140737488355328) (hBw : B ≤ w.heap.size) :
    Calls Try.prog 12 #[.pointer (some ⟨b, 0, none⟩), .int .u8 c] w fun e w' => e = .returned .nilIface ∧ (Lib.BuilderAtF 45 5 B b (.pointer (some ⟨b, 0, none⟩)) (bs ++ [.int .u8 c]) w' ∧ Below B w w' ∧ Lib.OthersKept 5 (some b) w w') := Any.Builder_WriteByte_k Try.lays167 Try.ExtraB B b bs c w h hlen hBw
/-- (*strings.Builder).String. -/
theorem Try.Builder_String (B b : Nat) (l : List UInt8) (w : World) (h : Lib.IsBuilderF 45 5 B b (Lib.byteCells l) w) (hBw : B ≤ w.heap.size) :
    Calls Try.prog 13 #[.pointer (some ⟨b, 0, none⟩)] w fun e w' => e = .returned (.string ⟨l.toArray⟩) ∧ (Lib.IsBuilderF 45 5 B b (Lib.byteCells l) w' ∧ Below B w w' ∧ Lib.OthersKept 5 (some b) w w') := Any.Builder_String_any_k Try.lays169 Try.ExtraB B b l w h hBw
theorem Try.strings_IndexByte (s : ByteArray) (c : Int) (w : World) :
    Calls Try.prog 9 #[.string s, .int .u8 c] w fun e w' => e = .returned (.int .i64 (Lib.indexByte s.data.toList c.toNat.toUInt8)) ∧ w' = w := Any.strings_IndexByte Try.lays137 s c w
end Go.Proofs.Ytaoklcolodgklaa
