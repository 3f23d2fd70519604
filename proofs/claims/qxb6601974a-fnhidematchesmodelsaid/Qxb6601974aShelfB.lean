/-
  strings.Builder at this program: the contracts of the shelf, laid in plain words by the kit for this dump.
-/
import Derived.Shelf.Strings.Builder1
import Derived.Test.Qxb6601974aProg
namespace Go.Proofs
open Go.Shelf
def Try.lays169_ren : Go.Shelf.Ren := ⟨fun | 169 => 29 | n => n, fun | 70 => 41 | 9 => 9 | 0 => 0 | 72 => 44 | 37 => 42 | 127 => 53 | 3 => 3 | 5 => 5 | n => n, fun | n => n⟩
theorem Try.lays169 : Go.Proofs.Lays.n169 Try.prog Try.lays169_ren := {
  mixed := by kernel_rfl
  f169 := Try.func29.trans (congrArg some (by kernel_rfl))
  t0 := Try.underlying0
  a0 := Try.isAgg0
  z0 := Try.sizeOf0
  v0 := Try.zeroValue0
  t3 := Try.underlying3
  a3 := Try.isAgg3
  z3 := Try.sizeOf3
  v3 := Try.zeroValue3
  t9 := Try.underlying9
  a9 := Try.isAgg9
  z9 := Try.sizeOf9
  v9 := Try.zeroValue9
  t37 := Try.underlying42
  a37 := Try.isAgg42
  z37 := Try.sizeOf42
  v37 := Try.zeroValue42
  t70 := Try.underlying41
  a70 := Try.isAgg41
  z70 := Try.sizeOf41
  v70 := Try.zeroValue41
  t72 := Try.underlying44
  a72 := Try.isAgg44
  z72 := Try.sizeOf44
  v72 := Try.zeroValue44
  t127 := Try.underlying53
  a127 := Try.isAgg53
  z127 := Try.sizeOf53
  v127 := Try.zeroValue53 }
theorem Try.Builder_Extra_169 : Builder.Extra Try.prog Try.lays169_ren := {
  sizeBuilder := by kernel_rfl
  liesBuilder := by kernel_rfl
  t5 := Try.underlying5
  a5 := Try.isAgg5
  z5 := Try.sizeOf5
  v5 := Try.zeroValue5
  infoByte := by kernel_rfl
  cellsByte := by kernel_rfl
  sizeByte := by kernel_rfl
  neB5 := by decide }
open Go.RowKit in
/-- (*strings.Builder).String: "String returns the accumulated string.": WHATEVER THE BUILDER HOLDS. (LAID: no walk: one application.) -/
theorem Try.Builder_String_any (B b : Nat) (l : List UInt8) (w : World) (h : Lib.IsBuilder 44 5 B b (Lib.byteCells l) w) (hBw : B ≤ w.heap.size) :
    Calls Try.prog 29 #[.pointer (some ⟨b, 0, none⟩)] w fun e w' => e = .returned (.string ⟨l.toArray⟩) ∧ Below B w w' := Any.Builder_String_any Try.lays169 Try.Builder_Extra_169 B b l w h hBw
def Try.laysB_ren : Go.Shelf.Ren := ⟨fun | 166 => 28 | 167 => 27 | 240 => 32 | 276 => 34 | n => n, fun | 0 => 0 | 3 => 3 | 4 => 4 | 5 => 5 | 9 => 9 | 20 => 20 | 37 => 42 | 70 => 41 | 72 => 44 | 75 => 46 | 80 => 50 | 164 => 54 | n => n, fun | n => n⟩
theorem Try.lays167 : Go.Proofs.Lays.n167 Try.prog Try.laysB_ren := {
  mixed := by kernel_rfl
  f167 := Try.func27.trans (congrArg some (by kernel_rfl))
  f240 := Try.func32.trans (congrArg some (by kernel_rfl))
  f276 := Try.func34.trans (congrArg some (by kernel_rfl))
  t0 := Try.underlying0
  a0 := Try.isAgg0
  z0 := Try.sizeOf0
  v0 := Try.zeroValue0
  t4 := Try.underlying4
  a4 := Try.isAgg4
  z4 := Try.sizeOf4
  v4 := Try.zeroValue4
  t5 := Try.underlying5
  a5 := Try.isAgg5
  z5 := Try.sizeOf5
  v5 := Try.zeroValue5
  t9 := Try.underlying9
  a9 := Try.isAgg9
  z9 := Try.sizeOf9
  v9 := Try.zeroValue9
  t20 := Try.underlying20
  a20 := Try.isAgg20
  z20 := Try.sizeOf20
  v20 := Try.zeroValue20
  t37 := Try.underlying42
  a37 := Try.isAgg42
  z37 := Try.sizeOf42
  v37 := Try.zeroValue42
  t70 := Try.underlying41
  a70 := Try.isAgg41
  z70 := Try.sizeOf41
  v70 := Try.zeroValue41
  t72 := Try.underlying44
  a72 := Try.isAgg44
  z72 := Try.sizeOf44
  v72 := Try.zeroValue44
  t75 := Try.underlying46
  a75 := Try.isAgg46
  z75 := Try.sizeOf46
  v75 := Try.zeroValue46
  t164 := Try.underlying54
  a164 := Try.isAgg54
  z164 := Try.sizeOf54
  v164 := Try.zeroValue54 }
theorem Try.lays166 : Go.Proofs.Lays.n166 Try.prog Try.laysB_ren := {
  mixed := by kernel_rfl
  f166 := Try.func28.trans (congrArg some (by kernel_rfl))
  f240 := Try.func32.trans (congrArg some (by kernel_rfl))
  f276 := Try.func34.trans (congrArg some (by kernel_rfl))
  t0 := Try.underlying0
  a0 := Try.isAgg0
  z0 := Try.sizeOf0
  v0 := Try.zeroValue0
  t3 := Try.underlying3
  a3 := Try.isAgg3
  z3 := Try.sizeOf3
  v3 := Try.zeroValue3
  t4 := Try.underlying4
  a4 := Try.isAgg4
  z4 := Try.sizeOf4
  v4 := Try.zeroValue4
  t9 := Try.underlying9
  a9 := Try.isAgg9
  z9 := Try.sizeOf9
  v9 := Try.zeroValue9
  t20 := Try.underlying20
  a20 := Try.isAgg20
  z20 := Try.sizeOf20
  v20 := Try.zeroValue20
  t37 := Try.underlying42
  a37 := Try.isAgg42
  z37 := Try.sizeOf42
  v37 := Try.zeroValue42
  t70 := Try.underlying41
  a70 := Try.isAgg41
  z70 := Try.sizeOf41
  v70 := Try.zeroValue41
  t72 := Try.underlying44
  a72 := Try.isAgg44
  z72 := Try.sizeOf44
  v72 := Try.zeroValue44
  t75 := Try.underlying46
  a75 := Try.isAgg46
  z75 := Try.sizeOf46
  v75 := Try.zeroValue46
  t164 := Try.underlying54
  a164 := Try.isAgg54
  z164 := Try.sizeOf54
  v164 := Try.zeroValue54 }
theorem Try.Builder_Extra_B : Builder.Extra Try.prog Try.laysB_ren := {
  sizeBuilder := by kernel_rfl
  liesBuilder := by kernel_rfl
  t5 := Try.underlying5
  a5 := Try.isAgg5
  z5 := Try.sizeOf5
  v5 := Try.zeroValue5
  infoByte := by kernel_rfl
  cellsByte := by kernel_rfl
  sizeByte := by kernel_rfl
  neB5 := by decide }
open Go.RowKit in
theorem Try.Builder_WriteByte (B b : Nat) (bs : List Value) (c : Int) (w : World) (h : Lib.IsBuilder 44 5 B b bs w) (hlen : bs.length + 1 ≤ 140737488355328) (hBw : B ≤ w.heap.size) :
    Calls Try.prog 27 #[.pointer (some ⟨b, 0, none⟩), .int .u8 c] w fun e w' => e = .returned .nilIface ∧ (Lib.BuilderAt 44 5 B b (.pointer (some ⟨b, 0, none⟩)) (bs ++ [.int .u8 c]) w' ∧ Below B w w') := Any.Builder_WriteByte Try.lays167 Try.Builder_Extra_B B b bs c w h hlen hBw
open Go.RowKit in
theorem Try.Builder_WriteString (B b : Nat) (bs : List Value) (s : ByteArray) (w : World) (h : Lib.IsBuilder 44 5 B b bs w) (hlen : bs.length + s.size ≤ 140737488355328) (hBw : B ≤ w.heap.size) :
    Calls Try.prog 28 #[.pointer (some ⟨b, 0, none⟩), .string s] w fun e w' => e = .returned (.tuple #[.int .i64 s.size, .nilIface]) ∧ (Lib.BuilderAt 44 5 B b (.pointer (some ⟨b, 0, none⟩)) (bs ++ Lib.strCells s) w' ∧ Below B w w') := Any.Builder_WriteString Try.lays166 Try.Builder_Extra_B B b bs s w h hlen hBw
end Go.Proofs
