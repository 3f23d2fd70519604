/-
  strings.Cut at this program: the contracts of the shelf, laid in plain words by the kit for this dump.
-/
import Derived.Shelf.Strings.Search1
import Derived.Shelf.Strings.Search2
import Derived.Shelf.Strings.Cut
import Derived.Shelf.LaysM
import Derived.Shelf.Strings.Shaped
import Derived.Shelf.Strings.Prefix
import Derived.Test.Qxb6602428aProg
namespace Go.Proofs
open Go.Shelf
def Try.lays145_ren : Go.Shelf.Ren := ⟨fun | 145 => 28 | 220 => 30 | 219 => 32 | 217 => 33 | 225 => 34 | 224 => 35 | 267 => 36 | 266 => 37 | 314 => 38 | n => n, fun | 9 => 9 | 4 => 4 | 59 => 33 | 3 => 3 | 5 => 5 | 46 => 38 | 146 => 40 | 51 => 39 | n => n, fun | 1 => 0 | n => n⟩
theorem Try.lays145 : Go.Proofs.Lays.n145 Try.prog Try.lays145_ren := {
  mixed := by kernel_rfl
  f145 := Try.func28.trans (congrArg some (by kernel_rfl))
  f217 := Try.func33.trans (congrArg some (by kernel_rfl))
  f219 := Try.func32.trans (congrArg some (by kernel_rfl))
  f220 := Try.func30.trans (congrArg some (by kernel_rfl))
  f224 := Try.func35.trans (congrArg some (by kernel_rfl))
  f225 := Try.func34.trans (congrArg some (by kernel_rfl))
  f266 := Try.func37.trans (congrArg some (by kernel_rfl))
  f267 := Try.func36.trans (congrArg some (by kernel_rfl))
  f314 := Try.func38.trans (congrArg some (by kernel_rfl))
  t3 := Try.underlying3
  a3 := Try.isAgg3
  z3 := Try.sizeOf3
  v3 := Try.zeroValue3
  t4 := Try.underlying4
  a4 := Try.isAgg4
  z4 := Try.sizeOf4
  v4 := Try.zeroValue4
  t5 := Try.underlying5
  a5 := Try.isAgg5
  z5 := Try.sizeOf5
  v5 := Try.zeroValue5
  t9 := Try.underlying9
  a9 := Try.isAgg9
  z9 := Try.sizeOf9
  v9 := Try.zeroValue9
  t46 := Try.underlying38
  a46 := Try.isAgg38
  z46 := Try.sizeOf38
  v46 := Try.zeroValue38
  t51 := Try.underlying39
  a51 := Try.isAgg39
  z51 := Try.sizeOf39
  v51 := Try.zeroValue39
  t59 := Try.underlying33
  a59 := Try.isAgg33
  z59 := Try.sizeOf33
  v59 := Try.zeroValue33
  t146 := Try.underlying40
  a146 := Try.isAgg40
  z146 := Try.sizeOf40
  v146 := Try.zeroValue40
  g1 := by kernel_rfl }
open Go.RowKit Go.Lib in
/-- strings.Cut: "Cut slices s around the first instance of sep, returning the text before and after sep. The found result reports whether sep appears in s. If sep does not appear in s, cut returns s, "", false.": IT RETURNS 'Lib.cut s sep'; the world is as it was but for the count of draws. (LAID: no walk: one application.) -/
theorem Try.strings_Cut (s sep : ByteArray) (m : Int) (w : World) (hs : s.size < 4294967281) (hm : w.cell? ⟨0, 0, none⟩ = some (.int .i64 m)) :
    Calls Try.prog 28 #[.string s, .string sep] w fun e w' => e = .returned (.tuple #[.string ⟨(Lib.cut s.data.toList sep.data.toList).1.toArray⟩, .string ⟨(Lib.cut s.data.toList sep.data.toList).2.1.toArray⟩, .bool (Lib.cut s.data.toList sep.data.toList).2.2]) ∧ ∃ n, w' = w.drewN n := Any.strings_Cut Try.lays145 s sep m w hs hm
def Try.laysM145_ren : Go.Shelf.Ren := ⟨fun | 145 => 28 | 220 => 30 | 219 => 32 | 217 => 33 | 225 => 34 | 224 => 35 | 267 => 36 | 266 => 37 | 314 => 38 | n => n, fun | 9 => 9 | 4 => 4 | 59 => 33 | 3 => 3 | 5 => 5 | 46 => 38 | 146 => 40 | 51 => 39 | n => n, fun | 1 => 0 | n => n⟩
theorem Try.laysM145 : Go.Proofs.LaysM.n145 Try.prog Try.laysM145_ren := {
  mixed := by kernel_rfl
  f145 := Try.func28.trans (congrArg some (by kernel_rfl))
  f217 := Try.func33.trans (congrArg some (by kernel_rfl))
  f219 := Try.func32.trans (congrArg some (by kernel_rfl))
  f220 := Try.func30.trans (congrArg some (by kernel_rfl))
  f224 := Try.func35.trans (congrArg some (by kernel_rfl))
  f225 := Try.func34.trans (congrArg some (by kernel_rfl))
  f266 := Try.func37.trans (congrArg some (by kernel_rfl))
  f267 := Try.func36.trans (congrArg some (by kernel_rfl))
  f314 := Try.func38.trans (congrArg some (by kernel_rfl))
  t3 := Try.underlying3
  a3 := Try.isAgg3
  z3 := Try.sizeOf3
  v3 := Try.zeroValue3
  t4 := Try.underlying4
  a4 := Try.isAgg4
  z4 := Try.sizeOf4
  v4 := Try.zeroValue4
  t5 := Try.underlying5
  a5 := Try.isAgg5
  z5 := Try.sizeOf5
  v5 := Try.zeroValue5
  t9 := Try.underlying9
  a9 := Try.isAgg9
  z9 := Try.sizeOf9
  v9 := Try.zeroValue9
  t46 := Try.underlying38
  a46 := Try.isAgg38
  z46 := Try.sizeOf38
  v46 := Try.zeroValue38
  t51 := Try.underlying39
  a51 := Try.isAgg39
  z51 := Try.sizeOf39
  v51 := Try.zeroValue39
  t59 := Try.underlying33
  a59 := Try.isAgg33
  z59 := Try.sizeOf33
  v59 := Try.zeroValue33
  t146 := Try.underlying40
  a146 := Try.isAgg40
  z146 := Try.sizeOf40
  v146 := Try.zeroValue40
  g1 := by kernel_rfl
  i3 := by kernel_rfl
  i4 := by kernel_rfl
  i5 := by kernel_rfl
  i9 := by kernel_rfl
  i46 := by kernel_rfl
  i51 := by kernel_rfl
  i59 := by kernel_rfl
  i146 := by kernel_rfl
  m1 := by kernel_rfl
  s1_3 := fun w h => Go.Proofs.cell_of_shapedOpen_int (zero := #[.int .i64 0]) (t := 3) h (of_decide_eq_true (by kernel_rfl)) (by kernel_rfl) rfl (by kernel_rfl) (by kernel_rfl) Try.underlying3 }
open Go.RowKit Go.Lib in
theorem Try.strings_Cut_shaped (s sep : ByteArray) (w : World) (h : w.ShapedOpen Try.prog) (hs : s.size < 4294967281) :
    Calls Try.prog 28 #[.string s, .string sep] w fun e w' => e = .returned (.tuple #[.string ⟨(Lib.cut s.data.toList sep.data.toList).1.toArray⟩, .string ⟨(Lib.cut s.data.toList sep.data.toList).2.1.toArray⟩, .bool (Lib.cut s.data.toList sep.data.toList).2.2]) ∧ ∃ n, w' = w.drewN n := Any.strings_Cut_shaped Try.laysM145 s sep w h hs
end Go.Proofs
