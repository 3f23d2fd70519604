/-
  strings.Index (31): what is asked of it holds, whatever internal/bytealg.MaxLen holds.
-/
import Derived.Test.Qxb6601974aCovered
import Derived.Test.Qxb6601974aShelf
namespace Go.Proofs.Qxb6601974a
open Go.RowKit

theorem idxOk_of_shaped {W : World} (hsh : W.ShapedOpen Try.prog) : IdxOk W := by
  obtain ⟨m, hm⟩ := Try.laysM143.s1_3 W hsh
  intro s sub wx hs hb
  exact (Try.strings_Index s sub m wx (by omega) (cell_later hb hm)).mono fun e w' ⟨h1, h2⟩ => ⟨h1, h2.symm⟩

end Go.Proofs.Qxb6601974a
