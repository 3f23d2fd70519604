/-
  What the arguments are to the walk.
-/
import Derived.Test.Qxb6602242aLaw1
import Derived.HandedShaped
import Derived.ProofKit
import Derived.OpenShut
import Derived.ShutString
import Derived.ChangeOld
import Derived.SliceStrings
namespace Go.Proofs.Qxb6602242a
open Go.ChangeShapes Go.WideShapes Go.ChangeAt Go.RowKit
open Go.ChangeMaps (open_string shut_string)

theorem own : ownKnob Try.prog.godebug = none := by kernel_rfl
theorem laidOut : laidOutB Try.prog = true := by kernel_rfl
theorem Try.cells9 : Try.prog.cellsOf 9 = 1 := by kernel_rfl

/-- What a slice of strings that came in is to the walk. -/
theorem strs_in {W : World} {a : Option Addr} {len cap : Nat} {fuel : Nat} {H : Type} {enc : TypeId × Value → H} {x : DataW H × List MemPlace}
    (h : DataW.trod enc Try.prog W 0 (fun _ => true) true fuel 37 (Value.slice a len cap).cells.toList = some x) :
    ∃ ss : List ByteArray, ss.length = len ∧ len ≤ 9223372036854775807 ∧ (∀ i, i < ss.length → (ss.getD i ByteArray.empty).size ≤ 9223372036854775807) ∧ IsStrs W a ss ∧ (a = none → len = 0) := by
  rcases open_strings Try.underlying37 Try.underlying9 Try.cells9 h with ⟨hcs, _⟩ | ⟨x, l, c, ss, hcs, _, hl, hm, hz, _, hcell, hws⟩
  · simp [Value.cells] at hcs
    obtain ⟨rfl, rfl, rfl⟩ := hcs
    exact ⟨[], rfl, by omega, fun i hi => by simp at hi, fun i hi => by simp at hi, fun _ => rfl⟩
  · simp [Value.cells] at hcs
    obtain ⟨rfl, rfl, rfl⟩ := hcs
    unfold maxLen at hm
    simp only [if_true] at hz
    have hlen : (ss.take len).length = len := by rw [List.length_take]; omega
    have hget : ∀ i, i < len → (ss.take len).getD i ByteArray.empty = ss.getD i ByteArray.empty := by
      intro i hi
      simp only [List.getD_eq_getElem?_getD, List.getElem?_take, if_pos hi]
    refine ⟨ss.take len, hlen, by omega, fun i hi => ?_, fun i hi => ?_, fun e => by cases e⟩
    · rw [hlen] at hi
      rw [hget i hi]
      have h1 : i < ss.length := by omega
      have h2 : ss.getD i ByteArray.empty = ss[i] := by simp [h1]
      have := hws ss[i] (List.getElem_mem h1)
      unfold maxLen at this
      rw [h2]; exact this
    · rw [hlen] at hi
      rw [hget i hi]
      obtain ⟨b, off, spot⟩ := x
      have hc := hcell i (by omega)
      have h0 := hcell 0 (by omega)
      have hspot : spot = none := by simpa [Addr.add] using World.cell?_spot h0
      subst hspot
      exact ⟨b, off, rfl, by rw [← add_plain]; exact hc⟩

end Go.Proofs.Qxb6602242a
