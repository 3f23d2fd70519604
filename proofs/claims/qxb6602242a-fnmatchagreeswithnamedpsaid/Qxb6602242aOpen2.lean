/-
  What []bool and [][]string that came in are to the walk.
-/
import Derived.Test.Qxb6602242aLaw2
import Derived.Test.Qxb6602242aOpen
import Derived.Deep.Slices
namespace Go.Proofs.Qxb6602242a
open Go.ChangeShapes Go.WideShapes Go.ChangeAt Go.RowKit Go.Deep

theorem Try.cells4 : Try.prog.cellsOf 4 = 1 := by kernel_rfl
theorem Try.cells37 : Try.prog.cellsOf 37 = 1 := by kernel_rfl

/-- One slice of strings in a cell. -/
theorem strs_of {W : World} {v : Value} {fuel : Nat} {H : Type} {enc : TypeId × Value → H} {x : DataW H × List MemPlace}
    (h : DataW.trod enc Try.prog W 0 (fun _ => true) true fuel 37 [v] = some x) :
    ∃ (a : Option Addr) (cap : Nat) (ss : List ByteArray), v = .slice a ss.length cap ∧ ss.length ≤ 9223372036854775807 ∧ (∀ i, i < ss.length → (ss.getD i ByteArray.empty).size ≤ 9223372036854775807) ∧ IsStrs W a ss ∧ (a = none → ss.length = 0) := by
  rcases open_strings Try.underlying37 Try.underlying9 Try.cells9 h with ⟨hcs, _⟩ | ⟨y, l, c, zs, hcs, _, _⟩
  · simp only [List.cons.injEq, and_true] at hcs
    subst hcs
    exact ⟨none, 0, [], rfl, by simp, fun i hi => by simp at hi, fun i hi => by simp at hi, fun _ => rfl⟩
  · simp only [List.cons.injEq, and_true] at hcs
    subst hcs
    obtain ⟨ss, h1, h2, h3, h4, h5⟩ := strs_in (a := some y) (len := l) (cap := c) (by simpa [Value.cells] using h)
    subst h1
    exact ⟨some y, c, ss, rfl, h2, h3, h4, h5⟩

theorem list_of {α : Type} {P : Nat → α → Prop} : ∀ n : Nat, (∀ i, i < n → ∃ x, P i x) → ∃ l : List α, l.length = n ∧ ∀ (d : α) i, i < n → P i (l.getD i d)
  | 0, _ => ⟨[], rfl, fun _ i hi => by omega⟩
  | n + 1, h => by
    obtain ⟨l, hl, hp⟩ := list_of n (fun i hi => h i (by omega))
    obtain ⟨x, hx⟩ := h n (by omega)
    refine ⟨l ++ [x], by simp [hl], fun d i hi => ?_⟩
    by_cases e : i = n
    · subst e
      rw [List.getD_eq_getElem?_getD, List.getElem?_append_right (by omega), hl, Nat.sub_self]
      exact hx
    · have := hp d i (by omega)
      rw [List.getD_eq_getElem?_getD] at this
      rw [List.getD_eq_getElem?_getD, List.getElem?_append_left (by omega)]
      exact this

/-- []bool. -/
theorem flags_in {W : World} {a : Option Addr} {len cap : Nat} {fuel : Nat} {H : Type} {enc : TypeId × Value → H} {x : DataW H × List MemPlace}
    (h : DataW.trod enc Try.prog W 0 (fun _ => true) true fuel 22 (Value.slice a len cap).cells.toList = some x) :
    ∃ ds : List Bool, ds.length = len ∧ len ≤ 9223372036854775807 ∧ IsFlags W a ds ∧ (a = none → len = 0) := by
  rcases open_slice1 Try.underlying22 Try.cells4 h with ⟨hcs, _⟩ | ⟨y, l, c, m, n, V, D, Pl, hcs, _, hl, hm, hmm, _, hx⟩
  · simp [Value.cells] at hcs
    obtain ⟨rfl, rfl, rfl⟩ := hcs
    exact ⟨[], rfl, by omega, fun i hi => by simp at hi, fun _ => rfl⟩
  · simp [Value.cells] at hcs
    obtain ⟨rfl, rfl, rfl⟩ := hcs
    unfold maxLen at hm
    simp only [if_true] at hmm
    obtain ⟨ds, hdl, hdp⟩ := list_of (P := fun i b => V i = Value.bool b) len (fun i hi => by
      obtain ⟨_, h2⟩ := hx i (by omega)
      obtain ⟨b, hb, _⟩ := DataW.trod_bool Try.underlying4 h2
      simp only [List.cons.injEq, and_true] at hb
      exact ⟨b, hb⟩)
    refine ⟨ds, hdl, by omega, fun i hi => ?_, fun e => by cases e⟩
    rw [hdl] at hi
    obtain ⟨b, off, spot⟩ := y
    have h0 := (hx 0 (by omega)).1
    have hspot : spot = none := by simpa [Addr.add] using World.cell?_spot h0
    subst hspot
    refine ⟨b, off, rfl, ?_⟩
    rw [← add_plain, (hx i (by omega)).1, hdp false i hi]

/-- [][]string. -/
theorem parts_in {W : World} {a : Option Addr} {len cap : Nat} {fuel : Nat} {H : Type} {enc : TypeId × Value → H} {x : DataW H × List MemPlace}
    (h : DataW.trod enc Try.prog W 0 (fun _ => true) true fuel 23 (Value.slice a len cap).cells.toList = some x) :
    ∃ ps : List (List ByteArray), ps.length = len ∧ len ≤ 9223372036854775807 ∧ SmallTo 9223372036854775807 len ps ∧ IsParts W a ps ∧ (a = none → len = 0) := by
  rcases open_slice1 Try.underlying23 Try.cells37 h with ⟨hcs, _⟩ | ⟨y, l, c, m, n, V, D, Pl, hcs, _, hl, hm, hmm, _, hx⟩
  · simp [Value.cells] at hcs
    obtain ⟨rfl, rfl, rfl⟩ := hcs
    exact ⟨[], rfl, by omega, fun i hi => by omega, fun i hi => by simp at hi, fun _ => rfl⟩
  · simp [Value.cells] at hcs
    obtain ⟨rfl, rfl, rfl⟩ := hcs
    unfold maxLen at hm
    simp only [if_true] at hmm
    obtain ⟨ps, hdl, hdp⟩ := list_of (P := fun i (ss : List ByteArray) => ∃ (ai : Option Addr) (ci : Nat), V i = .slice ai ss.length ci ∧ ss.length ≤ 9223372036854775807 ∧ (∀ i, i < ss.length → (ss.getD i ByteArray.empty).size ≤ 9223372036854775807) ∧ IsStrs W ai ss ∧ (ai = none → ss.length = 0)) len (fun i hi => by
      obtain ⟨_, h2⟩ := hx i (by omega)
      obtain ⟨ai, ci, ss, h3⟩ := strs_of h2
      exact ⟨ss, ai, ci, h3⟩)
    refine ⟨ps, hdl, by omega, fun i hi => ?_, fun i hi => ?_, fun e => by cases e⟩
    · obtain ⟨_, _, _, h4, h5, _⟩ := hdp [] i hi
      exact ⟨h4, h5⟩
    · rw [hdl] at hi
      obtain ⟨ai, ci, h3, _, _, h6, h7⟩ := hdp [] i hi
      obtain ⟨b, off, spot⟩ := y
      have h0 := (hx 0 (by omega)).1
      have hspot : spot = none := by simpa [Addr.add] using World.cell?_spot h0
      subst hspot
      refine ⟨b, off, ai, ci, rfl, ?_, h6, h7⟩
      rw [← add_plain, (hx i (by omega)).1, h3]

end Go.Proofs.Qxb6602242a
