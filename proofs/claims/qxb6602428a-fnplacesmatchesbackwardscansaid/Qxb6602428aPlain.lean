/-
  THE PLAIN LAW: the bytes behind the first point. No Go in sight.
-/
import Derived.Lib.IndexMore
namespace Go.Proofs.Qxb6602428a

/-- The bytes behind the first point; 0 where there is none. -/
def placesL : List UInt8 → Nat
  | [] => 0
  | c :: l => if c = 46 then l.length else placesL l

theorem placesL_le (l : List UInt8) : placesL l ≤ l.length := by
  induction l with
  | nil => exact Nat.le_refl _
  | cons c l ih =>
    rw [placesL]
    split
    · simp
    · simp only [List.length_cons]; omega

theorem placesL_none {l : List UInt8} (h : ∀ j : Nat, l[j]? ≠ some 46) : placesL l = 0 := by
  induction l with
  | nil => rfl
  | cons c l ih =>
    have h0 : c ≠ 46 := by simpa using h 0
    rw [placesL, if_neg h0]
    exact ih fun j => by simpa using h (j + 1)

theorem placesL_at {l : List UInt8} {i : Nat} (hi : l[i]? = some 46) (h : ∀ j : Nat, j < i → l[j]? ≠ some 46) : placesL l = l.length - (i + 1) := by
  induction l generalizing i with
  | nil => simp at hi
  | cons c l ih =>
    cases i with
    | zero =>
      have h0 : c = 46 := by simpa using hi
      rw [placesL, if_pos h0]; simp
    | succ i =>
      have h0 : c ≠ 46 := by simpa using h 0 (by omega)
      rw [placesL, if_neg h0, ih (by simpa using hi) fun j hj => by simpa using h (j + 1) (by omega)]
      simp

theorem placesL_drop {l : List UInt8} {k : Nat} (hk : k < l.length) : placesL (l.drop k) = if l[k] = 46 then l.length - 1 - k else placesL (l.drop (k + 1)) := by
  rw [List.drop_eq_getElem_cons hk, placesL]
  split
  · rw [List.length_drop]; omega
  · rfl

theorem occ_one (l : List UInt8) (i : Nat) : Lib.occAt l [46] i = true ↔ l[i]? = some 46 := by
  unfold Lib.occAt
  rw [List.isPrefixOf_iff_prefix]
  constructor
  · rintro ⟨r, hr⟩
    have : (l.drop i)[0]? = some 46 := by rw [← hr]; rfl
    rwa [List.getElem?_drop, Nat.add_zero] at this
  · intro h
    obtain ⟨hlt, he⟩ := List.getElem?_eq_some_iff.1 h
    refine ⟨l.drop (i + 1), ?_⟩
    rw [List.drop_eq_getElem_cons hlt, he]; rfl

theorem index_spec : ∀ s sub : List UInt8, (Lib.index s sub = -1 ∧ ∀ j, j ≤ s.length → Lib.occAt s sub j = false) ∨ ∃ i : Nat, Lib.index s sub = i ∧ i ≤ s.length ∧ Lib.occAt s sub i = true ∧ ∀ j, j < i → Lib.occAt s sub j = false
  | [], sub => by
    cases sub with
    | nil => exact .inr ⟨0, rfl, Nat.le_refl _, rfl, fun j hj => by omega⟩
    | cons a r => exact .inl ⟨rfl, fun j _ => by simp [Lib.occAt]⟩
  | b :: l, sub => by
    by_cases h : sub.isPrefixOf (b :: l) = true
    · refine .inr ⟨0, ?_, Nat.zero_le _, by simpa [Lib.occAt] using h, fun j hj => by omega⟩
      unfold Lib.index; rw [if_pos h]; rfl
    · have h0 : Lib.occAt (b :: l) sub 0 = false := Bool.eq_false_iff.2 h
      rcases index_spec l sub with ⟨e, hn⟩ | ⟨i, e, hi, ho, hn⟩
      · refine .inl ⟨?_, fun j hj => ?_⟩
        · unfold Lib.index; rw [if_neg h, e]; rfl
        · cases j with
          | zero => exact h0
          | succ j => simpa [Lib.occAt] using hn j (by simpa using hj)
      · refine .inr ⟨i + 1, ?_, by simpa using hi, by simpa [Lib.occAt] using ho, fun j hj => ?_⟩
        · unfold Lib.index; rw [if_neg h, e]
          have : ((i : Int) == -1) = false := by rw [beq_eq_false_iff_ne]; omega
          simp [this]
        · cases j with
          | zero => exact h0
          | succ j => simpa [Lib.occAt] using hn j (by omega)

/-- What Cut at the point tells. -/
theorem cut_places (l : List UInt8) : (Lib.cut l [46] = (l, [], false) ∧ placesL l = 0) ∨ ∃ b a, Lib.cut l [46] = (b, a, true) ∧ placesL l = a.length := by
  rcases index_spec l [46] with ⟨e, hn⟩ | ⟨i, e, hi, ho, hn⟩
  · refine .inl ⟨by unfold Lib.cut; rw [e]; rfl, placesL_none fun j hj => ?_⟩
    have hlt := (List.getElem?_eq_some_iff.1 hj).1
    have := hn j (by omega)
    rw [(occ_one l j).2 hj] at this; cases this
  · refine .inr ⟨l.take i, l.drop (i + 1), ?_, ?_⟩
    · unfold Lib.cut
      rw [e, if_pos (by omega)]
      rfl
    · rw [placesL_at ((occ_one l i).1 ho) fun j hj hc => absurd (hn j hj) (by rw [(occ_one l j).2 hc]; simp), List.length_drop]

theorem placesL_behind {a b : List UInt8} (h : ∀ j : Nat, a[j]? ≠ some 46) : placesL (a ++ 46 :: b) = b.length := by
  induction a with
  | nil => rw [List.nil_append, placesL, if_pos rfl]
  | cons c l ih =>
    have h0 : c ≠ 46 := by simpa using h 0
    rw [List.cons_append, placesL, if_neg h0]
    exact ih fun j => by simpa using h (j + 1)

end Go.Proofs.Qxb6602428a
