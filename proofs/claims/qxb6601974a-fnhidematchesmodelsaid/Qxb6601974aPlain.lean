/-
  THE PLAIN LAW: which bytes of a text are covered. No Go in sight.
-/
import Derived.Lib.Index
namespace Go.Proofs.Qxb6601974a

theorem index_spec : ∀ s sub : List UInt8, (Lib.index s sub = -1 ∧ ∀ j, j ≤ s.length → Lib.occAt s sub j = false) ∨ ∃ i : Nat, Lib.index s sub = i ∧ i ≤ s.length ∧ Lib.occAt s sub i = true ∧ ∀ j, j < i → Lib.occAt s sub j = false
  | [], sub => by
    cases sub with
    | nil => exact .inr ⟨0, rfl, Nat.le_refl _, rfl, fun j hj => by omega⟩
    | cons a r => exact .inl ⟨rfl, fun j _ => by simp [Lib.occAt]⟩
  | b :: l, sub => by
    by_cases h : sub.isPrefixOf (b :: l) = true
    · refine .inr ⟨0, ?_, Nat.zero_le _, by simpa [Lib.occAt] using h, fun j hj => by omega⟩
      unfold Lib.index; rw [if_pos h]; rfl
    · have h0 : Lib.occAt (b :: l) sub 0 = false := Bool.eq_false_iff.2 h
      rcases index_spec l sub with ⟨e, hn⟩ | ⟨i, e, hi, ho, hn⟩
      · refine .inl ⟨?_, fun j hj => ?_⟩
        · unfold Lib.index; rw [if_neg h, e]; rfl
        · cases j with
          | zero => exact h0
          | succ j => simpa [Lib.occAt] using hn j (by simpa using hj)
      · refine .inr ⟨i + 1, ?_, by simpa using hi, by simpa [Lib.occAt] using ho, fun j hj => ?_⟩
        · unfold Lib.index; rw [if_neg h, e]
          have : ((i : Int) == -1) = false := by rw [beq_eq_false_iff_ne]; omega
          simp [this]
        · cases j with
          | zero => exact h0
          | succ j => simpa [Lib.occAt] using hn j (by omega)

theorem occ_drop (s sub : List UInt8) (a i : Nat) : Lib.occAt (s.drop a) sub i = Lib.occAt s sub (a + i) := by
  unfold Lib.occAt; rw [List.drop_drop]

/-- What the search from byte 'a' on finds. -/
theorem index_from (s sub : List UInt8) (a : Nat) (ha : a ≤ s.length) (h0 : sub ≠ []) :
    (Lib.index (s.drop a) sub = -1 ∧ ∀ j, a ≤ j → Lib.occAt s sub j = false) ∨
    ∃ i : Nat, Lib.index (s.drop a) sub = i ∧ a + i + sub.length ≤ s.length ∧ Lib.occAt s sub (a + i) = true ∧ ∀ j, a ≤ j → j < a + i → Lib.occAt s sub j = false := by
  rcases index_spec (s.drop a) sub with ⟨e, hn⟩ | ⟨i, e, hi, ho, hn⟩
  · refine .inl ⟨e, fun j hj => ?_⟩
    by_cases hjl : j ≤ s.length
    · have := hn (j - a) (by simp; omega)
      rwa [occ_drop, show a + (j - a) = j from by omega] at this
    · unfold Lib.occAt
      rw [List.drop_of_length_le (by omega)]
      cases sub with
      | nil => exact absurd rfl h0
      | cons x y => rfl
  · rw [occ_drop] at ho
    refine .inr ⟨i, e, ?_, ho, fun j h1 h2 => ?_⟩
    · rcases Lib.occAt_room ho with h | h
      · omega
      · exact absurd h h0
    · have := hn (j - a) (by omega)
      rwa [occ_drop, show a + (j - a) = j from by omega] at this

/-- m flags set from place s on. -/
def markN (bs : List Bool) (s : Nat) : Nat → List Bool
  | 0 => bs
  | m + 1 => (markN bs s m).set (s + m) true

theorem markN_length (bs : List Bool) (s m : Nat) : (markN bs s m).length = bs.length := by
  induction m with
  | zero => rfl
  | succ m ih => rw [markN, List.length_set, ih]

theorem markN_at (bs : List Bool) (s m p : Nat) (hp : p < bs.length) : (markN bs s m)[p]? = some true ↔ (s ≤ p ∧ p < s + m) ∨ bs[p]? = some true := by
  induction m with
  | zero => simp [markN]; omega
  | succ m ih =>
    rw [markN, List.getElem?_set]
    by_cases e : s + m = p
    · rw [if_pos e, if_pos (by rw [markN_length]; omega)]
      simp; omega
    · rw [if_neg e, ih]
      constructor
      · rintro (h | h)
        · exact .inl (by omega)
        · exact .inr h
      · rintro (h | h)
        · exact .inl (by omega)
        · exact .inr h

/-- 'o' tells which of n bytes the occurrences S (start, width) cover: none where there is none of them. -/
def Cov (n : Nat) (S : Nat → Nat → Prop) : Option (List Bool) → Prop
  | none => ∀ s m, ¬ S s m
  | some bs => bs.length = n ∧ (∃ s m, S s m) ∧ ∀ p, p < n → (bs[p]? = some true ↔ ∃ s m, S s m ∧ s ≤ p ∧ p < s + m)

theorem bools_ext {a b : List Bool} (hl : a.length = b.length) (h : ∀ p, p < a.length → (a[p]? = some true ↔ b[p]? = some true)) : a = b := by
  apply List.ext_getElem hl
  intro p h1 h2
  have := h p h1
  rw [List.getElem?_eq_getElem h1, List.getElem?_eq_getElem h2] at this
  simp only [Option.some.injEq] at this
  exact Bool.eq_iff_iff.2 this

theorem Cov.unique {n : Nat} {S : Nat → Nat → Prop} {o o' : Option (List Bool)} (h : Cov n S o) (h' : Cov n S o') : o = o' := by
  cases o with
  | none =>
    cases o' with
    | none => rfl
    | some b => obtain ⟨_, ⟨s, m, hs⟩, _⟩ := h'; exact absurd hs (h s m)
  | some a =>
    cases o' with
    | none => obtain ⟨_, ⟨s, m, hs⟩, _⟩ := h; exact absurd hs (h' s m)
    | some b =>
      obtain ⟨h1, _, h2⟩ := h
      obtain ⟨h3, _, h4⟩ := h'
      rw [bools_ext (by omega) fun p hp => (h2 p (by omega)).trans (h4 p (by omega)).symm]

theorem Cov.same {n : Nat} {S S' : Nat → Nat → Prop} {o : Option (List Bool)} (h : Cov n S o) (hs : ∀ s m, S s m ↔ S' s m) : Cov n S' o := by
  have : S = S' := by funext s m; exact propext (hs s m)
  subst this
  exact h

theorem Cov.add {n : Nat} {S S' : Nat → Nat → Prop} {o : Option (List Bool)} (h : Cov n S o) {s m : Nat} (hs : ∀ s' m', S' s' m' ↔ S s' m' ∨ (s' = s ∧ m' = m)) :
    Cov n S' (some (markN (o.getD (List.replicate n false)) s m)) := by
  cases o with
  | none =>
    refine ⟨by simp [markN_length], ⟨s, m, (hs s m).2 (.inr ⟨rfl, rfl⟩)⟩, fun p hp => ?_⟩
    rw [Option.getD_none, markN_at _ _ _ _ (by simpa using hp)]
    constructor
    · rintro (h1 | h1)
      · exact ⟨s, m, (hs s m).2 (.inr ⟨rfl, rfl⟩), h1⟩
      · rw [List.getElem?_replicate] at h1; simp at h1
    · rintro ⟨s', m', h1, h2⟩
      rcases (hs s' m').1 h1 with h3 | ⟨rfl, rfl⟩
      · exact absurd h3 (h s' m')
      · exact .inl h2
  | some bs =>
    obtain ⟨h1, _, h2⟩ := h
    refine ⟨by simp [markN_length, h1], ⟨s, m, (hs s m).2 (.inr ⟨rfl, rfl⟩)⟩, fun p hp => ?_⟩
    rw [Option.getD_some, markN_at _ _ _ _ (by omega)]
    constructor
    · rintro (h3 | h3)
      · exact ⟨s, m, (hs s m).2 (.inr ⟨rfl, rfl⟩), h3⟩
      · obtain ⟨s', m', h4, h5⟩ := (h2 p hp).1 h3
        exact ⟨s', m', (hs s' m').2 (.inl h4), h5⟩
    · rintro ⟨s', m', h3, h4⟩
      rcases (hs s' m').1 h3 with h5 | ⟨rfl, rfl⟩
      · exact .inr ((h2 p hp).2 ⟨s', m', h5, h4⟩)
      · exact .inl h4

/-- All occurrences of values below k, and of value k those that start below a: what 'covered' has seen. -/
def Seen (t : List UInt8) (vs : List (List UInt8)) (k a : Nat) (s m : Nat) : Prop :=
  ∃ j u, vs[j]? = some u ∧ Lib.occAt t u s = true ∧ m = u.length ∧ (j < k ∨ (j = k ∧ s < a))

/-- All occurrences that start below s0, and at s0 those of values below k: what the model has seen. -/
def Tried (t : List UInt8) (vs : List (List UInt8)) (s0 k : Nat) (s m : Nat) : Prop :=
  ∃ j u, vs[j]? = some u ∧ Lib.occAt t u s = true ∧ m = u.length ∧ (s < s0 ∨ (s = s0 ∧ j < k))

/-- All of them. -/
def Occs (t : List UInt8) (vs : List (List UInt8)) (s m : Nat) : Prop := ∃ (j : Nat) (u : List UInt8), vs[j]? = some u ∧ Lib.occAt t u s = true ∧ m = u.length

theorem seen_hit {t : List UInt8} {vs : List (List UInt8)} {k a i : Nat} {u : List UInt8} (hu : vs[k]? = some u) (ho : Lib.occAt t u (a + i) = true) (hn : ∀ j, a ≤ j → j < a + i → Lib.occAt t u j = false) (s m : Nat) :
    Seen t vs k (a + i + 1) s m ↔ Seen t vs k a s m ∨ (s = a + i ∧ m = u.length) := by
  constructor
  · rintro ⟨j, v, h1, h2, h3, h4 | ⟨rfl, h4⟩⟩
    · exact .inl ⟨j, v, h1, h2, h3, .inl h4⟩
    · rw [hu] at h1
      simp only [Option.some.injEq] at h1
      subst h1
      by_cases e : s = a + i
      · exact .inr ⟨e, h3⟩
      · by_cases e2 : s < a
        · exact .inl ⟨j, u, hu, h2, h3, .inr ⟨rfl, e2⟩⟩
        · rw [hn s (by omega) (by omega)] at h2; simp at h2
  · rintro (⟨j, v, h1, h2, h3, h4⟩ | ⟨rfl, rfl⟩)
    · exact ⟨j, v, h1, h2, h3, by omega⟩
    · exact ⟨k, u, hu, ho, rfl, .inr ⟨rfl, by omega⟩⟩

theorem seen_out {t : List UInt8} {vs : List (List UInt8)} {k a : Nat} {u : List UInt8} (hu : vs[k]? = some u) (hn : ∀ j, a ≤ j → Lib.occAt t u j = false) (s m : Nat) :
    Seen t vs k a s m ↔ Seen t vs (k + 1) 0 s m := by
  constructor
  · rintro ⟨j, v, h1, h2, h3, h4⟩
    exact ⟨j, v, h1, h2, h3, by omega⟩
  · rintro ⟨j, v, h1, h2, h3, h4⟩
    by_cases e : j = k
    · subst e
      rw [hu] at h1
      simp only [Option.some.injEq] at h1
      subst h1
      by_cases e2 : s < a
      · exact ⟨j, u, hu, h2, h3, .inr ⟨rfl, e2⟩⟩
      · rw [hn s (by omega)] at h2; simp at h2
    · exact ⟨j, v, h1, h2, h3, by omega⟩

theorem seen_none (t : List UInt8) (vs : List (List UInt8)) (s m : Nat) : ¬ Seen t vs 0 0 s m := by
  rintro ⟨j, v, _, _, _, h⟩; omega

theorem seen_all {t : List UInt8} {vs : List (List UInt8)} {k : Nat} (hk : vs.length ≤ k) (s m : Nat) : Seen t vs k 0 s m ↔ Occs t vs s m := by
  constructor
  · rintro ⟨j, v, h1, h2, h3, _⟩; exact ⟨j, v, h1, h2, h3⟩
  · rintro ⟨j, v, h1, h2, h3⟩
    have := (List.getElem?_eq_some_iff.1 h1).1
    exact ⟨j, v, h1, h2, h3, .inl (by omega)⟩

theorem tried_hit {t : List UInt8} {vs : List (List UInt8)} {s0 k : Nat} {u : List UInt8} (hu : vs[k]? = some u) (ho : Lib.occAt t u s0 = true) (s m : Nat) :
    Tried t vs s0 (k + 1) s m ↔ Tried t vs s0 k s m ∨ (s = s0 ∧ m = u.length) := by
  constructor
  · rintro ⟨j, v, h1, h2, h3, h4 | ⟨rfl, h4⟩⟩
    · exact .inl ⟨j, v, h1, h2, h3, .inl h4⟩
    · by_cases e : j = k
      · subst e
        rw [hu] at h1
        simp only [Option.some.injEq] at h1
        subst h1
        exact .inr ⟨rfl, h3⟩
      · exact .inl ⟨j, v, h1, h2, h3, .inr ⟨rfl, by omega⟩⟩
  · rintro (⟨j, v, h1, h2, h3, h4⟩ | ⟨rfl, rfl⟩)
    · exact ⟨j, v, h1, h2, h3, by omega⟩
    · exact ⟨k, u, hu, ho, rfl, .inr ⟨rfl, by omega⟩⟩

theorem tried_miss {t : List UInt8} {vs : List (List UInt8)} {s0 k : Nat} {u : List UInt8} (hu : vs[k]? = some u) (ho : Lib.occAt t u s0 = false) (s m : Nat) :
    Tried t vs s0 k s m ↔ Tried t vs s0 (k + 1) s m := by
  constructor
  · rintro ⟨j, v, h1, h2, h3, h4⟩
    exact ⟨j, v, h1, h2, h3, by omega⟩
  · rintro ⟨j, v, h1, h2, h3, h4 | ⟨rfl, h4⟩⟩
    · exact ⟨j, v, h1, h2, h3, .inl h4⟩
    · by_cases e : j = k
      · subst e
        rw [hu] at h1
        simp only [Option.some.injEq] at h1
        subst h1
        rw [ho] at h2; simp at h2
      · exact ⟨j, v, h1, h2, h3, .inr ⟨rfl, by omega⟩⟩

theorem tried_none (t : List UInt8) (vs : List (List UInt8)) (s m : Nat) : ¬ Tried t vs 0 0 s m := by
  rintro ⟨j, v, _, _, _, h⟩; omega

theorem tried_next {t : List UInt8} {vs : List (List UInt8)} {s0 k : Nat} (hk : vs.length ≤ k) (s m : Nat) : Tried t vs s0 k s m ↔ Tried t vs (s0 + 1) 0 s m := by
  constructor
  · rintro ⟨j, v, h1, h2, h3, h4⟩
    exact ⟨j, v, h1, h2, h3, by omega⟩
  · rintro ⟨j, v, h1, h2, h3, h4⟩
    have := (List.getElem?_eq_some_iff.1 h1).1
    exact ⟨j, v, h1, h2, h3, by omega⟩

theorem tried_all {t : List UInt8} {vs : List (List UInt8)} {s0 : Nat} (hs : t.length ≤ s0) (hv : ∀ u ∈ vs, u ≠ []) (s m : Nat) : Tried t vs s0 0 s m ↔ Occs t vs s m := by
  constructor
  · rintro ⟨j, v, h1, h2, h3, _⟩; exact ⟨j, v, h1, h2, h3⟩
  · rintro ⟨j, v, h1, h2, h3⟩
    refine ⟨j, v, h1, h2, h3, .inl ?_⟩
    have hne := hv v (List.mem_of_getElem? h1)
    rcases Lib.occAt_room h2 with h | h
    · have : 0 < v.length := List.length_pos_iff.2 hne
      omega
    · exact absurd h hne

end Go.Proofs.Qxb6601974a
