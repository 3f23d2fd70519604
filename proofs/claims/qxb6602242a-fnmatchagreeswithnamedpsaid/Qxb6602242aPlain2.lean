/-
  THE PLAIN LAW OF WHOLE PATTERNS: the greedy match with one place to fall back to, and the dynamic programme. No Go in sight.
-/
import Derived.Test.Qxb6602242aPlain
namespace Go.Proofs.Qxb6602242a

/-- The last f elements, from number j on, take the names from number i on. -/
def suf (deep : Nat → Bool) (ok : Nat → Nat → Bool) (m : Nat) : Nat → Nat → Nat → Prop
  | 0, _, i => i = m
  | f + 1, j, i => if deep j = true then ∃ i', i ≤ i' ∧ i' ≤ m ∧ suf deep ok m f (j + 1) i' else i < m ∧ ok j i = true ∧ suf deep ok m f (j + 1) (i + 1)
/-- .. of n elements. -/
def Suf (deep : Nat → Bool) (ok : Nat → Nat → Bool) (n m j i : Nat) : Prop := suf deep ok m (n - j) j i

section
variable {deep : Nat → Bool} {ok : Nat → Nat → Bool} {n m : Nat}

theorem suf_end (i : Nat) : Suf deep ok n m n i ↔ i = m := by
  unfold Suf; rw [Nat.sub_self]; rfl
theorem suf_deep {j : Nat} (hj : j < n) (hd : deep j = true) (i : Nat) : Suf deep ok n m j i ↔ ∃ i', i ≤ i' ∧ i' ≤ m ∧ Suf deep ok n m (j + 1) i' := by
  unfold Suf
  rw [show n - j = (n - (j + 1)) + 1 from by omega, suf, if_pos hd]
theorem suf_one {j : Nat} (hj : j < n) (hd : deep j = false) (i : Nat) : Suf deep ok n m j i ↔ i < m ∧ ok j i = true ∧ Suf deep ok n m (j + 1) (i + 1) := by
  unfold Suf
  rw [show n - j = (n - (j + 1)) + 1 from by omega, suf, if_neg (by rw [hd]; simp)]

theorem suf_le {i : Nat} : ∀ f j, suf deep ok m f j i → i ≤ m
  | 0, j, h => by have : i = m := h
                  omega
  | f + 1, j, h => by
    rw [suf] at h
    split at h
    · obtain ⟨i', h1, h2, _⟩ := h; omega
    · omega
theorem Suf.le {j i : Nat} (h : Suf deep ok n m j i) : i ≤ m := suf_le _ _ h

/-- A run of elements that are not deep takes one name each. -/
theorem Suf.run {j i : Nat} : ∀ d, j + d ≤ n → (∀ k, j ≤ k → k < j + d → deep k = false) → Suf deep ok n m j i → Suf deep ok n m (j + d) (i + d)
  | 0, _, _, h => h
  | d + 1, hn, hall, h => by
    have h1 := Suf.run d (by omega) (fun k h1 h2 => hall k h1 (by omega)) h
    have h2 := (suf_one (by omega) (hall (j + d) (by omega) (by omega)) _).1 h1
    exact h2.2.2
end

/-- One name. -/
def stepS (g S : Nat → Bool) : Nat → Bool
  | 0 => false
  | i + 1 => S i && g i
/-- The dynamic programme: the first j elements take the first i names. -/
def modelT (deep : Nat → Bool) (ok : Nat → Nat → Bool) : Nat → Nat → Bool
  | 0 => fun i => i == 0
  | j + 1 => if deep j = true then starS (modelT deep ok j) else stepS (ok j) (modelT deep ok j)

theorem model_suf {deep : Nat → Bool} {ok : Nat → Nat → Bool} {n m : Nat} : ∀ j, j ≤ n → (Suf deep ok n m 0 0 ↔ ∃ i, i ≤ m ∧ modelT deep ok j i = true ∧ Suf deep ok n m j i)
  | 0, _ => by
    constructor
    · intro h; exact ⟨0, Nat.zero_le _, rfl, h⟩
    · rintro ⟨i, _, h1, h2⟩
      have : i = 0 := by simpa [modelT] using h1
      subst this; exact h2
  | j + 1, hj => by
    rw [model_suf j (by omega)]
    cases hd : deep j with
    | true =>
      constructor
      · rintro ⟨i, h1, h2, h3⟩
        obtain ⟨i', h4, h5, h6⟩ := (suf_deep (by omega) hd i).1 h3
        refine ⟨i', h5, ?_, h6⟩
        rw [modelT, if_pos hd]
        exact (starS_iff _ _).2 ⟨i, h4, h2⟩
      · rintro ⟨i', h1, h2, h3⟩
        rw [modelT, if_pos hd] at h2
        obtain ⟨i, h4, h5⟩ := (starS_iff _ _).1 h2
        exact ⟨i, by omega, h5, (suf_deep (by omega) hd i).2 ⟨i', h4, h1, h3⟩⟩
    | false =>
      constructor
      · rintro ⟨i, h1, h2, h3⟩
        obtain ⟨h4, h5, h6⟩ := (suf_one (by omega) hd i).1 h3
        refine ⟨i + 1, h4, ?_, h6⟩
        rw [modelT, if_neg (by rw [hd]; simp), stepS, h2, h5]; rfl
      · rintro ⟨i', h1, h2, h3⟩
        rw [modelT, if_neg (by rw [hd]; simp)] at h2
        cases i' with
        | zero => simp [stepS] at h2
        | succ i =>
          rw [stepS, Bool.and_eq_true] at h2
          exact ⟨i, by omega, h2.1, (suf_one (by omega) hd i).2 ⟨h1, h2.2, h3⟩⟩

theorem model_end {deep : Nat → Bool} {ok : Nat → Nat → Bool} {n m : Nat} : modelT deep ok n m = true ↔ Suf deep ok n m 0 0 := by
  rw [model_suf n (Nat.le_refl _)]
  constructor
  · intro h; exact ⟨m, Nat.le_refl _, h, (suf_end _).2 rfl⟩
  · rintro ⟨i, _, h, he⟩
    have := (suf_end _).1 he
    subst this; exact h

/-- Where the greedy match stands: element j, name i; the last deep element d (if any) took the names up to r. -/
def Stand (deep : Nat → Bool) (ok : Nat → Nat → Bool) (n m j i : Nat) (d : Option Nat) (r : Nat) : Prop :=
  j ≤ n ∧ i ≤ m ∧ r ≤ i ∧ match d with
    | none => (Suf deep ok n m 0 0 ↔ Suf deep ok n m j i) ∧ r = 0
    | some d => d + 1 ≤ j ∧ j - (d + 1) = i - r ∧ (∀ k, d + 1 ≤ k → k < j → deep k = false) ∧ (Suf deep ok n m 0 0 ↔ Suf deep ok n m j i ∨ ∃ r', r < r' ∧ r' ≤ m ∧ Suf deep ok n m (d + 1) r')

section
variable {deep : Nat → Bool} {ok : Nat → Nat → Bool} {n m j i r : Nat} {d : Option Nat}

theorem stand_start (m0 : Nat) (_h : m0 ≤ m) : Stand deep ok n m 0 0 none 0 := ⟨Nat.zero_le _, Nat.zero_le _, Nat.le_refl _, Iff.rfl, rfl⟩

/-- A name further on from the earlier deep element brings one further on here. -/
theorem fall_on {d : Nat} (hj : j ≤ n) (h1 : d + 1 ≤ j) (h2 : j - (d + 1) = i - r) (hri : r ≤ i) (h3 : ∀ k, d + 1 ≤ k → k < j → deep k = false) {r' : Nat} (hr : r < r') (hs : Suf deep ok n m (d + 1) r') : ∃ i', i < i' ∧ Suf deep ok n m j i' := by
  have := hs.run (j - (d + 1)) (by omega) (fun k h4 h5 => h3 k h4 (by omega))
  rw [show d + 1 + (j - (d + 1)) = j from by omega] at this
  exact ⟨_, by omega, this⟩

theorem stand_deep (h : Stand deep ok n m j i d r) (hj : j < n) (hd : deep j = true) : Stand deep ok n m (j + 1) i (some j) i := by
  obtain ⟨h1, h2, h3, h4⟩ := h
  refine ⟨by omega, h2, Nat.le_refl _, Nat.le_refl _, by omega, fun k h5 h6 => by omega, ?_⟩
  have key : Suf deep ok n m j i ↔ Suf deep ok n m (j + 1) i ∨ ∃ r', i < r' ∧ r' ≤ m ∧ Suf deep ok n m (j + 1) r' := by
    rw [suf_deep hj hd]
    constructor
    · rintro ⟨i', h5, h6, h7⟩
      by_cases e : i' = i
      · subst e; exact .inl h7
      · exact .inr ⟨i', by omega, h6, h7⟩
    · rintro (h5 | ⟨r', h5, h6, h7⟩)
      · exact ⟨i, Nat.le_refl _, h2, h5⟩
      · exact ⟨r', by omega, h6, h7⟩
  rw [← key]
  cases d with
  | none => exact h4.1
  | some d =>
    obtain ⟨h5, h6, h7, h8⟩ := h4
    rw [h8]
    constructor
    · rintro (h9 | ⟨r', h9, _, h10⟩)
      · exact h9
      · obtain ⟨i', h11, h12⟩ := fall_on h1 h5 h6 h3 h7 h9 h10
        obtain ⟨i'', h13, h14, h15⟩ := (suf_deep hj hd _).1 h12
        exact (suf_deep hj hd _).2 ⟨i'', by omega, h14, h15⟩
    · exact .inl

theorem stand_hit (h : Stand deep ok n m j i d r) (hj : j < n) (hi : i < m) (hd : deep j = false) (ho : ok j i = true) : Stand deep ok n m (j + 1) (i + 1) d r := by
  obtain ⟨h1, h2, h3, h4⟩ := h
  have key : Suf deep ok n m j i ↔ Suf deep ok n m (j + 1) (i + 1) := by
    rw [suf_one hj hd]
    exact ⟨fun h => h.2.2, fun h => ⟨hi, ho, h⟩⟩
  refine ⟨by omega, by omega, by omega, ?_⟩
  cases d with
  | none => exact ⟨h4.1.trans key, h4.2⟩
  | some d =>
    obtain ⟨h5, h6, h7, h8⟩ := h4
    refine ⟨by omega, by omega, fun k h9 h10 => ?_, by rw [h8, key]⟩
    by_cases e : k = j
    · subst e; exact hd
    · exact h7 k h9 (by omega)

/-- Where nothing fits here. -/
def Stuck (deep : Nat → Bool) (ok : Nat → Nat → Bool) (n j i : Nat) : Prop := j = n ∨ (j < n ∧ deep j = false ∧ ok j i = false)

theorem stuck_no (hi : i < m) (h : Stuck deep ok n j i) : ¬ Suf deep ok n m j i := by
  rcases h with rfl | ⟨hj, hd, ho⟩
  · intro h; have := (suf_end _).1 h; omega
  · intro h
    have := ((suf_one hj hd i).1 h).2.1
    rw [ho] at this; cases this

theorem stand_no (h : Stand deep ok n m j i none r) (hi : i < m) (hs : Stuck deep ok n j i) : ¬ Suf deep ok n m 0 0 := by
  obtain ⟨_, _, _, h4⟩ := h
  rw [h4.1]
  exact stuck_no hi hs

theorem stand_back {d : Nat} (h : Stand deep ok n m j i (some d) r) (hi : i < m) (hs : Stuck deep ok n j i) : Stand deep ok n m (d + 1) (r + 1) (some d) (r + 1) := by
  obtain ⟨h1, h2, h3, h5, h6, h7, h8⟩ := h
  refine ⟨by omega, by omega, Nat.le_refl _, Nat.le_refl _, by omega, fun k h9 h10 => by omega, ?_⟩
  rw [h8]
  constructor
  · rintro (h9 | ⟨r', h9, h10, h11⟩)
    · exact absurd h9 (stuck_no hi hs)
    · by_cases e : r' = r + 1
      · subst e; exact .inl h11
      · exact .inr ⟨r', by omega, h10, h11⟩
  · rintro (h9 | ⟨r', h9, h10, h11⟩)
    · exact .inr ⟨r + 1, by omega, by omega, h9⟩
    · exact .inr ⟨r', by omega, h10, h11⟩

/-- No name is left. -/
theorem stand_last (h : Stand deep ok n m j m d r) : Suf deep ok n m 0 0 ↔ Suf deep ok n m j m := by
  obtain ⟨h1, h2, h3, h4⟩ := h
  cases d with
  | none => exact h4.1
  | some d =>
    obtain ⟨h5, h6, h7, h8⟩ := h4
    rw [h8]
    constructor
    · rintro (h9 | ⟨r', h9, _, h10⟩)
      · exact h9
      · obtain ⟨i', h11, h12⟩ := fall_on h1 h5 h6 h3 h7 h9 h10
        have := h12.le
        omega
    · exact .inl

/-- The rest must be deep. -/
theorem last_deep (hj : j < n) (hd : deep j = true) : Suf deep ok n m j m ↔ Suf deep ok n m (j + 1) m := by
  rw [suf_deep hj hd]
  constructor
  · rintro ⟨i', h1, h2, h3⟩
    have : i' = m := by omega
    subst this; exact h3
  · intro h; exact ⟨m, Nat.le_refl _, Nat.le_refl _, h⟩
theorem last_not (hj : j < n) (hd : deep j = false) : ¬ Suf deep ok n m j m := by
  rw [suf_one hj hd]
  rintro ⟨h, _⟩
  omega
end

/-- Where the name that starts at a ends. -/
def nameEnd (p : List UInt8) (a : Nat) : Nat := a + ((p.drop a).takeWhile fun c => c != 47).length

/-- e is where the name that starts at a ends. -/
def IsEnd (p : List UInt8) (a e : Nat) : Prop := a ≤ e ∧ e ≤ p.length ∧ (∀ j, a ≤ j → j < e → p[j]? ≠ some 47) ∧ (e < p.length → p[e]? = some 47)

theorem end_unique {p : List UInt8} {a e e' : Nat} (h : IsEnd p a e) (h' : IsEnd p a e') : e = e' := by
  obtain ⟨h1, h2, h3, h4⟩ := h
  obtain ⟨k1, k2, k3, k4⟩ := h'
  rcases Nat.lt_trichotomy e e' with hlt | heq | hgt
  · exact absurd (h4 (by omega)) (k3 e h1 hlt)
  · exact heq
  · exact absurd (k4 (by omega)) (h3 e' k1 hgt)

theorem while_spec : ∀ l : List UInt8, (∀ j, j < (l.takeWhile fun c => c != 47).length → l[j]? ≠ some 47) ∧ ((l.takeWhile fun c => c != 47).length < l.length → l[(l.takeWhile fun c => c != 47).length]? = some 47)
  | [] => ⟨fun j hj => by simp at hj, fun h => by simp at h⟩
  | c :: l => by
    by_cases h : c = 47
    · subst h
      exact ⟨fun j hj => by simp at hj, fun _ => by simp⟩
    · have hc : (c != 47) = true := by simpa using h
      obtain ⟨h1, h2⟩ := while_spec l
      rw [List.takeWhile_cons, if_pos hc]
      refine ⟨fun j hj => ?_, fun hl => ?_⟩
      · cases j with
        | zero => simpa using h
        | succ j => simpa using h1 j (by simpa using hj)
      · simpa using h2 (by simpa using hl)

theorem isEnd (p : List UInt8) (a : Nat) (ha : a ≤ p.length) : IsEnd p a (nameEnd p a) := by
  obtain ⟨h1, h2⟩ := while_spec (p.drop a)
  have hl : ((p.drop a).takeWhile fun c => c != 47).length ≤ (p.drop a).length := (List.takeWhile_sublist _).length_le
  rw [List.length_drop] at hl h2
  unfold nameEnd
  refine ⟨by omega, by omega, fun j h3 h4 => ?_, fun h => ?_⟩
  · have := h1 (j - a) (by omega)
    rwa [List.getElem?_drop, show a + (j - a) = j from by omega] at this
  · have := h2 (by omega)
    rwa [List.getElem?_drop] at this

/-- The m names of p start at pos 0, pos 1, ..; pos m is past the end. -/
structure NamesOf (p : List UInt8) (m : Nat) (pos : Nat → Nat) : Prop where
  last : pos m = p.length + 1
  le : ∀ k, k < m → pos k ≤ p.length
  next : ∀ k, k < m → pos (k + 1) = nameEnd p (pos k) + 1

/-- Name number k. -/
def nameOf (p : List UInt8) (pos : Nat → Nat) (k : Nat) : List UInt8 := (p.drop (pos k)).take (nameEnd p (pos k) - pos k)

/-- Where the names start. -/
def startOf (p : List UInt8) : Nat → Nat
  | 0 => 0
  | k + 1 => nameEnd p (startOf p k) + 1

end Go.Proofs.Qxb6602242a
