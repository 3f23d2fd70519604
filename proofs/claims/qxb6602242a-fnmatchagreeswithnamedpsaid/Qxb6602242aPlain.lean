/-
  THE PLAIN LAW OF THE STARS: a glob by dynamic programme, and by taking each middle part at its leftmost place. No Go in sight.
-/
import Derived.Lib.Index
namespace Go.Proofs.Qxb6602242a

theorem index_spec : ∀ s sub : List UInt8, (Lib.index s sub = -1 ∧ ∀ j, j ≤ s.length → Lib.occAt s sub j = false) ∨ ∃ i : Nat, Lib.index s sub = i ∧ i ≤ s.length ∧ Lib.occAt s sub i = true ∧ ∀ j, j < i → Lib.occAt s sub j = false
  | [], sub => by
    cases sub with
    | nil => exact .inr ⟨0, rfl, Nat.le_refl _, rfl, fun j hj => by omega⟩
    | cons a r => exact .inl ⟨rfl, fun j _ => by simp [Lib.occAt]⟩
  | b :: l, sub => by
    by_cases h : sub.isPrefixOf (b :: l) = true
    · refine .inr ⟨0, ?_, Nat.zero_le _, by simpa [Lib.occAt] using h, fun j hj => by omega⟩
      unfold Lib.index; rw [if_pos h]; rfl
    · have h0 : Lib.occAt (b :: l) sub 0 = false := Bool.eq_false_iff.2 h
      rcases index_spec l sub with ⟨e, hn⟩ | ⟨i, e, hi, ho, hn⟩
      · refine .inl ⟨?_, fun j hj => ?_⟩
        · unfold Lib.index; rw [if_neg h, e]; rfl
        · cases j with
          | zero => exact h0
          | succ j => simpa [Lib.occAt] using hn j (by simpa using hj)
      · refine .inr ⟨i + 1, ?_, by simpa using hi, by simpa [Lib.occAt] using ho, fun j hj => ?_⟩
        · unfold Lib.index; rw [if_neg h, e]
          have : ((i : Int) == -1) = false := by rw [beq_eq_false_iff_ne]; omega
          simp [this]
        · cases j with
          | zero => exact h0
          | succ j => simpa [Lib.occAt] using hn j (by omega)

theorem occ_iff (t u : List UInt8) (s : Nat) : Lib.occAt t u s = true ↔ ∀ j, j < u.length → t[s + j]? = u[j]? := by
  unfold Lib.occAt
  rw [List.isPrefixOf_iff_prefix, List.prefix_iff_eq_take]
  constructor
  · intro e j hj
    rw [e, List.getElem?_take, if_pos hj, List.getElem?_drop]
  · intro e
    apply List.ext_getElem?
    intro j
    rw [List.getElem?_take]
    by_cases hj : j < u.length
    · rw [if_pos hj, List.getElem?_drop, e j hj]
    · rw [if_neg hj]
      simp; omega

/-- A star: any run. -/
def starS (S : Nat → Bool) : Nat → Bool
  | 0 => S 0
  | k + 1 => S (k + 1) || starS S k
/-- A literal byte. -/
def litS (nm : List UInt8) (c : UInt8) (S : Nat → Bool) : Nat → Bool
  | 0 => false
  | k + 1 => S k && nm[k]? == some c
/-- The first b bytes of a part. -/
def litsT (nm p : List UInt8) (S : Nat → Bool) : Nat → Nat → Bool
  | 0 => S
  | b + 1 => litS nm (p.getD b 0) (litsT nm p S b)
/-- The first t parts, a star between each two. -/
def globT (nm : List UInt8) (ps : List (List UInt8)) : Nat → Nat → Bool
  | 0 => fun k => k == 0
  | t + 1 => litsT nm (ps.getD t []) (if 0 < t then starS (globT nm ps t) else globT nm ps t) (ps.getD t []).length
/-- The glob. -/
def globB (ps : List (List UInt8)) (nm : List UInt8) : Bool := globT nm ps ps.length nm.length

theorem starS_iff (S : Nat → Bool) (k : Nat) : starS S k = true ↔ ∃ j, j ≤ k ∧ S j = true := by
  induction k with
  | zero => exact ⟨fun h => ⟨0, Nat.le_refl _, h⟩, fun ⟨j, hj, h⟩ => by have : j = 0 := by omega
                                                                        subst this; exact h⟩
  | succ k ih =>
    rw [starS, Bool.or_eq_true, ih]
    constructor
    · rintro (h | ⟨j, hj, h⟩)
      · exact ⟨k + 1, Nat.le_refl _, h⟩
      · exact ⟨j, by omega, h⟩
    · rintro ⟨j, hj, h⟩
      by_cases e : j = k + 1
      · subst e; exact .inl h
      · exact .inr ⟨j, by omega, h⟩

theorem litsT_iff (nm p : List UInt8) (S : Nat → Bool) (b k : Nat) (hb : b ≤ p.length) : litsT nm p S b k = true ↔ b ≤ k ∧ S (k - b) = true ∧ ∀ j, j < b → nm[k - b + j]? = p[j]? := by
  induction b generalizing k with
  | zero => simp [litsT]
  | succ b ih =>
    cases k with
    | zero => simp [litsT, litS]
    | succ k =>
      rw [litsT, litS, Bool.and_eq_true, ih k (by omega)]
      have hpb : p[b]? = some (p.getD b 0) := by
        have h : b < p.length := by omega
        simp [h]
      constructor
      · rintro ⟨⟨h1, h2, h3⟩, h4⟩
        refine ⟨by omega, by rw [show k + 1 - (b + 1) = k - b from by omega]; exact h2, fun j hj => ?_⟩
        rw [show k + 1 - (b + 1) = k - b from by omega]
        by_cases e : j = b
        · subst e
          rw [show k - j + j = k from by omega, hpb]
          exact beq_iff_eq.1 h4
        · exact h3 j (by omega)
      · rintro ⟨h1, h2, h3⟩
        rw [show k + 1 - (b + 1) = k - b from by omega] at h2 h3
        refine ⟨⟨by omega, h2, fun j hj => h3 j (by omega)⟩, ?_⟩
        have := h3 b (by omega)
        rw [show k - b + b = k from by omega, hpb] at this
        exact beq_iff_eq.2 this

theorem lits_iff (nm p : List UInt8) (S : Nat → Bool) (k : Nat) : litsT nm p S p.length k = true ↔ p.length ≤ k ∧ S (k - p.length) = true ∧ Lib.occAt nm p (k - p.length) = true := by
  rw [litsT_iff nm p S _ k (Nat.le_refl _), occ_iff]

/-- The first part. -/
theorem glob_first (nm : List UInt8) (ps : List (List UInt8)) (k : Nat) : globT nm ps 1 k = true ↔ k = (ps.getD 0 []).length ∧ Lib.occAt nm (ps.getD 0 []) 0 = true := by
  rw [globT, if_neg (by omega), lits_iff]
  constructor
  · rintro ⟨h1, h2, h3⟩
    have h2' : k - (ps.getD 0 []).length = 0 := by simpa [globT] using h2
    rw [h2'] at h3
    exact ⟨by omega, h3⟩
  · rintro ⟨h1, h2⟩
    subst h1
    refine ⟨Nat.le_refl _, ?_, ?_⟩
    · simp [globT]
    · rw [Nat.sub_self]; exact h2

theorem glob_next (nm : List UInt8) (ps : List (List UInt8)) (t k : Nat) (ht : 0 < t) : globT nm ps (t + 1) k = true ↔ (ps.getD t []).length ≤ k ∧ starS (globT nm ps t) (k - (ps.getD t []).length) = true ∧ Lib.occAt nm (ps.getD t []) (k - (ps.getD t []).length) = true := by
  rw [globT, if_pos ht, lits_iff]

/-- Up to E nothing is reached by t parts. -/
def Dead (nm : List UInt8) (ps : List (List UInt8)) (E t : Nat) : Prop := ∀ k, k ≤ E → globT nm ps t k = false
/-- Up to E the places that t parts and a star reach are those from 'pos' on. -/
def Live (nm : List UInt8) (ps : List (List UInt8)) (E t pos : Nat) : Prop := ∀ k, k ≤ E → (starS (globT nm ps t) k = true ↔ pos ≤ k)

theorem Dead.star {nm : List UInt8} {ps : List (List UInt8)} {E t : Nat} (h : Dead nm ps E t) : ∀ k, k ≤ E → starS (globT nm ps t) k = false := by
  intro k hk
  rw [Bool.eq_false_iff]
  intro e
  obtain ⟨j, hj, hs⟩ := (starS_iff _ _).1 e
  rw [h j (by omega)] at hs
  cases hs

theorem Dead.next {nm : List UInt8} {ps : List (List UInt8)} {E t : Nat} (h : Dead nm ps E t) (ht : 0 < t) : Dead nm ps E (t + 1) := by
  intro k hk
  rw [Bool.eq_false_iff]
  intro e
  obtain ⟨_, h2, _⟩ := (glob_next nm ps t k ht).1 e
  rw [h.star _ (by omega)] at h2
  cases h2

theorem Dead.later {nm : List UInt8} {ps : List (List UInt8)} {E t : Nat} (h : Dead nm ps E t) (ht : 0 < t) : ∀ t', t ≤ t' → Dead nm ps E t'
  | 0, h' => by omega
  | t' + 1, h' => by
    by_cases e : t = t' + 1
    · subst e; exact h
    · exact (Dead.later h ht t' (by omega)).next (by omega)

/-- The last part, behind E. -/
theorem glob_last {nm : List UInt8} {ps : List (List UInt8)} (hp : 2 ≤ ps.length) : globB ps nm = true ↔
    (ps.getD (ps.length - 1) []).length ≤ nm.length ∧ starS (globT nm ps (ps.length - 1)) (nm.length - (ps.getD (ps.length - 1) []).length) = true ∧ Lib.occAt nm (ps.getD (ps.length - 1) []) (nm.length - (ps.getD (ps.length - 1) []).length) = true := by
  have := glob_next nm ps (ps.length - 1) nm.length (by omega)
  rw [show ps.length - 1 + 1 = ps.length from by omega] at this
  exact this

theorem dead_end {nm : List UInt8} {ps : List (List UInt8)} {t : Nat} (hp : 2 ≤ ps.length) (ht : 0 < t) (ht' : t < ps.length) (h : Dead nm ps (nm.length - (ps.getD (ps.length - 1) []).length) t) : globB ps nm = false := by
  rw [Bool.eq_false_iff]
  intro e
  obtain ⟨_, h2, _⟩ := (glob_last hp).1 e
  rw [(h.later ht (ps.length - 1) (by omega)).star _ (Nat.le_refl _)] at h2
  cases h2

theorem short_end {nm : List UInt8} {ps : List (List UInt8)} (hp : 2 ≤ ps.length) (h : nm.length < (ps.getD 0 []).length + (ps.getD (ps.length - 1) []).length) : globB ps nm = false := by
  by_cases hl : (ps.getD (ps.length - 1) []).length ≤ nm.length
  · refine dead_end hp (t := 1) (by omega) (by omega) fun k hk => ?_
    rw [Bool.eq_false_iff]
    intro e
    have := ((glob_first nm ps k).1 e).1
    omega
  · rw [Bool.eq_false_iff]
    intro e
    exact hl ((glob_last hp).1 e).1

theorem prefix_end {nm : List UInt8} {ps : List (List UInt8)} (hp : 2 ≤ ps.length) (h : Lib.hasPrefix nm (ps.getD 0 []) = false) : globB ps nm = false := by
  refine dead_end hp (t := 1) (by omega) (by omega) fun k _ => ?_
  rw [Bool.eq_false_iff]
  intro e
  have := ((glob_first nm ps k).1 e).2
  unfold Lib.occAt at this
  unfold Lib.hasPrefix at h
  rw [List.drop_zero] at this
  rw [h] at this
  cases this

theorem suffix_iff {nm p : List UInt8} : Lib.hasSuffix nm p = true ↔ p.length ≤ nm.length ∧ Lib.occAt nm p (nm.length - p.length) = true := by
  rw [← Lib.hasSuffix_of_drop, Bool.and_eq_true, decide_eq_true_eq]
  constructor
  · rintro ⟨h1, h2⟩
    refine ⟨h1, ?_⟩
    unfold Lib.occAt
    rw [beq_iff_eq.1 h2]
    exact List.isPrefixOf_iff_prefix.2 (List.prefix_refl _)
  · rintro ⟨h1, h2⟩
    refine ⟨h1, ?_⟩
    unfold Lib.occAt at h2
    have := List.isPrefixOf_iff_prefix.1 h2
    rw [List.prefix_iff_eq_take, List.take_of_length_le (by rw [List.length_drop]; omega)] at this
    rw [← this]
    exact beq_self_eq_true _

theorem suffix_end {nm : List UInt8} {ps : List (List UInt8)} (hp : 2 ≤ ps.length) (h : Lib.hasSuffix nm (ps.getD (ps.length - 1) []) = false) : globB ps nm = false := by
  rw [Bool.eq_false_iff]
  intro e
  obtain ⟨h1, _, h3⟩ := (glob_last hp).1 e
  rw [suffix_iff.2 ⟨h1, h3⟩] at h
  cases h

theorem live_first {nm : List UInt8} {ps : List (List UInt8)} (E : Nat) (h : Lib.hasPrefix nm (ps.getD 0 []) = true) : Live nm ps E 1 (ps.getD 0 []).length := by
  intro k _
  rw [starS_iff]
  constructor
  · rintro ⟨j, hj, hg⟩
    have := ((glob_first nm ps j).1 hg).1
    omega
  · intro hk
    exact ⟨_, hk, (glob_first nm ps _).2 ⟨rfl, by unfold Lib.occAt; rw [List.drop_zero]; exact h⟩⟩

theorem live_end {nm : List UInt8} {ps : List (List UInt8)} {pos : Nat} (hp : 2 ≤ ps.length) (hs : Lib.hasSuffix nm (ps.getD (ps.length - 1) []) = true)
    (h : Live nm ps (nm.length - (ps.getD (ps.length - 1) []).length) (ps.length - 1) pos) (hpos : pos ≤ nm.length - (ps.getD (ps.length - 1) []).length) : globB ps nm = true := by
  obtain ⟨h1, h2⟩ := suffix_iff.1 hs
  exact (glob_last hp).2 ⟨h1, (h _ (Nat.le_refl _)).2 hpos, h2⟩

/-- An occurrence in the piece from pos to E. -/
theorem occ_piece {nm m : List UInt8} {pos E j : Nat} (_hE : E ≤ nm.length) (hj : pos + j + m.length ≤ E) : Lib.occAt ((nm.drop pos).take (E - pos)) m j = Lib.occAt nm m (pos + j) := by
  rw [Bool.eq_iff_iff, occ_iff, occ_iff]
  have : ∀ i, i < m.length → ((nm.drop pos).take (E - pos))[j + i]? = nm[pos + j + i]? := by
    intro i hi
    rw [List.getElem?_take, if_pos (by omega), List.getElem?_drop, Nat.add_assoc]
  constructor
  · intro h i hi; rw [← this i hi]; exact h i hi
  · intro h i hi; rw [this i hi]; exact h i hi

/-- The leftmost place of the next part in the piece from pos to E, or none: then nothing is reached up to E. -/
theorem live_step {nm : List UInt8} {ps : List (List UInt8)} {E t pos : Nat} (hE : E ≤ nm.length) (hpos : pos ≤ E) (ht : 0 < t) (h : Live nm ps E t pos) :
    (Lib.index ((nm.drop pos).take (E - pos)) (ps.getD t []) = -1 ∧ Dead nm ps E (t + 1)) ∨
    ∃ i : Nat, Lib.index ((nm.drop pos).take (E - pos)) (ps.getD t []) = i ∧ pos + (i + (ps.getD t []).length) ≤ E ∧ Live nm ps E (t + 1) (pos + (i + (ps.getD t []).length)) := by
  have hlen : ((nm.drop pos).take (E - pos)).length = E - pos := by rw [List.length_take, List.length_drop]; omega
  rcases index_spec ((nm.drop pos).take (E - pos)) (ps.getD t []) with ⟨e, hn⟩ | ⟨i, e, hi, ho, hn⟩
  · refine .inl ⟨e, fun k hk => ?_⟩
    rw [Bool.eq_false_iff]
    intro hg
    obtain ⟨h1, h2, h3⟩ := (glob_next nm ps t k ht).1 hg
    have hp := (h _ (by omega)).1 h2
    have := hn (k - (ps.getD t []).length - pos) (by rw [hlen]; omega)
    rw [occ_piece hE (by omega), show pos + (k - (ps.getD t []).length - pos) = k - (ps.getD t []).length from by omega, h3] at this
    cases this
  · have hroom : pos + (i + (ps.getD t []).length) ≤ E := by
      rw [hlen] at hi
      rcases Lib.occAt_room ho with h' | h'
      · rw [hlen] at h'; omega
      · rw [h']; simp; omega
    refine .inr ⟨i, e, hroom, fun k hk => ?_⟩
    rw [starS_iff]
    constructor
    · rintro ⟨j, hj, hg⟩
      obtain ⟨h1, h2, h3⟩ := (glob_next nm ps t j ht).1 hg
      have hp := (h _ (by omega)).1 h2
      by_cases hlt : j - (ps.getD t []).length - pos < i
      · have := hn _ hlt
        rw [occ_piece hE (by omega), show pos + (j - (ps.getD t []).length - pos) = j - (ps.getD t []).length from by omega, h3] at this
        cases this
      · omega
    · intro hk'
      refine ⟨_, hk', (glob_next nm ps t _ ht).2 ⟨by omega, ?_, ?_⟩⟩
      · exact (h _ (by omega)).2 (by omega)
      · rw [occ_piece hE (by omega)] at ho
        rw [show pos + (i + (ps.getD t []).length) - (ps.getD t []).length = pos + i from by omega]
        exact ho

end Go.Proofs.Qxb6602242a
