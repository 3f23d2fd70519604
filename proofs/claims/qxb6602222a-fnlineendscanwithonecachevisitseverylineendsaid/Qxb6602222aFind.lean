/-
  bytes.IndexByte (30), told by the bytes' numbers.
-/
import Derived.Test.Qxb6602222aSmall
import Derived.Test.Qxb6602222aShelf
namespace Go.Proofs.Qxb6602222a
open Go.RowKit

theorem indexByte_spec : ∀ (l : List UInt8) (c : UInt8), (Lib.indexByte l c = -1 ∧ ∀ j : Nat, l[j]? ≠ some c) ∨ ∃ i : Nat, Lib.indexByte l c = i ∧ l[i]? = some c ∧ ∀ j : Nat, j < i → l[j]? ≠ some c
  | [], c => .inl ⟨rfl, fun j => by simp⟩
  | b :: l, c => by
    by_cases h : (b == c) = true
    · refine .inr ⟨0, by unfold Lib.indexByte; rw [if_pos h]; rfl, ?_, fun j hj => by omega⟩
      simp only [beq_iff_eq] at h
      simp [h]
    · have h0 : b ≠ c := by simpa using h
      rcases indexByte_spec l c with ⟨e, hn⟩ | ⟨i, e, hi, hn⟩
      · refine .inl ⟨by unfold Lib.indexByte; rw [if_neg h, e]; rfl, fun j => ?_⟩
        cases j with
        | zero => simpa using h0
        | succ j => simpa using hn j
      · refine .inr ⟨i + 1, ?_, by simpa using hi, fun j hj => ?_⟩
        · unfold Lib.indexByte; rw [if_neg h, e]
          have : ((i : Int) == -1) = false := by rw [beq_eq_false_iff_ne]; omega
          simp [this]
        · cases j with
          | zero => simpa using h0
          | succ j => simpa using hn j (by omega)

/-- What a search for the number c among m bytes f finds. -/
def Found (f : Nat → Int) (m : Nat) (c : Int) (r : Int) : Prop :=
  (r = -1 ∧ ∀ j, j < m → f j ≠ c) ∨ ∃ i : Nat, r = i ∧ i < m ∧ f i = c ∧ ∀ j, j < i → f j ≠ c

theorem byte_inj {a b : Int} (ha : 0 ≤ a) (ha' : a ≤ 255) (hb : 0 ≤ b) (hb' : b ≤ 255) (h : UInt8.ofNat a.toNat = UInt8.ofNat b.toNat) : a = b := by
  have := congrArg UInt8.toNat h
  simp only [UInt8.toNat_ofNat'] at this
  omega

theorem found_of (f : Nat → Int) (m : Nat) (c : Int) (hf : ∀ j, j < m → 0 ≤ f j ∧ f j ≤ 255) (h0 : 0 ≤ c) (h1 : c ≤ 255) : Found f m c (Lib.indexByte (Lib.bytesOf ((List.range m).map f)) c.toNat.toUInt8) := by
  have hget : ∀ j, (Lib.bytesOf ((List.range m).map f))[j]? = if j < m then some (UInt8.ofNat (f j).toNat) else none := by
    intro j
    unfold Lib.bytesOf
    by_cases hj : j < m
    · simp [hj]
    · simp [hj]
  rcases indexByte_spec (Lib.bytesOf ((List.range m).map f)) c.toNat.toUInt8 with ⟨e, hn⟩ | ⟨i, e, hi, hn⟩
  · refine .inl ⟨e, fun j hj hc => hn j ?_⟩
    rw [hget j, if_pos hj, hc]
  · rw [hget i] at hi
    by_cases him : i < m
    · rw [if_pos him] at hi
      simp only [Option.some.injEq] at hi
      refine .inr ⟨i, e, him, byte_inj (hf i him).1 (hf i him).2 h0 h1 hi, fun j hj hc => hn j hj ?_⟩
      rw [hget j, if_pos (by omega), hc]
    · rw [if_neg him] at hi; cases hi

/-- What the search leaves. -/
def FindEnd (f : Nat → Int) (m : Nat) (c : Int) (w : World) (e : Ending) (w' : World) : Prop := ∃ r : Int, e = .returned (.int .i64 r) ∧ w' = w ∧ Found f m c r

theorem find30 (b o m cap : Nat) (f : Nat → Int) (c : Int) (w : World) (hf : ∀ j, j < m → 0 ≤ f j ∧ f j ≤ 255) (h0 : 0 ≤ c) (h1 : c ≤ 255) (hc : ∀ i, i < m → w.cell? ⟨b, o + i, none⟩ = some (.int .u8 (f i))) :
    Calls Try.prog 30 #[.slice (some ⟨b, o, none⟩) m cap, .int .u8 c] w (FindEnd f m c w) :=
  (Try.bytes_IndexByte b o m cap ((List.range m).map f) c w (by simp) (fun i hi => by rw [hc i hi]; simp [hi])).mono fun _ _ ⟨h2, h3⟩ => ⟨_, h2, h3, found_of f m c hf h0 h1⟩

theorem find30_nil (c : Int) (w : World) : Calls Try.prog 30 #[.slice none 0 0, .int .u8 c] w fun e w' => e = .returned (.int .i64 (-1)) ∧ w = w' :=
  (Try.bytes_IndexByte_nil c w).mono fun _ _ ⟨h2, h3⟩ => ⟨h2, h3.symm⟩

end Go.Proofs.Qxb6602222a
