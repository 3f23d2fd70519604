/-
  Hide (19).
-/
import Derived.Test.Qxb6601974aCovered
import Derived.Test.Qxb6601974aShelfB
namespace Go.Proofs.Qxb6601974a
open Go.RowKit

/-- What is shown of the first k bytes. -/
def hide (t : List UInt8) (bs : List Bool) : Nat → List UInt8
  | 0 => []
  | k + 1 => hide t bs k ++ (if bs.getD k false = false then [t.getD k 0] else if k = 0 ∨ bs.getD (k - 1) false = false then [42, 42, 42] else [])

theorem hide_length (t : List UInt8) (bs : List Bool) (k : Nat) : (hide t bs k).length ≤ 3 * k := by
  induction k with
  | zero => simp [hide]
  | succ k ih =>
    rw [hide, List.length_append]
    split
    · simp; omega
    · split <;> simp <;> omega

theorem hide_plain {t : List UInt8} {bs : List Bool} {k : Nat} (h : bs.getD k false = false) : hide t bs (k + 1) = hide t bs k ++ [t.getD k 0] := by rw [hide, if_pos h]
theorem hide_first {t : List UInt8} {bs : List Bool} {k : Nat} (h : bs.getD k false = true) (h' : k = 0 ∨ bs.getD (k - 1) false = false) : hide t bs (k + 1) = hide t bs k ++ [42, 42, 42] := by
  rw [hide, if_neg (by rw [h]; simp), if_pos h']
theorem hide_later {t : List UInt8} {bs : List Bool} {k : Nat} (h : bs.getD k false = true) (h0 : k ≠ 0) (h' : bs.getD (k - 1) false = true) : hide t bs (k + 1) = hide t bs k := by
  rw [hide, if_neg (by rw [h]; simp), if_neg (by rw [h']; simp [h0]), List.append_nil]

/-- What is shown of the whole. -/
def hideOut (t : List UInt8) : Option (List Bool) → List UInt8
  | none => t
  | some bs => hide t bs t.length

/-- What the two hidings leave. -/
def HideEnd (t : ByteArray) (ss : List ByteArray) (w : World) (e : Ending) (w' : World) : Prop := ∃ o, Cov t.size (Occs t.data.toList (texts ss)) o ∧ e = .returned (.string ⟨(hideOut t.data.toList o).toArray⟩) ∧ Below w.heap.size w w'

theorem Flags.lt {w : World} {g : Nat} {bs : List Bool} (h : Flags w g bs) : g < w.heap.size := by
  by_cases hlt : g < w.heap.size
  · exact hlt
  · have hn : w.heap[g]? = none := by simp; omega
    rw [Flags, hn] at h
    cases h
theorem Flags.later {w wx : World} {g B : Nat} {bs : List Bool} (h : Flags w g bs) (hb : Below B w wx) (hg : g < B) : Flags wx g bs := by
  unfold Flags
  rw [hb.block g hg]; exact h

theorem byteCells_one (l : List UInt8) (t : ByteArray) (k : Nat) (h : k < t.size) : Lib.byteCells l ++ [.int .u8 (t[k].toNat : Int)] = Lib.byteCells (l ++ [t.data.toList.getD k 0]) := by
  have : t.data.toList.getD k 0 = t[k] := by rw [List.getD_eq_getElem?_getD, byte_at t k h]; rfl
  rw [this]
  simp [Lib.byteCells]
theorem byteCells_stars (l : List UInt8) : Lib.byteCells l ++ Lib.strCells ⟨#[42, 42, 42]⟩ = Lib.byteCells (l ++ [42, 42, 42]) := by
  simp [Lib.byteCells, Lib.strCells]
theorem byteCells_length (l : List UInt8) : (Lib.byteCells l).length = l.length := by simp [Lib.byteCells]

set_option maxHeartbeats 1000000 in
theorem hide19 (a : Option Addr) (len cap : Nat) (ss : List ByteArray) (t : ByteArray) (w : World) (hl : ss.length = len) (hlen : len ≤ 1048576) (ht : t.size ≤ 1048576)
    (hs : ∀ i, i < ss.length → (ss.getD i ByteArray.empty).size ≤ 1048576) (hne : ∀ i, i < ss.length → 0 < (ss.getD i ByteArray.empty).size) (h : IsStrs w a ss) (hidx : IdxOk w) :
    Calls Try.prog 19 #[.agg #[.slice a len cap], .string t] w (HideEnd t ss w) := by
  have hb : Below w.heap.size w (w.alloc (.cells #[.slice a len cap] 30)) := (Below.refl _ _).alloc (Nat.le_refl _) _
  have c := covered25 a len cap ss t (w.alloc (.cells #[.slice a len cap] 30)) hl hlen ht hs hne (h.later hb) (fun s sub wx h1 h2 => hidx s sub wx h1 (hb.trans (h2.mono (by simp))))
  have C : Hid (Calls Try.prog 25 #[.agg #[.slice a len cap], .string t] (w.alloc (.cells #[.slice a len cap] 30)) (CovEnd t ss (w.alloc (.cells #[.slice a len cap] 30)))) := c
  clear c hs hne h hidx
  have q := eq27
  go_enter Try.func19, Try.ntmps19
  go_wp2_with fail
  refine C.out.mono ?_
  rintro e w' ⟨v, o, rfl, hO, hC0, hbel0⟩
  have hC : Hid (Cov t.size (Occs t.data.toList (texts ss)) o) := hC0
  have hbel : Below w.heap.size w w' := hb.trans (hbel0.mono (by simp))
  clear hC0 hbel0 hb C
  cases o with
  | none =>
    have hv : v = .slice none 0 0 := hO
    subst hv
    go_wp2
    go_ret
    exact ⟨none, hC.out, by simp only [hideOut, Lib.mk_data]; rfl, hbel⟩
  | some bs =>
    obtain ⟨g, hge, hv, hF⟩ := hO
    subst hv
    have hbl0 : bs.length = t.size := hC.out.1
    rw [hbl0]
    have hbl : Hid (bs.length = t.size) := hbl0
    clear hbl0
    have hgl := hF.lt
    go_wp2
    go_loopw [16] (fun i wr => ∃ k : Nat, k ≤ t.size ∧ i = .int .i64 k ∧ Lib.IsBuilder 44 5 w'.heap.size w'.heap.size (Lib.byteCells (hide t.data.toList bs k)) wr ∧ Below w'.heap.size w' wr) (fun i _ => t.size - (intOf i).toNat)
    case atStart => exact ⟨0, Nat.zero_le _, rfl, Lib.fresh_isBuilder _ _ _, (Below.refl _ _).alloc (Nat.le_refl _) _⟩
    case round =>
      obtain ⟨k, hk, rfl, hB, hbr⟩ := hrel
      have hsz := hbr.size
      have hlen3 := hide_length t.data.toList bs k
      have hll : (Lib.byteCells (hide t.data.toList bs k)).length + 1 ≤ 140737488355328 := by rw [byteCells_length]; omega
      have hll3 : (Lib.byteCells (hide t.data.toList bs k)).length + (⟨#[42, 42, 42]⟩ : ByteArray).size ≤ 140737488355328 := by rw [byteCells_length]; show _ + 3 ≤ _; omega
      by_cases hlt : k < t.size
      · have hFr := hF.later hbr hgl
        have hc := hFr.cell (j := k) (by rw [hbl.out]; exact hlt)
        cases hbk : bs.getD k false with
        | false =>
          rw [hbk] at hc
          have HK : Hid (bs.getD k false = false) := hbk
          clear hbk
          go_wp2_with (go_at_call 27; refine (Try.Builder_WriteByte _ _ _ _ _ hB hll hsz).mono ?_; rintro e w2 ⟨rfl, hB2, hb2⟩)
          go_roundw
          case rel => exact ⟨k + 1, by omega, by go_num, by rw [hide_plain HK.out, ← byteCells_one _ t k hlt]; exact .inr hB2, hbr.trans hb2⟩
          case measure => simp [intOf]; omega
        | true =>
          rw [hbk] at hc
          have HK : Hid (bs.getD k false = true) := hbk
          clear hbk
          by_cases hk0 : k = 0
          · have HZ : Hid (k = 0) := hk0
            have hz1 : ((k : Int) == 0) = true := by rw [hk0]; rfl
            clear hk0
            go_wp2_with (go_at_call 28; refine (Try.Builder_WriteString _ _ _ _ _ hB hll3 hsz).mono ?_; rintro e w2 ⟨rfl, hB2, hb2⟩)
            go_roundw
            case rel => exact ⟨k + 1, by omega, by go_num, by rw [hide_first HK.out (.inl HZ.out), ← byteCells_stars]; exact .inr hB2, hbr.trans hb2⟩
            case measure => simp [intOf]; omega
          · have hp := hFr.cell (j := k - 1) (by rw [hbl.out]; omega)
            have hz1 : ((k : Int) == 0) = false := by rw [beq_eq_false_iff_ne]; omega
            have hk1 : 1 ≤ k := by omega
            cases hbk : bs.getD (k - 1) false with
            | false =>
              rw [hbk] at hp
              have HP : Hid (bs.getD (k - 1) false = false) := hbk
              clear hbk
              go_wp2_with (go_at_call 28; refine (Try.Builder_WriteString _ _ _ _ _ hB hll3 hsz).mono ?_; rintro e w2 ⟨rfl, hB2, hb2⟩)
              go_roundw
              case rel => exact ⟨k + 1, by omega, by go_num, by rw [hide_first HK.out (.inr HP.out), ← byteCells_stars]; exact .inr hB2, hbr.trans hb2⟩
              case measure => simp [intOf]; omega
            | true =>
              rw [hbk] at hp
              have HP : Hid (bs.getD (k - 1) false = true) := hbk
              clear hbk
              go_wp2
              go_roundw
              case rel => exact ⟨k + 1, by omega, by go_num, by rw [hide_later HK.out hk0 HP.out]; exact hB, hbr⟩
              case measure => simp [intOf]; omega
      · have hkk : k = t.data.toList.length := by rw [← Lib.size_eq]; omega
        have HKK : Hid (k = t.data.toList.length) := hkk
        clear hkk
        go_wp2_with (go_at_call 29; refine (Try.Builder_String_any _ _ _ _ hB hsz).mono ?_; rintro e w2 ⟨rfl, hb2⟩)
        go_ret
        exact ⟨some bs, hC.out, by rw [HKK.out]; rfl, hbel.trans ((hbr.trans hb2).mono hbel.size)⟩

end Go.Proofs.Qxb6601974a
