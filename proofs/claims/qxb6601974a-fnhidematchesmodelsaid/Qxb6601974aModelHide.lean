/-
  zzModelHide (20).
-/
import Derived.Test.Qxb6601974aHide
import Derived.Laws.BytesArg
import Derived.Maps.AppendAt
namespace Go.Proofs.Qxb6601974a
open Go.RowKit

theorem Try.info5 : (Try.prog.info? 5).map (fun i => (i.zero, i.size, i.bytes)) = some (some (.int .u8 0), 1, 1) := by kernel_rfl
theorem ne27 (w : World) (a : Option Addr) (n c : Nat) : (binOp .neq 27 (.slice a n c) (.slice none 0 0)).run Try.prog w = .ok (.bool (!a.isNone)) w := run_neq_slice_nil_any w 27 4 a n c 0 0 Try.underlying27

theorem hide_run {t : List UInt8} {bs : List Bool} {k : Nat} : ∀ p, k < p → (∀ j, k ≤ j → j < p → bs.getD j false = true) → hide t bs p = hide t bs (k + 1)
  | 0, h, _ => by omega
  | p + 1, h, hall => by
    by_cases e : k = p
    · subst e; rfl
    · rw [hide_later (hall p (by omega) (by omega)) (by omega) (hall (p - 1) (by omega) (by omega))]
      exact hide_run p (by omega) fun j h1 h2 => hall j h1 (by omega)

theorem conv42 {B : Nat} {w : World} {v : Value} {l : List UInt8} (h : w.ownsRow B 5 1 v l.length (Lib.byteCells l)) : (convert 42 9 v).run Try.prog w = .ok (.string ⟨l.toArray⟩) w := by
  rcases h.2 with ⟨rfl, hn⟩ | ⟨g, cap, cur, rfl, _, hg, _, _, _, htk⟩
  · have : l = [] := List.length_eq_zero_iff.1 hn
    subst this
    exact run_convert_bytes_nil w 42 5 Try.underlying42 Try.underlying5 0 0 9 Try.underlying9
  · have e : strOfNums (l.map fun b => (b.toNat : Int)) = ⟨l.toArray⟩ := by
      unfold strOfNums
      rw [List.map_map]
      congr 2
      have : ((fun n : Int => UInt8.ofNat n.toNat) ∘ fun b : UInt8 => (b.toNat : Int)) = id := by
        funext b; simp
      rw [this, List.map_id]
    rw [← e]
    refine run_convert_bytes_arg w 42 5 Try.underlying42 Try.underlying5 g 0 l.length cap _ (by simp) (fun i hi => ?_) 9 Try.underlying9
    rw [cell_of_row _ _ _ _ _ _ hg, Nat.zero_add, ← Array.getElem?_toList]
    have h1 : (cur.toList.take (l.length * 1))[i]? = cur.toList[i]? := by rw [List.getElem?_take, if_pos (by omega)]
    rw [← h1, htk]
    simp [Lib.byteCells, hi]

theorem own_ge {w : World} {B : Nat} {v : Value} {n : Nat} {xs : List Value} (h : w.ownsRow B 5 1 v n xs) : ∀ k, v.ownBlock = some k → B ≤ k := fun k e => (h.lt k e).1

theorem own_push {w : World} {B : Nat} {v : Value} {l : List UInt8} {x : UInt8} (h : w.ownsRow B 5 1 v (l.length + 1) (Lib.byteCells l ++ [.int .u8 (x.toNat : Int)])) : w.ownsRow B 5 1 v (l ++ [x]).length (Lib.byteCells (l ++ [x])) := by
  simpa [Lib.byteCells] using h

theorem take_byte (t : ByteArray) (k : Nat) (h : k < t.size) : t.data.toList.take (k + 1) = t.data.toList.take k ++ [t[k]] := by
  rw [List.take_succ_eq_append_getElem (by simpa using h)]; rfl
theorem getD_byte (t : ByteArray) (k : Nat) (h : k < t.size) : t.data.toList.getD k 0 = t[k] := by rw [List.getD_eq_getElem?_getD, byte_at t k h]; rfl

theorem star_byte (j : Nat) (h : j < (⟨#[42, 42, 42]⟩ : ByteArray).size) : (⟨#[42, 42, 42]⟩ : ByteArray)[j] = 42 := by
  match j, h with
  | 0, _ => rfl
  | 1, _ => rfl
  | 2, _ => rfl
  | n + 3, h => exact absurd h (by show ¬ n + 3 < 3; omega)
theorem own_star {w : World} {B : Nat} {v : Value} {l : List UInt8} {j : Nat} (h : w.ownsRow B 5 1 v (l ++ List.replicate j 42 ++ [42]).length (Lib.byteCells (l ++ List.replicate j 42 ++ [42]))) : w.ownsRow B 5 1 v (l ++ List.replicate (j + 1) 42).length (Lib.byteCells (l ++ List.replicate (j + 1) 42)) := by
  rw [List.replicate_succ', ← List.append_assoc]; exact h

/-- The hiding's stand at byte k: it stands at a run's head, or at a byte that is shown. -/
def AtHead (bs : List Bool) (n k : Nat) : Prop := k = 0 ∨ k = n ∨ bs.getD k false = false ∨ bs.getD (k - 1) false = false

set_option maxHeartbeats 1000000 in
theorem mhide20 (a : Option Addr) (len cap : Nat) (ss : List ByteArray) (t : ByteArray) (w : World) (hl : ss.length = len) (hlen : len ≤ 1048576) (ht : t.size ≤ 1048576)
    (hs : ∀ i, i < ss.length → (ss.getD i ByteArray.empty).size ≤ 1048576) (hne : ∀ i, i < ss.length → 0 < (ss.getD i ByteArray.empty).size) (h : IsStrs w a ss) :
    Calls Try.prog 20 #[.slice a len cap, .string t] w (HideEnd t ss w) := by
  obtain ⟨i0, hi, hz0, hz1, hz2⟩ := info_parts Try.info5
  have C : Hid (Calls Try.prog 15 #[.slice a len cap, .string t] w (CovEnd t ss w)) := model15 a len cap ss t w hl hlen ht hs hne h
  clear hs hne h
  have q := ne27
  go_enter Try.func20, Try.ntmps20
  go_wp2_with fail
  refine C.out.mono ?_
  rintro e w' ⟨v, o, rfl, hO, hC0, hbel⟩
  have hC : Hid (Cov t.size (Occs t.data.toList (texts ss)) o) := hC0
  clear hC0 C
  cases o with
  | none =>
    have hv : v = .slice none 0 0 := hO
    subst hv
    go_wp2_with (at_make; refine wpList_make_own _ rfl _ _ 42 rfl w'.heap.size 5 i0 (.int .u8 0) 1 Try.underlying42 hi hz0 hz1 .i64 .i64 _ t.size rfl rfl rfl (by rw [hz2]; omega) (by unfold maxLen; omega) (Nat.le_refl _) ?_; intro w1 hown hgrow)
    have hb1 := (Below.refl w'.heap.size w').grown hgrow (Nat.le_refl _) (fun k e => by cases e)
    go_loopw [7, 8] (fun v i wr => ∃ k : Nat, k ≤ t.size ∧ i = .int .i64 k ∧ wr.ownsRow w'.heap.size 5 1 v (t.data.toList.take k).length (Lib.byteCells (t.data.toList.take k)) ∧ Below w'.heap.size w' wr) (fun _ i _ => t.size - (intOf i).toNat)
    case atStart => exact ⟨0, Nat.zero_le _, rfl, hown, hb1⟩
    case round =>
      clear hown hgrow hb1
      obtain ⟨k, hk, rfl, hown, hbr⟩ := hrel
      have hsz := hbr.size
      by_cases hlt : k < t.size
      · have hll : (t.data.toList.take k).length ≤ k := List.length_take_le _ _
        go_wp2_with (at_builtin; refine wpList_append_own _ rfl _ _ 42 rfl w'.heap.size 5 i0 (.int .u8 0) 1 1 Try.underlying42 hi hz0 hz1 hz2 rfl (by decide) u7 _ _ rfl (hown.alloc _) ⟨wr.heap.size, 0, none⟩ 1 1 [.int .u8 (t[k].toNat : Int)] rfl rfl (cell_one_new _ _ _) (by intro u hu; simp at hu; subst hu; rfl) (by unfold maxLen; omega) (by omega) (by simp; omega) ?_; intro v2 w2 hown2 hgrow2 _)
        go_roundw
        case rel => exact ⟨k + 1, by omega, by go_num, by rw [take_byte t k hlt]; exact own_push hown2, (hbr.alloc hsz _).grown hgrow2 (by simp; omega) (own_ge hown)⟩
        case measure => simp [intOf]; omega
      · have hkk : t.data.toList.take k = t.data.toList := List.take_of_length_le (by rw [← Lib.size_eq]; omega)
        rw [hkk] at hown
        have hcv := conv42 hown
        clear hkk
        go_wp2
        go_ret
        exact ⟨none, hC.out, rfl, hbel.trans (hbr.mono hbel.size)⟩
  | some bs =>
    obtain ⟨g, hge, hv, hF⟩ := hO
    subst hv
    have hbl0 : bs.length = t.size := hC.out.1
    rw [hbl0]
    have hbl : Hid (bs.length = t.size) := hbl0
    clear hbl0
    have hgl := hF.lt
    go_wp2_with (at_make; refine wpList_make_own _ rfl _ _ 42 rfl w'.heap.size 5 i0 (.int .u8 0) 1 Try.underlying42 hi hz0 hz1 .i64 .i64 _ t.size rfl rfl rfl (by rw [hz2]; omega) (by unfold maxLen; omega) (Nat.le_refl _) ?_; intro w1 hown hgrow)
    have hb1 := (Below.refl w'.heap.size w').grown hgrow (Nat.le_refl _) (fun k e => by cases e)
    go_loopw [7, 8] (fun v i wr => ∃ k : Nat, k ≤ t.size ∧ i = .int .i64 k ∧ wr.ownsRow w'.heap.size 5 1 v (hide t.data.toList bs k).length (Lib.byteCells (hide t.data.toList bs k)) ∧ Below w'.heap.size w' wr ∧ Hid (AtHead bs t.size k)) (fun _ i _ => t.size - (intOf i).toNat)
    case atStart => exact ⟨0, Nat.zero_le _, rfl, hown, hb1, .inl rfl⟩
    case round =>
      clear hown hgrow hb1
      obtain ⟨k, hk, rfl, hown, hbr, hJ⟩ := hrel
      have hsz := hbr.size
      have hlen3 := hide_length t.data.toList bs k
      by_cases hlt : k < t.size
      · have hFr := hF.later hbr hgl
        have hc := hFr.cell (j := k) (by rw [hbl.out]; exact hlt)
        cases hbk : bs.getD k false with
        | false =>
          rw [hbk] at hc
          have HK : Hid (bs.getD k false = false) := hbk
          clear hbk
          go_wp2_with (at_builtin; refine wpList_append_own _ rfl _ _ 42 rfl w'.heap.size 5 i0 (.int .u8 0) 1 1 Try.underlying42 hi hz0 hz1 hz2 rfl (by decide) u7 _ _ rfl (hown.alloc _) ⟨wr.heap.size, 0, none⟩ 1 1 [.int .u8 (t[k].toNat : Int)] rfl rfl (cell_one_new _ _ _) (by intro u hu; simp at hu; subst hu; rfl) (by unfold maxLen; omega) (by omega) (by simp; omega) ?_; intro v2 w2 hown2 hgrow2 _)
          go_roundw
          case rel => exact ⟨k + 1, by omega, by go_num, by rw [hide_plain HK.out, getD_byte t k hlt]; exact own_push hown2, (hbr.alloc hsz _).grown hgrow2 (by simp; omega) (own_ge hown), .inr (.inr (.inr HK.out))⟩
          case measure => simp [intOf]; omega
        | true =>
          rw [hbk] at hc
          have HK : Hid (bs.getD k false = true) := hbk
          have HH : Hid (hide t.data.toList bs (k + 1) = hide t.data.toList bs k ++ [42, 42, 42]) := by
            refine hide_first hbk ?_
            rcases hJ.out with h | h | h | h
            · exact .inl h
            · omega
            · rw [hbk] at h; simp at h
            · exact .inr h
          clear hbk hJ
          go_wp2
          go_loopw [7, 9] (fun v i wr => ∃ j : Nat, j ≤ 3 ∧ i = .int .i64 j ∧ wr.ownsRow w'.heap.size 5 1 v (hide t.data.toList bs k ++ List.replicate j 42).length (Lib.byteCells (hide t.data.toList bs k ++ List.replicate j 42)) ∧ Below w'.heap.size w' wr) (fun _ i _ => 3 - (intOf i).toNat)
          case atStart => exact ⟨0, Nat.zero_le _, rfl, by simpa using hown, hbr⟩
          case round =>
            clear hown hbr hsz hFr hc
            obtain ⟨j, hj, rfl, hown, hbr⟩ := hrel
            have hsz := hbr.size
            by_cases hj3 : j < 3
            · have hj' : j < (⟨#[42, 42, 42]⟩ : ByteArray).size := hj3
              have hlr : (hide t.data.toList bs k ++ List.replicate j 42).length = (hide t.data.toList bs k).length + j := by simp
              have HL : Hid ((hide t.data.toList bs k ++ List.replicate j 42).length + 1 ≤ 140737488355328) := by rw [hlr]; show _ ≤ _; omega
              clear hlr
              go_wp2_with (at_builtin; refine wpList_append_own _ rfl _ _ 42 rfl w'.heap.size 5 i0 (.int .u8 0) 1 1 Try.underlying42 hi hz0 hz1 hz2 rfl (by decide) u7 _ _ rfl (hown.alloc _) ⟨wr.heap.size, 0, none⟩ 1 1 [.int .u8 ((⟨#[42, 42, 42]⟩ : ByteArray)[j].toNat : Int)] rfl rfl (cell_one_new _ _ _) (by intro u hu; simp at hu; subst hu; rfl) (by have := HL.out; unfold maxLen; omega) (by have := HL.out; omega) (by simp; omega) ?_; intro v2 w2 hown2 hgrow2 _)
              go_roundw
              case rel =>
                refine ⟨j + 1, by omega, by go_num, own_star ?_, (hbr.alloc hsz _).grown hgrow2 (by simp; omega) (own_ge hown)⟩
                have := own_push hown2
                rw [star_byte j hj'] at this
                exact this
              case measure => simp [intOf]; omega
            · have ej : j = 3 := by omega
              subst ej
              have hown3 : wr.ownsRow w'.heap.size 5 1 u7 (hide t.data.toList bs (k + 1)).length (Lib.byteCells (hide t.data.toList bs (k + 1))) := by rw [HH.out]; exact hown
              clear hown hj hj3
              go_wp2
              go_loop [8] (fun i => ∃ p : Nat, k ≤ p ∧ p ≤ t.size ∧ i = .int .i64 p ∧ Hid (∀ j, k ≤ j → j < p → bs.getD j false = true)) (fun i => t.size - (intOf i).toNat)
              case atStart => exact ⟨k, Nat.le_refl _, hk, rfl, fun j h1 h2 => by omega⟩
              case round =>
                obtain ⟨p, hkp, hp, rfl, hall⟩ := hrel
                by_cases hpt : p < t.size
                · have hFr := hF.later hbr hgl
                  have hc := hFr.cell (j := p) (by rw [hbl.out]; exact hpt)
                  cases hbp : bs.getD p false with
                  | true =>
                    rw [hbp] at hc
                    have HP : Hid (bs.getD p false = true) := hbp
                    clear hbp
                    go_wp2
                    go_round
                    case rel =>
                      refine ⟨p + 1, by omega, by omega, by go_num, fun j h1 h2 => ?_⟩
                      by_cases e : j = p
                      · subst e; exact HP.out
                      · exact hall.out j h1 (by omega)
                    case measure => simp [intOf]; omega
                  | false =>
                    rw [hbp] at hc
                    have HP : Hid (bs.getD p false = false) := hbp
                    clear hbp
                    have hkp' : k < p := by
                      rcases Nat.lt_or_ge k p with h | h
                      · exact h
                      · have e : k = p := by omega
                        have h1 := HK.out
                        rw [e, HP.out] at h1
                        cases h1
                    go_wp2
                    go_roundw
                    case rel => exact ⟨p, by omega, rfl, by rw [hide_run p hkp' hall.out]; exact hown3, hbr, .inr (.inr (.inl HP.out))⟩
                    case measure => simp [intOf]; omega
                · have hkp' : k < p := by omega
                  go_wp2
                  go_roundw
                  case rel => exact ⟨p, by omega, rfl, by rw [hide_run p hkp' hall.out]; exact hown3, hbr, .inr (.inl (by omega))⟩
                  case measure => simp [intOf]; omega
      · have hkk : k = t.data.toList.length := by rw [← Lib.size_eq]; omega
        have HKK : Hid (k = t.data.toList.length) := hkk
        have hcv := conv42 hown
        clear hkk
        go_wp2
        go_ret
        exact ⟨some bs, hC.out, by rw [HKK.out]; rfl, hbel.trans (hbr.mono hbel.size)⟩

end Go.Proofs.Qxb6601974a
