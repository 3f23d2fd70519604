/-
  FnPlacesMatchesBackwardScan (5), FnPlacesCountsAfterFirstPoint (6): the walks.
-/
import Derived.Test.Qxb6602428aWalk
namespace Go.Proofs.Qxb6602428a
open Go.RowKit

/-- What a law leaves. -/
def LawEnd (w : World) (e : Ending) (w' : World) : Prop := e = .returned (.bool true) ∧ ∃ n, w' = w.drewN n

set_option maxHeartbeats 400000 in
theorem law5 (s : ByteArray) (w : World) (hs : s.size ≤ 9223372036854775807) (hm : MaxOk w) : Calls Try.prog 5 #[.string s] w (LawEnd w) := by
  go_enter Try.func5, Try.ntmps5
  go_wp2_with fail
  refine (bytes13 s w hs).mono ?_
  rintro e w0 ⟨v, rfl, rfl, hv⟩
  cases v with
  | false =>
    go_wp2
    go_ret
    exact ⟨rfl, 0, rfl⟩
  | true =>
    have hb := hv rfl
    clear hv
    go_wp2_with fail
    refine (places14 s w0 (by omega) hm).mono ?_
    rintro e w1 ⟨rfl, n1, rfl⟩
    go_wp2_with fail
    refine (back15 s (w0.drewN n1) hb).mono ?_
    rintro e w2 ⟨rfl, n2, rfl⟩
    generalize placesL s.data.toList = f
    go_wp2
    go_ret
    exact ⟨by first | rfl | simp, n1 + n2, by first | rfl | simp⟩

theorem join_data (a b : ByteArray) : ((a ++ ⟨#[46]⟩) ++ b).data.toList = a.data.toList ++ 46 :: b.data.toList := by
  simp

theorem byte_at (t : ByteArray) (k : Nat) (h : k < t.size) : t.data.toList[k]? = some t[k] := by
  have h' : k < t.data.toList.length := by rw [← Lib.size_eq]; exact h
  rw [List.getElem?_eq_getElem h']
  rfl

set_option maxHeartbeats 1000000 in
theorem law6 (a b : ByteArray) (w : World) (ha : a.size ≤ 9223372036854775807) (hb : b.size ≤ 9223372036854775807) (hm : MaxOk w) : Calls Try.prog 6 #[.string a, .string b] w (LawEnd w) := by
  go_enter Try.func6, Try.ntmps6
  go_wp2_with fail
  refine (bytes16 a b w ha hb).mono ?_
  rintro e w0 ⟨v, rfl, rfl, hv⟩
  cases v with
  | false =>
    go_wp2
    go_ret
    exact ⟨rfl, 0, rfl⟩
  | true =>
    have hsum := hv rfl
    clear hv
    by_cases h1 : 524288 < a.size
    · go_wp2; go_ret; exact ⟨rfl, 0, rfl⟩
    by_cases h2 : 524288 < b.size
    · go_wp2; go_ret; exact ⟨rfl, 0, rfl⟩
    go_wp2
    go_loop [5] (fun i => ∃ k : Nat, k ≤ a.size ∧ i = .int .i64 k ∧ Hid (∀ j : Nat, j < k → a.data.toList[j]? ≠ some 46)) (fun i => a.size - (intOf i).toNat)
    case atStart => exact ⟨0, Nat.zero_le _, rfl, fun j hj => by omega⟩
    case round =>
      obtain ⟨k, hk, rfl, hp⟩ := hrel
      by_cases hlt : k < a.size
      · by_cases h46 : a[k] = 46
        · have n46 : ((a[k].toNat : Int) == 46) = true := by rw [h46]; rfl
          clear h46
          go_wp2
          go_ret
          exact ⟨rfl, 0, rfl⟩
        · have n46 : ((a[k].toNat : Int) == 46) = false := by
            rw [beq_eq_false_iff_ne]
            intro e
            exact h46 (UInt8.toNat_inj.1 (by show _ = 46; omega))
          have hb46 : Hid (a.data.toList[k]? ≠ some 46) := by
            show a.data.toList[k]? ≠ some 46
            rw [byte_at a k hlt]; simpa using h46
          clear h46
          go_wp2
          go_round
          case rel =>
            refine ⟨k + 1, by omega, by go_num, fun j hj => ?_⟩
            by_cases e : j = k
            · subst e; exact hb46.out
            · exact hp.out j (by omega)
          case measure => simp [intOf]; omega
      · have hno : ∀ j : Nat, a.data.toList[j]? ≠ some 46 := by
          intro j
          by_cases hj : j < k
          · exact hp.out j hj
          · rw [List.getElem?_eq_none (by rw [← Lib.size_eq]; omega)]; simp
        have HA : Hid (placesL a.data.toList = 0) := placesL_none hno
        have HB : Hid (placesL (a.data.toList ++ 46 :: b.data.toList) = b.size) := by rw [Lib.size_eq b]; exact placesL_behind hno
        clear hno hp
        have C1 : Hid (Calls Try.prog 14 #[.string a] w0 (ReadEnd (.int .i64 0) w0)) := by
          have := places14 a w0 (by omega) hm
          rw [HA.out] at this
          exact this
        have hsz : ((a ++ ⟨#[46]⟩) ++ b).size = a.size + 1 + b.size := by
          rw [Lib.size_eq, join_data, List.length_append, List.length_cons, ← Lib.size_eq, ← Lib.size_eq]; omega
        have C2 : Hid (∀ n, Calls Try.prog 14 #[.string ((a ++ ⟨#[46]⟩) ++ b)] (w0.drewN n) (ReadEnd (.int .i64 b.size) (w0.drewN n))) := by
          intro n
          have := places14 ((a ++ ⟨#[46]⟩) ++ b) (w0.drewN n) (by rw [hsz]; omega) (hm.drewN n)
          rw [join_data, HB.out] at this
          exact this
        clear hsz
        go_wp2_with fail
        refine C1.out.mono ?_
        rintro e w1 ⟨rfl, n1, rfl⟩
        go_wp2_with fail
        refine (C2.out n1).mono ?_
        rintro e w2 ⟨rfl, n2, rfl⟩
        clear C1 C2
        go_wp2
        go_ret
        exact ⟨by first | rfl | simp, n1 + n2, by first | rfl | simp⟩

theorem grown_drewN (w : World) (n : Nat) : Grown w (w.drewN n) := by
  induction n with
  | zero => exact Grown.refl _
  | succ n ih => exact ih.drew

theorem maxOk_of_shaped {W : World} (hsh : W.ShapedOpen Try.prog) : MaxOk W := Try.laysM145.s1_3 W hsh

end Go.Proofs.Qxb6602428a
