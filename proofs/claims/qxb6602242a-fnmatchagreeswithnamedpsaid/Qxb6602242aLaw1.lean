/-
  FnMatchStarsAgreesWithGlobDP (5): the walk.
-/
import Derived.Test.Qxb6602242aGlob
namespace Go.Proofs.Qxb6602242a
open Go.RowKit

/-- What a law leaves: true; nothing old is turned. -/
def LawEnd (w : World) (e : Ending) (w' : World) : Prop := e = .returned (.bool true) ∧ Below w.heap.size w w'

theorem sizes_of_total {ss : List ByteArray} {N : Nat} (h : total ss ≤ N) : ∀ i, i < ss.length → (ss.getD i ByteArray.empty).size ≤ N := by
  intro i hi
  have h1 := total_take ss i hi
  have h2 : ∀ (l : List ByteArray) (k : Nat), total (l.take k) ≤ total l := by
    intro l
    induction l with
    | nil => intro k; simp [total]
    | cons s r ih =>
      intro k
      cases k with
      | zero => simp [total]
      | succ k => have := ih k; simp only [List.take_succ_cons, total]; omega
  have := h2 ss (i + 1)
  omega

set_option maxHeartbeats 1000000 in
theorem law5 (dp : Bool) (a : Option Addr) (len cap : Nat) (ss : List ByteArray) (t : ByteArray) (w : World) (hl : ss.length = len) (hlen : len ≤ 9223372036854775807) (ht : t.size ≤ 9223372036854775807)
    (hs : ∀ i, i < ss.length → (ss.getD i ByteArray.empty).size ≤ 9223372036854775807) (h : IsStrs w a ss) (hn : a = none → len = 0) (hidx : IdxOk w) :
    Calls Try.prog 5 #[.bool dp, .slice a len cap, .string t] w (LawEnd w) := by
  go_enter Try.func5, Try.ntmps5
  go_wp2_with fail
  refine (bytes20 dp a len cap ss t w hl hlen ht hs h).mono ?_
  rintro e w' ⟨v, rfl, rfl, hv⟩
  cases v with
  | false =>
    go_wp2
    go_ret
    exact ⟨rfl, Below.refl _ _⟩
  | true =>
    have hb := hv rfl
    have hlen' : len ≤ 1048576 := by omega
    have ht' : t.size ≤ 1048576 := by omega
    have hs' : ∀ i, i < ss.length → (ss.getD i ByteArray.empty).size ≤ 1048576 := sizes_of_total (by omega)
    have HS : Hid (∀ i, i < ss.length → (ss.getD i ByteArray.empty).size ≤ 1048576) := hs'
    clear hv hb hs'
    go_wp2_with fail
    refine (strs21 a len cap ss w' hl hlen hs h).mono ?_
    rintro e w2 ⟨v, rfl, rfl, hv⟩
    by_cases hvt : 1048576 < t.size + v
    · go_wp2
      go_ret
      exact ⟨rfl, Below.refl _ _⟩
    · by_cases ht4 : 4096 < t.size
      · go_wp2
        go_ret
        exact ⟨rfl, Below.refl _ _⟩
      · by_cases hl4 : 4096 < len
        · go_wp2
          go_ret
          exact ⟨rfl, Below.refl _ _⟩
        · go_wp2_with fail
          refine (raw22 a len cap ss w2 hl hlen hs h).mono ?_
          rintro e w3 ⟨v3, rfl, rfl, hv3⟩
          clear hs
          by_cases hv4 : 4096 < v3
          · go_wp2
            go_ret
            exact ⟨rfl, Below.refl _ _⟩
          · by_cases h2 : len < 2
            · go_wp2
              go_ret
              exact ⟨rfl, Below.refl _ _⟩
            · go_wp2_with fail
              refine (copy23 a len cap ss w3 hl hlen' h hn).mono ?_
              rintro e w4 ⟨a', rfl, hn', h4, hb4⟩
              obtain ⟨b, off, rfl, _⟩ := h4 0 (by omega)
              have hc4 : ∀ i, i < len → w4.cell? ⟨b, off + i, none⟩ = some (.string (ss.getD i ByteArray.empty)) := by
                intro i hi
                obtain ⟨b', off', e, hc⟩ := h4 i (by omega)
                simp only [Option.some.injEq, Addr.mk.injEq, and_true] at e
                obtain ⟨rfl, rfl⟩ := e
                exact hc
              have C1 : Hid (Calls Try.prog 24 #[.bool dp, .slice (some ⟨b, off, none⟩) len len, .string t] w4 (TestEnd (globB (texts ss) t.data.toList) w4)) :=
                stars24 dp b off len len ss t w4 hl (by omega) (Nat.le_refl _) (by omega) ht' HS.out hc4 (hidx.later hb4)
              clear hc4 hn'
              go_wp2_with fail
              refine C1.out.mono ?_
              rintro e w5 ⟨rfl, hb5⟩
              go_wp2_with fail
              refine (glob25 (some ⟨b, off, none⟩) len len ss t w5 hl hlen' ht' HS.out (h4.later hb5)).mono ?_
              rintro e w6 ⟨rfl, hb6⟩
              clear C1
              generalize globB (texts ss) t.data.toList = v
              go_wp2
              go_ret
              refine ⟨?_, hb4.trans ((hb5.mono hb4.size).trans (hb6.mono (Nat.le_trans hb4.size hb5.size)))⟩
              first | rfl | simp

end Go.Proofs.Qxb6602242a
