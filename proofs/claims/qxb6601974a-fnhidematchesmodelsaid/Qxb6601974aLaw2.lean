/-
  FnHideMatchesModel (5): the walk.
-/
import Derived.Test.Qxb6601974aLaw1
import Derived.Test.Qxb6601974aModelHide
namespace Go.Proofs.Qxb6601974a
open Go.RowKit

set_option maxHeartbeats 1000000 in
theorem law5 (a : Option Addr) (len cap : Nat) (ss : List ByteArray) (t : ByteArray) (w : World) (hl : ss.length = len) (hlen : len ≤ 9223372036854775807) (ht : t.size ≤ 9223372036854775807)
    (hs : ∀ i, i < ss.length → (ss.getD i ByteArray.empty).size ≤ 9223372036854775807) (h : IsStrs w a ss) (hn : a = none → len = 0) (hidx : IdxOk w) :
    Calls Try.prog 5 #[.slice a len cap, .string t] w (LawEnd w) := by
  go_enter Try.func5, Try.ntmps5
  go_wp2_with fail
  refine (bytes18 a len cap ss t w hl hlen ht hs h).mono ?_
  rintro e w' ⟨v, rfl, rfl, hv⟩
  cases v with
  | false =>
    go_wp2
    go_ret
    exact ⟨rfl, Below.refl _ _⟩
  | true =>
    have hb := hv rfl
    have hlen' : len ≤ 1048576 := by omega
    have ht' : t.size ≤ 1048576 := by omega
    have hs' : ∀ i, i < ss.length → (ss.getD i ByteArray.empty).size ≤ 1048576 := sizes_of_total (by omega)
    have HS : Hid (∀ i, i < ss.length → (ss.getD i ByteArray.empty).size ≤ 1048576) := hs'
    clear hv hb hs'
    go_wp2_with fail
    refine (size9 a len cap ss w' hl hlen hs h).mono ?_
    rintro e w2 ⟨v, rfl, rfl, hv⟩
    clear hs
    by_cases hvt : 1048576 < v + t.size
    · go_wp2
      go_ret
      exact ⟨rfl, Below.refl _ _⟩
    · go_wp2_with fail
      refine (empty10 a len cap ss w2 hl hlen h).mono ?_
      rintro e w3 ⟨v2, rfl, rfl, hv2⟩
      cases v2 with
      | true =>
        go_wp2
        go_ret
        exact ⟨rfl, Below.refl _ _⟩
      | false =>
        have HE : Hid (∀ i, i < ss.length → 0 < (ss.getD i ByteArray.empty).size) := hv2 rfl
        clear hv2
        go_wp2_with fail
        refine (clone11 a len cap ss w3 hl hlen' h hn).mono ?_
        rintro e w4 ⟨a', cap', rfl, h4, hb4⟩
        go_wp2_with fail
        refine (new13 a' len cap' w4).mono ?_
        rintro e w5 ⟨rfl, hb5⟩
        have h5 := h4.later hb5
        have i5 := (hidx.later hb4).later hb5
        go_wp2_with fail
        refine (hide19 a' len cap' ss t w5 hl hlen' ht' HS.out HE.out h5 i5).mono ?_
        rintro e w6 ⟨o1, hC1, rfl, hb6⟩
        have h6 := h5.later hb6
        go_wp2_with fail
        refine (mhide20 a' len cap' ss t w6 hl hlen' ht' HS.out HE.out h6).mono ?_
        rintro e w7 ⟨o2, hC2, rfl, hb7⟩
        have eo := hC1.unique hC2
        subst eo
        clear hC1 hC2
        generalize (⟨(hideOut t.data.toList o1).toArray⟩ : ByteArray) = r
        go_wp2
        go_ret
        refine ⟨?_, hb4.trans ((hb5.mono hb4.size).trans ((hb6.mono (Nat.le_trans hb4.size hb5.size)).trans (hb7.mono (Nat.le_trans hb4.size (Nat.le_trans hb5.size hb6.size)))))⟩
        first | rfl | simp

end Go.Proofs.Qxb6601974a
