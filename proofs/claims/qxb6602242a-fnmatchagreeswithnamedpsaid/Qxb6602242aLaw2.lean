/-
  FnMatchAgreesWithNameDP (3): the walk.
-/
import Derived.Test.Qxb6602242aModel
import Derived.Test.Qxb6602242aLaw1
namespace Go.Proofs.Qxb6602242a
open Go.RowKit

theorem OwnParts.partsX {B : Nat} {w : World} {g n : Nat} {ps : List (List ByteArray)} {F : Nat → Option Addr} (hl : ps.length = n) (h : OwnParts B w g n n ps F) : PartsX w (some ⟨g, 0, none⟩) ps F := by
  intro j hj
  exact ⟨g, 0, rfl, by rw [Nat.zero_add]; exact h.row.cell (by omega), h.strs j (by omega), h.nils j (by omega)⟩

theorem IsParts.later {w wx : World} {a : Option Addr} {ps : List (List ByteArray)} (h : IsParts w a ps) (hb : Below w.heap.size w wx) : IsParts wx a ps := by
  intro j hj
  obtain ⟨b, off, ai, ci, rfl, hc, hs, hn⟩ := h j hj
  exact ⟨b, off, ai, ci, rfl, cell_later hb hc, hs.later hb, hn⟩

set_option maxRecDepth 100000 in
set_option maxHeartbeats 2000000 in
theorem law3 (sr : ByteArray) (a a' : Option Addr) (n cap n' cap' : Nat) (ds : List Bool) (ps : List (List ByteArray)) (t : ByteArray) (w : World) (hl : ds.length = n) (hl' : ps.length = n') (hsr : sr.size ≤ 9223372036854775807) (hlen : n ≤ 9223372036854775807) (hlen' : n' ≤ 9223372036854775807) (ht : t.size ≤ 9223372036854775807)
    (hs : SmallTo 9223372036854775807 n' ps) (hd : IsFlags w a ds) (hp : IsParts w a' ps) (hn : a = none → n = 0) (hn' : a' = none → n' = 0) (hidx : IdxOk w) :
    Calls Try.prog 3 #[.string sr, .slice a n cap, .slice a' n' cap', .string t] w (LawEnd w) := by
  go_enter Try.func3, Try.ntmps3
  go_wp2_with fail
  refine (bytes8 sr a a' n cap n' cap' ps t w hl' hsr hlen hlen' ht hs hp).mono ?_
  rintro e w0 ⟨v, rfl, rfl, hv⟩
  cases v with
  | false =>
    go_wp2
    go_ret
    exact ⟨rfl, Below.refl _ _⟩
  | true =>
    obtain ⟨b1, b2, b3, b4⟩ := hv rfl
    have HSM : Hid (SmallTo 1048576 n' ps) := b4
    clear hv b4
    by_cases hs1 : 1048576 < sr.size
    · go_wp2
      go_ret
      exact ⟨rfl, Below.refl _ _⟩
    · go_wp2_with fail
      refine (nested9 a' n' cap' ps w0 hl' hlen' hs hp).mono ?_
      rintro e w1 ⟨v1, rfl, rfl, hv1⟩
      by_cases hs2 : 1048576 < sr.size + t.size + n + v1
      · go_wp2
        go_ret
        exact ⟨rfl, Below.refl _ _⟩
      · by_cases ht4 : 4096 < t.size
        · go_wp2
          go_ret
          exact ⟨rfl, Below.refl _ _⟩
        · by_cases hn4 : 4096 < n
          · go_wp2
            go_ret
            exact ⟨rfl, Below.refl _ _⟩
          · go_wp2_with fail
            refine (count10 a' n' cap' ps w1 hl' hlen' hs hp).mono ?_
            rintro e w2 ⟨v2, rfl, rfl, hv2⟩
            by_cases hc4 : 4096 < v2
            · go_wp2
              go_ret
              exact ⟨rfl, Below.refl _ _⟩
            · go_wp2_with fail
              refine (rawn11 a' n' cap' ps w2 hl' hlen' hs hp).mono ?_
              rintro e w3 ⟨v3, rfl, rfl, hv3⟩
              by_cases hr4 : 4096 < v3
              · go_wp2
                go_ret
                exact ⟨rfl, Below.refl _ _⟩
              · go_wp2_with fail
                refine (dom12 a a' n cap n' cap' ds ps w3 hl hl' hlen hs hd hp).mono ?_
                rintro e w4 ⟨v4, rfl, rfl, hv4⟩
                cases v4 with
                | false =>
                  go_wp2
                  go_ret
                  exact ⟨rfl, Below.refl _ _⟩
                | true =>
                  obtain ⟨hnn, hel⟩ := hv4 rfl
                  have enn : n' = n := by omega
                  subst enn
                  rw [hl] at hel
                  have HEL : Hid (∀ j, j < n' → ElemOk ds ps j) := hel
                  clear hv4 hnn hel hs
                  go_wp2_with fail
                  refine (bools13 a n' cap ds w4 hl (by omega) hd hn).mono ?_
                  rintro e w5 ⟨ad, rfl, hd5, hb5⟩
                  have hp5 := hp.later hb5
                  go_wp2_with fail
                  refine (parts14 a' n' cap' ps w5 hl' (by omega) (fun i hi => (HSM.out i (by omega)).1) hp5 hn').mono ?_
                  rintro e w6 ⟨hb6, hcase⟩
                  obtain ⟨ap, F, rfl, hp6⟩ : ∃ ap F, e = .returned (.slice ap n' n') ∧ PartsX w6 ap ps F := by
                    rcases hcase with ⟨h1, h2⟩ | ⟨g, F, h1, h2⟩
                    · exact ⟨none, fun _ => none, by rw [h2]; exact h1, fun j hj => by omega⟩
                    · exact ⟨some ⟨g, 0, none⟩, F, h1, h2.partsX hl'⟩
                  have hd6 := hd5.later hb6
                  have hx6 : IdxOk w6 := (hidx.later hb5).later hb6
                  clear hcase
                  go_wp2_with fail
                  refine (pat15 sr ad ap n' ds ps F w6 hl hl' (by omega) hd6 hp6).mono ?_
                  rintro e w7 ⟨g, rfl, hE7, hb7⟩
                  have hd7 := hd6.later hb7
                  have hp7 := hp6.later hb7
                  go_wp2_with fail
                  refine (match16 sr g n' ds ps F t w7 hl' (by omega) (by omega) HSM.out HEL.out hE7 (hx6.later hb7)).mono ?_
                  rintro e w8 ⟨rfl, hb8⟩
                  have hd8 := hd7.later hb8
                  have hp8 := hp7.later hb8
                  go_wp2_with fail
                  refine (model17 ad ap n' ds ps F t w8 hl hl' (by omega) (by omega) HSM.out hd8 hp8).mono ?_
                  rintro e w9 ⟨rfl, hb9⟩
                  generalize modelT (deepOf ds) (okOf ps t.data.toList) n' (mOf t.data.toList) = z
                  clear hd6 hp6 hd7 hp7 hd8 hp8 hE7 hd5 hp5 hd hp hx6 hidx
                  go_wp2
                  go_ret
                  refine ⟨?_, ?_⟩
                  · first | rfl | simp
                  · have s5 := hb5.size
                    have s6 := hb6.size
                    have s7 := hb7.size
                    have s8 := hb8.size
                    exact hb5.trans ((hb6.mono s5).trans ((hb7.mono (by omega)).trans ((hb8.mono (by omega)).trans (hb9.mono (by omega)))))

end Go.Proofs.Qxb6602242a
