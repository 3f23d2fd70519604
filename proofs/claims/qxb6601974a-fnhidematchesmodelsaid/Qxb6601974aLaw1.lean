/-
  FnCoveredMatchesBruteForce (3): the walk.
-/
import Derived.Test.Qxb6601974aCovered
namespace Go.Proofs.Qxb6601974a
open Go.RowKit

theorem IsBools.later {B : Nat} {w wx : World} {v : Value} {o : Option (List Bool)} (h : IsBools B w v o) (hb : Below w.heap.size w wx) : IsBools B wx v o := by
  cases o with
  | none => exact h
  | some bs =>
    obtain ⟨g, hge, hv, hF⟩ := h
    refine ⟨g, hge, hv, ?_⟩
    have hlt : g < w.heap.size := by
      by_cases hlt : g < w.heap.size
      · exact hlt
      · have hn : w.heap[g]? = none := by simp; omega
        rw [Flags, hn] at hF
        cases hF
    unfold Flags
    rw [hb.block g hlt]
    exact hF

theorem IdxOk.later {w wx : World} (h : IdxOk w) (hb : Below w.heap.size w wx) : IdxOk wx :=
  fun s sub wy h1 h2 => h s sub wy h1 (hb.trans (h2.mono hb.size))

theorem Cov.len {n : Nat} {S : Nat → Nat → Prop} {o : Option (List Bool)} (h : Cov n S o) : ∀ bs, o = some bs → bs.length = n := by
  intro bs e; subst e; exact h.1

/-- What a law leaves: true; nothing old is turned. -/
def LawEnd (w : World) (e : Ending) (w' : World) : Prop := e = .returned (.bool true) ∧ Below w.heap.size w w'

theorem sizes_of_total {ss : List ByteArray} {N : Nat} (h : total ss ≤ N) : ∀ i, i < ss.length → (ss.getD i ByteArray.empty).size ≤ N := by
  intro i hi
  have h1 := total_take ss i hi
  have h2 : ∀ (l : List ByteArray) (k : Nat), total (l.take k) ≤ total l := by
    intro l
    induction l with
    | nil => intro k; simp [total]
    | cons s r ih =>
      intro k
      cases k with
      | zero => simp [total]
      | succ k => have := ih k; simp only [List.take_succ_cons, total]; omega
  have := h2 ss (i + 1)
  omega

set_option maxHeartbeats 1000000 in
theorem law3 (a : Option Addr) (len cap : Nat) (ss : List ByteArray) (t : ByteArray) (w : World) (hl : ss.length = len) (hlen : len ≤ 9223372036854775807) (ht : t.size ≤ 9223372036854775807)
    (hs : ∀ i, i < ss.length → (ss.getD i ByteArray.empty).size ≤ 9223372036854775807) (h : IsStrs w a ss) (hn : a = none → len = 0) (hidx : IdxOk w) :
    Calls Try.prog 3 #[.slice a len cap, .string t] w (LawEnd w) := by
  go_enter Try.func3, Try.ntmps3
  go_wp2_with fail
  refine (bytes8 a len cap ss t w hl hlen ht hs h).mono ?_
  rintro e w' ⟨v, rfl, rfl, hv⟩
  cases v with
  | false =>
    go_wp2
    go_ret
    exact ⟨rfl, Below.refl _ _⟩
  | true =>
    have hb := hv rfl
    have hlen' : len ≤ 1048576 := by omega
    have ht' : t.size ≤ 1048576 := by omega
    have hs' : ∀ i, i < ss.length → (ss.getD i ByteArray.empty).size ≤ 1048576 := sizes_of_total (by omega)
    have HS : Hid (∀ i, i < ss.length → (ss.getD i ByteArray.empty).size ≤ 1048576) := hs'
    clear hv hb hs'
    go_wp2_with fail
    refine (size9 a len cap ss w' hl hlen hs h).mono ?_
    rintro e w2 ⟨v, rfl, rfl, hv⟩
    clear hs
    by_cases hvt : 1048576 < v + t.size
    · go_wp2
      go_ret
      exact ⟨rfl, Below.refl _ _⟩
    · go_wp2_with fail
      refine (empty10 a len cap ss w2 hl hlen h).mono ?_
      rintro e w3 ⟨v2, rfl, rfl, hv2⟩
      cases v2 with
      | true =>
        go_wp2
        go_ret
        exact ⟨rfl, Below.refl _ _⟩
      | false =>
        have HE : Hid (∀ i, i < ss.length → 0 < (ss.getD i ByteArray.empty).size) := hv2 rfl
        clear hv2
        go_wp2_with fail
        refine (clone11 a len cap ss w3 hl hlen' h hn).mono ?_
        rintro e w4 ⟨a', cap', rfl, h4, hb4⟩
        go_wp2_with fail
        refine (new13 a' len cap' w4).mono ?_
        rintro e w5 ⟨rfl, hb5⟩
        have h5 := h4.later hb5
        have i5 := (hidx.later hb4).later hb5
        go_wp2_with fail
        refine (covered12 a' len cap' ss t w5 hl hlen' ht' HS.out HE.out h5 i5).mono ?_
        rintro e w6 ⟨c1, o1, rfl, hO1, hC1, hb6⟩
        have h6 := h5.later hb6
        go_wp2_with fail
        refine (model15 a' len cap' ss t w6 hl hlen' ht' HS.out HE.out h6).mono ?_
        rintro e w7 ⟨c2, o2, rfl, hO2, hC2, hb7⟩
        have eo := hC1.unique hC2
        subst eo
        have hO1' := hO1.later hb7
        go_wp2_with fail
        refine (same14 (fun bs e => by have := hC1.len bs e; omega) hO1' hO2).mono ?_
        rintro e w8 ⟨rfl, n, rfl⟩
        go_wp2
        go_ret
        refine ⟨rfl, below_drewN ?_ n⟩
        exact hb4.trans ((hb5.mono hb4.size).trans ((hb6.mono (Nat.le_trans hb4.size hb5.size)).trans (hb7.mono (Nat.le_trans hb4.size (Nat.le_trans hb5.size hb6.size)))))

end Go.Proofs.Qxb6601974a
