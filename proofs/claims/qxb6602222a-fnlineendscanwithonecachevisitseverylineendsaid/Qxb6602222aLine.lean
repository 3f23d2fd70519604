/-
  lineEnd (28), ZZLineEnd (25).
-/
import Derived.Test.Qxb6602222aFind
namespace Go.Proofs.Qxb6602222a
open Go.RowKit

/-- r is the first CR from 'from' on, or n. -/
def FirstCR (f : Nat → Int) (n lo r : Nat) : Prop := lo ≤ r ∧ r ≤ n ∧ (r < n → f r = 13) ∧ ∀ j, lo ≤ j → j < r → f j ≠ 13
/-- What the cache says. -/
def CacheOk (f : Nat → Int) (n lo : Nat) (cr : Int) : Prop := cr < lo ∨ ∃ r : Nat, cr = r ∧ FirstCR f n lo r
/-- e is the first line end from 'from' on, or n. -/
def FirstEnd (f : Nat → Int) (n lo e : Nat) : Prop := lo ≤ e ∧ e ≤ n ∧ (e < n → f e = 13 ∨ f e = 10) ∧ ∀ j, lo ≤ j → j < e → f j ≠ 13 ∧ f j ≠ 10

/-- What lineEnd leaves. -/
def LineEnd (f : Nat → Int) (n lo c : Nat) (w : World) (e : Ending) (w' : World) : Prop :=
  ∃ x r : Nat, e = .returned (.int .i64 x) ∧ FirstEnd f n lo x ∧ x ≤ r ∧ FirstCR f n lo r ∧ w'.heap[c]? = some (.cells #[.int .i64 r] 3 (0, 0)) ∧ Below c w w'

/-- The second half: the cache holds the first CR; the search for an LF. -/
theorem end_of {f : Nat → Int} {n lo r : Nat} {v : Int} (hr : FirstCR f n lo r) (hv : Found (fun i => f (lo + i)) (r - lo) 10 v) :
    (v = -1 ∧ FirstEnd f n lo r) ∨ ∃ i : Nat, v = i ∧ lo + i < r ∧ FirstEnd f n lo (lo + i) := by
  obtain ⟨h1, h2, h3, h4⟩ := hr
  rcases hv with ⟨rfl, hn⟩ | ⟨i, rfl, hi, hc, hn⟩
  · refine .inl ⟨rfl, h1, h2, fun h => .inl (h3 h), fun j hj hjr => ⟨h4 j hj hjr, ?_⟩⟩
    have := hn (j - lo) (by omega)
    simpa [show lo + (j - lo) = j from by omega] using this
  · refine .inr ⟨i, rfl, by omega, by omega, by omega, fun _ => .inr hc, fun j hj hjr => ⟨h4 j hj (by omega), ?_⟩⟩
    have := hn (j - lo) (by omega)
    simpa [show lo + (j - lo) = j from by omega] using this

theorem cr_of {f : Nat → Int} {n lo : Nat} {v : Int} (hlo : lo ≤ n) (hv : Found (fun i => f (lo + i)) (n - lo) 13 v) :
    (v = -1 ∧ FirstCR f n lo n) ∨ ∃ i : Nat, v = i ∧ lo + i < n ∧ FirstCR f n lo (lo + i) := by
  rcases hv with ⟨rfl, hn⟩ | ⟨i, rfl, hi, hc, hn⟩
  · refine .inl ⟨rfl, hlo, Nat.le_refl _, fun h => by omega, fun j hj hjr => ?_⟩
    have := hn (j - lo) (by omega)
    simpa [show lo + (j - lo) = j from by omega] using this
  · refine .inr ⟨i, rfl, by omega, by omega, by omega, fun _ => hc, fun j hj hjr => ?_⟩
    have := hn (j - lo) (by omega)
    simpa [show lo + (j - lo) = j from by omega] using this

set_option maxHeartbeats 1000000 in
/-- The cache is stale. -/
theorem line28_stale (g c n lo : Nat) (cr : Int) (f : Nat → Int) (w : World) (hn : n ≤ 1048576) (hlo : lo < n) (hcr : cr < lo) (hf : ∀ j, j < n → 0 ≤ f j ∧ f j ≤ 255) (hgc : g < c)
    (hg : ∀ i, i < n → w.cell? ⟨g, i, none⟩ = some (.int .u8 (f i))) (hc : w.heap[c]? = some (.cells #[.int .i64 cr] 3 (0, 0))) :
    Calls Try.prog 28 #[.slice (some ⟨g, 0, none⟩) n n, .int .i64 lo, .pointer (some ⟨c, 0, none⟩)] w (LineEnd f n lo c w) := by
  have hc0 : w.cell? ⟨c, 0, none⟩ = some (.int .i64 cr) := by rw [cell_of_row _ _ _ _ _ _ hc]; rfl
  have hfz : w.frozen? ⟨c, 0, none⟩ = false := frozen_of_row _ _ _ _ _ hc
  go_enter Try.func28, Try.ntmps28
  go_wp2_with fail
  have hb1 : Below c w (w.setCell ⟨c, 0, none⟩ (.int .i64 n)) := (Below.refl c w).setCell (p := ⟨c, 0, none⟩) (Nat.le_refl _) _
  have hk1 := heap_setCell_same _ _ 0 _ _ (.int .i64 n) hc
  have hg1 : ∀ i, i < n → (w.setCell ⟨c, 0, none⟩ (.int .i64 n)).cell? ⟨g, i, none⟩ = some (.int .u8 (f i)) := fun i hi => (hb1.cell hgc).trans (hg i hi)
  generalize w.setCell ⟨c, 0, none⟩ (.int .i64 n) = w1 at hb1 hk1 hg1 ⊢
  have hk1' : w1.heap[c]? = some (.cells #[.int .i64 n] 3 (0, 0)) := hk1
  clear hc0 hfz hc hk1
  have hc0 : w1.cell? ⟨c, 0, none⟩ = some (.int .i64 n) := by rw [cell_of_row _ _ _ _ _ _ hk1']; rfl
  have hfz : w1.frozen? ⟨c, 0, none⟩ = false := frozen_of_row _ _ _ _ _ hk1'
  refine (find30 g lo (n - lo) (n - lo) (fun i => f (lo + i)) 13 w1 (fun j hj => hf _ (by omega)) (by omega) (by omega) (fun i hi => hg1 _ (by omega))).mono ?_
  rintro e w2 ⟨r, rfl, rfl, hr⟩
  rcases cr_of (Nat.le_of_lt hlo) hr with ⟨rfl, hF⟩ | ⟨i, rfl, hi, hF⟩
  · clear hr
    have HF : Hid (FirstCR f n lo n) := hF
    go_wp2_with fail
    refine (find30 g lo (n - lo) (n - lo) (fun i => f (lo + i)) 10 w2 (fun j hj => hf _ (by omega)) (by omega) (by omega) (fun i hi => hg1 _ (by omega))).mono ?_
    rintro e w3 ⟨r, rfl, rfl, hr⟩
    rcases end_of hF hr with ⟨rfl, hE⟩ | ⟨i, rfl, hi, hE⟩
    · clear hr hF
      go_wp2
      go_ret
      exact ⟨n, n, rfl, hE, Nat.le_refl _, HF.out, hk1', hb1⟩
    · clear hr hF
      go_wp2
      go_ret
      exact ⟨lo + i, n, by go_num, hE, by omega, HF.out, hk1', hb1⟩
  · clear hr
    have HF : Hid (FirstCR f n lo (lo + i)) := hF
    go_wp2_with fail
    have hb3 : Below c w (w2.setCell ⟨c, 0, none⟩ (.int .i64 ((lo : Int) + (i : Int)))) := hb1.setCell (p := ⟨c, 0, none⟩) (Nat.le_refl _) _
    have hk3 := heap_setCell_same _ _ 0 _ _ (.int .i64 ((lo : Int) + (i : Int))) hk1'
    have hg3 : ∀ j, j < n → (w2.setCell ⟨c, 0, none⟩ (.int .i64 ((lo : Int) + (i : Int)))).cell? ⟨g, j, none⟩ = some (.int .u8 (f j)) := fun j hj => (((Below.refl c w2).setCell (p := ⟨c, 0, none⟩) (Nat.le_refl _) _).cell hgc).trans (hg1 j hj)
    generalize w2.setCell ⟨c, 0, none⟩ (.int .i64 ((lo : Int) + (i : Int))) = w4 at hb3 hk3 hg3 ⊢
    have hk4 : w4.heap[c]? = some (.cells #[.int .i64 ((lo + i : Nat) : Int)] 3 (0, 0)) := by
      rw [show ((lo + i : Nat) : Int) = (lo : Int) + (i : Int) from by omega]; exact hk3
    have hc4 : w4.cell? ⟨c, 0, none⟩ = some (.int .i64 ((lo : Int) + (i : Int))) := by rw [cell_of_row _ _ _ _ _ _ hk3]; rfl
    have HK : Hid (w4.heap[c]? = some (.cells #[.int .i64 ((lo + i : Nat) : Int)] 3 (0, 0))) := hk4
    clear hk4 hk3 hc0 hfz hk1' hb1 hg1
    refine (find30 g lo i (n - lo) (fun i => f (lo + i)) 10 w4 (fun j hj => hf _ (by omega)) (by omega) (by omega) (fun i hi => hg3 _ (by omega))).mono ?_
    rintro e w5 ⟨r, rfl, rfl, hr⟩
    rcases end_of hF (by rw [Nat.add_sub_cancel_left]; exact hr) with ⟨rfl, hE⟩ | ⟨k, rfl, hk, hE⟩
    · clear hr hF
      go_wp2
      go_ret
      exact ⟨lo + i, lo + i, by go_num, hE, Nat.le_refl _, HF.out, HK.out, hb3⟩
    · clear hr hF
      go_wp2
      go_ret
      exact ⟨lo + k, lo + i, by go_num, hE, by omega, HF.out, HK.out, hb3⟩

set_option maxHeartbeats 1000000 in
/-- The cache holds. -/
theorem line28_fresh (g c n lo r : Nat) (f : Nat → Int) (w : World) (hn : n ≤ 1048576) (hlo : lo < n) (hcr : FirstCR f n lo r) (hf : ∀ j, j < n → 0 ≤ f j ∧ f j ≤ 255)
    (hg : ∀ i, i < n → w.cell? ⟨g, i, none⟩ = some (.int .u8 (f i))) (hc : w.heap[c]? = some (.cells #[.int .i64 r] 3 (0, 0))) :
    Calls Try.prog 28 #[.slice (some ⟨g, 0, none⟩) n n, .int .i64 lo, .pointer (some ⟨c, 0, none⟩)] w (LineEnd f n lo c w) := by
  have hc0 : w.cell? ⟨c, 0, none⟩ = some (.int .i64 r) := by rw [cell_of_row _ _ _ _ _ _ hc]; rfl
  have h1 : lo ≤ r := hcr.1
  have h2 : r ≤ n := hcr.2.1
  have HC : Hid (w.heap[c]? = some (.cells #[.int .i64 r] 3 (0, 0))) := hc
  clear hc
  go_enter Try.func28, Try.ntmps28
  go_wp2_with fail
  refine (find30 g lo (r - lo) (n - lo) (fun i => f (lo + i)) 10 w (fun j hj => hf _ (by omega)) (by omega) (by omega) (fun i hi => hg _ (by omega))).mono ?_
  rintro e w2 ⟨v, rfl, rfl, hv⟩
  rcases end_of hcr hv with ⟨rfl, hE⟩ | ⟨i, rfl, hi, hE⟩
  · clear hv
    go_wp2
    go_ret
    exact ⟨r, r, rfl, hE, Nat.le_refl _, hcr, HC.out, Below.refl _ _⟩
  · clear hv
    go_wp2
    go_ret
    exact ⟨lo + i, r, by go_num, hE, by omega, hcr, HC.out, Below.refl _ _⟩

theorem firstCR_end (f : Nat → Int) (n : Nat) : FirstCR f n n n := ⟨Nat.le_refl _, Nat.le_refl _, fun h => by omega, fun j h1 h2 => by omega⟩
theorem firstEnd_end (f : Nat → Int) (n : Nat) : FirstEnd f n n n := ⟨Nat.le_refl _, Nat.le_refl _, fun h => by omega, fun j h1 h2 => by omega⟩

theorem none_found {f : Nat → Int} {c v : Int} (h : Found f 0 c v) : v = -1 := by
  rcases h with ⟨h, _⟩ | ⟨i, _, h, _⟩
  · exact h
  · omega

set_option maxHeartbeats 1000000 in
/-- At the end, the cache stale. -/
theorem line28_end (g c n : Nat) (cr : Int) (f : Nat → Int) (w : World) (hcr : cr < n)
    (hc : w.heap[c]? = some (.cells #[.int .i64 cr] 3 (0, 0))) :
    Calls Try.prog 28 #[.slice (some ⟨g, 0, none⟩) n n, .int .i64 n, .pointer (some ⟨c, 0, none⟩)] w (LineEnd f n n c w) := by
  have hc0 : w.cell? ⟨c, 0, none⟩ = some (.int .i64 cr) := by rw [cell_of_row _ _ _ _ _ _ hc]; rfl
  have hfz : w.frozen? ⟨c, 0, none⟩ = false := frozen_of_row _ _ _ _ _ hc
  go_enter Try.func28, Try.ntmps28
  go_wp2_with fail
  have hb1 : Below c w (w.setCell ⟨c, 0, none⟩ (.int .i64 n)) := (Below.refl c w).setCell (p := ⟨c, 0, none⟩) (Nat.le_refl _) _
  have hk1 := heap_setCell_same _ _ 0 _ _ (.int .i64 n) hc
  generalize w.setCell ⟨c, 0, none⟩ (.int .i64 n) = w1 at hb1 hk1 ⊢
  have hk1' : w1.heap[c]? = some (.cells #[.int .i64 n] 3 (0, 0)) := hk1
  clear hc0 hfz hc hk1
  have hc0 : w1.cell? ⟨c, 0, none⟩ = some (.int .i64 n) := by rw [cell_of_row _ _ _ _ _ _ hk1']; rfl
  refine (find30 g 0 0 0 f 13 w1 (fun j hj => by omega) (by omega) (by omega) (fun i hi => by omega)).mono ?_
  rintro e w2 ⟨r, rfl, rfl, hr⟩
  have er := none_found hr
  subst er
  clear hr
  go_wp2_with fail
  refine (find30 g 0 0 0 f 10 w2 (fun j hj => by omega) (by omega) (by omega) (fun i hi => by omega)).mono ?_
  rintro e w3 ⟨r, rfl, rfl, hr⟩
  have er := none_found hr
  subst er
  clear hr
  go_wp2
  go_ret
  exact ⟨n, n, rfl, firstEnd_end f n, Nat.le_refl _, firstCR_end f n, hk1', hb1⟩

set_option maxHeartbeats 1000000 in
/-- At the end, the cache holds. -/
theorem line28_endf (g c n : Nat) (f : Nat → Int) (w : World)
    (hc : w.heap[c]? = some (.cells #[.int .i64 n] 3 (0, 0))) :
    Calls Try.prog 28 #[.slice (some ⟨g, 0, none⟩) n n, .int .i64 n, .pointer (some ⟨c, 0, none⟩)] w (LineEnd f n n c w) := by
  have hc0 : w.cell? ⟨c, 0, none⟩ = some (.int .i64 n) := by rw [cell_of_row _ _ _ _ _ _ hc]; rfl
  go_enter Try.func28, Try.ntmps28
  go_wp2_with fail
  refine (find30 g 0 0 0 f 10 w (fun j hj => by omega) (by omega) (by omega) (fun i hi => by omega)).mono ?_
  rintro e w3 ⟨r, rfl, rfl, hr⟩
  have er := none_found hr
  subst er
  clear hr
  go_wp2
  go_ret
  exact ⟨n, n, rfl, firstEnd_end f n, Nat.le_refl _, firstCR_end f n, hc, Below.refl _ _⟩

theorem line28 (g c n lo : Nat) (cr : Int) (f : Nat → Int) (w : World) (hn : n ≤ 1048576) (hlo : lo ≤ n) (hcr : CacheOk f n lo cr) (hf : ∀ j, j < n → 0 ≤ f j ∧ f j ≤ 255) (hgc : g < c)
    (hg : ∀ i, i < n → w.cell? ⟨g, i, none⟩ = some (.int .u8 (f i))) (hc : w.heap[c]? = some (.cells #[.int .i64 cr] 3 (0, 0))) :
    Calls Try.prog 28 #[.slice (some ⟨g, 0, none⟩) n n, .int .i64 lo, .pointer (some ⟨c, 0, none⟩)] w (LineEnd f n lo c w) := by
  by_cases h : lo < n
  · rcases hcr with h1 | ⟨r, rfl, h1⟩
    · exact line28_stale g c n lo cr f w hn h h1 hf hgc hg hc
    · exact line28_fresh g c n lo r f w hn h h1 hf hg hc
  · have e : lo = n := by omega
    subst e
    rcases hcr with h1 | ⟨r, rfl, h1⟩
    · exact line28_end g c lo cr f w h1 hc
    · have e : r = lo := by have := h1.1; have := h1.2.1; omega
      subst e
      exact line28_endf g c r f w hc

theorem line25 (g c n lo : Nat) (cr : Int) (f : Nat → Int) (w : World) (hn : n ≤ 1048576) (hlo : lo ≤ n) (hcr : CacheOk f n lo cr) (hf : ∀ j, j < n → 0 ≤ f j ∧ f j ≤ 255) (hgc : g < c)
    (hg : ∀ i, i < n → w.cell? ⟨g, i, none⟩ = some (.int .u8 (f i))) (hc : w.heap[c]? = some (.cells #[.int .i64 cr] 3 (0, 0))) :
    Calls Try.prog 25 #[.slice (some ⟨g, 0, none⟩) n n, .int .i64 lo, .pointer (some ⟨c, 0, none⟩)] w (LineEnd f n lo c w) := by
  have C : Hid (Calls Try.prog 28 #[.slice (some ⟨g, 0, none⟩) n n, .int .i64 lo, .pointer (some ⟨c, 0, none⟩)] w (LineEnd f n lo c w)) := line28 g c n lo cr f w hn hlo hcr hf hgc hg hc
  clear hg hc hf hcr
  go_enter Try.func25, Try.ntmps25
  go_wp2_with fail
  refine C.out.mono ?_
  rintro e w2 ⟨x, r, rfl, h1, h2, h3, h4, h5⟩
  go_wp2
  go_ret
  exact ⟨x, r, rfl, h1, h2, h3, h4, h5⟩

/-- What lineEnd leaves at nil. -/
def NilEnd (c : Nat) (w : World) (e : Ending) (w' : World) : Prop := e = .returned (.int .i64 0) ∧ w'.heap[c]? = some (.cells #[.int .i64 0] 3 (0, 0)) ∧ Below c w w'

theorem line28_nil (c : Nat) (w : World) (hc : w.heap[c]? = some (.cells #[.int .i64 (-1)] 3 (0, 0))) :
    Calls Try.prog 28 #[.slice none 0 0, .int .i64 0, .pointer (some ⟨c, 0, none⟩)] w (NilEnd c w) := by
  have hc0 : w.cell? ⟨c, 0, none⟩ = some (.int .i64 (-1)) := by rw [cell_of_row _ _ _ _ _ _ hc]; rfl
  have hfz : w.frozen? ⟨c, 0, none⟩ = false := frozen_of_row _ _ _ _ _ hc
  go_enter Try.func28, Try.ntmps28
  go_wp2_with fail
  have hb1 : Below c w (w.setCell ⟨c, 0, none⟩ (.int .i64 0)) := (Below.refl c w).setCell (p := ⟨c, 0, none⟩) (Nat.le_refl _) _
  have hk1 := heap_setCell_same _ _ 0 _ _ (.int .i64 0) hc
  generalize w.setCell ⟨c, 0, none⟩ (.int .i64 0) = w1 at hb1 hk1 ⊢
  have hk1' : w1.heap[c]? = some (.cells #[.int .i64 0] 3 (0, 0)) := hk1
  clear hc0 hfz hc hk1
  have hc0 : w1.cell? ⟨c, 0, none⟩ = some (.int .i64 0) := by rw [cell_of_row _ _ _ _ _ _ hk1']; rfl
  refine (find30_nil 13 w1).mono ?_
  rintro e w2 ⟨rfl, rfl⟩
  go_wp2_with fail
  refine (find30_nil 10 w1).mono ?_
  rintro e w2 ⟨rfl, rfl⟩
  go_wp2
  go_ret
  exact ⟨rfl, hk1', hb1⟩

theorem line25_nil (c : Nat) (w : World) (hc : w.heap[c]? = some (.cells #[.int .i64 (-1)] 3 (0, 0))) :
    Calls Try.prog 25 #[.slice none 0 0, .int .i64 0, .pointer (some ⟨c, 0, none⟩)] w (NilEnd c w) := by
  have C : Hid (Calls Try.prog 28 #[.slice none 0 0, .int .i64 0, .pointer (some ⟨c, 0, none⟩)] w (NilEnd c w)) := line28_nil c w hc
  clear hc
  go_enter Try.func25, Try.ntmps25
  go_wp2_with fail
  refine C.out.mono ?_
  rintro e w2 ⟨rfl, h1, h2⟩
  go_wp2
  go_ret
  exact ⟨rfl, h1, h2⟩

end Go.Proofs.Qxb6602222a
