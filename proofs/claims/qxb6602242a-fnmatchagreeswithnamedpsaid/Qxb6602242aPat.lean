/-
  ZZPattern (15).
-/
import Derived.Test.Qxb6602242aGuards
namespace Go.Proofs.Qxb6602242a
open Go.RowKit

/-- The slice's first cells hold slices of strings, ps, each at its capacity, row j beginning at F j. -/
def PartsX (w : World) (a : Option Addr) (ps : List (List ByteArray)) (F : Nat → Option Addr) : Prop :=
  ∀ j, j < ps.length → ∃ b off, a = some ⟨b, off, none⟩ ∧ w.cell? ⟨b, off + j, none⟩ = some (.slice (F j) (ps.getD j []).length (ps.getD j []).length) ∧ IsStrs w (F j) (ps.getD j []) ∧ (F j = none → (ps.getD j []).length = 0)

theorem PartsX.later {w wx : World} {a : Option Addr} {ps : List (List ByteArray)} {F : Nat → Option Addr} (h : PartsX w a ps F) (hb : Below w.heap.size w wx) : PartsX wx a ps F := by
  intro j hj
  obtain ⟨b, off, rfl, hc, hs, hn⟩ := h j hj
  exact ⟨b, off, rfl, cell_later hb hc, hs.later hb, hn⟩

/-- The row of elements: two cells each. -/
def Elems (w : World) (g : Nat) (ds : List Bool) (ps : List (List ByteArray)) (F : Nat → Option Addr) : Prop :=
  ∀ j, j < ps.length → w.cell? ⟨g, j * 2, none⟩ = some (.bool (ds.getD j false)) ∧ w.cell? ⟨g, j * 2 + 1, none⟩ = some (.slice (F j) (ps.getD j []).length (ps.getD j []).length) ∧ IsStrs w (F j) (ps.getD j []) ∧ (F j = none → (ps.getD j []).length = 0)

theorem Elems.later {w wx : World} {g : Nat} {ds : List Bool} {ps : List (List ByteArray)} {F : Nat → Option Addr} (h : Elems w g ds ps F) (hb : Below w.heap.size w wx) : Elems wx g ds ps F := by
  intro j hj
  obtain ⟨h1, h2, h3, h4⟩ := h j hj
  exact ⟨cell_later hb h1, cell_later hb h2, h3.later hb, h4⟩

theorem Try.info48 : (Try.prog.info? 48).map (fun i => (i.zero, i.size, i.bytes)) = some (some (.agg #[.bool false, .slice none 0 0]), 2, 32) := by kernel_rfl

/-- What ZZPattern leaves. -/
def PatEnd (sr : ByteArray) (n : Nat) (ds : List Bool) (ps : List (List ByteArray)) (F : Nat → Option Addr) (w : World) (e : Ending) (w' : World) : Prop :=
  ∃ g, e = .returned (.agg #[.string sr, .slice (some ⟨g, 0, none⟩) n n]) ∧ Elems w' g ds ps F ∧ Below w.heap.size w w'

/-- Block g holds 2N cells, the elements up to k. -/
def ElemRow (w : World) (g N k : Nat) (ds : List Bool) (ps : List (List ByteArray)) (F : Nat → Option Addr) : Prop :=
  ∃ cur : Array Value, w.heap[g]? = some (.cells cur 48 (0, 0)) ∧ cur.size = N * 2 ∧ ∀ j, j < k → cur[j * 2]? = some (.bool (ds.getD j false)) ∧ cur[j * 2 + 1]? = some (.slice (F j) (ps.getD j []).length (ps.getD j []).length)

theorem ElemRow.put {w : World} {g N k : Nat} {ds : List Bool} {ps : List (List ByteArray)} {F : Nat → Option Addr} {cur : Array Value} (h : w.heap[g]? = some (.cells cur 48 (0, 0))) (hs : cur.size = N * 2) (hk : k < N)
    (ha : ∀ j, j < k → cur[j * 2]? = some (.bool (ds.getD j false)) ∧ cur[j * 2 + 1]? = some (.slice (F j) (ps.getD j []).length (ps.getD j []).length)) :
    ElemRow (((w.setCell ⟨g, k * 2, none⟩ (.bool (ds.getD k false))).setCell ⟨g, k * 2 + 1, none⟩ (.slice (F k) (ps.getD k []).length (ps.getD k []).length)).drew) g N (k + 1) ds ps F := by
  have h1 := heap_setCell_same _ _ (k * 2 + 1) _ _ (.slice (F k) (ps.getD k []).length (ps.getD k []).length) (heap_setCell_same _ _ (k * 2) _ _ (.bool (ds.getD k false)) h)
  refine ⟨_, h1, by simp [hs], fun j hj => ?_⟩
  by_cases e : j = k
  · subst e
    constructor
    · rw [Array.getElem?_setIfInBounds, if_neg (by omega), Array.getElem?_setIfInBounds, if_pos rfl, if_pos (by omega)]
    · rw [Array.getElem?_setIfInBounds, if_pos rfl, if_pos (by simp; omega)]
  · obtain ⟨h2, h3⟩ := ha j (by omega)
    constructor
    · rw [Array.getElem?_setIfInBounds, if_neg (by omega), Array.getElem?_setIfInBounds, if_neg (by omega)]; exact h2
    · rw [Array.getElem?_setIfInBounds, if_neg (by omega), Array.getElem?_setIfInBounds, if_neg (by omega)]; exact h3

set_option maxHeartbeats 1000000 in
theorem pat15 (sr : ByteArray) (a a' : Option Addr) (n : Nat) (ds : List Bool) (ps : List (List ByteArray)) (F : Nat → Option Addr) (w : World) (hl : ds.length = n) (hl' : ps.length = n) (hlen : n ≤ 1048576) (hd : IsFlags w a ds) (hp : PartsX w a' ps F) :
    Calls Try.prog 15 #[.string sr, .slice a n n, .slice a' n n] w (PatEnd sr n ds ps F w) := by
  obtain ⟨i0, hi, hz0, hz1, hz2⟩ := info_parts Try.info48
  go_enter Try.func15, Try.ntmps15
  go_wp2_with (at_make; refine wpList_make_full _ rfl _ _ 29 rfl (w.heap.size + 1) 48 i0 (.agg #[.bool false, .slice none 0 0]) 2 Try.underlying29 hi hz0 hz1 .i64 .i64 _ _ n rfl rfl rfl rfl (by rw [hz2]; omega) (by unfold maxLen; omega) (by simp) ?_; intro w1 hown hgrow)
  have hb0 : Below w.heap.size w (w.alloc (.cells #[.string ⟨#[]⟩, .slice none 0 0] 31)) := (Below.refl _ _).alloc (Nat.le_refl _) _
  have hb1 : Below (w.heap.size + 1) (w.alloc (.cells #[.string ⟨#[]⟩, .slice none 0 0] 31)) w1 := (Below.refl _ _).grown hgrow (by simp) (fun k e => by cases e)
  have hE : ElemRow w1 (w.heap.size + 1) n 0 ds ps F := by
    rcases hown.2 with ⟨h, _⟩ | ⟨g, cap, cur, h, _, hg, _, _, hcs, _⟩
    · cases h
    · simp only [Value.slice.injEq, Option.some.injEq, Addr.mk.injEq, and_true, true_and] at h
      obtain ⟨rfl, rfl⟩ := h
      refine ⟨cur, ?_, hcs, fun j hj => by omega⟩
      rw [← hg]
      congr 1
      simp
  clear hown hgrow
  go_loopw [8] (fun i wr => ∃ k : Nat, k ≤ n ∧ i = .int .i64 k ∧ ElemRow wr (w.heap.size + 1) n k ds ps F ∧ Below (w.heap.size + 1) (w.alloc (.cells #[.string ⟨#[]⟩, .slice none 0 0] 31)) wr) (fun i _ => n - (intOf i).toNat)
  case atStart => exact ⟨0, Nat.zero_le _, rfl, hE, hb1⟩
  case round =>
    clear hE hb1
    obtain ⟨k, hk, rfl, hE, hbr⟩ := hrel
    have hbw : Below w.heap.size w wr := hb0.trans (hbr.mono (by omega))
    by_cases hlt : k < n
    · obtain ⟨b, off, rfl, hc0⟩ := hd k (by omega)
      obtain ⟨b', off', rfl, hc0', _, _⟩ := hp k (by omega)
      have hc := cell_later hbw hc0
      have hc' := cell_later hbw hc0'
      obtain ⟨cur, hcur, hcs, hall⟩ := hE
      have hx0 : wr.cell? ⟨w.heap.size + 1, k * 2, none⟩ = some (cur[k * 2]'(by omega)) := by rw [cell_of_row _ _ _ _ _ _ hcur]; exact Array.getElem?_eq_getElem _
      have hx1 : wr.cell? ⟨w.heap.size + 1, k * 2 + 1, none⟩ = some (cur[k * 2 + 1]'(by omega)) := by rw [cell_of_row _ _ _ _ _ _ hcur]; exact Array.getElem?_eq_getElem _
      generalize cur[k * 2]'(by omega) = y0 at hx0
      generalize cur[k * 2 + 1]'(by omega) = y1 at hx1
      have hf0 : wr.frozen? ⟨w.heap.size + 1, k * 2, none⟩ = false := frozen_of_row _ _ _ _ _ hcur
      have hf1 : wr.frozen? ⟨w.heap.size + 1, k * 2 + 1, none⟩ = false := frozen_of_row _ _ _ _ _ hcur
      obtain ⟨x, hx⟩ : ∃ x, x = ds.getD k false := ⟨_, rfl⟩
      rw [← hx] at hc
      obtain ⟨l, hle⟩ : ∃ l, l = (ps.getD k []).length := ⟨_, rfl⟩
      rw [← hle] at hc'
      have HX : Hid (x = ds.getD k false) := hx
      have HL : Hid (l = (ps.getD k []).length) := hle
      have HC : Hid (wr.heap[w.heap.size + 1]? = some (.cells cur 48 (0, 0))) := hcur
      have HCS : Hid (cur.size = n * 2) := hcs
      have HA : Hid (∀ j, j < k → cur[j * 2]? = some (.bool (ds.getD j false)) ∧ cur[j * 2 + 1]? = some (.slice (F j) (ps.getD j []).length (ps.getD j []).length)) := hall
      have i0' : (0 : Int) ≤ (k : Int) := by omega
      have i1 : (k : Int) < (n : Int) := by omega
      clear hx hle hc0 hc0' hcur hcs hall
      go_wp2
      go_region
      go_wp2
      go_roundw
      case rel =>
        refine ⟨k + 1, by omega, by go_num, ?_, ((hbr.setCell (Nat.le_refl _) _).setCell (Nat.le_refl _) _).drew⟩
        rw [HX.out, HL.out]
        exact ElemRow.put HC.out HCS.out hlt HA.out
      case measure => simp [intOf]; omega
    · have ek : k = n := by omega
      have EK : Hid (k = n) := ek
      clear ek
      have hr : wr.heap[w.heap.size]? = some (.cells #[.string ⟨#[]⟩, .slice none 0 0] 31 (0, 0)) := by rw [hbr.block _ (by omega)]; exact heap_alloc_new _ _
      have c0 : wr.cell? ⟨w.heap.size, 0, none⟩ = some (.string ⟨#[]⟩) := by rw [cell_of_row _ _ _ _ _ _ hr]; rfl
      have c1 : wr.cell? ⟨w.heap.size, 1, none⟩ = some (.slice none 0 0) := by rw [cell_of_row _ _ _ _ _ _ hr]; rfl
      have f0 : wr.frozen? ⟨w.heap.size, 0, none⟩ = false := frozen_of_row _ _ _ _ _ hr
      have f1 : wr.frozen? ⟨w.heap.size, 1, none⟩ = false := frozen_of_row _ _ _ _ _ hr
      have HR : Hid (wr.heap[w.heap.size]? = some (.cells #[.string ⟨#[]⟩, .slice none 0 0] 31 (0, 0))) := hr
      clear hr
      go_wp2
      have hblk : ((wr.setCell ⟨w.heap.size, 0, none⟩ (.string sr)).setCell ⟨w.heap.size, 1, none⟩ (.slice (some ⟨w.heap.size + 1, 0, none⟩) n n)).heap[w.heap.size]? = some (.cells #[.string sr, .slice (some ⟨w.heap.size + 1, 0, none⟩) n n] 31 (0, 0)) :=
        heap_setCell_same _ _ 1 _ _ _ (heap_setCell_same _ _ 0 _ _ (.string sr) HR.out)
      refine bodyPost_ret (v := .agg #[.string sr, .slice (some ⟨w.heap.size + 1, 0, none⟩) n n]) (results_cell_row Try.results15 _ _ w.heap.size 31 _ (0, 0) _ rfl hblk Try.underlying31 rfl (by kernel_rfl)) rfl ⟨w.heap.size + 1, rfl, ?_, (hbw.setCell (Nat.le_refl _) _).setCell (Nat.le_refl _) _⟩
      obtain ⟨cur, hcur, hcs, hall⟩ := hE
      have hcur2 : ((wr.setCell ⟨w.heap.size, 0, none⟩ (.string sr)).setCell ⟨w.heap.size, 1, none⟩ (.slice (some ⟨w.heap.size + 1, 0, none⟩) n n)).heap[w.heap.size + 1]? = some (.cells cur 48 (0, 0)) := by
        rw [heap_setCell_other _ _ _ _ (by simp), heap_setCell_other _ _ _ _ (by simp)]; exact hcur
      intro j hj
      obtain ⟨h1, h2⟩ := hall j (by rw [EK.out]; omega)
      obtain ⟨_, _, _, _, h3, h4⟩ := hp j hj
      refine ⟨by rw [cell_of_row _ _ _ _ _ _ hcur2]; exact h1, by rw [cell_of_row _ _ _ _ _ _ hcur2]; exact h2, h3.later ((hbw.setCell (Nat.le_refl _) _).setCell (Nat.le_refl _) _), h4⟩

end Go.Proofs.Qxb6602242a
