/-
  zzClone (11): a fresh copy.
-/
import Derived.Test.Qxb6601974aAt
namespace Go.Proofs.Qxb6601974a
open Go.RowKit

theorem Try.info9 : (Try.prog.info? 9).map (fun i => (i.zero, i.size, i.bytes)) = some (some (.string ByteArray.empty), 1, 16) := by kernel_rfl
theorem Try.info4 : (Try.prog.info? 4).map (fun i => (i.zero, i.size, i.bytes)) = some (some (.bool false), 1, 1) := by kernel_rfl
theorem eq22 (w : World) (a : Option Addr) (n c : Nat) : (binOp .eql 22 (.slice a n c) (.slice none 0 0)).run Try.prog w = .ok (.bool a.isNone) w := Lib.run_eql_slice_nil w 22 9 a n c 0 0 Try.underlying22
theorem mk22 (n : Nat) (h : n ≤ 1048576) (w : World) : (Instr.makeSlice 22 (.int .i64 (n : Int)) (.int .i64 (n : Int))).run Try.prog w = .ok (.slice (some ⟨w.heap.size, 0, none⟩) n n) (w.alloc (.cells (madeCells #[.string ByteArray.empty] n) 9)) :=
  run_make_row' 22 9 (.string ByteArray.empty) 16 Try.underlying22 Try.info9 rfl .i64 .i64 n (by omega) (by omega) w

/-- What is read of the strings stands behind a call that writes nothing old. -/
theorem IsStrs.later {w wx : World} {a : Option Addr} {ss : List ByteArray} (h : IsStrs w a ss) (hb : Below w.heap.size w wx) : IsStrs wx a ss := by
  intro i hi
  obtain ⟨b, off, rfl, hc⟩ := h i hi
  exact ⟨b, off, rfl, cell_later hb hc⟩

/-- What zzClone leaves. -/
def CloneEnd (len : Nat) (ss : List ByteArray) (w : World) (e : Ending) (w' : World) : Prop := ∃ a cap, e = .returned (.slice a len cap) ∧ IsStrs w' a ss ∧ Below w.heap.size w w'

set_option maxHeartbeats 400000 in
theorem clone11 (a : Option Addr) (len cap : Nat) (ss : List ByteArray) (w : World) (hl : ss.length = len) (hlen : len ≤ 1048576) (h : IsStrs w a ss) (hn : a = none → len = 0) :
    Calls Try.prog 11 #[.slice a len cap] w (CloneEnd len ss w) := by
  have q := eq22
  cases a with
  | none =>
    have hz := hn rfl
    subst hz
    go_enter Try.func11, Try.ntmps11
    go_wp2
    go_ret
    exact ⟨none, 0, rfl, h, Below.refl _ _⟩
  | some x =>
    have hmk := mk22 len hlen
    clear hn
    go_enter Try.func11, Try.ntmps11
    go_wp2
    go_loopw [4] (fun i wr => ∃ (k : Nat) (cur : Array Value), k ≤ len ∧ i = .int .i64 k ∧ wr.heap[w.heap.size]? = some (.cells cur 9 (0, 0)) ∧ cur.size = len ∧ Hid (∀ j, j < k → cur[j]? = some (.string (ss.getD j ByteArray.empty))) ∧ Below w.heap.size w wr) (fun i _ => len - (intOf i).toNat)
    case atStart => exact ⟨0, _, Nat.zero_le _, rfl, heap_alloc_new _ _, by simp [madeCells], fun j hj => by omega, (Below.refl _ _).alloc (Nat.le_refl _) _⟩
    case round =>
      obtain ⟨k, cur, hk, rfl, hblk, hcs, hp, hbel⟩ := hrel
      by_cases hlt : k < len
      · obtain ⟨b, off, hx, hc0⟩ := h k (by omega)
        simp only [Option.some.injEq] at hx
        subst hx
        have hc := (hbel.cell (World.block_lt_of_cell? _ _ hc0)).trans hc0
        obtain ⟨v0, hv0⟩ : ∃ v0, wr.cell? ⟨w.heap.size, k, none⟩ = some v0 := by
          rw [cell_of_row _ _ _ _ _ _ hblk]; exact ⟨_, Array.getElem?_eq_getElem (by omega)⟩
        have hfr : wr.frozen? ⟨w.heap.size, k, none⟩ = false := frozen_of_row _ _ _ _ _ hblk
        obtain ⟨s, hse⟩ : ∃ s, s = ss.getD k ByteArray.empty := ⟨_, rfl⟩
        rw [← hse] at hc
        have HS : Hid (s = ss.getD k ByteArray.empty) := hse
        have HB : Hid (wr.heap[w.heap.size]? = some (.cells cur 9 (0, 0))) := hblk
        have HC : Hid (cur.size = len) := hcs
        clear hse hc0 hblk hcs
        go_wp2
        go_roundw
        case rel =>
          refine ⟨k + 1, _, by omega, by go_num, heap_setCell_same _ _ _ _ _ _ HB.out, by rw [Array.size_setIfInBounds]; exact HC.out, fun j hj => ?_, hbel.setCell (Nat.le_refl _) _⟩
          rw [Array.getElem?_setIfInBounds]
          by_cases e : k = j
          · subst e; rw [if_pos rfl, if_pos (by rw [HC.out]; exact hlt), HS.out]
          · rw [if_neg e]; exact hp.out j (by omega)
        case measure => simp [intOf]; omega
      · go_wp2
        go_ret
        refine ⟨_, len, rfl, fun j hj => ⟨w.heap.size, 0, rfl, ?_⟩, hbel⟩
        rw [cell_of_row _ _ _ _ _ _ hblk, Nat.zero_add]
        exact hp.out j (by omega)

end Go.Proofs.Qxb6601974a
