/-
  zzBytes (26), cloneBytes (11).
-/
import Derived.Test.Qxb6602222aRows
import Derived.WalkKit
import Derived.WalkSpells
import Derived.WalkLawsBesides
import Derived.WalkSmall
import Derived.Deep.OwnRows
import Derived.Deep.QuietTactic
import Derived.BigQuiet
namespace Go.Proofs.Qxb6602222a
open Go.RowKit

/-- The slice's first n cells hold the bytes f. -/
def IsBytes (w : World) (a : Option Addr) (n : Nat) (f : Nat → Int) : Prop :=
  ∀ i, i < n → ∃ b off, a = some ⟨b, off, none⟩ ∧ w.cell? ⟨b, off + i, none⟩ = some (.int .u8 (f i))

/-- What zzBytes leaves. -/
def BytesEnd (n : Nat) (w : World) (e : Ending) (w' : World) : Prop := ∃ v : Bool, e = .returned (.bool v) ∧ w' = w ∧ (v = true → n ≤ 1048576)

theorem bytes26 (a : Option Addr) (n cap : Nat) (w : World) (hn : n ≤ 9223372036854775807) : Calls Try.prog 26 #[.slice a n cap] w (BytesEnd n w) := by
  by_cases h1 : 1048576 < n
  · go_enter Try.func26, Try.ntmps26
    go_wp2
    go_ret
    exact ⟨false, rfl, rfl, by simp⟩
  · go_enter Try.func26, Try.ntmps26
    go_wp2
    go_ret
    exact ⟨true, rfl, rfl, fun _ => by omega⟩

theorem Try.info5 : (Try.prog.info? 5).map (fun i => (i.zero, i.size, i.bytes)) = some (some (.int .u8 0), 1, 1) := by kernel_rfl
theorem eq22 (w : World) (a : Option Addr) (n c : Nat) : (binOp .eql 22 (.slice a n c) (.slice none 0 0)).run Try.prog w = .ok (.bool a.isNone) w := Lib.run_eql_slice_nil w 22 5 a n c 0 0 Try.underlying22
theorem mk22 (n : Nat) (h : n ≤ 1048576) (w : World) : (Instr.makeSlice 22 (.int .i64 (n : Int)) (.int .i64 (n : Int))).run Try.prog w = .ok (.slice (some ⟨w.heap.size, 0, none⟩) n n) (w.alloc (.cells (madeCells #[.int .u8 0] n) 5)) :=
  run_make_row' 22 5 (.int .u8 0) 1 Try.underlying22 Try.info5 rfl .i64 .i64 n (by omega) (by omega) w

/-- What clone leaves: nil, or a row of its own. -/
def CloneEnd (n : Nat) (f : Nat → Int) (w : World) (e : Ending) (w' : World) : Prop :=
  Below w.heap.size w w' ∧ ((e = .returned (.slice none 0 0) ∧ n = 0) ∨ ∃ g, e = .returned (.slice (some ⟨g, 0, none⟩) n n) ∧ g < w'.heap.size ∧ ∀ i, i < n → w'.cell? ⟨g, i, none⟩ = some (.int .u8 (f i)))

set_option maxHeartbeats 400000 in
theorem clone11 (a : Option Addr) (n cap : Nat) (f : Nat → Int) (w : World) (hn : n ≤ 1048576) (h : IsBytes w a n f) (hz : a = none → n = 0) :
    Calls Try.prog 11 #[.slice a n cap] w (CloneEnd n f w) := by
  have q := eq22
  cases a with
  | none =>
    have hz' := hz rfl
    subst hz'
    go_enter Try.func11, Try.ntmps11
    go_wp2
    go_ret
    exact ⟨Below.refl _ _, .inl ⟨rfl, rfl⟩⟩
  | some x =>
    have hmk := mk22 n hn
    clear hz
    go_enter Try.func11, Try.ntmps11
    go_wp2
    go_loopw [4] (fun i wr => ∃ (k : Nat) (cur : Array Value), k ≤ n ∧ i = .int .i64 k ∧ wr.heap[w.heap.size]? = some (.cells cur 5 (0, 0)) ∧ cur.size = n ∧ Hid (∀ j, j < k → cur[j]? = some (.int .u8 (f j))) ∧ Below w.heap.size w wr) (fun i _ => n - (intOf i).toNat)
    case atStart => exact ⟨0, _, Nat.zero_le _, rfl, heap_alloc_new _ _, by simp [madeCells], fun j hj => by omega, (Below.refl _ _).alloc (Nat.le_refl _) _⟩
    case round =>
      obtain ⟨k, cur, hk, rfl, hblk, hcs, hp, hbel⟩ := hrel
      by_cases hlt : k < n
      · obtain ⟨b, off, hx, hc0⟩ := h k (by omega)
        simp only [Option.some.injEq] at hx
        subst hx
        have hc := (hbel.cell (World.block_lt_of_cell? _ _ hc0)).trans hc0
        obtain ⟨v0, hv0⟩ : ∃ v0, wr.cell? ⟨w.heap.size, k, none⟩ = some v0 := by
          rw [cell_of_row _ _ _ _ _ _ hblk]; exact ⟨_, Array.getElem?_eq_getElem (by omega)⟩
        have hfr : wr.frozen? ⟨w.heap.size, k, none⟩ = false := frozen_of_row _ _ _ _ _ hblk
        have HB : Hid (wr.heap[w.heap.size]? = some (.cells cur 5 (0, 0))) := hblk
        have HC : Hid (cur.size = n) := hcs
        clear hc0 hblk hcs
        go_wp2
        go_roundw
        case rel =>
          refine ⟨k + 1, _, by omega, by go_num, heap_setCell_same _ _ _ _ _ _ HB.out, by rw [Array.size_setIfInBounds]; exact HC.out, fun j hj => ?_, hbel.setCell (Nat.le_refl _) _⟩
          rw [Array.getElem?_setIfInBounds]
          by_cases e : k = j
          · subst e; rw [if_pos rfl, if_pos (by rw [HC.out]; exact hlt)]
          · rw [if_neg e]; exact hp.out j (by omega)
        case measure => simp [intOf]; omega
      · have hg : w.heap.size < wr.heap.size := by
          by_cases hlt : w.heap.size < wr.heap.size
          · exact hlt
          · have hn : wr.heap[w.heap.size]? = none := by simp; omega
            rw [hn] at hblk; cases hblk
        have HB : Hid (wr.heap[w.heap.size]? = some (.cells cur 5 (0, 0))) := hblk
        clear hblk
        go_wp2
        go_ret
        refine ⟨hbel, .inr ⟨w.heap.size, rfl, hg, fun i hi => ?_⟩⟩
        rw [cell_of_row _ _ _ _ _ _ HB.out]
        exact hp.out i (by omega)

end Go.Proofs.Qxb6602222a
