/-
  THE SMALL FUNCTIONS OF THE ROAD: zzBytes (20), zzStringsBytes (21), zzRawBytes (22), zzCopyStrings (23).
-/
import Derived.Test.Qxb6602242aRows
import Derived.WalkKit
import Derived.WalkSpells
import Derived.WalkLawsBesides
import Derived.Deep.OwnRows
import Derived.Deep.QuietTactic
import Derived.BigQuiet
namespace Go.Proofs.Qxb6602242a
open Go.RowKit

/-- The slice's first cells hold the strings ss. -/
def IsStrs (w : World) (a : Option Addr) (ss : List ByteArray) : Prop :=
  ∀ i, i < ss.length → ∃ b off, a = some ⟨b, off, none⟩ ∧ w.cell? ⟨b, off + i, none⟩ = some (.string (ss.getD i ByteArray.empty))

/-- The bytes of all. -/
def total : List ByteArray → Nat
  | [] => 0
  | s :: r => s.size + total r

theorem total_take (ss : List ByteArray) (k : Nat) (h : k < ss.length) : total (ss.take (k + 1)) = total (ss.take k) + (ss.getD k ByteArray.empty).size := by
  induction ss generalizing k with
  | nil => simp at h
  | cons s r ih =>
    cases k with
    | zero => simp [total]
    | succ k =>
      simp only [List.length_cons, Nat.add_lt_add_iff_right] at h
      simp only [List.take_succ_cons, total, ih k h, List.getD_cons_succ]
      omega

theorem ret_bool {a b : Bool} (h : a = b) : Ending.returned (.bool a) = .returned (.bool b) := by rw [h]

/-- What zzBytes leaves. -/
def BytesEnd (n : Nat) (w : World) (e : Ending) (w' : World) : Prop := ∃ v : Bool, e = .returned (.bool v) ∧ w' = w ∧ (v = true → n ≤ 1048576)

set_option maxHeartbeats 400000 in
theorem bytes20 (dp : Bool) (a : Option Addr) (len cap : Nat) (ss : List ByteArray) (t : ByteArray) (w : World) (hl : ss.length = len) (hlen : len ≤ 9223372036854775807) (ht : t.size ≤ 9223372036854775807)
    (hs : ∀ i, i < ss.length → (ss.getD i ByteArray.empty).size ≤ 9223372036854775807) (h : IsStrs w a ss) :
    Calls Try.prog 20 #[.bool dp, .slice a len cap, .string t] w (BytesEnd (len + total ss + t.size) w) := by
  go_enter Try.func20, Try.ntmps20
  by_cases h1 : 1048576 < len
  · go_wp2
    go_ret
    exact ⟨false, rfl, rfl, by simp⟩
  · go_wp2
    go_loop [7, 8] (fun n i => ∃ k : Nat, k ≤ len ∧ i = .int .i64 k ∧ len + total (ss.take k) ≤ 1048576 ∧ n = .int .i64 ((len + total (ss.take k) : Nat) : Int)) (fun _ i => len - (intOf i).toNat)
    case atStart => exact ⟨0, Nat.zero_le _, rfl, by simp [total]; omega, by simp [total]⟩
    case round =>
      obtain ⟨k, hk, rfl, hb, rfl⟩ := hrel
      by_cases hlt : k < len
      · obtain ⟨b, off, rfl, hc⟩ := h k (by omega)
        have hss := hs k (by omega)
        have htt := total_take ss k (by omega)
        obtain ⟨s, hse⟩ : ∃ s, s = ss.getD k ByteArray.empty := ⟨_, rfl⟩
        rw [← hse] at hc hss htt
        have H : Hid (total (ss.take (k + 1)) = total (ss.take k) + s.size) := htt
        clear htt hse
        by_cases h2 : 1048576 < s.size
        · go_wp2
          go_ret
          exact ⟨false, rfl, rfl, by simp⟩
        · by_cases h3 : 1048576 < len + total (ss.take k) + s.size
          · go_wp2
            go_ret
            exact ⟨false, rfl, rfl, by simp⟩
          · go_wp2
            go_round
            case rel => exact ⟨k + 1, by omega, by go_num, by rw [H.out]; omega, by rw [H.out]; go_num⟩
            case measure => simp [intOf]; omega
      · have hkk : ss.take k = ss := List.take_of_length_le (by omega)
        rw [hkk] at hb ⊢
        by_cases h2 : 1048576 < t.size
        · go_wp2
          go_ret
          exact ⟨false, rfl, rfl, by simp⟩
        · by_cases h3 : 1048576 < len + total ss + t.size
          · go_wp2
            go_ret
            exact ⟨false, rfl, rfl, by simp⟩
          · go_wp2
            go_ret
            exact ⟨true, rfl, rfl, fun _ => by omega⟩

/-- What zzRawBytes leaves. -/
def SizeEnd (w : World) (e : Ending) (w' : World) : Prop := ∃ v : Nat, e = .returned (.int .i64 v) ∧ w' = w ∧ v ≤ 1048577

set_option maxHeartbeats 400000 in
theorem raw22 (a : Option Addr) (len cap : Nat) (ss : List ByteArray) (w : World) (hl : ss.length = len) (hlen : len ≤ 9223372036854775807)
    (hs : ∀ i, i < ss.length → (ss.getD i ByteArray.empty).size ≤ 9223372036854775807) (h : IsStrs w a ss) :
    Calls Try.prog 22 #[.slice a len cap] w (SizeEnd w) := by
  go_enter Try.func22, Try.ntmps22
  go_wp2
  go_loop [3, 4] (fun n i => ∃ k m : Nat, k ≤ len ∧ i = .int .i64 k ∧ m ≤ 1048576 ∧ n = .int .i64 m) (fun _ i => len - (intOf i).toNat)
  case atStart => exact ⟨0, 0, Nat.zero_le _, rfl, by omega, rfl⟩
  case round =>
    obtain ⟨k, m, hk, rfl, hm, rfl⟩ := hrel
    by_cases hlt : k < len
    · obtain ⟨b, off, rfl, hc⟩ := h k (by omega)
      have hss := hs k (by omega)
      obtain ⟨s, hse⟩ : ∃ s, s = ss.getD k ByteArray.empty := ⟨_, rfl⟩
      rw [← hse] at hc hss
      clear hse
      by_cases h2 : 1048576 < s.size
      · go_wp2
        go_ret
        exact ⟨1048577, rfl, rfl, by omega⟩
      · by_cases h3 : 1048576 < m + s.size
        · go_wp2
          go_ret
          exact ⟨1048577, rfl, rfl, by omega⟩
        · go_wp2
          go_round
          case rel => exact ⟨k + 1, m + s.size, by omega, by go_num, by omega, by go_num⟩
          case measure => simp [intOf]; omega
    · go_wp2
      go_ret
      exact ⟨m, rfl, rfl, by omega⟩

/-- What zzStringsBytes leaves. -/
def StrsEnd (w : World) (e : Ending) (w' : World) : Prop := ∃ v : Nat, e = .returned (.int .i64 v) ∧ w' = w ∧ v ≤ 20000000

set_option maxHeartbeats 400000 in
theorem strs21 (a : Option Addr) (len cap : Nat) (ss : List ByteArray) (w : World) (hl : ss.length = len) (hlen : len ≤ 9223372036854775807)
    (hs : ∀ i, i < ss.length → (ss.getD i ByteArray.empty).size ≤ 9223372036854775807) (h : IsStrs w a ss) :
    Calls Try.prog 21 #[.slice a len cap] w (StrsEnd w) := by
  by_cases hbig : 1048576 < len
  · go_enter Try.func21, Try.ntmps21
    go_wp2
    go_ret
    exact ⟨1048577, rfl, rfl, by omega⟩
  · go_enter Try.func21, Try.ntmps21
    go_wp2
    go_loop [3, 4] (fun n i => ∃ k m : Nat, k ≤ len ∧ i = .int .i64 k ∧ m ≤ 16777216 ∧ n = .int .i64 m) (fun _ i => len - (intOf i).toNat)
    case atStart => exact ⟨0, 16 * len, Nat.zero_le _, rfl, by omega, by go_num⟩
    case round =>
      obtain ⟨k, m, hk, rfl, hm, rfl⟩ := hrel
      by_cases hlt : k < len
      · obtain ⟨b, off, rfl, hc⟩ := h k (by omega)
        have hss := hs k (by omega)
        obtain ⟨s, hse⟩ : ∃ s, s = ss.getD k ByteArray.empty := ⟨_, rfl⟩
        rw [← hse] at hc hss
        clear hse
        by_cases h2 : 1048576 < s.size
        · go_wp2
          go_ret
          exact ⟨1048577, rfl, rfl, by omega⟩
        · by_cases h3 : 1048576 < m + s.size
          · go_wp2
            go_ret
            exact ⟨1048577, rfl, rfl, by omega⟩
          · go_wp2
            go_round
            case rel => exact ⟨k + 1, m + s.size, by omega, by go_num, by omega, by go_num⟩
            case measure => simp [intOf]; omega
      · go_wp2
        go_ret
        exact ⟨m, rfl, rfl, by omega⟩

theorem Try.info9 : (Try.prog.info? 9).map (fun i => (i.zero, i.size, i.bytes)) = some (some (.string ByteArray.empty), 1, 16) := by kernel_rfl
theorem Try.info4 : (Try.prog.info? 4).map (fun i => (i.zero, i.size, i.bytes)) = some (some (.bool false), 1, 1) := by kernel_rfl
theorem eq37 (w : World) (a : Option Addr) (n c : Nat) : (binOp .eql 37 (.slice a n c) (.slice none 0 0)).run Try.prog w = .ok (.bool a.isNone) w := Lib.run_eql_slice_nil w 37 9 a n c 0 0 Try.underlying37
theorem mk37 (n : Nat) (h : n ≤ 1048576) (w : World) : (Instr.makeSlice 37 (.int .i64 (n : Int)) (.int .i64 (n : Int))).run Try.prog w = .ok (.slice (some ⟨w.heap.size, 0, none⟩) n n) (w.alloc (.cells (madeCells #[.string ByteArray.empty] n) 9)) :=
  run_make_row' 37 9 (.string ByteArray.empty) 16 Try.underlying37 Try.info9 rfl .i64 .i64 n (by omega) (by omega) w

/-- What is read of the strings stands behind a call that writes nothing old. -/
theorem IsStrs.later {w wx : World} {a : Option Addr} {ss : List ByteArray} (h : IsStrs w a ss) (hb : Below w.heap.size w wx) : IsStrs wx a ss := by
  intro i hi
  obtain ⟨b, off, rfl, hc⟩ := h i hi
  exact ⟨b, off, rfl, cell_later hb hc⟩

/-- What zzCopyStrings leaves. -/
def CopyEnd (len : Nat) (ss : List ByteArray) (w : World) (e : Ending) (w' : World) : Prop := ∃ a, e = .returned (.slice a len len) ∧ (a = none → len = 0) ∧ IsStrs w' a ss ∧ Below w.heap.size w w'

set_option maxHeartbeats 400000 in
theorem copy23 (a : Option Addr) (len cap : Nat) (ss : List ByteArray) (w : World) (hl : ss.length = len) (hlen : len ≤ 1048576) (h : IsStrs w a ss) (hn : a = none → len = 0) :
    Calls Try.prog 23 #[.slice a len cap] w (CopyEnd len ss w) := by
  have q := eq37
  cases a with
  | none =>
    have hz := hn rfl
    subst hz
    go_enter Try.func23, Try.ntmps23
    go_wp2
    go_ret
    exact ⟨none, rfl, fun _ => rfl, h, Below.refl _ _⟩
  | some x =>
    have hmk := mk37 len hlen
    clear hn
    go_enter Try.func23, Try.ntmps23
    go_wp2
    go_loopw [4] (fun i wr => ∃ (k : Nat) (cur : Array Value), k ≤ len ∧ i = .int .i64 k ∧ wr.heap[w.heap.size]? = some (.cells cur 9 (0, 0)) ∧ cur.size = len ∧ Hid (∀ j, j < k → cur[j]? = some (.string (ss.getD j ByteArray.empty))) ∧ Below w.heap.size w wr) (fun i _ => len - (intOf i).toNat)
    case atStart => exact ⟨0, _, Nat.zero_le _, rfl, heap_alloc_new _ _, by simp [madeCells], fun j hj => by omega, (Below.refl _ _).alloc (Nat.le_refl _) _⟩
    case round =>
      obtain ⟨k, cur, hk, rfl, hblk, hcs, hp, hbel⟩ := hrel
      by_cases hlt : k < len
      · obtain ⟨b, off, hx, hc0⟩ := h k (by omega)
        simp only [Option.some.injEq] at hx
        subst hx
        have hc := (hbel.cell (World.block_lt_of_cell? _ _ hc0)).trans hc0
        obtain ⟨v0, hv0⟩ : ∃ v0, wr.cell? ⟨w.heap.size, k, none⟩ = some v0 := by
          rw [cell_of_row _ _ _ _ _ _ hblk]; exact ⟨_, Array.getElem?_eq_getElem (by omega)⟩
        have hfr : wr.frozen? ⟨w.heap.size, k, none⟩ = false := frozen_of_row _ _ _ _ _ hblk
        obtain ⟨s, hse⟩ : ∃ s, s = ss.getD k ByteArray.empty := ⟨_, rfl⟩
        rw [← hse] at hc
        have HS : Hid (s = ss.getD k ByteArray.empty) := hse
        have HB : Hid (wr.heap[w.heap.size]? = some (.cells cur 9 (0, 0))) := hblk
        have HC : Hid (cur.size = len) := hcs
        clear hse hc0 hblk hcs
        go_wp2
        go_roundw
        case rel =>
          refine ⟨k + 1, _, by omega, by go_num, heap_setCell_same _ _ _ _ _ _ HB.out, by rw [Array.size_setIfInBounds]; exact HC.out, fun j hj => ?_, hbel.setCell (Nat.le_refl _) _⟩
          rw [Array.getElem?_setIfInBounds]
          by_cases e : k = j
          · subst e; rw [if_pos rfl, if_pos (by rw [HC.out]; exact hlt), HS.out]
          · rw [if_neg e]; exact hp.out j (by omega)
        case measure => simp [intOf]; omega
      · go_wp2
        go_ret
        refine ⟨_, rfl, (fun e => by cases e), fun j hj => ⟨w.heap.size, 0, rfl, ?_⟩, hbel⟩
        rw [cell_of_row _ _ _ _ _ _ hblk, Nat.zero_add]
        exact hp.out j (by omega)

end Go.Proofs.Qxb6602242a
