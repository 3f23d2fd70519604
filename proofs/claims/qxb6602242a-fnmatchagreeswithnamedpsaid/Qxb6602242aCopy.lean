/-
  zzCopyStrings (23), zzCopyBools (13), zzCopyParts (14): with where the copies lie.
-/
import Derived.Test.Qxb6602242aNames
namespace Go.Proofs.Qxb6602242a
open Go.RowKit

/-- What zzCopyStrings leaves: .. in new memory. -/
def CopyXEnd (len : Nat) (ss : List ByteArray) (w : World) (e : Ending) (w' : World) : Prop := ∃ a, e = .returned (.slice a len len) ∧ (a = none → len = 0) ∧ IsStrs w' a ss ∧ Below w.heap.size w w' ∧ ∀ x, a = some x → w.heap.size ≤ x.block

set_option maxHeartbeats 400000 in
theorem copy23x (a : Option Addr) (len cap : Nat) (ss : List ByteArray) (w : World) (hl : ss.length = len) (hlen : len ≤ 1048576) (h : IsStrs w a ss) (hn : a = none → len = 0) :
    Calls Try.prog 23 #[.slice a len cap] w (CopyXEnd len ss w) := by
  have q := eq37
  cases a with
  | none =>
    have hz := hn rfl
    subst hz
    go_enter Try.func23, Try.ntmps23
    go_wp2
    go_ret
    exact ⟨none, rfl, fun _ => rfl, h, Below.refl _ _, fun x e => by cases e⟩
  | some x =>
    have hmk := mk37 len hlen
    clear hn
    go_enter Try.func23, Try.ntmps23
    go_wp2
    go_loopw [4] (fun i wr => ∃ (k : Nat) (cur : Array Value), k ≤ len ∧ i = .int .i64 k ∧ wr.heap[w.heap.size]? = some (.cells cur 9 (0, 0)) ∧ cur.size = len ∧ Hid (∀ j, j < k → cur[j]? = some (.string (ss.getD j ByteArray.empty))) ∧ Below w.heap.size w wr) (fun i _ => len - (intOf i).toNat)
    case atStart => exact ⟨0, _, Nat.zero_le _, rfl, heap_alloc_new _ _, by simp [madeCells], fun j hj => by omega, (Below.refl _ _).alloc (Nat.le_refl _) _⟩
    case round =>
      obtain ⟨k, cur, hk, rfl, hblk, hcs, hp, hbel⟩ := hrel
      by_cases hlt : k < len
      · obtain ⟨b, off, hx, hc0⟩ := h k (by omega)
        simp only [Option.some.injEq] at hx
        subst hx
        have hc := (hbel.cell (World.block_lt_of_cell? _ _ hc0)).trans hc0
        obtain ⟨v0, hv0⟩ : ∃ v0, wr.cell? ⟨w.heap.size, k, none⟩ = some v0 := by
          rw [cell_of_row _ _ _ _ _ _ hblk]; exact ⟨_, Array.getElem?_eq_getElem (by omega)⟩
        have hfr : wr.frozen? ⟨w.heap.size, k, none⟩ = false := frozen_of_row _ _ _ _ _ hblk
        obtain ⟨s, hse⟩ : ∃ s, s = ss.getD k ByteArray.empty := ⟨_, rfl⟩
        rw [← hse] at hc
        have HS : Hid (s = ss.getD k ByteArray.empty) := hse
        have HB : Hid (wr.heap[w.heap.size]? = some (.cells cur 9 (0, 0))) := hblk
        have HC : Hid (cur.size = len) := hcs
        clear hse hc0 hblk hcs
        go_wp2
        go_roundw
        case rel =>
          refine ⟨k + 1, _, by omega, by go_num, heap_setCell_same _ _ _ _ _ _ HB.out, by rw [Array.size_setIfInBounds]; exact HC.out, fun j hj => ?_, hbel.setCell (Nat.le_refl _) _⟩
          rw [Array.getElem?_setIfInBounds]
          by_cases e : k = j
          · subst e; rw [if_pos rfl, if_pos (by rw [HC.out]; exact hlt), HS.out]
          · rw [if_neg e]; exact hp.out j (by omega)
        case measure => simp [intOf]; omega
      · go_wp2
        go_ret
        refine ⟨_, rfl, (fun e => by cases e), fun j hj => ⟨w.heap.size, 0, rfl, ?_⟩, hbel, fun x e => by cases e; exact Nat.le_refl _⟩
        rw [cell_of_row _ _ _ _ _ _ hblk, Nat.zero_add]
        exact hp.out j (by omega)

/-- The slice's first cells hold the flags ds. -/
def IsFlags (w : World) (a : Option Addr) (ds : List Bool) : Prop :=
  ∀ i, i < ds.length → ∃ b off, a = some ⟨b, off, none⟩ ∧ w.cell? ⟨b, off + i, none⟩ = some (.bool (ds.getD i false))
theorem IsFlags.later {w wx : World} {a : Option Addr} {ds : List Bool} (h : IsFlags w a ds) (hb : Below w.heap.size w wx) : IsFlags wx a ds := by
  intro i hi
  obtain ⟨b, off, rfl, hc⟩ := h i hi
  exact ⟨b, off, rfl, cell_later hb hc⟩

theorem eqn22 (w : World) (a : Option Addr) (n c : Nat) : (binOp .eql 22 (.slice a n c) (.slice none 0 0)).run Try.prog w = .ok (.bool a.isNone) w := Lib.run_eql_slice_nil w 22 4 a n c 0 0 Try.underlying22
theorem mkn22 (n : Nat) (h : n ≤ 1048576) (w : World) : (Instr.makeSlice 22 (.int .i64 (n : Int)) (.int .i64 (n : Int))).run Try.prog w = .ok (.slice (some ⟨w.heap.size, 0, none⟩) n n) (w.alloc (.cells (madeCells #[.bool false] n) 4)) :=
  run_make_row' 22 4 (.bool false) 1 Try.underlying22 Try.info4 rfl .i64 .i64 n (by omega) (by omega) w

/-- What zzCopyBools leaves. -/
def FlagsEnd (len : Nat) (ds : List Bool) (w : World) (e : Ending) (w' : World) : Prop := ∃ a, e = .returned (.slice a len len) ∧ IsFlags w' a ds ∧ Below w.heap.size w w'

set_option maxHeartbeats 400000 in
theorem bools13 (a : Option Addr) (len cap : Nat) (ds : List Bool) (w : World) (hl : ds.length = len) (hlen : len ≤ 1048576) (h : IsFlags w a ds) (hn : a = none → len = 0) :
    Calls Try.prog 13 #[.slice a len cap] w (FlagsEnd len ds w) := by
  have q := eqn22
  cases a with
  | none =>
    have hz := hn rfl
    subst hz
    go_enter Try.func13, Try.ntmps13
    go_wp2
    go_ret
    exact ⟨none, rfl, h, Below.refl _ _⟩
  | some x =>
    have hmk := mkn22 len hlen
    clear hn
    go_enter Try.func13, Try.ntmps13
    go_wp2
    go_loopw [4] (fun i wr => ∃ k : Nat, k ≤ len ∧ i = .int .i64 k ∧ RowV wr w.heap.size 4 len k (fun j => .bool (ds.getD j false)) ∧ Below w.heap.size w wr) (fun i _ => len - (intOf i).toNat)
    case atStart => exact ⟨0, Nat.zero_le _, rfl, RowV.made _ _ _ _ _, (Below.refl _ _).alloc (Nat.le_refl _) _⟩
    case round =>
      obtain ⟨k, hk, rfl, hR, hbel⟩ := hrel
      by_cases hlt : k < len
      · obtain ⟨b, off, hx, hc0⟩ := h k (by omega)
        simp only [Option.some.injEq] at hx
        subst hx
        have hc := (hbel.cell (World.block_lt_of_cell? _ _ hc0)).trans hc0
        obtain ⟨v0, hv0⟩ := hR.some hlt
        have hfr := hR.free k
        obtain ⟨x, hx⟩ : ∃ x, x = ds.getD k false := ⟨_, rfl⟩
        rw [← hx] at hc
        have HX : Hid (x = ds.getD k false) := hx
        clear hx hc0
        go_wp2
        go_roundw
        case rel => exact ⟨k + 1, by omega, by go_num, hR.put hlt (by rw [HX.out]), hbel.setCell (Nat.le_refl _) _⟩
        case measure => simp [intOf]; omega
      · go_wp2
        go_ret
        refine ⟨_, rfl, fun j hj => ⟨w.heap.size, 0, rfl, ?_⟩, hbel⟩
        rw [Nat.zero_add]
        exact hR.cell (by omega)

/-- The slice's first cells hold slices of strings, ps. -/
def IsParts (w : World) (a : Option Addr) (ps : List (List ByteArray)) : Prop :=
  ∀ i, i < ps.length → ∃ b off ai ci, a = some ⟨b, off, none⟩ ∧ w.cell? ⟨b, off + i, none⟩ = some (.slice ai (ps.getD i []).length ci) ∧ IsStrs w ai (ps.getD i []) ∧ (ai = none → (ps.getD i []).length = 0)

/-- A row of slices of strings of the call's own: row i begins at F i. -/
structure OwnParts (B : Nat) (w : World) (g n k : Nat) (ps : List (List ByteArray)) (F : Nat → Option Addr) : Prop where
  row : RowV w g 37 n k (fun j => .slice (F j) (ps.getD j []).length (ps.getD j []).length)
  strs : ∀ j, j < k → IsStrs w (F j) (ps.getD j [])
  nils : ∀ j, j < k → F j = none → (ps.getD j []).length = 0
  new : ∀ j, j < k → ∀ x, F j = some x → B ≤ x.block

theorem Try.info37 : (Try.prog.info? 37).map (fun i => (i.zero, i.size, i.bytes)) = some (some (.slice none 0 0), 1, 24) := by kernel_rfl
theorem eq23 (w : World) (a : Option Addr) (n c : Nat) : (binOp .eql 23 (.slice a n c) (.slice none 0 0)).run Try.prog w = .ok (.bool a.isNone) w := Lib.run_eql_slice_nil w 23 37 a n c 0 0 Try.underlying23
theorem mk23 (n : Nat) (h : n ≤ 1048576) (w : World) : (Instr.makeSlice 23 (.int .i64 (n : Int)) (.int .i64 (n : Int))).run Try.prog w = .ok (.slice (some ⟨w.heap.size, 0, none⟩) n n) (w.alloc (.cells (madeCells #[.slice none 0 0] n) 37)) :=
  run_make_row' 23 37 (.slice none 0 0) 24 Try.underlying23 Try.info37 rfl .i64 .i64 n (by omega) (by omega) w

theorem OwnParts.step {B : Nat} {w w2 : World} {g n k : Nat} {ps : List (List ByteArray)} {F : Nat → Option Addr} (h : OwnParts B w g n k ps F) (hg : g < B) (hBw : B ≤ w.heap.size) (hk : k < n)
    {a : Option Addr} (hb : Below w.heap.size w w2) (hs : IsStrs w2 a (ps.getD k [])) (hn : a = none → (ps.getD k []).length = 0) (hx : ∀ x, a = some x → w.heap.size ≤ x.block) :
    OwnParts B (w2.setCell ⟨g, k, none⟩ (.slice a (ps.getD k []).length (ps.getD k []).length)) g n (k + 1) ps (fun j => if j = k then a else F j) := by
  have far : ∀ {a' : Option Addr} {ss : List ByteArray}, IsStrs w2 a' ss → (∀ x, a' = some x → B ≤ x.block) → IsStrs (w2.setCell ⟨g, k, none⟩ (.slice a (ps.getD k []).length (ps.getD k []).length)) a' ss := by
    intro a' ss h1 h2 i hi
    obtain ⟨b, off, rfl, hc⟩ := h1 i hi
    have := h2 _ rfl
    refine ⟨b, off, rfl, ?_⟩
    rw [← hc]
    exact World.cell?_of_block (heap_setCell_other _ _ _ _ (by show b ≠ g; have : B ≤ b := this; omega))
  refine ⟨?_, fun j hj => ?_, fun j hj hz => ?_, fun j hj x e => ?_⟩
  · have h1 : RowV w2 g 37 n k (fun j => .slice (if j = k then a else F j) (ps.getD j []).length (ps.getD j []).length) := by
      obtain ⟨cur, h1, h2, h3⟩ := h.row.same (hb.block g (by omega))
      exact ⟨cur, h1, h2, fun j hj => by rw [h3 j hj]; simp only [if_neg (show j ≠ k from by omega)]⟩
    exact h1.put hk (by simp)
  · by_cases e : j = k
    · subst e
      simp only [if_true]
      exact far hs fun x e => by have := hx x e; omega
    · simp only [if_neg e]
      exact far ((h.strs j (by omega)).later hb) fun x e' => h.new j (by omega) x e'
  · by_cases e : j = k
    · subst e; simp only [if_true] at hz; exact hn hz
    · simp only [if_neg e] at hz; exact h.nils j (by omega) hz
  · by_cases e' : j = k
    · subst e'; simp only [if_true] at e; have := hx x e; omega
    · simp only [if_neg e'] at e; exact h.new j (by omega) x e

/-- What zzCopyParts leaves. -/
def PartsEnd (n : Nat) (ps : List (List ByteArray)) (w : World) (e : Ending) (w' : World) : Prop :=
  Below w.heap.size w w' ∧ ((e = .returned (.slice none 0 0) ∧ n = 0) ∨ ∃ g F, e = .returned (.slice (some ⟨g, 0, none⟩) n n) ∧ OwnParts (g + 1) w' g n n ps F)

set_option maxHeartbeats 1000000 in
theorem parts14 (a : Option Addr) (n cap : Nat) (ps : List (List ByteArray)) (w : World) (hl : ps.length = n) (hlen : n ≤ 1048576) (hs : ∀ i, i < ps.length → (ps.getD i []).length ≤ 1048576) (h : IsParts w a ps) (hn : a = none → n = 0) :
    Calls Try.prog 14 #[.slice a n cap] w (PartsEnd n ps w) := by
  have q := eq23
  cases a with
  | none =>
    have hz := hn rfl
    subst hz
    go_enter Try.func14, Try.ntmps14
    go_wp2
    go_ret
    exact ⟨Below.refl _ _, .inl ⟨rfl, rfl⟩⟩
  | some x =>
    have hmk := mk23 n hlen
    clear hn
    go_enter Try.func14, Try.ntmps14
    go_wp2
    go_loopw [4] (fun i wr => ∃ (k : Nat) (F : Nat → Option Addr), k ≤ n ∧ i = .int .i64 k ∧ OwnParts (w.heap.size + 1) wr w.heap.size n k ps F ∧ w.heap.size + 1 ≤ wr.heap.size ∧ Below w.heap.size w wr) (fun i _ => n - (intOf i).toNat)
    case atStart => exact ⟨0, fun _ => none, Nat.zero_le _, rfl, ⟨RowV.made _ _ _ _ _, fun j hj => by omega, fun j hj => by omega, fun j hj => by omega⟩, by simp, (Below.refl _ _).alloc (Nat.le_refl _) _⟩
    case round =>
      obtain ⟨k, F, hk, rfl, hO, hsz, hbel⟩ := hrel
      by_cases hlt : k < n
      · obtain ⟨b, off, ai, ci, hx, hc0, hst0, hni⟩ := h k (by omega)
        simp only [Option.some.injEq] at hx
        subst hx
        have hc := (hbel.cell (World.block_lt_of_cell? _ _ hc0)).trans hc0
        have hst := hst0.later hbel
        have hli := hs k (by omega)
        have C : Hid (Calls Try.prog 23 #[.slice ai (ps.getD k []).length ci] wr (CopyXEnd (ps.getD k []).length (ps.getD k []) wr)) := copy23x ai _ ci (ps.getD k []) wr rfl hli hst hni
        obtain ⟨l, hle⟩ : ∃ l, l = (ps.getD k []).length := ⟨_, rfl⟩
        rw [← hle] at hc C
        have HL : Hid (l = (ps.getD k []).length) := hle
        clear hle hc0 hst0 hst hni hli
        go_wp2_with fail
        refine C.out.mono ?_
        rintro e w2 ⟨a2, rfl, hn2, hs2, hb2, hx2⟩
        have hR2 := hO.row.same (hb2.block w.heap.size (by omega))
        obtain ⟨v0, hv0⟩ := hR2.some hlt
        have hfr := hR2.free k
        rw [HL.out] at hn2
        have hO2 : Hid (OwnParts (w.heap.size + 1) (w2.setCell ⟨w.heap.size, k, none⟩ (.slice a2 (ps.getD k []).length (ps.getD k []).length)) w.heap.size n (k + 1) ps (fun j => if j = k then a2 else F j)) := hO.step (by omega) hsz hlt hb2 hs2 hn2 hx2
        have hb3 := hbel.trans (hb2.mono (by omega))
        have hsz2 := hb2.size
        clear C hs2 hn2 hx2 hR2 hb2
        go_wp2
        go_roundw
        case rel => exact ⟨k + 1, _, by omega, by go_num, by rw [HL.out]; exact hO2.out, by simp; omega, hb3.setCell (Nat.le_refl _) _⟩
        case measure => simp [intOf]; omega
      · have ek : k = n := by omega
        subst ek
        go_wp2
        go_ret
        exact ⟨hbel, .inr ⟨w.heap.size, F, rfl, hO⟩⟩

end Go.Proofs.Qxb6602242a
