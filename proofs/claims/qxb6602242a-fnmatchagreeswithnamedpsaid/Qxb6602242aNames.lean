/-
  zzNames (32).
-/
import Derived.Test.Qxb6602242aName
namespace Go.Proofs.Qxb6602242a
open Go.RowKit

/-- The slashes among the first i bytes. -/
def cnt (p : List UInt8) : Nat → Nat
  | 0 => 0
  | i + 1 => cnt p i + if p[i]? = some 47 then 1 else 0

theorem cnt_le (p : List UInt8) (i : Nat) : cnt p i ≤ i := by
  induction i with
  | zero => exact Nat.le_refl _
  | succ i ih => rw [cnt]; split <;> omega

theorem cnt_mono (p : List UInt8) {i j : Nat} (h : i ≤ j) : cnt p i ≤ cnt p j := by
  induction j with
  | zero => have : i = 0 := by omega
            subst this; exact Nat.le_refl _
  | succ j ih =>
    by_cases e : i = j + 1
    · subst e; exact Nat.le_refl _
    · have := ih (by omega)
      rw [cnt]; omega

theorem names_inv (p : List UInt8) : ∀ i, i ≤ p.length → startOf p (cnt p i) ≤ i ∧ ∀ j, startOf p (cnt p i) ≤ j → j < i → p[j]? ≠ some 47
  | 0, _ => ⟨Nat.le_refl _, fun j _ h => by omega⟩
  | i + 1, hi => by
    obtain ⟨h1, h2⟩ := names_inv p i (by omega)
    rw [cnt]
    by_cases h : p[i]? = some 47
    · rw [if_pos h, startOf]
      have e : nameEnd p (startOf p (cnt p i)) = i := end_unique (isEnd p _ (by omega)) ⟨h1, by omega, fun j h3 h4 => h2 j h3 h4, fun _ => h⟩
      rw [e]
      exact ⟨Nat.le_refl _, fun j h3 h4 => by omega⟩
    · rw [if_neg h, Nat.add_zero]
      refine ⟨by omega, fun j h3 h4 => ?_⟩
      by_cases e : j = i
      · subst e; exact h
      · exact h2 j h3 (by omega)

theorem slash_here {p : List UInt8} {i : Nat} (hi : i < p.length) (h : p[i]? = some 47) : nameEnd p (startOf p (cnt p i)) = i := by
  obtain ⟨h1, h2⟩ := names_inv p i (by omega)
  exact end_unique (isEnd p _ (by omega)) ⟨h1, by omega, fun j h3 h4 => h2 j h3 h4, fun _ => h⟩

theorem end_here (p : List UInt8) : nameEnd p (startOf p (cnt p p.length)) = p.length := by
  obtain ⟨h1, h2⟩ := names_inv p p.length (Nat.le_refl _)
  exact end_unique (isEnd p _ h1) ⟨h1, Nat.le_refl _, fun j h3 h4 => h2 j h3 h4, fun h => by omega⟩

theorem start_le (p : List UInt8) : ∀ i, i ≤ p.length → ∀ k, k ≤ cnt p i → startOf p k ≤ i
  | 0, _, k, h => by
    have : k = 0 := by have : cnt p 0 = 0 := rfl
                       omega
    subst this; exact Nat.le_refl _
  | i + 1, hi, k, h => by
    by_cases e : k = cnt p (i + 1)
    · subst e; exact (names_inv p (i + 1) hi).1
    · have h1 : k ≤ cnt p i := by
        rw [cnt] at h e
        split at h <;> split at e <;> omega
      have := start_le p i (by omega) k h1
      omega

theorem names_plain (p : List UInt8) : NamesOf p (cnt p p.length + 1) (startOf p) :=
  ⟨by rw [startOf, end_here], fun k hk => start_le p p.length (Nat.le_refl _) k (by omega), fun _ _ => rfl⟩

/-- How many names, and where. The path of one dot has none. -/
def mOf (p : List UInt8) : Nat := if p = [46] then 0 else cnt p p.length + 1
def posOf (p : List UInt8) (k : Nat) : Nat := if p = [46] then p.length + 1 else startOf p k

theorem namesOf (p : List UInt8) : NamesOf p (mOf p) (posOf p) := by
  by_cases h : p = [46]
  · refine ⟨?_, fun k hk => ?_, fun k hk => ?_⟩
    · unfold posOf; rw [if_pos h]
    · unfold mOf at hk; rw [if_pos h] at hk; omega
    · unfold mOf at hk; rw [if_pos h] at hk; omega
  · have e1 : mOf p = cnt p p.length + 1 := by unfold mOf; rw [if_neg h]
    have e2 : posOf p = startOf p := by funext k; unfold posOf; rw [if_neg h]
    rw [e1, e2]
    exact names_plain p

theorem mOf_le (p : List UInt8) : mOf p ≤ p.length + 1 := by
  unfold mOf
  split
  · omega
  · have := cnt_le p p.length; omega

/-- Block g is a row of N cells of type T of which the first k are f's. -/
def RowV (w : World) (g : Nat) (T : TypeId) (N k : Nat) (f : Nat → Value) : Prop :=
  ∃ cur : Array Value, w.heap[g]? = some (.cells cur T (0, 0)) ∧ cur.size = N ∧ ∀ j, j < k → cur[j]? = some (f j)

theorem RowV.cell {w : World} {g : Nat} {T : TypeId} {N k : Nat} {f : Nat → Value} (h : RowV w g T N k f) {j : Nat} (hj : j < k) : w.cell? ⟨g, j, none⟩ = some (f j) := by
  obtain ⟨cur, h1, _, h4⟩ := h
  rw [cell_of_row _ _ _ _ _ _ h1]; exact h4 j hj
theorem RowV.some {w : World} {g : Nat} {T : TypeId} {N k : Nat} {f : Nat → Value} (h : RowV w g T N k f) {j : Nat} (hj : j < N) : ∃ x, w.cell? ⟨g, j, none⟩ = Option.some x := by
  obtain ⟨cur, h1, h2, _⟩ := h
  rw [cell_of_row _ _ _ _ _ _ h1]; exact ⟨_, Array.getElem?_eq_getElem (by omega)⟩
theorem RowV.free {w : World} {g : Nat} {T : TypeId} {N k : Nat} {f : Nat → Value} (h : RowV w g T N k f) (j : Nat) : w.frozen? ⟨g, j, none⟩ = false := by
  obtain ⟨cur, h1, _⟩ := h
  exact frozen_of_row _ _ _ _ _ h1
theorem RowV.lt {w : World} {g : Nat} {T : TypeId} {N k : Nat} {f : Nat → Value} (h : RowV w g T N k f) : g < w.heap.size := by
  obtain ⟨cur, h1, _⟩ := h
  by_cases hlt : g < w.heap.size
  · exact hlt
  · have hn : w.heap[g]? = none := by simp; omega
    rw [hn] at h1; cases h1
theorem RowV.put {w : World} {g : Nat} {T : TypeId} {N k : Nat} {f : Nat → Value} (h : RowV w g T N k f) (hk : k < N) {x : Value} (hx : x = f k) : RowV (w.setCell ⟨g, k, none⟩ x) g T N (k + 1) f := by
  obtain ⟨cur, h1, h2, h4⟩ := h
  refine ⟨_, heap_setCell_same _ _ _ _ _ _ h1, by rw [Array.size_setIfInBounds]; exact h2, fun j hj => ?_⟩
  rw [Array.getElem?_setIfInBounds]
  by_cases e : k = j
  · subst e; rw [if_pos rfl, if_pos (by omega), hx]
  · rw [if_neg e]; exact h4 j (by omega)
theorem RowV.same {w wx : World} {g : Nat} {T : TypeId} {N k : Nat} {f : Nat → Value} (h : RowV w g T N k f) (e : wx.heap[g]? = w.heap[g]?) : RowV wx g T N k f := by
  obtain ⟨cur, h1, h2⟩ := h
  exact ⟨cur, by rw [e]; exact h1, h2⟩
theorem RowV.other {w : World} {g : Nat} {T : TypeId} {N k : Nat} {f : Nat → Value} (h : RowV w g T N k f) {a : Addr} (hg : g ≠ a.block) (v : Value) : RowV (w.setCell a v) g T N k f := h.same (heap_setCell_other _ _ _ _ hg)
theorem RowV.made (w : World) (z : Value) (T : TypeId) (N : Nat) (f : Nat → Value) : RowV (w.alloc (.cells (madeCells #[z] N) T)) w.heap.size T N 0 f :=
  ⟨_, heap_alloc_new _ _, by simp [madeCells], fun j hj => by omega⟩
theorem RowV.alloc {w : World} {g : Nat} {T : TypeId} {N k : Nat} {f : Nat → Value} (h : RowV w g T N k f) (o : Obj) : RowV (w.alloc o) g T N k f := h.same (Below.heap_alloc w o g h.lt)

theorem Try.info3 : (Try.prog.info? 3).map (fun i => (i.zero, i.size, i.bytes)) = some (some (.int .i64 0), 1, 8) := by kernel_rfl
theorem mk52 (n : Nat) (h : n ≤ 2097152) (w : World) : (Instr.makeSlice 52 (.int .i64 (n : Int)) (.int .i64 (n : Int))).run Try.prog w = .ok (.slice (some ⟨w.heap.size, 0, none⟩) n n) (w.alloc (.cells (madeCells #[.int .i64 0] n) 3)) :=
  run_make_row' 52 3 (.int .i64 0) 8 Try.underlying52 Try.info3 rfl .i64 .i64 n (by omega) (by omega) w

/-- The slice's first n cells hold the numbers f. -/
def IsInts (w : World) (a : Option Addr) (n : Nat) (f : Nat → Nat) : Prop := ∀ i, i < n → ∃ b off, a = some ⟨b, off, none⟩ ∧ w.cell? ⟨b, off + i, none⟩ = some (.int .i64 (f i))

/-- What zzNames leaves. -/
def NamesEnd (p : List UInt8) (w : World) (x : Ending) (w' : World) : Prop :=
  ∃ a1 a2, x = .returned (.tuple #[.slice a1 (mOf p) (mOf p), .slice a2 (mOf p) (mOf p)]) ∧ IsInts w' a1 (mOf p) (posOf p) ∧ IsInts w' a2 (mOf p) (fun k => nameEnd p (posOf p k)) ∧ Below w.heap.size w w'

theorem dot_data (t : ByteArray) : (t.toList == ([46] : List UInt8)) = decide (t.data.toList = [46]) := by
  rw [Lib.toList_data, Bool.eq_iff_iff]; simp

set_option maxRecDepth 100000 in
set_option maxHeartbeats 1000000 in
theorem names32 (t : ByteArray) (w : World) (ht : t.size ≤ 1048576) : Calls Try.prog 32 #[.string t] w (NamesEnd t.data.toList w) := by
  by_cases hdot : t.data.toList = [46]
  · have hd : (t.toList == ([46] : List UInt8)) = true := by rw [dot_data]; exact decide_eq_true hdot
    have e1 : mOf t.data.toList = 0 := by unfold mOf; rw [if_pos hdot]
    have E1 : Hid (mOf t.data.toList = 0) := e1
    clear e1 hdot
    go_enter Try.func32, Try.ntmps32
    go_wp2
    go_ret2
    refine ⟨none, none, by rw [E1.out]; rfl, fun i hi => ?_, fun i hi => ?_, Below.refl _ _⟩
    · rw [E1.out] at hi; omega
    · rw [E1.out] at hi; omega
  · have hd : (t.toList == ([46] : List UInt8)) = false := by rw [dot_data]; exact decide_eq_false hdot
    have E1 : Hid (mOf t.data.toList = cnt t.data.toList t.size + 1) := by rw [Lib.size_eq]; unfold mOf; rw [if_neg hdot]; rfl
    have E2 : Hid (posOf t.data.toList = startOf t.data.toList) := by
      show posOf t.data.toList = startOf t.data.toList
      funext k; unfold posOf; rw [if_neg hdot]
    have ET : Hid (t.size = t.data.toList.length) := Lib.size_eq t
    clear hdot
    go_enter Try.func32, Try.ntmps32
    go_wp2
    go_loop [4, 5] (fun c i => ∃ k q : Nat, k ≤ t.size ∧ i = .int .i64 k ∧ q ≤ k + 1 ∧ c = .int .i64 q ∧ Hid (q = cnt t.data.toList k + 1)) (fun _ i => t.size - (intOf i).toNat)
    case atStart => exact ⟨0, 1, Nat.zero_le _, rfl, by omega, rfl, rfl⟩
    case round =>
      obtain ⟨k, q, hk, rfl, hq, rfl, HQ⟩ := hrel
      by_cases hlt : k < t.size
      · by_cases h47 : t[k] = 47
        · have n47 : ((t[k].toNat : Int) == 47) = true := by rw [h47]; rfl
          have hb : Hid (t.data.toList[k]? = some 47) := by rw [byte_at t k hlt, h47]; rfl
          clear h47
          go_wp2
          go_round
          case rel => exact ⟨k + 1, q + 1, by omega, by go_num, by omega, by go_num, by show q + 1 = cnt t.data.toList (k + 1) + 1; rw [cnt, if_pos hb.out, HQ.out]⟩
          case measure => simp [intOf]; omega
        · have n47 : ((t[k].toNat : Int) == 47) = false := by
            rw [beq_eq_false_iff_ne]
            intro e
            exact h47 (UInt8.toNat_inj.1 (by show _ = 47; omega))
          have hb : Hid (t.data.toList[k]? ≠ some 47) := by
            show t.data.toList[k]? ≠ some 47
            rw [byte_at t k hlt]; simpa using h47
          clear h47
          go_wp2
          go_round
          case rel => exact ⟨k + 1, q, by omega, by go_num, by omega, rfl, by show q = cnt t.data.toList (k + 1) + 1; rw [cnt, if_neg hb.out, HQ.out]⟩
          case measure => simp [intOf]; omega
      · have hkn : k = t.size := by omega
        subst hkn
        have hmk := mk52 q (by omega)
        have hm0 : Hid (mOf t.data.toList = q) := by show mOf t.data.toList = q; rw [E1.out, HQ.out]
        clear hlt
        go_wp2
        go_loopw [6, 7, 8] (fun s x i wr => ∃ k c s0 : Nat, k ≤ t.size ∧ i = .int .i64 k ∧ c < q ∧ x = .int .i64 c ∧ s0 ≤ k ∧ s = .int .i64 s0 ∧ Hid (c = cnt t.data.toList k ∧ s0 = startOf t.data.toList c) ∧
            RowV wr w.heap.size 3 q c (fun j => .int .i64 (startOf t.data.toList j)) ∧ RowV wr (w.heap.size + 1) 3 q c (fun j => .int .i64 (nameEnd t.data.toList (startOf t.data.toList j))) ∧ Below w.heap.size w wr) (fun _ _ i _ => t.size - (intOf i).toNat)
        case atStart =>
          refine ⟨0, 0, 0, Nat.zero_le _, rfl, by rw [HQ.out]; omega, rfl, Nat.le_refl _, rfl, ⟨rfl, rfl⟩, (RowV.made w _ _ _ _).alloc _, ?_, ((Below.refl _ _).alloc (Nat.le_refl _) _).alloc (by simp) _⟩
          have := RowV.made (w.alloc (.cells (madeCells #[.int .i64 0] q) 3)) (.int .i64 0) 3 q (fun j => .int .i64 (nameEnd t.data.toList (startOf t.data.toList j)))
          rwa [show (w.alloc (.cells (madeCells #[.int .i64 0] q) 3)).heap.size = w.heap.size + 1 from by simp] at this
        case round =>
          obtain ⟨k, c, s0, hk2, rfl, hc, rfl, hs0, rfl, HCS, hR1, hR2, hbel⟩ := hrel
          obtain ⟨x1, hx1⟩ := hR1.some (j := c) hc
          obtain ⟨x2, hx2⟩ := hR2.some (j := c) hc
          have hf1 := hR1.free c
          have hf2 := hR2.free c
          by_cases hlt : k < t.size
          · by_cases h47 : t[k] = 47
            · have n47 : ((t[k].toNat : Int) == 47) = true := by rw [h47]; rfl
              have hb : Hid (t.data.toList[k]? = some 47) := by rw [byte_at t k hlt, h47]; rfl
              clear h47
              have hne : Hid (nameEnd t.data.toList (startOf t.data.toList c) = k) := by
                have := slash_here (by rw [← ET.out]; exact hlt) hb.out
                rw [← HCS.out.1] at this
                exact this
              have hcq : Hid (c + 1 < q) := by
                have h1 := cnt_mono t.data.toList (show k + 1 ≤ t.size from hlt)
                have h2 : cnt t.data.toList (k + 1) = cnt t.data.toList k + 1 := by rw [cnt, if_pos hb.out]
                have h3 := HQ.out
                have h4 := HCS.out.1
                show c + 1 < q
                omega
              go_wp2
              go_roundw
              case rel =>
                refine ⟨k + 1, c + 1, k + 1, by omega, by go_num, hcq.out, by go_num, Nat.le_refl _, by go_num, ⟨?_, ?_⟩, (hR1.put hc ?_).other (by simp) _, (hR2.other (by simp) _).put hc ?_, (hbel.setCell (Nat.le_refl _) _).setCell (by simp) _⟩
                · rw [cnt, if_pos hb.out, HCS.out.1]
                · rw [startOf, hne.out]
                · rw [← HCS.out.2]
                · rw [hne.out]
              case measure => simp [intOf]; omega
            · have n47 : ((t[k].toNat : Int) == 47) = false := by
                rw [beq_eq_false_iff_ne]
                intro e
                exact h47 (UInt8.toNat_inj.1 (by show _ = 47; omega))
              have hb : Hid (t.data.toList[k]? ≠ some 47) := by
                show t.data.toList[k]? ≠ some 47
                rw [byte_at t k hlt]; simpa using h47
              clear h47
              go_wp2
              go_roundw
              case rel => exact ⟨k + 1, c, s0, by omega, by go_num, hc, rfl, by omega, rfl, ⟨by rw [cnt, if_neg hb.out, Nat.add_zero]; exact HCS.out.1, HCS.out.2⟩, hR1, hR2, hbel⟩
              case measure => simp [intOf]; omega
          · have hkn : k = t.size := by omega
            have HKN : Hid (k = t.size) := hkn
            clear hkn
            have hcq : Hid (c + 1 = q) := by
              show c + 1 = q
              have h3 := HQ.out
              have h4 := HCS.out.1
              rw [HKN.out] at h4
              omega
            have hne : Hid (nameEnd t.data.toList (startOf t.data.toList c) = t.size) := by
              have := end_here t.data.toList
              rw [← ET.out] at this
              have h4 := HCS.out.1
              rw [HKN.out] at h4
              rw [← h4] at this
              exact this
            go_wp2
            go_ret2
            have hP1 := (hR1.put hc (x := .int .i64 s0) (by rw [← HCS.out.2])).other (a := ⟨w.heap.size + 1, c, none⟩) (by simp) (.int .i64 t.size)
            have hP2 := (hR2.other (a := ⟨w.heap.size, c, none⟩) (by simp) (.int .i64 s0)).put hc (x := .int .i64 t.size) (by rw [hne.out])
            refine ⟨some ⟨w.heap.size, 0, none⟩, some ⟨w.heap.size + 1, 0, none⟩, by rw [hm0.out]; rfl, fun i hi => ⟨_, _, rfl, ?_⟩, fun i hi => ⟨_, _, rfl, ?_⟩, (hbel.setCell (Nat.le_refl _) _).setCell (by simp) _⟩
            · rw [hm0.out, ← hcq.out] at hi
              rw [Nat.zero_add, E2.out]
              exact hP1.cell hi
            · rw [hm0.out, ← hcq.out] at hi
              rw [Nat.zero_add, E2.out]
              exact hP2.cell hi

end Go.Proofs.Qxb6602242a
