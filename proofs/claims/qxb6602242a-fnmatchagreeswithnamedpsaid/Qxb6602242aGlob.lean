/-
  zzGlob (25).
-/
import Derived.Test.Qxb6602242aStars
namespace Go.Proofs.Qxb6602242a
open Go.RowKit

theorem mk22 (n : Nat) (h : n ≤ 1048576) (w : World) : (Instr.makeSlice 22 (.int .i64 ((n : Int) + 1)) (.int .i64 ((n : Int) + 1))).run Try.prog w = .ok (.slice (some ⟨w.heap.size, 0, none⟩) (n + 1) (n + 1)) (w.alloc (.cells (madeCells #[.bool false] (n + 1)) 4)) := by
  have := run_make_row' 22 4 (.bool false) 1 Try.underlying22 Try.info4 rfl .i64 .i64 (n + 1) (by omega) (by omega) w
  rwa [show ((n + 1 : Nat) : Int) = (n : Int) + 1 from by omega] at this

/-- Block g is a row of N flags of which the first k are S's. -/
def Part (w : World) (g N k : Nat) (S : Nat → Bool) : Prop :=
  ∃ cur : Array Value, w.heap[g]? = some (.cells cur 4 (0, 0)) ∧ cur.size = N ∧ (∀ j, j < N → ∃ x : Bool, cur[j]? = some (.bool x)) ∧ ∀ j, j < k → cur[j]? = some (.bool (S j))

theorem Part.cell {w : World} {g N k : Nat} {S : Nat → Bool} (h : Part w g N k S) {j : Nat} (hj : j < k) : w.cell? ⟨g, j, none⟩ = some (.bool (S j)) := by
  obtain ⟨cur, h1, _, _, h4⟩ := h
  rw [cell_of_row _ _ _ _ _ _ h1]; exact h4 j hj
theorem Part.some {w : World} {g N k : Nat} {S : Nat → Bool} (h : Part w g N k S) {j : Nat} (hj : j < N) : ∃ x : Bool, w.cell? ⟨g, j, none⟩ = some (.bool x) := by
  obtain ⟨cur, h1, _, h3, _⟩ := h
  rw [cell_of_row _ _ _ _ _ _ h1]; exact h3 j hj
theorem Part.free {w : World} {g N k : Nat} {S : Nat → Bool} (h : Part w g N k S) (j : Nat) : w.frozen? ⟨g, j, none⟩ = false := by
  obtain ⟨cur, h1, _⟩ := h
  exact frozen_of_row _ _ _ _ _ h1
theorem Part.lt {w : World} {g N k : Nat} {S : Nat → Bool} (h : Part w g N k S) : g < w.heap.size := by
  obtain ⟨cur, h1, _⟩ := h
  by_cases hlt : g < w.heap.size
  · exact hlt
  · have hn : w.heap[g]? = none := by simp; omega
    rw [hn] at h1; cases h1
theorem Part.put {w : World} {g N k : Nat} {S : Nat → Bool} (h : Part w g N k S) (hk : k < N) {x : Bool} (hx : x = S k) : Part (w.setCell ⟨g, k, none⟩ (.bool x)) g N (k + 1) S := by
  obtain ⟨cur, h1, h2, h3, h4⟩ := h
  refine ⟨_, heap_setCell_same _ _ _ _ _ _ h1, by rw [Array.size_setIfInBounds]; exact h2, fun j hj => ?_, fun j hj => ?_⟩
  · rw [Array.getElem?_setIfInBounds]
    by_cases e : k = j
    · subst e; rw [if_pos rfl, if_pos (by omega)]; exact ⟨_, rfl⟩
    · rw [if_neg e]; exact h3 j hj
  · rw [Array.getElem?_setIfInBounds]
    by_cases e : k = j
    · subst e; rw [if_pos rfl, if_pos (by omega), hx]
    · rw [if_neg e]; exact h4 j (by omega)
theorem Part.other {w : World} {g N k : Nat} {S : Nat → Bool} (h : Part w g N k S) {a : Addr} (hg : g ≠ a.block) (v : Value) : Part (w.setCell a v) g N k S := by
  obtain ⟨cur, h1, h2⟩ := h
  exact ⟨cur, by rw [heap_setCell_other _ _ _ _ hg]; exact h1, h2⟩
theorem Part.zero {w : World} {g N k : Nat} {S : Nat → Bool} (h : Part w g N k S) (S' : Nat → Bool) : Part w g N 0 S' := by
  obtain ⟨cur, h1, h2, h3, _⟩ := h
  exact ⟨cur, h1, h2, h3, fun j hj => by omega⟩
theorem Part.same {w wx : World} {g N k : Nat} {S : Nat → Bool} (h : Part w g N k S) (e : wx.heap[g]? = w.heap[g]?) : Part wx g N k S := by
  obtain ⟨cur, h1, h2⟩ := h
  exact ⟨cur, by rw [e]; exact h1, h2⟩
theorem Part.made (w : World) (N : Nat) (S : Nat → Bool) : Part (w.alloc (.cells (madeCells #[.bool false] N) 4)) w.heap.size N 0 S := by
  refine ⟨_, heap_alloc_new _ _, by simp [madeCells], fun j hj => ⟨false, ?_⟩, fun j hj => by omega⟩
  rw [← Array.getElem?_toList, toList_madeCells_one, List.getElem?_replicate, if_pos hj]
theorem Part.alloc {w : World} {g N k : Nat} {S : Nat → Bool} (h : Part w g N k S) (o : Obj) : Part (w.alloc o) g N k S := h.same (Below.heap_alloc w o g h.lt)

theorem made_at (N j : Nat) (h : j < N) : (madeCells #[Value.bool false] N)[j]? = Option.some (Value.bool false) := by
  rw [← Array.getElem?_toList, toList_madeCells_one, List.getElem?_replicate, if_pos h]

/-- The first row, as it is laid: only nothing is read. -/
theorem Part.first (w : World) (N : Nat) : Part (w.alloc (.cells ((madeCells #[.bool false] N).setIfInBounds 0 (.bool true)) 4)) w.heap.size N N fun k => k == 0 := by
  have hget : ∀ j, j < N → ((madeCells #[Value.bool false] N).setIfInBounds 0 (.bool true))[j]? = Option.some (.bool (j == 0)) := by
    intro j hj
    rw [Array.getElem?_setIfInBounds]
    by_cases e : 0 = j
    · subst e; rw [if_pos rfl, if_pos (by simp [madeCells]; omega)]; rfl
    · rw [if_neg e, made_at N j hj]
      have : (j == 0) = false := by rw [beq_eq_false_iff_ne]; omega
      rw [this]
  exact ⟨_, heap_alloc_new _ _, by simp [madeCells], fun j hj => ⟨_, hget j hj⟩, hget⟩

theorem star_hit {S : Nat → Bool} {j : Nat} (h1 : 1 ≤ j) (h : S j = true) : true = starS S j := by
  obtain ⟨i, rfl⟩ : ∃ i, j = i + 1 := ⟨j - 1, by omega⟩
  rw [starS, h]; rfl
theorem star_miss {S : Nat → Bool} {j : Nat} (h1 : 1 ≤ j) (h : S j = false) : starS S (j - 1) = starS S j := by
  obtain ⟨i, rfl⟩ : ∃ i, j = i + 1 := ⟨j - 1, by omega⟩
  rw [starS, h]; simp
theorem lit_miss {nm : List UInt8} {c : UInt8} {S : Nat → Bool} {j : Nat} (h1 : 1 ≤ j) (h : S (j - 1) = false) : false = litS nm c S j := by
  obtain ⟨i, rfl⟩ : ∃ i, j = i + 1 := ⟨j - 1, by omega⟩
  rw [litS, show S i = false from h]; rfl
theorem byte_at (t : ByteArray) (k : Nat) (h : k < t.size) : t.data.toList[k]? = Option.some t[k] := by
  have h' : k < t.data.toList.length := by rw [← Lib.size_eq]; exact h
  rw [List.getElem?_eq_getElem h']
  rfl
theorem getD_byte (t : ByteArray) (k : Nat) (h : k < t.size) : t.data.toList.getD k 0 = t[k] := by rw [List.getD_eq_getElem?_getD, byte_at t k h]; rfl
theorem lit_hit {t u : ByteArray} {S : Nat → Bool} {j b : Nat} (h1 : 1 ≤ j) (hj : j - 1 < t.size) (hb : b < u.size) (h : S (j - 1) = true) : ((t[j - 1].toNat : Int) == (u[b].toNat : Int)) = litS t.data.toList (u.data.toList.getD b 0) S j := by
  obtain ⟨i, rfl⟩ : ∃ i, j = i + 1 := ⟨j - 1, by omega⟩
  rw [litS, show S i = true from h, Bool.true_and, getD_byte u b hb, byte_at t i hj, Bool.eq_iff_iff]
  simp only [Nat.add_sub_cancel, beq_iff_eq, Option.some.injEq]
  constructor
  · intro e; exact UInt8.toNat_inj.1 (by omega)
  · intro e; rw [e]

set_option maxRecDepth 100000 in
set_option maxHeartbeats 2000000 in
theorem glob25 (a : Option Addr) (len cap : Nat) (ss : List ByteArray) (t : ByteArray) (w : World) (hl : ss.length = len) (hlen : len ≤ 1048576) (ht : t.size ≤ 1048576)
    (hs : ∀ i, i < ss.length → (ss.getD i ByteArray.empty).size ≤ 1048576) (h : IsStrs w a ss) :
    Calls Try.prog 25 #[.slice a len cap, .string t] w (TestEnd (globB (texts ss) t.data.toList) w) := by
  have hmk := mk22 t.size ht
  have hm0 := made_at (t.size + 1) 0 (by omega)
  obtain ⟨v, hv⟩ : ∃ v, v = globB (texts ss) t.data.toList := ⟨_, rfl⟩
  rw [← hv]
  have HV : Hid (v = globB (texts ss) t.data.toList) := hv
  clear hv
  go_enter Try.func25, Try.ntmps25
  go_wp2
  go_loopw [6, 7, 8] (fun r c i wr => ∃ k g1 g2 : Nat, k ≤ len ∧ i = .int .i64 k ∧ r = .slice (some ⟨g1, 0, none⟩) (t.size + 1) (t.size + 1) ∧ c = .slice (some ⟨g2, 0, none⟩) (t.size + 1) (t.size + 1) ∧ g1 ≠ g2 ∧ w.heap.size ≤ g1 ∧ w.heap.size ≤ g2 ∧
      Part wr g1 (t.size + 1) (t.size + 1) (globT t.data.toList (texts ss) k) ∧ Part wr g2 (t.size + 1) 0 (fun _ => false) ∧ Below w.heap.size w wr) (fun _ _ i _ => len - (intOf i).toNat)
  case atStart =>
    refine ⟨0, w.heap.size, w.heap.size + 1, Nat.zero_le _, rfl, rfl, rfl, by omega, Nat.le_refl _, by omega, (Part.first w _).alloc _, ?_, ((Below.refl _ _).alloc (Nat.le_refl _) _).alloc (by simp) _⟩
    have := Part.made (w.alloc (.cells ((madeCells #[.bool false] (t.size + 1)).setIfInBounds 0 (.bool true)) 4)) (t.size + 1) (fun _ => false)
    rwa [show (w.alloc (.cells ((madeCells #[.bool false] (t.size + 1)).setIfInBounds 0 (.bool true)) 4)).heap.size = w.heap.size + 1 from by simp] at this
  case round =>
    obtain ⟨k, g1, g2, hk, rfl, rfl, rfl, hg12, hB1, hB2, hP1, hP2, hbel⟩ := hrel
    by_cases hlt : k < len
    · obtain ⟨b0, off0, rfl, hc0⟩ := h k (by omega)
      have hc := (hbel.cell (World.block_lt_of_cell? _ _ hc0)).trans hc0
      have hss := hs k (by omega)
      have hgk := texts_getD ss k (by omega)
      have hcb := World.block_lt_of_cell? _ _ hc0
      obtain ⟨u, hu⟩ : ∃ u, u = ss.getD k ByteArray.empty := ⟨_, rfl⟩
      rw [← hu] at hc hss hgk hc0
      have GU : Hid ((texts ss).getD k [] = u.data.toList) := hgk
      have HC0 : Hid (w.cell? ⟨b0, off0 + k, none⟩ = some (.string u)) := hc0
      clear hu hgk hc0
      by_cases hk0 : 0 < k
      · obtain ⟨x0, hx0⟩ := hP2.some (j := 0) (by omega)
        have hf0 := hP2.free 0
        have hr0 := hP1.cell (j := 0) (by omega)
        obtain ⟨s0, hs0⟩ : ∃ x, x = globT t.data.toList (texts ss) k 0 := ⟨_, rfl⟩
        rw [← hs0] at hr0
        have HS0 : Hid (s0 = globT t.data.toList (texts ss) k 0) := hs0
        clear hs0
        go_wp2
        go_loopw [9] (fun i wr => ∃ j : Nat, 1 ≤ j ∧ j ≤ t.size + 1 ∧ i = .int .i64 j ∧ Part wr g2 (t.size + 1) j (starS (globT t.data.toList (texts ss) k)) ∧ Part wr g1 (t.size + 1) (t.size + 1) (globT t.data.toList (texts ss) k) ∧ Below w.heap.size w wr) (fun i _ => t.size + 1 - (intOf i).toNat)
        case atStart => exact ⟨1, Nat.le_refl _, by omega, rfl, (hP2.zero _).put (by omega) HS0.out, hP1.other hg12 _, hbel.setCell hB2 _⟩
        case round =>
          clear hx0 hf0 hr0 hP1 hP2 hbel hc
          obtain ⟨j, hj1, hj2, rfl, hP2, hP1, hbel⟩ := hrel
          by_cases hjn : j ≤ t.size
          · have hcr := hP1.cell (j := j) (by omega)
            have hcp := hP2.cell (j := j - 1) (by omega)
            obtain ⟨x1, hx1⟩ := hP2.some (j := j) (by omega)
            have hf1 := hP2.free j
            cases hS : globT t.data.toList (texts ss) k j with
            | true =>
              rw [hS] at hcr
              have HSS : Hid (globT t.data.toList (texts ss) k j = true) := hS
              clear hS hcp
              go_wp2
              go_roundw
              case rel => exact ⟨j + 1, by omega, by omega, by go_num, hP2.put (by omega) (star_hit hj1 HSS.out), hP1.other hg12 _, hbel.setCell hB2 _⟩
              case measure => simp [intOf]; omega
            | false =>
              rw [hS] at hcr
              have HSS : Hid (globT t.data.toList (texts ss) k j = false) := hS
              clear hS
              obtain ⟨s1, hs1⟩ : ∃ x, x = starS (globT t.data.toList (texts ss) k) (j - 1) := ⟨_, rfl⟩
              rw [← hs1] at hcp
              have HS1 : Hid (s1 = starS (globT t.data.toList (texts ss) k) (j - 1)) := hs1
              clear hs1
              go_wp2
              go_roundw
              case rel => exact ⟨j + 1, by omega, by omega, by go_num, hP2.put (by omega) (HS1.out.trans (star_miss hj1 HSS.out)), hP1.other hg12 _, hbel.setCell hB2 _⟩
              case measure => simp [intOf]; omega
          · have ej : j = t.size + 1 := by omega
            have hPn : Part wr g2 (t.size + 1) (t.size + 1) (starS (globT t.data.toList (texts ss) k)) := by rw [ej] at hP2; exact hP2
            clear hP2 ej
            have hc := (hbel.cell hcb).trans HC0.out
            go_wp2
            go_loopw [6, 7, 11] (fun r c i wr => ∃ b r1 c1 : Nat, b ≤ u.size ∧ i = .int .i64 b ∧ r = .slice (some ⟨r1, 0, none⟩) (t.size + 1) (t.size + 1) ∧ c = .slice (some ⟨c1, 0, none⟩) (t.size + 1) (t.size + 1) ∧ r1 ≠ c1 ∧ w.heap.size ≤ r1 ∧ w.heap.size ≤ c1 ∧
                Part wr r1 (t.size + 1) (t.size + 1) (litsT t.data.toList u.data.toList (starS (globT t.data.toList (texts ss) k)) b) ∧ Part wr c1 (t.size + 1) 0 (fun _ => false) ∧ Below w.heap.size w wr) (fun _ _ i _ => u.size - (intOf i).toNat)
            case atStart => exact ⟨0, g2, g1, Nat.zero_le _, rfl, rfl, rfl, Ne.symm hg12, hB2, hB1, hPn, hP1.zero _, hbel⟩
            case round =>
              clear hPn hP1 hbel
              obtain ⟨b, r1, c1, hb, rfl, rfl, rfl, hrc, hR1, hC1, hPr, hPc, hbel⟩ := hrel
              by_cases hbl : b < u.size
              · obtain ⟨x0, hx0⟩ := hPc.some (j := 0) (by omega)
                have hf0 := hPc.free 0
                have hbi : (b : Int) < (u.size : Int) := by omega
                go_wp2
                go_loopw [13] (fun i wr => ∃ j : Nat, 1 ≤ j ∧ j ≤ t.size + 1 ∧ i = .int .i64 j ∧ Part wr c1 (t.size + 1) j (litS t.data.toList (u.data.toList.getD b 0) (litsT t.data.toList u.data.toList (starS (globT t.data.toList (texts ss) k)) b)) ∧ Part wr r1 (t.size + 1) (t.size + 1) (litsT t.data.toList u.data.toList (starS (globT t.data.toList (texts ss) k)) b) ∧ Below w.heap.size w wr) (fun i _ => t.size + 1 - (intOf i).toNat)
                case atStart => exact ⟨1, Nat.le_refl _, by omega, rfl, (hPc.zero _).put (by omega) rfl, hPr.other hrc _, hbel.setCell hC1 _⟩
                case round =>
                  clear hx0 hf0 hPr hPc hbel
                  obtain ⟨j, hj1, hj2, rfl, hPc, hPr, hbel⟩ := hrel
                  by_cases hjn : j ≤ t.size
                  · have hcr := hPr.cell (j := j - 1) (by omega)
                    obtain ⟨x1, hx1⟩ := hPc.some (j := j) (by omega)
                    have hf1 := hPc.free j
                    have hti : j - 1 < t.size := by omega
                    cases hS : litsT t.data.toList u.data.toList (starS (globT t.data.toList (texts ss) k)) b (j - 1) with
                    | true =>
                      rw [hS] at hcr
                      have HLT : Hid (litsT t.data.toList u.data.toList (starS (globT t.data.toList (texts ss) k)) b (j - 1) = true) := hS
                      clear hS
                      go_wp2
                      go_roundw
                      case rel => exact ⟨j + 1, by omega, by omega, by go_num, hPc.put (by omega) (lit_hit hj1 hti hbl HLT.out), hPr.other hrc _, hbel.setCell hC1 _⟩
                      case measure => simp [intOf]; omega
                    | false =>
                      rw [hS] at hcr
                      have HLT : Hid (litsT t.data.toList u.data.toList (starS (globT t.data.toList (texts ss) k)) b (j - 1) = false) := hS
                      clear hS
                      go_wp2
                      go_roundw
                      case rel => exact ⟨j + 1, by omega, by omega, by go_num, hPc.put (by omega) (lit_miss hj1 HLT.out), hPr.other hrc _, hbel.setCell hC1 _⟩
                      case measure => simp [intOf]; omega
                  · have ej : j = t.size + 1 := by omega
                    rw [ej] at hPc
                    clear ej
                    go_wp2
                    go_roundw
                    case rel => exact ⟨b + 1, c1, r1, by omega, by go_num, rfl, rfl, Ne.symm hrc, hC1, hR1, hPc, hPr.zero _, hbel⟩
                    case measure => simp [intOf]; omega
              · have eb : b = u.data.toList.length := by rw [← Lib.size_eq]; omega
                have EB : Hid (b = u.data.toList.length) := eb
                clear eb
                go_wp2
                go_roundw
                case rel =>
                  refine ⟨k + 1, r1, c1, by omega, by go_num, rfl, rfl, hrc, hR1, hC1, ?_, hPc, hbel⟩
                  rw [globT, if_pos hk0, GU.out, ← EB.out]
                  exact hPr
                case measure => simp [intOf]; omega
      · go_wp2
        go_loopw [6, 7, 11] (fun r c i wr => ∃ b r1 c1 : Nat, b ≤ u.size ∧ i = .int .i64 b ∧ r = .slice (some ⟨r1, 0, none⟩) (t.size + 1) (t.size + 1) ∧ c = .slice (some ⟨c1, 0, none⟩) (t.size + 1) (t.size + 1) ∧ r1 ≠ c1 ∧ w.heap.size ≤ r1 ∧ w.heap.size ≤ c1 ∧
            Part wr r1 (t.size + 1) (t.size + 1) (litsT t.data.toList u.data.toList (globT t.data.toList (texts ss) k) b) ∧ Part wr c1 (t.size + 1) 0 (fun _ => false) ∧ Below w.heap.size w wr) (fun _ _ i _ => u.size - (intOf i).toNat)
        case atStart => exact ⟨0, g1, g2, Nat.zero_le _, rfl, rfl, rfl, hg12, hB1, hB2, hP1, hP2, hbel⟩
        case round =>
          clear hP1 hP2 hbel hc
          obtain ⟨b, r1, c1, hb, rfl, rfl, rfl, hrc, hR1, hC1, hPr, hPc, hbel⟩ := hrel
          by_cases hbl : b < u.size
          · obtain ⟨x0, hx0⟩ := hPc.some (j := 0) (by omega)
            have hf0 := hPc.free 0
            have hbi : (b : Int) < (u.size : Int) := by omega
            go_wp2
            go_loopw [13] (fun i wr => ∃ j : Nat, 1 ≤ j ∧ j ≤ t.size + 1 ∧ i = .int .i64 j ∧ Part wr c1 (t.size + 1) j (litS t.data.toList (u.data.toList.getD b 0) (litsT t.data.toList u.data.toList (globT t.data.toList (texts ss) k) b)) ∧ Part wr r1 (t.size + 1) (t.size + 1) (litsT t.data.toList u.data.toList (globT t.data.toList (texts ss) k) b) ∧ Below w.heap.size w wr) (fun i _ => t.size + 1 - (intOf i).toNat)
            case atStart => exact ⟨1, Nat.le_refl _, by omega, rfl, (hPc.zero _).put (by omega) rfl, hPr.other hrc _, hbel.setCell hC1 _⟩
            case round =>
              clear hx0 hf0 hPr hPc hbel
              obtain ⟨j, hj1, hj2, rfl, hPc, hPr, hbel⟩ := hrel
              by_cases hjn : j ≤ t.size
              · have hcr := hPr.cell (j := j - 1) (by omega)
                obtain ⟨x1, hx1⟩ := hPc.some (j := j) (by omega)
                have hf1 := hPc.free j
                have hti : j - 1 < t.size := by omega
                cases hS : litsT t.data.toList u.data.toList (globT t.data.toList (texts ss) k) b (j - 1) with
                | true =>
                  rw [hS] at hcr
                  have HLT : Hid (litsT t.data.toList u.data.toList (globT t.data.toList (texts ss) k) b (j - 1) = true) := hS
                  clear hS
                  go_wp2
                  go_roundw
                  case rel => exact ⟨j + 1, by omega, by omega, by go_num, hPc.put (by omega) (lit_hit hj1 hti hbl HLT.out), hPr.other hrc _, hbel.setCell hC1 _⟩
                  case measure => simp [intOf]; omega
                | false =>
                  rw [hS] at hcr
                  have HLT : Hid (litsT t.data.toList u.data.toList (globT t.data.toList (texts ss) k) b (j - 1) = false) := hS
                  clear hS
                  go_wp2
                  go_roundw
                  case rel => exact ⟨j + 1, by omega, by omega, by go_num, hPc.put (by omega) (lit_miss hj1 HLT.out), hPr.other hrc _, hbel.setCell hC1 _⟩
                  case measure => simp [intOf]; omega
              · have ej : j = t.size + 1 := by omega
                rw [ej] at hPc
                clear ej
                go_wp2
                go_roundw
                case rel => exact ⟨b + 1, c1, r1, by omega, by go_num, rfl, rfl, Ne.symm hrc, hC1, hR1, hPc, hPr.zero _, hbel⟩
                case measure => simp [intOf]; omega
          · have eb : b = u.data.toList.length := by rw [← Lib.size_eq]; omega
            have EB : Hid (b = u.data.toList.length) := eb
            clear eb
            go_wp2
            go_roundw
            case rel =>
              refine ⟨k + 1, r1, c1, by omega, by go_num, rfl, rfl, hrc, hR1, hC1, ?_, hPc, hbel⟩
              rw [globT, if_neg (by omega), GU.out, ← EB.out]
              exact hPr
            case measure => simp [intOf]; omega
    · have hck := hP1.cell (j := t.size) (by omega)
      have ek : k = (texts ss).length := by rw [texts_length]; omega
      have EK : Hid (k = (texts ss).length) := ek
      have ET : Hid (t.size = t.data.toList.length) := Lib.size_eq t
      obtain ⟨x, hx⟩ : ∃ x, x = globT t.data.toList (texts ss) k t.size := ⟨_, rfl⟩
      rw [← hx] at hck
      have HX : Hid (x = globT t.data.toList (texts ss) k t.size) := hx
      clear ek hx
      go_wp2
      go_ret
      refine ⟨?_, hbel⟩
      rw [HV.out]
      unfold globB
      rw [← EK.out, ← ET.out, ← HX.out]
      rfl

end Go.Proofs.Qxb6602242a
