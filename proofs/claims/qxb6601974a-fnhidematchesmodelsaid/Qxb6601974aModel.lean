/-
  zzModelCovered (15): the brute force.
-/
import Derived.Test.Qxb6601974aClone
import Derived.Test.Qxb6601974aPlain
import Derived.WalkSmall
namespace Go.Proofs.Qxb6601974a
open Go.RowKit

theorem eq27 (w : World) (a : Option Addr) (n c : Nat) : (binOp .eql 27 (.slice a n c) (.slice none 0 0)).run Try.prog w = .ok (.bool a.isNone) w := Lib.run_eql_slice_nil w 27 4 a n c 0 0 Try.underlying27
theorem mk27 (n : Nat) (h : n ≤ 1048576) (w : World) : (Instr.makeSlice 27 (.int .i64 (n : Int)) (.int .i64 (n : Int))).run Try.prog w = .ok (.slice (some ⟨w.heap.size, 0, none⟩) n n) (w.alloc (.cells (madeCells #[.bool false] n) 4)) :=
  run_make_row' 27 4 (.bool false) 1 Try.underlying27 Try.info4 rfl .i64 .i64 n (by omega) (by omega) w

/-- A row of flags in a block of its own. -/
def Flags (w : World) (g : Nat) (bs : List Bool) : Prop := w.heap[g]? = some (.cells (bs.map Value.bool).toArray 4 (0, 0))

/-- The slice of flags that the call has made: nil, or a row from block B on. -/
def IsBools (B : Nat) (w : World) (v : Value) : Option (List Bool) → Prop
  | none => v = .slice none 0 0
  | some bs => ∃ g, B ≤ g ∧ v = .slice (some ⟨g, 0, none⟩) bs.length bs.length ∧ Flags w g bs

theorem Flags.cell {w : World} {g : Nat} {bs : List Bool} (h : Flags w g bs) {j : Nat} (hj : j < bs.length) : w.cell? ⟨g, j, none⟩ = some (.bool (bs.getD j false)) := by
  rw [cell_of_row _ _ _ _ _ _ h]
  simp [hj]
theorem Flags.free {w : World} {g : Nat} {bs : List Bool} (h : Flags w g bs) (j : Nat) : w.frozen? ⟨g, j, none⟩ = false := frozen_of_row _ _ _ _ _ h
theorem Flags.set {w : World} {g : Nat} {bs : List Bool} (h : Flags w g bs) (j : Nat) (b : Bool) : Flags (w.setCell ⟨g, j, none⟩ (.bool b)) g (bs.set j b) := by
  have := heap_setCell_same _ _ j _ _ (.bool b) h
  unfold Flags
  rw [this]
  simp [List.map_set]
theorem Flags.made (w : World) (n : Nat) : Flags (w.alloc (.cells (madeCells #[.bool false] n) 4)) w.heap.size (List.replicate n false) := by
  unfold Flags
  rw [heap_alloc_new]
  congr 1
  congr 1
  apply Array.toList_inj.1
  rw [toList_madeCells_one]
  simp
theorem Flags.drewN {w : World} {g : Nat} {bs : List Bool} (h : Flags w g bs) (n : Nat) : Flags (w.drewN n) g bs := by
  unfold Flags at *
  rw [← h]; rfl

theorem at26_is (t u : ByteArray) (s : Nat) (v : Bool) (w : World) (ht : t.size ≤ 1048576) (hu : u.size ≤ 1048576) (hs : s ≤ t.size) (hv : Lib.occAt t.data.toList u.data.toList s = v) :
    Calls Try.prog 26 #[.string t, .int .i64 s, .string u] w (ReadEnd (.bool v) w) := by
  subst hv; exact at26 t u s w ht hu hs

def texts (ss : List ByteArray) : List (List UInt8) := ss.map fun s => s.data.toList
theorem texts_at (ss : List ByteArray) (k : Nat) (h : k < ss.length) : (texts ss)[k]? = some (ss.getD k ByteArray.empty).data.toList := by
  simp [texts, h]

/-- What the two coverings leave. -/
def CovEnd (t : ByteArray) (ss : List ByteArray) (w : World) (e : Ending) (w' : World) : Prop := ∃ v o, e = .returned v ∧ IsBools w.heap.size w' v o ∧ Cov t.size (Occs t.data.toList (texts ss)) o ∧ Below w.heap.size w w'

set_option maxHeartbeats 1000000 in
theorem model15 (a : Option Addr) (len cap : Nat) (ss : List ByteArray) (t : ByteArray) (w : World) (hl : ss.length = len) (hlen : len ≤ 1048576) (ht : t.size ≤ 1048576)
    (hs : ∀ i, i < ss.length → (ss.getD i ByteArray.empty).size ≤ 1048576) (hne : ∀ i, i < ss.length → 0 < (ss.getD i ByteArray.empty).size) (h : IsStrs w a ss) :
    Calls Try.prog 15 #[.slice a len cap, .string t] w (CovEnd t ss w) := by
  have q := eq27
  have hmk := mk27 t.size ht
  go_enter Try.func15, Try.ntmps15
  go_wp2
  go_loopw [5, 6] (fun v i wr => ∃ (k : Nat) (o : Option (List Bool)), k ≤ t.size ∧ i = .int .i64 k ∧ IsBools w.heap.size wr v o ∧ Hid (Cov t.size (Tried t.data.toList (texts ss) k 0) o) ∧ Below w.heap.size w wr) (fun _ i _ => t.size - (intOf i).toNat)
  case atStart => exact ⟨0, none, Nat.zero_le _, rfl, rfl, fun s m => tried_none _ _ s m, Below.refl _ _⟩
  case round =>
    obtain ⟨s0, o, hk, rfl, hO, hC, hbel⟩ := hrel
    by_cases hlt : s0 < t.size
    · go_wp2
      go_loopw [5, 7] (fun v i wr => ∃ (k : Nat) (o : Option (List Bool)), k ≤ len ∧ i = .int .i64 k ∧ IsBools w.heap.size wr v o ∧ Hid (Cov t.size (Tried t.data.toList (texts ss) s0 k) o) ∧ Below w.heap.size w wr) (fun _ i _ => len - (intOf i).toNat)
      case atStart => exact ⟨0, o, Nat.zero_le _, rfl, hO, hC, hbel⟩
      case round =>
        clear hO hC hbel
        obtain ⟨k, o, hk, rfl, hO, hC, hbel⟩ := hrel
        by_cases hkl : k < len
        · obtain ⟨b, off, rfl, hc0⟩ := h k (by omega)
          have hc := (hbel.cell (World.block_lt_of_cell? _ _ hc0)).trans hc0
          have hss := hs k (by omega)
          have hta := texts_at ss k (by omega)
          obtain ⟨u, hue⟩ : ∃ u, u = ss.getD k ByteArray.empty := ⟨_, rfl⟩
          rw [← hue] at hc hss hta
          have HT : Hid ((texts ss)[k]? = some u.data.toList) := hta
          clear hue hc0 hta
          by_cases ho0 : Lib.occAt t.data.toList u.data.toList s0 = true
          · have ho : Hid (Lib.occAt t.data.toList u.data.toList s0 = true) := ho0
            clear ho0
            have hroom : s0 + u.size ≤ t.size := by
              have e1 := Lib.size_eq t
              have e2 := Lib.size_eq u
              rcases Lib.occAt_room ho.out with h | h
              · omega
              · rw [e2, h]; simp; omega
            have hR : ∀ o', o' = some (markN (o.getD (List.replicate t.size false)) s0 u.size) → Cov t.size (Tried t.data.toList (texts ss) s0 (k + 1)) o' := by
              intro o' e
              subst e
              rw [Lib.size_eq u]
              exact hC.out.add fun s m => tried_hit HT.out ho.out s m
            cases o with
            | none =>
              have hv : u5 = .slice none 0 0 := hO
              subst hv
              go_wp2_with (go_at_call 26; refine (at26_is t u s0 true _ ht hss (Nat.le_of_lt hlt) ho.out).mono ?_; rintro e w' ⟨rfl, n, rfl⟩)
              go_loopw [9] (fun i w3 => ∃ j : Nat, j ≤ u.size ∧ i = .int .i64 j ∧ Flags w3 wr.heap.size (markN (List.replicate t.size false) s0 j) ∧ Below w.heap.size w w3) (fun i _ => u.size - (intOf i).toNat)
              case atStart => exact ⟨0, Nat.zero_le _, rfl, Flags.made _ _, below_drewN (hbel.alloc hbel.size _) n⟩
              case round =>
                obtain ⟨j, hj, rfl, hF, hbel3⟩ := hrel
                by_cases hju : j < u.size
                · have hcell := hF.cell (j := s0 + j) (by rw [markN_length, List.length_replicate]; omega)
                  have hfree := hF.free (s0 + j)
                  go_wp2
                  go_roundw
                  case rel => exact ⟨j + 1, by omega, by go_num, hF.set (s0 + j) true, hbel3.setCell hbel.size _⟩
                  case measure => simp [intOf]; omega
                · have hju' : j = u.size := by omega
                  have HJ : Hid (j = u.size) := hju'
                  clear hju'
                  go_wp2
                  go_roundw
                  case rel => exact ⟨k + 1, some (markN (List.replicate t.size false) s0 u.size), by omega, by go_num, ⟨_, hbel.size, by rw [markN_length, List.length_replicate], by rw [← HJ.out]; exact hF⟩, hR _ rfl, hbel3⟩
                  case measure => simp [intOf]; omega
            | some bs =>
              obtain ⟨g, hge, hv, hF⟩ := hO
              subst hv
              have hbl : bs.length = t.size := hC.out.1
              rw [hbl]
              go_wp2_with (go_at_call 26; refine (at26_is t u s0 true _ ht hss (Nat.le_of_lt hlt) ho.out).mono ?_; rintro e w' ⟨rfl, n, rfl⟩)
              go_loopw [9] (fun i w3 => ∃ j : Nat, j ≤ u.size ∧ i = .int .i64 j ∧ Flags w3 g (markN (bs) s0 j) ∧ Below w.heap.size w w3) (fun i _ => u.size - (intOf i).toNat)
              case atStart => exact ⟨0, Nat.zero_le _, rfl, hF.drewN n, below_drewN hbel n⟩
              case round =>
                clear hF
                obtain ⟨j, hj, rfl, hF, hbel3⟩ := hrel
                by_cases hju : j < u.size
                · have hcell := hF.cell (j := s0 + j) (by rw [markN_length]; omega)
                  have hfree := hF.free (s0 + j)
                  go_wp2
                  go_roundw
                  case rel => exact ⟨j + 1, by omega, by go_num, hF.set (s0 + j) true, hbel3.setCell hge _⟩
                  case measure => simp [intOf]; omega
                · have hju' : j = u.size := by omega
                  have HJ : Hid (j = u.size) := hju'
                  clear hju'
                  go_wp2
                  go_roundw
                  case rel => exact ⟨k + 1, some (markN (bs) s0 u.size), by omega, by go_num, ⟨g, hge, by rw [markN_length, hbl], by rw [← HJ.out]; exact hF⟩, hR _ rfl, hbel3⟩
                  case measure => simp [intOf]; omega
          · have ho : Hid (Lib.occAt t.data.toList u.data.toList s0 = false) := Bool.eq_false_iff.2 ho0
            clear ho0
            go_wp2_with (go_at_call 26; refine (at26_is t u s0 false _ ht hss (Nat.le_of_lt hlt) ho.out).mono ?_; rintro e w' ⟨rfl, n, rfl⟩)
            go_roundw
            case rel =>
              refine ⟨k + 1, o, by omega, by go_num, ?_, hC.out.same fun s m => tried_miss HT.out ho.out s m, below_drewN hbel n⟩
              cases o with
              | none => exact hO
              | some bs => obtain ⟨g, hge, hv, hF⟩ := hO; exact ⟨g, hge, hv, hF.drewN n⟩
            case measure => simp [intOf]; omega
        · go_wp2
          go_roundw
          case rel => exact ⟨s0 + 1, o, by omega, by go_num, hO, hC.out.same fun s m => tried_next (by simp [texts]; omega) s m, hbel⟩
          case measure => simp [intOf]; omega
    · go_wp2
      go_ret
      refine ⟨_, o, rfl, hO, hC.out.same fun s m => ?_, hbel⟩
      have : s0 = t.size := by omega
      subst this
      refine tried_all (by rw [← Lib.size_eq]; omega) ?_ s m
      intro u hu
      obtain ⟨x, hx, rfl⟩ := List.mem_map.1 hu
      obtain ⟨i, hi, rfl⟩ := List.getElem_of_mem hx
      have := hne i hi
      have e : ss.getD i ByteArray.empty = ss[i] := by simp [hi]
      rw [e, Lib.size_eq] at this
      exact List.length_pos_iff.1 this

end Go.Proofs.Qxb6601974a
