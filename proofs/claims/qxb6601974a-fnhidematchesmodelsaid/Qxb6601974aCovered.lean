/-
  covered (25) and ZZCovered (12).
-/
import Derived.Test.Qxb6601974aSame
namespace Go.Proofs.Qxb6601974a
open Go.RowKit

/-- What is asked of strings.Index (31), in every world that has come out of w. -/
def IdxOk (w : World) : Prop := ∀ (s sub : ByteArray) (wx : World), s.size ≤ 1048576 → Below w.heap.size w wx →
  Calls Try.prog 31 #[.string s, .string sub] wx fun e w' => e = .returned (.int .i64 (Lib.index s.data.toList sub.data.toList)) ∧ wx = w'

theorem idx31 {w wx : World} (H : IdxOk w) (t u : ByteArray) (a : Nat) (i : Int) (ht : t.size ≤ 1048576) (hb : Below w.heap.size w wx) (hi : Lib.index (t.data.toList.drop a) u.data.toList = i) :
    Calls Try.prog 31 #[.string (t.extract a t.size), .string u] wx fun e w' => e = .returned (.int .i64 i) ∧ wx = w' := by
  have e : (t.extract a t.size).data.toList = t.data.toList.drop a := by
    rw [Lib.extract_data, List.take_of_length_le]
    rw [List.length_drop, ← Lib.size_eq]; omega
  rw [← hi, ← e]
  exact H _ _ _ (by rw [ByteArray.size_extract]; omega) hb

set_option maxHeartbeats 1000000 in
theorem covered25 (a : Option Addr) (len cap : Nat) (ss : List ByteArray) (t : ByteArray) (w : World) (hl : ss.length = len) (hlen : len ≤ 1048576) (ht : t.size ≤ 1048576)
    (hs : ∀ i, i < ss.length → (ss.getD i ByteArray.empty).size ≤ 1048576) (hne : ∀ i, i < ss.length → 0 < (ss.getD i ByteArray.empty).size) (h : IsStrs w a ss) (hidx : IdxOk w) :
    Calls Try.prog 25 #[.agg #[.slice a len cap], .string t] w (CovEnd t ss w) := by
  have q := eq27
  have hmk := mk27 t.size ht
  go_enter Try.func25, Try.ntmps25
  go_wp2
  go_loopw [5, 14] (fun v i wr => ∃ (k : Nat) (o : Option (List Bool)), k ≤ len ∧ i = .int .i64 k ∧ IsBools w.heap.size wr v o ∧ Hid (Cov t.size (Seen t.data.toList (texts ss) k 0) o) ∧ Below w.heap.size w wr) (fun _ i _ => len - (intOf i).toNat)
  case atStart => exact ⟨0, none, Nat.zero_le _, rfl, rfl, fun s m => seen_none _ _ s m, (Below.refl _ _).alloc (Nat.le_refl _) _⟩
  case round =>
    obtain ⟨k, o, hk, rfl, hO, hC, hbel⟩ := hrel
    by_cases hkl : k < len
    · obtain ⟨b, off, rfl, hc0⟩ := h k (by omega)
      have hc := (hbel.cell (World.block_lt_of_cell? _ _ hc0)).trans hc0
      have hss := hs k (by omega)
      have hpos := hne k (by omega)
      have hta := texts_at ss k (by omega)
      obtain ⟨u, hue⟩ : ∃ u, u = ss.getD k ByteArray.empty := ⟨_, rfl⟩
      rw [← hue] at hc hss hta hpos
      have HT : Hid ((texts ss)[k]? = some u.data.toList) := hta
      clear hue hc0 hta
      go_wp2
      go_loopw [5, 8] (fun v i wr => ∃ (p : Nat) (o : Option (List Bool)), p ≤ t.size ∧ i = .int .i64 p ∧ IsBools w.heap.size wr v o ∧ Hid (Cov t.size (Seen t.data.toList (texts ss) k p) o) ∧ Below w.heap.size w wr) (fun _ i _ => t.size + 1 - (intOf i).toNat)
      case atStart => exact ⟨0, o, Nat.zero_le _, rfl, hO, hC, hbel⟩
      case round =>
        clear hO hC hbel hc
        obtain ⟨p, o, hp, rfl, hO, hC, hbel⟩ := hrel
        have hne' : u.data.toList ≠ [] := by
          intro e; rw [Lib.size_eq, e] at hpos; simp at hpos
        rcases index_from t.data.toList u.data.toList p (by rw [← Lib.size_eq]; exact hp) hne' with ⟨e0, hn0⟩ | ⟨i, e0, hr0, ho0, hn0⟩
        · have HI : Hid (Lib.index (t.data.toList.drop p) u.data.toList = -1) := e0
          have HN : Hid (∀ j, p ≤ j → Lib.occAt t.data.toList u.data.toList j = false) := hn0
          clear e0 hn0 hne'
          go_wp2_with (go_at_call 31; refine (idx31 hidx t u p (-1) ht hbel HI.out).mono ?_; rintro e w' ⟨rfl, rfl⟩)
          go_roundw
          case rel => exact ⟨k + 1, o, by omega, by go_num, hO, hC.out.same fun s m => seen_out HT.out HN.out s m, hbel⟩
          case measure => simp [intOf]; omega
        · have HI : Hid (Lib.index (t.data.toList.drop p) u.data.toList = (i : Int)) := e0
          have hroom : p + i + u.size ≤ t.size := by rw [Lib.size_eq t, Lib.size_eq u]; exact hr0
          have hR : ∀ o', o' = some (markN (o.getD (List.replicate t.size false)) (p + i) u.size) → Cov t.size (Seen t.data.toList (texts ss) k (p + i + 1)) o' := by
            intro o' e
            subst e
            rw [Lib.size_eq u]
            exact hC.out.add fun s m => seen_hit HT.out ho0 hn0 s m
          clear e0 hr0 ho0 hn0 hne'
          cases o with
          | none =>
            have hv : u5 = .slice none 0 0 := hO
            subst hv
            go_wp2_with (go_at_call 31; refine (idx31 hidx t u p i ht hbel HI.out).mono ?_; rintro e w' ⟨rfl, rfl⟩)
            go_loopw [37] (fun i37 w3 => ∃ j : Nat, j ≤ u.size ∧ i37 = .int .i64 j ∧ Flags w3 wr.heap.size (markN (List.replicate t.size false) (p + i) j) ∧ Below w.heap.size w w3) (fun i37 _ => u.size - (intOf i37).toNat)
            case atStart => exact ⟨0, Nat.zero_le _, rfl, Flags.made _ _, hbel.alloc hbel.size _⟩
            case round =>
              obtain ⟨j, hj, rfl, hF, hbel3⟩ := hrel
              by_cases hju : j < u.size
              · have hcell := hF.cell (j := p + i + j) (by rw [markN_length, List.length_replicate]; omega)
                have hfree := hF.free (p + i + j)
                go_wp2
                go_roundw
                case rel => exact ⟨j + 1, by omega, by go_num, hF.set (p + i + j) true, hbel3.setCell hbel.size _⟩
                case measure => simp [intOf]; omega
              · have hju' : j = u.size := by omega
                have HJ : Hid (j = u.size) := hju'
                clear hju'
                go_wp2
                go_roundw
                case rel => exact ⟨p + i + 1, some (markN (List.replicate t.size false) (p + i) u.size), by omega, by go_num, ⟨_, hbel.size, by rw [markN_length, List.length_replicate], by rw [← HJ.out]; exact hF⟩, hR _ rfl, hbel3⟩
                case measure => simp [intOf]; omega
          | some bs =>
            obtain ⟨g, hge, hv, hF⟩ := hO
            subst hv
            have hbl : bs.length = t.size := hC.out.1
            rw [hbl]
            go_wp2_with (go_at_call 31; refine (idx31 hidx t u p i ht hbel HI.out).mono ?_; rintro e w' ⟨rfl, rfl⟩)
            go_loopw [37] (fun i37 w3 => ∃ j : Nat, j ≤ u.size ∧ i37 = .int .i64 j ∧ Flags w3 g (markN (bs) (p + i) j) ∧ Below w.heap.size w w3) (fun i37 _ => u.size - (intOf i37).toNat)
            case atStart => exact ⟨0, Nat.zero_le _, rfl, hF, hbel⟩
            case round =>
              clear hF
              obtain ⟨j, hj, rfl, hF, hbel3⟩ := hrel
              by_cases hju : j < u.size
              · have hcell := hF.cell (j := p + i + j) (by rw [markN_length]; omega)
                have hfree := hF.free (p + i + j)
                go_wp2
                go_roundw
                case rel => exact ⟨j + 1, by omega, by go_num, hF.set (p + i + j) true, hbel3.setCell hge _⟩
                case measure => simp [intOf]; omega
              · have hju' : j = u.size := by omega
                have HJ : Hid (j = u.size) := hju'
                clear hju'
                go_wp2
                go_roundw
                case rel => exact ⟨p + i + 1, some (markN (bs) (p + i) u.size), by omega, by go_num, ⟨_, hge, by rw [markN_length, hbl], by rw [← HJ.out]; exact hF⟩, hR _ rfl, hbel3⟩
                case measure => simp [intOf]; omega
    · go_wp2
      go_ret
      exact ⟨_, o, rfl, hO, hC.out.same fun s m => seen_all (by simp [texts]; omega) s m, hbel⟩

theorem covered12 (a : Option Addr) (len cap : Nat) (ss : List ByteArray) (t : ByteArray) (w : World) (hl : ss.length = len) (hlen : len ≤ 1048576) (ht : t.size ≤ 1048576)
    (hs : ∀ i, i < ss.length → (ss.getD i ByteArray.empty).size ≤ 1048576) (hne : ∀ i, i < ss.length → 0 < (ss.getD i ByteArray.empty).size) (h : IsStrs w a ss) (hidx : IdxOk w) :
    Calls Try.prog 12 #[.agg #[.slice a len cap], .string t] w (CovEnd t ss w) := by
  have hb : Below w.heap.size w (w.alloc (.cells #[.slice a len cap] 30)) := (Below.refl _ _).alloc (Nat.le_refl _) _
  have c := covered25 a len cap ss t (w.alloc (.cells #[.slice a len cap] 30)) hl hlen ht hs hne (h.later hb) (fun s sub wx h1 h2 => hidx s sub wx h1 (hb.trans (h2.mono (by simp))))
  have C : Hid (Calls Try.prog 25 #[.agg #[.slice a len cap], .string t] (w.alloc (.cells #[.slice a len cap] 30)) (CovEnd t ss (w.alloc (.cells #[.slice a len cap] 30)))) := c
  clear c
  go_enter Try.func12, Try.ntmps12
  go_wp2_with (go_at_call 25; refine C.out.mono ?_; rintro e w' ⟨v, o, rfl, hO, hC, hbel⟩)
  go_ret
  refine ⟨v, o, rfl, ?_, hC, hb.trans (hbel.mono (by simp))⟩
  cases o with
  | none => exact hO
  | some bs => obtain ⟨g, hge, hv, hF⟩ := hO; exact ⟨g, by simp at hge; omega, hv, hF⟩

end Go.Proofs.Qxb6601974a
