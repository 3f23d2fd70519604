/-
  THE SMALL FUNCTIONS OF THE ROAD: zzBytes (8, 18), zzSize (9), zzHasEmpty (10): they only read.
-/
import Derived.Test.Qxb6601974aRows
import Derived.WalkKit
import Derived.WalkSpells
import Derived.WalkLawsBesides
import Derived.Deep.OwnRows
import Derived.Deep.QuietTactic
import Derived.BigQuiet
namespace Go.Proofs.Qxb6601974a
open Go.RowKit

/-- The slice's first cells hold the strings ss. -/
def IsStrs (w : World) (a : Option Addr) (ss : List ByteArray) : Prop :=
  ∀ i, i < ss.length → ∃ b off, a = some ⟨b, off, none⟩ ∧ w.cell? ⟨b, off + i, none⟩ = some (.string (ss.getD i ByteArray.empty))

/-- The bytes of all. -/
def total : List ByteArray → Nat
  | [] => 0
  | s :: r => s.size + total r

theorem total_take (ss : List ByteArray) (k : Nat) (h : k < ss.length) : total (ss.take (k + 1)) = total (ss.take k) + (ss.getD k ByteArray.empty).size := by
  induction ss generalizing k with
  | nil => simp at h
  | cons s r ih =>
    cases k with
    | zero => simp [total]
    | succ k =>
      simp only [List.length_cons, Nat.add_lt_add_iff_right] at h
      simp only [List.take_succ_cons, total, ih k h, List.getD_cons_succ]
      omega

theorem ret_bool {a b : Bool} (h : a = b) : Ending.returned (.bool a) = .returned (.bool b) := by rw [h]

/-- What zzBytes leaves. -/
def BytesEnd (n : Nat) (w : World) (e : Ending) (w' : World) : Prop := ∃ v : Bool, e = .returned (.bool v) ∧ w' = w ∧ (v = true → n ≤ 1048576)

set_option maxHeartbeats 400000 in
theorem bytes8 (a : Option Addr) (len cap : Nat) (ss : List ByteArray) (t : ByteArray) (w : World) (hl : ss.length = len) (hlen : len ≤ 9223372036854775807) (ht : t.size ≤ 9223372036854775807)
    (hs : ∀ i, i < ss.length → (ss.getD i ByteArray.empty).size ≤ 9223372036854775807) (h : IsStrs w a ss) :
    Calls Try.prog 8 #[.slice a len cap, .string t] w (BytesEnd (len + total ss + t.size) w) := by
  go_enter Try.func8, Try.ntmps8
  by_cases h1 : 1048576 < len
  · go_wp2
    go_ret
    exact ⟨false, rfl, rfl, by simp⟩
  · go_wp2
    go_loop [5, 6] (fun n i => ∃ k : Nat, k ≤ len ∧ i = .int .i64 k ∧ len + total (ss.take k) ≤ 1048576 ∧ n = .int .i64 ((len + total (ss.take k) : Nat) : Int)) (fun _ i => len - (intOf i).toNat)
    case atStart => exact ⟨0, Nat.zero_le _, rfl, by simp [total]; omega, by simp [total]⟩
    case round =>
      obtain ⟨k, hk, rfl, hb, rfl⟩ := hrel
      by_cases hlt : k < len
      · obtain ⟨b, off, rfl, hc⟩ := h k (by omega)
        have hss := hs k (by omega)
        have htt := total_take ss k (by omega)
        obtain ⟨s, hse⟩ : ∃ s, s = ss.getD k ByteArray.empty := ⟨_, rfl⟩
        rw [← hse] at hc hss htt
        have H : Hid (total (ss.take (k + 1)) = total (ss.take k) + s.size) := htt
        clear htt hse
        by_cases h2 : 1048576 < s.size
        · go_wp2
          go_ret
          exact ⟨false, rfl, rfl, by simp⟩
        · by_cases h3 : 1048576 < len + total (ss.take k) + s.size
          · go_wp2
            go_ret
            exact ⟨false, rfl, rfl, by simp⟩
          · go_wp2
            go_round
            case rel => exact ⟨k + 1, by omega, by go_num, by rw [H.out]; omega, by rw [H.out]; go_num⟩
            case measure => simp [intOf]; omega
      · have hkk : ss.take k = ss := List.take_of_length_le (by omega)
        rw [hkk] at hb ⊢
        by_cases h2 : 1048576 < t.size
        · go_wp2
          go_ret
          exact ⟨false, rfl, rfl, by simp⟩
        · by_cases h3 : 1048576 < len + total ss + t.size
          · go_wp2
            go_ret
            exact ⟨false, rfl, rfl, by simp⟩
          · go_wp2
            go_ret
            exact ⟨true, rfl, rfl, fun _ => by omega⟩

set_option maxHeartbeats 400000 in
theorem bytes18 (a : Option Addr) (len cap : Nat) (ss : List ByteArray) (t : ByteArray) (w : World) (hl : ss.length = len) (hlen : len ≤ 9223372036854775807) (ht : t.size ≤ 9223372036854775807)
    (hs : ∀ i, i < ss.length → (ss.getD i ByteArray.empty).size ≤ 9223372036854775807) (h : IsStrs w a ss) :
    Calls Try.prog 18 #[.slice a len cap, .string t] w (BytesEnd (len + total ss + t.size) w) := by
  go_enter Try.func18, Try.ntmps18
  by_cases h1 : 1048576 < len
  · go_wp2
    go_ret
    exact ⟨false, rfl, rfl, by simp⟩
  · go_wp2
    go_loop [5, 6] (fun n i => ∃ k : Nat, k ≤ len ∧ i = .int .i64 k ∧ len + total (ss.take k) ≤ 1048576 ∧ n = .int .i64 ((len + total (ss.take k) : Nat) : Int)) (fun _ i => len - (intOf i).toNat)
    case atStart => exact ⟨0, Nat.zero_le _, rfl, by simp [total]; omega, by simp [total]⟩
    case round =>
      obtain ⟨k, hk, rfl, hb, rfl⟩ := hrel
      by_cases hlt : k < len
      · obtain ⟨b, off, rfl, hc⟩ := h k (by omega)
        have hss := hs k (by omega)
        have htt := total_take ss k (by omega)
        obtain ⟨s, hse⟩ : ∃ s, s = ss.getD k ByteArray.empty := ⟨_, rfl⟩
        rw [← hse] at hc hss htt
        have H : Hid (total (ss.take (k + 1)) = total (ss.take k) + s.size) := htt
        clear htt hse
        by_cases h2 : 1048576 < s.size
        · go_wp2
          go_ret
          exact ⟨false, rfl, rfl, by simp⟩
        · by_cases h3 : 1048576 < len + total (ss.take k) + s.size
          · go_wp2
            go_ret
            exact ⟨false, rfl, rfl, by simp⟩
          · go_wp2
            go_round
            case rel => exact ⟨k + 1, by omega, by go_num, by rw [H.out]; omega, by rw [H.out]; go_num⟩
            case measure => simp [intOf]; omega
      · have hkk : ss.take k = ss := List.take_of_length_le (by omega)
        rw [hkk] at hb ⊢
        by_cases h2 : 1048576 < t.size
        · go_wp2
          go_ret
          exact ⟨false, rfl, rfl, by simp⟩
        · by_cases h3 : 1048576 < len + total ss + t.size
          · go_wp2
            go_ret
            exact ⟨false, rfl, rfl, by simp⟩
          · go_wp2
            go_ret
            exact ⟨true, rfl, rfl, fun _ => by omega⟩


/-- What zzSize leaves. -/
def SizeEnd (w : World) (e : Ending) (w' : World) : Prop := ∃ v : Nat, e = .returned (.int .i64 v) ∧ w' = w ∧ v ≤ 1048577

set_option maxHeartbeats 400000 in
theorem size9 (a : Option Addr) (len cap : Nat) (ss : List ByteArray) (w : World) (hl : ss.length = len) (hlen : len ≤ 9223372036854775807)
    (hs : ∀ i, i < ss.length → (ss.getD i ByteArray.empty).size ≤ 9223372036854775807) (h : IsStrs w a ss) :
    Calls Try.prog 9 #[.slice a len cap] w (SizeEnd w) := by
  go_enter Try.func9, Try.ntmps9
  go_wp2
  go_loop [3, 4] (fun n i => ∃ k m : Nat, k ≤ len ∧ i = .int .i64 k ∧ m ≤ 1048576 ∧ n = .int .i64 m) (fun _ i => len - (intOf i).toNat)
  case atStart => exact ⟨0, 0, Nat.zero_le _, rfl, by omega, rfl⟩
  case round =>
    obtain ⟨k, m, hk, rfl, hm, rfl⟩ := hrel
    by_cases hlt : k < len
    · obtain ⟨b, off, rfl, hc⟩ := h k (by omega)
      have hss := hs k (by omega)
      obtain ⟨s, hse⟩ : ∃ s, s = ss.getD k ByteArray.empty := ⟨_, rfl⟩
      rw [← hse] at hc hss
      clear hse
      by_cases h2 : 1048576 < s.size
      · go_wp2
        go_ret
        exact ⟨1048577, rfl, rfl, by omega⟩
      · by_cases h3 : 1048576 < m + (16 + s.size)
        · go_wp2
          go_ret
          exact ⟨1048577, rfl, rfl, by omega⟩
        · go_wp2
          go_round
          case rel => exact ⟨k + 1, m + (16 + s.size), by omega, by go_num, by omega, by go_num⟩
          case measure => simp [intOf]; omega
    · go_wp2
      go_ret
      exact ⟨m, rfl, rfl, by omega⟩

/-- What zzHasEmpty leaves. -/
def EmptyEnd (ss : List ByteArray) (w : World) (e : Ending) (w' : World) : Prop := ∃ v : Bool, e = .returned (.bool v) ∧ w' = w ∧ (v = false → ∀ i, i < ss.length → 0 < (ss.getD i ByteArray.empty).size)

set_option maxHeartbeats 400000 in
theorem empty10 (a : Option Addr) (len cap : Nat) (ss : List ByteArray) (w : World) (hl : ss.length = len) (hlen : len ≤ 9223372036854775807) (h : IsStrs w a ss) :
    Calls Try.prog 10 #[.slice a len cap] w (EmptyEnd ss w) := by
  go_enter Try.func10, Try.ntmps10
  go_wp2
  go_loop [3] (fun i => ∃ k : Nat, k ≤ len ∧ i = .int .i64 k ∧ Hid (∀ i, i < k → 0 < (ss.getD i ByteArray.empty).size)) (fun i => len - (intOf i).toNat)
  case atStart => exact ⟨0, Nat.zero_le _, rfl, fun i hi => by omega⟩
  case round =>
    obtain ⟨k, hk, rfl, hp⟩ := hrel
    by_cases hlt : k < len
    · obtain ⟨b, off, rfl, hc⟩ := h k (by omega)
      obtain ⟨s, hse⟩ : ∃ s, s = ss.getD k ByteArray.empty := ⟨_, rfl⟩
      rw [← hse] at hc
      have HS : Hid (s = ss.getD k ByteArray.empty) := hse
      clear hse
      by_cases h2 : 0 < s.size
      · go_wp2
        go_round
        case rel =>
          refine ⟨k + 1, by omega, by go_num, fun i hi => ?_⟩
          by_cases e : i = k
          · subst e; rw [← HS.out]; exact h2
          · exact hp.out i (by omega)
        case measure => simp [intOf]; omega
      · go_wp2
        go_ret
        exact ⟨true, rfl, rfl, by simp⟩
    · go_wp2
      go_ret
      exact ⟨false, rfl, rfl, fun _ i hi => hp.out i (by omega)⟩

end Go.Proofs.Qxb6601974a
