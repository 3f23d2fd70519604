/-
  zzSameBools (14), ZZNewValues (13).
-/
import Derived.Test.Qxb6601974aModel
namespace Go.Proofs.Qxb6601974a
open Go.RowKit

theorem same14_nil (w : World) : Calls Try.prog 14 #[.slice none 0 0, .slice none 0 0] w (ReadEnd (.bool true) w) := by
  have q := eq27
  go_enter Try.func14, Try.ntmps14
  go_wp2
  refine wp_loop_rounds 1 ?_
  rw [rounds_succ]
  go_wp2
  go_ret
  exact ⟨rfl, 0, rfl⟩

set_option maxHeartbeats 400000 in
theorem same14_row (g g' : Nat) (bs : List Bool) (w : World) (hb : bs.length ≤ 1048576) (h : Flags w g bs) (h' : Flags w g' bs) :
    Calls Try.prog 14 #[.slice (some ⟨g, 0, none⟩) bs.length bs.length, .slice (some ⟨g', 0, none⟩) bs.length bs.length] w (ReadEnd (.bool true) w) := by
  have q := eq27
  go_enter Try.func14, Try.ntmps14
  go_wp2
  go_loopw [5] (fun i wr => ∃ k n : Nat, k ≤ bs.length ∧ i = .int .i64 k ∧ wr = w.drewN n) (fun i _ => bs.length - (intOf i).toNat)
  case atStart => exact ⟨0, 0, Nat.zero_le _, rfl, rfl⟩
  case round =>
    obtain ⟨k, n, hk, rfl, rfl⟩ := hrel
    by_cases hlt : k < bs.length
    · have hc := h.cell hlt
      have hc' := h'.cell hlt
      have h1 : (0 : Int) ≤ (k : Int) := by omega
      have h2 : (k : Int) < (bs.length : Int) := by omega
      obtain ⟨x, hx⟩ : ∃ x, x = bs.getD k false := ⟨_, rfl⟩
      rw [← hx] at hc hc'
      clear hx
      go_wp2
      go_region
      go_wp2
      go_roundw
      case rel => exact ⟨k + 1, n + 1, by omega, by go_num, rfl⟩
      case measure => simp [intOf]; omega
    · go_wp2
      go_ret
      exact ⟨rfl, n, rfl⟩

theorem same14 {B B' : Nat} {o : Option (List Bool)} {v v' : Value} {w : World} (ho : ∀ bs, o = some bs → bs.length ≤ 1048576) (h : IsBools B w v o) (h' : IsBools B' w v' o) :
    Calls Try.prog 14 #[v, v'] w (ReadEnd (.bool true) w) := by
  cases o with
  | none =>
    have e : v = .slice none 0 0 := h
    have e' : v' = .slice none 0 0 := h'
    subst e e'
    exact same14_nil w
  | some bs =>
    obtain ⟨g, _, rfl, hF⟩ := h
    obtain ⟨g', _, rfl, hF'⟩ := h'
    exact same14_row g g' bs w (ho bs rfl) hF hF'

/-- What ZZNewValues leaves: a struct of one field; a block more. -/
def NewEnd (v : Value) (w : World) (e : Ending) (w' : World) : Prop := e = .returned (.agg #[v]) ∧ Below w.heap.size w w'

theorem new13 (a : Option Addr) (len cap : Nat) (w : World) : Calls Try.prog 13 #[.slice a len cap] w (NewEnd (.slice a len cap) w) := by
  go_enter Try.func13, Try.ntmps13
  go_wp2
  exact bodyPost_ret (v := .agg #[.slice a len cap]) (by simp [results, Try.results13, go_sem]) rfl ⟨rfl, (Below.refl _ _).alloc (Nat.le_refl _) _⟩

end Go.Proofs.Qxb6601974a
