/-
  zzAt (26): does w stand in text at byte s?
-/
import Derived.Test.Qxb6601974aSmall
import Derived.Lib.Index
namespace Go.Proofs.Qxb6601974a
open Go.RowKit

theorem occ_iff (t u : List UInt8) (s : Nat) (_h : s + u.length ≤ t.length) : Lib.occAt t u s = true ↔ ∀ j, j < u.length → t[s + j]? = u[j]? := by
  unfold Lib.occAt
  rw [List.isPrefixOf_iff_prefix, List.prefix_iff_eq_take]
  constructor
  · intro e j hj
    rw [e, List.getElem?_take, if_pos hj, List.getElem?_drop]
  · intro e
    apply List.ext_getElem?
    intro j
    rw [List.getElem?_take]
    by_cases hj : j < u.length
    · rw [if_pos hj, List.getElem?_drop, e j hj]
    · rw [if_neg hj]
      simp; omega

theorem occ_short (t u : List UInt8) (s : Nat) (h : t.length < s + u.length) (hs : s ≤ t.length) : Lib.occAt t u s = false := by
  rw [Bool.eq_false_iff]
  intro e
  rcases Lib.occAt_room e with h1 | h1
  · omega
  · subst h1; simp at h; omega

theorem byte_at (t : ByteArray) (k : Nat) (h : k < t.size) : t.data.toList[k]? = some t[k] := by
  have h' : k < t.data.toList.length := by rw [← Lib.size_eq]; exact h
  rw [List.getElem?_eq_getElem h']
  rfl

theorem byte_ne {t u : ByteArray} {i j : Nat} (hi : i < t.size) (hj : j < u.size) (h : ((t[i].toNat : Int) != (u[j].toNat : Int)) = true) : t.data.toList[i]? ≠ u.data.toList[j]? := by
  rw [byte_at t i hi, byte_at u j hj]
  intro e
  simp only [Option.some.injEq] at e
  rw [e] at h
  simp at h

theorem byte_same {t u : ByteArray} {i j : Nat} (hi : i < t.size) (hj : j < u.size) (h : ((t[i].toNat : Int) != (u[j].toNat : Int)) = false) : t.data.toList[i]? = u.data.toList[j]? := by
  rw [byte_at t i hi, byte_at u j hj]
  simp only [bne_eq_false_iff_eq] at h
  rw [UInt8.toNat_inj.1 (by omega : t[i].toNat = u[j].toNat)]

/-- What a reader leaves that draws. -/
def ReadEnd (v : Value) (w : World) (e : Ending) (w' : World) : Prop := e = .returned v ∧ ∃ n, w' = w.drewN n

set_option maxHeartbeats 400000 in
theorem at26 (t u : ByteArray) (s : Nat) (w : World) (ht : t.size ≤ 1048576) (hu : u.size ≤ 1048576) (hs : s ≤ t.size) :
    Calls Try.prog 26 #[.string t, .int .i64 s, .string u] w (ReadEnd (.bool (Lib.occAt t.data.toList u.data.toList s)) w) := by
  have et := Lib.size_eq t
  have eu := Lib.size_eq u
  by_cases hr : t.size < s + u.size
  · have hno := occ_short t.data.toList u.data.toList s (by omega) (by omega)
    rw [hno]
    clear hno et eu
    go_enter Try.func26, Try.ntmps26
    go_wp2
    go_ret
    exact ⟨rfl, 0, rfl⟩
  · have hiff : Hid (Lib.occAt t.data.toList u.data.toList s = true ↔ ∀ j, j < u.size → t.data.toList[s + j]? = u.data.toList[j]?) := by
      rw [eu]; exact occ_iff t.data.toList u.data.toList s (by omega)
    clear et eu
    obtain ⟨v, hv⟩ : ∃ v, v = Lib.occAt t.data.toList u.data.toList s := ⟨_, rfl⟩
    rw [← hv]
    rw [← hv] at hiff
    clear hv
    go_enter Try.func26, Try.ntmps26
    go_wp2
    go_loopw [7] (fun i wr => ∃ k n : Nat, k ≤ u.size ∧ i = .int .i64 k ∧ Hid (∀ j, j < k → t.data.toList[s + j]? = u.data.toList[j]?) ∧ wr = w.drewN n) (fun i _ => u.size - (intOf i).toNat)
    case atStart => exact ⟨0, 0, Nat.zero_le _, rfl, fun i hi => by omega, rfl⟩
    case round =>
      obtain ⟨k, n, hk, rfl, hp, rfl⟩ := hrel
      by_cases hlt : k < u.size
      · have hx0 : (0 : Int) ≤ (s : Int) + (k : Int) := by omega
        have hx1 : (s : Int) + (k : Int) < (t.size : Int) := by omega
        have hx2 : (0 : Int) ≤ (k : Int) := by omega
        have hx3 : (k : Int) < (u.size : Int) := by omega
        have hsk : s + k < t.size := by omega
        go_wp2
        go_region
        go_wp2
        · have hne : ((t[s + k].toNat : Int) != (u[k].toNat : Int)) = true := by assumption
          have hv : v = false := by
            cases v with
            | false => rfl
            | true => exact absurd (hiff.out.1 rfl k hlt) (byte_ne hsk hlt hne)
          subst hv
          go_ret
          exact ⟨rfl, n + 1, rfl⟩
        · have heq : ((t[s + k].toNat : Int) != (u[k].toNat : Int)) = false := by assumption
          go_roundw
          case rel =>
            refine ⟨k + 1, n + 1, by omega, by go_num, fun j hj => ?_, rfl⟩
            by_cases e : j = k
            · subst e; exact byte_same hsk hlt heq
            · exact hp.out j (by omega)
          case measure => simp [intOf]; omega
      · have hv : v = true := hiff.out.2 fun j hj => hp.out j (by omega)
        subst hv
        go_wp2
        go_ret
        exact ⟨rfl, n, rfl⟩

end Go.Proofs.Qxb6601974a
