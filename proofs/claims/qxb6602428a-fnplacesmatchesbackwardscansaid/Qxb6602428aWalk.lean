/-
  zzBytes (13, 16), places (25), ZZPlaces (14), placesFromTheEnd (15).
-/
import Derived.Test.Qxb6602428aRows
import Derived.Test.Qxb6602428aShelf
import Derived.Test.Qxb6602428aPlain
import Derived.WalkKit
import Derived.WalkSpells
import Derived.WalkLawsBesides
import Derived.WalkSmall
import Derived.Deep.QuietTactic
import Derived.BigQuiet
namespace Go.Proofs.Qxb6602428a
open Go.RowKit

/-- What zzBytes leaves. -/
def BytesEnd (n : Nat) (w : World) (e : Ending) (w' : World) : Prop := ∃ v : Bool, e = .returned (.bool v) ∧ w' = w ∧ (v = true → n ≤ 1048576)

theorem bytes13 (s : ByteArray) (w : World) (hs : s.size ≤ 9223372036854775807) : Calls Try.prog 13 #[.string s] w (BytesEnd s.size w) := by
  by_cases h1 : 1048576 < s.size
  · go_enter Try.func13, Try.ntmps13
    go_wp2
    go_ret
    exact ⟨false, rfl, rfl, by simp⟩
  · go_enter Try.func13, Try.ntmps13
    go_wp2
    go_ret
    exact ⟨true, rfl, rfl, fun _ => by omega⟩

theorem bytes16 (a b : ByteArray) (w : World) (ha : a.size ≤ 9223372036854775807) (hb : b.size ≤ 9223372036854775807) : Calls Try.prog 16 #[.string a, .string b] w (BytesEnd (a.size + b.size) w) := by
  go_enter Try.func16, Try.ntmps16
  by_cases h1 : 1048576 < a.size
  · go_wp2; go_ret; exact ⟨false, rfl, rfl, by simp⟩
  by_cases h2 : 1048576 < b.size
  · go_wp2; go_ret; exact ⟨false, rfl, rfl, by simp⟩
  by_cases h3 : 1048576 < a.size + b.size
  · go_wp2; go_ret; exact ⟨false, rfl, rfl, by simp⟩
  go_wp2
  go_ret
  exact ⟨true, rfl, rfl, fun _ => by omega⟩

/-- What is asked of internal/bytealg.MaxLen: it holds some int. -/
def MaxOk (w : World) : Prop := ∃ m, w.cell? ⟨0, 0, none⟩ = some (.int .i64 m)
theorem MaxOk.drewN {w : World} (h : MaxOk w) (n : Nat) : MaxOk (w.drewN n) := h

/-- What a reader leaves that draws. -/
def ReadEnd (v : Value) (w : World) (e : Ending) (w' : World) : Prop := e = .returned v ∧ ∃ n, w' = w.drewN n

/-- strings.Cut (28) at the point. -/
def CutEnd (f : Nat) (w : World) (e : Ending) (w' : World) : Prop := ∃ (b a : ByteArray) (v : Bool), e = .returned (.tuple #[.string b, .string a, .bool v]) ∧ (f = if v = true then a.size else 0) ∧ ∃ n, w' = w.drewN n

theorem cut28 (s : ByteArray) (w : World) (hs : s.size ≤ 2097153) (hm : MaxOk w) : Calls Try.prog 28 #[.string s, .string ⟨#[46]⟩] w (CutEnd (placesL s.data.toList) w) := by
  obtain ⟨m, hm⟩ := hm
  refine (Try.strings_Cut s ⟨#[46]⟩ m w (by omega) hm).mono ?_
  rintro e w' ⟨rfl, n, rfl⟩
  rcases cut_places s.data.toList with ⟨h1, h2⟩ | ⟨b, a, h1, h2⟩
  · refine ⟨⟨s.data.toList.toArray⟩, ⟨#[]⟩, false, ?_, h2, n, rfl⟩
    show Ending.returned (.tuple #[.string ⟨(Lib.cut s.data.toList [46]).1.toArray⟩, .string ⟨(Lib.cut s.data.toList [46]).2.1.toArray⟩, .bool (Lib.cut s.data.toList [46]).2.2]) = _
    rw [h1]
  · refine ⟨⟨b.toArray⟩, ⟨a.toArray⟩, true, ?_, ?_, n, rfl⟩
    · show Ending.returned (.tuple #[.string ⟨(Lib.cut s.data.toList [46]).1.toArray⟩, .string ⟨(Lib.cut s.data.toList [46]).2.1.toArray⟩, .bool (Lib.cut s.data.toList [46]).2.2]) = _
      rw [h1]
    · rw [h2, if_pos rfl]; rfl

set_option maxHeartbeats 400000 in
theorem places25 (s : ByteArray) (w : World) (hs : s.size ≤ 2097153) (hm : MaxOk w) : Calls Try.prog 25 #[.string s] w (ReadEnd (.int .i64 (placesL s.data.toList : Nat)) w) := by
  obtain ⟨f, hf⟩ : ∃ f, f = placesL s.data.toList := ⟨_, rfl⟩
  have C : Hid (Calls Try.prog 28 #[.string s, .string ⟨#[46]⟩] w (CutEnd (placesL s.data.toList) w)) := cut28 s w hs hm
  rw [← hf] at C ⊢
  clear hf hm
  go_enter Try.func25, Try.ntmps25
  go_wp2_with fail
  refine C.out.mono ?_
  rintro e w' ⟨b, a, v, rfl, hv, n, rfl⟩
  cases v with
  | true =>
    have HV : Hid (f = a.size) := hv
    clear hv
    go_wp2
    go_ret
    exact ⟨by rw [HV.out]; rfl, n, rfl⟩
  | false =>
    have HV : Hid (f = 0) := hv
    clear hv
    go_wp2
    go_ret
    exact ⟨by rw [HV.out]; rfl, n, rfl⟩

theorem places14 (s : ByteArray) (w : World) (hs : s.size ≤ 2097153) (hm : MaxOk w) : Calls Try.prog 14 #[.string s] w (ReadEnd (.int .i64 (placesL s.data.toList : Nat)) w) := by
  obtain ⟨f, hf⟩ : ∃ f, f = placesL s.data.toList := ⟨_, rfl⟩
  have C : Hid (Calls Try.prog 25 #[.string s] w (ReadEnd (.int .i64 (placesL s.data.toList : Nat)) w)) := places25 s w hs hm
  rw [← hf] at C ⊢
  clear hf hm
  go_enter Try.func14, Try.ntmps14
  go_wp2_with fail
  refine C.out.mono ?_
  rintro e w' ⟨rfl, n, rfl⟩
  go_wp2
  go_ret
  exact ⟨rfl, n, rfl⟩

set_option maxHeartbeats 400000 in
theorem back15 (s : ByteArray) (w : World) (hs : s.size ≤ 1048576) : Calls Try.prog 15 #[.string s] w (ReadEnd (.int .i64 (placesL s.data.toList : Nat)) w) := by
  have ES : Hid (s.size = s.data.toList.length) := Lib.size_eq s
  go_enter Try.func15, Try.ntmps15
  go_wp2
  go_loop [3, 4] (fun x i => ∃ k f : Nat, k ≤ s.size ∧ i = .int .i64 ((k : Int) - 1) ∧ f ≤ s.size ∧ x = .int .i64 f ∧ Hid (f = placesL (s.data.toList.drop k))) (fun _ i => (intOf i + 1).toNat)
  case atStart => exact ⟨s.size, 0, Nat.le_refl _, rfl, by omega, rfl, by rw [ES.out, List.drop_length]; rfl⟩
  case round =>
    obtain ⟨k, f, hk, rfl, hf, rfl, HF⟩ := hrel
    by_cases hk0 : 0 < k
    · obtain ⟨q, rfl⟩ : ∃ q, k = q + 1 := ⟨k - 1, by omega⟩
      have eq1 : ((q + 1 : Nat) : Int) - 1 = (q : Int) := by omega
      rw [eq1]
      clear eq1
      have hq : q < s.size := by omega
      have hl : q < s.data.toList.length := by rw [← ES.out]; exact hq
      have hd := placesL_drop hl
      have eb : s.data.toList[q] = s[q] := rfl
      rw [eb] at hd
      have HD : Hid (placesL (s.data.toList.drop q) = if s[q] = 46 then s.data.toList.length - 1 - q else placesL (s.data.toList.drop (q + 1))) := hd
      clear hd eb
      by_cases h46 : s[q] = 46
      · have n46 : ((s[q].toNat : Int) == 46) = true := by rw [h46]; rfl
        have H46 : Hid (s[q] = 46) := h46
        clear h46
        go_wp2
        go_round
        case rel => exact ⟨q, s.size - 1 - q, by omega, by go_num, by omega, by go_num, by rw [HD.out, if_pos H46.out, ES.out]; rfl⟩
        case measure => simp [intOf]
      · have n46 : ((s[q].toNat : Int) == 46) = false := by
          rw [beq_eq_false_iff_ne]
          intro e
          exact h46 (UInt8.toNat_inj.1 (by show _ = 46; omega))
        have H46 : Hid (¬ s[q] = 46) := h46
        clear h46
        go_wp2
        go_round
        case rel => exact ⟨q, f, by omega, by go_num, by omega, rfl, by rw [HF.out, HD.out, if_neg H46.out]; rfl⟩
        case measure => simp [intOf]
    · have e0 : k = 0 := by omega
      subst e0
      go_wp2
      go_ret
      exact ⟨by rw [HF.out, List.drop_zero]; rfl, 0, rfl⟩

end Go.Proofs.Qxb6602428a
