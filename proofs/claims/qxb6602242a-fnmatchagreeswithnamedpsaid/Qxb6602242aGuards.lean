/-
  zzBytes (8), zzNestedBytes (9), zzNestedCount (10), zzNestedRawBytes (11), zzElemsInDomain (12), zzAnySlash (28), zzHasSlash (34): they only read.
-/
import Derived.Test.Qxb6602242aCopy
namespace Go.Proofs.Qxb6602242a
open Go.RowKit

/-- Every list, every string of the first k is no longer than N. -/
def SmallTo (N k : Nat) (ps : List (List ByteArray)) : Prop := ∀ i, i < k → (ps.getD i []).length ≤ N ∧ ∀ j, j < (ps.getD i []).length → ((ps.getD i []).getD j ByteArray.empty).size ≤ N

/-- What zzNestedBytes and its like leave. -/
def NumEnd (w : World) (e : Ending) (w' : World) : Prop := ∃ v : Nat, e = .returned (.int .i64 v) ∧ w' = w ∧ v ≤ 50000000

set_option maxHeartbeats 400000 in
theorem nested9 (a : Option Addr) (n cap : Nat) (ps : List (List ByteArray)) (w : World) (hl : ps.length = n) (hlen : n ≤ 9223372036854775807) (hs : SmallTo 9223372036854775807 n ps) (h : IsParts w a ps) :
    Calls Try.prog 9 #[.slice a n cap] w (NumEnd w) := by
  by_cases hbig : 1048576 < n
  · go_enter Try.func9, Try.ntmps9
    go_wp2
    go_ret
    exact ⟨1048577, rfl, rfl, by omega⟩
  · go_enter Try.func9, Try.ntmps9
    go_wp2
    go_loop [3, 4] (fun t i => ∃ k m : Nat, k ≤ n ∧ i = .int .i64 k ∧ m ≤ 25165824 ∧ t = .int .i64 m) (fun _ i => n - (intOf i).toNat)
    case atStart => exact ⟨0, 24 * n, Nat.zero_le _, rfl, by omega, by go_num⟩
    case round =>
      obtain ⟨k, m, hk, rfl, hm, rfl⟩ := hrel
      by_cases hlt : k < n
      · obtain ⟨b, off, ai, ci, rfl, hc, hst, hni⟩ := h k (by omega)
        have C : Hid (Calls Try.prog 21 #[.slice ai (ps.getD k []).length ci] w (StrsEnd w)) := strs21 ai _ ci (ps.getD k []) w rfl (hs k hlt).1 (hs k hlt).2 hst
        obtain ⟨l, hle⟩ : ∃ l, l = (ps.getD k []).length := ⟨_, rfl⟩
        rw [← hle] at hc C
        clear hle hst hni
        go_wp2_with fail
        refine C.out.mono ?_
        rintro e w2 ⟨v, rfl, rfl, hv⟩
        by_cases h3 : 1048576 < m + v
        · go_wp2
          go_ret
          exact ⟨1048577, rfl, rfl, by omega⟩
        · go_wp2
          go_round
          case rel => exact ⟨k + 1, m + v, by omega, by go_num, by omega, by go_num⟩
          case measure => simp [intOf]; omega
      · go_wp2
        go_ret
        exact ⟨m, rfl, rfl, by omega⟩

set_option maxHeartbeats 400000 in
theorem count10 (a : Option Addr) (n cap : Nat) (ps : List (List ByteArray)) (w : World) (hl : ps.length = n) (hlen : n ≤ 9223372036854775807) (hs : SmallTo 9223372036854775807 n ps) (h : IsParts w a ps) :
    Calls Try.prog 10 #[.slice a n cap] w (NumEnd w) := by
  go_enter Try.func10, Try.ntmps10
  go_wp2
  go_loop [3, 4] (fun t i => ∃ k m : Nat, k ≤ n ∧ i = .int .i64 k ∧ m ≤ 1048576 ∧ t = .int .i64 m) (fun _ i => n - (intOf i).toNat)
  case atStart => exact ⟨0, 0, Nat.zero_le _, rfl, by omega, rfl⟩
  case round =>
    obtain ⟨k, m, hk, rfl, hm, rfl⟩ := hrel
    by_cases hlt : k < n
    · obtain ⟨b, off, ai, ci, rfl, hc, hst, hni⟩ := h k (by omega)
      have hli := (hs k hlt).1
      obtain ⟨l, hle⟩ : ∃ l, l = (ps.getD k []).length := ⟨_, rfl⟩
      rw [← hle] at hc hli
      clear hle hst hni
      by_cases h2 : 1048576 < l
      · go_wp2
        go_ret
        exact ⟨1048577, rfl, rfl, by omega⟩
      · by_cases h3 : 1048576 < m + l
        · go_wp2
          go_ret
          exact ⟨1048577, rfl, rfl, by omega⟩
        · go_wp2
          go_round
          case rel => exact ⟨k + 1, m + l, by omega, by go_num, by omega, by go_num⟩
          case measure => simp [intOf]; omega
    · go_wp2
      go_ret
      exact ⟨m, rfl, rfl, by omega⟩

set_option maxHeartbeats 400000 in
theorem rawn11 (a : Option Addr) (n cap : Nat) (ps : List (List ByteArray)) (w : World) (hl : ps.length = n) (hlen : n ≤ 9223372036854775807) (hs : SmallTo 9223372036854775807 n ps) (h : IsParts w a ps) :
    Calls Try.prog 11 #[.slice a n cap] w (NumEnd w) := by
  go_enter Try.func11, Try.ntmps11
  go_wp2
  go_loop [3, 4] (fun t i => ∃ k m : Nat, k ≤ n ∧ i = .int .i64 k ∧ m ≤ 1048576 ∧ t = .int .i64 m) (fun _ i => n - (intOf i).toNat)
  case atStart => exact ⟨0, 0, Nat.zero_le _, rfl, by omega, rfl⟩
  case round =>
    obtain ⟨k, m, hk, rfl, hm, rfl⟩ := hrel
    by_cases hlt : k < n
    · obtain ⟨b, off, ai, ci, rfl, hc, hst, hni⟩ := h k (by omega)
      have C : Hid (Calls Try.prog 22 #[.slice ai (ps.getD k []).length ci] w (SizeEnd w)) := raw22 ai _ ci (ps.getD k []) w rfl (hs k hlt).1 (hs k hlt).2 hst
      obtain ⟨l, hle⟩ : ∃ l, l = (ps.getD k []).length := ⟨_, rfl⟩
      rw [← hle] at hc C
      clear hle hst hni
      go_wp2_with fail
      refine C.out.mono ?_
      rintro e w2 ⟨v, rfl, rfl, hv⟩
      by_cases h3 : 1048576 < m + v
      · go_wp2
        go_ret
        exact ⟨1048577, rfl, rfl, by omega⟩
      · go_wp2
        go_round
        case rel => exact ⟨k + 1, m + v, by omega, by go_num, by omega, by go_num⟩
        case measure => simp [intOf]; omega
    · go_wp2
      go_ret
      exact ⟨m, rfl, rfl, by omega⟩

/-- No slash in it. -/
def NoSlash (t : ByteArray) : Prop := ∀ j : Nat, t.data.toList[j]? ≠ some 47

/-- What zzHasSlash leaves. -/
def SlashEnd (t : ByteArray) (w : World) (e : Ending) (w' : World) : Prop := ∃ v : Bool, e = .returned (.bool v) ∧ w' = w ∧ (v = false → NoSlash t)

set_option maxHeartbeats 400000 in
theorem slash34 (t : ByteArray) (w : World) (ht : t.size ≤ 9223372036854775807) : Calls Try.prog 34 #[.string t] w (SlashEnd t w) := by
  go_enter Try.func34, Try.ntmps34
  go_wp2
  go_loop [3] (fun i => ∃ k : Nat, k ≤ t.size ∧ i = .int .i64 k ∧ Hid (∀ j, j < k → t.data.toList[j]? ≠ some 47)) (fun i => t.size - (intOf i).toNat)
  case atStart => exact ⟨0, Nat.zero_le _, rfl, fun j hj => by omega⟩
  case round =>
    obtain ⟨k, hk, rfl, hp⟩ := hrel
    by_cases hlt : k < t.size
    · by_cases h47 : t[k] = 47
      · have n47 : ((t[k].toNat : Int) == 47) = true := by rw [h47]; rfl
        clear h47
        go_wp2
        go_ret
        exact ⟨true, rfl, rfl, fun h => by cases h⟩
      · have n47 : ((t[k].toNat : Int) == 47) = false := by
          rw [beq_eq_false_iff_ne]
          intro e
          exact h47 (UInt8.toNat_inj.1 (by show _ = 47; omega))
        have hb : Hid (t.data.toList[k]? ≠ some 47) := by
          show t.data.toList[k]? ≠ some 47
          rw [byte_at t k hlt]; simpa using h47
        clear h47
        go_wp2
        go_round
        case rel =>
          refine ⟨k + 1, by omega, by go_num, fun j hj => ?_⟩
          by_cases e : j = k
          · subst e; exact hb.out
          · exact hp.out j (by omega)
        case measure => simp [intOf]; omega
    · go_wp2
      go_ret
      refine ⟨false, rfl, rfl, fun _ j => ?_⟩
      by_cases hj : j < k
      · exact hp.out j hj
      · rw [List.getElem?_eq_none (by rw [← Lib.size_eq]; omega)]; simp

/-- What zzAnySlash leaves. -/
def AnyEnd (ss : List ByteArray) (w : World) (e : Ending) (w' : World) : Prop := ∃ v : Bool, e = .returned (.bool v) ∧ w' = w ∧ (v = false → ∀ j, j < ss.length → NoSlash (ss.getD j ByteArray.empty))

set_option maxHeartbeats 400000 in
theorem any28 (a : Option Addr) (n cap : Nat) (ss : List ByteArray) (w : World) (hl : ss.length = n) (hlen : n ≤ 9223372036854775807) (hs : ∀ i, i < ss.length → (ss.getD i ByteArray.empty).size ≤ 9223372036854775807) (h : IsStrs w a ss) :
    Calls Try.prog 28 #[.slice a n cap] w (AnyEnd ss w) := by
  go_enter Try.func28, Try.ntmps28
  go_wp2
  go_loop [3] (fun i => ∃ k : Nat, k ≤ n ∧ i = .int .i64 k ∧ Hid (∀ j, j < k → NoSlash (ss.getD j ByteArray.empty))) (fun i => n - (intOf i).toNat)
  case atStart => exact ⟨0, Nat.zero_le _, rfl, fun j hj => by omega⟩
  case round =>
    obtain ⟨k, hk, rfl, hp⟩ := hrel
    by_cases hlt : k < n
    · obtain ⟨b, off, rfl, hc⟩ := h k (by omega)
      have hsk := hs k (by omega)
      obtain ⟨u, hu⟩ : ∃ u, u = ss.getD k ByteArray.empty := ⟨_, rfl⟩
      rw [← hu] at hc hsk
      have HU : Hid (u = ss.getD k ByteArray.empty) := hu
      clear hu
      go_wp2_with fail
      refine (slash34 u w hsk).mono ?_
      rintro e w2 ⟨v, rfl, rfl, hv⟩
      cases v with
      | true =>
        go_wp2
        go_ret
        exact ⟨true, rfl, rfl, fun h => by cases h⟩
      | false =>
        have HV : Hid (NoSlash u) := hv rfl
        clear hv
        go_wp2
        go_round
        case rel =>
          refine ⟨k + 1, by omega, by go_num, fun j hj => ?_⟩
          by_cases e : j = k
          · subst e; rw [← HU.out]; exact HV.out
          · exact hp.out j (by omega)
        case measure => simp [intOf]; omega
    · go_wp2
      go_ret
      exact ⟨false, rfl, rfl, fun _ j hj => hp.out j (by omega)⟩

/-- What the domain asks of element j. -/
def ElemOk (ds : List Bool) (ps : List (List ByteArray)) (j : Nat) : Prop := ds.getD j false = false → 0 < (ps.getD j []).length ∧ ∀ k, k < (ps.getD j []).length → NoSlash ((ps.getD j []).getD k ByteArray.empty)

/-- What zzElemsInDomain leaves. -/
def DomEnd (ds : List Bool) (ps : List (List ByteArray)) (w : World) (e : Ending) (w' : World) : Prop := ∃ v : Bool, e = .returned (.bool v) ∧ w' = w ∧ (v = true → ds.length = ps.length ∧ ∀ j, j < ds.length → ElemOk ds ps j)

set_option maxHeartbeats 400000 in
theorem dom12 (a a' : Option Addr) (n cap n' cap' : Nat) (ds : List Bool) (ps : List (List ByteArray)) (w : World) (hl : ds.length = n) (hl' : ps.length = n') (hlen : n ≤ 9223372036854775807) (hs : SmallTo 9223372036854775807 n' ps) (hd : IsFlags w a ds) (h : IsParts w a' ps) :
    Calls Try.prog 12 #[.slice a n cap, .slice a' n' cap'] w (DomEnd ds ps w) := by
  by_cases hnn : n = n'
  · subst hnn
    go_enter Try.func12, Try.ntmps12
    go_wp2
    go_loop [5] (fun i => ∃ k : Nat, k ≤ n ∧ i = .int .i64 k ∧ Hid (∀ j, j < k → ElemOk ds ps j)) (fun i => n - (intOf i).toNat)
    case atStart => exact ⟨0, Nat.zero_le _, rfl, fun j hj => by omega⟩
    case round =>
      obtain ⟨k, hk, rfl, hp⟩ := hrel
      by_cases hlt : k < n
      · obtain ⟨b, off, rfl, hc⟩ := hd k (by omega)
        obtain ⟨b', off', ai, ci, rfl, hc', hst, hni⟩ := h k (by omega)
        cases hdk : ds.getD k false with
        | true =>
          rw [hdk] at hc
          have HD : Hid (ds.getD k false = true) := hdk
          clear hdk
          go_wp2
          go_round
          case rel =>
            refine ⟨k + 1, by omega, by go_num, fun j hj => ?_⟩
            by_cases e : j = k
            · subst e
              intro e2
              rw [HD.out] at e2; cases e2
            · exact hp.out j (by omega)
          case measure => simp [intOf]; omega
        | false =>
          rw [hdk] at hc
          have C : Hid (Calls Try.prog 28 #[.slice ai (ps.getD k []).length ci] w (AnyEnd (ps.getD k []) w)) := any28 ai _ ci (ps.getD k []) w rfl (hs k hlt).1 (hs k hlt).2 hst
          have hli := (hs k hlt).1
          obtain ⟨l, hle⟩ : ∃ l, l = (ps.getD k []).length := ⟨_, rfl⟩
          rw [← hle] at hc' C hli
          have HL : Hid (l = (ps.getD k []).length) := hle
          clear hdk hle hst hni
          by_cases hl0 : l = 0
          · subst hl0
            go_wp2
            go_ret
            exact ⟨false, rfl, rfl, fun h => by cases h⟩
          · have n0 : ((l : Int) == 0) = false := by rw [beq_eq_false_iff_ne]; omega
            go_wp2_with fail
            refine C.out.mono ?_
            rintro e w2 ⟨v, rfl, rfl, hv⟩
            cases v with
            | true =>
              go_wp2
              go_ret
              exact ⟨false, rfl, rfl, fun h => by cases h⟩
            | false =>
              have HV : Hid (∀ j, j < (ps.getD k []).length → NoSlash ((ps.getD k []).getD j ByteArray.empty)) := hv rfl
              clear hv
              go_wp2
              go_round
              case rel =>
                refine ⟨k + 1, by omega, by go_num, fun j hj => ?_⟩
                by_cases e : j = k
                · subst e
                  exact fun _ => ⟨by rw [← HL.out]; omega, HV.out⟩
                · exact hp.out j (by omega)
              case measure => simp [intOf]; omega
      · go_wp2
        go_ret
        exact ⟨true, rfl, rfl, fun _ => ⟨by omega, fun j hj => hp.out j (by omega)⟩⟩
  · have hne : ((n : Int) != (n' : Int)) = true := by rw [bne_iff_ne]; omega
    go_enter Try.func12, Try.ntmps12
    go_wp2
    go_ret
    exact ⟨false, rfl, rfl, fun h => by cases h⟩

/-- What zzBytes leaves. -/
def BytesNEnd (nd np nt : Nat) (ps : List (List ByteArray)) (w : World) (e : Ending) (w' : World) : Prop := ∃ v : Bool, e = .returned (.bool v) ∧ w' = w ∧ (v = true → nd ≤ 1048576 ∧ np ≤ 1048576 ∧ nt ≤ 1048576 ∧ SmallTo 1048576 np ps)

set_option maxHeartbeats 1000000 in
theorem bytes8 (sr : ByteArray) (a a' : Option Addr) (n cap n' cap' : Nat) (ps : List (List ByteArray)) (t : ByteArray) (w : World) (hl' : ps.length = n') (hsr : sr.size ≤ 9223372036854775807) (hlen : n ≤ 9223372036854775807) (hlen' : n' ≤ 9223372036854775807) (ht : t.size ≤ 9223372036854775807) (hs : SmallTo 9223372036854775807 n' ps) (h : IsParts w a' ps) :
    Calls Try.prog 8 #[.string sr, .slice a n cap, .slice a' n' cap', .string t] w (BytesNEnd n n' t.size ps w) := by
  go_enter Try.func8, Try.ntmps8
  by_cases h1 : 1048576 < sr.size
  · go_wp2; go_ret; exact ⟨false, rfl, rfl, fun h => by cases h⟩
  by_cases h2 : 1048576 < n
  · go_wp2; go_ret; exact ⟨false, rfl, rfl, fun h => by cases h⟩
  by_cases h3 : 1048576 < sr.size + n
  · go_wp2; go_ret; exact ⟨false, rfl, rfl, fun h => by cases h⟩
  by_cases h4 : 1048576 < n'
  · go_wp2; go_ret; exact ⟨false, rfl, rfl, fun h => by cases h⟩
  by_cases h5 : 1048576 < sr.size + n + n'
  · go_wp2; go_ret; exact ⟨false, rfl, rfl, fun h => by cases h⟩
  go_wp2
  go_loop [9, 10] (fun z i => ∃ k m : Nat, k ≤ n' ∧ i = .int .i64 k ∧ m ≤ 1048576 ∧ z = .int .i64 m ∧ Hid (SmallTo 1048576 k ps)) (fun _ i => n' - (intOf i).toNat)
  case atStart => exact ⟨0, sr.size + n + n', Nat.zero_le _, rfl, by omega, by go_num, fun i hi => by omega⟩
  case round =>
    obtain ⟨k, m, hk, rfl, hm, rfl, hp⟩ := hrel
    by_cases hlt : k < n'
    · obtain ⟨b, off, ai, ci, rfl, hc, hst, hni⟩ := h k (by omega)
      have hli := (hs k hlt).1
      have HSJ : Hid (∀ j, j < (ps.getD k []).length → ((ps.getD k []).getD j ByteArray.empty).size ≤ 9223372036854775807) := (hs k hlt).2
      obtain ⟨l, hle⟩ : ∃ l, l = (ps.getD k []).length := ⟨_, rfl⟩
      rw [← hle] at hc hli
      have HL : Hid (l = (ps.getD k []).length) := hle
      clear hle
      by_cases h6 : 1048576 < l
      · go_wp2; go_ret; exact ⟨false, rfl, rfl, fun h => by cases h⟩
      by_cases h7 : 1048576 < m + l
      · go_wp2; go_ret; exact ⟨false, rfl, rfl, fun h => by cases h⟩
      go_wp2
      go_loop [9, 11] (fun z i => ∃ j q : Nat, j ≤ l ∧ i = .int .i64 j ∧ q ≤ 1048576 ∧ z = .int .i64 q ∧ Hid (∀ x, x < j → ((ps.getD k []).getD x ByteArray.empty).size ≤ 1048576)) (fun _ i => l - (intOf i).toNat)
      case atStart => exact ⟨0, m + l, Nat.zero_le _, rfl, by omega, by go_num, fun x hx => by omega⟩
      case round =>
        obtain ⟨j, q, hj, rfl, hq, rfl, hpj⟩ := hrel
        by_cases hjl : j < l
        · obtain ⟨b2, off2, rfl, hc2⟩ := hst j (by rw [← HL.out]; exact hjl)
          have hsj := HSJ.out j (by rw [← HL.out]; exact hjl)
          obtain ⟨u, hu⟩ : ∃ u, u = (ps.getD k []).getD j ByteArray.empty := ⟨_, rfl⟩
          rw [← hu] at hc2 hsj
          have HU : Hid (u = (ps.getD k []).getD j ByteArray.empty) := hu
          clear hu
          by_cases h8 : 1048576 < u.size
          · go_wp2; go_ret; exact ⟨false, rfl, rfl, fun h => by cases h⟩
          by_cases h9 : 1048576 < q + u.size
          · go_wp2; go_ret; exact ⟨false, rfl, rfl, fun h => by cases h⟩
          go_wp2
          go_round
          case rel =>
            refine ⟨j + 1, q + u.size, by omega, by go_num, by omega, by go_num, fun x hx => ?_⟩
            by_cases e : x = j
            · subst e; rw [← HU.out]; omega
            · exact hpj.out x (by omega)
          case measure => simp [intOf]; omega
        · go_wp2
          go_round
          case rel =>
            refine ⟨k + 1, q, by omega, by go_num, by omega, rfl, fun i hi => ?_⟩
            by_cases e : i = k
            · subst e
              exact ⟨by rw [← HL.out]; omega, fun x hx => hpj.out x (by rw [← HL.out] at hx; omega)⟩
            · exact hp.out i (by omega)
          case measure => simp [intOf]; omega
    · by_cases h6 : 1048576 < t.size
      · go_wp2; go_ret; exact ⟨false, rfl, rfl, fun h => by cases h⟩
      by_cases h7 : 1048576 < m + t.size
      · go_wp2; go_ret; exact ⟨false, rfl, rfl, fun h => by cases h⟩
      have ek : k = n' := by omega
      subst ek
      go_wp2
      go_ret
      exact ⟨true, rfl, rfl, fun _ => ⟨by omega, by omega, by omega, hp.out⟩⟩

end Go.Proofs.Qxb6602242a
