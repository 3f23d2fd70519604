/-
  nameAt (31), matchAt (30).
-/
import Derived.Test.Qxb6602242aGlob
import Derived.Test.Qxb6602242aPlain2
namespace Go.Proofs.Qxb6602242a
open Go.RowKit

theorem indexByte_spec : ∀ (l : List UInt8) (c : UInt8), (Lib.indexByte l c = -1 ∧ ∀ j : Nat, l[j]? ≠ some c) ∨ ∃ i : Nat, Lib.indexByte l c = i ∧ l[i]? = some c ∧ ∀ j : Nat, j < i → l[j]? ≠ some c
  | [], c => .inl ⟨rfl, fun j => by simp⟩
  | b :: l, c => by
    by_cases h : (b == c) = true
    · refine .inr ⟨0, by unfold Lib.indexByte; rw [if_pos h]; rfl, ?_, fun j hj => by omega⟩
      simp only [beq_iff_eq] at h
      simp [h]
    · have h0 : b ≠ c := by simpa using h
      rcases indexByte_spec l c with ⟨e, hn⟩ | ⟨i, e, hi, hn⟩
      · refine .inl ⟨by unfold Lib.indexByte; rw [if_neg h, e]; rfl, fun j => ?_⟩
        cases j with
        | zero => simpa using h0
        | succ j => simpa using hn j
      · refine .inr ⟨i + 1, ?_, by simpa using hi, fun j hj => ?_⟩
        · unfold Lib.indexByte; rw [if_neg h, e]
          have : ((i : Int) == -1) = false := by rw [beq_eq_false_iff_ne]; omega
          simp [this]
        · cases j with
          | zero => simpa using h0
          | succ j => simpa using hn j (by omega)

/-- The search for the slash from byte a on. -/
theorem slash_from (p : List UInt8) (a : Nat) (ha : a ≤ p.length) :
    (Lib.indexByte (p.drop a) 47 = -1 ∧ nameEnd p a = p.length) ∨ ∃ i : Nat, Lib.indexByte (p.drop a) 47 = i ∧ a + i < p.length ∧ nameEnd p a = a + i := by
  rcases indexByte_spec (p.drop a) 47 with ⟨e, hn⟩ | ⟨i, e, hi, hn⟩
  · refine .inl ⟨e, end_unique (isEnd p a ha) ⟨ha, Nat.le_refl _, fun j h1 _ => ?_, fun h => by omega⟩⟩
    have := hn (j - a)
    rwa [List.getElem?_drop, show a + (j - a) = j from by omega] at this
  · rw [List.getElem?_drop] at hi
    have hlt := (List.getElem?_eq_some_iff.1 hi).1
    refine .inr ⟨i, e, hlt, end_unique (isEnd p a ha) ⟨by omega, by omega, fun j h1 h2 => ?_, fun _ => hi⟩⟩
    have := hn (j - a) (by omega)
    rwa [List.getElem?_drop, show a + (j - a) = j from by omega] at this

theorem byte36 (t : ByteArray) (a : Nat) (v : Int) (w : World) (hv : Lib.indexByte (t.data.toList.drop a) 47 = v) :
    Calls Try.prog 36 #[.string (t.extract a t.size), .int .u8 47] w fun e w' => e = .returned (.int .i64 v) ∧ w = w' := by
  have e : (t.extract a t.size).data.toList = t.data.toList.drop a := by
    rw [Lib.extract_data, List.take_of_length_le]
    rw [List.length_drop, ← Lib.size_eq]; omega
  rw [← hv, ← e]
  exact (Try.strings_IndexByte (t.extract a t.size) 47 w).mono fun _ _ ⟨h1, h2⟩ => ⟨h1, h2.symm⟩

/-- What nameAt leaves. -/
def NameEnd (t : ByteArray) (a e : Nat) (w : World) (x : Ending) (w' : World) : Prop := x = .returned (.tuple #[.string (t.extract a e), .int .i64 ((e : Int) + 1)]) ∧ w = w'

set_option maxHeartbeats 400000 in
theorem name31 (t : ByteArray) (a : Nat) (w : World) (ht : t.size ≤ 1048576) (ha : a ≤ t.size) :
    Calls Try.prog 31 #[.string t, .int .i64 a] w (NameEnd t a (nameEnd t.data.toList a) w) := by
  have et := Lib.size_eq t
  rcases slash_from t.data.toList a (by omega) with ⟨hi, he⟩ | ⟨i, hi, hlt, he⟩
  · rw [he, ← et]
    have HI : Hid (Lib.indexByte (t.data.toList.drop a) 47 = -1) := hi
    clear he hi et
    go_enter Try.func31, Try.ntmps31
    go_wp2_with (go_at_call 36; refine (byte36 t a (-1) _ HI.out).mono ?_; rintro e w' ⟨rfl, rfl⟩)
    go_ret2
    exact ⟨rfl, rfl⟩
  · rw [he]
    rw [← et] at hlt
    have HI : Hid (Lib.indexByte (t.data.toList.drop a) 47 = (i : Int)) := hi
    clear he hi et
    go_enter Try.func31, Try.ntmps31
    go_wp2_with (go_at_call 36; refine (byte36 t a i _ HI.out).mono ?_; rintro e w' ⟨rfl, rfl⟩)
    go_ret2
    exact ⟨by first | rfl | simp, rfl⟩

/-- What matchAt leaves. -/
def AtEnd (v : Bool) (e : Nat) (w : World) (x : Ending) (w' : World) : Prop := ∃ nx : Int, x = .returned (.tuple #[.int .i64 nx, .bool v]) ∧ (v = true → nx = (e : Int) + 1) ∧ Below w.heap.size w w'

/-- One part: the whole name or nothing. -/
theorem glob_one (u nm : List UInt8) : globB [u] nm = true ↔ nm = u := by
  show globT nm [u] 1 nm.length = true ↔ _
  rw [glob_first]
  show nm.length = u.length ∧ Lib.occAt nm u 0 = true ↔ _
  constructor
  · rintro ⟨h1, h2⟩
    unfold Lib.occAt at h2
    rw [List.drop_zero] at h2
    have := List.prefix_iff_eq_take.1 (List.isPrefixOf_iff_prefix.1 h2)
    rw [List.take_of_length_le (by omega)] at this
    exact this.symm
  · intro h
    subst h
    exact ⟨rfl, by unfold Lib.occAt; rw [List.drop_zero]; exact List.isPrefixOf_iff_prefix.2 (List.prefix_refl _)⟩

theorem pre_iff (p u : List UInt8) (a : Nat) : Lib.hasPrefix (p.drop a) u = true ↔ ∀ j, j < u.length → p[a + j]? = u[j]? := occ_iff p u a

/-- The part stands at a and the name ends behind it: it is the name. -/
theorem one_hit {p u : List UInt8} {a : Nat} (ha : a ≤ p.length) (hu : ∀ j : Nat, u[j]? ≠ some (47 : UInt8)) (hp : Lib.hasPrefix (p.drop a) u = true) (he : a + u.length < p.length → p[a + u.length]? = some 47) (hl : a + u.length ≤ p.length) :
    nameEnd p a = a + u.length ∧ globB [u] ((p.drop a).take (nameEnd p a - a)) = true := by
  have e : nameEnd p a = a + u.length := by
    refine end_unique (isEnd p a ha) ⟨by omega, hl, fun j h1 h2 => ?_, he⟩
    have := (pre_iff p u a).1 hp (j - a) (by omega)
    rw [show a + (j - a) = j from by omega] at this
    rw [this]; exact hu _
  refine ⟨e, (glob_one _ _).2 ?_⟩
  rw [e, Nat.add_sub_cancel_left]
  have := List.prefix_iff_eq_take.1 (List.isPrefixOf_iff_prefix.1 hp)
  exact this.symm

theorem one_miss {p u : List UInt8} {a : Nat} (ha : a ≤ p.length) (h : Lib.hasPrefix (p.drop a) u = false ∨ (a + u.length < p.length ∧ p[a + u.length]? ≠ some 47)) : globB [u] ((p.drop a).take (nameEnd p a - a)) = false := by
  rw [Bool.eq_false_iff]
  intro hg
  have e := (glob_one _ _).1 hg
  have hE := isEnd p a ha
  have hlen : u.length = nameEnd p a - a := by
    rw [← e, List.length_take, List.length_drop]
    have := hE.2.1
    omega
  rcases h with h | ⟨h1, h2⟩
  · have : Lib.hasPrefix (p.drop a) u = true := by
      rw [← e]
      exact List.isPrefixOf_iff_prefix.2 (List.take_prefix _ _)
    rw [h] at this; cases this
  · have h3 := hE.1
    have h4 := hE.2.2.2
    rw [show nameEnd p a = a + u.length from by omega] at h4
    exact h2 (h4 h1)

theorem pre35' (t u : ByteArray) (a : Nat) (v : Bool) (w : World) (hv : Lib.hasPrefix (t.data.toList.drop a) u.data.toList = v) : Calls Try.prog 35 #[.string (t.extract a t.size), .string u] w fun e w' => e = .returned (.bool v) ∧ w' = w := by
  have e : (t.extract a t.size).data.toList = t.data.toList.drop a := by
    rw [Lib.extract_data, List.take_of_length_le]
    rw [List.length_drop, ← Lib.size_eq]; omega
  subst hv
  rw [← e]
  exact Try.strings_HasPrefix (t.extract a t.size) u w

set_option maxHeartbeats 1000000 in
theorem at30_one (dp : Bool) (b off cap : Nat) (u t : ByteArray) (a : Nat) (w : World) (ht : t.size ≤ 1048576) (hu : u.size ≤ 1048576) (ha : a ≤ t.size) (hsl : ∀ j : Nat, u.data.toList[j]? ≠ some (47 : UInt8)) (hc : w.cell? ⟨b, off, none⟩ = some (.string u)) :
    Calls Try.prog 30 #[.agg #[.bool dp, .slice (some ⟨b, off, none⟩) 1 cap], .string t, .int .i64 a] w (AtEnd (globB [u.data.toList] ((t.data.toList.drop a).take (nameEnd t.data.toList a - a))) (nameEnd t.data.toList a) w) := by
  have hb0 : Below w.heap.size w (w.alloc (.cells #[.bool dp, .slice (some ⟨b, off, none⟩) 1 cap] 48)) := (Below.refl _ _).alloc (Nat.le_refl _) _
  have hc0 := cell_later hb0 hc
  have et := Lib.size_eq t
  have eu := Lib.size_eq u
  cases hp : Lib.hasPrefix (t.data.toList.drop a) u.data.toList with
  | false =>
    rw [one_miss (by omega) (.inl hp)]
    have HP : Hid (Lib.hasPrefix (t.data.toList.drop a) u.data.toList = false) := hp
    clear hp et eu hc
    go_enter Try.func30, Try.ntmps30
    go_wp2
    go_quiet ((go_at_call 35; exact Calls.quiet_of_same (pre35' t u a false _ HP.out)))
    go_wp2
    go_ret2
    exact ⟨0, rfl, (fun h => by cases h), below_drewN hb0 _⟩
  | true =>
    have hl : a + u.size ≤ t.size := by
      have := (List.isPrefixOf_iff_prefix.1 hp).length_le
      rw [List.length_drop] at this
      omega
    have HP : Hid (Lib.hasPrefix (t.data.toList.drop a) u.data.toList = true) := hp
    by_cases hend : a + u.size < t.size
    · have hb := byte_at t (a + u.size) hend
      by_cases h47 : t[a + u.size] = 47
      · rw [h47] at hb
        obtain ⟨h1, h2⟩ := one_hit (by omega) hsl hp (fun _ => by rw [← eu]; exact hb) (by omega)
        rw [h2, h1, ← eu]
        have n47 : ((t[a + u.size].toNat : Int) != 47) = false := by rw [h47]; rfl
        have hd : decide ((a : Int) + (u.size : Int) < (t.size : Int)) = true := decide_eq_true (by omega)
        have i0 : (0 : Int) ≤ (a : Int) + (u.size : Int) := by omega
        have i1 : (a : Int) + (u.size : Int) < (t.size : Int) := by omega
        clear hp et eu hc h1 h2 hb h47
        go_enter Try.func30, Try.ntmps30
        go_wp2
        go_quiet ((go_at_call 35; exact Calls.quiet_of_same (pre35' t u a true _ HP.out)))
        go_wp2
        go_ret2
        exact ⟨_, rfl, fun _ => by go_num, below_drewN hb0 _⟩
      · rw [one_miss (by omega) (.inr ⟨by omega, by rw [← eu, hb]; simpa using h47⟩)]
        have n47 : ((t[a + u.size].toNat : Int) != 47) = true := by
          rw [bne_iff_ne]
          intro e
          exact h47 (UInt8.toNat_inj.1 (by show _ = 47; omega))
        have hd : decide ((a : Int) + (u.size : Int) < (t.size : Int)) = true := decide_eq_true (by omega)
        have i0 : (0 : Int) ≤ (a : Int) + (u.size : Int) := by omega
        have i1 : (a : Int) + (u.size : Int) < (t.size : Int) := by omega
        clear hp et eu hc hb h47
        go_enter Try.func30, Try.ntmps30
        go_wp2
        go_quiet ((go_at_call 35; exact Calls.quiet_of_same (pre35' t u a true _ HP.out)))
        go_wp2
        go_ret2
        exact ⟨0, rfl, (fun h => by cases h), below_drewN hb0 _⟩
    · obtain ⟨h1, h2⟩ := one_hit (by omega) hsl hp (fun h => by omega) (by omega)
      rw [h2, h1, ← eu]
      have hd : decide ((a : Int) + (u.size : Int) < (t.size : Int)) = false := decide_eq_false (by omega)
      clear hp et eu hc h1 h2
      go_enter Try.func30, Try.ntmps30
      go_wp2
      go_quiet ((go_at_call 35; exact Calls.quiet_of_same (pre35' t u a true _ HP.out)))
      go_wp2
      go_ret2
      exact ⟨_, rfl, fun _ => by go_num, below_drewN hb0 _⟩

set_option maxHeartbeats 1000000 in
theorem at30_stars (dp : Bool) (b off len cap : Nat) (ss : List ByteArray) (t : ByteArray) (a : Nat) (w : World) (hl : ss.length = len) (h2 : 2 ≤ len) (hlc : len ≤ cap) (hcap : cap ≤ 1048576) (ht : t.size ≤ 1048576) (ha : a ≤ t.size)
    (hs : ∀ i, i < ss.length → (ss.getD i ByteArray.empty).size ≤ 1048576) (hc : ∀ i, i < len → w.cell? ⟨b, off + i, none⟩ = some (.string (ss.getD i ByteArray.empty))) (hidx : IdxOk w) :
    Calls Try.prog 30 #[.agg #[.bool dp, .slice (some ⟨b, off, none⟩) len cap], .string t, .int .i64 a] w (AtEnd (globB (texts ss) ((t.data.toList.drop a).take (nameEnd t.data.toList a - a))) (nameEnd t.data.toList a) w) := by
  have hb0 : Below w.heap.size w (w.alloc (.cells #[.bool dp, .slice (some ⟨b, off, none⟩) len cap] 48)) := (Below.refl _ _).alloc (Nat.le_refl _) _
  have hc1 : ∀ i, i < len → (w.alloc (.cells #[.bool dp, .slice (some ⟨b, off, none⟩) len cap] 48)).cell? ⟨b, off + i, none⟩ = some (.string (ss.getD i ByteArray.empty)) := fun i hi => cell_later hb0 (hc i hi)
  have hE := isEnd t.data.toList a (by rw [← Lib.size_eq]; exact ha)
  obtain ⟨e, he⟩ : ∃ e, e = nameEnd t.data.toList a := ⟨_, rfl⟩
  have hn := name31 t a (w.alloc (.cells #[.bool dp, .slice (some ⟨b, off, none⟩) len cap] 48)) ht ha
  rw [← he] at hn hE ⊢
  have hle : e ≤ t.size := by rw [Lib.size_eq]; exact hE.2.1
  have C := stars33 dp b off len cap ss (t.extract a e) (w.alloc (.cells #[.bool dp, .slice (some ⟨b, off, none⟩) len cap] 48)) hl h2 hlc hcap (by rw [ByteArray.size_extract]; omega) hs hc1 (hidx.later hb0)
  rw [Lib.extract_data] at C
  obtain ⟨v, hv⟩ : ∃ v, v = globB (texts ss) ((t.data.toList.drop a).take (e - a)) := ⟨_, rfl⟩
  rw [← hv] at C ⊢
  have CC : Hid (Calls Try.prog 33 #[.agg #[.bool dp, .slice (some ⟨b, off, none⟩) len cap], .string (t.extract a e)] (w.alloc (.cells #[.bool dp, .slice (some ⟨b, off, none⟩) len cap] 48)) (TestEnd v (w.alloc (.cells #[.bool dp, .slice (some ⟨b, off, none⟩) len cap] 48)))) := C
  have NN : Hid (Calls Try.prog 31 #[.string t, .int .i64 a] (w.alloc (.cells #[.bool dp, .slice (some ⟨b, off, none⟩) len cap] 48)) (NameEnd t a e (w.alloc (.cells #[.bool dp, .slice (some ⟨b, off, none⟩) len cap] 48)))) := hn
  have hl1 : ((len : Int) == 1) = false := by rw [beq_eq_false_iff_ne]; omega
  clear C hn hv he hE hc hc1 hs hidx
  go_enter Try.func30, Try.ntmps30
  go_wp2_with fail
  refine NN.out.mono ?_
  rintro x w' ⟨rfl, rfl⟩
  go_wp2_with fail
  refine CC.out.mono ?_
  rintro x w' ⟨rfl, hb⟩
  go_wp2
  go_ret2
  exact ⟨_, rfl, fun _ => rfl, hb0.trans (hb.mono (by simp))⟩

end Go.Proofs.Qxb6602242a
