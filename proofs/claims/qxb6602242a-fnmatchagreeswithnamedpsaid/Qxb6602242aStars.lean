/-
  matchStars (33), ZZMatchStars (24).
-/
import Derived.Test.Qxb6602242aSmall
import Derived.Test.Qxb6602242aPlain
import Derived.Test.Qxb6602242aShelf
import Derived.WalkSmall
import Derived.RegionTactic
namespace Go.Proofs.Qxb6602242a
open Go.RowKit

/-- What is asked of strings.Index (38), in every world that has come out of w. -/
def IdxOk (w : World) : Prop := ∀ (s sub : ByteArray) (wx : World), s.size ≤ 1048576 → Below w.heap.size w wx →
  Calls Try.prog 38 #[.string s, .string sub] wx fun e w' => e = .returned (.int .i64 (Lib.index s.data.toList sub.data.toList)) ∧ wx = w'

theorem idxOk_of_shaped {W : World} (hsh : W.ShapedOpen Try.prog) : IdxOk W := by
  obtain ⟨m, hm⟩ := Try.laysM143.s1_3 W hsh
  intro s sub wx hs hb
  exact (Try.strings_Index s sub m wx (by omega) (cell_later hb hm)).mono fun _ _ ⟨h1, h2⟩ => ⟨h1, h2.symm⟩

theorem IdxOk.later {w wx : World} (h : IdxOk w) (hb : Below w.heap.size w wx) : IdxOk wx :=
  fun s sub wy h1 h2 => h s sub wy h1 (hb.trans (h2.mono hb.size))

/-- The search in the piece from pos to E. -/
theorem idx38 {w wx : World} (H : IdxOk w) (t u : ByteArray) (pos E : Nat) (i : Int) (ht : t.size ≤ 1048576) (hb : Below w.heap.size w wx) (hi : Lib.index ((t.data.toList.drop pos).take (E - pos)) u.data.toList = i) :
    Calls Try.prog 38 #[.string (t.extract pos E), .string u] wx fun e w' => e = .returned (.int .i64 i) ∧ wx = w' := by
  have e : (t.extract pos E).data.toList = (t.data.toList.drop pos).take (E - pos) := Lib.extract_data t pos E
  rw [← hi, ← e]
  exact H _ _ _ (by rw [ByteArray.size_extract]; omega) hb

def texts (ss : List ByteArray) : List (List UInt8) := ss.map fun s => s.data.toList
theorem texts_length (ss : List ByteArray) : (texts ss).length = ss.length := by simp [texts]
theorem texts_getD (ss : List ByteArray) (k : Nat) (h : k < ss.length) : (texts ss).getD k [] = (ss.getD k ByteArray.empty).data.toList := by
  simp [texts, h]

/-- What a test leaves. -/
def TestEnd (v : Bool) (w : World) (e : Ending) (w' : World) : Prop := e = .returned (.bool v) ∧ Below w.heap.size w w'

theorem pre35 (t u : ByteArray) (v : Bool) (w : World) (hv : Lib.hasPrefix t.data.toList u.data.toList = v) : Calls Try.prog 35 #[.string t, .string u] w fun e w' => e = .returned (.bool v) ∧ w = w' := by
  subst hv; exact (Try.strings_HasPrefix t u w).mono fun _ _ ⟨h1, h2⟩ => ⟨h1, h2.symm⟩
theorem suf37 (t u : ByteArray) (v : Bool) (w : World) (ht : t.size ≤ 1048576) (hv : Lib.hasSuffix t.data.toList u.data.toList = v) : Calls Try.prog 37 #[.string t, .string u] w fun e w' => e = .returned (.bool v) ∧ w = w' := by
  subst hv; exact (Try.strings_HasSuffix t u w (by omega)).mono fun _ _ ⟨h1, h2⟩ => ⟨h1, h2.symm⟩

theorem ext_eq (a c : ByteArray) (h : a.data.toList = c.data.toList) : a = c := by
  rw [← Lib.mk_data a, ← Lib.mk_data c, h]
theorem rest_eq (t : ByteArray) (pos E d : Nat) : (t.extract pos E).extract d (E - pos) = t.extract (pos + d) E := by
  apply ext_eq
  rw [Lib.extract_data, Lib.extract_data, Lib.extract_data, List.drop_take, List.drop_drop, List.take_take]
  congr 1
  omega

set_option maxHeartbeats 1000000 in
theorem stars33 (dp : Bool) (b off len cap : Nat) (ss : List ByteArray) (t : ByteArray) (w : World) (hl : ss.length = len) (h2 : 2 ≤ len) (hlc : len ≤ cap) (hcap : cap ≤ 1048576) (ht : t.size ≤ 1048576)
    (hs : ∀ i, i < ss.length → (ss.getD i ByteArray.empty).size ≤ 1048576) (hc : ∀ i, i < len → w.cell? ⟨b, off + i, none⟩ = some (.string (ss.getD i ByteArray.empty))) (hidx : IdxOk w) :
    Calls Try.prog 33 #[.agg #[.bool dp, .slice (some ⟨b, off, none⟩) len cap], .string t] w (TestEnd (globB (texts ss) t.data.toList) w) := by
  have hb0 : Below w.heap.size w (w.alloc (.cells #[.bool dp, .slice (some ⟨b, off, none⟩) len cap] 48)) := (Below.refl _ _).alloc (Nat.le_refl _) _
  have hF0 := cell_later hb0 (hc 0 (by omega))
  have hL0 := cell_later hb0 (hc (len - 1) (by omega))
  have hsF := hs 0 (by omega)
  have hsL := hs (len - 1) (by omega)
  have hgF := texts_getD ss 0 (by omega)
  have hgL := texts_getD ss (len - 1) (by omega)
  obtain ⟨fst, hfst⟩ : ∃ s, s = ss.getD 0 ByteArray.empty := ⟨_, rfl⟩
  obtain ⟨lst, hlst⟩ : ∃ s, s = ss.getD (len - 1) ByteArray.empty := ⟨_, rfl⟩
  rw [← hfst] at hF0 hsF hgF
  rw [← hlst] at hL0 hsL hgL
  rw [Nat.add_zero] at hF0
  have GF : Hid ((texts ss).getD 0 [] = fst.data.toList) := hgF
  have GL : Hid ((texts ss).getD (len - 1) [] = lst.data.toList) := hgL
  have HC : Hid (∀ i, i < len → w.cell? ⟨b, off + i, none⟩ = some (.string (ss.getD i ByteArray.empty))) := hc
  have HS : Hid (∀ i, i < ss.length → (ss.getD i ByteArray.empty).size ≤ 1048576) := hs
  have i0 : (0 : Int) < (len : Int) := by omega
  have i1 : (0 : Int) ≤ (len : Int) - 1 := by omega
  have i2 : (len : Int) - 1 < (len : Int) := by omega
  clear hfst hlst hgF hgL hc hs
  have eT := Lib.size_eq t
  have eF := Lib.size_eq fst
  have eL := Lib.size_eq lst
  have hps : 2 ≤ (texts ss).length := by rw [texts_length]; omega
  have HPS : Hid ((texts ss).length - 1 = len - 1) := by rw [texts_length, hl]; rfl
  obtain ⟨v, hv⟩ : ∃ v, v = globB (texts ss) t.data.toList := ⟨_, rfl⟩
  rw [← hv]
  have HV : Hid (v = globB (texts ss) t.data.toList) := hv
  clear hv
  have ET : Hid (t.size = t.data.toList.length) := eT
  have EF : Hid (fst.size = fst.data.toList.length) := eF
  have EL : Hid (lst.size = lst.data.toList.length) := eL
  clear eT eF eL
  go_enter Try.func33, Try.ntmps33
  go_wp2
  go_region
  by_cases hshort : t.size < fst.size + lst.size
  · go_wp2
    go_ret
    refine ⟨?_, hb0.drew⟩
    rw [HV.out, short_end hps (by rw [HPS.out, GF.out, GL.out, ← ET.out, ← EF.out, ← EL.out]; exact hshort)]
    rfl
  · cases hpre : Lib.hasPrefix t.data.toList fst.data.toList with
    | false =>
      have HP : Hid (Lib.hasPrefix t.data.toList fst.data.toList = false) := hpre
      clear hpre
      go_wp2_with (go_at_call 35; refine (pre35 t fst false _ HP.out).mono ?_; rintro e w' ⟨rfl, rfl⟩)
      go_ret
      refine ⟨?_, hb0.drew⟩
      rw [HV.out, prefix_end hps (by rw [GF.out]; exact HP.out)]
      rfl
    | true =>
      have HP : Hid (Lib.hasPrefix t.data.toList fst.data.toList = true) := hpre
      clear hpre
      cases hsuf : Lib.hasSuffix t.data.toList lst.data.toList with
      | false =>
        have HU : Hid (Lib.hasSuffix t.data.toList lst.data.toList = false) := hsuf
        clear hsuf
        go_wp2_with (first | (go_at_call 35; refine (pre35 t fst true _ HP.out).mono ?_; rintro e w' ⟨rfl, rfl⟩) | (go_at_call 37; refine (suf37 t lst false _ ht HU.out).mono ?_; rintro e w' ⟨rfl, rfl⟩))
        go_ret
        refine ⟨?_, hb0.drew⟩
        rw [HV.out, suffix_end hps (by rw [HPS.out, GL.out]; exact HU.out)]
        rfl
      | true =>
        have HU : Hid (Lib.hasSuffix t.data.toList lst.data.toList = true) := hsuf
        clear hsuf
        go_wp2_with (first | (go_at_call 35; refine (pre35 t fst true _ HP.out).mono ?_; rintro e w' ⟨rfl, rfl⟩) | (go_at_call 37; refine (suf37 t lst true _ ht HU.out).mono ?_; rintro e w' ⟨rfl, rfl⟩))
        go_loop [7, 58] (fun r i => ∃ k pos : Nat, k ≤ len - 2 ∧ i = .int .i64 k ∧ pos ≤ t.size - lst.size ∧ r = .string (t.extract pos (t.size - lst.size)) ∧ Hid (Live t.data.toList (texts ss) (t.size - lst.size) (k + 1) pos)) (fun _ i => len - (intOf i).toNat)
        case atStart => exact ⟨0, fst.size, by omega, rfl, by omega, rfl, by rw [EF.out, ← GF.out]; exact live_first _ (by rw [GF.out]; exact HP.out)⟩
        case round =>
          obtain ⟨k, pos, hk, rfl, hpos, rfl, hL⟩ := hrel
          by_cases hlt : k < len - 2
          · have hck := cell_later hb0 (HC.out (k + 1) (by omega))
            have hsk := HS.out (k + 1) (by omega)
            have hgk := texts_getD ss (k + 1) (by omega)
            obtain ⟨u, hu⟩ : ∃ u, u = ss.getD (k + 1) ByteArray.empty := ⟨_, rfl⟩
            rw [← hu] at hck hsk hgk
            rw [show off + (k + 1) = off + 1 + k from by omega] at hck
            have GU : Hid ((texts ss).getD (k + 1) [] = u.data.toList) := hgk
            have EU : Hid (u.size = u.data.toList.length) := Lib.size_eq u
            clear hu hgk
            rcases live_step (E := t.size - lst.size) (by rw [← ET.out]; omega) hpos (Nat.succ_pos k) hL.out with ⟨hi, hD⟩ | ⟨i, hi, hr, hN⟩
            · rw [GU.out] at hi
              have HI : Hid (Lib.index ((t.data.toList.drop pos).take (t.size - lst.size - pos)) u.data.toList = -1) := hi
              have HD : Hid (Dead t.data.toList (texts ss) (t.size - lst.size) (k + 1 + 1)) := hD
              clear hi hD
              go_wp2_with (go_at_call 38; refine (idx38 hidx t u pos (t.size - lst.size) (-1) ht hb0.drew HI.out).mono ?_; rintro e w' ⟨rfl, rfl⟩)
              go_ret
              refine ⟨?_, hb0.drew⟩
              rw [HV.out, dead_end hps (t := k + 1 + 1) (by omega) (by rw [texts_length]; omega) (by rw [HPS.out, GL.out, ← ET.out, ← EL.out]; exact HD.out)]
              rfl
            · rw [GU.out] at hi hr hN
              rw [← EU.out] at hr hN
              have HI : Hid (Lib.index ((t.data.toList.drop pos).take (t.size - lst.size - pos)) u.data.toList = (i : Int)) := hi
              have HN : Hid (Live t.data.toList (texts ss) (t.size - lst.size) (k + 1 + 1) (pos + (i + u.size))) := hN
              clear hi hN
              have hsz : (t.extract pos (t.size - lst.size)).size = t.size - lst.size - pos := by rw [ByteArray.size_extract]; omega
              go_wp2_with (go_at_call 38; refine (idx38 hidx t u pos (t.size - lst.size) i ht hb0.drew HI.out).mono ?_; rintro e w' ⟨rfl, rfl⟩)
              go_round
              case rel => exact ⟨k + 1, pos + (i + u.size), by omega, by go_num, by omega, by rw [rest_eq], HN.out⟩
              case measure => simp [intOf]; omega
          · have ek : k + 1 = (texts ss).length - 1 := by rw [texts_length]; omega
            have EK : Hid (k + 1 = (texts ss).length - 1) := ek
            clear ek
            go_wp2
            go_ret
            refine ⟨?_, hb0.drew⟩
            rw [HV.out, live_end hps (pos := pos) (by rw [HPS.out, GL.out]; exact HU.out) (by rw [← EK.out, show k + 1 = (texts ss).length - 1 from EK.out, HPS.out, GL.out, ← ET.out, ← EL.out, ← HPS.out, ← EK.out]; exact hL.out) (by rw [HPS.out, GL.out, ← ET.out, ← EL.out]; exact hpos)]
            rfl

theorem stars24 (dp : Bool) (b off len cap : Nat) (ss : List ByteArray) (t : ByteArray) (w : World) (hl : ss.length = len) (h2 : 2 ≤ len) (hlc : len ≤ cap) (hcap : cap ≤ 1048576) (ht : t.size ≤ 1048576)
    (hs : ∀ i, i < ss.length → (ss.getD i ByteArray.empty).size ≤ 1048576) (hc : ∀ i, i < len → w.cell? ⟨b, off + i, none⟩ = some (.string (ss.getD i ByteArray.empty))) (hidx : IdxOk w) :
    Calls Try.prog 24 #[.bool dp, .slice (some ⟨b, off, none⟩) len cap, .string t] w (TestEnd (globB (texts ss) t.data.toList) w) := by
  have C : Hid (Calls Try.prog 33 #[.agg #[.bool dp, .slice (some ⟨b, off, none⟩) len cap], .string t] w (TestEnd (globB (texts ss) t.data.toList) w)) := stars33 dp b off len cap ss t w hl h2 hlc hcap ht hs hc hidx
  clear hs hc hidx
  obtain ⟨v, hv⟩ : ∃ v, v = globB (texts ss) t.data.toList := ⟨_, rfl⟩
  rw [← hv] at C ⊢
  clear hv
  go_enter Try.func24, Try.ntmps24
  go_wp2_with fail
  refine C.out.mono ?_
  rintro e w' ⟨rfl, hb⟩
  go_wp2
  go_ret
  exact ⟨rfl, hb⟩

end Go.Proofs.Qxb6602242a
