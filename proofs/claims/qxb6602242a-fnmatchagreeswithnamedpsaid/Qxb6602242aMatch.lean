/-
  matchAt (30) at an element, Match (16).
-/
import Derived.Test.Qxb6602242aPat
namespace Go.Proofs.Qxb6602242a
open Go.RowKit

theorem at30 (dp : Bool) (x : Option Addr) (ss : List ByteArray) (t : ByteArray) (a : Nat) (w : World) (ht : t.size ≤ 1048576) (ha : a ≤ t.size) (h1 : 0 < ss.length) (hl : ss.length ≤ 1048576)
    (hs : ∀ i, i < ss.length → (ss.getD i ByteArray.empty).size ≤ 1048576) (hn : ∀ k, k < ss.length → NoSlash (ss.getD k ByteArray.empty)) (h : IsStrs w x ss) (hidx : IdxOk w) :
    Calls Try.prog 30 #[.agg #[.bool dp, .slice x ss.length ss.length], .string t, .int .i64 a] w (AtEnd (globB (texts ss) ((t.data.toList.drop a).take (nameEnd t.data.toList a - a))) (nameEnd t.data.toList a) w) := by
  obtain ⟨b, off, rfl, hc0⟩ := h 0 h1
  have hc : ∀ i, i < ss.length → w.cell? ⟨b, off + i, none⟩ = some (.string (ss.getD i ByteArray.empty)) := by
    intro i hi
    obtain ⟨b', off', e, hc⟩ := h i hi
    simp only [Option.some.injEq, Addr.mk.injEq, and_true] at e
    obtain ⟨rfl, rfl⟩ := e
    exact hc
  by_cases h2 : 2 ≤ ss.length
  · exact at30_stars dp b off ss.length ss.length ss t a w rfl h2 (Nat.le_refl _) hl ht ha hs hc hidx
  · match ss, h1, h2 with
    | [u], _, _ => exact at30_one dp b off 1 u t a w ht (hs 0 (by simp)) ha (hn 0 (by simp)) (by simpa using hc0)
    | _ :: _ :: _, _, h => exact absurd (by simp) h

theorem NamesOf.step {p : List UInt8} {m : Nat} {pos : Nat → Nat} (h : NamesOf p m pos) {k : Nat} (hk : k < m) : pos k < pos (k + 1) := by
  rw [h.next k hk]
  have := (isEnd p (pos k) (h.le k hk)).1
  omega
theorem NamesOf.mono {p : List UInt8} {m : Nat} {pos : Nat → Nat} (h : NamesOf p m pos) {r i : Nat} (hr : r ≤ i) (hi : i ≤ m) : pos r ≤ pos i := by
  induction i with
  | zero => have : r = 0 := by omega
            subst this; exact Nat.le_refl _
  | succ i ih =>
    by_cases e : r = i + 1
    · subst e; exact Nat.le_refl _
    · have h1 := ih (by omega) (by omega)
      have h2 := h.step (k := i) (by omega)
      omega

theorem meas_on {a a' b b' c : Nat} (h1 : a' ≤ a) (h2 : b' < b) : a' * c + b' < a * c + b := by
  have := Nat.mul_le_mul_right c h1; omega
theorem meas_back {a a' b b' c : Nat} (h1 : a' < a) (h2 : b' < c) : a' * c + b' < a * c + b := by
  have := Nat.mul_le_mul_right c (show a' + 1 ≤ a from h1)
  rw [Nat.add_mul, Nat.one_mul] at this; omega

/-- Does element j take name i? -/
def okOf (ps : List (List ByteArray)) (p : List UInt8) (j i : Nat) : Bool := globB (texts (ps.getD j [])) (nameOf p (posOf p) i)
def deepOf (ds : List Bool) (j : Nat) : Bool := ds.getD j false

/-- What the slots 'deepAt' and 'resume' hold. -/
def Back (p : List UInt8) (d : Option Nat) (r : Nat) (dA : Int) (res : Nat) : Prop := (d = none ∧ dA = -1 ∧ res = 0) ∨ ∃ d0 : Nat, d = some d0 ∧ dA = d0 ∧ res = posOf p r

set_option maxRecDepth 100000 in
set_option maxHeartbeats 2000000 in
theorem match16 (sr : ByteArray) (g n : Nat) (ds : List Bool) (ps : List (List ByteArray)) (F : Nat → Option Addr) (t : ByteArray) (w : World) (hl' : ps.length = n) (hlen : n ≤ 1048576) (ht : t.size ≤ 1048576)
    (hsm : SmallTo 1048576 n ps) (hok : ∀ j, j < n → ElemOk ds ps j) (hE : Elems w g ds ps F) (hidx : IdxOk w) :
    Calls Try.prog 16 #[.agg #[.string sr, .slice (some ⟨g, 0, none⟩) n n], .string t] w (TestEnd (modelT (deepOf ds) (okOf ps t.data.toList) n (mOf t.data.toList)) w) := by
  have hb0 : Below w.heap.size w (w.alloc (.cells #[.string sr, .slice (some ⟨g, 0, none⟩) n n] 31)) := (Below.refl _ _).alloc (Nat.le_refl _) _
  have hN := namesOf t.data.toList
  have hML := mOf_le t.data.toList
  rw [← Lib.size_eq] at hML
  obtain ⟨v, hv⟩ : ∃ v, v = modelT (deepOf ds) (okOf ps t.data.toList) n (mOf t.data.toList) := ⟨_, rfl⟩
  rw [← hv]
  have HV : Hid (v = true ↔ Suf (deepOf ds) (okOf ps t.data.toList) n (mOf t.data.toList) 0 0) := by
    show v = true ↔ _
    rw [hv]; exact model_end
  clear hv
  have hp0 : posOf t.data.toList 0 ≤ t.size + 1 := by
    rw [Lib.size_eq, ← hN.last]; exact hN.mono (Nat.zero_le _) (Nat.le_refl _)
  obtain ⟨m, hm⟩ : ∃ m, m = mOf t.data.toList := ⟨_, rfl⟩
  rw [← hm] at HV hN hML
  have HS : Hid (SmallTo 1048576 n ps) := hsm
  have HO : Hid (∀ j, j < n → ElemOk ds ps j) := hok
  have HN : Hid (NamesOf t.data.toList m (posOf t.data.toList)) := hN
  have HE : Hid (Elems w g ds ps F) := hE
  have ET : Hid (t.size = t.data.toList.length) := Lib.size_eq t
  obtain ⟨q0, hq0⟩ : ∃ q0, q0 = posOf t.data.toList 0 := ⟨_, rfl⟩
  have HQ0 : Hid (q0 = posOf t.data.toList 0) := hq0
  rw [← hq0] at hp0
  have hstart : (q0 = 0 ∧ (t.toList == ([46] : List UInt8)) = false) ∨ (q0 = t.size + 1 ∧ (t.toList == ([46] : List UInt8)) = true) := by
    by_cases hdot : t.data.toList = [46]
    · refine .inr ⟨?_, by rw [dot_data]; exact decide_eq_true hdot⟩
      rw [hq0]; unfold posOf; rw [if_pos hdot, Lib.size_eq]
    · refine .inl ⟨?_, by rw [dot_data]; exact decide_eq_false hdot⟩
      rw [hq0]; unfold posOf; rw [if_neg hdot]; rfl
  clear hsm hok hE hN hq0 hm
  rcases hstart with ⟨e0, hd⟩ | ⟨e0, hd⟩
  all_goals
    have E0 : Hid (q0 = _) := e0
    clear e0
    go_enter Try.func16, Try.ntmps16
    go_wp2
    go_loopw [5, 7, 8, 9] (fun x5 x7 x8 x9 wr => ∃ (i j r : Nat) (d : Option Nat) (dA : Int) (res : Nat), Hid (Stand (deepOf ds) (okOf ps t.data.toList) n m j i d r) ∧ x5 = .int .i64 (posOf t.data.toList i) ∧ x7 = .int .i64 j ∧ x8 = .int .i64 dA ∧ res ≤ t.size + 1 ∧ x9 = .int .i64 res ∧ Hid (Back t.data.toList d r dA res) ∧
        Below (w.heap.size + 1) (w.alloc (.cells #[.string sr, .slice (some ⟨g, 0, none⟩) n n] 31)) wr) (fun _ x7 _ x9 _ => (t.size + 2 - (intOf x9).toNat) * (n + 2) + (n - (intOf x7).toNat))
    case atStart => exact ⟨0, 0, 0, none, -1, 0, stand_start 0 (Nat.zero_le _), by rw [← HQ0.out, E0.out]; go_num, rfl, rfl, by omega, rfl, .inl ⟨rfl, rfl, rfl⟩, Below.refl _ _⟩
    case round =>
      obtain ⟨i, j, r, d, dA, res, HSt, rfl, rfl, rfl, hres, rfl, hBk, hbr⟩ := hrel
      have hjn : j ≤ n := HSt.out.1
      have him0 : i ≤ m := HSt.out.2.1
      have hbw : Below w.heap.size w wr := hb0.trans (hbr.mono (by omega))
      have hbx : wr.heap[w.heap.size]? = some (.cells #[.string sr, .slice (some ⟨g, 0, none⟩) n n] 31 (0, 0)) := by rw [hbr.block _ (by omega)]; exact heap_alloc_new _ _
      have hb1 : wr.cell? ⟨w.heap.size, 1, none⟩ = some (.slice (some ⟨g, 0, none⟩) n n) := by rw [cell_of_row _ _ _ _ _ _ hbx]; rfl
      clear hbx
      have hwsz : w.heap.size + 1 ≤ wr.heap.size := by have := hbr.size; simpa using this
      by_cases him : i < m
      · have hpi : posOf t.data.toList i ≤ t.size := by rw [ET.out]; exact HN.out.le i him
        have HPN : Hid (posOf t.data.toList (i + 1) = nameEnd t.data.toList (posOf t.data.toList i) + 1) := HN.out.next i him
        have HNM : Hid (nameOf t.data.toList (posOf t.data.toList) i = (t.data.toList.drop (posOf t.data.toList i)).take (nameEnd t.data.toList (posOf t.data.toList i) - posOf t.data.toList i)) := rfl
        have HRP : Hid (∀ r', r' ≤ i → posOf t.data.toList r' ≤ posOf t.data.toList i) := fun r' hr' => HN.out.mono hr' him0
        obtain ⟨q, hq⟩ : ∃ q, q = posOf t.data.toList i := ⟨_, rfl⟩
        rw [← hq] at hpi
        have HQ : Hid (q = posOf t.data.toList i) := hq
        rw [← hq]
        clear hq
        by_cases hj : j < n
        · obtain ⟨ec0, ec1, est, enil⟩ := HE.out j (by omega)
          have ed0 := cell_later hbw ec0
          have ed1 := cell_later hbw ec1
          have est' := est.later hbw
          clear ec0 ec1 est
          cases hdp : ds.getD j false with
          | true =>
            rw [hdp] at ed0
            have HD : Hid (deepOf ds j = true) := hdp
            clear hdp ed1 est' enil
            go_wp2
            go_roundw
            case rel => exact ⟨i, j + 1, i, some j, (j : Int), q, stand_deep HSt.out hj HD.out, by rw [HQ.out], by go_num, rfl, by omega, rfl, .inr ⟨j, rfl, rfl, HQ.out⟩, hbr⟩
            case measure =>
              have h1 : res ≤ q := by
                rcases hBk.out with ⟨_, _, e⟩ | ⟨d0, _, _, e⟩
                · omega
                · rw [e, HQ.out]; exact HRP.out r HSt.out.2.2.1
              simp only [intOf]
              refine meas_on ?_ ?_
              · show t.size + 2 - ((q : Nat) : Int).toNat ≤ t.size + 2 - ((res : Nat) : Int).toNat
                omega
              · omega
          | false =>
            rw [hdp] at ed0
            have HD : Hid (deepOf ds j = false) := hdp
            obtain ⟨eo1, eo2⟩ := HO.out j hj hdp
            obtain ⟨es1, es2⟩ := HS.out j hj
            have C : Hid (Calls Try.prog 30 #[.agg #[.bool false, .slice (F j) (ps.getD j []).length (ps.getD j []).length], .string t, .int .i64 q] wr (AtEnd (okOf ps t.data.toList j i) (nameEnd t.data.toList q) wr)) := by
              have := at30 false (F j) (ps.getD j []) t q wr ht hpi eo1 es1 es2 eo2 est' (hidx.later hbw)
              unfold okOf
              rw [HNM.out, ← HQ.out]
              exact this
            obtain ⟨l, hle⟩ : ∃ l, l = (ps.getD j []).length := ⟨_, rfl⟩
            rw [← hle] at ed1 C
            clear hdp hle est' enil eo1 eo2 es1 es2
            cases hok : okOf ps t.data.toList j i with
            | true =>
              rw [hok] at C
              have HOK : Hid (okOf ps t.data.toList j i = true) := hok
              clear hok
              go_wp2_with fail
              refine C.out.mono ?_
              rintro e w2 ⟨nx, rfl, hnx, hb2⟩
              have HNX : Hid (nx = (nameEnd t.data.toList q : Int) + 1) := hnx rfl
              clear hnx C
              go_wp2
              go_roundw
              case rel =>
                refine ⟨i + 1, j + 1, r, d, dA, res, stand_hit HSt.out hj him HD.out HOK.out, ?_, by go_num, rfl, hres, rfl, hBk, hbr.trans (hb2.mono hwsz)⟩
                rw [HNX.out, HPN.out, HQ.out]; go_num
              case measure =>
                simp only [intOf]
                refine meas_on (Nat.le_refl _) ?_
                omega
            | false =>
              rw [hok] at C
              have HSK : Hid (Stuck (deepOf ds) (okOf ps t.data.toList) n j i) := .inr ⟨hj, HD.out, hok⟩
              clear hok
              rcases hBk with ⟨rfl, rfl, rfl⟩ | ⟨d0, rfl, rfl, rfl⟩
              · go_wp2_with fail
                refine C.out.mono ?_
                rintro e w2 ⟨nx, rfl, hnx, hb2⟩
                clear hnx C
                go_wp2
                go_ret
                refine ⟨?_, hbw.trans (hb2.mono (by omega))⟩
                have hvf : v = false := by
                  rw [Bool.eq_false_iff]
                  intro hv
                  exact stand_no HSt.out him HSK.out (HV.out.1 hv)
                rw [hvf]
                rfl
              · have hrm : r < m := by have := HSt.out.2.2.1; omega
                have hrp : posOf t.data.toList r ≤ t.size := by rw [ET.out]; exact HN.out.le r hrm
                have HRN : Hid (posOf t.data.toList (r + 1) = nameEnd t.data.toList (posOf t.data.toList r) + 1) := HN.out.next r hrm
                have HRL : Hid (posOf t.data.toList r < posOf t.data.toList (r + 1)) := HN.out.step hrm
                have HRT : Hid (posOf t.data.toList (r + 1) ≤ t.size + 1) := by
                  show _ ≤ _
                  rw [ET.out, ← HN.out.last]; exact HN.out.mono hrm (Nat.le_refl _)
                have HDJ : Hid (d0 + 1 ≤ j) := HSt.out.2.2.2.1
                obtain ⟨qr, hqr⟩ : ∃ qr, qr = posOf t.data.toList r := ⟨_, rfl⟩
                rw [← hqr] at hrp
                have HQR : Hid (qr = posOf t.data.toList r) := hqr
                rw [← hqr]
                obtain ⟨er, her⟩ : ∃ er, er = nameEnd t.data.toList qr := ⟨_, rfl⟩
                have HER : Hid (er = nameEnd t.data.toList qr) := her
                have HNR : Hid (∀ wx, Calls Try.prog 31 #[.string t, .int .i64 qr] wx (NameEnd t qr er wx)) := by
                  intro wx
                  rw [her]; exact name31 t qr wx ht hrp
                have hdj : d0 + 1 ≤ n := by have := HDJ.out; omega
                have her2 : er ≤ t.size := by
                  rw [her, ET.out]
                  exact (isEnd t.data.toList qr (by rw [← ET.out]; exact hrp)).2.1
                clear hqr her
                go_wp2_with fail
                refine C.out.mono ?_
                rintro e w2 ⟨nx, rfl, hnx, hb2⟩
                clear hnx C
                go_wp2_with (go_at_call 31; refine (HNR.out _).mono ?_; rintro e w3 ⟨rfl, rfl⟩)
                go_roundw
                case rel =>
                  refine ⟨r + 1, d0 + 1, r + 1, some d0, (d0 : Int), er + 1, stand_back HSt.out him HSK.out, ?_, ?_, rfl, ?_, ?_, .inr ⟨d0, rfl, rfl, ?_⟩, hbr.trans (hb2.mono hwsz)⟩
                  · rw [HRN.out, ← HQR.out, ← HER.out]; go_num
                  · go_num
                  · omega
                  · go_num
                  · rw [HRN.out, ← HQR.out, ← HER.out]
                case measure =>
                  have h1 : qr < er + 1 := by
                    have := HRL.out
                    rw [HRN.out, ← HQR.out, ← HER.out] at this
                    exact this
                  simp only [intOf]
                  refine meas_back ?_ ?_
                  · show t.size + 2 - ((er : Int) + 1).toNat < t.size + 2 - ((qr : Nat) : Int).toNat
                    omega
                  · omega
        · have HSK : Hid (Stuck (deepOf ds) (okOf ps t.data.toList) n j i) := .inl (by omega)
          rcases hBk with ⟨rfl, rfl, rfl⟩ | ⟨d0, rfl, rfl, rfl⟩
          · go_wp2
            go_ret
            refine ⟨?_, hbw⟩
            have hvf : v = false := by
              rw [Bool.eq_false_iff]
              intro hv
              exact stand_no HSt.out him HSK.out (HV.out.1 hv)
            rw [hvf]
            rfl
          · have hrm : r < m := by have := HSt.out.2.2.1; omega
            have hrp : posOf t.data.toList r ≤ t.size := by rw [ET.out]; exact HN.out.le r hrm
            have HRN : Hid (posOf t.data.toList (r + 1) = nameEnd t.data.toList (posOf t.data.toList r) + 1) := HN.out.next r hrm
            have HRL : Hid (posOf t.data.toList r < posOf t.data.toList (r + 1)) := HN.out.step hrm
            have HRT : Hid (posOf t.data.toList (r + 1) ≤ t.size + 1) := by
              show _ ≤ _
              rw [ET.out, ← HN.out.last]; exact HN.out.mono hrm (Nat.le_refl _)
            have HDJ : Hid (d0 + 1 ≤ j) := HSt.out.2.2.2.1
            obtain ⟨qr, hqr⟩ : ∃ qr, qr = posOf t.data.toList r := ⟨_, rfl⟩
            rw [← hqr] at hrp
            have HQR : Hid (qr = posOf t.data.toList r) := hqr
            rw [← hqr]
            obtain ⟨er, her⟩ : ∃ er, er = nameEnd t.data.toList qr := ⟨_, rfl⟩
            have HER : Hid (er = nameEnd t.data.toList qr) := her
            have HNR : Hid (∀ wx, Calls Try.prog 31 #[.string t, .int .i64 qr] wx (NameEnd t qr er wx)) := by
              intro wx
              rw [her]; exact name31 t qr wx ht hrp
            have hdj : d0 + 1 ≤ n := by have := HDJ.out; omega
            have her2 : er ≤ t.size := by
              rw [her, ET.out]
              exact (isEnd t.data.toList qr (by rw [← ET.out]; exact hrp)).2.1
            clear hqr her
            go_wp2_with (go_at_call 31; refine (HNR.out _).mono ?_; rintro e w2 ⟨rfl, rfl⟩)
            go_roundw
            case rel =>
              refine ⟨r + 1, d0 + 1, r + 1, some d0, (d0 : Int), er + 1, stand_back HSt.out him HSK.out, ?_, ?_, rfl, ?_, ?_, .inr ⟨d0, rfl, rfl, ?_⟩, hbr⟩
              · rw [HRN.out, ← HQR.out, ← HER.out]; go_num
              · go_num
              · omega
              · go_num
              · rw [HRN.out, ← HQR.out, ← HER.out]
            case measure =>
              have h1 : qr < er + 1 := by
                have := HRL.out
                rw [HRN.out, ← HQR.out, ← HER.out] at this
                exact this
              simp only [intOf]
              refine meas_back ?_ ?_
              · show t.size + 2 - ((er : Int) + 1).toNat < t.size + 2 - ((qr : Nat) : Int).toNat
                omega
              · omega
      · have eim : i = m := by omega
        have HLAST : Hid (Suf (deepOf ds) (okOf ps t.data.toList) n m 0 0 ↔ Suf (deepOf ds) (okOf ps t.data.toList) n m j m) := by
          have := HSt.out
          rw [eim] at this
          exact stand_last this
        have hpi : posOf t.data.toList i = t.size + 1 := by rw [eim, HN.out.last, ET.out]
        rw [hpi]
        clear hpi eim
        go_wp2
        go_loop [7] (fun x7 => ∃ k : Nat, k ≤ n ∧ x7 = .int .i64 k ∧ Hid (Suf (deepOf ds) (okOf ps t.data.toList) n m 0 0 ↔ Suf (deepOf ds) (okOf ps t.data.toList) n m k m)) (fun x7 => n - (intOf x7).toNat)
        case atStart => exact ⟨j, hjn, rfl, HLAST.out⟩
        case round =>
          obtain ⟨k, hk, rfl, HK⟩ := hrel
          by_cases hkn : k < n
          · obtain ⟨ec0, ec1, est, enil⟩ := HE.out k (by omega)
            have ed0 := cell_later hbw ec0
            clear ec0 ec1 est enil
            cases hdp : ds.getD k false with
            | true =>
              rw [hdp] at ed0
              have HD : Hid (deepOf ds k = true) := hdp
              clear hdp
              go_wp2
              go_round
              case rel => exact ⟨k + 1, by omega, by go_num, HK.out.trans (last_deep hkn HD.out)⟩
              case measure => simp [intOf]; omega
            | false =>
              rw [hdp] at ed0
              have HD : Hid (deepOf ds k = false) := hdp
              have hne : ((k : Int) == (n : Int)) = false := by rw [beq_eq_false_iff_ne]; omega
              clear hdp
              go_wp2
              go_ret
              refine ⟨?_, hbw⟩
              have hvf : v = false := by
                rw [Bool.eq_false_iff]
                intro hv
                exact last_not hkn HD.out (HK.out.1 (HV.out.1 hv))
              rw [hvf]
              rfl
          · have ekn : k = n := by omega
            have hne : ((k : Int) == (n : Int)) = true := by rw [beq_iff_eq]; omega
            have HKN : Hid (k = n) := ekn
            clear ekn
            go_wp2
            go_ret
            refine ⟨?_, hbw⟩
            have hvt : v = true := HV.out.2 (HK.out.2 (by rw [HKN.out]; exact (suf_end _).2 rfl))
            rw [hvt]
            rfl

end Go.Proofs.Qxb6602242a
