/-
  zzModelMatch (17).
-/
import Derived.Test.Qxb6602242aMatch
import Derived.Deep.RegionHeld3
namespace Go.Proofs.Qxb6602242a
open Go.RowKit

theorem IsInts.later {w wx : World} {a : Option Addr} {n : Nat} {f : Nat → Nat} (h : IsInts w a n f) (hb : Below w.heap.size w wx) : IsInts wx a n f := by
  intro i hi
  obtain ⟨b, off, rfl, hc⟩ := h i hi
  exact ⟨b, off, rfl, cell_later hb hc⟩

theorem step_miss {gg S : Nat → Bool} {j : Nat} (h1 : 1 ≤ j) (h : S (j - 1) = false) : false = stepS gg S j := by
  obtain ⟨i, rfl⟩ : ∃ i, j = i + 1 := ⟨j - 1, by omega⟩
  rw [stepS, show S i = false from h]; rfl
theorem step_hit {gg S : Nat → Bool} {j : Nat} (h1 : 1 ≤ j) (h : S (j - 1) = true) : gg (j - 1) = stepS gg S j := by
  obtain ⟨i, rfl⟩ : ∃ i, j = i + 1 := ⟨j - 1, by omega⟩
  rw [stepS, show S i = true from h]; simp

theorem cell_far {w : World} {a c : Addr} (h : a.block ≠ c.block) (x : Value) : (w.setCell c x).cell? a = w.cell? a := World.cell?_of_block (heap_setCell_other _ _ _ _ h)

set_option maxRecDepth 100000 in
set_option maxHeartbeats 4000000 in
theorem model17 (a a' : Option Addr) (n : Nat) (ds : List Bool) (ps : List (List ByteArray)) (F : Nat → Option Addr) (t : ByteArray) (w : World) (hl : ds.length = n) (hl' : ps.length = n) (hlen : n ≤ 1048576) (ht : t.size ≤ 4096)
    (hsm : SmallTo 1048576 n ps) (hd : IsFlags w a ds) (hp : PartsX w a' ps F) :
    Calls Try.prog 17 #[.slice a n n, .slice a' n n, .string t] w (TestEnd (modelT (deepOf ds) (okOf ps t.data.toList) n (mOf t.data.toList)) w) := by
  have hML := mOf_le t.data.toList
  rw [← Lib.size_eq] at hML
  have hN0 := namesOf t.data.toList
  obtain ⟨v, hv⟩ : ∃ v, v = modelT (deepOf ds) (okOf ps t.data.toList) n (mOf t.data.toList) := ⟨_, rfl⟩
  rw [← hv]
  have HNM : Hid (Calls Try.prog 32 #[.string t] w (NamesEnd t.data.toList w)) := names32 t w (by omega)
  unfold NamesEnd at HNM
  obtain ⟨m, hm⟩ : ∃ m, m = mOf t.data.toList := ⟨_, rfl⟩
  rw [← hm] at hML hv HNM hN0
  have HN : Hid (NamesOf t.data.toList m (posOf t.data.toList)) := hN0
  have HV : Hid (v = modelT (deepOf ds) (okOf ps t.data.toList) n m) := hv
  have ET : Hid (t.size = t.data.toList.length) := Lib.size_eq t
  clear hv hm hN0
  have hmk := mk22 m (by omega)
  have hm0 := made_at (m + 1) 0 (by omega)
  go_enter Try.func17, Try.ntmps17
  go_wp2_with fail
  refine HNM.out.mono ?_
  rintro e w1 ⟨a1, a2, rfl, hI1, hI2, hb1⟩
  have hd1 := hd.later hb1
  have hp1 := hp.later hb1
  clear HNM hd hp
  go_wp2
  go_loopw [10, 11, 12] (fun r c i wr => ∃ k g1 g2 : Nat, k ≤ n ∧ i = .int .i64 k ∧ r = .slice (some ⟨g1, 0, none⟩) (m + 1) (m + 1) ∧ c = .slice (some ⟨g2, 0, none⟩) (m + 1) (m + 1) ∧ g1 ≠ g2 ∧ w1.heap.size ≤ g1 ∧ w1.heap.size ≤ g2 ∧
      Part wr g1 (m + 1) (m + 1) (modelT (deepOf ds) (okOf ps t.data.toList) k) ∧ Part wr g2 (m + 1) 0 (fun _ => false) ∧ Below w1.heap.size w1 wr) (fun _ _ i _ => n - (intOf i).toNat)
  case atStart =>
    refine ⟨0, w1.heap.size, w1.heap.size + 1, Nat.zero_le _, rfl, rfl, rfl, by omega, Nat.le_refl _, by omega, (Part.first w1 _).alloc _, ?_, ((Below.refl _ _).alloc (Nat.le_refl _) _).alloc (by simp) _⟩
    have := Part.made (w1.alloc (.cells ((madeCells #[.bool false] (m + 1)).setIfInBounds 0 (.bool true)) 4)) (m + 1) (fun _ => false)
    rwa [show (w1.alloc (.cells ((madeCells #[.bool false] (m + 1)).setIfInBounds 0 (.bool true)) 4)).heap.size = w1.heap.size + 1 from by simp] at this
  case round =>
    obtain ⟨k, g1, g2, hk, rfl, rfl, rfl, hg12, hB1, hB2, hP1, hP2, hbel⟩ := hrel
    by_cases hlt : k < n
    · obtain ⟨b0, off0, rfl, hc0⟩ := hd1 k (by omega)
      have hcd := (hbel.cell (World.block_lt_of_cell? _ _ hc0)).trans hc0
      clear hc0
      cases hdp : ds.getD k false with
      | true =>
        rw [hdp] at hcd
        have HD : Hid (deepOf ds k = true) := hdp
        clear hdp
        obtain ⟨x0, hx0⟩ := hP2.some (j := 0) (by omega)
        have hf0 := hP2.free 0
        have hr0 := hP1.cell (j := 0) (by omega)
        obtain ⟨s0, hs0⟩ : ∃ x, x = modelT (deepOf ds) (okOf ps t.data.toList) k 0 := ⟨_, rfl⟩
        rw [← hs0] at hr0
        have HS0 : Hid (s0 = modelT (deepOf ds) (okOf ps t.data.toList) k 0) := hs0
        clear hs0
        go_wp2
        go_loopw [13] (fun i wr => ∃ j : Nat, 1 ≤ j ∧ j ≤ m + 1 ∧ i = .int .i64 j ∧ Part wr g2 (m + 1) j (starS (modelT (deepOf ds) (okOf ps t.data.toList) k)) ∧ Part wr g1 (m + 1) (m + 1) (modelT (deepOf ds) (okOf ps t.data.toList) k) ∧ Below w1.heap.size w1 wr) (fun i _ => m + 1 - (intOf i).toNat)
        case atStart => exact ⟨1, Nat.le_refl _, by omega, rfl, (hP2.zero _).put (by omega) HS0.out, hP1.other hg12 _, hbel.setCell hB2 _⟩
        case round =>
          clear hx0 hf0 hr0 hP1 hP2 hbel hcd
          obtain ⟨j, hj1, hj2, rfl, hP2, hP1, hbel⟩ := hrel
          by_cases hjn : j ≤ m
          · have hcr := hP1.cell (j := j) (by omega)
            have hcp := hP2.cell (j := j - 1) (by omega)
            obtain ⟨x1, hx1⟩ := hP2.some (j := j) (by omega)
            have hf1 := hP2.free j
            cases hS : modelT (deepOf ds) (okOf ps t.data.toList) k j with
            | true =>
              rw [hS] at hcr
              have HLT : Hid (modelT (deepOf ds) (okOf ps t.data.toList) k j = true) := hS
              clear hS hcp
              go_wp2
              go_roundw
              case rel => exact ⟨j + 1, by omega, by omega, by go_num, hP2.put (by omega) (star_hit hj1 HLT.out), hP1.other hg12 _, hbel.setCell hB2 _⟩
              case measure => simp [intOf]; omega
            | false =>
              rw [hS] at hcr
              have HLT : Hid (modelT (deepOf ds) (okOf ps t.data.toList) k j = false) := hS
              clear hS
              obtain ⟨s1, hs1⟩ : ∃ x, x = starS (modelT (deepOf ds) (okOf ps t.data.toList) k) (j - 1) := ⟨_, rfl⟩
              rw [← hs1] at hcp
              have HS1 : Hid (s1 = starS (modelT (deepOf ds) (okOf ps t.data.toList) k) (j - 1)) := hs1
              clear hs1
              go_wp2
              go_roundw
              case rel => exact ⟨j + 1, by omega, by omega, by go_num, hP2.put (by omega) (HS1.out.trans (star_miss hj1 HLT.out)), hP1.other hg12 _, hbel.setCell hB2 _⟩
              case measure => simp [intOf]; omega
          · have ej : j = m + 1 := by omega
            have hPn : Part wr g2 (m + 1) (m + 1) (modelT (deepOf ds) (okOf ps t.data.toList) (k + 1)) := by
              rw [ej] at hP2
              rw [modelT, if_pos HD.out]; exact hP2
            clear hP2 ej
            go_wp2
            go_roundw
            case rel => exact ⟨k + 1, g2, g1, by omega, by go_num, rfl, rfl, Ne.symm hg12, hB2, hB1, hPn, hP1.zero _, hbel⟩
            case measure => simp [intOf]; omega
      | false =>
        rw [hdp] at hcd
        have HD : Hid (deepOf ds k = false) := hdp
        clear hdp
        obtain ⟨x0, hx0⟩ := hP2.some (j := 0) (by omega)
        have hf0 := hP2.free 0
        go_wp2
        go_loopw [14] (fun i wr => ∃ j : Nat, 1 ≤ j ∧ j ≤ m + 1 ∧ i = .int .i64 j ∧ Part wr g2 (m + 1) j (stepS (okOf ps t.data.toList k) (modelT (deepOf ds) (okOf ps t.data.toList) k)) ∧ Part wr g1 (m + 1) (m + 1) (modelT (deepOf ds) (okOf ps t.data.toList) k) ∧ Below w1.heap.size w1 wr) (fun i _ => m + 1 - (intOf i).toNat)
        case atStart => exact ⟨1, Nat.le_refl _, by omega, rfl, (hP2.zero _).put (by omega) rfl, hP1.other hg12 _, hbel.setCell hB2 _⟩
        case round =>
          clear hx0 hf0 hP1 hP2 hbel hcd
          obtain ⟨j, hj1, hj2, rfl, hP2, hP1, hbel⟩ := hrel
          by_cases hjn : j ≤ m
          · have hcr := hP1.cell (j := j - 1) (by omega)
            obtain ⟨x1, hx1⟩ := hP2.some (j := j) (by omega)
            have hf1 := hP2.free j
            have i1 : (0 : Int) ≤ (j : Int) - 1 := by omega
            have i2 : (j : Int) - 1 < (m : Int) + 1 := by omega
            have i3 : (0 : Int) ≤ (j : Int) := by omega
            have i4 : (j : Int) < (m : Int) + 1 := by omega
            have i5 : (j : Int) - 1 < (m : Int) := by omega
            cases hS : modelT (deepOf ds) (okOf ps t.data.toList) k (j - 1) with
            | false =>
              rw [hS] at hcr
              have HLT : Hid (modelT (deepOf ds) (okOf ps t.data.toList) k (j - 1) = false) := hS
              clear hS
              go_wp2
              go_region
              go_wp2
              go_roundw
              case rel => exact ⟨j + 1, by omega, by omega, by go_num, (hP2.put (by omega) (step_miss hj1 HLT.out)).same rfl, (hP1.other hg12 _).same rfl, (hbel.setCell hB2 _).drew⟩
              case measure => simp [intOf]; omega
            | true =>
              rw [hS] at hcr
              have HLT : Hid (modelT (deepOf ds) (okOf ps t.data.toList) k (j - 1) = true) := hS
              clear hS
              obtain ⟨bp, offp, rfl, hcp0, hst0, _⟩ := hp1 k (by omega)
              obtain ⟨bs, offs, rfl, hcs0⟩ := hI1 (j - 1) (by omega)
              obtain ⟨be, offe, rfl, hce0⟩ := hI2 (j - 1) (by omega)
              have hcp := (hbel.cell (World.block_lt_of_cell? _ _ hcp0)).trans hcp0
              have hcs := (hbel.cell (World.block_lt_of_cell? _ _ hcs0)).trans hcs0
              have hce : wr.cell? ⟨be, offe + (j - 1), none⟩ = some (.int .i64 (nameEnd t.data.toList (posOf t.data.toList (j - 1)))) := (hbel.cell (World.block_lt_of_cell? _ _ hce0)).trans hce0
              have hst := hst0.later hbel
              have hpos := HN.out.le (j - 1) (by omega)
              have hend := isEnd t.data.toList (posOf t.data.toList (j - 1)) hpos
              have hse : posOf t.data.toList (j - 1) ≤ nameEnd t.data.toList (posOf t.data.toList (j - 1)) := hend.1
              have het : nameEnd t.data.toList (posOf t.data.toList (j - 1)) ≤ t.size := by rw [ET.out]; exact hend.2.1
              have hsm2 := hsm k hlt
              have hC : ∀ wx, Below wr.heap.size wr wx → Calls Try.prog 25 #[.slice (F k) (ps.getD k []).length (ps.getD k []).length, .string (t.extract (posOf t.data.toList (j - 1)) (nameEnd t.data.toList (posOf t.data.toList (j - 1))))] wx (TestEnd (okOf ps t.data.toList k (j - 1)) wx) := by
                intro wx hbx
                have := glob25 (F k) (ps.getD k []).length (ps.getD k []).length (ps.getD k []) (t.extract (posOf t.data.toList (j - 1)) (nameEnd t.data.toList (posOf t.data.toList (j - 1)))) wx rfl hsm2.1 (by rw [ByteArray.size_extract]; omega) hsm2.2 (hst.later hbx)
                rw [Lib.extract_data] at this
                exact this
              obtain ⟨sn, hsn⟩ : ∃ sn, sn = posOf t.data.toList (j - 1) := ⟨_, rfl⟩
              rw [← hsn] at hcs hce hse het hC
              obtain ⟨en, hen⟩ : ∃ en, en = nameEnd t.data.toList sn := ⟨_, rfl⟩
              rw [← hen] at hce hse het hC
              obtain ⟨l, hle⟩ : ∃ l, l = (ps.getD k []).length := ⟨_, rfl⟩
              rw [← hle] at hcp hC
              obtain ⟨z, hz⟩ : ∃ z, z = okOf ps t.data.toList k (j - 1) := ⟨_, rfl⟩
              rw [← hz] at hC
              have HZ : Hid (z = okOf ps t.data.toList k (j - 1)) := hz
              have HC : Hid (∀ wx, Below wr.heap.size wr wx → Calls Try.prog 25 #[.slice (F k) l l, .string (t.extract sn en)] wx (TestEnd z wx)) := hC
              obtain ⟨q, hq⟩ : ∃ q, q = j - 1 := ⟨_, rfl⟩
              rw [← hq] at hcr hcs hce
              have hwq : IntKind.i64.wrap ((j : Int) - 1) = (q : Int) := by
                have h1 : IntKind.i64.wrap ((j : Int) - 1) = (j : Int) - 1 := (IntWalk.i64_left _).trans (IntWalk.wrap64_in ((j : Int) - 1) ⟨by omega, by omega⟩)
                rw [h1]; omega
              have q1 : (0 : Int) ≤ (q : Int) := by omega
              have q2 : (q : Int) < (m : Int) + 1 := by omega
              have q3 : (q : Int) < (m : Int) := by omega
              have k1 : (0 : Int) ≤ (k : Int) := by omega
              have k2 : (k : Int) < (n : Int) := by omega
              have s1 : (0 : Int) ≤ (sn : Int) := by omega
              have s2 : (sn : Int) ≤ (en : Int) := by omega
              have s3 : (en : Int) ≤ (t.size : Int) := by omega
              have HQ : Hid (q = j - 1) := hq
              have n1 : bp ≠ g2 := by have := World.block_lt_of_cell? _ _ hcp0; intro e; subst e; exact absurd this (by show ¬ bp < _; omega)
              have n2 : bs ≠ g2 := by have := World.block_lt_of_cell? _ _ hcs0; intro e; subst e; exact absurd this (by show ¬ bs < _; omega)
              have n3 : be ≠ g2 := by have := World.block_lt_of_cell? _ _ hce0; intro e; subst e; exact absurd this (by show ¬ be < _; omega)
              clear hq hC hcp0 hcs0 hce0 hst0 hst hpos hend hsn hen hle hz hsm2
              go_wp2
              go_region_held3 (fun w' => w'.cell? ⟨g1, q, none⟩ = some (.bool true) ∧ w'.cell? ⟨bp, offp + k, none⟩ = some (.slice (F k) l l) ∧ w'.cell? ⟨bs, offs + q, none⟩ = some (.int .i64 sn) ∧ w'.cell? ⟨be, offe + q, none⟩ = some (.int .i64 en))
                (first | exact ⟨hcr, hcp, hcs, hce⟩ | exact ⟨cell_later hb2 hcr, cell_later hb2 hcp, cell_later hb2 hcs, cell_later hb2 hce⟩ | exact ⟨(cell_far hg12 _).trans (cell_later hb2 hcr), (cell_far n1 _).trans (cell_later hb2 hcp), (cell_far n2 _).trans (cell_later hb2 hcs), (cell_far n3 _).trans (cell_later hb2 hce)⟩ | go_keep)
                (first | (go_at_call 25; refine (HC.out _ (by first | exact (Below.refl _ _).drew | exact below_drewN (Below.refl _ _) _ | exact Below.refl _ _)).mono ?_; rintro e w2 ⟨rfl, hb2⟩; have hx2 := cell_later hb2 hx1; have hf2 := (hb2.frozen (World.block_lt_of_cell? _ _ hx1)).trans hf1))
              go_wp2
              go_roundw
              case rel => exact ⟨j + 1, by omega, by omega, by go_num, (hP2.same (hb2.block g2 hP2.lt)).put (by omega) (HZ.out.trans (step_hit hj1 HLT.out)), (hP1.same (hb2.block g1 hP1.lt)).other hg12 _, (hbel.drew.trans (hb2.mono hbel.size)).setCell hB2 _⟩
              case measure => simp [intOf]; omega
          · have ej : j = m + 1 := by omega
            have hPn : Part wr g2 (m + 1) (m + 1) (modelT (deepOf ds) (okOf ps t.data.toList) (k + 1)) := by
              rw [ej] at hP2
              rw [modelT, if_neg (by rw [HD.out]; simp)]; exact hP2
            clear hP2 ej
            go_wp2
            go_roundw
            case rel => exact ⟨k + 1, g2, g1, by omega, by go_num, rfl, rfl, Ne.symm hg12, hB2, hB1, hPn, hP1.zero _, hbel⟩
            case measure => simp [intOf]; omega
    · have hck := hP1.cell (j := m) (by omega)
      have ek : k = n := by omega
      have EK : Hid (k = n) := ek
      obtain ⟨x, hx⟩ : ∃ x, x = modelT (deepOf ds) (okOf ps t.data.toList) k m := ⟨_, rfl⟩
      rw [← hx] at hck
      have HX : Hid (x = modelT (deepOf ds) (okOf ps t.data.toList) k m) := hx
      clear ek hx
      go_wp2
      go_ret
      refine ⟨?_, hb1.trans (hbel.mono hb1.size)⟩
      rw [HV.out, ← EK.out, ← HX.out]
      rfl

end Go.Proofs.Qxb6602242a
