/-
  FnLineEndScanWithOneCacheVisitsEveryLineEnd (9): the walk.
-/
import Derived.Test.Qxb6602222aLine
namespace Go.Proofs.Qxb6602222a
open Go.RowKit

/-- What a law leaves: true; nothing old is turned. -/
def LawEnd (w : World) (e : Ending) (w' : World) : Prop := e = .returned (.bool true) ∧ Below w.heap.size w w'

theorem cache_next {f : Nat → Int} {n lo x r : Nat} (hx : lo ≤ x) (hxr : x ≤ r) (h : FirstCR f n lo r) : CacheOk f n (x + 1) (r : Int) := by
  obtain ⟨_, h2, h3, h4⟩ := h
  by_cases e : r < x + 1
  · exact .inl (by omega)
  · exact .inr ⟨r, rfl, by omega, h2, h3, fun j h5 h6 => h4 j (by omega) h6⟩

set_option maxHeartbeats 1000000 in
set_option maxRecDepth 100000 in
theorem law9 (a : Option Addr) (n cap : Nat) (f : Nat → Int) (w : World) (hn : n ≤ 9223372036854775807) (hf : ∀ j, j < n → 0 ≤ f j ∧ f j ≤ 255) (h : IsBytes w a n f) (hz : a = none → n = 0) :
    Calls Try.prog 9 #[.slice a n cap] w (LawEnd w) := by
  go_enter Try.func9, Try.ntmps9
  go_wp2_with fail
  refine (bytes26 a n cap w hn).mono ?_
  rintro e w' ⟨v, rfl, rfl, hv⟩
  cases v with
  | false =>
    go_wp2
    go_ret
    exact ⟨rfl, Below.refl _ _⟩
  | true =>
    have hn' : n ≤ 1048576 := hv rfl
    clear hv
    go_wp2_with fail
    refine (clone11 a n cap f w' hn' h hz).mono ?_
    rintro e w4 ⟨hb4, ⟨rfl, rfl⟩ | ⟨g, rfl, hgl, hg⟩⟩
    · clear h hz
      have hk5 : (w4.alloc (.cells #[.int .i64 (-1)] 3)).heap[w4.heap.size]? = some (.cells #[.int .i64 (-1)] 3 (0, 0)) := heap_alloc_new _ _
      have C : Hid (Calls Try.prog 25 #[.slice none 0 0, .int .i64 0, .pointer (some ⟨w4.heap.size, 0, none⟩)] (w4.alloc (.cells #[.int .i64 (-1)] 3)) (NilEnd w4.heap.size (w4.alloc (.cells #[.int .i64 (-1)] 3)))) := line25_nil _ _ hk5
      clear hk5
      go_wp2
      refine wp_loop_rounds 1 ?_
      rw [rounds_succ]
      go_wp2_with fail
      refine C.out.mono ?_
      rintro e w6 ⟨rfl, h6, hb6⟩
      have hc6 : w6.cell? ⟨w4.heap.size, 0, none⟩ = some (.int .i64 0) := by rw [cell_of_row _ _ _ _ _ _ h6]; rfl
      clear h6
      go_wp2
      refine wp_loop_rounds 1 ?_
      rw [rounds_succ]
      go_wp2
      go_ret
      exact ⟨rfl, hb4.trans ((((Below.refl w4.heap.size w4).alloc (Nat.le_refl _) _).trans hb6).mono hb4.size)⟩
    · clear h hz
      go_wp2
      go_loopw [4] (fun i wr => ∃ (lo : Nat) (cr : Int), lo ≤ n ∧ i = .int .i64 lo ∧ Hid (CacheOk f n lo cr) ∧ wr.heap[w4.heap.size]? = some (.cells #[.int .i64 cr] 3 (0, 0)) ∧ Below w4.heap.size w4 wr) (fun i _ => n + 1 - (intOf i).toNat)
      case atStart => exact ⟨0, -1, Nat.zero_le _, rfl, .inl (by omega), heap_alloc_new _ _, (Below.refl _ _).alloc (Nat.le_refl _) _⟩
      case round =>
        obtain ⟨lo, cr, hlo, rfl, hC, hk, hbr⟩ := hrel
        have C : Hid (Calls Try.prog 25 #[.slice (some ⟨g, 0, none⟩) n n, .int .i64 lo, .pointer (some ⟨w4.heap.size, 0, none⟩)] wr (LineEnd f n lo w4.heap.size wr)) :=
          line25 g w4.heap.size n lo cr f wr hn' hlo hC.out hf hgl (fun i hi => (hbr.cell hgl).trans (hg i hi)) hk
        clear hC hk
        go_wp2_with fail
        refine C.out.mono ?_
        rintro e w6 ⟨x, r, rfl, hE, hxr, hR, hk6, hb6⟩
        have hb := hbr.trans hb6
        have hg6 : ∀ i, i < n → w6.cell? ⟨g, i, none⟩ = some (.int .u8 (f i)) := fun i hi => (hb.cell hgl).trans (hg i hi)
        have hc6 : w6.cell? ⟨w4.heap.size, 0, none⟩ = some (.int .i64 r) := by rw [cell_of_row _ _ _ _ _ _ hk6]; rfl
        have HK : Hid (w6.heap[w4.heap.size]? = some (.cells #[.int .i64 r] 3 (0, 0))) := hk6
        obtain ⟨e1, e2, e3, e4⟩ := hE
        obtain ⟨r1, r2, r3, r4⟩ := hR
        have HR : Hid (FirstCR f n lo r) := ⟨r1, r2, r3, r4⟩
        have HG : Hid (∀ i, i < n → w6.cell? ⟨g, i, none⟩ = some (.int .u8 (f i))) := hg6
        have H4 : Hid (∀ j, lo ≤ j → j < x → f j ≠ 13 ∧ f j ≠ 10) := e4
        have H3 : Hid (x < n → f x = 13 ∨ f x = 10) := e3
        clear hk6 e4 r4 hg6 C e3 hbr hb6
        by_cases hrn : r < n
        · have hcr := HG.out r hrn
          have n13 : (f r != 13) = false := by rw [r3 hrn]; rfl
          clear r3
          go_wp2
          go_loop [6] (fun i => ∃ j : Nat, lo ≤ j ∧ j ≤ x ∧ i = .int .i64 j) (fun i => x - (intOf i).toNat)
          case atStart => exact ⟨lo, Nat.le_refl _, e1, rfl⟩
          case round =>
            obtain ⟨j, hj1, hj2, rfl⟩ := hrel
            by_cases hjx : j < x
            · have hcj := HG.out j (by omega)
              have n13 : (f j == 13) = false := by rw [beq_eq_false_iff_ne]; exact (H4.out j hj1 hjx).1
              have n10 : (f j == 10) = false := by rw [beq_eq_false_iff_ne]; exact (H4.out j hj1 hjx).2
              go_wp2
              go_round
              case rel => exact ⟨j + 1, by omega, by omega, by go_num⟩
              case measure => simp [intOf]; omega
            · by_cases hxn : x < n
              · have hcx := HG.out x hxn
                rcases H3.out hxn with hx | hx
                · have n13 : (f x != 13) = false := by rw [hx]; rfl
                  have hxx : ((x : Int) == (n : Int)) = false := by rw [beq_eq_false_iff_ne]; omega
                  clear hx
                  go_wp2
                  go_roundw
                  case rel => exact ⟨x + 1, r, by omega, by go_num, cache_next e1 hxr HR.out, HK.out, hb⟩
                  case measure => simp [intOf]; omega
                · have n13 : (f x != 13) = true := by rw [hx]; rfl
                  have n10 : (f x != 10) = false := by rw [hx]; rfl
                  have hxx : ((x : Int) == (n : Int)) = false := by rw [beq_eq_false_iff_ne]; omega
                  clear hx
                  go_wp2
                  go_roundw
                  case rel => exact ⟨x + 1, r, by omega, by go_num, cache_next e1 hxr HR.out, HK.out, hb⟩
                  case measure => simp [intOf]; omega
              · have hxx : ((x : Int) == (n : Int)) = true := by rw [beq_iff_eq]; omega
                go_wp2
                go_ret
                exact ⟨rfl, hb4.trans (hb.mono hb4.size)⟩
        · clear r3
          go_wp2
          go_loop [6] (fun i => ∃ j : Nat, lo ≤ j ∧ j ≤ x ∧ i = .int .i64 j) (fun i => x - (intOf i).toNat)
          case atStart => exact ⟨lo, Nat.le_refl _, e1, rfl⟩
          case round =>
            obtain ⟨j, hj1, hj2, rfl⟩ := hrel
            by_cases hjx : j < x
            · have hcj := HG.out j (by omega)
              have n13 : (f j == 13) = false := by rw [beq_eq_false_iff_ne]; exact (H4.out j hj1 hjx).1
              have n10 : (f j == 10) = false := by rw [beq_eq_false_iff_ne]; exact (H4.out j hj1 hjx).2
              go_wp2
              go_round
              case rel => exact ⟨j + 1, by omega, by omega, by go_num⟩
              case measure => simp [intOf]; omega
            · by_cases hxn : x < n
              · have hcx := HG.out x hxn
                rcases H3.out hxn with hx | hx
                · have n13 : (f x != 13) = false := by rw [hx]; rfl
                  have hxx : ((x : Int) == (n : Int)) = false := by rw [beq_eq_false_iff_ne]; omega
                  clear hx
                  go_wp2
                  go_roundw
                  case rel => exact ⟨x + 1, r, by omega, by go_num, cache_next e1 hxr HR.out, HK.out, hb⟩
                  case measure => simp [intOf]; omega
                · have n13 : (f x != 13) = true := by rw [hx]; rfl
                  have n10 : (f x != 10) = false := by rw [hx]; rfl
                  have hxx : ((x : Int) == (n : Int)) = false := by rw [beq_eq_false_iff_ne]; omega
                  clear hx
                  go_wp2
                  go_roundw
                  case rel => exact ⟨x + 1, r, by omega, by go_num, cache_next e1 hxr HR.out, HK.out, hb⟩
                  case measure => simp [intOf]; omega
              · have hxx : ((x : Int) == (n : Int)) = true := by rw [beq_iff_eq]; omega
                go_wp2
                go_ret
                exact ⟨rfl, hb4.trans (hb.mono hb4.size)⟩

end Go.Proofs.Qxb6602222a
