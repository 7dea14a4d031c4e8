/-
  THE WALK of FnIsDigitAcceptsExactlyDecimalDigits (3), and of ZZisDigit (5), isDigit (6).
-/
import Derived.Test.Qxb6608621aDec
namespace Go.Proofs.Qxb6608621a
open Go.RowKit

theorem dig_yes (c : Int) (w : World) (h1 : 48 ≤ c) (h2 : c ≤ 57) : Calls Try.prog 5 #[.int .u8 c] w fun e w' => e = .returned (.bool true) ∧ w = w' := by
  go_enter Try.func5, Try.ntmps5
  go_wp2
  go_ret
  exact ⟨rfl, rfl⟩
theorem dig_no (c : Int) (w : World) (h : c < 48 ∨ (48 ≤ c ∧ 57 < c)) : Calls Try.prog 5 #[.int .u8 c] w fun e w' => e = .returned (.bool false) ∧ w = w' := by
  rcases h with h | ⟨h, h'⟩
  · go_enter Try.func5, Try.ntmps5
    go_wp2
    go_ret
    exact ⟨rfl, rfl⟩
  · have hd : decide (c ≤ 57) = false := by simp; omega
    go_enter Try.func5, Try.ntmps5
    go_wp2
    go_ret
    exact ⟨rfl, rfl⟩

/-- how many of the first c byte values are digits -/
def cd (c : Nat) : Nat := if c ≤ 48 then 0 else if c ≤ 58 then c - 48 else 10
theorem cd_in {c : Nat} (h1 : 48 ≤ c) (h2 : c ≤ 57) : cd (c + 1) = cd c + 1 := by
  unfold cd
  rw [if_neg (by omega), if_pos (by omega)]
  by_cases e : c ≤ 48
  · rw [if_pos e]; omega
  · rw [if_neg e, if_pos (by omega)]; omega
theorem cd_out {c : Nat} (h : c < 48 ∨ 57 < c) : cd (c + 1) = cd c := by
  unfold cd
  rcases h with h | h
  · rw [if_pos (by omega), if_pos (by omega)]
  · rw [if_neg (by omega), if_neg (by omega), if_neg (by omega)]
    by_cases e : c ≤ 58
    · rw [if_pos e]; omega
    · rw [if_neg e]
theorem cd_le (c : Nat) : cd c ≤ 10 := by unfold cd; split <;> (try split) <;> omega

set_option maxRecDepth 100000 in
set_option maxHeartbeats 1000000 in
theorem law (N : Nat) (w : World) (hN : N < 18446744073709551616) : Calls Try.prog 3 #[.int .u64 (N : Int)] w fun e w' => e = .returned (.bool true) ∧ Below w.heap.size w w' := by
  have H1 := hide (dec_any N w hN)
  clear hN
  go_enter Try.func3, Try.ntmps3
  go_wp2_with fail
  refine H1.out.mono ?_
  rintro e w1 ⟨cs, s, rfl, hs, hsz, hcs, hb⟩
  have HC := hide hcs
  have HB := hide hb
  have HO := hide (all_one hcs hsz)
  clear hcs hb H1
  go_wp2_with (refine wpList_store_row rfl 23 (.tmp 3) (.tmp 11) rfl w1.heap.size cs rfl rfl 23 _ (heap_alloc_new w1 _) (by rw [hsz]; exact Try.size23) (by rw [hsz]; rfl) HO.out ?_)
  obtain ⟨w2, hw2⟩ : ∃ x, x = (w1.alloc (.cells (Array.replicate 20 (Value.int .u8 0)) 23)).setRow w1.heap.size cs := ⟨_, rfl⟩
  have hw2' : w2 = (w1.alloc (.cells #[Value.int .u8 0, .int .u8 0, .int .u8 0, .int .u8 0, .int .u8 0, .int .u8 0, .int .u8 0, .int .u8 0, .int .u8 0, .int .u8 0, .int .u8 0, .int .u8 0, .int .u8 0, .int .u8 0, .int .u8 0, .int .u8 0, .int .u8 0, .int .u8 0, .int .u8 0, .int .u8 0] 23)).setRow w1.heap.size cs := hw2
  rw [← hw2']
  have hrow : w2.heap[w1.heap.size]? = some (.cells cs 23 (0, 0)) := by rw [hw2]; exact setRow_heap _ _ _ _ 23 _ (heap_alloc_new w1 _)
  have HB2 : Hid (Below w.heap.size w w2) := by
    rw [hw2]
    have hb := HB.out
    exact (hb.alloc hb.size _).trans ⟨rfl, rfl, rfl, by simp, fun k hk => setRow_other _ w1.heap.size k cs (by have := hb.size; omega)⟩
  have HCell : Hid (∀ j, j < 20 → ∃ d : Int, w2.cell? ⟨w1.heap.size, j, none⟩ = some (.int .u8 d) ∧ (s ≤ j → 48 ≤ d ∧ d ≤ 57)) := fun j hj => by
    rw [cell_of_row w2 _ j cs 23 (0, 0) hrow]; exact HC.out j hj
  clear hw2 hw2' HB HC HO hrow
  go_loop [5] (fun i => ∃ k : Nat, s ≤ k ∧ k ≤ 20 ∧ i = .int .i64 k) (fun i => 20 - (intOf i).toNat)
  case atStart => exact ⟨s, by omega, by omega, rfl⟩
  case round =>
    obtain ⟨k, hk0, hk, rfl⟩ := hrel
    by_cases hlt : k < 20
    · obtain ⟨d, hc, hd⟩ := HCell.out k hlt
      obtain ⟨hd1, hd2⟩ := hd hk0
      go_wp2_with (go_at_call 5; refine (dig_yes d _ hd1 hd2).mono ?_; rintro e w' ⟨rfl, rfl⟩)
      go_round
      case rel => exact ⟨k + 1, by omega, by omega, by go_num⟩
      case measure => simp [intOf]; omega
    · clear HCell
      go_wp2
      go_loop [6, 7] (fun n i => ∃ c : Nat, c ≤ 256 ∧ i = .int .i64 c ∧ n = .int .i64 (cd c : Nat)) (fun _ i => 256 - (intOf i).toNat)
      case atStart => exact ⟨0, by omega, rfl, rfl⟩
      case round =>
        obtain ⟨c, hc, rfl, rfl⟩ := hrel
        have hcd := cd_le c
        by_cases hlt2 : c < 256
        · by_cases h1 : 48 ≤ c ∧ c ≤ 57
          · have HCD := hide (cd_in h1.1 h1.2)
            go_wp2_with fail
            refine (dig_yes (c : Int) _ (by omega) (by omega)).mono ?_
            rintro e w' ⟨rfl, rfl⟩
            go_wp2_with fail
            go_round
            case rel => exact ⟨c + 1, by omega, by go_num, by rw [HCD.out]; go_num⟩
            case measure => simp [intOf]; omega
          · have HCD := hide (cd_out (show c < 48 ∨ 57 < c by omega))
            go_wp2_with fail
            refine (dig_no (c : Int) _ (by omega)).mono ?_
            rintro e w' ⟨rfl, rfl⟩
            go_wp2_with fail
            go_round
            case rel => exact ⟨c + 1, by omega, by go_num, by rw [HCD.out]⟩
            case measure => simp [intOf]; omega
        · obtain rfl : c = 256 := by omega
          go_wp2
          go_ret
          exact ⟨rfl, HB2.out⟩
end Go.Proofs.Qxb6608621a
