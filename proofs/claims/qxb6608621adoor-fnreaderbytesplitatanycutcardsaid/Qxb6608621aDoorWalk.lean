/-
  THE WALK of FnReaderByteSplitAtAnyCut (3), the law itself.
-/
import Derived.Test.Qxb6608621aDoorLaw
namespace Go.Proofs.Qxb6608621aDoor
open Go.RowKit

theorem bytes4 (a : Option Addr) (n c : Nat) (k : Int) (w : World) (hm : n ≤ 1048576) : Calls Tryd.prog 4 #[.slice a n c, .int .i64 k] w fun e w' => e = .returned (.bool true) ∧ w = w' := by
  go_enter Tryd.func4, Tryd.ntmps4
  go_wp2
  go_ret
  exact ⟨rfl, rfl⟩
set_option maxRecDepth 100000 in
theorem long (a : Option Addr) (n c : Nat) (k : Int) (w : World) (hm : n ≤ 9223372036854775807) (h : 65536 < n) : Calls Tryd.prog 3 #[.slice a n c, .int .i64 k] w fun e w' => e = .returned (.bool true) ∧ Below w.heap.size w w' := by
  by_cases h' : 1048576 < n
  · go_enter Tryd.func3, Tryd.ntmps3
    go_wp2
    go_ret
    exact ⟨rfl, Below.refl _ _⟩
  · go_enter Tryd.func3, Tryd.ntmps3
    go_wp2
    go_ret
    exact ⟨rfl, Below.refl _ _⟩
set_option maxRecDepth 100000 in
theorem out (a : Option Addr) (n c : Nat) (k : Int) (w : World) (hm : n ≤ 65536) (h : k < 0 ∨ (0 ≤ k ∧ (n : Int) < k)) : Calls Tryd.prog 3 #[.slice a n c, .int .i64 k] w fun e w' => e = .returned (.bool true) ∧ Below w.heap.size w w' := by
  rcases h with h | ⟨h, h'⟩
  · go_enter Tryd.func3, Tryd.ntmps3
    go_wp2
    go_ret
    exact ⟨rfl, Below.refl _ _⟩
  · go_enter Tryd.func3, Tryd.ntmps3
    go_wp2
    go_ret
    exact ⟨rfl, Below.refl _ _⟩

set_option maxRecDepth 100000 in
set_option maxHeartbeats 4000000 in
theorem split (ao : Option Addr) (n c k : Nat) (z : Nat → Int) (a b : Addr) (w : World) (hm : n ≤ 65536) (hk : k ≤ n) (hn : ao = none → n = 0) (h : HB w ao n z)
    (hE : w.cell? ⟨0, 0, none⟩ = some (.iface 43 (.pointer (some a)))) (hU : w.cell? ⟨1, 0, none⟩ = some (.iface 43 (.pointer (some b)))) :
    Calls Tryd.prog 3 #[.slice ao n c, .int .i64 (k : Int)] w fun e w' => e = .returned (.bool true) ∧ Below w.heap.size w w' := by
  have H1 := hide (clone_any ao n c z w (by omega) hn h)
  have HE := hide hE
  have HU := hide hU
  have q1 := fun w a => run_take w a n k hk
  have q2 := fun w a => run_cut w a n k hk
  clear hE hU h hn
  go_enter Tryd.func3, Tryd.ntmps3
  go_wp2_with (go_at_call 4; refine (bytes4 _ _ _ _ _ (by omega)).mono ?_; rintro e w' ⟨rfl, rfl⟩)
  refine H1.out.mono ?_
  rintro e w1 ⟨aW, rfl, hn1, hb1, hB1⟩
  have H2 := hide (clone_any aW n n z w1 (by omega) hn1 hb1)
  have C1 := hide hb1
  have B1 := hide hB1
  clear hn1 hb1 hB1 H1
  go_wp2_with fail
  refine H2.out.mono ?_
  rintro e w2 ⟨aV, rfl, hn2, hb2, hB2⟩
  have C1' := hide (C1.out.below hB2)
  have C2 := hide hb2
  have N2 := hide hn2
  have B2 := hide (B1.out.trans (hB2.mono B1.out.size))
  clear hn2 hb2 hB2 H2 C1 B1
  have H3 := hide (held_any aW n n a w2 (by rw [B2.out.cell (World.block_lt_of_cell? w _ HE.out)]; exact HE.out))
  go_wp2_with fail
  refine H3.out.mono ?_
  rintro e w3 ⟨gW, rfl, hg1, hg2, hR, hB3⟩
  have RW := hide hR
  have CW3 := hide (C1'.out.below hB3)
  have CV3 := hide (C2.out.below hB3)
  have B3 := hide (B2.out.trans (hB3.mono B2.out.size))
  have S3 := hide hB3.size
  have GW := hide (And.intro (Nat.le_trans B2.out.size hg1) hg2)
  clear hR hB3 hg1 hg2 H3 C1' C2 B2
  have H4 := hide (clone_any aV k n z w3 (by omega) (fun h => by have := N2.out h; omega) (CV3.out.take hk))
  go_wp2_with fail
  refine H4.out.mono ?_
  rintro e w4 ⟨aH, rfl, _, hb4, hB4⟩
  have CH4 := hide hb4
  have CW4 := hide (CW3.out.below hB4)
  have CV4 := hide (CV3.out.below hB4)
  have RW4 := hide (RW.out.below hB4 GW.out.2)
  have B4 := hide (B3.out.trans (hB4.mono B3.out.size))
  have GW4 := hide (Nat.lt_of_lt_of_le GW.out.2 hB4.size)
  clear hb4 hB4 H4 CW3 CV3 RW B3 S3
  have H5 := hide (held_any aH k k a w4 (by rw [B4.out.cell (World.block_lt_of_cell? w _ HE.out)]; exact HE.out))
  go_wp2_with fail
  refine H5.out.mono ?_
  rintro e w5 ⟨gH, rfl, hg1, hg2, hR, hB5⟩
  have RH := hide hR
  have CH5 := hide (CH4.out.below hB5)
  have CW5 := hide (CW4.out.below hB5)
  have CV5 := hide (CV4.out.below hB5)
  have RW5 := hide (RW4.out.below hB5 GW4.out)
  have B5 := hide (B4.out.trans (hB5.mono B4.out.size))
  have GW5 := hide (Nat.lt_of_lt_of_le GW4.out hB5.size)
  have GH := hide (And.intro (Nat.lt_of_lt_of_le GW4.out hg1) hg2)
  clear hR hB5 hg1 hg2 H5 CH4 CW4 CV4 RW4 B4 GW4
  have H6 := hide (clone_any (cutA aV n k) (n - k) (n - k) (fun j => z (k + j)) w5 (by omega) (fun h => by
    by_cases e : n = k
    · omega
    · unfold cutA at h; rw [if_neg e] at h
      cases aV with
      | none => have := N2.out rfl; omega
      | some x => cases h) (CV5.out.cut hk))
  obtain ⟨m, em⟩ : ∃ m, m = n - k := ⟨_, rfl⟩
  rw [← em] at H6 q2
  have HM := hide em
  clear em N2
  go_wp2_with fail
  refine H6.out.mono ?_
  rintro e w6 ⟨aT, rfl, _, hb6, hB6⟩
  have CT6 := hide hb6
  have CH6 := hide (CH5.out.below hB6)
  have CW6 := hide (CW5.out.below hB6)
  have CV6 := hide (CV5.out.below hB6)
  have RW6 := hide (RW5.out.below hB6 GW5.out)
  have RH6 := hide (RH.out.below hB6 GH.out.2)
  have B6 := hide (B5.out.trans (hB6.mono B5.out.size))
  have GW6 := hide (Nat.lt_of_lt_of_le GW5.out hB6.size)
  have GH6 := hide (Nat.lt_of_lt_of_le GH.out.2 hB6.size)
  clear hb6 hB6 H6 CH5 CW5 CV5 RW5 RH B5 GW5
  have H7 := hide (held_any aT m m a w6 (by rw [B6.out.cell (World.block_lt_of_cell? w _ HE.out)]; exact HE.out))
  go_wp2_with fail
  refine H7.out.mono ?_
  rintro e w7 ⟨gT, rfl, hg1, hg2, hR, hB7⟩
  have ST0 : Hid (ST w w7 a gW gH gT aW aH aT aV n k z 0 0 0) := by
    have hRT := hR
    have hCT := CT6.out.below hB7
    rw [HM.out] at hRT hCT
    exact ⟨RW6.out.below hB7 GW6.out, RH6.out.below hB7 GH6.out, hRT, CW6.out.below hB7, CH6.out.below hB7, hCT, CV6.out.below hB7, B6.out.trans (hB7.mono B6.out.size), GW.out.1, by have := GW.out.1; have := GH.out.1; omega, Nat.le_trans B6.out.size hg1, by have := GH.out.1; omega, by have := GW6.out; omega, by have := GH6.out; omega⟩
  clear hR hB7 hg1 hg2 H7 CT6 CH6 CW6 CV6 RW6 RH6 B6 GW6 GH6 GW GH q1 q2
  go_wp2_with fail
  go_loopw [9] (fun i wr => ∃ j : Nat, j ≤ k ∧ i = .int .i64 j ∧ ST w wr a gW gH gT aW aH aT aV n k z j j 0) (fun i _ => k - (intOf i).toNat)
  case atStart => exact ⟨0, by omega, rfl, ST0.out⟩
  obtain ⟨j, hj, rfl, S⟩ := hrel
  have HS := hide S
  clear S ST0
  by_cases hlt : j < k
  · have H1 := hide (HS.out.byteW (by omega) (by omega))
    go_wp2_with fail
    refine H1.out.mono ?_
    rintro e w8 ⟨rfl, S1⟩
    have HS1 := hide S1
    have H2 := hide (S1.byteH hlt (by omega))
    clear S1 H1 HS
    go_wp2_with fail
    refine H2.out.mono ?_
    rintro e w9 ⟨rfl, S2⟩
    have HS2 := hide S2
    obtain ⟨bv, ov, rfl, hc⟩ := S2.bV j (by omega)
    clear S2 H2 HS1
    go_wp2_with fail
    go_roundw
    case rel => exact ⟨j + 1, by omega, by go_num, HS2.out⟩
    case measure => simp [intOf]; omega
  obtain rfl : k = j := by omega
  have H1 := hide (pos_any gW (k : Int) wr HS.out.rW.pos)
  have H2 := hide (pos_any gH (k : Int) wr HS.out.rH.pos)
  have H3 := hide (HS.out.endH (b := b) (by omega) HE.out HU.out)
  clear HS
  go_wp2_with fail
  refine H1.out.mono ?_
  rintro e w8 ⟨rfl, rfl⟩
  go_wp2_with fail
  refine H2.out.mono ?_
  rintro e w8 ⟨rfl, rfl⟩
  go_wp2_with fail
  refine H3.out.mono ?_
  rintro e w9 ⟨rfl, S⟩
  have HS := hide S
  clear S H1 H2 H3
  go_wp2_with fail
  go_loopw [16] (fun i wr => ∃ j t : Nat, Hid (j = k + t) ∧ j ≤ n + 1 ∧ i = .int .i64 j ∧ Below w.heap.size w wr ∧ (j ≤ n → ST w wr a gW gH gT aW aH aT aV n k z j k t)) (fun i _ => n + 1 - (intOf i).toNat)
  case atStart => exact ⟨k, 0, (by show k = k + 0; omega), by omega, rfl, HS.out.below, fun _ => HS.out⟩
  obtain ⟨j, t, HJ, hj, rfl, hb, S⟩ := hrel
  have HB := hide hb
  have HS' := hide S
  clear HS hb S
  by_cases hlt : j < n
  · have S0 := HS'.out (by omega)
    have H1 := hide (S0.byteW hlt (by omega))
    have e0 : ((j : Int) == (n : Int)) = false := by simp; omega
    clear S0
    go_wp2_with fail
    refine H1.out.mono ?_
    rintro e w8 ⟨rfl, S1⟩
    have H2 := hide (S1.byteT (by have := HJ.out; omega) (by omega))
    have ez : z (k + t) = z j := by rw [HJ.out]
    rw [ez] at H2
    clear S1 H1 HS' ez
    go_wp2_with fail
    refine H2.out.mono ?_
    rintro e w9 ⟨rfl, S2⟩
    have HS2 := hide S2
    obtain ⟨bv, ov, rfl, hc⟩ := S2.bV j hlt
    clear S2 H2
    go_wp2_with fail
    go_quiet (fail)
    go_wp2
    go_roundw
    case rel => exact ⟨j + 1, t + 1, (by show j + 1 = k + (t + 1); have := HJ.out; omega), by omega, by go_num, (HS2.out.drewN _).below, fun _ => HS2.out.drewN _⟩
    case measure => simp [intOf]; omega
  by_cases hlt2 : j = n
  · have S0 := HS'.out (by omega)
    have et : t = n - k := by have := HJ.out; omega
    rw [hlt2, et] at S0
    have H1 := hide (S0.endW (b := b) (by omega) HE.out HU.out)
    have e0 : ((j : Int) == (n : Int)) = true := by simp; omega
    have hle : (j : Int) ≤ (n : Int) := by omega
    have hge : (n : Int) ≤ (j : Int) := by omega
    have hdec : decide ((j : Int) < (n : Int)) = false := by simp; omega
    have HL := hide hlt2
    clear S0 hlt2 et
    go_wp2_with fail
    refine H1.out.mono ?_
    rintro e w8 ⟨rfl, S1⟩
    have H2 := hide (S1.endT (b := b) (by omega) HE.out HU.out)
    clear S1 H1 HS'
    go_wp2_with fail
    refine H2.out.mono ?_
    rintro e w9 ⟨rfl, S2⟩
    have HS2 := hide S2.below
    clear S2 H2
    go_wp2_with fail
    go_quiet (fail)
    go_wp2
    go_roundw
    case rel => exact ⟨j + 1, t + 1, (by show j + 1 = k + (t + 1); have := HJ.out; omega), by have := HL.out; omega, by go_num, below_drewN HS2.out _, fun h => by have := HL.out; omega⟩
    case measure => simp [intOf]; omega
  have hgt : ¬ ((j : Int) ≤ (n : Int)) := by omega
  clear HS'
  go_wp2
  go_ret
  exact ⟨rfl, HB.out⟩
end Go.Proofs.Qxb6608621aDoor
