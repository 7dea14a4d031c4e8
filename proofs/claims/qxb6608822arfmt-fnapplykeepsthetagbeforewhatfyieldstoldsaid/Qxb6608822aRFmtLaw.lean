/-
  THE WALK of FnApplyKeepsTheTagBeforeWhatFYields (3), case by case.
-/
import Derived.Test.Qxb6608822aRFmtSmall
namespace Go.Proofs.Qxb6608822aRFmt
open Go.RowKit
open Go.Extern.Stop Go.Stop Go.Extern

theorem below_drewN {B : Nat} {a w : World} (h : Below B a w) (n : Nat) : Below B a (w.drewN n) := ⟨h.os, h.tape, h.output, h.size, h.block⟩
theorem answers_below {F : Interp} {B : Nat} {w w' : World} (h : F.answers w.tape) (hb : Below B w w') : F.answers w'.tape := by rw [hb.tape]; exact h

set_option maxRecDepth 100000 in
set_option maxHeartbeats 4000000 in
theorem nil_err (F : Interp) (nm : ByteArray) (h s : Int) (w : World) (hF : F.answers w.tape) (hm0 : nm.size ≤ 524288) :
    Calls Tryf.prog 3 #[.string nm, .int .i64 h, .bool true, .int .i64 s, .slice none 0 0] w fun e w' => e = .returned (.bool true) ∧ Below w.heap.size w w' := by
  have q1 := fun w a n c n' c' => run_neq_slice_nil_any (P := Tryf.prog) w 22 5 a n c n' c' Tryf.underlying22
  have q2 := fun w a n c n' c' => Lib.run_eql_slice_nil (P := Tryf.prog) w 22 5 a n c n' c' Tryf.underlying22
  have H1 := hide (clone_any none 0 0 (fun _ => 0) w (by omega) (fun _ => rfl) (fun j hj => by omega))
  have HF := hide hF
  clear hF
  go_enter Tryf.func3, Tryf.ntmps3
  go_wp2_with (go_at_call 4; refine (bytes4 _ _ _ _ _ _ _ _ (by omega)).mono ?_; rintro e w' ⟨rfl, rfl⟩)
  refine H1.out.mono ?_
  rintro e w1 ⟨aW, rfl, _, hw1, hb1⟩
  have CW := hide hw1
  have B1 := hide hb1
  have HF1 := hide (answers_below HF.out hb1)
  clear hw1 hb1 H1 HF
  have H2 := hide (keep_err F nm h s none 0 w1 HF1.out)
  go_wp2_with fail
  refine H2.out.mono ?_
  rintro e w2 ⟨p1, rfl, hb2⟩
  have B2 := hide (B1.out.trans (hb2.mono B1.out.size))
  have H3 := hide (drop_err F nm h s none 0 w2 (answers_below HF1.out hb2))
  clear hb2 H2
  go_wp2_with fail
  refine H3.out.mono ?_
  rintro e w3 ⟨p2, rfl, hb3⟩
  have B3 := hide (B2.out.trans (hb3.mono B2.out.size))
  clear hb3 H3
  go_wp2_with fail
  go_ret
  exact ⟨rfl, B3.out⟩

set_option maxRecDepth 100000 in
set_option maxHeartbeats 4000000 in
theorem nil_plain (F : Interp) (nm : ByteArray) (h s : Int) (w : World) (hF : F.answers w.tape) (hm0 : nm.size ≤ 524288) :
    Calls Tryf.prog 3 #[.string nm, .int .i64 h, .bool false, .int .i64 s, .slice none 0 0] w fun e w' => e = .returned (.bool true) ∧ Below w.heap.size w w' := by
  have q1 := fun w a n c n' c' => run_neq_slice_nil_any (P := Tryf.prog) w 22 5 a n c n' c' Tryf.underlying22
  have q2 := fun w a n c n' c' => Lib.run_eql_slice_nil (P := Tryf.prog) w 22 5 a n c n' c' Tryf.underlying22
  have H1 := hide (clone_any none 0 0 (fun _ => 0) w (by omega) (fun _ => rfl) (fun j hj => by omega))
  have HF := hide hF
  clear hF
  go_enter Tryf.func3, Tryf.ntmps3
  go_wp2_with (go_at_call 4; refine (bytes4 _ _ _ _ _ _ _ _ (by omega)).mono ?_; rintro e w' ⟨rfl, rfl⟩)
  refine H1.out.mono ?_
  rintro e w1 ⟨aW, rfl, _, hw1, hb1⟩
  have CW := hide hw1
  have B1 := hide hb1
  have HF1 := hide (answers_below HF.out hb1)
  clear hw1 hb1 H1 HF
  have H2 := hide (keep_plain nm h s none 0 0 w1)
  go_wp2_with fail
  refine H2.out.mono ?_
  rintro e w2 ⟨rfl, hb2⟩
  have B2 := hide (B1.out.trans (hb2.mono B1.out.size))
  have CW1 := hide (CW.out.below hb2)
  have H3 := hide (drop_plain nm h s none 0 0 w2)
  clear hb2 H2 CW
  go_wp2_with fail
  refine H3.out.mono ?_
  rintro e w3 ⟨rfl, hb3⟩
  have B3 := hide (B2.out.trans (hb3.mono B2.out.size))
  have CW2 := hide (CW1.out.below hb3)
  have H4 := hide (same_any none aW 0 0 0 (fun _ => 0) w3 (by omega) (fun j hj => by omega) CW2.out)
  clear hb3 H3 CW1
  go_wp2_with fail
  refine H4.out.mono ?_
  rintro e w4 ⟨rfl, q, rfl⟩
  go_wp2_with fail
  refine wp_loop_rounds 1 ?_
  rw [rounds_succ]
  go_wp2
  go_ret
  exact ⟨rfl, below_drewN B3.out q⟩

set_option maxRecDepth 100000 in
set_option maxHeartbeats 4000000 in
theorem some_err (F : Interp) (nm : ByteArray) (h s : Int) (x : Addr) (n c : Nat) (z : Nat → Int) (w : World) (hF : F.answers w.tape) (hm0 : nm.size ≤ 524288) (hm : n ≤ 524288) (hz : HB w (some x) n z) (hn : n = 0) :
    Calls Tryf.prog 3 #[.string nm, .int .i64 h, .bool true, .int .i64 s, .slice (some x) n c] w fun e w' => e = .returned (.bool true) ∧ Below w.heap.size w w' := by
  subst hn
  have q1 := fun w a n c n' c' => run_neq_slice_nil_any (P := Tryf.prog) w 22 5 a n c n' c' Tryf.underlying22
  have q2 := fun w a n c n' c' => Lib.run_eql_slice_nil (P := Tryf.prog) w 22 5 a n c n' c' Tryf.underlying22
  obtain ⟨W1, W2, hmk0, hcp0, hv, hb0⟩ := copy_bytes w x 0 c z (by omega) hz
  have hmk : (Instr.makeSlice 22 (.int .i64 0) (.int .i64 0)).run Tryf.prog w = .ok (.slice (some ⟨w.heap.size, 0, none⟩) 0 0) W1 := hmk0
  have hcp : ∀ ty, (Builtin.copy_ #[22, 22] ty #[.slice (some ⟨w.heap.size, 0, none⟩) 0 0, .slice (some x) 0 c]).run Tryf.prog W1 = .ok (.int .i64 0) W2 := hcp0
  clear hmk0 hcp0
  have CV := hide hv
  have B0 := hide hb0
  have H1 := hide (clone_any (some ⟨w.heap.size, 0, none⟩) 0 0 z W2 (by omega) (fun h => by cases h) hv)
  have HF := hide (answers_below hF hb0)
  clear hv hb0 hz hF
  go_enter Tryf.func3, Tryf.ntmps3
  go_wp2_with (go_at_call 4; refine (bytes4 _ _ _ _ _ _ _ _ (by omega)).mono ?_; rintro e w' ⟨rfl, rfl⟩)
  refine H1.out.mono ?_
  rintro e w1 ⟨aW, rfl, _, hw1, hb1⟩
  have CW := hide hw1
  have CV1 := hide (CV.out.below hb1)
  have B1 := hide (B0.out.trans (hb1.mono B0.out.size))
  have HF1 := hide (answers_below HF.out hb1)
  clear hw1 hb1 H1 CV B0 HF
  have H2 := hide (keep_err F nm h s (some ⟨w.heap.size, 0, none⟩) 0 w1 HF1.out)
  go_wp2_with fail
  refine H2.out.mono ?_
  rintro e w2 ⟨p1, rfl, hb2⟩
  have B2 := hide (B1.out.trans (hb2.mono B1.out.size))
  have H3 := hide (drop_err F nm h s (some ⟨w.heap.size, 0, none⟩) 0 w2 (answers_below HF1.out hb2))
  clear hb2 H2
  go_wp2_with fail
  refine H3.out.mono ?_
  rintro e w3 ⟨p2, rfl, hb3⟩
  have B3 := hide (B2.out.trans (hb3.mono B2.out.size))
  clear hb3 H3
  go_wp2_with fail
  go_ret
  exact ⟨rfl, B3.out⟩

set_option maxRecDepth 100000 in
set_option maxHeartbeats 4000000 in
theorem some_plain (F : Interp) (nm : ByteArray) (h s : Int) (x : Addr) (n c : Nat) (z : Nat → Int) (w : World) (hF : F.answers w.tape) (hm0 : nm.size ≤ 524288) (hm : n ≤ 524288) (hz : HB w (some x) n z) :
    Calls Tryf.prog 3 #[.string nm, .int .i64 h, .bool false, .int .i64 s, .slice (some x) n c] w fun e w' => e = .returned (.bool true) ∧ Below w.heap.size w w' := by
  have q1 := fun w a n c n' c' => run_neq_slice_nil_any (P := Tryf.prog) w 22 5 a n c n' c' Tryf.underlying22
  have q2 := fun w a n c n' c' => Lib.run_eql_slice_nil (P := Tryf.prog) w 22 5 a n c n' c' Tryf.underlying22
  obtain ⟨W1, W2, hmk, hcp, hv, hb0⟩ := copy_bytes w x n c z (by omega) hz
  have CV := hide hv
  have B0 := hide hb0
  have H1 := hide (clone_any (some ⟨w.heap.size, 0, none⟩) n n z W2 (by omega) (fun h => by cases h) hv)
  have HF := hide (answers_below hF hb0)
  clear hv hb0 hz hF
  go_enter Tryf.func3, Tryf.ntmps3
  go_wp2_with (go_at_call 4; refine (bytes4 _ _ _ _ _ _ _ _ (by omega)).mono ?_; rintro e w' ⟨rfl, rfl⟩)
  refine H1.out.mono ?_
  rintro e w1 ⟨aW, rfl, _, hw1, hb1⟩
  have CW := hide hw1
  have CV1 := hide (CV.out.below hb1)
  have B1 := hide (B0.out.trans (hb1.mono B0.out.size))
  have HF1 := hide (answers_below HF.out hb1)
  clear hw1 hb1 H1 CV B0 HF
  have H2 := hide (keep_plain nm h s (some ⟨w.heap.size, 0, none⟩) n n w1)
  go_wp2_with fail
  refine H2.out.mono ?_
  rintro e w2 ⟨rfl, hb2⟩
  have B2 := hide (B1.out.trans (hb2.mono B1.out.size))
  have CW1 := hide (CW.out.below hb2)
  have CV2a := hide (CV1.out.below hb2)
  have H3 := hide (drop_plain nm h s (some ⟨w.heap.size, 0, none⟩) n n w2)
  clear hb2 H2 CW
  go_wp2_with fail
  refine H3.out.mono ?_
  rintro e w3 ⟨rfl, hb3⟩
  have B3 := hide (B2.out.trans (hb3.mono B2.out.size))
  have CW2 := hide (CW1.out.below hb3)
  have CV2 := hide (CV2a.out.below hb3)
  have H4 := hide (same_any (some ⟨w.heap.size, 0, none⟩) aW n n n z w3 (by omega) CV2.out CW2.out)
  clear hb3 H3 CW1
  go_wp2_with fail
  refine H4.out.mono ?_
  rintro e w4 ⟨rfl, q, rfl⟩
  go_wp2_with fail
  refine wp_loop_rounds 1 ?_
  rw [rounds_succ]
  go_wp2
  go_ret
  exact ⟨rfl, below_drewN B3.out q⟩

set_option maxRecDepth 100000 in
set_option maxHeartbeats 4000000 in
theorem some_tag (F : Interp) (nm : ByteArray) (h s : Int) (x : Addr) (n c : Nat) (z : Nat → Int) (w : World) (hF : F.answers w.tape) (hm0 : nm.size ≤ 524288) (hm : n ≤ 524288) (hz : HB w (some x) n z) (hn : 0 < n) :
    Calls Tryf.prog 3 #[.string nm, .int .i64 h, .bool true, .int .i64 s, .slice (some x) n c] w fun e w' => e = .returned (.bool true) ∧ Below w.heap.size w w' := by
  have q1 := fun w a n c n' c' => run_neq_slice_nil_any (P := Tryf.prog) w 22 5 a n c n' c' Tryf.underlying22
  have q2 := fun w a n c n' c' => Lib.run_eql_slice_nil (P := Tryf.prog) w 22 5 a n c n' c' Tryf.underlying22
  obtain ⟨W1, W2, hmk, hcp, hv, hb0⟩ := copy_bytes w x n c z (by omega) hz
  have CV := hide hv
  have B0 := hide hb0
  have H1 := hide (clone_any (some ⟨w.heap.size, 0, none⟩) n n z W2 (by omega) (fun h => by cases h) hv)
  have HF := hide (answers_below hF hb0)
  clear hv hb0 hz hF
  have h0 : ((n : Int) == 0) = false := by simp; omega
  go_enter Tryf.func3, Tryf.ntmps3
  go_wp2_with (go_at_call 4; refine (bytes4 _ _ _ _ _ _ _ _ (by omega)).mono ?_; rintro e w' ⟨rfl, rfl⟩)
  refine H1.out.mono ?_
  rintro e w1 ⟨aW, rfl, _, hw1, hb1⟩
  have CW := hide hw1
  have CV1 := hide (CV.out.below hb1)
  have B1 := hide (B0.out.trans (hb1.mono B0.out.size))
  have HF1 := hide (answers_below HF.out hb1)
  clear hw1 hb1 H1 CV B0 HF
  have H2 := hide (keep_tag nm h s w.heap.size n z w1 hn (by omega) (fun j hj => by
    obtain ⟨b, off, e, hc⟩ := CV1.out j hj
    cases e; rwa [Nat.zero_add] at hc))
  go_wp2_with fail
  refine H2.out.mono ?_
  rintro e w2 ⟨aK, cK, rfl, ho2, hb2⟩
  have B2 := hide (B1.out.trans (hb2.mono B1.out.size))
  have CW1 := hide (CW.out.below hb2)
  have CV2 := hide (CV1.out.below hb2)
  have CK := hide (owns_hb ho2)
  have H3 := hide (drop_tag nm h s w.heap.size n z w2 hn (by omega) (fun j hj => by
    obtain ⟨b, off, e, hc⟩ := CV2.out j hj
    cases e; rwa [Nat.zero_add] at hc))
  clear hb2 H2 CW ho2 CV1
  go_wp2_with fail
  refine H3.out.mono ?_
  rintro e w3 ⟨aD, cD, rfl, ho3, hb3⟩
  have B3 := hide (B2.out.trans (hb3.mono B2.out.size))
  have CW2 := hide (CW1.out.below hb3)
  have CK1 := hide (CK.out.below hb3)
  have CD := hide (owns_hb ho3)
  have H4 := hide (same_any aK aW n cK n z w3 (by omega) CK1.out CW2.out)
  clear hb3 H3 CW1 ho3 CK CV2
  go_wp2_with fail
  refine H4.out.mono ?_
  rintro e w4 ⟨rfl, q, rfl⟩
  go_wp2_with fail
  go_loopw [18] (fun i wr => ∃ j q : Nat, j ≤ 1 ∧ i = .int .i64 j ∧ wr = w3.drewN q) (fun i _ => 1 - (intOf i).toNat)
  case atStart => exact ⟨0, q, by omega, rfl, rfl⟩
  obtain ⟨j, q', hj, rfl, rfl⟩ := hrel
  by_cases hlt : j < 1
  · obtain ⟨gd, od, rfl, hcd⟩ := CD.out j hlt
    obtain ⟨gk, ok, rfl, hck⟩ := CK1.out j (by omega)
    have hjn : (j : Int) < (n : Int) := by omega
    go_wp2
    go_quiet (fail)
    go_wp2
    go_roundw
    case rel => exact ⟨j + 1, _, by omega, by go_num, rfl⟩
    case measure => simp [intOf]; omega
  go_wp2
  go_ret
  exact ⟨rfl, below_drewN B3.out _⟩

/-! ### too long -/
theorem long1 (nm : ByteArray) (h s : Int) (t : Bool) (a : Option Addr) (n c : Nat) (w : World) (b0 : nm.size ≤ 9223372036854775807) (b1 : n ≤ 9223372036854775807)
    (hl : 1048576 < nm.size ∨ (nm.size ≤ 1048576 ∧ 1048576 < n) ∨ (nm.size ≤ 1048576 ∧ n ≤ 1048576 ∧ 1048576 < nm.size + n)) :
    Calls Tryf.prog 3 #[.string nm, .int .i64 h, .bool t, .int .i64 s, .slice a n c] w fun e w' => e = .returned (.bool true) ∧ Below w.heap.size w w' := by
  rcases hl with h1 | ⟨h1, h2⟩ | ⟨h1, h2, h3⟩
  · go_enter Tryf.func3, Tryf.ntmps3
    go_wp2
    go_ret
    exact ⟨rfl, Below.refl _ _⟩
  · go_enter Tryf.func3, Tryf.ntmps3
    go_wp2
    go_ret
    exact ⟨rfl, Below.refl _ _⟩
  · go_enter Tryf.func3, Tryf.ntmps3
    go_wp2
    go_ret
    exact ⟨rfl, Below.refl _ _⟩
theorem long2 (nm : ByteArray) (h s : Int) (t : Bool) (a : Option Addr) (n c : Nat) (w : World) (b0 : nm.size + n ≤ 1048576)
    (hl : 524288 < nm.size ∨ (nm.size ≤ 524288 ∧ 524288 < n)) :
    Calls Tryf.prog 3 #[.string nm, .int .i64 h, .bool t, .int .i64 s, .slice a n c] w fun e w' => e = .returned (.bool true) ∧ Below w.heap.size w w' := by
  rcases hl with h1 | ⟨h1, h2⟩
  · go_enter Tryf.func3, Tryf.ntmps3
    go_wp2
    go_ret
    exact ⟨rfl, Below.refl _ _⟩
  · go_enter Tryf.func3, Tryf.ntmps3
    go_wp2
    go_ret
    exact ⟨rfl, Below.refl _ _⟩
end Go.Proofs.Qxb6608822aRFmt
