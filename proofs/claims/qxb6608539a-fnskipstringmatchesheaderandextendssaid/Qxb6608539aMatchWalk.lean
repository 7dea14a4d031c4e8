/-
  THE WALK of FnSkipStringMatchesHeaderAndExtends (3), the second text: the law itself, case by case.
-/
import Derived.Test.Qxb6608539aMatch
namespace Go.Proofs.Qxb6608539a
open Go.RowKit
open Go.Lib (HoldsBytes tailV)
open Plain (nb nb_le skipAt)

theorem holds_below {W W' : World} {v : Value} {l : List UInt8} (h : HoldsBytes W v l) (hb : Below W.heap.size W W') : HoldsBytes W' v l := by
  obtain ⟨p, cap, rfl, hnil, hcells⟩ := h
  refine ⟨p, cap, rfl, hnil, fun a ha i x hx => ?_⟩
  have := hcells a ha i x hx
  rw [hb.cell (World.block_lt_of_cell? W _ this)]; exact this
theorem holds_drewN {W : World} {v : Value} {l : List UInt8} (h : HoldsBytes W v l) (n : Nat) : HoldsBytes (W.drewN n) v l := by
  obtain ⟨p, cap, rfl, hnil, hcells⟩ := h
  exact ⟨p, cap, rfl, hnil, fun a ha i x hx => by rw [World.cell?_drewN]; exact hcells a ha i x hx⟩

/-- the copies, p not nil -/
theorem set_some (w : World) (x : Addr) (c0 : Nat) (lp lq : List UInt8) (qv : Value) (n0 n1 N : Nat) (e0 : lp.length = n0) (e1 : lq.length = n1) (eN : N = n0 + n1) (hq : HoldsBytes w qv lq) (hm : N ≤ 1048576)
    (hsrc : ∀ j, j < n0 → w.cell? (x.add j) = some (.int .u8 (nb lp j))) :
    ∃ W1 W2 W3 W4 W5 g1 g2, (Instr.makeSlice 22 (.int .i64 n0) (.int .i64 n0)).run Try.prog w = .ok (.slice (some ⟨g1, 0, none⟩) n0 n0) W1 ∧
      (∀ ty, (Builtin.copy_ #[22, 22] ty #[.slice (some ⟨g1, 0, none⟩) n0 n0, .slice (some x) n0 c0]).run Try.prog W1 = .ok (goInt n0) W2) ∧
      (Instr.makeSlice 22 (.int .i64 ((n0 : Int) + (n1 : Int))) (.int .i64 ((n0 : Int) + (n1 : Int)))).run Try.prog W2 = .ok (.slice (some ⟨g2, 0, none⟩) N N) W3 ∧
      (Builtin.copy_ #[22, 22] 3 #[.slice (some ⟨g2, 0, none⟩) N N, .slice (some ⟨g1, 0, none⟩) n0 n0]).run Try.prog W3 = .ok (.int .i64 (n0 : Int)) W4 ∧
      (∀ w, (Instr.slice 22 (.slice (some ⟨g2, 0, none⟩) N N) (some (.int .i64 (n0 : Int))) none none).run Try.prog w = .ok (tailV g2 N n0) w) ∧
      (Builtin.copy_ #[22, 22] 3 #[tailV g2 N n0, qv]).run Try.prog W4 = .ok (.int .i64 (n1 : Int)) W5 ∧
      (∀ j, j < n0 → W5.cell? ⟨g1, 0 + j, none⟩ = some (.int .u8 (nb lp j))) ∧ (∀ j, j < N → W5.cell? ⟨g2, 0 + j, none⟩ = some (.int .u8 (nb (lp ++ lq) j))) ∧ HoldsBytes W5 qv lq ∧ Below w.heap.size w W5 := by
  subst e0
  obtain ⟨W1, W2, hmk, hcp, hcell, hbel, hsz⟩ := clone_bytes w x lp c0 (by omega) hsrc
  have hpv : HoldsBytes W2 (.slice (some ⟨w.heap.size, 0, none⟩) lp.length lp.length) lp := by
    refine ⟨_, _, rfl, (fun h => by cases h), fun a ha j y hy => ?_⟩
    cases ha
    rw [Go.WideShapes.add_plain, hcell j (List.getElem?_eq_some_iff.1 hy).1, nb_get hy]
  obtain ⟨W3, W4, W5, h1, h2, h3, h4, h5, h6⟩ := pq_build W2 _ qv lp lq lp.length n1 N rfl e1 eN hpv (holds_below hq hbel) hm
  refine ⟨W1, W2, W3, W4, W5, _, _, hmk, hcp, h1, h2, h3, h4, fun j hj => ?_, h5, holds_below (holds_below hq hbel) h6, hbel.trans (h6.mono (by omega))⟩
  rw [h6.cell (by show w.heap.size < _; omega)]; exact hcell j hj

theorem bytes5 (a b : Option Addr) (n0 c0 n1 c1 : Nat) (w : World) (hm : n0 + n1 ≤ 1048576) : Calls Try.prog 5 #[.slice a n0 c0, .slice b n1 c1] w fun e w' => e = .returned (.bool true) ∧ w' = w := by
  go_enter Try.func5, Try.ntmps5
  go_wp2
  go_ret
  exact ⟨rfl, rfl⟩

set_option maxHeartbeats 1000000 in
/-- p is accepted -/
theorem match_ok (x : Addr) (c0 : Nat) (lp lq : List UInt8) (ao : Option Addr) (k1 n0 n1 : Nat) (w : World) (e0 : lp.length = n0) (e1 : lq.length = n1) (hm0 : n0 ≤ 524288) (hm1 : n1 ≤ 524288) (hq : HoldsBytes w (.slice ao n1 k1) lq)
    (hsrc : ∀ j, j < n0 → w.cell? (x.add j) = some (.int .u8 (nb lp j))) (c : Nat) (h : skipAt lp = some c) :
    Calls Try.prog 3 #[.slice (some x) n0 c0, .slice ao n1 k1] w fun e w' => e = .returned (.bool true) ∧ Below w.heap.size w w' := by
  obtain ⟨N, eN⟩ : ∃ N, N = n0 + n1 := ⟨_, rfl⟩
  obtain ⟨W1, W2, W3, W4, W5, g1, g2, r1, r2, r3, r4, r5, r6, hP, hPQ, hQ, hB⟩ := set_some w x c0 lp lq _ n0 n1 N e0 e1 eN hq (by omega) hsrc
  have hc := Plain.skipAt_le h
  rw [e0] at hc
  have eL : (lp ++ lq).length = N := by rw [List.length_append]; omega
  obtain ⟨m1, em1⟩ : ∃ m, m = n0 - c := ⟨_, rfl⟩
  obtain ⟨m2, em2⟩ : ∃ m, m = N - c := ⟨_, rfl⟩
  have h' := Plain.skipAt_app lq h
  have hP' : ∀ nq j, j < n0 → (W5.drewN nq).cell? ⟨g1, 0 + j, none⟩ = some (.int .u8 (nb lp j)) := fun nq j hj => by rw [World.cell?_drewN]; exact hP j hj
  have hPQ' : ∀ nq j, j < N → (W5.drewN nq).cell? ⟨g2, 0 + j, none⟩ = some (.int .u8 (nb (lp ++ lq) j)) := fun nq j hj => by rw [World.cell?_drewN]; exact hPQ j hj
  have hPQ0 : ∀ nq j, j < n0 → (W5.drewN nq).cell? ⟨g2, 0 + j, none⟩ = some (.int .u8 (nb lp j)) := fun nq j hj => by
    rw [hPQ' nq j (by omega)]
    have : nb (lp ++ lq) j = nb lp j := by simp only [nb, List.getD]; rw [List.getElem?_append_left (by omega)]
    rw [this]
  have H1 := hide (zz_some g1 0 n0 c lp W5 (by omega) (by omega) (fun j hj => hP j (by omega)) h)
  rw [e0, ← em1] at H1
  have H2 := hide (fun nq => zz_some g2 0 N c (lp ++ lq) (W5.drewN nq) (by omega) (by omega) (fun j hj => hPQ' nq j (by omega)) h')
  rw [eL, ← em2] at H2
  have H3 := hide (fun nq => model_some g1 0 n0 c lp (W5.drewN nq) (by omega) (fun j hj => hP' nq j (by omega)) h)
  rw [e0] at H3
  have H4 := hide (fun nq => model_some g2 0 N c (lp ++ lq) (W5.drewN nq) (by omega) (fun j hj => hPQ' nq j (by omega)) h')
  rw [eL] at H4
  have H5 := hide (fun nq => same_cut g1 n0 c m1 m1 m1 (fun j => (nb lp j : Int)) (W5.drewN nq) (by omega) (by omega) (hP' nq))
  have H6 := hide (fun nq => same_cut g2 N c m2 m2 m2 (fun j => (nb (lp ++ lq) j : Int)) (W5.drewN nq) (by omega) (by omega) (hPQ' nq))
  have H7 := hide (fun nq => same_two g1 g2 n0 N c m1 m2 (fun j => (nb lp j : Int)) (W5.drewN nq) (by omega) (by omega) hc em1 (hP' nq) (hPQ0 nq))
  have H8 := hide (fun nq => same_q g2 N n0 c n1 k1 ao lp lq (W5.drewN nq) (by omega) eN e0 e1 (holds_drewN hQ nq) (hPQ' nq))
  have q1 := q_ne
  have q3 := fun w' => run_cut w' g1 0 n0 n0 c hc (Nat.le_refl _)
  rw [← em1] at q3
  have q4 := fun w' => run_cut w' g2 0 N N c (by omega) (Nat.le_refl _)
  rw [← em2] at q4
  have q5 := fun w' => run_head w' g2 N c m1 m2 (by omega)
  have q6 := fun w' => run_end w' g2 N n0 c m1 m2 n1 hc eN em1 em2
  have q7 : (((m2 : Int)) == ((m1 : Int) + (n1 : Int))) = true := by simp; omega
  have q8 : m1 ≤ 524288 := by omega
  have HB := hide hB
  have hmm : n0 + n1 ≤ 1048576 := by omega
  have hN : N ≤ 1048576 := by omega
  have hcN : c ≤ N := by omega
  clear hP hPQ hQ hB hP' hPQ' hPQ0 hsrc hq h h' e0 e1 eL eN em1 em2
  go_enter Try.func3, Try.ntmps3
  go_wp2_with (go_at_call 5; refine (bytes5 _ _ _ _ _ _ _ hmm).mono ?_; rintro e w' ⟨rfl, rfl⟩)
  refine H1.out.mono ?_
  rintro e w1 ⟨rfl, n1, rfl⟩
  go_wp2_with fail
  refine (H2.out _).mono ?_
  rintro e w1 ⟨rfl, n2, rfl⟩
  go_wp2_with fail
  refine (H3.out _).mono ?_
  rintro e w1 ⟨rfl, rfl⟩
  go_wp2_with fail
  refine (H4.out _).mono ?_
  rintro e w1 ⟨rfl, rfl⟩
  go_wp2_with fail
  refine (H5.out _).mono ?_
  rintro e w1 ⟨rfl, n3, rfl⟩
  go_wp2_with fail
  refine (H6.out _).mono ?_
  rintro e w1 ⟨rfl, n4, rfl⟩
  go_wp2_with fail
  refine (H7.out _).mono ?_
  rintro e w1 ⟨rfl, n5, rfl⟩
  go_wp2_with fail
  refine (H8.out _).mono ?_
  rintro e w1 ⟨rfl, n6, rfl⟩
  go_wp2_with fail
  go_ret
  exact ⟨rfl, below_drewN HB.out _⟩

/-- the copies, p nil -/
theorem set_nil (w : World) (lq : List UInt8) (qv : Value) (n1 : Nat) (e1 : lq.length = n1) (hq : HoldsBytes w qv lq) (hm : n1 ≤ 1048576) :
    ∃ W3 W4 W5 g2, (Instr.makeSlice 22 (.int .i64 (n1 : Int)) (.int .i64 (n1 : Int))).run Try.prog w = .ok (.slice (some ⟨g2, 0, none⟩) n1 n1) W3 ∧
      (Builtin.copy_ #[22, 22] 3 #[.slice (some ⟨g2, 0, none⟩) n1 n1, .slice none 0 0]).run Try.prog W3 = .ok (.int .i64 0) W4 ∧
      (∀ w, (Instr.slice 22 (.slice (some ⟨g2, 0, none⟩) n1 n1) (some (.int .i64 0)) none none).run Try.prog w = .ok (tailV g2 n1 0) w) ∧
      (Builtin.copy_ #[22, 22] 3 #[tailV g2 n1 0, qv]).run Try.prog W4 = .ok (.int .i64 (n1 : Int)) W5 ∧
      (∀ j, j < n1 → W5.cell? ⟨g2, 0 + j, none⟩ = some (.int .u8 (nb lq j))) ∧ Below w.heap.size w W5 := by
  have hpv : HoldsBytes w (.slice none 0 0) [] := ⟨_, _, rfl, fun _ => rfl, fun a ha => by cases ha⟩
  obtain ⟨W3, W4, W5, h1, h2, h3, h4, h5, h6⟩ := pq_build w _ qv [] lq 0 n1 n1 rfl e1 (by omega) hpv hq hm
  have e : ((0 : Nat) : Int) + (n1 : Int) = (n1 : Int) := by omega
  rw [e] at h1
  exact ⟨W3, W4, W5, _, h1, h2, h3, h4, h5, h6⟩

set_option maxHeartbeats 1000000 in
/-- p is refused, p followed by q accepted -/
theorem match_no_ok (x : Addr) (c0 : Nat) (lp lq : List UInt8) (ao : Option Addr) (k1 n0 n1 : Nat) (w : World) (e0 : lp.length = n0) (e1 : lq.length = n1) (hm0 : n0 ≤ 524288) (hm1 : n1 ≤ 524288) (hq : HoldsBytes w (.slice ao n1 k1) lq)
    (hsrc : ∀ j, j < n0 → w.cell? (x.add j) = some (.int .u8 (nb lp j))) (h : skipAt lp = none) (c : Nat) (h' : skipAt (lp ++ lq) = some c) :
    Calls Try.prog 3 #[.slice (some x) n0 c0, .slice ao n1 k1] w fun e w' => e = .returned (.bool true) ∧ Below w.heap.size w w' := by
  obtain ⟨N, eN⟩ : ∃ N, N = n0 + n1 := ⟨_, rfl⟩
  obtain ⟨W1, W2, W3, W4, W5, g1, g2, r1, r2, r3, r4, r5, r6, hP, hPQ, hQ, hB⟩ := set_some w x c0 lp lq _ n0 n1 N e0 e1 eN hq (by omega) hsrc
  have eL : (lp ++ lq).length = N := by rw [List.length_append]; omega
  have hc := Plain.skipAt_le h'
  rw [eL] at hc
  obtain ⟨m2, em2⟩ : ∃ m, m = N - c := ⟨_, rfl⟩
  have hP' : ∀ nq j, j < n0 → (W5.drewN nq).cell? ⟨g1, 0 + j, none⟩ = some (.int .u8 (nb lp j)) := fun nq j hj => by rw [World.cell?_drewN]; exact hP j hj
  have hPQ' : ∀ nq j, j < N → (W5.drewN nq).cell? ⟨g2, 0 + j, none⟩ = some (.int .u8 (nb (lp ++ lq) j)) := fun nq j hj => by rw [World.cell?_drewN]; exact hPQ j hj
  have H1 := hide (zz_none g1 0 n0 lp W5 (by omega) (fun j hj => hP j (by omega)) h)
  rw [e0] at H1
  have H2 := hide (zz_some g2 0 N c (lp ++ lq) W5 (by omega) (by omega) (fun j hj => hPQ j (by omega)) h')
  rw [eL, ← em2] at H2
  have H3 := hide (fun nq => model_none g1 0 n0 lp (W5.drewN nq) (by omega) (fun j hj => hP' nq j (by omega)) h)
  rw [e0] at H3
  have H4 := hide (fun nq => model_some g2 0 N c (lp ++ lq) (W5.drewN nq) (by omega) (fun j hj => hPQ' nq j (by omega)) h')
  rw [eL] at H4
  have H6 := hide (fun nq => same_cut g2 N c m2 m2 m2 (fun j => (nb (lp ++ lq) j : Int)) (W5.drewN nq) (by omega) (by omega) (hPQ' nq))
  have q1 := q_ne
  have q4 := fun w' => run_cut w' g2 0 N N c (by omega) (Nat.le_refl _)
  rw [← em2] at q4
  have HB := hide hB
  have hmm : n0 + n1 ≤ 1048576 := by omega
  clear hP hPQ hQ hB hP' hPQ' hsrc hq h h' e0 e1 eL eN em2
  go_enter Try.func3, Try.ntmps3
  go_wp2_with (go_at_call 5; refine (bytes5 _ _ _ _ _ _ _ hmm).mono ?_; rintro e w' ⟨rfl, rfl⟩)
  refine H1.out.mono ?_
  rintro e w1 ⟨rfl, rfl⟩
  go_wp2_with fail
  refine H2.out.mono ?_
  rintro e w1 ⟨rfl, n2, rfl⟩
  go_wp2_with fail
  refine (H3.out _).mono ?_
  rintro e w1 ⟨rfl, rfl⟩
  go_wp2_with fail
  refine (H4.out _).mono ?_
  rintro e w1 ⟨rfl, rfl⟩
  go_wp2_with fail
  refine (H6.out _).mono ?_
  rintro e w1 ⟨rfl, n4, rfl⟩
  go_wp2_with fail
  go_ret
  exact ⟨rfl, below_drewN HB.out _⟩

set_option maxHeartbeats 1000000 in
/-- both are refused -/
theorem match_no_no (x : Addr) (c0 : Nat) (lp lq : List UInt8) (ao : Option Addr) (k1 n0 n1 : Nat) (w : World) (e0 : lp.length = n0) (e1 : lq.length = n1) (hm0 : n0 ≤ 524288) (hm1 : n1 ≤ 524288) (hq : HoldsBytes w (.slice ao n1 k1) lq)
    (hsrc : ∀ j, j < n0 → w.cell? (x.add j) = some (.int .u8 (nb lp j))) (h : skipAt lp = none) (h' : skipAt (lp ++ lq) = none) :
    Calls Try.prog 3 #[.slice (some x) n0 c0, .slice ao n1 k1] w fun e w' => e = .returned (.bool true) ∧ Below w.heap.size w w' := by
  obtain ⟨N, eN⟩ : ∃ N, N = n0 + n1 := ⟨_, rfl⟩
  obtain ⟨W1, W2, W3, W4, W5, g1, g2, r1, r2, r3, r4, r5, r6, hP, hPQ, hQ, hB⟩ := set_some w x c0 lp lq _ n0 n1 N e0 e1 eN hq (by omega) hsrc
  have eL : (lp ++ lq).length = N := by rw [List.length_append]; omega
  have H1 := hide (zz_none g1 0 n0 lp W5 (by omega) (fun j hj => hP j (by omega)) h)
  rw [e0] at H1
  have H2 := hide (zz_none g2 0 N (lp ++ lq) W5 (by omega) (fun j hj => hPQ j (by omega)) h')
  rw [eL] at H2
  have H3 := hide (model_none g1 0 n0 lp W5 (by omega) (fun j hj => hP j (by omega)) h)
  rw [e0] at H3
  have H4 := hide (model_none g2 0 N (lp ++ lq) W5 (by omega) (fun j hj => hPQ j (by omega)) h')
  rw [eL] at H4
  have q1 := q_ne
  have HB := hide hB
  have hmm : n0 + n1 ≤ 1048576 := by omega
  clear hP hPQ hQ hB hsrc hq h h' e0 e1 eL eN
  go_enter Try.func3, Try.ntmps3
  go_wp2_with (go_at_call 5; refine (bytes5 _ _ _ _ _ _ _ hmm).mono ?_; rintro e w' ⟨rfl, rfl⟩)
  refine H1.out.mono ?_
  rintro e w1 ⟨rfl, rfl⟩
  go_wp2_with fail
  refine H2.out.mono ?_
  rintro e w1 ⟨rfl, rfl⟩
  go_wp2_with fail
  refine H3.out.mono ?_
  rintro e w1 ⟨rfl, rfl⟩
  go_wp2_with fail
  refine H4.out.mono ?_
  rintro e w1 ⟨rfl, rfl⟩
  go_wp2_with fail
  go_ret
  exact ⟨rfl, HB.out⟩

set_option maxHeartbeats 1000000 in
/-- p nil, q accepted -/
theorem match_nil_ok (lq : List UInt8) (ao : Option Addr) (k1 n1 : Nat) (w : World) (e1 : lq.length = n1) (hm1 : n1 ≤ 524288) (hq : HoldsBytes w (.slice ao n1 k1) lq) (c : Nat) (h' : skipAt lq = some c) :
    Calls Try.prog 3 #[.slice none 0 0, .slice ao n1 k1] w fun e w' => e = .returned (.bool true) ∧ Below w.heap.size w w' := by
  obtain ⟨W3, W4, W5, g2, r3, r4, r5, r6, hPQ, hB⟩ := set_nil w lq _ n1 e1 hq (by omega)
  have hc := Plain.skipAt_le h'
  rw [e1] at hc
  obtain ⟨m2, em2⟩ : ∃ m, m = n1 - c := ⟨_, rfl⟩
  have hPQ' : ∀ nq j, j < n1 → (W5.drewN nq).cell? ⟨g2, 0 + j, none⟩ = some (.int .u8 (nb lq j)) := fun nq j hj => by rw [World.cell?_drewN]; exact hPQ j hj
  have H1 := hide (zz_empty none 0)
  have H2 := hide (zz_some g2 0 n1 c lq W5 (by omega) (by omega) (fun j hj => hPQ j (by omega)) h')
  rw [e1, ← em2] at H2
  have H3 := hide (model_empty none 0)
  have H4 := hide (fun nq => model_some g2 0 n1 c lq (W5.drewN nq) (by omega) (fun j hj => hPQ' nq j (by omega)) h')
  rw [e1] at H4
  have H6 := hide (fun nq => same_cut g2 n1 c m2 m2 m2 (fun j => (nb lq j : Int)) (W5.drewN nq) (by omega) (by omega) (hPQ' nq))
  have q1 := q_ne
  have q4 := fun w' => run_cut w' g2 0 n1 n1 c (by omega) (Nat.le_refl _)
  rw [← em2] at q4
  have HB := hide hB
  have hmm : 0 + n1 ≤ 1048576 := by omega
  clear hPQ hB hPQ' hq h' e1 em2
  go_enter Try.func3, Try.ntmps3
  go_wp2_with (go_at_call 5; refine (bytes5 _ _ _ _ _ _ _ hmm).mono ?_; rintro e w' ⟨rfl, rfl⟩)
  refine (H1.out _).mono ?_
  rintro e w1 ⟨rfl, rfl⟩
  go_wp2_with fail
  refine H2.out.mono ?_
  rintro e w1 ⟨rfl, n2, rfl⟩
  go_wp2_with fail
  refine (H3.out _).mono ?_
  rintro e w1 ⟨rfl, rfl⟩
  go_wp2_with fail
  refine (H4.out _).mono ?_
  rintro e w1 ⟨rfl, rfl⟩
  go_wp2_with fail
  refine (H6.out _).mono ?_
  rintro e w1 ⟨rfl, n4, rfl⟩
  go_wp2_with fail
  go_ret
  exact ⟨rfl, below_drewN HB.out _⟩

set_option maxHeartbeats 1000000 in
/-- p nil, q refused -/
theorem match_nil_no (lq : List UInt8) (ao : Option Addr) (k1 n1 : Nat) (w : World) (e1 : lq.length = n1) (hm1 : n1 ≤ 524288) (hq : HoldsBytes w (.slice ao n1 k1) lq) (h' : skipAt lq = none) :
    Calls Try.prog 3 #[.slice none 0 0, .slice ao n1 k1] w fun e w' => e = .returned (.bool true) ∧ Below w.heap.size w w' := by
  obtain ⟨W3, W4, W5, g2, r3, r4, r5, r6, hPQ, hB⟩ := set_nil w lq _ n1 e1 hq (by omega)
  have H1 := hide (zz_empty none 0)
  have H2 := hide (zz_none g2 0 n1 lq W5 (by omega) (fun j hj => hPQ j (by omega)) h')
  rw [e1] at H2
  have H3 := hide (model_empty none 0)
  have H4 := hide (model_none g2 0 n1 lq W5 (by omega) (fun j hj => hPQ j (by omega)) h')
  rw [e1] at H4
  have q1 := q_ne
  have HB := hide hB
  have hmm : 0 + n1 ≤ 1048576 := by omega
  clear hPQ hB hq h' e1
  go_enter Try.func3, Try.ntmps3
  go_wp2_with (go_at_call 5; refine (bytes5 _ _ _ _ _ _ _ hmm).mono ?_; rintro e w' ⟨rfl, rfl⟩)
  refine (H1.out _).mono ?_
  rintro e w1 ⟨rfl, rfl⟩
  go_wp2_with fail
  refine H2.out.mono ?_
  rintro e w1 ⟨rfl, rfl⟩
  go_wp2_with fail
  refine (H3.out _).mono ?_
  rintro e w1 ⟨rfl, rfl⟩
  go_wp2_with fail
  refine H4.out.mono ?_
  rintro e w1 ⟨rfl, rfl⟩
  go_wp2_with fail
  go_ret
  exact ⟨rfl, HB.out⟩

/-! ### too long -/
theorem match_long1 (a b : Option Addr) (n0 c0 n1 c1 : Nat) (w : World) (hm : n0 ≤ 9223372036854775807) (hm1 : n1 ≤ 9223372036854775807) (h : 1048576 < n0 ∨ (n0 ≤ 1048576 ∧ 1048576 < n1) ∨ (n0 ≤ 1048576 ∧ n1 ≤ 1048576 ∧ 1048576 < n0 + n1)) :
    Calls Try.prog 3 #[.slice a n0 c0, .slice b n1 c1] w fun e w' => e = .returned (.bool true) ∧ Below w.heap.size w w' := by
  rcases h with h | ⟨h, h'⟩ | ⟨h, h', h''⟩
  · go_enter Try.func3, Try.ntmps3
    go_wp2
    go_ret
    exact ⟨rfl, Below.refl _ _⟩
  · go_enter Try.func3, Try.ntmps3
    go_wp2
    go_ret
    exact ⟨rfl, Below.refl _ _⟩
  · go_enter Try.func3, Try.ntmps3
    go_wp2
    go_ret
    exact ⟨rfl, Below.refl _ _⟩
theorem match_long2 (a b : Option Addr) (n0 c0 n1 c1 : Nat) (w : World) (hm : n0 + n1 ≤ 1048576) (h : 524288 < n0 ∨ (n0 ≤ 524288 ∧ 524288 < n1)) :
    Calls Try.prog 3 #[.slice a n0 c0, .slice b n1 c1] w fun e w' => e = .returned (.bool true) ∧ Below w.heap.size w w' := by
  rcases h with h | ⟨h, h'⟩
  · go_enter Try.func3, Try.ntmps3
    go_wp2
    go_ret
    exact ⟨rfl, Below.refl _ _⟩
  · go_enter Try.func3, Try.ntmps3
    go_wp2
    go_ret
    exact ⟨rfl, Below.refl _ _⟩
end Go.Proofs.Qxb6608539a
