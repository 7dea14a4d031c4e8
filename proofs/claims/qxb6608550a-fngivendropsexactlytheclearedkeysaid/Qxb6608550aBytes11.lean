/-
  THE WALK of zzBytes_FnGivenDropsExactlyTheClearedKey (11).
-/
import Derived.Test.Qxb6608550aBytes
import Derived.Deep.DeepCutAuto
namespace Go.Proofs.Qxb6608550a
open Go.RowKit

set_option maxRecDepth 100000 in
set_option maxHeartbeats 4000000 in
theorem bytes11 (p0 p1 p3 p4 p5 aL aR a7 a8 a9 : Option Addr) (nL cL nR cR n7 c7 n8 c8 n9 c9 : Nat) (w : World)
    (h0 : PStr w p0) (h1 : PStr w p1) (h4 : PStr w p4) (h5 : PStr w p5) (sL : StrsIn w aL nL) (sR : StrsIn w aR nR)
    (mL : nL ≤ 9223372036854775807) (mR : nR ≤ 9223372036854775807) (m7 : n7 ≤ 9223372036854775807) (m8 : n8 ≤ 9223372036854775807) (m9 : n9 ≤ 9223372036854775807) :
    Calls Try.prog 11 #[.pointer p0, .pointer p1, .slice aL nL cL, .pointer p3, .pointer p4, .pointer p5, .slice aR nR cR, .slice a7 n7 c7, .slice a8 n8 c8, .slice a9 n9 c9] w
      fun e w' => Ans (okB nL nR n7 n8 n9) w e w' := by
  have H0 := hide h0
  have H1 := hide h1
  have H4 := hide h4
  have H5 := hide h5
  have SL := hide sL
  have SR := hide sR
  clear h0 h1 h4 h5 sL sR
  go_enter Try.func11, Try.ntmps11
  go_upto_if 25 with fail
  all_goals try (go_ret; exact ans_no _ _)
  go_cut [21] (fun z wc => w = wc ∧ ∃ x : Int, z = .int .i64 x ∧ 0 ≤ x ∧ x ≤ 1048576)
  case first =>
    cases p0 with
    | none =>
      go_wp2
      go_meet
      case rel => exact ⟨rfl, 0, rfl, by omega, by omega⟩
    | some a =>
      obtain ⟨s, hc, hs⟩ := H0.out a rfl
      go_wp2
      all_goals first
        | (go_ret; exact ans_no _ _)
        | (go_meet; case rel => exact ⟨rfl, _, rfl, by omega, by omega⟩)
  obtain ⟨rfl, x, rfl, hx0, hx1⟩ := hcut
  go_upto_if 40 with fail
  all_goals try (go_ret; exact ans_no _ _)
  go_cut [21] (fun z wc => w = wc ∧ ∃ x : Int, z = .int .i64 x ∧ 0 ≤ x ∧ x ≤ 1048576)
  case first =>
    cases p1 with
    | none =>
      go_wp2
      go_meet
      case rel => exact ⟨rfl, _, rfl, by omega, by omega⟩
    | some a =>
      obtain ⟨s, hc, hs⟩ := H1.out a rfl
      go_wp2
      all_goals first
        | (go_ret; exact ans_no _ _)
        | (go_meet; case rel => exact ⟨rfl, _, rfl, by omega, by omega⟩)
  obtain ⟨rfl, x, rfl, hx0, hx1⟩ := hcut
  go_wp2
  all_goals try (go_ret; exact ans_no _ _)
  go_loop [21, 22] (fun z i => ∃ (k : Nat) (x : Int), k ≤ nL ∧ i = .int .i64 k ∧ z = .int .i64 x ∧ 0 ≤ x ∧ x ≤ 1048576) (fun _ i => nL - (intOf i).toNat)
  case atStart => exact ⟨0, _, by omega, rfl, rfl, by omega, by omega⟩
  obtain ⟨k, x, hk, rfl, rfl, hx0, hx1⟩ := hrel
  by_cases hlt : k < nL
  · obtain ⟨b, off, s, rfl, hc, hs⟩ := SL.out k hlt
    go_wp2
    all_goals first
      | (go_ret; exact ans_no _ _)
      | (go_round
         case rel => exact ⟨k + 1, _, by omega, by go_num, rfl, by omega, by omega⟩
         case measure => simp [intOf]; omega)
  go_upto_if 85 with fail
  all_goals try (go_ret; exact ans_no _ _)
  go_cut [21] (fun z wc => w = wc ∧ ∃ x : Int, z = .int .i64 x ∧ 0 ≤ x ∧ x ≤ 1048576)
  case first =>
    cases p4 with
    | none =>
      go_wp2
      go_meet
      case rel => exact ⟨rfl, _, rfl, by omega, by omega⟩
    | some a =>
      obtain ⟨s, hc, hs⟩ := H4.out a rfl
      go_wp2
      all_goals first
        | (go_ret; exact ans_no _ _)
        | (go_meet; case rel => exact ⟨rfl, _, rfl, by omega, by omega⟩)
  obtain ⟨rfl, x, rfl, hx0, hx1⟩ := hcut
  go_upto_if 100 with fail
  all_goals try (go_ret; exact ans_no _ _)
  go_cut [21] (fun z wc => w = wc ∧ ∃ x : Int, z = .int .i64 x ∧ 0 ≤ x ∧ x ≤ 1048576)
  case first =>
    cases p5 with
    | none =>
      go_wp2
      go_meet
      case rel => exact ⟨rfl, _, rfl, by omega, by omega⟩
    | some a =>
      obtain ⟨s, hc, hs⟩ := H5.out a rfl
      go_wp2
      all_goals first
        | (go_ret; exact ans_no _ _)
        | (go_meet; case rel => exact ⟨rfl, _, rfl, by omega, by omega⟩)
  obtain ⟨rfl, x, rfl, hx0, hx1⟩ := hcut
  go_wp2
  all_goals try (go_ret; exact ans_no _ _)
  go_loop [21, 23] (fun z i => ∃ (k : Nat) (x : Int), k ≤ nR ∧ i = .int .i64 k ∧ z = .int .i64 x ∧ 0 ≤ x ∧ x ≤ 1048576) (fun _ i => nR - (intOf i).toNat)
  case atStart => exact ⟨0, _, by omega, rfl, rfl, by omega, by omega⟩
  obtain ⟨k, x, hk, rfl, rfl, hx0, hx1⟩ := hrel
  by_cases hlt : k < nR
  · obtain ⟨b, off, s, rfl, hc, hs⟩ := SR.out k hlt
    go_wp2
    all_goals first
      | (go_ret; exact ans_no _ _)
      | (go_round
         case rel => exact ⟨k + 1, _, by omega, by go_num, rfl, by omega, by omega⟩
         case measure => simp [intOf]; omega)
  go_wp2
  all_goals try (go_ret; exact ans_no _ _)
  go_ret
  exact ans_yes _ (by unfold okB; omega)
end Go.Proofs.Qxb6608550a
