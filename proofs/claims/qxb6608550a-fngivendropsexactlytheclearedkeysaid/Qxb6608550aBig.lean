/-
  THE WALK of zzLimitTooBig (12), its callees zzStrLen (25) and zzAddLen (24).
-/
import Derived.Test.Qxb6608550aBytes
namespace Go.Proofs.Qxb6608550a
open Go.RowKit

theorem strlen_any (p : Option Addr) (w : World) (h : PStr w p) : Calls Try.prog 25 #[.pointer p] w fun e w' => ∃ n : Nat, e = .returned (.int .i64 (n : Int)) ∧ n ≤ 9223372036854775807 ∧ w = w' := by
  cases p with
  | none =>
    clear h
    go_enter Try.func25, Try.ntmps25
    go_wp2
    go_ret
    exact ⟨0, rfl, by omega, rfl⟩
  | some a =>
    obtain ⟨s, hc, hs⟩ := h a rfl
    clear h
    go_enter Try.func25, Try.ntmps25
    go_wp2
    go_ret
    exact ⟨s.size, rfl, hs, rfl⟩
def AddAns (w : World) (e : Ending) (w' : World) : Prop := ∃ (y : Int) (ok : Bool), e = .returned (.tuple #[.int .i64 y, .bool ok]) ∧ 0 ≤ y ∧ y ≤ 1048576 ∧ w = w'
theorem add_mk (y : Int) (ok : Bool) (w : World) (h0 : 0 ≤ y) (h1 : y ≤ 1048576) : AddAns w (.returned (.tuple #[.int .i64 y, .bool ok])) w := ⟨y, ok, rfl, h0, h1, rfl⟩
theorem add_any (x : Int) (n : Nat) (w : World) (h0 : 0 ≤ x) (h1 : x ≤ 1048576) (hn : n ≤ 9223372036854775807) :
    Calls Try.prog 24 #[.int .i64 x, .int .i64 (n : Int)] w fun e w' => AddAns w e w' := by
  by_cases h : 1048576 - x < (n : Int)
  · go_enter Try.func24, Try.ntmps24
    go_wp2
    go_ret2
    exact add_mk x false _ h0 h1
  · go_enter Try.func24, Try.ntmps24
    go_wp2
    go_ret2
    exact add_mk (x + n) true _ (by omega) (by omega)
theorem add_16 (x : Int) (w : World) (h0 : 0 ≤ x) (h1 : x ≤ 1048576) :
    Calls Try.prog 24 #[.int .i64 x, .int .i64 16] w fun e w' => AddAns w e w' := add_any x 16 w h0 h1 (by omega)

set_option maxRecDepth 100000 in
set_option maxHeartbeats 4000000 in
theorem big_any (p0 p1 p4 p5 aL aR a7 a8 a9 : Option Addr) (nL cL nR cR n7 c7 n8 c8 n9 c9 : Nat) (w : World)
    (h0 : PStr w p0) (h1 : PStr w p1) (h4 : PStr w p4) (h5 : PStr w p5) (sL : StrsIn w aL nL) (sR : StrsIn w aR nR)
    (mL : nL ≤ 9223372036854775807) (mR : nR ≤ 9223372036854775807) (m7 : n7 ≤ 9223372036854775807) (m8 : n8 ≤ 9223372036854775807) (m9 : n9 ≤ 9223372036854775807) :
    Calls Try.prog 12 #[.pointer p0, .pointer p1, .slice aL nL cL, .pointer p4, .pointer p5, .slice aR nR cR, .slice a7 n7 c7, .slice a8 n8 c8, .slice a9 n9 c9] w
      fun e w' => Ans True w e w' := by
  have SL := hide sL
  have SR := hide sR
  have H0 := hide (strlen_any p0 w h0)
  have H1 := hide (strlen_any p1 w h1)
  have H4 := hide (strlen_any p4 w h4)
  have H5 := hide (strlen_any p5 w h5)
  clear h0 h1 h4 h5 sL sR
  go_enter Try.func12, Try.ntmps12
  go_wp2_with fail
  refine H0.out.mono ?_
  rintro e w1 ⟨n, rfl, hn, rfl⟩
  go_wp2_with fail
  refine (add_any _ _ w (by omega) (by omega) hn).mono ?_
  rintro e w1 ⟨y, ok, rfl, hy0, hy1, rfl⟩
  cases ok
  · go_wp2_with fail
    go_ret
    exact ans_yes _ trivial
  go_wp2_with fail
  refine H1.out.mono ?_
  rintro e w1 ⟨n, rfl, hn, rfl⟩
  go_wp2_with fail
  refine (add_any _ _ w (by omega) (by omega) hn).mono ?_
  rintro e w1 ⟨y, ok, rfl, hy0, hy1, rfl⟩
  cases ok
  · go_wp2_with fail
    go_ret
    exact ans_yes _ trivial
  go_wp2_with fail
  refine H4.out.mono ?_
  rintro e w1 ⟨n, rfl, hn, rfl⟩
  go_wp2_with fail
  refine (add_any _ _ w (by omega) (by omega) hn).mono ?_
  rintro e w1 ⟨y, ok, rfl, hy0, hy1, rfl⟩
  cases ok
  · go_wp2_with fail
    go_ret
    exact ans_yes _ trivial
  go_wp2_with fail
  refine H5.out.mono ?_
  rintro e w1 ⟨n, rfl, hn, rfl⟩
  go_wp2_with fail
  refine (add_any _ _ w (by omega) (by omega) hn).mono ?_
  rintro e w1 ⟨y, ok, rfl, hy0, hy1, rfl⟩
  cases ok
  · go_wp2_with fail
    go_ret
    exact ans_yes _ trivial
  go_wp2_with fail
  go_loop [19, 63] (fun z i => ∃ (k : Nat) (x : Int), k ≤ nL ∧ i = .int .i64 k ∧ z = .int .i64 x ∧ 0 ≤ x ∧ x ≤ 1048576) (fun _ i => nL - (intOf i).toNat)
  case atStart => exact ⟨0, _, by omega, rfl, rfl, by omega, by omega⟩
  obtain ⟨k, x, hk, rfl, rfl, hx0, hx1⟩ := hrel
  by_cases hlt : k < nL
  · obtain ⟨b, off, s, rfl, hc, hs⟩ := SL.out k hlt
    go_wp2_with fail
    refine (add_16 _ w (by omega) (by omega)).mono ?_
    rintro e w1 ⟨y, ok, rfl, hy0, hy1, rfl⟩
    cases ok
    · go_wp2_with fail
      go_ret
      exact ans_yes _ trivial
    go_wp2_with fail
    refine (add_any _ _ w (by omega) (by omega) hs).mono ?_
    rintro e w1 ⟨y, ok, rfl, hy0, hy1, rfl⟩
    cases ok
    · go_wp2_with fail
      go_ret
      exact ans_yes _ trivial
    go_wp2_with fail
    go_round
    case rel => exact ⟨k + 1, _, by omega, by go_num, rfl, by omega, by omega⟩
    case measure => simp [intOf]; omega
  go_wp2_with fail
  go_loop [19, 86] (fun z i => ∃ (k : Nat) (x : Int), k ≤ nR ∧ i = .int .i64 k ∧ z = .int .i64 x ∧ 0 ≤ x ∧ x ≤ 1048576) (fun _ i => nR - (intOf i).toNat)
  case atStart => exact ⟨0, _, by omega, rfl, rfl, by omega, by omega⟩
  obtain ⟨k, x, hk, rfl, rfl, hx0, hx1⟩ := hrel
  by_cases hlt : k < nR
  · obtain ⟨b, off, s, rfl, hc, hs⟩ := SR.out k hlt
    go_wp2_with fail
    refine (add_16 _ w (by omega) (by omega)).mono ?_
    rintro e w1 ⟨y, ok, rfl, hy0, hy1, rfl⟩
    cases ok
    · go_wp2_with fail
      go_ret
      exact ans_yes _ trivial
    go_wp2_with fail
    refine (add_any _ _ w (by omega) (by omega) hs).mono ?_
    rintro e w1 ⟨y, ok, rfl, hy0, hy1, rfl⟩
    cases ok
    · go_wp2_with fail
      go_ret
      exact ans_yes _ trivial
    go_wp2_with fail
    go_round
    case rel => exact ⟨k + 1, _, by omega, by go_num, rfl, by omega, by omega⟩
    case measure => simp [intOf]; omega
  go_wp2_with fail
  refine (add_any _ _ w (by omega) (by omega) m7).mono ?_
  rintro e w1 ⟨y, ok, rfl, hy0, hy1, rfl⟩
  cases ok
  · go_wp2_with fail
    go_ret
    exact ans_yes _ trivial
  go_wp2_with fail
  refine (add_any _ _ w (by omega) (by omega) m8).mono ?_
  rintro e w1 ⟨y, ok, rfl, hy0, hy1, rfl⟩
  cases ok
  · go_wp2_with fail
    go_ret
    exact ans_yes _ trivial
  go_wp2_with fail
  refine (add_any _ _ w (by omega) (by omega) m9).mono ?_
  rintro e w1 ⟨y, ok, rfl, hy0, hy1, rfl⟩
  cases ok
  · go_wp2_with fail
    go_ret
    exact ans_yes _ trivial
  go_wp2_with fail
  go_ret
  exact ans_no _ _
end Go.Proofs.Qxb6608550a
