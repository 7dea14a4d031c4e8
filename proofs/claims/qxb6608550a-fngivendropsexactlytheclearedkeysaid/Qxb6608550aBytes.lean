/-
  THE WALK of zzBytes_FnGivenOrderedAndBlindToIDTypeCure (20).
-/
import Derived.Test.Qxb6608550aSmall
import Derived.Deep.DeepCutAuto
namespace Go.Proofs.Qxb6608550a
open Go.RowKit

/-- a pointer to a string that came in -/
def PStr (w : World) (p : Option Addr) : Prop := ∀ a, p = some a → ∃ s, w.cell? a = some (.string s) ∧ s.size ≤ 9223372036854775807
/-- a slice of strings that came in -/
def StrsIn (w : World) (a : Option Addr) (n : Nat) : Prop := ∀ j, j < n → ∃ b off s, a = some ⟨b, off, none⟩ ∧ w.cell? ⟨b, off + j, none⟩ = some (.string s) ∧ s.size ≤ 9223372036854775807

def okB (nL nR n7 n8 n9 : Nat) : Prop := nL ≤ 1048576 ∧ nR ≤ 1048576 ∧ n7 ≤ 1048576 ∧ n8 ≤ 1048576 ∧ n9 ≤ 1048576

/-- a bool comes back, nothing turns; 'true' says that the lengths are small -/
def Ans (p : Prop) (w : World) (e : Ending) (w' : World) : Prop := ∃ b, e = .returned (.bool b) ∧ w' = w ∧ (b = true → p)
theorem ans_no (p : Prop) (w : World) : Ans p w (.returned (.bool false)) w := ⟨false, rfl, rfl, fun h => by cases h⟩
theorem ans_yes {p : Prop} (w : World) (h : p) : Ans p w (.returned (.bool true)) w := ⟨true, rfl, rfl, fun _ => h⟩

set_option maxRecDepth 100000 in
set_option maxHeartbeats 4000000 in
theorem bytes20 (p0 p1 p3 p4 p5 aL aR a7 a8 a9 : Option Addr) (nL cL nR cR n7 c7 n8 c8 n9 c9 : Nat) (w : World)
    (h0 : PStr w p0) (h1 : PStr w p1) (h4 : PStr w p4) (h5 : PStr w p5) (sL : StrsIn w aL nL) (sR : StrsIn w aR nR)
    (mL : nL ≤ 9223372036854775807) (mR : nR ≤ 9223372036854775807) (m7 : n7 ≤ 9223372036854775807) (m8 : n8 ≤ 9223372036854775807) (m9 : n9 ≤ 9223372036854775807) :
    Calls Try.prog 20 #[.pointer p0, .pointer p1, .slice aL nL cL, .pointer p3, .pointer p4, .pointer p5, .slice aR nR cR, .slice a7 n7 c7, .slice a8 n8 c8, .slice a9 n9 c9] w
      fun e w' => Ans (okB nL nR n7 n8 n9) w e w' := by
  have H0 := hide h0
  have H1 := hide h1
  have H4 := hide h4
  have H5 := hide h5
  have SL := hide sL
  have SR := hide sR
  clear h0 h1 h4 h5 sL sR
  go_enter Try.func20, Try.ntmps20
  go_upto_if 25 with fail
  all_goals try (go_ret; exact ans_no _ _)
  go_cut [21] (fun z wc => w = wc ∧ ∃ x : Int, z = .int .i64 x ∧ 0 ≤ x ∧ x ≤ 1048576)
  case first =>
    cases p0 with
    | none =>
      go_wp2
      go_meet
      case rel => exact ⟨rfl, 0, rfl, by omega, by omega⟩
    | some a =>
      obtain ⟨s, hc, hs⟩ := H0.out a rfl
      go_wp2
      all_goals first
        | (go_ret; exact ans_no _ _)
        | (go_meet; case rel => exact ⟨rfl, _, rfl, by omega, by omega⟩)
  obtain ⟨rfl, x, rfl, hx0, hx1⟩ := hcut
  go_upto_if 40 with fail
  all_goals try (go_ret; exact ans_no _ _)
  go_cut [21] (fun z wc => w = wc ∧ ∃ x : Int, z = .int .i64 x ∧ 0 ≤ x ∧ x ≤ 1048576)
  case first =>
    cases p1 with
    | none =>
      go_wp2
      go_meet
      case rel => exact ⟨rfl, _, rfl, by omega, by omega⟩
    | some a =>
      obtain ⟨s, hc, hs⟩ := H1.out a rfl
      go_wp2
      all_goals first
        | (go_ret; exact ans_no _ _)
        | (go_meet; case rel => exact ⟨rfl, _, rfl, by omega, by omega⟩)
  obtain ⟨rfl, x, rfl, hx0, hx1⟩ := hcut
  go_wp2
  all_goals try (go_ret; exact ans_no _ _)
  go_loop [21, 22] (fun z i => ∃ (k : Nat) (x : Int), k ≤ nL ∧ i = .int .i64 k ∧ z = .int .i64 x ∧ 0 ≤ x ∧ x ≤ 1048576) (fun _ i => nL - (intOf i).toNat)
  case atStart => exact ⟨0, _, by omega, rfl, rfl, by omega, by omega⟩
  obtain ⟨k, x, hk, rfl, rfl, hx0, hx1⟩ := hrel
  by_cases hlt : k < nL
  · obtain ⟨b, off, s, rfl, hc, hs⟩ := SL.out k hlt
    go_wp2
    all_goals first
      | (go_ret; exact ans_no _ _)
      | (go_round
         case rel => exact ⟨k + 1, _, by omega, by go_num, rfl, by omega, by omega⟩
         case measure => simp [intOf]; omega)
  go_upto_if 85 with fail
  all_goals try (go_ret; exact ans_no _ _)
  go_cut [21] (fun z wc => w = wc ∧ ∃ x : Int, z = .int .i64 x ∧ 0 ≤ x ∧ x ≤ 1048576)
  case first =>
    cases p4 with
    | none =>
      go_wp2
      go_meet
      case rel => exact ⟨rfl, _, rfl, by omega, by omega⟩
    | some a =>
      obtain ⟨s, hc, hs⟩ := H4.out a rfl
      go_wp2
      all_goals first
        | (go_ret; exact ans_no _ _)
        | (go_meet; case rel => exact ⟨rfl, _, rfl, by omega, by omega⟩)
  obtain ⟨rfl, x, rfl, hx0, hx1⟩ := hcut
  go_upto_if 100 with fail
  all_goals try (go_ret; exact ans_no _ _)
  go_cut [21] (fun z wc => w = wc ∧ ∃ x : Int, z = .int .i64 x ∧ 0 ≤ x ∧ x ≤ 1048576)
  case first =>
    cases p5 with
    | none =>
      go_wp2
      go_meet
      case rel => exact ⟨rfl, _, rfl, by omega, by omega⟩
    | some a =>
      obtain ⟨s, hc, hs⟩ := H5.out a rfl
      go_wp2
      all_goals first
        | (go_ret; exact ans_no _ _)
        | (go_meet; case rel => exact ⟨rfl, _, rfl, by omega, by omega⟩)
  obtain ⟨rfl, x, rfl, hx0, hx1⟩ := hcut
  go_wp2
  all_goals try (go_ret; exact ans_no _ _)
  go_loop [21, 23] (fun z i => ∃ (k : Nat) (x : Int), k ≤ nR ∧ i = .int .i64 k ∧ z = .int .i64 x ∧ 0 ≤ x ∧ x ≤ 1048576) (fun _ i => nR - (intOf i).toNat)
  case atStart => exact ⟨0, _, by omega, rfl, rfl, by omega, by omega⟩
  obtain ⟨k, x, hk, rfl, rfl, hx0, hx1⟩ := hrel
  by_cases hlt : k < nR
  · obtain ⟨b, off, s, rfl, hc, hs⟩ := SR.out k hlt
    go_wp2
    all_goals first
      | (go_ret; exact ans_no _ _)
      | (go_round
         case rel => exact ⟨k + 1, _, by omega, by go_num, rfl, by omega, by omega⟩
         case measure => simp [intOf]; omega)
  go_wp2
  all_goals try (go_ret; exact ans_no _ _)
  go_ret
  exact ans_yes _ (by unfold okB; omega)
end Go.Proofs.Qxb6608550a
