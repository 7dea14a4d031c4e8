/-
  THE SHELL OF A PROOF OF 'Rows.FnCurrencyCodeCaseFoldSaid' ('example.com/custos/custos/zzlaws_book_b1.FnCurrencyCodeCaseFold'), WRITTEN BY PROGRAM (proof-skeleton.mjs) off the guide's own print for that function. Not trusted: Lean checks it.
  The walk is filled, its world by 'Below'; ALL ELSE IS THE GUIDE's TEMPLATE (howto/template/XProofs.lean) at this function's number and types: leave it.
-/
import Derived.Test.Qxb6608550aRows
import Derived.Test.Qxb6608550aCase
import Derived.ChangeOld
import Derived.ChangeKeysEq
import Derived.WalkKit
import Derived.ProofKit
import Derived.OpenShut
import Derived.ShutString
namespace Go.Proofs.Qxb6608550a.fnCurrencyCodeCaseFold
open Go.ChangeShapes Go.WideShapes Go.ChangeAt Go.RowKit
open Go.ChangeMaps (open_string shut_string)
set_option linter.unusedVariables false      -- a walk need not use every 'w<i>' (that an integer argument fits its kind)

theorem own : ownKnob Try.prog.godebug = none := by kernel_rfl

/-! ### STEP 1: THE WALK -/
theorem eq_toList {a b : ByteArray} : (a.toList == b.toList) = decide (bts a = bts b) := by
  rw [Bool.eq_iff_iff]; simp [bts, ByteArray.toList_eq]

set_option maxHeartbeats 400000 in
theorem bytes6 (s : ByteArray) (w : World) (hm : s.size ≤ 1048576) : Calls Try.prog 6 #[.string s] w fun e w' => e = .returned (.bool true) ∧ w' = w := by
  go_enter Try.func6, Try.ntmps6
  go_wp2
  go_ret
  exact ⟨rfl, rfl⟩

set_option maxHeartbeats 1000000 in
theorem law (s : ByteArray) (U L : ByteArray) (b1 b2 : Bool) (w : World) (hm : s.size ≤ 1048576) (hU : U = ⟨((bts s).map Fold.up).toArray⟩) (hL : L = ⟨((bts s).map Fold.lo).toArray⟩)
    (hc : (b1 = false ∧ Fold.tlB (bts s) = false ∧ Fold.ccB (bts s) = false) ∨ (b1 = true ∧ Fold.tlB (bts s) = true ∧ Fold.ccB (bts s) = b2 ∧ (U.toList == s.toList) = b2)) :
    Calls Try.prog 3 #[.string s] w fun e w' => e = .returned (.bool true) ∧ Below w.heap.size w w' := by
  have eU : bts U = (bts s).map Fold.up := by rw [hU]; simp [bts]
  have eL : bts L = (bts s).map Fold.lo := by rw [hL]; simp [bts]
  have sU : U.size = s.size := by rw [← bts_len, ← bts_len, eU, List.length_map]
  have sL : L.size = s.size := by rw [← bts_len, ← bts_len, eL, List.length_map]
  have H1 := hide (fun w => upper_any s w hm)
  have H2 := hide (fun w => lower_any s w hm)
  rw [← hU] at H1
  rw [← hL] at H2
  have H3 := hide (fun w => zcur_any s w hm)
  have H4 := hide (fun w => zcur_any U w (by rw [sU]; exact hm))
  have H5 := hide (fun w => zcur_any L w (by rw [sL]; exact hm))
  have H6 := hide (fun w => three_any s w hm)
  rw [eU, Fold.cc_up] at H4
  rw [eL, Fold.cc_lo] at H5
  clear hU hL eU eL sU sL
  rcases hc with ⟨rfl, h1, h2⟩ | ⟨rfl, h1, h2, h3⟩
  · rw [h1] at H4 H6
    rw [h2] at H3
    clear h1 h2
    go_enter Try.func3, Try.ntmps3
    go_wp2_with (go_at_call 6; refine (bytes6 _ _ hm).mono ?_; rintro e w' ⟨rfl, rfl⟩)
    refine (H1.out _).mono ?_
    rintro e w1 ⟨rfl, hb1⟩
    go_wp2_with fail
    refine (H2.out _).mono ?_
    rintro e w2 ⟨rfl, hb2⟩
    go_wp2_with fail
    refine (H3.out _).mono ?_
    rintro e w3 ⟨rfl, hb3⟩
    go_wp2_with fail
    refine (H4.out _).mono ?_
    rintro e w4 ⟨rfl, hb4⟩
    go_wp2_with fail
    refine (H5.out _).mono ?_
    rintro e w5 ⟨rfl, hb5⟩
    go_wp2_with fail
    refine (H6.out _).mono ?_
    rintro e w6 ⟨rfl, rfl⟩
    go_wp2_with fail
    go_ret
    exact ⟨rfl, hb1.trans ((hb2.trans ((hb3.trans ((hb4.trans (hb5.mono hb4.size)).mono hb3.size)).mono hb2.size)).mono hb1.size)⟩
  · rw [h1] at H4 H6
    rw [h2] at H3
    clear h1 h2
    cases b2
    all_goals
      go_enter Try.func3, Try.ntmps3
      go_wp2_with (go_at_call 6; refine (bytes6 _ _ hm).mono ?_; rintro e w' ⟨rfl, rfl⟩)
      refine (H1.out _).mono ?_
      rintro e w1 ⟨rfl, hb1⟩
      go_wp2_with fail
      refine (H2.out _).mono ?_
      rintro e w2 ⟨rfl, hb2⟩
      go_wp2_with fail
      refine (H3.out _).mono ?_
      rintro e w3 ⟨rfl, hb3⟩
      go_wp2_with fail
      refine (H4.out _).mono ?_
      rintro e w4 ⟨rfl, hb4⟩
      go_wp2_with fail
      refine (H5.out _).mono ?_
      rintro e w5 ⟨rfl, hb5⟩
      go_wp2_with fail
      refine (H6.out _).mono ?_
      rintro e w6 ⟨rfl, rfl⟩
      go_wp2_with fail
      go_ret
      exact ⟨rfl, hb1.trans ((hb2.trans ((hb3.trans ((hb4.trans (hb5.mono hb4.size)).mono hb3.size)).mono hb2.size)).mono hb1.size)⟩

theorem long (s : ByteArray) (w : World) (hm : s.size ≤ 9223372036854775807) (h : 1048576 < s.size) : Calls Try.prog 3 #[.string s] w fun e w' => e = .returned (.bool true) ∧ Below w.heap.size w w' := by
  go_enter Try.func3, Try.ntmps3
  go_wp2
  go_ret
  exact ⟨rfl, Below.refl _ _⟩

theorem walk (a0 : ByteArray) (w0 : a0.size ≤ maxLen) (w : World) :
    Calls Try.prog 3 #[.string a0] w fun e w' => e = .returned (.bool true) ∧ Below w.heap.size w w' := by
  by_cases h : 1048576 < a0.size
  · exact long a0 w (by unfold maxLen at w0; omega) h
  · cases ht : Fold.tlB (bts a0) with
    | false => exact law a0 _ _ false false w (by omega) rfl rfl (Or.inl ⟨rfl, ht, Fold.cc_no ht⟩)
    | true =>
      refine law a0 _ _ true _ w (by omega) rfl rfl (Or.inr ⟨rfl, ht, rfl, ?_⟩)
      rw [eq_toList]
      have e : bts (⟨((bts a0).map Fold.up).toArray⟩ : ByteArray) = (bts a0).map Fold.up := by simp [bts]
      rw [e]
      by_cases hu : (bts a0).map Fold.up = bts a0
      · rw [Fold.cc_yes ht hu]; simpa using hu
      · rw [Fold.cc_not hu]; simpa using hu

/-! ### THE ROW's STEP: WRITTEN OUT: LEAVE IT -/
set_option maxRecDepth 100000 in
theorem lifted (os : Os) (started : os.Started) (H : Type) (enc : TypeId × Value → H) :
    ReturnsInHanded {} Try.checked os 3 .any (Rows.fnCurrencyCodeCaseFoldSpec.pre6 enc Try.prog Try.f3 Rows.fnCurrencyCodeCaseFoldRow.domain false) (Rows.fnCurrencyCodeCaseFoldSpec.post enc Try.prog Try.f3 false true false false) := by
  refine returnsInHanded_of_change (C := Try.checked) own started (by kernel_rfl) Try.func3
    (ChangeSpec.witness6 (enc := enc) (C := Try.checked) false ⟨#[], #[.string ByteArray.empty], []⟩ 8 (by kernel_rfl) (by kernel_rfl) (by kernel_rfl) (by kernel_rfl)) ?_
  intro W base args ds gs before hval0 hW hcnd _
  have hval : ∀ (j : Nat) t v, Try.f3.params[j]? = some t → args[j]? = some v → Value.okWide Try.prog W .any base t v := hval0
  have hW' := hW
  obtain ⟨p, q, hA0, hV, rfl, hfz, hnd⟩ := hW
  have hA : DataW.TrodAll enc Try.prog W 0 (fun _ => true) true Try.f3.params.toList args.toList ds p := hA0
  rw [Try.params3] at hA hval
  obtain ⟨v0, vs0, d0, ds0, p0, q0, hargs, rfl, rfl, h0, r0⟩ := trodAll_cons hA
  obtain ⟨rfl, rfl, rfl⟩ := trodAll_nil r0
  obtain rfl : args = #[v0] := by cases args; simp_all
  obtain ⟨rfl, rfl⟩ := trodVars_none hV
  obtain ⟨a0, rfl, rfl, rfl, w0⟩ := open_string Try.underlying9 (hval 0 9 v0 rfl rfl) h0
  clear hA0 hval0
  simp only [List.append_nil] at hW'
  refine (walk a0 w0 W).mono fun e W' ⟨he, bel⟩ => ?_
  subst he
  exact ⟨_, rfl, _, _, _, [], _, [], hW', trodAll_mk1 (shut_bool Try.underlying4 _), (trodAll_cons_mk (shut_string Try.underlying9 w0) trodAll_mk0), rfl, bel.frame _, fun h => by cases h⟩

theorem over : Rows.fnCurrencyCodeCaseFoldRow.holds Try.pinned (OpenSpec.ofChange Rows.fnCurrencyCodeCaseFoldSpec) :=
  OpenClaim.holds_of_wide 3 Try.f3 rfl rfl rfl rfl rfl rfl rfl ⟨rfl, rfl, rfl, rfl, rfl⟩ rfl rfl rfl rfl rfl (by kernel_rfl) Try.func3 (by kernel_rfl)
    (of_decide_eq_true (by kernel_rfl)) (by unfold Func.isWrapper; first | (rw [if_pos (by decide +kernel)]; kernel_rfl) | (rw [if_neg (by decide +kernel)]; exact ⟨rfl, rfl⟩))
    (fun os started H enc _ => lifted os started H enc)

/-- ████ THE STATEMENT ████ -/
theorem proved : Rows.FnCurrencyCodeCaseFoldSaid :=
  over
#print axioms proved
end Go.Proofs.Qxb6608550a.fnCurrencyCodeCaseFold
