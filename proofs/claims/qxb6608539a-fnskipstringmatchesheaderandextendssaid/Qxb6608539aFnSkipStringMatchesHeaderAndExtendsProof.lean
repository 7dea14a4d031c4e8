/-
  THE SHELL OF A PROOF OF 'Rows.FnSkipStringMatchesHeaderAndExtendsSaid' ('example.com/stagewright/stagewright/zzlaws_internal_journal_b1.FnSkipStringMatchesHeaderAndExtends'), WRITTEN BY PROGRAM (proof-skeleton.mjs, third state) off the guide's own print for that function. Not trusted: Lean checks it.
  The walk is filled; ALL ELSE IS THE GUIDE's OWN WAY (howto/template/XProofs.lean; Derived/Test/ChunkProofs.lean for 'Below') at this function's number and types: leave it.
-/
import Derived.Test.Qxb6608539aRows
import Derived.Test.Qxb6608539aMatchWalk
import Derived.WalkKit
import Derived.ProofKit
import Derived.OpenShut
import Derived.ShutString
import Derived.ChangeOld
import Derived.Below
namespace Go.Proofs.Qxb6608539a.fnSkipStringMatchesHeaderAndExtends
open Go.ChangeShapes Go.WideShapes Go.ChangeAt Go.RowKit
open Go.ChangeMaps (open_string shut_string)
set_option linter.unusedVariables false

theorem own : ownKnob Try.prog.godebug = none := by kernel_rfl
theorem laidOut : laidOutB Try.prog = true := by kernel_rfl

/-- WHAT THE WALK IS TOLD OF A SLICE OF INTEGERS THAT CAME IN: it is nil; or it leads to a row of 'cap' cells, the numbers 'zs' (the first 'len' are its elements, the rest its spare room), each fitting its kind. -/
def IsRow (k : IntKind) (w : World) (a : Option Addr) (len cap : Nat) (zs : List Int) : Prop :=
  (a = none ∧ len = 0 ∧ cap = 0 ∧ zs = []) ∨
  ∃ x, a = some x ∧ len ≤ cap ∧ cap ≤ maxLen ∧ zs.length = cap ∧ (∀ i, i < zs.length → w.cell? (x.add i) = some (.int k (zs.getD i 0))) ∧ ∀ n ∈ zs, (Lit.int k n).wf = true

/-! ### STEP 1: THE WALK: the Go text returns true, AND WRITES NOTHING THAT WAS THERE: 'Below w.heap.size w w'' (Derived/Below.lean: '.refl', '.alloc', '.drew', '.setCell' at a new block, '.trans'). Open each 'IsRow' by 'rcases' AHEAD of 'go_enter'; part every test ahead of the walk. -/
theorem walk (a0 : Option Addr) (len0 cap0 : Nat) (z0 : List Int) (a1 : Option Addr) (len1 cap1 : Nat) (z1 : List Int) (w : World) (w0 : IsRow .u8 w a0 len0 cap0 z0) (w1 : IsRow .u8 w a1 len1 cap1 z1) :
    Calls Try.prog 3 #[.slice a0 len0 cap0, .slice a1 len1 cap1] w fun e w' => e = .returned (.bool true) ∧ Below w.heap.size w w' := by
  have row : ∀ (a : Option Addr) (n c : Nat) (z : List Int), IsRow .u8 w a n c z → n ≤ 9223372036854775807 ∧ Go.Lib.HoldsBytes w (.slice a n c) (bytesOf z n) ∧ (bytesOf z n).length = n := by
    intro a n c z hr
    rcases hr with ⟨rfl, rfl, rfl, rfl⟩ | ⟨x, rfl, hl, hmx, hz, hcell, hwf⟩
    · exact ⟨by omega, ⟨none, 0, rfl, fun _ => rfl, fun y hy => by cases hy⟩, rfl⟩
    · have hlen := bytesOf_len z n (by omega)
      refine ⟨by unfold maxLen at hmx; omega, ⟨some x, c, by rw [hlen], (fun h => by cases h), fun y hy j b hb => ?_⟩, hlen⟩
      cases hy
      have hj : j < n := by have := (List.getElem?_eq_some_iff.1 hb).1; omega
      rw [nb_get hb, bytesOf_nb z n j (by omega) hj hwf]
      exact hcell j (by omega)
  obtain ⟨b0, _, _⟩ := row _ _ _ _ w0
  obtain ⟨b1, hq, e1⟩ := row _ _ _ _ w1
  by_cases hlong : 1048576 < len0 ∨ (len0 ≤ 1048576 ∧ 1048576 < len1) ∨ (len0 ≤ 1048576 ∧ len1 ≤ 1048576 ∧ 1048576 < len0 + len1)
  · exact match_long1 a0 a1 len0 cap0 len1 cap1 w b0 b1 hlong
  by_cases hlong2 : 524288 < len0 ∨ (len0 ≤ 524288 ∧ 524288 < len1)
  · exact match_long2 a0 a1 len0 cap0 len1 cap1 w (by omega) hlong2
  rcases w0 with ⟨rfl, rfl, rfl, rfl⟩ | ⟨x, rfl, hl, _, hz, hcell, hwf⟩
  · cases h : Plain.skipAt (bytesOf z1 len1) with
    | none => exact match_nil_no _ a1 cap1 len1 w e1 (by omega) hq h
    | some c => exact match_nil_ok _ a1 cap1 len1 w e1 (by omega) hq c h
  · have e0 := bytesOf_len z0 len0 (by omega)
    have hsrc : ∀ j, j < len0 → w.cell? (x.add j) = some (.int .u8 (Plain.nb (bytesOf z0 len0) j)) := fun j hj => by
      rw [bytesOf_nb z0 len0 j (by omega) (by omega) hwf]; exact hcell j (by omega)
    cases h : Plain.skipAt (bytesOf z0 len0) with
    | some c => exact match_ok x cap0 _ _ a1 cap1 len0 len1 w e0 e1 (by omega) (by omega) hq hsrc c h
    | none =>
      cases h' : Plain.skipAt (bytesOf z0 len0 ++ bytesOf z1 len1) with
      | none => exact match_no_no x cap0 _ _ a1 cap1 len0 len1 w e0 e1 (by omega) (by omega) hq hsrc h h'
      | some c => exact match_no_ok x cap0 _ _ a1 cap1 len0 len1 w e0 e1 (by omega) (by omega) hq hsrc h c h'

/-! ### THE ROW's STEP: WRITTEN OUT: LEAVE IT -/
set_option maxRecDepth 100000 in
theorem lifted (os : Os) (started : os.Started) (H : Type) (enc : TypeId × Value → H) :
    ReturnsInHanded {} Try.checked os 3 .any (Rows.fnSkipStringMatchesHeaderAndExtendsSpec.pre6 enc Try.prog Try.f3 Rows.fnSkipStringMatchesHeaderAndExtendsRow.domain false) (Rows.fnSkipStringMatchesHeaderAndExtendsSpec.post enc Try.prog Try.f3 false true false false) := by
  refine returnsInHanded_of_change (C := Try.checked) own started (by kernel_rfl) Try.func3
    (ChangeSpec.witness6 (enc := enc) (C := Try.checked) false ⟨#[], #[.slice none 0 0, .slice none 0 0], []⟩ 8 (by kernel_rfl) (by kernel_rfl) (by kernel_rfl) (by kernel_rfl)) ?_
  intro W base args ds gs before hval0 hW hcnd _
  have hval : ∀ (j : Nat) t v, Try.f3.params[j]? = some t → args[j]? = some v → Value.okWide Try.prog W .any base t v := hval0
  have hW' := hW
  obtain ⟨p, q, hA0, hV, rfl, hfz, hnd⟩ := hW
  have hA : DataW.TrodAll enc Try.prog W 0 (fun _ => true) true Try.f3.params.toList args.toList ds p := hA0
  rw [Try.params3] at hA hval
  obtain ⟨v0, vs0, d0, ds0, p0, q0, hargs, rfl, rfl, h0, r0⟩ := trodAll_cons hA
  obtain ⟨v1, vs1, d1, ds1, p1, q1, rfl, rfl, rfl, h1, r1⟩ := trodAll_cons r0
  obtain ⟨rfl, rfl, rfl⟩ := trodAll_nil r1
  obtain rfl : args = #[v0, v1] := by cases args; simp_all
  obtain ⟨rfl, rfl⟩ := trodVars_none hV
  obtain ⟨a0, len0, cap0, rfl⟩ := okWide_slice Try.underlying22 (hval 0 22 v0 rfl rfl)
  have k0 := h0
  have lt0 : ∀ x ∈ p0, x.block < W.heap.size := by obtain ⟨m, hm⟩ := k0; exact DataW.trod_lt m _ _ _ hm
  obtain ⟨z0, w0⟩ : ∃ zs, IsRow .u8 W a0 len0 cap0 zs := by
    obtain ⟨fuel, hf⟩ := h0
    rcases open_ints Try.underlying22 Try.underlying5 (by kernel_rfl) hf with ⟨hcs, _⟩ | ⟨x, l, c, zs, hcs, _, hl, hm, hz, _, hcell, hwz⟩
    · simp [Value.cells] at hcs
      obtain ⟨rfl, rfl, rfl⟩ := hcs
      exact ⟨[], .inl ⟨rfl, rfl, rfl, rfl⟩⟩
    · simp [Value.cells] at hcs
      obtain ⟨rfl, rfl, rfl⟩ := hcs
      exact ⟨zs, .inr ⟨_, rfl, hl, hm, by simpa using hz, hcell, hwz⟩⟩
  obtain ⟨a1, len1, cap1, rfl⟩ := okWide_slice Try.underlying22 (hval 1 22 v1 rfl rfl)
  have k1 := h1
  have lt1 : ∀ x ∈ p1, x.block < W.heap.size := by obtain ⟨m, hm⟩ := k1; exact DataW.trod_lt m _ _ _ hm
  obtain ⟨z1, w1⟩ : ∃ zs, IsRow .u8 W a1 len1 cap1 zs := by
    obtain ⟨fuel, hf⟩ := h1
    rcases open_ints Try.underlying22 Try.underlying5 (by kernel_rfl) hf with ⟨hcs, _⟩ | ⟨x, l, c, zs, hcs, _, hl, hm, hz, _, hcell, hwz⟩
    · simp [Value.cells] at hcs
      obtain ⟨rfl, rfl, rfl⟩ := hcs
      exact ⟨[], .inl ⟨rfl, rfl, rfl, rfl⟩⟩
    · simp [Value.cells] at hcs
      obtain ⟨rfl, rfl, rfl⟩ := hcs
      exact ⟨zs, .inr ⟨_, rfl, hl, hm, by simpa using hz, hcell, hwz⟩⟩
  clear hA0 hval0
  refine (walk a0 len0 cap0 z0 a1 len1 cap1 z1 W w0 w1).mono fun e W' ⟨he, bel⟩ => ?_
  subst he
  exact ⟨_, rfl, _, _, _, [], _, [], hW', trodAll_mk1 (shut_bool Try.underlying4 _), (trodAll_cons_mk (Below.trod laidOut (by kernel_rfl) (of_decide_eq_true (by kernel_rfl)) k0 bel lt0) (trodAll_cons_mk (Below.trod laidOut (by kernel_rfl) (of_decide_eq_true (by kernel_rfl)) k1 bel lt1) trodAll_mk0)), rfl, bel.frame _, fun h => by cases h⟩

theorem over : Rows.fnSkipStringMatchesHeaderAndExtendsRow.holds Try.pinned (OpenSpec.ofChange Rows.fnSkipStringMatchesHeaderAndExtendsSpec) :=
  OpenClaim.holds_of_wide 3 Try.f3 rfl rfl rfl rfl rfl rfl rfl ⟨rfl, rfl, rfl, rfl, rfl⟩ rfl rfl rfl rfl rfl (by kernel_rfl) Try.func3 (by kernel_rfl)
    (of_decide_eq_true (by kernel_rfl)) (by unfold Func.isWrapper; first | (rw [if_pos (by decide +kernel)]; kernel_rfl) | (rw [if_neg (by decide +kernel)]; exact ⟨rfl, rfl⟩))
    (fun os started H enc _ => lifted os started H enc)

/-- ████ THE STATEMENT ████ -/
theorem proved : Rows.FnSkipStringMatchesHeaderAndExtendsSaid := over
#print axioms proved
end Go.Proofs.Qxb6608539a.fnSkipStringMatchesHeaderAndExtends
