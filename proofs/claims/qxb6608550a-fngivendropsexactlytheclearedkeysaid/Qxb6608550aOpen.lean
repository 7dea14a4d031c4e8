/-
  HOW THE TEN ARGUMENTS ARE READ.
-/
import Derived.Test.Qxb6608550aArgs
import Derived.ProofKit
import Derived.OpenShut
import Derived.ShutString
import Derived.ChangeOld
import Derived.SliceStrings
namespace Go.Proofs.Qxb6608550a
open Go.ChangeShapes Go.WideShapes Go.ChangeAt Go.RowKit

variable {H : Type} {enc : TypeId × Value → H} {W : World} {base base' : Nat} {r : Reach} {sp : Nat → Bool} {held : Bool}

theorem Try.cells9 : Try.prog.cellsOf 9 = 1 := by kernel_rfl
theorem Try.cells4 : Try.prog.cellsOf 4 = 1 := by kernel_rfl
theorem Try.cells5 : Try.prog.cellsOf 5 = 1 := by kernel_rfl

theorem open_ptr_str {v : Value} {d : DataW H} {ps : List MemPlace} (hval : Value.okWide Try.prog W r base 24 v) (hd : DataW.Trod enc Try.prog W base' sp held 24 v d ps) : ∃ p, v = .pointer p ∧ PStr W p := by
  rcases open_ptr Try.underlying24 (by rw [Try.cells9]; omega) hval hd with ⟨rfl, _, _⟩ | ⟨b, off, cs, y, fuel, rfl, _, _, _, hcell, hy⟩
  · exact ⟨none, rfl, fun a h => by cases h⟩
  · obtain ⟨s, rfl, _, hs⟩ := DataW.trod_string Try.underlying9 hy
    refine ⟨_, rfl, fun a h => ?_⟩
    cases h
    have := hcell 0 (by rw [Try.cells9]; omega)
    exact ⟨s, by simpa using this, by unfold maxLen at hs; omega⟩
theorem open_ptr_bl {v : Value} {d : DataW H} {ps : List MemPlace} (hval : Value.okWide Try.prog W r base 26 v) (hd : DataW.Trod enc Try.prog W base' sp held 26 v d ps) : ∃ p, v = .pointer p ∧ PBool W p := by
  rcases open_ptr Try.underlying26 (by rw [Try.cells4]; omega) hval hd with ⟨rfl, _, _⟩ | ⟨b, off, cs, y, fuel, rfl, _, _, _, hcell, hy⟩
  · exact ⟨none, rfl, fun a h => by cases h⟩
  · obtain ⟨s, rfl, _⟩ := DataW.trod_bool Try.underlying4 hy
    refine ⟨_, rfl, fun a h => ?_⟩
    cases h
    have := hcell 0 (by rw [Try.cells4]; omega)
    exact ⟨s, by simpa using this⟩
theorem open_sl_str {v : Value} {d : DataW H} {ps : List MemPlace} (hval : Value.okWide Try.prog W r base 25 v) (hd : DataW.Trod enc Try.prog W base' (fun _ => true) held 25 v d ps) :
    ∃ a n c vs, v = .slice a n c ∧ CellsAt W a n vs ∧ AllStr vs ∧ (a = none → n = 0) ∧ n ≤ 9223372036854775807 := by
  obtain ⟨a, n, c, rfl⟩ := okWide_slice Try.underlying25 hval
  obtain ⟨fuel, hf⟩ := hd
  rcases open_strings Try.underlying25 Try.underlying9 Try.cells9 hf with ⟨hcs, _⟩ | ⟨x, l, cap, ss, hcs, _, hl, hm, hz, _, hcell, hws⟩
  · simp [Value.cells] at hcs
    obtain ⟨rfl, rfl, rfl⟩ := hcs
    exact ⟨none, 0, 0, [], rfl, ⟨rfl, by simp, fun x hx => by cases hx⟩, by intro v hv; simp at hv, fun _ => rfl, by omega⟩
  · simp [Value.cells] at hcs
    obtain ⟨rfl, rfl, rfl⟩ := hcs
    have hz' : ss.length = c := by simpa using hz
    refine ⟨some x, n, c, (ss.take n).map Value.string, rfl, ⟨by simp; omega, ?_, ?_⟩, ?_, (fun h => by cases h), by unfold maxLen at hm; omega⟩
    · intro v hv; obtain ⟨s, _, rfl⟩ := List.mem_map.1 hv; rfl
    · intro y hy j v hv
      cases hy
      rw [List.getElem?_map, Option.map_eq_some_iff] at hv
      obtain ⟨s, hs, rfl⟩ := hv
      have hj : j < (ss.take n).length := (List.getElem?_eq_some_iff.1 hs).1
      have hj' : j < n := by simp at hj; omega
      rw [hcell j (by omega)]
      rw [List.getElem?_take, if_pos hj'] at hs
      simp [List.getD, hs]
    · intro v hv
      obtain ⟨s, hs, rfl⟩ := List.mem_map.1 hv
      have := hws s (List.mem_of_mem_take hs)
      exact ⟨s, rfl, by unfold maxLen at this; omega⟩
theorem open_sl_bts {v : Value} {d : DataW H} {ps : List MemPlace} (hval : Value.okWide Try.prog W r base 27 v) (hd : DataW.Trod enc Try.prog W base' (fun _ => true) held 27 v d ps) :
    ∃ a n c vs, v = .slice a n c ∧ CellsAt W a n vs ∧ n ≤ 9223372036854775807 := by
  obtain ⟨a, n, c, rfl⟩ := okWide_slice Try.underlying27 hval
  obtain ⟨fuel, hf⟩ := hd
  rcases open_ints Try.underlying27 Try.underlying5 Try.cells5 hf with ⟨hcs, _⟩ | ⟨x, l, cap, zs, hcs, _, hl, hm, hz, _, hcell, hwz⟩
  · simp [Value.cells] at hcs
    obtain ⟨rfl, rfl, rfl⟩ := hcs
    exact ⟨none, 0, 0, [], rfl, ⟨rfl, by simp, fun x hx => by cases hx⟩, by omega⟩
  · simp [Value.cells] at hcs
    obtain ⟨rfl, rfl, rfl⟩ := hcs
    have hz' : zs.length = c := by simpa using hz
    refine ⟨some x, n, c, (zs.take n).map (Value.int .u8), rfl, ⟨by simp; omega, ?_, ?_⟩, by unfold maxLen at hm; omega⟩
    · intro v hv; obtain ⟨s, _, rfl⟩ := List.mem_map.1 hv; rfl
    · intro y hy j v hv
      cases hy
      rw [List.getElem?_map, Option.map_eq_some_iff] at hv
      obtain ⟨s, hs, rfl⟩ := hv
      have hj : j < (zs.take n).length := (List.getElem?_eq_some_iff.1 hs).1
      have hj' : j < n := by simp at hj; omega
      rw [hcell j (by omega)]
      rw [List.getElem?_take, if_pos hj'] at hs
      simp [List.getD, hs]
end Go.Proofs.Qxb6608550a
