/-
  THE WALKS of zzLinesOf (26) and zzRequireOf (27).
-/
import Derived.Test.Qxb6608550aGiven
import Derived.Test.Qxb6608550aClone
import Derived.Maps.Own
import Derived.Lib.SliceRun
namespace Go.Proofs.Qxb6608550a
open Go.RowKit

/-- every element reads as one and the same: what is in the map is not asked for -/
def anyR (_ : Value) : Option (DataW Unit × List MemPlace) := some (.lit (.bool true), [])

theorem Try.info44 : (Try.prog.info? 44).map (fun i => (i.zero, i.size, i.bytes)) = some (some (.map none), 1, 8) := by kernel_rfl

/-- a row of strings -/
def Strs (w : World) (a : Option Addr) (n : Nat) : Prop := (a = none ∧ n = 0) ∨ ∃ g, a = some ⟨g, 0, none⟩ ∧ ∀ j, j < n → ∃ s, w.cell? ⟨g, j, none⟩ = some (.string s) ∧ s.size ≤ maxLen

theorem make_lines (w : World) (n : Nat) (hm : n ≤ 1048576) :
    ∃ W1, (Instr.makeSlice 42 (.int .i64 n) (.int .i64 n)).run Try.prog w = .ok (.slice (some ⟨w.heap.size, 0, none⟩) n n) W1 ∧ Below w.heap.size w W1 ∧
      (∀ j, j < n → (W1.cell? ⟨w.heap.size, j, none⟩).isSome = true) ∧ (∀ j, j < n → W1.frozen? ⟨w.heap.size, j, none⟩ = false) ∧ w.heap.size + 1 ≤ W1.heap.size := by
  obtain ⟨i0, hi, hz0, hz1, hz2⟩ := info_parts Try.info44
  have hmk := run_make (P := Try.prog) w 42 44 i0 (.map none) Try.underlying42 hi hz0 .i64 .i64 n n (by omega) (by omega) (by rw [hz2]; omega) (by omega)
  simp only [Int.toNat_natCast, hz1, Nat.mul_one] at hmk
  exact ⟨_, hmk, (Below.refl _ _).alloc (Nat.le_refl _) _, fun j hj => cell_made w _ _ _ _ hj, fun j _ => free_made w _ _ _, by simp⟩

/-- the row of maps in the making -/
structure Lines (w wr : World) (n : Nat) : Prop where
  below : Below w.heap.size w wr
  there : ∀ j, j < n → (wr.cell? ⟨w.heap.size, j, none⟩).isSome = true
  free : ∀ j, j < n → wr.frozen? ⟨w.heap.size, j, none⟩ = false
  size : w.heap.size + 1 ≤ wr.heap.size

theorem grown_free {w w' : World} {row : Option Nat} (hg : w.grownBy w' row) {b k : Nat} (hb : b < w.heap.size) (hne : some b ≠ row) : w'.frozen? ⟨b, k, none⟩ = w.frozen? ⟨b, k, none⟩ :=
  World.frozen?_of_block (w := w) (hg.block b hb hne)

/-- behind the new map's one entry -/
theorem Lines.put {w wr w1 : World} {n : Nat} (L : Lines w wr n) (hg : (wr.alloc (.map #[] 0)).grownBy w1 (some wr.heap.size)) : Lines w w1 n where
  below := (L.below.alloc (by have := L.size; omega) _).grown hg (by have := L.size; simp; omega) (fun b hb => by cases hb; have := L.size; omega)
  there := fun j hj => by
    have := L.size
    rw [grown_cell hg (by simp; omega) (by simp; omega), cell_alloc_old _ _ _ _ (by omega)]; exact L.there j hj
  free := fun j hj => by
    have := L.size
    rw [grown_free hg (by simp; omega) (by simp; omega), ((Below.refl wr.heap.size wr).alloc (Nat.le_refl _) _).frozen (p := ⟨w.heap.size, j, none⟩) (by show w.heap.size < _; omega)]; exact L.free j hj
  size := by have := L.size; have := hg.size; simp at this; omega
theorem Lines.set {w wr : World} {n k : Nat} (L : Lines w wr n) (v : Value) : Lines w (wr.setCell ⟨w.heap.size, k, none⟩ v) n where
  below := L.below.setCell (Nat.le_refl _) _
  there := fun j hj => by
    obtain ⟨u, hu⟩ := Option.isSome_iff_exists.1 (L.there j hj)
    by_cases e : j = k
    · subst e; rw [World.cell?_setCell_same _ _ _ hu]; rfl
    · rw [World.cell?_setCell_other _ _ _ _ (by simp)]; exact L.there j hj
  free := fun j hj => by rw [World.frozen?_setCell]; exact L.free j hj
  size := by have := L.size; simpa [World.setCell] using this

set_option maxHeartbeats 400000 in
theorem lines_nil (n c : Nat) (w : World) : Calls Try.prog 26 #[.slice none n c] w fun e w' => e = .returned (.slice none 0 0) ∧ w' = w := by
  have q := fun w => Lib.run_eql_slice_nil (P := Try.prog) w 25 9 none n c 0 0 Try.underlying25
  go_enter Try.func26, Try.ntmps26
  go_wp2
  go_ret
  exact ⟨rfl, rfl⟩

set_option maxHeartbeats 1000000 in
theorem lines_some (g n c : Nat) (w : World) (hm : n ≤ 1048576) (hs : ∀ j, j < n → ∃ s, w.cell? ⟨g, j, none⟩ = some (.string s) ∧ s.size ≤ maxLen) :
    Calls Try.prog 26 #[.slice (some ⟨g, 0, none⟩) n c] w fun e w' => ∃ a, e = .returned (.slice (some a) n n) ∧ Below w.heap.size w w' := by
  have q := fun w => Lib.run_eql_slice_nil (P := Try.prog) w 25 9 (some ⟨g, 0, none⟩) n c 0 0 Try.underlying25
  obtain ⟨W1, hmk, hB, hth, hfr, hsz⟩ := make_lines w n hm
  have F0 : Lines w W1 n := ⟨hB, hth, hfr, hsz⟩
  have hmm := @run_makeMap Try.prog
  clear hB hth hfr hsz
  go_enter Try.func26, Try.ntmps26
  go_wp2
  go_loopw [13] (fun i wr => ∃ k : Nat, k ≤ n ∧ i = .int .i64 k ∧ Lines w wr n) (fun i _ => n - (intOf i).toNat)
  case atStart => exact ⟨0, by omega, rfl, F0⟩
  case round =>
    obtain ⟨k, hk, rfl, L⟩ := hrel
    by_cases hlt : k < n
    · obtain ⟨s, hc, hss⟩ := hs k hlt
      have hc' : wr.cell? ⟨g, k, none⟩ = some (.string s) := by
        rw [L.below.cell (p := ⟨g, k, none⟩) (World.block_lt_of_cell? w _ hc)]; exact hc
      obtain ⟨w1, hrun, _, hg⟩ := (World.ownsMap_made wr Try.prog 9 anyR).update (Maps.string_keyed Try.underlying9) Try.underlying44 (by decide) (WideMaps.keyOf_string_mk Try.underlying9 hss) (val := .agg #[.slice none 0 0, .slice none 0 0, .slice none 0 0, .pointer none]) rfl
      have L1 := L.put hg
      obtain ⟨u, hu⟩ := Option.isSome_iff_exists.1 (L1.there k hlt)
      have hz := L1.free k hlt
      clear hc hs hss
      go_wp2
      go_roundw
      case rel => exact ⟨k + 1, by omega, by go_num, L1.set _⟩
      case measure => simp [intOf]; omega
    · go_wp2
      go_ret
      exact ⟨_, rfl, L.below⟩

/-! ### zzRequireOf -/
theorem run_makeMap_n (w : World) (n : Nat) : (Instr.makeMap 44 (some (.int .i64 (n : Int)))).run Try.prog w = .ok (.map (some w.heap.size)) (w.alloc (.map #[] 0)) := by
  simp [Instr.makeMap, run_underlying Try.underlying44, asInt, asIntOf]

/-- the map in the making -/
structure Req (w wr : World) (k : Nat) : Prop where
  below : Below w.heap.size w wr
  own : ∃ D, wr.ownsMap Try.prog 9 anyR w.heap.size k D

theorem req_start (w : World) : Req w (w.alloc (.map #[] 0)) 0 := ⟨(Below.refl _ _).alloc (Nat.le_refl _) _, _, World.ownsMap_made w Try.prog 9 anyR⟩

set_option maxHeartbeats 400000 in
theorem require_nil (n c : Nat) (w : World) : Calls Try.prog 27 #[.slice none n c] w fun e w' => e = .returned (.map none) ∧ w' = w := by
  have q := fun w => Lib.run_eql_slice_nil (P := Try.prog) w 25 9 none n c 0 0 Try.underlying25
  go_enter Try.func27, Try.ntmps27
  go_wp2
  go_ret
  exact ⟨rfl, rfl⟩

set_option maxHeartbeats 1000000 in
theorem require_some (g n c : Nat) (w : World) (hm : n ≤ 1048576) (hs : ∀ j, j < n → ∃ s, w.cell? ⟨g, j, none⟩ = some (.string s) ∧ s.size ≤ maxLen) :
    Calls Try.prog 27 #[.slice (some ⟨g, 0, none⟩) n c] w fun e w' => ∃ a, e = .returned (.map (some a)) ∧ Below w.heap.size w w' := by
  have q := fun w => Lib.run_eql_slice_nil (P := Try.prog) w 25 9 (some ⟨g, 0, none⟩) n c 0 0 Try.underlying25
  have hmk := run_makeMap_n w n
  go_enter Try.func27, Try.ntmps27
  go_wp2
  go_loopw [13] (fun i wr => ∃ k : Nat, k ≤ n ∧ i = .int .i64 k ∧ Req w wr k) (fun i _ => n - (intOf i).toNat)
  case atStart => exact ⟨0, by omega, rfl, req_start w⟩
  case round =>
    obtain ⟨k, hk, rfl, L⟩ := hrel
    by_cases hlt : k < n
    · obtain ⟨s, hc, hss⟩ := hs k hlt
      have hc' : wr.cell? ⟨g, k, none⟩ = some (.string s) := by
        rw [L.below.cell (p := ⟨g, k, none⟩) (World.block_lt_of_cell? w _ hc)]; exact hc
      obtain ⟨D, hD⟩ := L.own
      obtain ⟨w1, hrun, hown, hg⟩ := hD.update (Maps.string_keyed Try.underlying9) Try.underlying44 (by unfold maxLen; omega) (WideMaps.keyOf_string_mk Try.underlying9 hss) (val := .agg #[.slice none 0 0, .slice none 0 0, .slice none 0 0, .pointer none]) rfl
      have L1 : Req w w1 (k + 1) := ⟨L.below.grown hg (by have := hD.lt; omega) (fun b hb => by cases hb; exact Nat.le_refl _), _, hown⟩
      have HL := hide L1
      clear hc hs hss hown hg hD L L1
      go_wp2
      go_roundw
      case rel => exact ⟨k + 1, by omega, by go_num, HL.out⟩
      case measure => simp [intOf]; omega
    · go_wp2
      go_ret
      exact ⟨_, rfl, L.below⟩
end Go.Proofs.Qxb6608550a
