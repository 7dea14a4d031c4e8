/-
  THE WALKS of cloneBytes (5), ZZnewHeldReader (6); the three readers side by side.
-/
import Derived.Test.Qxb6608621aDoorRead
import Derived.Laws.IdiomCopy
import Derived.Laws.IdiomStrings
import Derived.Lib.SliceRun
namespace Go.Proofs.Qxb6608621aDoor
open Go.RowKit

/-- the bytes of a slice -/
def HB (w : World) (ao : Option Addr) (n : Nat) (z : Nat → Int) : Prop := ∀ j, j < n → ∃ b off, ao = some ⟨b, off, none⟩ ∧ w.cell? ⟨b, off + j, none⟩ = some (.int .u8 (z j))
theorem HB.below {w w' : World} {ao : Option Addr} {n : Nat} {z : Nat → Int} (h : HB w ao n z) (hb : Below w.heap.size w w') : HB w' ao n z := fun j hj => by
  obtain ⟨b, off, e, hc⟩ := h j hj
  exact ⟨b, off, e, by rw [hb.cell (World.block_lt_of_cell? w _ hc)]; exact hc⟩
theorem HB.drewN {w : World} {ao : Option Addr} {n : Nat} {z : Nat → Int} (h : HB w ao n z) (q : Nat) : HB (w.drewN q) ao n z := h
theorem HB.take {w : World} {ao : Option Addr} {n : Nat} {z : Nat → Int} (h : HB w ao n z) {k : Nat} (hk : k ≤ n) : HB w ao k z := fun j hj => h j (by omega)

/-- 's[k:]' by one name -/
def cutA (ao : Option Addr) (n k : Nat) : Option Addr := if n = k then ao else ao.map (·.add k)
theorem HB.cut {w : World} {ao : Option Addr} {n : Nat} {z : Nat → Int} (h : HB w ao n z) {k : Nat} (hk : k ≤ n) : HB w (cutA ao n k) (n - k) (fun j => z (k + j)) := fun j hj => by
  obtain ⟨b, off, rfl, hc⟩ := h (k + j) (by omega)
  unfold cutA
  rw [if_neg (by omega)]
  exact ⟨b, off + k, by rw [Option.map_some, Go.WideShapes.add_plain], by rw [Nat.add_assoc]; exact hc⟩

theorem run_take (w : World) (ao : Option Addr) (n k : Nat) (h : k ≤ n) : (Instr.slice 22 (.slice ao n n) none (some (.int .i64 (k : Int))) none).run Tryd.prog w = .ok (.slice ao k n) w := by
  have ht' : Tryd.prog.underlying 22 = some (.slice (Tryd.prog.elem 22)) := by simp [Program.elem, Tryd.underlying22]
  have he : Tryd.prog.elem 22 = 5 := by simp [Program.elem, Tryd.underlying22]
  rw [run_slice_h w 22 _ _ _ ht' .i64 _ (by omega) (by omega), he, Tryd.sizeOf5]
  have : ∀ x : Addr, x.add 0 = x := fun x => by simp [Addr.add]
  cases ao <;> simp [Result.andThen, sliced, this]
theorem run_cut (w : World) (ao : Option Addr) (n k : Nat) (h : k ≤ n) : (Instr.slice 22 (.slice ao n n) (some (.int .i64 (k : Int))) none none).run Tryd.prog w = .ok (.slice (cutA ao n k) (n - k) (n - k)) w := by
  have ht' : Tryd.prog.underlying 22 = some (.slice (Tryd.prog.elem 22)) := by simp [Program.elem, Tryd.underlying22]
  have he : Tryd.prog.elem 22 = 5 := by simp [Program.elem, Tryd.underlying22]
  rw [run_slice_l w 22 _ _ _ ht' .i64 _ (by omega) (by omega), he, Tryd.sizeOf5]
  unfold cutA
  simp [Result.andThen, sliced]

theorem Tryd.info5 : (Tryd.prog.info? 5).map (fun i => (i.zero, i.size, i.bytes)) = some (some (.int .u8 0), 1, 1) := by kernel_rfl
theorem cell_made (w : World) (z : Array Value) (e : TypeId) (n j : Nat) (h : j < n) : ((w.alloc (.cells (madeCells z n) e)).cell? ⟨w.heap.size, j, none⟩).isSome = true := by
  rw [World.cell?_alloc_mark, Array.getElem?_eq_getElem (by rw [size_madeCells]; exact h)]; rfl
theorem free_made (w : World) (cs : Array Value) (e : TypeId) (j : Nat) : (w.alloc (.cells cs e)).frozen? ⟨w.heap.size, j, none⟩ = false := by
  have := World.frozen?_alloc_mark w cs e 0 0 j
  rw [this]; simp
theorem make_bytes (w : World) (n : Nat) (hm : n ≤ 1048576) :
    ∃ W1, (Instr.makeSlice 22 (.int .i64 n) (.int .i64 n)).run Tryd.prog w = .ok (.slice (some ⟨w.heap.size, 0, none⟩) n n) W1 ∧ Below w.heap.size w W1 ∧
      (∀ j, j < n → (W1.cell? ⟨w.heap.size, j, none⟩).isSome = true) ∧ (∀ j, j < n → W1.frozen? ⟨w.heap.size, j, none⟩ = false) := by
  obtain ⟨i0, hi, hz0, hz1, hz2⟩ := info_parts Tryd.info5
  have hmk := run_make (P := Tryd.prog) w 22 5 i0 (.int .u8 0) Tryd.underlying22 hi hz0 .i64 .i64 n n (by omega) (by omega) (by rw [hz2]; omega) (by omega)
  simp only [Int.toNat_natCast, hz1, Nat.mul_one] at hmk
  exact ⟨_, hmk, (Below.refl _ _).alloc (Nat.le_refl _) _, fun j hj => cell_made w _ _ _ _ hj, fun j _ => free_made w _ _ _⟩

/-- the copy, filled up to k -/
structure Filled (w wr : World) (g n k : Nat) (f : Nat → Int) : Prop where
  below : Below g w wr
  there : ∀ j, j < n → (wr.cell? ⟨g, j, none⟩).isSome = true
  free : ∀ j, j < n → wr.frozen? ⟨g, j, none⟩ = false
  done : ∀ j, j < k → wr.cell? ⟨g, j, none⟩ = some (.int .u8 (f j))
theorem Filled.step {w wr : World} {g n k : Nat} {f : Nat → Int} (h : Filled w wr g n k f) (hk : k < n) : Filled w (wr.setCell ⟨g, k, none⟩ (.int .u8 (f k))) g n (k + 1) f where
  below := h.below.setCell (Nat.le_refl _) _
  there := fun j hj => by
    by_cases e : j = k
    · subst e
      obtain ⟨u, hu⟩ := Option.isSome_iff_exists.1 (h.there j hj)
      rw [World.cell?_setCell_same _ _ _ hu]; rfl
    · rw [World.cell?_setCell_other _ _ _ _ (by simp)]; exact h.there j hj
  free := fun j hj => by rw [World.frozen?_setCell]; exact h.free j hj
  done := fun j hj => by
    by_cases e : j = k
    · subst e
      obtain ⟨u, hu⟩ := Option.isSome_iff_exists.1 (h.there j hk)
      rw [World.cell?_setCell_same _ _ _ hu]
    · rw [World.cell?_setCell_other _ _ _ _ (by simp)]; exact h.done j (by omega)

set_option maxHeartbeats 400000 in
theorem clone_nil (n c : Nat) (w : World) : Calls Tryd.prog 5 #[.slice none n c] w fun e w' => e = .returned (.slice none 0 0) ∧ w' = w := by
  have q := fun w => Lib.run_eql_slice_nil (P := Tryd.prog) w 22 5 none n c 0 0 Tryd.underlying22
  go_enter Tryd.func5, Tryd.ntmps5
  go_wp2
  go_ret
  exact ⟨rfl, rfl⟩
set_option maxHeartbeats 1000000 in
theorem clone_some (x : Addr) (n c : Nat) (z : Nat → Int) (w : World) (hm : n ≤ 1048576) (h : HB w (some x) n z) :
    Calls Tryd.prog 5 #[.slice (some x) n c] w fun e w' => e = .returned (.slice (some ⟨w.heap.size, 0, none⟩) n n) ∧ Filled w w' w.heap.size n n z := by
  have q := fun w => Lib.run_eql_slice_nil (P := Tryd.prog) w 22 5 (some x) n c 0 0 Tryd.underlying22
  obtain ⟨W1, hmk, hB, hth, hfr⟩ := make_bytes w n hm
  have F0 := hide (show Filled w W1 w.heap.size n 0 z from ⟨hB, hth, hfr, fun j hj => by omega⟩)
  have HH := hide h
  clear hB hth hfr h
  go_enter Tryd.func5, Tryd.ntmps5
  go_wp2
  go_loopw [4] (fun i wr => ∃ k : Nat, k ≤ n ∧ i = .int .i64 k ∧ Filled w wr w.heap.size n k z) (fun i _ => n - (intOf i).toNat)
  case atStart => exact ⟨0, by omega, rfl, F0.out⟩
  case round =>
    obtain ⟨k, hk, rfl, F⟩ := hrel
    by_cases hlt : k < n
    · obtain ⟨b, off, e, hc0⟩ := HH.out k hlt
      obtain rfl : x = ⟨b, off, none⟩ := by cases e; rfl
      have hc : wr.cell? ⟨b, off + k, none⟩ = some (.int .u8 (z k)) := by
        rw [F.below.cell (p := ⟨b, off + k, none⟩) (World.block_lt_of_cell? w _ hc0)]; exact hc0
      obtain ⟨u, hu⟩ := Option.isSome_iff_exists.1 (F.there k hlt)
      have hz := F.free k hlt
      have HF := hide (F.step hlt)
      clear hc0 F e
      go_wp2
      go_roundw
      case rel => exact ⟨k + 1, by omega, by go_num, HF.out⟩
      case measure => simp [intOf]; omega
    · obtain rfl : k = n := by omega
      have HF := hide F
      clear F
      go_wp2
      go_ret
      exact ⟨rfl, HF.out⟩
/-- cloneBytes of whatever slice -/
theorem clone_any (ao : Option Addr) (n c : Nat) (z : Nat → Int) (w : World) (hm : n ≤ 1048576) (hn : ao = none → n = 0) (h : HB w ao n z) :
    Calls Tryd.prog 5 #[.slice ao n c] w fun e w' => ∃ ao', e = .returned (.slice ao' n n) ∧ (ao' = none → n = 0) ∧ HB w' ao' n z ∧ Below w.heap.size w w' := by
  cases ao with
  | none =>
    obtain rfl := hn rfl
    exact (clone_nil 0 c w).mono fun e w' ⟨he, hw⟩ => ⟨none, he, fun _ => rfl, fun j hj => by omega, by rw [hw]; exact Below.refl _ _⟩
  | some x => exact (clone_some x n c z w hm h).mono fun e w' ⟨he, F⟩ => ⟨_, he, (fun h => by cases h), fun j hj => ⟨_, _, rfl, by rw [Nat.zero_add]; exact F.done j hj⟩, F.below⟩

set_option maxHeartbeats 400000 in
theorem held_any (ao : Option Addr) (n c : Nat) (a : Addr) (w : World) (hE : w.cell? ⟨0, 0, none⟩ = some (.iface 43 (.pointer (some a)))) :
    Calls Tryd.prog 6 #[.slice ao n c, .int .i64 0] w fun e w' => ∃ g, e = .returned (.pointer (some ⟨g, 0, none⟩)) ∧ w.heap.size ≤ g ∧ g < w'.heap.size ∧ RD w' g a ao n c 0 ∧ Below w.heap.size w w' := by
  go_enter Tryd.func6, Tryd.ntmps6
  go_wp2
  go_ret
  refine ⟨w.heap.size, rfl, Nat.le_refl _, by simp, ⟨?_, ?_, ?_, ?_, ?_⟩, (Below.refl _ _).alloc (Nat.le_refl _) _⟩
  · rw [World.cell?_alloc_mark]; rfl
  · rw [World.cell?_alloc_mark]; rfl
  · rw [World.cell?_alloc_mark]; rfl
  · rw [World.cell?_alloc_mark]; rfl
  · exact free_made w _ _ _
end Go.Proofs.Qxb6608621aDoor
