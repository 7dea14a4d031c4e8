/-
  THE WALKS of zzClone (5), zzSame (8), zzBytes (4).
-/
import Derived.Test.Qxb6608822aRFmtTag
import Derived.Test.Qxb6608822aRFmtClone
import Derived.WalkSpells
import Derived.Lib.SliceRun
namespace Go.Proofs.Qxb6608822aRFmt
open Go.RowKit

/-- the bytes of a slice -/
def HB (w : World) (ao : Option Addr) (n : Nat) (z : Nat → Int) : Prop := ∀ j, j < n → ∃ b off, ao = some ⟨b, off, none⟩ ∧ w.cell? ⟨b, off + j, none⟩ = some (.int .u8 (z j))
theorem HB.below {w w' : World} {ao : Option Addr} {n : Nat} {z : Nat → Int} (h : HB w ao n z) (hb : Below w.heap.size w w') : HB w' ao n z := fun j hj => by
  obtain ⟨b, off, e, hc⟩ := h j hj
  exact ⟨b, off, e, by rw [hb.cell (World.block_lt_of_cell? w _ hc)]; exact hc⟩
theorem HB.drewN {w : World} {ao : Option Addr} {n : Nat} {z : Nat → Int} (h : HB w ao n z) (q : Nat) : HB (w.drewN q) ao n z := h
theorem HB.take {w : World} {ao : Option Addr} {n : Nat} {z : Nat → Int} (h : HB w ao n z) {k : Nat} (hk : k ≤ n) : HB w ao k z := fun j hj => h j (by omega)

theorem make_bytes (w : World) (n : Nat) (hm : n ≤ 1048576) :
    ∃ W1, (Instr.makeSlice 22 (.int .i64 n) (.int .i64 n)).run Tryf.prog w = .ok (.slice (some ⟨w.heap.size, 0, none⟩) n n) W1 ∧ Below w.heap.size w W1 ∧
      (∀ j, j < n → (W1.cell? ⟨w.heap.size, j, none⟩).isSome = true) ∧ (∀ j, j < n → W1.frozen? ⟨w.heap.size, j, none⟩ = false) := by
  obtain ⟨i0, hi, hz0, hz1, hz2⟩ := info_parts Tryf.info5
  have hmk := run_make (P := Tryf.prog) w 22 5 i0 (.int .u8 0) Tryf.underlying22 hi hz0 .i64 .i64 n n (by omega) (by omega) (by rw [hz2]; omega) (by omega)
  simp only [Int.toNat_natCast, hz1, Nat.mul_one] at hmk
  exact ⟨_, hmk, (Below.refl _ _).alloc (Nat.le_refl _) _, fun j hj => cell_made w _ _ _ _ hj, fun j _ => free_made w _ _ _⟩

/-- the copy, filled up to k -/
structure Filled (w wr : World) (g n k : Nat) (f : Nat → Int) : Prop where
  below : Below g w wr
  there : ∀ j, j < n → (wr.cell? ⟨g, j, none⟩).isSome = true
  free : ∀ j, j < n → wr.frozen? ⟨g, j, none⟩ = false
  done : ∀ j, j < k → wr.cell? ⟨g, j, none⟩ = some (.int .u8 (f j))
theorem Filled.step {w wr : World} {g n k : Nat} {f : Nat → Int} (h : Filled w wr g n k f) (hk : k < n) : Filled w (wr.setCell ⟨g, k, none⟩ (.int .u8 (f k))) g n (k + 1) f where
  below := h.below.setCell (Nat.le_refl _) _
  there := fun j hj => by
    by_cases e : j = k
    · subst e
      obtain ⟨u, hu⟩ := Option.isSome_iff_exists.1 (h.there j hj)
      rw [World.cell?_setCell_same _ _ _ hu]; rfl
    · rw [World.cell?_setCell_other _ _ _ _ (by simp)]; exact h.there j hj
  free := fun j hj => by rw [World.frozen?_setCell]; exact h.free j hj
  done := fun j hj => by
    by_cases e : j = k
    · subst e
      obtain ⟨u, hu⟩ := Option.isSome_iff_exists.1 (h.there j hk)
      rw [World.cell?_setCell_same _ _ _ hu]
    · rw [World.cell?_setCell_other _ _ _ _ (by simp)]; exact h.done j (by omega)

set_option maxHeartbeats 400000 in
theorem clone_nil (n c : Nat) (w : World) : Calls Tryf.prog 5 #[.slice none n c] w fun e w' => e = .returned (.slice none 0 0) ∧ w' = w := by
  have q := fun w => Lib.run_eql_slice_nil (P := Tryf.prog) w 22 5 none n c 0 0 Tryf.underlying22
  go_enter Tryf.func5, Tryf.ntmps5
  go_wp2
  go_ret
  exact ⟨rfl, rfl⟩
set_option maxHeartbeats 1000000 in
theorem clone_some (x : Addr) (n c : Nat) (z : Nat → Int) (w : World) (hm : n ≤ 1048576) (h : HB w (some x) n z) :
    Calls Tryf.prog 5 #[.slice (some x) n c] w fun e w' => e = .returned (.slice (some ⟨w.heap.size, 0, none⟩) n n) ∧ Filled w w' w.heap.size n n z := by
  have q := fun w => Lib.run_eql_slice_nil (P := Tryf.prog) w 22 5 (some x) n c 0 0 Tryf.underlying22
  obtain ⟨W1, hmk, hB, hth, hfr⟩ := make_bytes w n hm
  have F0 := hide (show Filled w W1 w.heap.size n 0 z from ⟨hB, hth, hfr, fun j hj => by omega⟩)
  have HH := hide h
  clear hB hth hfr h
  go_enter Tryf.func5, Tryf.ntmps5
  go_wp2
  go_loopw [4] (fun i wr => ∃ k : Nat, k ≤ n ∧ i = .int .i64 k ∧ Filled w wr w.heap.size n k z) (fun i _ => n - (intOf i).toNat)
  case atStart => exact ⟨0, by omega, rfl, F0.out⟩
  case round =>
    obtain ⟨k, hk, rfl, F⟩ := hrel
    by_cases hlt : k < n
    · obtain ⟨b, off, e, hc0⟩ := HH.out k hlt
      obtain rfl : x = ⟨b, off, none⟩ := by cases e; rfl
      have hc : wr.cell? ⟨b, off + k, none⟩ = some (.int .u8 (z k)) := by
        rw [F.below.cell (p := ⟨b, off + k, none⟩) (World.block_lt_of_cell? w _ hc0)]; exact hc0
      obtain ⟨u, hu⟩ := Option.isSome_iff_exists.1 (F.there k hlt)
      have hz := F.free k hlt
      have HF := hide (F.step hlt)
      clear hc0 F e
      go_wp2
      go_roundw
      case rel => exact ⟨k + 1, by omega, by go_num, HF.out⟩
      case measure => simp [intOf]; omega
    · obtain rfl : k = n := by omega
      have HF := hide F
      clear F
      go_wp2
      go_ret
      exact ⟨rfl, HF.out⟩
/-- cloneBytes of whatever slice -/
theorem clone_any (ao : Option Addr) (n c : Nat) (z : Nat → Int) (w : World) (hm : n ≤ 1048576) (hn : ao = none → n = 0) (h : HB w ao n z) :
    Calls Tryf.prog 5 #[.slice ao n c] w fun e w' => ∃ ao', e = .returned (.slice ao' n n) ∧ (ao' = none → n = 0) ∧ HB w' ao' n z ∧ Below w.heap.size w w' := by
  cases ao with
  | none =>
    obtain rfl := hn rfl
    exact (clone_nil 0 c w).mono fun e w' ⟨he, hw⟩ => ⟨none, he, fun _ => rfl, fun j hj => by omega, by rw [hw]; exact Below.refl _ _⟩
  | some x => exact (clone_some x n c z w hm h).mono fun e w' ⟨he, F⟩ => ⟨_, he, (fun h => by cases h), fun j hj => ⟨_, _, rfl, by rw [Nat.zero_add]; exact F.done j hj⟩, F.below⟩


/-- 'zzc := make([]byte, len(v)); copy(zzc, v)' -/
theorem copy_bytes (w : World) (x : Addr) (n c : Nat) (z : Nat → Int) (hm : n ≤ 1048576) (h : HB w (some x) n z) :
    ∃ W1 W2, (Instr.makeSlice 22 (.int .i64 n) (.int .i64 n)).run Tryf.prog w = .ok (.slice (some ⟨w.heap.size, 0, none⟩) n n) W1 ∧
      (∀ ty, (Builtin.copy_ #[22, 22] ty #[.slice (some ⟨w.heap.size, 0, none⟩) n n, .slice (some x) n c]).run Tryf.prog W1 = .ok (goInt n) W2) ∧
      HB W2 (some ⟨w.heap.size, 0, none⟩) n z ∧ Below w.heap.size w W2 := by
  obtain ⟨i0, hi, hz0, hz1, hz2⟩ := info_parts Tryf.info5
  obtain ⟨W1, W2, h1, h2, h3, h4, _, _⟩ := clone_run (P := Tryf.prog) w 22 5 i0 (.int .u8 0) Tryf.underlying22 hi hz0 hz1 (by omega) x (vals z 0 n) n c 3 (vals_len z 0 n) (by omega) (fun j v hj => by
    obtain ⟨hjn, rfl⟩ := vals_get hj
    obtain ⟨b, off, e, hc⟩ := h j hjn
    obtain rfl : x = ⟨b, off, none⟩ := by cases e; rfl
    rw [Go.WideShapes.add_plain, Nat.zero_add]; exact hc) (vals_one z 0 n)
  exact ⟨W1, W2, h1, fun _ => h2, fun j hj => ⟨_, _, rfl, by rw [Nat.zero_add, h3 j _ (vals_at z 0 hj), Nat.zero_add]⟩, h4⟩

theorem owns_hb {w' : World} {B n c : Nat} {ao : Option Addr} {z : Nat → Int} (h : Owns w' B ao n c z) : HB w' ao n z := fun j hj => by
  rcases h.2 with ⟨_, rfl⟩ | ⟨g, cap, cur, hv, _⟩
  · omega
  · obtain rfl : ao = some ⟨g, 0, none⟩ := by cases hv; rfl
    have := h.cellAt j (by omega)
    rw [vals_at z 0 hj, Nat.zero_add] at this
    exact ⟨g, 0, rfl, by rw [Nat.zero_add]; exact this⟩

/-! ### zzSame -/
set_option maxHeartbeats 400000 in
theorem same_zero (ao bo : Option Addr) (c c' : Nat) (w : World) :
    Calls Tryf.prog 8 #[.slice ao 0 c, .slice bo 0 c'] w fun e w' => e = .returned (.bool true) ∧ w' = w := by
  go_enter Tryf.func8, Tryf.ntmps8
  go_wp2
  refine wp_loop_rounds 1 ?_
  rw [rounds_succ]
  go_wp2
  go_ret
  exact ⟨rfl, rfl⟩
set_option maxHeartbeats 400000 in
theorem same_cells (g o g' o' n c c' : Nat) (z : Nat → Int) (w : World) (hm : n ≤ 2097152) (h1 : ∀ j, j < n → w.cell? ⟨g, o + j, none⟩ = some (.int .u8 (z j))) (h2 : ∀ j, j < n → w.cell? ⟨g', o' + j, none⟩ = some (.int .u8 (z j))) :
    Calls Tryf.prog 8 #[.slice (some ⟨g, o, none⟩) n c, .slice (some ⟨g', o', none⟩) n c'] w fun e w' => e = .returned (.bool true) ∧ ∃ q, w' = w.drewN q := by
  go_enter Tryf.func8, Tryf.ntmps8
  go_wp2
  go_loopw [5] (fun i wr => ∃ k q : Nat, k ≤ n ∧ i = .int .i64 k ∧ wr = w.drewN q) (fun i _ => n - (intOf i).toNat)
  case atStart => exact ⟨0, 0, by omega, rfl, rfl⟩
  case round =>
    obtain ⟨k, q, hk, rfl, rfl⟩ := hrel
    by_cases hlt : k < n
    · have c1 := h1 k hlt
      have c2 := h2 k hlt
      clear h1 h2
      go_wp2
      go_quiet (fail)
      go_wp2
      go_roundw
      case rel => exact ⟨k + 1, _, by omega, by go_num, rfl⟩
      case measure => simp [intOf]; omega
    · go_wp2
      go_ret
      exact ⟨rfl, _, rfl⟩
theorem same_any (ao bo : Option Addr) (n c c' : Nat) (z : Nat → Int) (w : World) (hm : n ≤ 1048576) (h1 : HB w ao n z) (h2 : HB w bo n z) :
    Calls Tryf.prog 8 #[.slice ao n c, .slice bo n c'] w fun e w' => e = .returned (.bool true) ∧ ∃ q, w' = w.drewN q := by
  by_cases h0 : n = 0
  · subst h0
    exact (same_zero _ _ _ _ w).mono fun e w' ⟨he, hw⟩ => ⟨he, 0, hw⟩
  · obtain ⟨b, off, rfl, _⟩ := h1 0 (by omega)
    obtain ⟨b', off', rfl, _⟩ := h2 0 (by omega)
    refine same_cells b off b' off' n c c' z w (by omega) (fun j hj => ?_) (fun j hj => ?_)
    · obtain ⟨b1, off1, e, hc⟩ := h1 j hj
      cases e; exact hc
    · obtain ⟨b1, off1, e, hc⟩ := h2 j hj
      cases e; exact hc

theorem bytes4 (nm : ByteArray) (h s : Int) (t : Bool) (a : Option Addr) (n c : Nat) (w : World) (hm : nm.size + n ≤ 1048576) : Calls Tryf.prog 4 #[.string nm, .int .i64 h, .bool t, .int .i64 s, .slice a n c] w fun e w' => e = .returned (.bool true) ∧ w = w' := by
  go_enter Tryf.func4, Tryf.ntmps4
  go_wp2
  go_ret
  exact ⟨rfl, rfl⟩
end Go.Proofs.Qxb6608822aRFmt
