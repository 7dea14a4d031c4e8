/-
  THE WALK of FnSkipStringMatchesHeaderAndExtends (3).
-/
import Derived.Test.Qxb6608539aLeast
namespace Go.Proofs.Qxb6608539a
open Go.RowKit
open Go.Lib (HoldsBytes tailV Buf)
open Plain (nb nb_le skipAt)

theorem nb_get {l : List UInt8} {j : Nat} {x : UInt8} (h : l[j]? = some x) : (x.toNat : Int) = (nb l j : Int) := by
  obtain ⟨hj, rfl⟩ := List.getElem?_eq_some_iff.1 h
  simp [nb, List.getD, hj]
theorem get_nb {l : List UInt8} {j : Nat} (h : j < l.length) : ∃ x, l[j]? = some x ∧ (x.toNat : Int) = (nb l j : Int) := ⟨l[j], List.getElem?_eq_getElem h, nb_get (List.getElem?_eq_getElem h)⟩

/-- 'pq := make([]byte, len(p)+len(q)); copy(pq, p); copy(pq[len(p):], q)' -/
theorem pq_build (W : World) (pv qv : Value) (lp lq : List UInt8) (n0 n1 N : Nat) (e0 : lp.length = n0) (e1 : lq.length = n1) (eN : N = n0 + n1) (hp : HoldsBytes W pv lp) (hq : HoldsBytes W qv lq) (hm : N ≤ 1048576) :
    ∃ W3 W4 W5, (Instr.makeSlice 22 (.int .i64 ((n0 : Int) + (n1 : Int))) (.int .i64 ((n0 : Int) + (n1 : Int)))).run Try.prog W = .ok (.slice (some ⟨W.heap.size, 0, none⟩) N N) W3 ∧
      (Builtin.copy_ #[22, 22] 3 #[.slice (some ⟨W.heap.size, 0, none⟩) N N, pv]).run Try.prog W3 = .ok (.int .i64 (n0 : Int)) W4 ∧
      (∀ w, (Instr.slice 22 (.slice (some ⟨W.heap.size, 0, none⟩) N N) (some (.int .i64 (n0 : Int))) none none).run Try.prog w = .ok (tailV W.heap.size N n0) w) ∧
      (Builtin.copy_ #[22, 22] 3 #[tailV W.heap.size N n0, qv]).run Try.prog W4 = .ok (.int .i64 (n1 : Int)) W5 ∧
      (∀ j, j < N → W5.cell? ⟨W.heap.size, 0 + j, none⟩ = some (.int .u8 (nb (lp ++ lq) j))) ∧ Below W.heap.size W W5 := by
  obtain ⟨i0, hi, hz0, hz1, hz2⟩ := info_parts Try.info5
  have hmk := run_make (P := Try.prog) W 22 5 i0 (.int .u8 0) Try.underlying22 hi hz0 .i64 .i64 ((n0 : Int) + n1) ((n0 : Int) + n1) (by omega) (by omega) (by rw [hz2]; omega) (by omega)
  have eNi : ((n0 : Int) + (n1 : Int)).toNat = N := by omega
  rw [eNi, hz1, Nat.mul_one] at hmk
  have hb := Buf.start W (madeCells (Value.int .u8 0).cells N) 5 N 0 (by rw [size_madeCells]; exact Nat.le_refl _)
  obtain ⟨W4, h4, b4⟩ := Lib.copy_part (P := Try.prog) W _ W.heap.size N [] lp pv 22 3 5 Try.underlying22 (by rw [hi]; simp [hz1]) (Nat.le_refl _) hb hp (by simp; omega)
  obtain ⟨W5, h5, b5⟩ := Lib.copy_part (P := Try.prog) W W4 W.heap.size N ([] ++ lp) lq qv 22 3 5 Try.underlying22 (by rw [hi]; simp [hz1]) (Nat.le_refl _) b4 hq (by simp; omega)
  rw [List.length_nil, Lib.tailV_zero, e0] at h4
  simp only [List.nil_append, e0, e1] at h5 b5
  refine ⟨_, W4, W5, hmk, h4, fun w => ?_, h5, fun j hj => ?_, b5.below⟩
  · exact Lib.run_slice_tailV w 22 5 Try.underlying22 Try.sizeOf5 _ _ _ (by omega)
  · obtain ⟨x, hx, ex⟩ := get_nb (l := lp ++ lq) (j := j) (by rw [List.length_append]; omega)
    rw [Nat.zero_add, b5.holds j x hx, ex]

/-- 'r2[len(r1):]' -/
def endA (g N n0 c : Nat) : Option Addr := if N = n0 then cutA g 0 N c else some ⟨g, n0, none⟩
theorem run_end (w : World) (g N n0 c m1 m2 n1 : Nat) (h1 : c ≤ n0) (h2 : N = n0 + n1) (e1 : m1 = n0 - c) (e2 : m2 = N - c) :
    (Instr.slice 22 (.slice (cutA g 0 N c) m2 m2) (some (.int .i64 (m1 : Int))) none none).run Try.prog w = .ok (.slice (endA g N n0 c) n1 n1) w := by
  have ht' : Try.prog.underlying 22 = some (.slice (Try.prog.elem 22)) := by simp [Program.elem, Try.underlying22]
  have he : Try.prog.elem 22 = 5 := by simp [Program.elem, Try.underlying22]
  rw [run_slice_l w 22 _ _ _ ht' .i64 _ (by omega) (by omega), he, Try.sizeOf5]
  unfold endA
  have e3 : m2 - m1 = n1 := by omega
  by_cases h0 : N = n0
  · have : m2 = m1 := by omega
    subst this
    simp [Result.andThen, sliced, h0]; omega
  · have hne : ¬ m2 = m1 := by omega
    have hNc : ¬ N = c := by omega
    have hA : (⟨g, 0 + c, none⟩ : Addr).add (m1 * 1) = ⟨g, n0, none⟩ := by
      unfold Addr.add
      by_cases hz : m1 * 1 = 0
      · rw [if_pos hz]; congr 1; omega
      · rw [if_neg hz]; congr 1; show 0 + c + m1 * 1 = n0; omega
    simp only [Int.toNat_natCast, Result.andThen, sliced, cutA, if_neg hne, if_neg h0, if_neg hNc, Option.map_some, hA, e3]
theorem run_head (w : World) (g N c m1 m2 : Nat) (h : m1 ≤ m2) :
    (Instr.slice 22 (.slice (cutA g 0 N c) m2 m2) none (some (.int .i64 (m1 : Int))) none).run Try.prog w = .ok (.slice (cutA g 0 N c) m1 m2) w := by
  have ht' : Try.prog.underlying 22 = some (.slice (Try.prog.elem 22)) := by simp [Program.elem, Try.underlying22]
  have he : Try.prog.elem 22 = 5 := by simp [Program.elem, Try.underlying22]
  rw [run_slice_h w 22 _ _ _ ht' .i64 _ (by omega) (by omega), he, Try.sizeOf5]
  have : ∀ x : Addr, x.add 0 = x := fun x => by simp [Addr.add]
  simp [Result.andThen, sliced, cutA, this]

theorem same_two (g1 g2 n0 N c m1 m2 : Nat) (z : Nat → Int) (w : World) (hN : N ≤ 1048576) (h0 : n0 ≤ N) (hc : c ≤ n0) (e1 : m1 = n0 - c) (h1 : ∀ j, j < n0 → w.cell? ⟨g1, 0 + j, none⟩ = some (.int .u8 (z j))) (h2 : ∀ j, j < n0 → w.cell? ⟨g2, 0 + j, none⟩ = some (.int .u8 (z j))) :
    Calls Try.prog 8 #[.slice (cutA g2 0 N c) m1 m2, .slice (cutA g1 0 n0 c) m1 m1] w fun e w' => e = .returned (.bool true) ∧ ∃ q, w' = w.drewN q := by
  by_cases hm : m1 = 0
  · subst hm
    exact (same_zero _ _ _ _ w).mono fun e w' ⟨he, hw⟩ => ⟨he, 0, hw⟩
  · unfold cutA
    rw [if_neg (by omega), if_neg (by omega)]
    exact same_cells g2 (0 + c) g1 (0 + c) m1 _ _ (fun j => z (c + j)) w (by omega) (fun j hj => by rw [Nat.add_assoc]; exact h2 (c + j) (by omega)) (fun j hj => by rw [Nat.add_assoc]; exact h1 (c + j) (by omega))
theorem same_q (g2 N n0 c n1 k : Nat) (ao : Option Addr) (lp lq : List UInt8) (w : World) (hN : N ≤ 1048576) (eN : N = n0 + n1) (e0 : lp.length = n0) (e1 : lq.length = n1) (hq : HoldsBytes w (.slice ao n1 k) lq)
    (h2 : ∀ j, j < N → w.cell? ⟨g2, 0 + j, none⟩ = some (.int .u8 (nb (lp ++ lq) j))) :
    Calls Try.prog 8 #[.slice (endA g2 N n0 c) n1 n1, .slice ao n1 k] w fun e w' => e = .returned (.bool true) ∧ ∃ q, w' = w.drewN q := by
  by_cases hm : n1 = 0
  · subst hm
    exact (same_zero _ _ _ _ w).mono fun e w' ⟨he, hw⟩ => ⟨he, 0, hw⟩
  · obtain ⟨p, cap, ev, hnil, hcells⟩ := hq
    obtain ⟨rfl, _, _⟩ : ao = p ∧ n1 = lq.length ∧ k = cap := by cases ev; exact ⟨rfl, rfl, rfl⟩
    obtain ⟨x, rfl⟩ : ∃ x, ao = some x := by
      cases ao with
      | none => have := hnil rfl; subst this; simp at e1; omega
      | some x => exact ⟨x, rfl⟩
    have hx := hcells x rfl
    obtain ⟨x0, hx0, _⟩ := get_nb (l := lq) (j := 0) (by omega)
    obtain ⟨b, off, spot⟩ := x
    have hspot : spot = none := by simpa [Addr.add] using World.cell?_spot (hx 0 x0 hx0)
    subst hspot
    unfold endA
    rw [if_neg (by omega)]
    have enb : ∀ j, j < n1 → nb (lp ++ lq) (n0 + j) = nb lq j := fun j hj => by
      simp only [nb, List.getD]
      rw [List.getElem?_append_right (by omega), e0, Nat.add_sub_cancel_left]
    refine same_cells g2 n0 b off n1 _ _ (fun j => (nb lq j : Int)) w (by omega) (fun j hj => ?_) (fun j hj => ?_)
    · rw [← enb j hj]; have := h2 (n0 + j) (by omega); rwa [Nat.zero_add] at this
    · obtain ⟨y, hy, ey⟩ := get_nb (l := lq) (j := j) (by omega)
      have := hx j y hy
      rw [Go.WideShapes.add_plain, ey] at this
      exact this
end Go.Proofs.Qxb6608539a
