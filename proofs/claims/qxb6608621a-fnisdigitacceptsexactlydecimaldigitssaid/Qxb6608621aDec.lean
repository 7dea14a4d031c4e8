/-
  THE WALK of decDigits (4).
-/
import Derived.Test.Qxb6608621aRows
import Derived.WalkKit
import Derived.Below
import Derived.Deep.DeepCutAuto
namespace Go.Proofs.Qxb6608621a
open Go.RowKit

theorem hide {p : Prop} (h : p) : Hid p := h

theorem Try.size23 : (Try.prog.info? 23).map (·.size) = some 20 := by kernel_rfl

/-- the digits in the making: from k on they are there -/
structure Digs (w wr : World) (k : Nat) : Prop where
  out : ∃ old, wr.heap[w.heap.size]? = some (.cells old 23 (0, 0)) ∧ old.size = 20
  row : ∃ cur, wr.heap[w.heap.size + 1]? = some (.cells cur 23 (0, 0)) ∧ cur.size = 20 ∧ (∀ j, j < 20 → ∃ d : Int, cur[j]? = some (.int .u8 d) ∧ (k ≤ j → 48 ≤ d ∧ d ≤ 57))
  below : Below w.heap.size w wr

theorem digs_start (w : World) (A B : Array Value) (hA : A.size = 20) (hB : B.size = 20) (h : ∀ j, j < 20 → ∃ d : Int, B[j]? = some (.int .u8 d)) : Digs w ((w.alloc (.cells A 23)).alloc (.cells B 23)) 20 where
  out := ⟨A, heap_alloc2_old w _ _, hA⟩
  row := ⟨B, heap_alloc2_new w _ _, hB, fun j hj => by obtain ⟨d, hd⟩ := h j hj; exact ⟨d, hd, fun h => by omega⟩⟩
  below := ((Below.refl _ _).alloc (Nat.le_refl _) _).alloc (by simp) _

theorem Digs.step {w wr : World} {q : Nat} (D : Digs w wr (q + 1)) (hq : q < 20) (d : Int) (h1 : 48 ≤ d) (h2 : d ≤ 57) : Digs w (wr.setCell ⟨w.heap.size + 1, q, none⟩ (.int .u8 d)) q where
  out := by
    obtain ⟨old, h, hs⟩ := D.out
    exact ⟨old, by rw [heap_setCell_other _ _ _ _ (by show w.heap.size ≠ w.heap.size + 1; omega)]; exact h, hs⟩
  row := by
    obtain ⟨cur, h, hs, hc⟩ := D.row
    refine ⟨_, heap_setCell_same wr _ q cur 23 _ h, by simpa using hs, fun j hj => ?_⟩
    by_cases e : j = q
    · subst e
      exact ⟨d, by rw [Array.setIfInBounds_def, dif_pos (by omega)]; simp [hs, hq], fun _ => ⟨h1, h2⟩⟩
    · obtain ⟨d', hd', hb⟩ := hc j hj
      refine ⟨d', ?_, fun h => hb (by omega)⟩
      rw [Array.getElem?_setIfInBounds_ne (by omega)]; exact hd'
  below := D.below.setCell (by show w.heap.size ≤ w.heap.size + 1; omega) _

theorem zeros20 (j : Nat) (hj : j < 20) : ∃ d : Int, (Array.replicate 20 (Value.int .u8 0))[j]? = some (.int .u8 d) := ⟨0, by simp [hj]⟩
theorem below_row {W w1 : World} (h : Below W.heap.size W w1) (cs : Array Value) : Below W.heap.size W (w1.setRow W.heap.size cs) :=
  h.trans ⟨rfl, rfl, rfl, by simp, fun k hk => setRow_other w1 W.heap.size k cs (by omega)⟩
theorem all_one {cur : Array Value} {k : Nat} (h : ∀ j, j < 20 → ∃ d : Int, cur[j]? = some (.int .u8 d) ∧ (k ≤ j → 48 ≤ d ∧ d ≤ 57)) (hs : cur.size = 20) : cur.all (·.oneCell') = true := by
  rw [Array.all_eq_true]
  intro j hj
  obtain ⟨d, hd, _⟩ := h j (by omega)
  rw [Array.getElem?_eq_getElem hj, Option.some.injEq] at hd
  rw [hd]; rfl

theorem results_two {fn : Func} (h : fn.results = #[.cell 2 23, .tmp 3]) (tmps : Array Value) (w : World) (g : Nat) (cs : Array Value) (x : Value) (hp : tmps.getD 2 undef = .pointer (some ⟨g, 0, none⟩)) (hx : tmps.getD 3 undef = x)
    (hg : w.heap[g]? = some (.cells cs 23 (0, 0))) (hs : cs.size = 20) : (results fn tmps).run Try.prog w = .ok (.tuple #[.agg cs, x]) w := by
  have hp' : tmps[2]?.getD undef = .pointer (some ⟨g, 0, none⟩) := by simpa using hp
  have hx' : tmps[3]?.getD undef = x := by simpa using hx
  simp [results, h, hp', hx', asAddr, run_loadVar_row (P := Try.prog) w g 23 23 cs (0, 0) _ hg Try.underlying23 rfl (by rw [hs]; exact Try.size23)]

theorem pow_step {N q : Nat} (h : N < 10 ^ (q + 1)) (hz : ¬ N / 10 = 0) : 1 ≤ q ∧ N / 10 < 10 ^ (q - 1 + 1) := by
  have hq : 1 ≤ q := by
    cases q with
    | zero => simp at h; omega
    | succ q => omega
  refine ⟨hq, ?_⟩
  have e : q - 1 + 1 = q := by omega
  rw [e, Nat.div_lt_iff_lt_mul (by omega)]
  rw [Nat.pow_succ] at h; exact h

/-- what decDigits hands back -/
def DecAns (w : World) (e : Ending) (w' : World) : Prop := ∃ (cs : Array Value) (s : Nat), e = .returned (.tuple #[.agg cs, .int .i64 (s : Int)]) ∧ s ≤ 19 ∧ cs.size = 20 ∧ (∀ j, j < 20 → ∃ d : Int, cs[j]? = some (.int .u8 d) ∧ (s ≤ j → 48 ≤ d ∧ d ≤ 57)) ∧ Below w.heap.size w w'

set_option maxHeartbeats 1000000 in
theorem dec_any (N0 : Nat) (w : World) (hN : N0 < 18446744073709551616) :
    Calls Try.prog 4 #[.int .u64 (N0 : Int)] w fun e w' => DecAns w e w' := by
  go_enter Try.func4, Try.ntmps4
  go_wp2
  go_loopw [0, 5] (fun n i wr => ∃ q N : Nat, q ≤ 19 ∧ N < 18446744073709551616 ∧ n = .int .u64 (N : Int) ∧ i = .int .i64 ((q : Int) + 1) ∧ Hid (N < 10 ^ (q + 1)) ∧ Digs w wr (q + 1)) (fun _ i _ => (intOf i).toNat)
  case atStart => exact ⟨19, N0, by omega, hN, rfl, rfl, (by show N0 < 10 ^ (19 + 1); omega), digs_start w _ _ rfl rfl zeros20⟩
  case round =>
    obtain ⟨q, N, hq, hN64, rfl, rfl, HP, D⟩ := hrel
    have HD := hide D
    obtain ⟨cur, hrow, hsz, hcs⟩ := D.row
    obtain ⟨d0, hd0, _⟩ := hcs q (by omega)
    have hc : wr.cell? ⟨w.heap.size + 1, q, none⟩ = some (.int .u8 d0) := by rw [cell_of_row wr _ q cur 23 (0, 0) hrow]; exact hd0
    have hf : wr.frozen? ⟨w.heap.size + 1, q, none⟩ = false := frozen_of_row wr _ q cur 23 hrow
    clear D hrow hsz hcs hd0
    have HD' := hide (HD.out.step (by omega) (48 + (N : Int) % 10) (by omega) (by omega))
    by_cases hz : N / 10 = 0
    · have hz' : ((N : Int) / 10 == 0) = true := by simp; omega
      have HZ := hide hz
      clear hz
      go_upto_region 7 with fail
      obtain ⟨w1, hw1⟩ : ∃ x, x = wr.setCell ⟨w.heap.size + 1, q, none⟩ (.int .u8 (48 + (N : Int) % 10)) := ⟨_, rfl⟩
      rw [← hw1] at HD' ⊢
      clear hw1 hc hf HD HP hz' HZ
      obtain ⟨old, hold, hos⟩ := HD'.out.out
      obtain ⟨cur, hrow, hsz, hcs⟩ := HD'.out.row
      have HC := hide hcs
      have HB := hide HD'.out.below
      clear HD' hcs
      go_wp2_with (first | (refine wpList_load_row rfl 23 (.tmp 4) rfl (w.heap.size + 1) rfl 23 cur (0, 0) _ hrow Try.underlying23 rfl (by rw [hsz]; exact Try.size23) ?_) | (refine wpList_store_row rfl 23 (.tmp 2) (.tmp 18) rfl w.heap.size cur rfl rfl 23 old hold (by rw [hsz]; exact Try.size23) (by omega) (all_one HC.out hsz) ?_))
      refine bodyPost_ret (v := .tuple #[.agg cur, .int .i64 (q : Int)]) (results_two rfl _ _ w.heap.size cur _ rfl rfl (setRow_heap w1 _ _ _ 23 _ hold) hsz) rfl ?_
      exact ⟨cur, q, rfl, hq, hsz, HC.out, below_row HB.out _⟩
    · have hz' : ((N : Int) / 10 == 0) = false := by simp; omega
      have HZ := hide hz
      clear hz
      go_wp2
      go_roundw
      case rel => exact ⟨q - 1, N / 10, by omega, by omega, by go_num, by have := (pow_step HP.out HZ.out).1; go_num, (pow_step HP.out HZ.out).2, by have := (pow_step HP.out HZ.out).1; rw [show q - 1 + 1 = q by omega]; exact HD'.out⟩
      case measure => simp [intOf]
end Go.Proofs.Qxb6608621a
