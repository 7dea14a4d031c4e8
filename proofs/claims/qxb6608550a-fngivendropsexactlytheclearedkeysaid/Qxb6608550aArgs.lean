/-
  WHAT CAME IN, and its copies: for both laws over ZZlimitGiven.
-/
import Derived.Test.Qxb6608550aBig
namespace Go.Proofs.Qxb6608550a
open Go.RowKit

/-- the cells of a slice that came in -/
def CellsAt (w : World) (a : Option Addr) (n : Nat) (vs : List Value) : Prop := vs.length = n ∧ (∀ v ∈ vs, v.oneCell' = true) ∧ ∀ x, a = some x → ∀ (j : Nat) v, vs[j]? = some v → w.cell? (x.add j) = some v
/-- a pointer to a bool that came in -/
def PBool (w : World) (p : Option Addr) : Prop := ∀ a, p = some a → ∃ b, w.cell? a = some (.bool b)
/-- its values are strings -/
def AllStr (vs : List Value) : Prop := ∀ v ∈ vs, ∃ s, v = .string s ∧ s.size ≤ 9223372036854775807

theorem PStr.below {w w' : World} {p : Option Addr} (h : PStr w p) (hb : Below w.heap.size w w') : PStr w' p := fun a ha => by
  obtain ⟨s, hc, hs⟩ := h a ha
  exact ⟨s, by rw [hb.cell (World.block_lt_of_cell? w _ hc)]; exact hc, hs⟩
theorem PBool.below {w w' : World} {p : Option Addr} (h : PBool w p) (hb : Below w.heap.size w w') : PBool w' p := fun a ha => by
  obtain ⟨s, hc⟩ := h a ha
  exact ⟨s, by rw [hb.cell (World.block_lt_of_cell? w _ hc)]; exact hc⟩
theorem CellsAt.below {w w' : World} {a : Option Addr} {n : Nat} {vs : List Value} (h : CellsAt w a n vs) (hb : Below w.heap.size w w') : CellsAt w' a n vs :=
  ⟨h.1, h.2.1, fun x hx j v hv => by have := h.2.2 x hx j v hv; rw [hb.cell (World.block_lt_of_cell? w _ this)]; exact this⟩

theorem CellsAt.strsIn {w : World} {a : Option Addr} {n : Nat} {vs : List Value} (h : CellsAt w a n vs) (hs : AllStr vs) (hn : a = none → n = 0) : StrsIn w a n := fun j hj => by
  obtain ⟨x, rfl⟩ : ∃ x, a = some x := by
    cases a with
    | none => have := hn rfl; omega
    | some x => exact ⟨x, rfl⟩
  have hl := h.1
  have hx := h.2.2 x rfl
  have h0 := hx 0 _ (List.getElem?_eq_getElem (show 0 < vs.length by omega))
  obtain ⟨b, off, spot⟩ := x
  have hspot : spot = none := by simpa [Addr.add] using World.cell?_spot h0
  subst hspot
  have hj' : j < vs.length := by omega
  obtain ⟨s, e, hs⟩ := hs vs[j] (List.getElem_mem hj')
  have := hx j _ (List.getElem?_eq_getElem hj')
  rw [Go.WideShapes.add_plain, e] at this
  exact ⟨b, off, s, rfl, this, hs⟩

theorem Try.info5 : (Try.prog.info? 5).map (fun i => (i.zero, i.size, i.bytes)) = some (some (.int .u8 0), 1, 1) := by kernel_rfl

/-- a copy of a slice of strings -/
theorem clone_strs (w : World) (x : Addr) (n c : Nat) (vs : List Value) (h : CellsAt w (some x) n vs) (hs : AllStr vs) (hm : n ≤ 1048576) :
    ∃ W1 W2, (Instr.makeSlice 25 (.int .i64 n) (.int .i64 n)).run Try.prog w = .ok (.slice (some ⟨w.heap.size, 0, none⟩) n n) W1 ∧
      (∀ ty, (Builtin.copy_ #[25, 25] ty #[.slice (some ⟨w.heap.size, 0, none⟩) n n, .slice (some x) n c]).run Try.prog W1 = .ok (goInt n) W2) ∧
      Strs W2 (some ⟨w.heap.size, 0, none⟩) n ∧ Below w.heap.size w W2 := by
  obtain ⟨i0, hi, hz0, hz1, hz2⟩ := info_parts Try.info9
  obtain ⟨W1, W2, h1, h2, h3, h4, _, _⟩ := clone_run (P := Try.prog) w 25 9 i0 (.string ⟨#[]⟩) Try.underlying25 hi hz0 hz1 (by omega) x vs n c 3 h.1 (by omega) (h.2.2 x rfl) h.2.1
  refine ⟨W1, W2, h1, fun _ => h2, Or.inr ⟨_, rfl, fun j hj => ?_⟩, h4⟩
  have hj' : j < vs.length := by rw [h.1]; exact hj
  obtain ⟨s, e, hs⟩ := hs vs[j] (List.getElem_mem hj')
  have := h3 j _ (List.getElem?_eq_getElem hj')
  rw [e] at this
  exact ⟨s, this, by unfold maxLen; omega⟩
/-- a copy of a slice of bytes -/
theorem clone_bts (w : World) (x : Addr) (n c : Nat) (vs : List Value) (h : CellsAt w (some x) n vs) (hm : n ≤ 1048576) :
    ∃ W1 W2, (Instr.makeSlice 27 (.int .i64 n) (.int .i64 n)).run Try.prog w = .ok (.slice (some ⟨w.heap.size, 0, none⟩) n n) W1 ∧
      (∀ ty, (Builtin.copy_ #[27, 27] ty #[.slice (some ⟨w.heap.size, 0, none⟩) n n, .slice (some x) n c]).run Try.prog W1 = .ok (goInt n) W2) ∧ Below w.heap.size w W2 := by
  obtain ⟨i0, hi, hz0, hz1, hz2⟩ := info_parts Try.info5
  obtain ⟨W1, W2, h1, h2, _, h4, _, _⟩ := clone_run (P := Try.prog) w 27 5 i0 (.int .u8 0) Try.underlying27 hi hz0 hz1 (by omega) x vs n c 3 h.1 (by omega) (h.2.2 x rfl) h.2.1
  exact ⟨W1, W2, h1, fun _ => h2, h4⟩

theorem owns_below {w w' : World} {b : Nat} {v : Value} {n : Nat} {xs : List Value} (h : w.ownsRow b 9 1 v n xs) (hb : Below w.heap.size w w') : w'.ownsRow b 9 1 v n xs := by
  obtain ⟨h1, h2⟩ := h
  refine ⟨h1, ?_⟩
  rcases h2 with h2 | ⟨g, cap, cur, hv, hg, hh, r⟩
  · exact Or.inl h2
  · exact Or.inr ⟨g, cap, cur, hv, hg, by rw [hb.block g (Array.getElem?_eq_some_iff.1 hh).1]; exact hh, r⟩
theorem owns_drewN {w : World} {b : Nat} {v : Value} {n : Nat} {xs : List Value} (h : w.ownsRow b 9 1 v n xs) (q : Nat) : (w.drewN q).ownsRow b 9 1 v n xs := h
theorem below_drewN {B : Nat} {a w : World} (h : Below B a w) (n : Nat) : Below B a (w.drewN n) := ⟨h.os, h.tape, h.output, h.size, h.block⟩

/-- ZZlimitGiven, its result as a slice -/
theorem limit_sl (p0 p1 p3 p4 p5 aL aR a7 a8 a9 : Option Addr) (nL cL nR cR n7 c7 n8 c8 n9 c9 : Nat) (b0 b1 b2 b3 b4 b5 b6 : Bool) (w : World)
    (e0 : (!aL.isNone) = b0) (e1 : (!p3.isNone) = b1) (e2 : (!p4.isNone) = b2) (e3 : (!p5.isNone) = b3) (e4 : (!aR.isNone) = b4) (e5 : (!a7.isNone) = b5) (e6 : (!a8.isNone) = b6)
    (hL : nL ≤ 1048576) (hR : nR ≤ 1048576) (sL : Strs w aL nL) (sR : Strs w aR nR) (ks : List ByteArray) (N : Nat) (hks : ks = keys (flg b0 b1 b2 b3 b4 b5 b6) 7) (hN : N = ks.length) :
    Calls Try.prog 13 #[.pointer p0, .pointer p1, .slice aL nL cL, .pointer p3, .pointer p4, .pointer p5, .slice aR nR cR, .slice a7 n7 c7, .slice a8 n8 c8, .slice a9 n9 c9] w
      fun e w' => ∃ ao c, e = .returned (.slice ao N c) ∧ w'.ownsRow w.heap.size 9 1 (.slice ao N c) N (ks.map Value.string) ∧ Below w.heap.size w w' := by
  refine (limit_any p0 p1 p3 p4 p5 aL aR a7 a8 a9 nL cL nR cR n7 c7 n8 c8 n9 c9 b0 b1 b2 b3 b4 b5 b6 w e0 e1 e2 e3 e4 e5 e6 hL hR sL sR).mono ?_
  rintro e w' ⟨v, rfl, ho, hb⟩
  unfold cellsOf at ho
  rw [← hks, ← hN] at ho
  obtain ⟨_, ao, c, rfl, _⟩ := owns_view ho
  exact ⟨ao, c, rfl, ho, hb⟩

/-! ### the keys, by their places -/
def idxs (f : Nat → Bool) : List Nat := (List.range 7).filter f
theorem keys_idxs (f : Nat → Bool) : keys f 7 = (idxs f).map nm := rfl
theorem idxs_lt {f : Nat → Bool} {r : Nat} (h : r ∈ idxs f) : r < 7 := by simpa using (List.mem_filter.1 h).1
theorem idxs_sorted (f : Nat → Bool) : (idxs f).Pairwise (· < ·) := List.Pairwise.filter _ (List.pairwise_lt_range)
/-- the j-th key's place -/
def idx (f : Nat → Bool) (j : Nat) : Nat := (idxs f).getD j 0
theorem idx_lt {f : Nat → Bool} {j : Nat} (h : j < (idxs f).length) : idx f j < 7 := by
  unfold idx; simp only [List.getD, List.getElem?_eq_getElem h, Option.getD_some]; exact idxs_lt (List.getElem_mem h)
theorem idx_succ {f : Nat → Bool} {j : Nat} (h : j + 1 < (idxs f).length) : idx f j < idx f (j + 1) := by
  unfold idx; simp only [List.getD, List.getElem?_eq_getElem h, List.getElem?_eq_getElem (show j < (idxs f).length by omega), Option.getD_some]
  exact (List.pairwise_iff_getElem.1 (idxs_sorted f)) j (j + 1) (by omega) h (by omega)
theorem keys_get {f : Nat → Bool} {j : Nat} (h : j < (idxs f).length) : (keys f 7).getD j ⟨#[]⟩ = nm (idx f j) := by
  unfold idx; rw [keys_idxs]
  simp only [List.getD, List.getElem?_map, List.getElem?_eq_getElem h, Option.map_some, Option.getD_some]
/-- how many of the first k are given -/
def cnt (f : Nat → Bool) (k : Nat) : Nat := ((List.range k).filter f).length
theorem cnt_yes {f : Nat → Bool} {k : Nat} (h : f k = true) : cnt f (k + 1) = cnt f k + 1 := by simp [cnt, List.range_succ, List.filter_append, h]
theorem cnt_no {f : Nat → Bool} {k : Nat} (h : f k = false) : cnt f (k + 1) = cnt f k := by simp [cnt, List.range_succ, List.filter_append, h]
theorem cnt_le (f : Nat → Bool) (k : Nat) : cnt f k ≤ k := Nat.le_trans (List.length_filter_le _ _) (by simp)
theorem len_keys (f : Nat → Bool) : (keys f 7).length = cnt f 7 := by simp [keys, cnt]
end Go.Proofs.Qxb6608550a
