/-
  THE WALK of (limitFile).given (28).
-/
import Derived.Test.Qxb6608550aRows
import Derived.WalkKit
import Derived.Below
import Derived.WalkSpells
import Derived.Deep.Draws
import Derived.Laws.IdiomStrings
namespace Go.Proofs.Qxb6608550a
open Go.RowKit

/-- the seven names -/
def nm : Nat → ByteArray
  | 0 => ⟨#[108, 105, 110, 101, 115]⟩
  | 1 => ⟨#[112, 108, 117, 115, 95, 99, 97, 115, 104]⟩
  | 2 => ⟨#[111, 102]⟩
  | 3 => ⟨#[103, 114, 111, 117, 112, 95, 98, 121]⟩
  | 4 => ⟨#[114, 101, 113, 117, 105, 114, 101]⟩
  | 5 => ⟨#[109, 105, 110]⟩
  | 6 => ⟨#[109, 97, 120]⟩
  | _ => ⟨#[]⟩
/-- which are given -/
def flg (b0 b1 b2 b3 b4 b5 b6 : Bool) : Nat → Bool
  | 0 => b0 | 1 => b1 | 2 => b2 | 3 => b3 | 4 => b4 | 5 => b5 | 6 => b6 | _ => false
def keys (f : Nat → Bool) (k : Nat) : List ByteArray := ((List.range k).filter f).map nm
def cellsOf (f : Nat → Bool) (k : Nat) : List Value := (keys f k).map Value.string
theorem keys_yes {f : Nat → Bool} {k : Nat} (h : f k = true) : keys f (k + 1) = keys f k ++ [nm k] := by
  simp [keys, List.range_succ, List.filter_append, h]
theorem keys_no {f : Nat → Bool} {k : Nat} (h : f k = false) : keys f (k + 1) = keys f k := by
  simp [keys, List.range_succ, List.filter_append, h]
theorem keys_le (f : Nat → Bool) (k : Nat) : (keys f k).length ≤ k := by
  simp only [keys, List.length_map]
  exact Nat.le_trans (List.length_filter_le _ _) (by simp)

theorem Try.info9 : (Try.prog.info? 9).map (fun i => (i.zero, i.size, i.bytes)) = some (some (.string ⟨#[]⟩), 1, 16) := by kernel_rfl

/-- the keys gathered from the first k -/
structure Row9 (w wr : World) (v : Value) (f : Nat → Bool) (k : Nat) : Prop where
  own : wr.ownsRow (w.heap.size + 2) 9 1 v (keys f k).length (cellsOf f k)
  cells : ∀ j, j < 7 → wr.cell? ⟨w.heap.size + 1, j * 2, none⟩ = some (.string (nm j)) ∧ wr.cell? ⟨w.heap.size + 1, j * 2 + 1, none⟩ = some (.bool (f j))
  below : Below w.heap.size w wr
  size : w.heap.size + 2 ≤ wr.heap.size

theorem row9_start (w : World) (cs : Array Value) (b0 b1 b2 b3 b4 b5 b6 : Bool) :
    Row9 w ((w.alloc (.cells cs 48)).alloc (.cells #[.string (nm 0), .bool b0, .string (nm 1), .bool b1, .string (nm 2), .bool b2, .string (nm 3), .bool b3, .string (nm 4), .bool b4, .string (nm 5), .bool b5, .string (nm 6), .bool b6] 52)) (.slice none 0 0) (flg b0 b1 b2 b3 b4 b5 b6) 0 where
  own := World.ownsRow_nil _ _ _ _
  cells := fun j hj => by
    have e : w.heap.size + 1 = (w.alloc (.cells cs 48)).heap.size := by simp
    rw [e, World.cell?_alloc_mark, World.cell?_alloc_mark]
    match j, hj with
    | 0, _ => exact ⟨rfl, rfl⟩
    | 1, _ => exact ⟨rfl, rfl⟩
    | 2, _ => exact ⟨rfl, rfl⟩
    | 3, _ => exact ⟨rfl, rfl⟩
    | 4, _ => exact ⟨rfl, rfl⟩
    | 5, _ => exact ⟨rfl, rfl⟩
    | 6, _ => exact ⟨rfl, rfl⟩
  below := ((Below.refl _ _).alloc (Nat.le_refl _) _).alloc (by simp) _
  size := by simp

theorem hide {p : Prop} (h : p) : Hid p := h
theorem new_cell (wr : World) (A : Obj) (x : Value) (e : TypeId) : ∀ j u, [x][j]? = some u → ((wr.alloc A).alloc (.cells #[x] e)).cell? ((⟨wr.heap.size + 1, 0, none⟩ : Addr).add j) = some u := fun j u hj => by
  match j, hj with
  | 0, hj =>
    simp at hj; subst hj
    have e1 : wr.heap.size + 1 = (wr.alloc A).heap.size := by simp
    rw [Go.WideShapes.add_plain, e1, Nat.zero_add, World.cell?_alloc_mark]; rfl

theorem cell_alloc_old (w : World) (o : Obj) (b k : Nat) (h : b < w.heap.size) : (w.alloc o).cell? ⟨b, k, none⟩ = w.cell? ⟨b, k, none⟩ := ((Below.refl w.heap.size w).alloc (Nat.le_refl _) o).cell (p := ⟨b, k, none⟩) h

theorem Row9.no {w wr : World} {v : Value} {f : Nat → Bool} {k : Nat} (R : Row9 w wr v f k) (hf : f k = false) (o : Obj) : Row9 w (wr.alloc o) v f (k + 1) where
  own := by unfold cellsOf; rw [keys_no hf]; exact R.own.alloc o
  cells := fun j hj => by
    have := R.size
    rw [cell_alloc_old _ _ _ _ (by omega), cell_alloc_old _ _ _ _ (by omega)]; exact R.cells j hj
  below := R.below.alloc (by have := R.size; omega) _
  size := by have := R.size; simp; omega

theorem grown_cell {w w' : World} {row : Option Nat} (hg : w.grownBy w' row) {b k : Nat} (hb : b < w.heap.size) (hne : some b ≠ row) : w'.cell? ⟨b, k, none⟩ = w.cell? ⟨b, k, none⟩ :=
  World.cell?_of_block (w := w) (hg.block b hb hne)

theorem Row9.yes {w wr w1 : World} {v v' : Value} {f : Nat → Bool} {k : Nat} {A B : Obj} (R : Row9 w wr v f k) (hf : f k = true)
    (hown : w1.ownsRow (w.heap.size + 2) 9 1 v' ((keys f k).length + 1) (cellsOf f k ++ [.string (nm k)])) (hg : ((wr.alloc A).alloc B).grownBy w1 v.ownBlock) : Row9 w w1 v' f (k + 1) := by
  have hs := R.size
  have hr : ∀ b, v.ownBlock = some b → w.heap.size + 2 ≤ b := fun b hb => (R.own.lt b hb).1
  have hne : ∀ b, b < w.heap.size + 2 → some b ≠ v.ownBlock := fun b hb h => by have := hr b h.symm; omega
  refine ⟨?_, fun j hj => ?_, ?_, ?_⟩
  · unfold cellsOf; rw [keys_yes hf]; simpa [cellsOf] using hown
  · rw [grown_cell hg (by simp; omega) (hne _ (by omega)), grown_cell hg (by simp; omega) (hne _ (by omega)), cell_alloc_old _ _ _ _ (by simp; omega), cell_alloc_old _ _ _ _ (by omega), cell_alloc_old _ _ _ _ (by simp; omega), cell_alloc_old _ _ _ _ (by omega)]
    exact R.cells j hj
  · exact ((R.below.alloc (by omega) A).alloc (by simp; omega) B).grown hg (by simp; omega) (fun b hb => by have := hr b hb; omega)
  · have := hg.size; simp at this; omega

theorem Row9.done {w wr : World} {v : Value} {f : Nat → Bool} (R : Row9 w wr v f 7) : wr.ownsRow w.heap.size 9 1 v (keys f 7).length (cellsOf f 7) := by
  obtain ⟨h1, h2⟩ := R.own
  refine ⟨h1, ?_⟩
  rcases h2 with h2 | ⟨g, cap, cur, hv, hb, r⟩
  · exact Or.inl h2
  · exact Or.inr ⟨g, cap, cur, hv, by omega, r⟩

set_option maxHeartbeats 1000000 in
theorem given_any (p0 p1 p3 p4 p5 aL a7 a8 a9 : Option Addr) (nL cL n7 c7 n8 c8 n9 c9 : Nat) (r : Option Nat) (b0 b1 b2 b3 b4 b5 b6 : Bool) (w : World)
    (e0 : (!aL.isNone) = b0) (e1 : (!p3.isNone) = b1) (e2 : (!p4.isNone) = b2) (e3 : (!p5.isNone) = b3) (e4 : (!r.isNone) = b4) (e5 : (!a7.isNone) = b5) (e6 : (!a8.isNone) = b6) :
    Calls Try.prog 28 #[.agg #[.pointer p0, .pointer p1, .slice aL nL cL, .pointer p3, .pointer p4, .pointer p5, .map r, .slice a7 n7 c7, .slice a8 n8 c8, .slice a9 n9 c9]] w
      fun e w' => ∃ v, e = .returned v ∧ w'.ownsRow w.heap.size 9 1 v (keys (flg b0 b1 b2 b3 b4 b5 b6) 7).length (cellsOf (flg b0 b1 b2 b3 b4 b5 b6) 7) ∧ Below w.heap.size w w' := by
  have q42 := fun w => run_neq_slice_nil_any (P := Try.prog) w 42 44 aL nL cL 0 0 Try.underlying42
  have q44 := fun w => run_neq_map_nil (P := Try.prog) w 44 9 51 r Try.underlying44
  have q46 := fun w n c => run_neq_slice_nil_any (P := Try.prog) w 46 5 a7 n c 0 0 Try.underlying46
  have q46' := fun w n c => run_neq_slice_nil_any (P := Try.prog) w 46 5 a8 n c 0 0 Try.underlying46
  rw [e0] at q42
  rw [e4] at q44
  rw [e5] at q46
  rw [e6] at q46'
  go_enter Try.func28, Try.ntmps28
  go_wp2
  clear q42 q44 q46 q46' e0 e1 e2 e3 e4 e5 e6
  go_loopw [3, 36] (fun v i wr => ∃ k : Nat, k ≤ 7 ∧ i = .int .i64 k ∧ Row9 w wr v (flg b0 b1 b2 b3 b4 b5 b6) k) (fun _ i _ => 7 - (intOf i).toNat)
  case atStart => exact ⟨0, by omega, rfl, row9_start _ _ _ _ _ _ _ _ _⟩
  case round =>
    obtain ⟨k, hk, rfl, R⟩ := hrel
    by_cases hlt : k < 7
    · obtain ⟨c0, c1⟩ := R.cells k hlt
      have hsz := R.size
      cases hf : flg b0 b1 b2 b3 b4 b5 b6 k with
      | false =>
        rw [hf] at c1
        have HR := hide R
        clear R
        go_wp2
        go_roundw
        case rel => exact ⟨k + 1, by omega, by go_num, HR.out.no hf _⟩
        case measure => simp [intOf]; omega
      | true =>
        rw [hf] at c1
        obtain ⟨i0, hi, hz0, hz1, hz2⟩ := info_parts Try.info9
        have HR := hide R
        clear R
        go_wp2_with (at_builtin; refine wpList_append_own _ rfl (.tmp 42) (.tmp 45) 25 rfl (w.heap.size + 2) 9 i0 (.string ⟨#[]⟩) 1 16 Try.underlying25 hi hz0 hz1 hz2 rfl (by decide) _ _ _ rfl ((HR.out.own.alloc _).alloc _) ⟨wr.heap.size + 1, 0, none⟩ 1 1 [.string (nm k)] rfl rfl ?c1 ?c2 ?c3 ?c4 ?c5 ?_)
        case c1 => exact new_cell _ _ _ _
        case c2 => intro u hu; simp at hu; subst hu; rfl
        case c3 => have := keys_le (flg b0 b1 b2 b3 b4 b5 b6) k; unfold maxLen; omega
        case c4 => have := keys_le (flg b0 b1 b2 b3 b4 b5 b6) k; omega
        case c5 => simp; omega
        intro v' w1 hown' hgrow _
        have R' := HR.out.yes hf hown' hgrow
        clear hown' hgrow HR
        go_wp2
        go_roundw
        case rel => exact ⟨k + 1, by omega, by go_num, R'⟩
        case measure => simp [intOf]; omega
    · obtain rfl : k = 7 := by omega
      have HR := hide R
      clear R
      go_wp2
      go_ret
      exact ⟨_, rfl, HR.out.done, HR.out.below⟩
end Go.Proofs.Qxb6608550a
