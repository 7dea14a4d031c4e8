/-
  THE WALKS of ZZapplyKeep (6) and ZZapplyDrop (7) where the value is tagged and not empty.
-/
import Derived.Test.Qxb6608822aRFmtErr
import Derived.BigQuiet
import Derived.Deep.QuietTactic
import Derived.Deep.RegionWith
import Derived.Laws.AppendOwnNone
namespace Go.Proofs.Qxb6608822aRFmt
open Go.RowKit

theorem keep10 (x0 x1 x2 x3 : Value) (ao : Option Addr) (n c : Nat) (w : World) :
    Calls Tryf.prog 10 #[.agg #[x0, x1, x2, x3], .slice ao n c] w fun e w' => e = .returned (.tuple #[.slice ao n c, .nilIface]) ∧ w' = w.alloc (.cells #[x0, x1, x2, x3] 32) := by
  go_enter Tryf.func10, Tryf.ntmps10
  go_wp2
  go_ret2
  exact ⟨rfl, rfl⟩
theorem drop11 (x0 x1 x2 x3 : Value) (ao : Option Addr) (n c : Nat) (w : World) :
    Calls Tryf.prog 11 #[.agg #[x0, x1, x2, x3], .slice ao n c] w fun e w' => e = .returned (.tuple #[.slice none 0 0, .nilIface]) ∧ w' = w.alloc (.cells #[x0, x1, x2, x3] 32) := by
  go_enter Tryf.func11, Tryf.ntmps11
  go_wp2
  go_ret2
  exact ⟨rfl, rfl⟩

/-- 'v[1:]' by one name -/
def tailA (g n : Nat) : Addr := if n = 1 then ⟨g, 0, none⟩ else ⟨g, 1, none⟩
theorem run_tail (w : World) (g n m : Nat) (h : 0 < n) (e : m = n - 1) : (Instr.slice 22 (.slice (some ⟨g, 0, none⟩) n n) (some (.int .i64 1)) none none).run Tryf.prog w = .ok (.slice (some (tailA g n)) m m) w := by
  have ht' : Tryf.prog.underlying 22 = some (.slice (Tryf.prog.elem 22)) := by simp [Program.elem, Tryf.underlying22]
  have he : Tryf.prog.elem 22 = 5 := by simp [Program.elem, Tryf.underlying22]
  rw [run_slice_l w 22 _ _ _ ht' .i64 _ (by omega) (by omega), he, Tryf.sizeOf5]
  unfold tailA
  by_cases h0 : n = 1
  · simp [Result.andThen, sliced, h0, e]
  · simp [Result.andThen, sliced, h0, e, Addr.add]

theorem Tryf.info5 : (Tryf.prog.info? 5).map (fun i => (i.zero, i.size, i.bytes)) = some (some (.int .u8 0), 1, 1) := by kernel_rfl

/-- the bytes z from a on, m of them, as values -/
def vals (z : Nat → Int) (a m : Nat) : List Value := (List.range m).map fun j => Value.int .u8 (z (a + j))
theorem vals_len (z : Nat → Int) (a m : Nat) : (vals z a m).length = m := by simp [vals]
theorem vals_get {z : Nat → Int} {a m j : Nat} {v : Value} (h : (vals z a m)[j]? = some v) : j < m ∧ v = .int .u8 (z (a + j)) := by
  have hj : j < m := by have := (List.getElem?_eq_some_iff.1 h).1; rwa [vals_len] at this
  refine ⟨hj, ?_⟩
  simp [vals, hj] at h
  exact h.symm
theorem vals_at (z : Nat → Int) (a : Nat) {m j : Nat} (h : j < m) : (vals z a m)[j]? = some (.int .u8 (z (a + j))) := by simp [vals, h]
theorem vals_one (z : Nat → Int) (a m : Nat) : ∀ v ∈ vals z a m, v.oneCell' = true := fun v hv => by
  obtain ⟨j, _, rfl⟩ := List.mem_map.1 hv; rfl
theorem vals_cons (z : Nat → Int) (n m : Nat) (h : n = m + 1) : [Value.int .u8 (z 0)] ++ vals z 1 m = vals z 0 n := by
  apply List.ext_getElem?
  intro j
  cases j with
  | zero => rw [vals_at z 0 (by omega)]; rfl
  | succ j =>
    rw [List.getElem?_append_right (by simp)]
    simp only [List.length_singleton, Nat.add_sub_cancel]
    by_cases hj : j < m
    · rw [vals_at z 1 hj, vals_at z 0 (by omega), show 1 + j = 0 + (j + 1) by omega]
    · rw [List.getElem?_eq_none (by rw [vals_len]; omega), List.getElem?_eq_none (by rw [vals_len]; omega)]

/-- a row of bytes that the call made -/
def Owns (w' : World) (B : Nat) (ao : Option Addr) (n c : Nat) (z : Nat → Int) : Prop := w'.ownsRow B 5 1 (.slice ao n c) n (vals z 0 n)

theorem cell_past {w w' : World} (hb : Below w.heap.size w w') {a : Addr} {v : Value} (h : w.cell? a = some v) : w'.cell? a = some v := by
  rw [hb.cell (World.block_lt_of_cell? w _ h)]; exact h

theorem own1 (w : World) (A B : Obj) (x : Value) : (((w.alloc A).alloc B).alloc (.cells #[x] 5)).drew.ownsRow w.heap.size 5 1 (.slice (some ⟨w.heap.size + 1 + 1, 0, none⟩) 1 1) 1 [x] := by
  have h := World.ownsRow_lit (base := w.heap.size) (e := 5) (size := 1) ((w.alloc A).alloc B) #[x] 1 (by simp; omega) (by unfold maxLen; omega) rfl
  have e : ((w.alloc A).alloc B).heap.size = w.heap.size + 1 + 1 := by simp
  rw [e] at h
  exact h
theorem below3 (w : World) (A B C : Obj) : Below w.heap.size w (((w.alloc A).alloc B).alloc C).drew := ((((Below.refl _ _).alloc (Nat.le_refl _) _).alloc (by simp) _).alloc (by simp; omega) _).drew
theorem tail_cell {w w' : World} {g n m : Nat} {z : Nat → Int} (hb : Below w.heap.size w w') (hz : ∀ j, j < n → w.cell? ⟨g, j, none⟩ = some (.int .u8 (z j))) (em : m = n - 1) : ∀ (j : Nat) (u : Value), (vals z 1 m)[j]? = some u → w'.cell? ((tailA g n).add j) = some u := fun j u hj => by
  obtain ⟨hjm, rfl⟩ := vals_get hj
  unfold tailA
  rw [if_neg (by omega), Go.WideShapes.add_plain]
  exact cell_past hb (hz (1 + j) (by omega))
theorem sl_of {w : World} {B n : Nat} {v : Value} {xs : List Value} (h : w.ownsRow B 5 1 v n xs) : ∃ ao c, v = .slice ao n c := by
  rcases h.2 with ⟨rfl, rfl⟩ | ⟨g, cap, cur, rfl, _⟩
  · exact ⟨none, 0, rfl⟩
  · exact ⟨_, _, rfl⟩
theorem owns_mk {w' : World} {B n m c : Nat} {ao : Option Addr} {z : Nat → Int} (h : w'.ownsRow B 5 1 (.slice ao n c) n (Value.int .u8 (z 0) :: vals z 1 m)) (e : n = m + 1) : Owns w' B ao n c z := by
  unfold Owns; rw [← vals_cons z n m e]; exact h

set_option maxHeartbeats 1000000 in
theorem apply_keep (nm : ByteArray) (h s : Int) (g n : Nat) (z : Nat → Int) (w : World) (hn : 0 < n) (hm : n ≤ 1048576) (hz : ∀ j, j < n → w.cell? ⟨g, j, none⟩ = some (.int .u8 (z j))) :
    Calls Tryf.prog 9 #[.agg #[.string nm, .int .i64 h, .bool true, .int .i64 s], .slice (some ⟨g, 0, none⟩) n n, .func (.func 10) #[] #[]] w fun e w' => ∃ ao c, e = .returned (.tuple #[.slice ao n c, .nilIface]) ∧ Owns w' w.heap.size ao n c z ∧ Below w.heap.size w w' := by
  obtain ⟨m, em⟩ : ∃ m, m = n - 1 := ⟨_, rfl⟩
  have q := fun w => run_tail w g n m hn em
  have h0 : ((n : Int) == 0) = false := by simp; omega
  have hz0' := hz 0 hn
  have hg : g < w.heap.size := World.block_lt_of_cell? w _ hz0'
  have hn' : (0 : Int) < (n : Int) := by omega
  have HZ := hide hz
  have HM := hide em
  obtain ⟨i0, hi, hz0, hz1, hz2⟩ := info_parts Tryf.info5
  clear hz em
  go_enter Tryf.func9, Tryf.ntmps9
  go_wp2_with fail
  go_region_with (go_at_call 10; refine (keep10 _ _ _ _ _ _ _ _).mono ?_; rintro e w' ⟨rfl, rfl⟩)
  go_wp2_with (at_builtin; refine wpList_append_own _ rfl (.tmp 58) (.tmp 59) 22 rfl w.heap.size 5 i0 (.int .u8 0) 1 1 Tryf.underlying22 hi hz0 hz1 hz2 rfl (by decide) _ 1 [.int .u8 (z 0)] rfl ?own (tailA g n) m m (vals z 1 m) rfl ?c0 ?c1 ?c2 ?c3 ?c4 ?c5 ?_)
  case own => exact own1 _ _ _ _
  case c0 => rw [vals_len]; omega
  case c1 => exact tail_cell (below3 _ _ _ _) HZ.out HM.out
  case c2 => exact vals_one _ _ _
  case c3 => have := HM.out; unfold maxLen; omega
  case c4 => have := HM.out; omega
  case c5 => simp; omega
  intro v' w1 hown' hgrow _
  have e1 : 1 + m = n := by have := HM.out; omega
  rw [e1] at hown'
  obtain ⟨ao, c, hv⟩ := sl_of hown'
  rw [hv] at hown' ⊢
  have HO := hide (owns_mk hown' (by omega))
  have HB := hide ((below3 w _ _ _).grown hgrow (by simp; omega) (fun k hk => by simp [Value.ownBlock] at hk; omega))
  clear hown' hgrow hv e1 HZ HM
  go_wp2
  go_ret2
  exact ⟨ao, c, rfl, HO.out, HB.out⟩

set_option maxHeartbeats 1000000 in
theorem keep_tag (nm : ByteArray) (h s : Int) (g n : Nat) (z : Nat → Int) (w : World) (hn : 0 < n) (hm : n ≤ 1048576) (hz : ∀ j, j < n → w.cell? ⟨g, j, none⟩ = some (.int .u8 (z j))) :
    Calls Tryf.prog 6 #[.string nm, .int .i64 h, .bool true, .int .i64 s, .slice (some ⟨g, 0, none⟩) n n] w fun e w' => ∃ ao c, e = .returned (.tuple #[.slice ao n c, .nilIface]) ∧ Owns w' w.heap.size ao n c z ∧ Below w.heap.size w w' := by
  have H := hide (apply_keep nm h s g n z w hn hm hz)
  clear hz
  go_enter Tryf.func6, Tryf.ntmps6
  go_wp2_with fail
  refine H.out.mono ?_
  rintro e w1 ⟨ao, c, rfl, ho, hb⟩
  have HO := hide ho
  have HB := hide hb
  clear ho hb H
  go_wp2_with fail
  go_ret2
  exact ⟨ao, c, rfl, HO.out, HB.out⟩

set_option maxHeartbeats 1000000 in
theorem apply_drop (nm : ByteArray) (h s : Int) (g n : Nat) (z : Nat → Int) (w : World) (hn : 0 < n) (hm : n ≤ 1048576) (hz : ∀ j, j < n → w.cell? ⟨g, j, none⟩ = some (.int .u8 (z j))) :
    Calls Tryf.prog 9 #[.agg #[.string nm, .int .i64 h, .bool true, .int .i64 s], .slice (some ⟨g, 0, none⟩) n n, .func (.func 11) #[] #[]] w fun e w' => ∃ ao c, e = .returned (.tuple #[.slice ao 1 c, .nilIface]) ∧ Owns w' w.heap.size ao 1 c z ∧ Below w.heap.size w w' := by
  obtain ⟨m, em⟩ : ∃ m, m = n - 1 := ⟨_, rfl⟩
  have q := fun w => run_tail w g n m hn em
  have h0 : ((n : Int) == 0) = false := by simp; omega
  have hz0' := hz 0 hn
  have hg : g < w.heap.size := World.block_lt_of_cell? w _ hz0'
  have hn' : (0 : Int) < (n : Int) := by omega
  obtain ⟨i0, hi, hz0, hz1, hz2⟩ := info_parts Tryf.info5
  clear hz em
  go_enter Tryf.func9, Tryf.ntmps9
  go_wp2_with fail
  go_region_with (go_at_call 11; refine (drop11 _ _ _ _ _ _ _ _).mono ?_; rintro e w' ⟨rfl, rfl⟩)
  go_wp2_with (at_builtin; refine wpList_append_own_none rfl (.tmp 58) (.tmp 59) 22 rfl w.heap.size 5 i0 1 Tryf.underlying22 hi _ 1 [.int .u8 (z 0)] rfl (own1 _ _ _ _) rfl ?_)
  go_ret2
  exact ⟨_, _, rfl, own1 w _ _ _, below3 w _ _ _⟩

set_option maxHeartbeats 1000000 in
theorem drop_tag (nm : ByteArray) (h s : Int) (g n : Nat) (z : Nat → Int) (w : World) (hn : 0 < n) (hm : n ≤ 1048576) (hz : ∀ j, j < n → w.cell? ⟨g, j, none⟩ = some (.int .u8 (z j))) :
    Calls Tryf.prog 7 #[.string nm, .int .i64 h, .bool true, .int .i64 s, .slice (some ⟨g, 0, none⟩) n n] w fun e w' => ∃ ao c, e = .returned (.tuple #[.slice ao 1 c, .nilIface]) ∧ Owns w' w.heap.size ao 1 c z ∧ Below w.heap.size w w' := by
  have H := hide (apply_drop nm h s g n z w hn hm hz)
  clear hz
  go_enter Tryf.func7, Tryf.ntmps7
  go_wp2_with fail
  refine H.out.mono ?_
  rintro e w1 ⟨ao, c, rfl, ho, hb⟩
  have HO := hide ho
  have HB := hide hb
  clear ho hb H
  go_wp2_with fail
  go_ret2
  exact ⟨ao, c, rfl, HO.out, HB.out⟩
end Go.Proofs.Qxb6608822aRFmt
