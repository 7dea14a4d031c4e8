/-
  THE WALKS of zzGivenPresent (15), zzContains (16), zzRemove (19), zzGivenWithout (17).
-/
import Derived.Test.Qxb6608550aArgs
namespace Go.Proofs.Qxb6608550a
open Go.RowKit

/-! ### plain: a key struck out -/
def off (f : Nat → Bool) (k : Nat) : Nat → Bool := fun j => f j && !(j == k)
theorem idxs_off (f : Nat → Bool) (k : Nat) : (idxs f).filter (fun j => !(j == k)) = idxs (off f k) := by
  unfold idxs off
  rw [List.filter_filter]
  congr 1; funext j; exact Bool.and_comm _ _
theorem mem_idxs {f : Nat → Bool} {k : Nat} (hk : k < 7) : k ∈ idxs f ↔ f k = true := by simp [idxs, hk]
theorem idx_hit {f : Nat → Bool} {j k : Nat} (hj : j < (idxs f).length) (h : idx f j = k) : f k = true := by
  have hm : idx f j ∈ idxs f := by
    unfold idx; simp only [List.getD, List.getElem?_eq_getElem hj, Option.getD_some]; exact List.getElem_mem hj
  rw [h] at hm; exact (List.mem_filter.1 hm).2
theorem idx_miss {f : Nat → Bool} {k : Nat} (hk : k < 7) (h : ∀ j, j < (idxs f).length → idx f j ≠ k) : f k = false := by
  cases hf : f k with
  | false => rfl
  | true =>
    obtain ⟨j, hj, e⟩ := List.getElem_of_mem ((mem_idxs hk).2 hf)
    exact absurd (by unfold idx; simp only [List.getD, List.getElem?_eq_getElem hj, Option.getD_some]; exact e) (h j hj)
theorem keys_congr {f g : Nat → Bool} (h : ∀ j, j < 7 → f j = g j) : keys f 7 = keys g 7 := by
  unfold keys
  congr 1
  apply List.filter_congr
  intro j hj
  exact h j (by simpa using hj)
/-- what zzRemove has gathered from the first j -/
def rest (f : Nat → Bool) (k j : Nat) : List ByteArray := (((idxs f).take j).filter (fun i => !(i == k))).map nm
theorem rest_zero (f : Nat → Bool) (k : Nat) : rest f k 0 = [] := rfl
theorem rest_all (f : Nat → Bool) (k : Nat) {n : Nat} (hn : n = (idxs f).length) : rest f k n = keys (off f k) 7 := by
  unfold rest; rw [List.take_of_length_le (by omega), idxs_off]; rfl
theorem take_step {f : Nat → Bool} {j : Nat} (hj : j < (idxs f).length) : (idxs f).take (j + 1) = (idxs f).take j ++ [idx f j] := by
  rw [List.take_succ_eq_append_getElem hj]; congr 2
  unfold idx; simp only [List.getD, List.getElem?_eq_getElem hj, Option.getD_some]
theorem rest_keep {f : Nat → Bool} {k j : Nat} (hj : j < (idxs f).length) (h : idx f j ≠ k) : rest f k (j + 1) = rest f k j ++ [nm (idx f j)] := by
  unfold rest; rw [take_step hj]; simp [List.filter_append, h]
theorem rest_drop {f : Nat → Bool} {k j : Nat} (hj : j < (idxs f).length) (h : idx f j = k) : rest f k (j + 1) = rest f k j := by
  unfold rest; rw [take_step hj]; simp [List.filter_append, h]
theorem rest_le (f : Nat → Bool) (k j : Nat) : (rest f k j).length ≤ j := by
  unfold rest; rw [List.length_map]
  exact Nat.le_trans (List.length_filter_le _ _) (List.length_take_le _ _)
theorem idxs_le (f : Nat → Bool) : (idxs f).length ≤ 7 := Nat.le_trans (List.length_filter_le _ _) (by simp)

/-- the cells of the full row -/
def Full (w : World) (ao : Option Addr) (N : Nat) (f : Nat → Bool) : Prop := N = (idxs f).length ∧ ∀ j, j < N → ∃ g, ao = some ⟨g, 0, none⟩ ∧ w.cell? ⟨g, j, none⟩ = some (.string (nm (idx f j)))
theorem full_of {w : World} {b N c : Nat} {ao : Option Addr} {ks : List ByteArray} {f : Nat → Bool} (h : w.ownsRow b 9 1 (.slice ao N c) N (ks.map Value.string)) (hk : ks = keys f 7) (hN : N = ks.length) : Full w ao N f := by
  have hl : N = (idxs f).length := by rw [hN, hk, keys_idxs, List.length_map]
  refine ⟨hl, fun j hj => ?_⟩
  obtain ⟨_, ao', c', hv, hc⟩ := owns_view h
  obtain ⟨rfl, _⟩ : ao = ao' ∧ c = c' := by cases hv; exact ⟨rfl, rfl⟩
  obtain ⟨g, rfl, _, _, hcell⟩ := hc (by omega)
  exact ⟨g, rfl, by rw [hcell j hj, hk, keys_get (by omega)]⟩
theorem Full.below {w w' : World} {ao : Option Addr} {N : Nat} {f : Nat → Bool} (h : Full w ao N f) (hb : Below w.heap.size w w') : Full w' ao N f :=
  ⟨h.1, fun j hj => by
    obtain ⟨g, e, hc⟩ := h.2 j hj
    exact ⟨g, e, by rw [hb.cell (World.block_lt_of_cell? w _ hc)]; exact hc⟩⟩

/-! ### zzGivenPresent -/
set_option maxHeartbeats 1000000 in
theorem present_any (k : Nat) (aL aR a7 a8 p3 p4 p5 : Option Addr) (nL cL nR cR n7 c7 n8 c8 : Nat) (b0 b1 b2 b3 b4 b5 b6 : Bool) (w : World) (hk : k < 7)
    (e0 : (!aL.isNone) = b0) (e1 : (!p3.isNone) = b1) (e2 : (!p4.isNone) = b2) (e3 : (!p5.isNone) = b3) (e4 : (!aR.isNone) = b4) (e5 : (!a7.isNone) = b5) (e6 : (!a8.isNone) = b6) :
    Calls Try.prog 15 #[.int .i64 (k : Int), .slice aL nL cL, .pointer p3, .pointer p4, .pointer p5, .slice aR nR cR, .slice a7 n7 c7, .slice a8 n8 c8] w
      fun e w' => e = .returned (.bool (flg b0 b1 b2 b3 b4 b5 b6 k)) ∧ w' = w := by
  have q25 := fun w a n c n' c' => run_neq_slice_nil_any (P := Try.prog) w 25 9 a n c n' c' Try.underlying25
  have q27 := fun w a n c n' c' => run_neq_slice_nil_any (P := Try.prog) w 27 5 a n c n' c' Try.underlying27
  match k, hk with
  | 0, _ => go_enter Try.func15, Try.ntmps15; go_wp2; go_ret; exact ⟨rfl, rfl⟩
  | 1, _ => go_enter Try.func15, Try.ntmps15; go_wp2; go_ret; exact ⟨rfl, rfl⟩
  | 2, _ => go_enter Try.func15, Try.ntmps15; go_wp2; go_ret; exact ⟨rfl, rfl⟩
  | 3, _ => go_enter Try.func15, Try.ntmps15; go_wp2; go_ret; exact ⟨rfl, rfl⟩
  | 4, _ => go_enter Try.func15, Try.ntmps15; go_wp2; go_ret; exact ⟨rfl, rfl⟩
  | 5, _ => go_enter Try.func15, Try.ntmps15; go_wp2; go_ret; exact ⟨rfl, rfl⟩
  | 6, _ => go_enter Try.func15, Try.ntmps15; go_wp2; go_ret; exact ⟨rfl, rfl⟩

theorem ret_bool {a b : Bool} (h : a = b) : Ending.returned (.bool a) = .returned (.bool b) := by rw [h]

/-! ### zzContains -/
set_option maxHeartbeats 400000 in
theorem contains_any (k : Nat) (ao : Option Addr) (N c : Nat) (f : Nat → Bool) (w : World) (hk : k < 7) (h : Full w ao N f) :
    Calls Try.prog 16 #[.slice ao N c, .string (nm k)] w fun e w' => e = .returned (.bool (f k)) ∧ w' = w := by
  have hN7 : N ≤ 7 := by rw [h.1]; exact idxs_le f
  have HF := hide h
  have HE := hide (fun (i : Nat) (h : i < 7) => nm_eq h hk)
  have HM := hide (idx_miss (f := f) hk)
  obtain ⟨S, hS⟩ : ∃ S, S = nm k := ⟨_, rfl⟩
  rw [← hS] at HE ⊢
  clear h hS
  go_enter Try.func16, Try.ntmps16
  go_wp2
  go_loop [9] (fun i => ∃ j : Nat, j ≤ N ∧ i = .int .i64 j ∧ Hid (∀ i, i < j → idx f i ≠ k)) (fun i => N - (intOf i).toNat)
  case atStart => exact ⟨0, by omega, rfl, fun i hi => by omega⟩
  case round =>
    obtain ⟨j, hj, rfl, HA⟩ := hrel
    by_cases hlt : j < N
    · obtain ⟨g, rfl, hc⟩ := HF.out.2 j hlt
      have hjl : j < (idxs f).length := by rw [← HF.out.1]; exact hlt
      have hE := HE.out _ (idx_lt hjl)
      obtain ⟨T, hT⟩ : ∃ T, T = nm (idx f j) := ⟨_, rfl⟩
      rw [← hT] at hc hE
      clear hT
      by_cases e : idx f j = k
      · have e' : (idx f j == k) = true := by simpa using e
        rw [e'] at hE
        have HH := hide (idx_hit hjl e)
        clear e e' HE
        go_wp2
        go_ret
        exact ⟨ret_bool HH.out.symm, rfl⟩
      · have e' : (idx f j == k) = false := by simpa using e
        rw [e'] at hE
        have HH := hide e
        clear e e' HE
        go_wp2
        go_round
        case rel => exact ⟨j + 1, by omega, by go_num, fun i hi => by by_cases e : i = j; exact e ▸ HH.out; exact HA.out i (by omega)⟩
        case measure => simp [intOf]; omega
    · go_wp2
      go_ret
      exact ⟨ret_bool (HM.out (fun i hi => HA.out i (by rw [← HF.out.1] at hi; omega))).symm, rfl⟩

/-! ### zzRemove -/
theorem make_room (w : World) (n : Nat) (hm : n ≤ 1048576) :
    ∃ W1, (Instr.makeSlice 25 (.int .i64 0) (.int .i64 n)).run Try.prog w = .ok (.slice (some ⟨w.heap.size, 0, none⟩) 0 n) W1 ∧ W1.ownsRow w.heap.size 9 1 (.slice (some ⟨w.heap.size, 0, none⟩) 0 n) 0 [] ∧ w.grownBy W1 none := by
  obtain ⟨i0, hi, hz0, hz1, hz2⟩ := info_parts Try.info9
  exact run_make_own (P := Try.prog) w w.heap.size 25 9 i0 (.string ⟨#[]⟩) 1 Try.underlying25 hi hz0 hz1 .i64 .i64 n (by rw [hz2]; omega) (by unfold maxLen; omega) (Nat.le_refl _)

/-- the row in the making -/
structure Rem (w wr : World) (v : Value) (xs : List ByteArray) : Prop where
  own : wr.ownsRow w.heap.size 9 1 v xs.length (xs.map Value.string)
  below : Below w.heap.size w wr

theorem new_cell1 (wr : World) (x : Value) (e : TypeId) : ∀ j u, [x][j]? = some u → (wr.alloc (.cells #[x] e)).cell? ((⟨wr.heap.size, 0, none⟩ : Addr).add j) = some u := fun j u hj => by
  match j, hj with
  | 0, hj =>
    simp at hj; subst hj
    rw [Go.WideShapes.add_plain, Nat.zero_add, World.cell?_alloc_mark]; rfl

theorem Rem.push {w wr w1 : World} {v v' : Value} {xs : List ByteArray} {x : ByteArray} {A : Obj} (R : Rem w wr v xs) (hown : w1.ownsRow w.heap.size 9 1 v' (xs.length + 1) (xs.map Value.string ++ [.string x])) (hg : (wr.alloc A).grownBy w1 v.ownBlock) : Rem w w1 v' (xs ++ [x]) where
  own := by simpa using hown
  below := (R.below.alloc R.below.size A).grown hg (by have := R.below.size; simp; omega) (fun b hb => (R.own.lt b hb).1)

set_option maxHeartbeats 1000000 in
theorem remove_any (k : Nat) (ao : Option Addr) (N c : Nat) (f : Nat → Bool) (w : World) (hk : k < 7) (h : Full w ao N f) :
    Calls Try.prog 19 #[.slice ao N c, .string (nm k)] w fun e w' => ∃ v, e = .returned v ∧ Rem w w' v (keys (off f k) 7) := by
  have hN7 : N ≤ 7 := by rw [h.1]; exact idxs_le f
  have HF := hide h
  have HE := hide (fun (i : Nat) (h : i < 7) => nm_eq h hk)
  obtain ⟨S, hS⟩ : ∃ S, S = nm k := ⟨_, rfl⟩
  rw [← hS] at HE ⊢
  obtain ⟨W1, hmk, ho, hg⟩ := make_room w N (by omega)
  have R0 : Rem w W1 (.slice (some ⟨w.heap.size, 0, none⟩) 0 N) [] := ⟨ho, (Below.refl _ _).grown hg (Nat.le_refl _) (fun b hb => by cases hb)⟩
  have HR0 := hide R0
  clear h hS ho hg R0
  go_enter Try.func19, Try.ntmps19
  go_wp2
  go_loopw [5, 13] (fun v i wr => ∃ j : Nat, j ≤ N ∧ i = .int .i64 j ∧ Rem w wr v (rest f k j)) (fun _ i _ => N - (intOf i).toNat)
  case atStart => exact ⟨0, by omega, rfl, HR0.out⟩
  case round =>
    obtain ⟨j, hj, rfl, R⟩ := hrel
    have HR := hide R
    clear R
    by_cases hlt : j < N
    · obtain ⟨g, rfl, hc0⟩ := HF.out.2 j hlt
      have hc : wr.cell? ⟨g, j, none⟩ = some (.string (nm (idx f j))) := by
        rw [HR.out.below.cell (p := ⟨g, j, none⟩) (World.block_lt_of_cell? w _ hc0)]; exact hc0
      have hjl : j < (idxs f).length := by rw [← HF.out.1]; exact hlt
      have hE := HE.out _ (idx_lt hjl)
      have hk1 := rest_keep (f := f) (k := k) hjl
      have hk2 := rest_drop (f := f) (k := k) hjl
      have hle := rest_le f k j
      obtain ⟨T, hT⟩ : ∃ T, T = nm (idx f j) := ⟨_, rfl⟩
      rw [← hT] at hc hE hk1
      clear hT hc0
      by_cases e : idx f j = k
      · have e' : (idx f j == k) = true := by simpa using e
        rw [e'] at hE
        have HK := hide (hk2 e)
        clear e e' HE hk1 hk2 HF
        go_wp2
        go_roundw
        case rel => exact ⟨j + 1, by omega, by go_num, by rw [HK.out]; exact HR.out⟩
        case measure => simp [intOf]; omega
      · have e' : (idx f j == k) = false := by simpa using e
        rw [e'] at hE
        have HK := hide (hk1 e)
        obtain ⟨i0, hi, hz0, hz1, hz2⟩ := info_parts Try.info9
        clear e e' HE hk1 hk2 HF
        go_wp2_with (at_builtin; refine wpList_append_own _ rfl (.tmp 20) (.tmp 22) 25 rfl w.heap.size 9 i0 (.string ⟨#[]⟩) 1 16 Try.underlying25 hi hz0 hz1 hz2 rfl (by decide) _ _ _ rfl (HR.out.own.alloc _) ⟨wr.heap.size, 0, none⟩ 1 1 [.string T] rfl rfl ?c1 ?c2 ?c3 ?c4 ?c5 ?_)
        case c1 => exact new_cell1 _ _ _
        case c2 => intro u hu; simp at hu; subst hu; rfl
        case c3 => unfold maxLen; omega
        case c4 => omega
        case c5 => have := HR.out.below.size; simp; omega
        intro v' w1 hown' hgrow _
        have R' := HR.out.push hown' hgrow
        rw [← HK.out] at R'
        have HR' := hide R'
        clear hown' hgrow HR R' HK
        go_wp2
        go_roundw
        case rel => exact ⟨j + 1, by omega, by go_num, HR'.out⟩
        case measure => simp [intOf]; omega
    · obtain rfl : j = N := by omega
      have HK := hide (rest_all f k HF.out.1)
      clear HE HF
      go_wp2
      go_ret
      exact ⟨_, rfl, by rw [← HK.out]; exact HR.out⟩
end Go.Proofs.Qxb6608550a
