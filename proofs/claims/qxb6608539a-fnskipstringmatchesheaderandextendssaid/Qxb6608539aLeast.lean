/-
  THE WALK of FnSkipStringLeastPrefix (4).
-/
import Derived.Test.Qxb6608539aWalkB
import Derived.Test.Qxb6608539aClone
import Derived.WalkSpells
import Derived.Lib.SliceRun
namespace Go.Proofs.Qxb6608539a
open Go.RowKit
open Plain (nb nb_le skipAt)

theorem Try.info5 : (Try.prog.info? 5).map (fun i => (i.zero, i.size, i.bytes)) = some (some (.int .u8 0), 1, 1) := by kernel_rfl

/-- the bytes as values -/
def vals (l : List UInt8) : List Value := l.map fun b => Value.int .u8 (b.toNat : Int)
theorem vals_len (l : List UInt8) : (vals l).length = l.length := by simp [vals]
theorem vals_get {l : List UInt8} {j : Nat} {v : Value} (h : (vals l)[j]? = some v) : j < l.length ∧ v = .int .u8 (nb l j) := by
  simp only [vals, List.getElem?_map, Option.map_eq_some_iff] at h
  obtain ⟨b, hb, rfl⟩ := h
  obtain ⟨hj, rfl⟩ := List.getElem?_eq_some_iff.1 hb
  exact ⟨hj, by simp [nb, List.getD, hj]⟩
theorem vals_at {l : List UInt8} {j : Nat} (h : j < l.length) : (vals l)[j]? = some (.int .u8 (nb l j)) := by
  simp [vals, h, nb, List.getD]
theorem vals_one (l : List UInt8) : ∀ v ∈ vals l, v.oneCell' = true := fun v hv => by
  obtain ⟨b, _, rfl⟩ := List.mem_map.1 hv; rfl

/-- the numbers of a row as bytes -/
def bytesOf (zs : List Int) (n : Nat) : List UInt8 := (zs.take n).map fun z => UInt8.ofNat z.toNat
theorem bytesOf_len (zs : List Int) (n : Nat) (h : n ≤ zs.length) : (bytesOf zs n).length = n := by simp [bytesOf]; omega
theorem bytesOf_nb (zs : List Int) (n j : Nat) (h : n ≤ zs.length) (hj : j < n) (hwf : ∀ z ∈ zs, (Lit.int .u8 z).wf = true) : (nb (bytesOf zs n) j : Int) = zs.getD j 0 := by
  have hj' : j < zs.length := by omega
  have hz := hwf zs[j] (List.getElem_mem hj')
  have hb : 0 ≤ zs[j] ∧ zs[j] ≤ 255 := by simpa [Lit.wf, IntKind.min, IntKind.max, IntKind.bits, IntKind.signed] using hz
  simp only [nb, bytesOf, List.getD, List.getElem?_map, List.getElem?_take, if_pos hj, List.getElem?_eq_getElem hj', Option.map_some, Option.getD_some]
  simp
  omega

/-- 'zzc := make([]byte, len(p)); copy(zzc, p)' -/
theorem clone_bytes (w : World) (x : Addr) (l : List UInt8) (c : Nat) (hm : l.length ≤ 2097152) (hsrc : ∀ j, j < l.length → w.cell? (x.add j) = some (.int .u8 (nb l j))) :
    ∃ W1 W2, (Instr.makeSlice 22 (.int .i64 l.length) (.int .i64 l.length)).run Try.prog w = .ok (.slice (some ⟨w.heap.size, 0, none⟩) l.length l.length) W1 ∧
      (∀ ty, (Builtin.copy_ #[22, 22] ty #[.slice (some ⟨w.heap.size, 0, none⟩) l.length l.length, .slice (some x) l.length c]).run Try.prog W1 = .ok (goInt l.length) W2) ∧
      (∀ j, j < l.length → W2.cell? ⟨w.heap.size, 0 + j, none⟩ = some (.int .u8 (nb l j))) ∧ Below w.heap.size w W2 ∧ W2.heap.size = w.heap.size + 1 := by
  obtain ⟨i0, hi, hz0, hz1, hz2⟩ := info_parts Try.info5
  obtain ⟨W1, W2, h1, h2, h3, h4, h5, _⟩ := clone_run (P := Try.prog) w 22 5 i0 (.int .u8 0) Try.underlying22 hi hz0 hz1 (by omega) x (vals l) l.length c 3 (vals_len l) hm (fun j v hj => by obtain ⟨a, rfl⟩ := vals_get hj; exact hsrc j a) (vals_one l)
  exact ⟨W1, W2, h1, fun _ => h2, fun j hj => by rw [Nat.zero_add]; exact h3 j _ (vals_at hj), h4, h5⟩

theorem q_ne (w : World) (a : Option Addr) (n c n' c' : Nat) : (binOp .neq 22 (.slice a n c) (.slice none n' c')).run Try.prog w = .ok (.bool (!a.isNone)) w := run_neq_slice_nil_any w 22 5 a n c n' c' Try.underlying22

theorem q_eq (w : World) (a : Option Addr) (n c n' c' : Nat) : (binOp .eql 22 (.slice a n c) (.slice none n' c')).run Try.prog w = .ok (.bool a.isNone) w := Lib.run_eql_slice_nil w 22 5 a n c n' c' Try.underlying22

theorem run_cut2 (w : World) (g o n c k h : Nat) (h1 : k ≤ h) (h2 : h ≤ c) :
    (Instr.slice 22 (.slice (some ⟨g, o, none⟩) n c) (some (.int .i64 (k : Int))) (some (.int .i64 (h : Int))) none).run Try.prog w = .ok (.slice (cutA g o c k) (h - k) (c - k)) w := by
  have ht' : Try.prog.underlying 22 = some (.slice (Try.prog.elem 22)) := by simp [Program.elem, Try.underlying22]
  have he : Try.prog.elem 22 = 5 := by simp [Program.elem, Try.underlying22]
  rw [run_slice_lh w 22 _ _ _ ht' .i64 .i64 _ _ (by omega) (by omega) (by omega), he, Try.sizeOf5]
  unfold cutA
  by_cases h0 : c = k
  · simp [Result.andThen, sliced, h0]
  · by_cases h1 : k = 0
    · subst h1; simp [Result.andThen, sliced, Addr.add]
    · simp [Result.andThen, sliced, Addr.add, h0, h1]

/-- two cuts of one row at one place -/
theorem same_cut (g n k m c c' : Nat) (z : Nat → Int) (w : World) (hn : n ≤ 2097152) (hk : k + m ≤ n) (h : ∀ j, j < n → w.cell? ⟨g, 0 + j, none⟩ = some (.int .u8 (z j))) :
    Calls Try.prog 8 #[.slice (cutA g 0 n k) m c, .slice (cutA g 0 n k) m c'] w fun e w' => e = .returned (.bool true) ∧ ∃ q, w' = w.drewN q := by
  by_cases hm : m = 0
  · subst hm
    exact (same_zero _ _ c c' w).mono fun e w' ⟨he, hw⟩ => ⟨he, 0, hw⟩
  · unfold cutA
    rw [if_neg (by omega)]
    exact same_cells g (0 + k) g (0 + k) m c c' (fun j => z (k + j)) w (by omega) (fun j hj => by rw [Nat.add_assoc]; exact h (k + j) (by omega)) (fun j hj => by rw [Nat.add_assoc]; exact h (k + j) (by omega))

theorem below_drewN {B : Nat} {a w : World} (h : Below B a w) (n : Nat) : Below B a (w.drewN n) := ⟨h.os, h.tape, h.output, h.size, h.block⟩

theorem nb_take (l : List UInt8) (k j : Nat) (h : j < k) : nb (l.take k) j = nb l j := by
  simp [nb, List.getD, h]

set_option maxHeartbeats 400000 in
theorem bytes9 (a : Option Addr) (n c : Nat) (k : Int) (w : World) (hm : n ≤ 1048576) : Calls Try.prog 9 #[.slice a n c, .int .i64 k] w fun e w' => e = .returned (.bool true) ∧ w' = w := by
  go_enter Try.func9, Try.ntmps9
  go_wp2
  go_ret
  exact ⟨rfl, rfl⟩

set_option maxHeartbeats 400000 in
theorem least_none (x : Addr) (l : List UInt8) (c k : Nat) (w : World) (hm : l.length ≤ 1048576) (hk : k ≤ l.length) (hsrc : ∀ j, j < l.length → w.cell? (x.add j) = some (.int .u8 (nb l j))) (h : skipAt l = none) :
    Calls Try.prog 4 #[.slice (some x) l.length c, .int .i64 k] w fun e w' => e = .returned (.bool true) ∧ Below w.heap.size w w' := by
  obtain ⟨W1, W2, hmk, hcp, hcell, hbel, hsz⟩ := clone_bytes w x l c (by omega) hsrc
  have H1 := hide (zz_none w.heap.size 0 l.length l W2 (by omega) hcell h)
  have ht : (l.take k).length = k := by simp; omega
  have H2 := hide (zz_none w.heap.size 0 l.length (l.take k) W2 (by omega) (fun j hj => by rw [nb_take l k j (by omega)]; exact hcell j (by omega)) (Plain.skipAt_take_none k h))
  rw [ht] at H2
  have H3 := hide (model_none w.heap.size 0 l.length l W2 (by omega) hcell h)
  have HB := hide hbel
  have q1 := q_ne
  have q2 := q_eq
  clear hsrc hcell hbel h ht hsz
  go_enter Try.func4, Try.ntmps4
  go_wp2_with (go_at_call 9; refine (bytes9 _ _ _ _ _ hm).mono ?_; rintro e w' ⟨rfl, rfl⟩)
  refine H1.out.mono ?_
  rintro e w1 ⟨rfl, rfl⟩
  go_wp2_with fail
  refine H2.out.mono ?_
  rintro e w1 ⟨rfl, rfl⟩
  go_wp2_with fail
  refine H3.out.mono ?_
  rintro e w1 ⟨rfl, rfl⟩
  go_wp2_with fail
  go_ret
  exact ⟨rfl, HB.out⟩

set_option maxHeartbeats 400000 in
theorem least_lt (x : Addr) (l : List UInt8) (c k p : Nat) (w : World) (hm : l.length ≤ 1048576) (hk : k ≤ l.length) (hsrc : ∀ j, j < l.length → w.cell? (x.add j) = some (.int .u8 (nb l j))) (h : skipAt l = some p) (hp : k < p) :
    Calls Try.prog 4 #[.slice (some x) l.length c, .int .i64 k] w fun e w' => e = .returned (.bool true) ∧ Below w.heap.size w w' := by
  obtain ⟨W1, W2, hmk, hcp, hcell, hbel, hsz⟩ := clone_bytes w x l c (by omega) hsrc
  have hpl := Plain.skipAt_le h
  have hcell' : ∀ nq j, j < l.length → (W2.drewN nq).cell? ⟨w.heap.size, 0 + j, none⟩ = some (.int .u8 (nb l j)) := fun nq j hj => by rw [World.cell?_drewN]; exact hcell j hj
  have H1 := hide (zz_some w.heap.size 0 l.length p l W2 (by omega) (Nat.le_refl _) hcell h)
  have ht : (l.take k).length = k := by simp; omega
  have H2 := hide (fun nq => zz_none w.heap.size 0 l.length (l.take k) (W2.drewN nq) (by omega) (fun j hj => by rw [nb_take l k j (by omega)]; exact hcell' nq j (by omega)) (Plain.skipAt_take_lt k h hp))
  rw [ht] at H2
  have H3 := hide (fun nq => model_some w.heap.size 0 l.length p l (W2.drewN nq) (by omega) (hcell' nq) h)
  have H4 := hide (fun nq => same_cut w.heap.size l.length p (l.length - p) (l.length - p) (l.length - p) (fun j => (nb l j : Int)) (W2.drewN nq) (by omega) (by omega) (hcell' nq))
  have HB := hide hbel
  have q1 := q_ne
  have q2 := q_eq
  have q3 := fun w' => run_cut w' w.heap.size 0 l.length l.length p hpl (Nat.le_refl _)
  clear hsrc hcell hcell' hbel h ht hsz
  go_enter Try.func4, Try.ntmps4
  go_wp2_with (go_at_call 9; refine (bytes9 _ _ _ _ _ hm).mono ?_; rintro e w' ⟨rfl, rfl⟩)
  refine H1.out.mono ?_
  rintro e w1 ⟨rfl, n1, rfl⟩
  go_wp2_with fail
  refine (H2.out _).mono ?_
  rintro e w1 ⟨rfl, rfl⟩
  go_wp2_with fail
  refine (H3.out _).mono ?_
  rintro e w1 ⟨rfl, rfl⟩
  go_wp2_with fail
  refine (H4.out _).mono ?_
  rintro e w1 ⟨rfl, n2, rfl⟩
  go_wp2_with fail
  go_ret
  exact ⟨rfl, below_drewN HB.out _⟩

set_option maxHeartbeats 400000 in
theorem least_ge (x : Addr) (l : List UInt8) (c k p : Nat) (w : World) (hm : l.length ≤ 1048576) (hk : k ≤ l.length) (hsrc : ∀ j, j < l.length → w.cell? (x.add j) = some (.int .u8 (nb l j))) (h : skipAt l = some p) (hp : p ≤ k) :
    Calls Try.prog 4 #[.slice (some x) l.length c, .int .i64 k] w fun e w' => e = .returned (.bool true) ∧ Below w.heap.size w w' := by
  obtain ⟨W1, W2, hmk, hcp, hcell, hbel, hsz⟩ := clone_bytes w x l c (by omega) hsrc
  have hpl := Plain.skipAt_le h
  have hcell' : ∀ nq j, j < l.length → (W2.drewN nq).cell? ⟨w.heap.size, 0 + j, none⟩ = some (.int .u8 (nb l j)) := fun nq j hj => by rw [World.cell?_drewN]; exact hcell j hj
  have H1 := hide (zz_some w.heap.size 0 l.length p l W2 (by omega) (Nat.le_refl _) hcell h)
  have ht : (l.take k).length = k := by simp; omega
  have H2 := hide (fun nq => zz_some w.heap.size 0 l.length p (l.take k) (W2.drewN nq) (by omega) (by omega) (fun j hj => by rw [nb_take l k j (by omega)]; exact hcell' nq j (by omega)) (Plain.skipAt_take_ge k h hp))
  rw [ht] at H2
  have H3 := hide (fun nq => model_some w.heap.size 0 l.length p l (W2.drewN nq) (by omega) (hcell' nq) h)
  have H4 := hide (fun nq => same_cut w.heap.size l.length p (l.length - p) (l.length - p) (l.length - p) (fun j => (nb l j : Int)) (W2.drewN nq) (by omega) (by omega) (hcell' nq))
  have H5 := hide (fun nq => same_cut w.heap.size l.length p (k - p) (l.length - p) (l.length - p) (fun j => (nb l j : Int)) (W2.drewN nq) (by omega) (by omega) (hcell' nq))
  have HB := hide hbel
  have q1 := q_ne
  have q2 := q_eq
  have q3 := fun w' => run_cut w' w.heap.size 0 l.length l.length p hpl (Nat.le_refl _)
  have q4 := fun w' => run_cut2 w' w.heap.size 0 l.length l.length p k hp hk
  clear hsrc hcell hcell' hbel h ht hsz
  go_enter Try.func4, Try.ntmps4
  go_wp2_with (go_at_call 9; refine (bytes9 _ _ _ _ _ hm).mono ?_; rintro e w' ⟨rfl, rfl⟩)
  refine H1.out.mono ?_
  rintro e w1 ⟨rfl, n1, rfl⟩
  go_wp2_with fail
  refine (H2.out _).mono ?_
  rintro e w1 ⟨rfl, n2, rfl⟩
  go_wp2_with fail
  refine (H3.out _).mono ?_
  rintro e w1 ⟨rfl, rfl⟩
  go_wp2_with fail
  refine (H4.out _).mono ?_
  rintro e w1 ⟨rfl, n3, rfl⟩
  go_wp2_with fail
  refine (H5.out _).mono ?_
  rintro e w1 ⟨rfl, n4, rfl⟩
  go_wp2_with fail
  go_ret
  exact ⟨rfl, below_drewN HB.out _⟩

/-- nil -/
theorem least_nil (w : World) : Calls Try.prog 4 #[.slice none 0 0, .int .i64 0] w fun e w' => e = .returned (.bool true) ∧ Below w.heap.size w w' := by
  have H1 := hide (zz_empty none 0)
  have H3 := hide (model_empty none 0)
  have q1 := q_ne
  have q2 := q_eq
  go_enter Try.func4, Try.ntmps4
  go_wp2_with (go_at_call 9; refine (bytes9 _ _ _ _ _ (by omega)).mono ?_; rintro e w' ⟨rfl, rfl⟩)
  refine (H1.out _).mono ?_
  rintro e w1 ⟨rfl, rfl⟩
  go_wp2_with fail
  refine (H1.out _).mono ?_
  rintro e w1 ⟨rfl, rfl⟩
  go_wp2_with fail
  refine (H3.out _).mono ?_
  rintro e w1 ⟨rfl, rfl⟩
  go_wp2_with fail
  go_ret
  exact ⟨rfl, Below.refl _ _⟩

/-- too long, or no cut of p -/
theorem least_long (a : Option Addr) (n c : Nat) (k : Int) (w : World) (hm : n ≤ 9223372036854775807) (h : 1048576 < n) : Calls Try.prog 4 #[.slice a n c, .int .i64 k] w fun e w' => e = .returned (.bool true) ∧ Below w.heap.size w w' := by
  go_enter Try.func4, Try.ntmps4
  go_wp2
  go_ret
  exact ⟨rfl, Below.refl _ _⟩
theorem least_out (a : Option Addr) (n c : Nat) (k : Int) (w : World) (hm : n ≤ 1048576) (h : k < 0 ∨ (0 ≤ k ∧ (n : Int) < k)) : Calls Try.prog 4 #[.slice a n c, .int .i64 k] w fun e w' => e = .returned (.bool true) ∧ Below w.heap.size w w' := by
  rcases h with h | ⟨h, h'⟩
  · go_enter Try.func4, Try.ntmps4
    go_wp2
    go_ret
    exact ⟨rfl, Below.refl _ _⟩
  · go_enter Try.func4, Try.ntmps4
    go_wp2
    go_ret
    exact ⟨rfl, Below.refl _ _⟩
end Go.Proofs.Qxb6608539a
