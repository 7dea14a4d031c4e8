/-
  A slice copied into memory of the call's own: 'zzc := make([]T, len(p)); copy(zzc, p)': over any program.
-/
import Derived.Laws.IdiomCopy
import Derived.Laws.MakeOwn
import Derived.Below
import Derived.Lib.SlBuf
namespace Go.Proofs.Qxb6608822aRFmt
open Go.RowKit
variable {P : Program}

theorem cell_made (w : World) (z : Array Value) (e : TypeId) (n j : Nat) (h : j < n) : ((w.alloc (.cells (madeCells z n) e)).cell? ⟨w.heap.size, j, none⟩).isSome = true := by
  rw [World.cell?_alloc_mark, Array.getElem?_eq_getElem (by rw [size_madeCells]; exact h)]; rfl
theorem free_made (w : World) (cs : Array Value) (e : TypeId) (j : Nat) : (w.alloc (.cells cs e)).frozen? ⟨w.heap.size, j, none⟩ = false := by
  have := World.frozen?_alloc_mark w cs e 0 0 j
  rw [this]; simp

theorem size_setCells (b : Nat) : ∀ (vs : List Value) (o : Nat) (w : World), (w.setCells b o vs).heap.size = w.heap.size
  | [], _, _ => rfl
  | v :: r, o, w => by rw [World.setCells, size_setCells b r]; simp [World.setCell]

theorem clone_run (w : World) (t e : TypeId) (i : TypeInfo) (z : Value) (ht : P.underlying t = some (.slice e)) (hi : P.info? e = some i) (hz : i.zero = some z) (hs : i.size = 1) (hb : i.bytes ≤ 16)
    (x : Addr) (vs : List Value) (n c : Nat) (ty : TypeId) (hn : vs.length = n) (hm : n ≤ 2097152) (hsrc : ∀ j v, vs[j]? = some v → w.cell? (x.add j) = some v) (h1 : ∀ v ∈ vs, v.oneCell' = true) :
    ∃ W1 W2, (Instr.makeSlice t (.int .i64 n) (.int .i64 n)).run P w = .ok (.slice (some ⟨w.heap.size, 0, none⟩) n n) W1 ∧
      (Builtin.copy_ #[t, t] ty #[.slice (some ⟨w.heap.size, 0, none⟩) n n, .slice (some x) n c]).run P W1 = .ok (goInt n) W2 ∧
      (∀ j v, vs[j]? = some v → W2.cell? ⟨w.heap.size, j, none⟩ = some v) ∧ Below w.heap.size w W2 ∧ W2.heap.size = w.heap.size + 1 ∧ Below w.heap.size w W1 := by
  subst hn
  have hbb : (i.bytes : Int) * (vs.length : Int) ≤ 281474976710656 := by
    have : i.bytes * vs.length ≤ 16 * 2097152 := Nat.mul_le_mul hb hm
    have : ((i.bytes * vs.length : Nat) : Int) ≤ 281474976710656 := by omega
    rwa [Int.natCast_mul] at this
  have hmk := run_make (P := P) w t e i z ht hi hz .i64 .i64 vs.length vs.length (by omega) (by omega) hbb (by omega)
  simp only [Int.toNat_natCast, hs, Nat.mul_one] at hmk
  have hB : Below w.heap.size w (w.alloc (.cells (madeCells z.cells vs.length) e)) := (Below.refl _ _).alloc (Nat.le_refl _) _
  have hcp := run_copy_cells (P := P) (w.alloc (.cells (madeCells z.cells vs.length) e)) t t ty e w.heap.size 0 vs.length vs.length x vs.length c vs ht (by rw [hi]; simp [hs]) (by simp)
    (fun j v hj => by rw [hB.cell (World.block_lt_of_cell? w _ (hsrc j v hj))]; exact hsrc j v hj)
    (fun j hj => by rw [Nat.zero_add]; exact cell_made w _ _ _ _ hj) (fun j _ => free_made w _ _ _) h1
  refine ⟨_, _, hmk, hcp, ?_, Go.Lib.below_setCells _ (Nat.le_refl _) _ _ hB, ?_, hB⟩
  · intro j v hj
    have hj' : j < vs.length := (List.getElem?_eq_some_iff.1 hj).1
    have := World.cell?_setCells_in w.heap.size vs 0 (w.alloc (.cells (madeCells z.cells vs.length) e)) (fun k hk => by rw [Nat.zero_add]; exact cell_made w _ _ _ _ hk) j hj'
    rw [Nat.zero_add] at this
    rw [this]
    rw [List.getElem?_eq_getElem hj'] at hj
    exact hj
  · rw [size_setCells]; simp
end Go.Proofs.Qxb6608822aRFmt
