/-
  THE WALK of FnReaderByteSplitAtAnyCut (3).
-/
import Derived.Test.Qxb6608621aDoorHeld
namespace Go.Proofs.Qxb6608621aDoor
open Go.RowKit

/-! ### a reader's place moved on: what stays -/
theorem setCell_kept {w : World} {p q : Addr} {u v : Value} (hp : w.cell? p = some u) (hne : p ≠ q) : (w.setCell q v).cell? p = some u := by
  rw [World.cell?_setCell_other _ _ _ _ (fun e => hne (by first | exact e | exact e.symm))]; exact hp
theorem HB.move {w : World} {ao : Option Addr} {n : Nat} {z : Nat → Int} (h : HB w ao n z) {g : Nat} {p v : Int} (hg : w.cell? ⟨g, 3, none⟩ = some (.int .i64 p)) : HB (w.setCell ⟨g, 3, none⟩ (.int .i64 v)) ao n z := fun j hj => by
  obtain ⟨b, off, e, hc⟩ := h j hj
  refine ⟨b, off, e, setCell_kept hc (fun h => ?_)⟩
  rw [h, hg] at hc; cases hc
theorem RD.move {w : World} {g : Nat} {a : Addr} {ao : Option Addr} {n c : Nat} {p : Int} (R : RD w g a ao n c p) (v : Int) : RD (w.setCell ⟨g, 3, none⟩ (.int .i64 v)) g a ao n c v where
  src := setCell_kept R.src (by simp)
  err := setCell_kept R.err (by simp)
  buf := setCell_kept R.buf (by simp)
  pos := World.cell?_setCell_same _ _ _ R.pos
  free := by rw [World.frozen?_setCell]; exact R.free
theorem RD.other {w : World} {g g' : Nat} {a : Addr} {ao : Option Addr} {n c : Nat} {p : Int} (R : RD w g a ao n c p) (hne : g ≠ g') (v : Int) : RD (w.setCell ⟨g', 3, none⟩ (.int .i64 v)) g a ao n c p where
  src := setCell_kept R.src (by simp)
  err := setCell_kept R.err (by simp)
  buf := setCell_kept R.buf (by simp)
  pos := setCell_kept R.pos (by simp)
  free := by rw [World.frozen?_setCell]; exact R.free
theorem RD.below {w w' : World} {g : Nat} {a : Addr} {ao : Option Addr} {n c : Nat} {p : Int} (R : RD w g a ao n c p) (hb : Below w.heap.size w w') (hg : g < w.heap.size) : RD w' g a ao n c p where
  src := by rw [hb.cell (p := ⟨g, 0, none⟩) hg]; exact R.src
  err := by rw [hb.cell (p := ⟨g, 1, none⟩) hg]; exact R.err
  buf := by rw [hb.cell (p := ⟨g, 2, none⟩) hg]; exact R.buf
  pos := by rw [hb.cell (p := ⟨g, 3, none⟩) hg]; exact R.pos
  free := by rw [hb.frozen (p := ⟨g, 3, none⟩) hg]; exact R.free

/-- the three readers, their texts, and 'want' -/
structure ST (w wr : World) (a : Addr) (gW gH gT : Nat) (aW aH aT aV : Option Addr) (n k : Nat) (z : Nat → Int) (pW pH pT : Nat) : Prop where
  rW : RD wr gW a aW n n (pW : Int)
  rH : RD wr gH a aH k k (pH : Int)
  rT : RD wr gT a aT (n - k) (n - k) (pT : Int)
  bW : HB wr aW n z
  bH : HB wr aH k z
  bT : HB wr aT (n - k) (fun j => z (k + j))
  bV : HB wr aV n z
  below : Below w.heap.size w wr
  hW : w.heap.size ≤ gW
  hH : w.heap.size ≤ gH
  hT : w.heap.size ≤ gT
  dWH : gW ≠ gH
  dWT : gW ≠ gT
  dHT : gH ≠ gT

section
variable {w wr : World} {a : Addr} {gW gH gT : Nat} {aW aH aT aV : Option Addr} {n k : Nat} {z : Nat → Int} {pW pH pT : Nat}
theorem below_drewN {B : Nat} {a w : World} (h : Below B a w) (n : Nat) : Below B a (w.drewN n) := ⟨h.os, h.tape, h.output, h.size, h.block⟩
theorem ST.drewN (S : ST w wr a gW gH gT aW aH aT aV n k z pW pH pT) (q : Nat) : ST w (wr.drewN q) a gW gH gT aW aH aT aV n k z pW pH pT :=
  ⟨⟨S.rW.src, S.rW.err, S.rW.buf, S.rW.pos, S.rW.free⟩, ⟨S.rH.src, S.rH.err, S.rH.buf, S.rH.pos, S.rH.free⟩, ⟨S.rT.src, S.rT.err, S.rT.buf, S.rT.pos, S.rT.free⟩, S.bW, S.bH, S.bT, S.bV, below_drewN S.below q, S.hW, S.hH, S.hT, S.dWH, S.dWT, S.dHT⟩
theorem ST.stepW (S : ST w wr a gW gH gT aW aH aT aV n k z pW pH pT) (q : Nat) : ST w ((wr.setCell ⟨gW, 3, none⟩ (.int .i64 ((pW : Int) + 1))).drewN q) a gW gH gT aW aH aT aV n k z (pW + 1) pH pT :=
  ST.drewN ⟨by have := S.rW.move ((pW : Int) + 1); rwa [show ((pW : Int) + 1) = ((pW + 1 : Nat) : Int) by omega] at this ⊢, S.rH.other (Ne.symm S.dWH) _, S.rT.other (Ne.symm S.dWT) _, S.bW.move S.rW.pos, S.bH.move S.rW.pos, S.bT.move S.rW.pos, S.bV.move S.rW.pos, S.below.setCell S.hW _, S.hW, S.hH, S.hT, S.dWH, S.dWT, S.dHT⟩ q
theorem ST.stepH (S : ST w wr a gW gH gT aW aH aT aV n k z pW pH pT) (q : Nat) : ST w ((wr.setCell ⟨gH, 3, none⟩ (.int .i64 ((pH : Int) + 1))).drewN q) a gW gH gT aW aH aT aV n k z pW (pH + 1) pT :=
  ST.drewN ⟨S.rW.other S.dWH _, by have := S.rH.move ((pH : Int) + 1); rwa [show ((pH : Int) + 1) = ((pH + 1 : Nat) : Int) by omega] at this ⊢, S.rT.other (Ne.symm S.dHT) _, S.bW.move S.rH.pos, S.bH.move S.rH.pos, S.bT.move S.rH.pos, S.bV.move S.rH.pos, S.below.setCell S.hH _, S.hW, S.hH, S.hT, S.dWH, S.dWT, S.dHT⟩ q
theorem ST.stepT (S : ST w wr a gW gH gT aW aH aT aV n k z pW pH pT) (q : Nat) : ST w ((wr.setCell ⟨gT, 3, none⟩ (.int .i64 ((pT : Int) + 1))).drewN q) a gW gH gT aW aH aT aV n k z pW pH (pT + 1) :=
  ST.drewN ⟨S.rW.other S.dWT _, S.rH.other S.dHT _, by have := S.rT.move ((pT : Int) + 1); rwa [show ((pT : Int) + 1) = ((pT + 1 : Nat) : Int) by omega] at this ⊢, S.bW.move S.rT.pos, S.bH.move S.rT.pos, S.bT.move S.rT.pos, S.bV.move S.rT.pos, S.below.setCell S.hT _, S.hW, S.hH, S.hT, S.dWH, S.dWT, S.dHT⟩ q

/-- the whole reader's next byte -/
theorem ST.byteW (S : ST w wr a gW gH gT aW aH aT aV n k z pW pH pT) (h : pW < n) (hn : n ≤ 1048576) :
    Calls Tryd.prog 7 #[.pointer (some ⟨gW, 0, none⟩)] wr fun e w' => e = .returned (.tuple #[.int .u8 (z pW), .nilIface]) ∧ ST w w' a gW gH gT aW aH aT aV n k z (pW + 1) pH pT := by
  obtain ⟨b, off, e, hc⟩ := S.bW pW h
  have R := S.rW
  rw [e] at R
  refine (byte_in gW a b off n n pW (z pW) wr R h hn hc).mono ?_
  rintro e w' ⟨rfl, q, rfl⟩
  exact ⟨rfl, S.stepW q⟩
theorem ST.byteH (S : ST w wr a gW gH gT aW aH aT aV n k z pW pH pT) (h : pH < k) (hn : k ≤ 1048576) :
    Calls Tryd.prog 7 #[.pointer (some ⟨gH, 0, none⟩)] wr fun e w' => e = .returned (.tuple #[.int .u8 (z pH), .nilIface]) ∧ ST w w' a gW gH gT aW aH aT aV n k z pW (pH + 1) pT := by
  obtain ⟨b, off, e, hc⟩ := S.bH pH h
  have R := S.rH
  rw [e] at R
  refine (byte_in gH a b off k k pH (z pH) wr R h hn hc).mono ?_
  rintro e w' ⟨rfl, q, rfl⟩
  exact ⟨rfl, S.stepH q⟩
theorem ST.byteT (S : ST w wr a gW gH gT aW aH aT aV n k z pW pH pT) (h : pT < n - k) (hn : n ≤ 1048576) :
    Calls Tryd.prog 7 #[.pointer (some ⟨gT, 0, none⟩)] wr fun e w' => e = .returned (.tuple #[.int .u8 (z (k + pT)), .nilIface]) ∧ ST w w' a gW gH gT aW aH aT aV n k z pW pH (pT + 1) := by
  obtain ⟨b, off, e, hc⟩ := S.bT pT h
  have R := S.rT
  rw [e] at R
  refine (byte_in gT a b off (n - k) (n - k) pT _ wr R h (by omega) hc).mono ?_
  rintro e w' ⟨rfl, q, rfl⟩
  exact ⟨rfl, S.stepT q⟩
/-- a reader at its end refuses -/
theorem ST.endW {b : Addr} (S : ST w wr a gW gH gT aW aH aT aV n k z n pH pT) (hn : n ≤ 1048576) (hE : w.cell? ⟨0, 0, none⟩ = some (.iface 43 (.pointer (some a)))) (hU : w.cell? ⟨1, 0, none⟩ = some (.iface 43 (.pointer (some b)))) :
    Calls Tryd.prog 7 #[.pointer (some ⟨gW, 0, none⟩)] wr fun e w' => e = .returned (.tuple #[.int .u8 0, .iface 43 (.pointer (some b))]) ∧ ST w w' a gW gH gT aW aH aT aV n k z n pH pT := by
  refine (byte_end gW a b aW n n wr S.rW hn (by rw [S.below.cell (World.block_lt_of_cell? w _ hE)]; exact hE) (by rw [S.below.cell (World.block_lt_of_cell? w _ hU)]; exact hU)).mono ?_
  rintro e w' ⟨rfl, q, rfl⟩
  exact ⟨rfl, S.drewN q⟩
theorem ST.endH {b : Addr} (S : ST w wr a gW gH gT aW aH aT aV n k z pW k pT) (hn : k ≤ 1048576) (hE : w.cell? ⟨0, 0, none⟩ = some (.iface 43 (.pointer (some a)))) (hU : w.cell? ⟨1, 0, none⟩ = some (.iface 43 (.pointer (some b)))) :
    Calls Tryd.prog 7 #[.pointer (some ⟨gH, 0, none⟩)] wr fun e w' => e = .returned (.tuple #[.int .u8 0, .iface 43 (.pointer (some b))]) ∧ ST w w' a gW gH gT aW aH aT aV n k z pW k pT := by
  refine (byte_end gH a b aH k k wr S.rH hn (by rw [S.below.cell (World.block_lt_of_cell? w _ hE)]; exact hE) (by rw [S.below.cell (World.block_lt_of_cell? w _ hU)]; exact hU)).mono ?_
  rintro e w' ⟨rfl, q, rfl⟩
  exact ⟨rfl, S.drewN q⟩
theorem ST.endT {b : Addr} (S : ST w wr a gW gH gT aW aH aT aV n k z pW pH (n - k)) (hn : n ≤ 1048576) (hE : w.cell? ⟨0, 0, none⟩ = some (.iface 43 (.pointer (some a)))) (hU : w.cell? ⟨1, 0, none⟩ = some (.iface 43 (.pointer (some b)))) :
    Calls Tryd.prog 7 #[.pointer (some ⟨gT, 0, none⟩)] wr fun e w' => e = .returned (.tuple #[.int .u8 0, .iface 43 (.pointer (some b))]) ∧ ST w w' a gW gH gT aW aH aT aV n k z pW pH (n - k) := by
  refine (byte_end gT a b aT (n - k) (n - k) wr S.rT (by omega) (by rw [S.below.cell (World.block_lt_of_cell? w _ hE)]; exact hE) (by rw [S.below.cell (World.block_lt_of_cell? w _ hU)]; exact hU)).mono ?_
  rintro e w' ⟨rfl, q, rfl⟩
  exact ⟨rfl, S.drewN q⟩
end
end Go.Proofs.Qxb6608621aDoor
