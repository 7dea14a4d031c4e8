/-
  THE WALK of ZZlimitGiven (13).
-/
import Derived.Test.Qxb6608550aMaps
namespace Go.Proofs.Qxb6608550a
open Go.RowKit

theorem Strs.below {w w' : World} {a : Option Addr} {n : Nat} (h : Strs w a n) (hb : Below w.heap.size w w') : Strs w' a n := by
  rcases h with h | ⟨g, rfl, h⟩
  · exact Or.inl h
  · refine Or.inr ⟨g, rfl, fun j hj => ?_⟩
    obtain ⟨s, hc, hs⟩ := h j hj
    exact ⟨s, by rw [hb.cell (p := ⟨g, j, none⟩) (World.block_lt_of_cell? w _ hc)]; exact hc, hs⟩

theorem lines_any (a : Option Addr) (n c : Nat) (w : World) (hm : n ≤ 1048576) (hs : Strs w a n) :
    Calls Try.prog 26 #[.slice a n c] w fun e w' => ∃ a' n', e = .returned (.slice a' n' n') ∧ (!a'.isNone) = (!a.isNone) ∧ Below w.heap.size w w' := by
  rcases hs with ⟨rfl, rfl⟩ | ⟨g, rfl, hs⟩
  · exact (lines_nil 0 c w).mono fun e w' ⟨he, hw⟩ => ⟨none, 0, he, rfl, by rw [hw]; exact Below.refl _ _⟩
  · exact (lines_some g n c w hm hs).mono fun e w' ⟨a', he, hb⟩ => ⟨some a', n, he, rfl, hb⟩
theorem require_any (a : Option Addr) (n c : Nat) (w : World) (hm : n ≤ 1048576) (hs : Strs w a n) :
    Calls Try.prog 27 #[.slice a n c] w fun e w' => ∃ r, e = .returned (.map r) ∧ (!r.isNone) = (!a.isNone) ∧ Below w.heap.size w w' := by
  rcases hs with ⟨rfl, rfl⟩ | ⟨g, rfl, hs⟩
  · exact (require_nil 0 c w).mono fun e w' ⟨he, hw⟩ => ⟨none, he, rfl, by rw [hw]; exact Below.refl _ _⟩
  · exact (require_some g n c w hm hs).mono fun e w' ⟨a', he, hb⟩ => ⟨some a', he, rfl, hb⟩

theorem owns_mono {w : World} {b b' : Nat} {v : Value} {n : Nat} {xs : List Value} (h : w.ownsRow b 9 1 v n xs) (hb : b' ≤ b) : w.ownsRow b' 9 1 v n xs := by
  obtain ⟨h1, h2⟩ := h
  refine ⟨h1, ?_⟩
  rcases h2 with h2 | ⟨g, cap, cur, hv, hg, r⟩
  · exact Or.inl h2
  · exact Or.inr ⟨g, cap, cur, hv, by omega, r⟩

set_option maxHeartbeats 1000000 in
theorem limit_any (p0 p1 p3 p4 p5 aL aR a7 a8 a9 : Option Addr) (nL cL nR cR n7 c7 n8 c8 n9 c9 : Nat) (b0 b1 b2 b3 b4 b5 b6 : Bool) (w : World)
    (e0 : (!aL.isNone) = b0) (e1 : (!p3.isNone) = b1) (e2 : (!p4.isNone) = b2) (e3 : (!p5.isNone) = b3) (e4 : (!aR.isNone) = b4) (e5 : (!a7.isNone) = b5) (e6 : (!a8.isNone) = b6)
    (hL : nL ≤ 1048576) (hR : nR ≤ 1048576) (sL : Strs w aL nL) (sR : Strs w aR nR) :
    Calls Try.prog 13 #[.pointer p0, .pointer p1, .slice aL nL cL, .pointer p3, .pointer p4, .pointer p5, .slice aR nR cR, .slice a7 n7 c7, .slice a8 n8 c8, .slice a9 n9 c9] w
      fun e w' => ∃ v, e = .returned v ∧ w'.ownsRow w.heap.size 9 1 v (keys (flg b0 b1 b2 b3 b4 b5 b6) 7).length (cellsOf (flg b0 b1 b2 b3 b4 b5 b6) 7) ∧ Below w.heap.size w w' := by
  have H1 := hide (lines_any aL nL cL w hL sL)
  have H2 := hide (fun (w1 : World) (h : Below w.heap.size w w1) => require_any aR nR cR w1 hR (sR.below h))
  have H3 := hide (fun (a : Option Addr) (n : Nat) (r : Option Nat) (w2 : World) (h1 : (!a.isNone) = b0) (h2 : (!r.isNone) = b4) => given_any p0 p1 p3 p4 p5 a a7 a8 a9 n n n7 c7 n8 c8 n9 c9 r b0 b1 b2 b3 b4 b5 b6 w2 h1 e1 e2 e3 h2 e5 e6)
  have E0 := hide e0
  have E4 := hide e4
  clear sL sR hL hR e0 e1 e2 e3 e4 e5 e6
  go_enter Try.func13, Try.ntmps13
  go_wp2_with fail
  refine H1.out.mono ?_
  rintro e w1 ⟨a', n', rfl, ha', hb1⟩
  have HA := hide (ha'.trans E0.out)
  have HB1 := hide hb1
  clear ha' hb1
  go_wp2_with fail
  refine (H2.out w1 HB1.out).mono ?_
  rintro e w2 ⟨r, rfl, hr, hb2⟩
  have HC := hide (hr.trans E4.out)
  have HB2 := hide hb2
  clear hr hb2
  go_wp2_with fail
  refine (H3.out _ _ _ _ HA.out HC.out).mono ?_
  rintro e w3 ⟨v, rfl, ho, hb3⟩
  have HO := hide ho
  have HB3 := hide hb3
  clear ho hb3
  go_wp2_with fail
  go_ret
  have s1 := HB1.out.size
  have s2 := HB2.out.size
  exact ⟨v, rfl, owns_mono HO.out (by simp; omega), ((HB1.out.trans (HB2.out.mono s1)).alloc (by omega) _).trans (HB3.out.mono (by simp; omega))⟩
end Go.Proofs.Qxb6608550a
