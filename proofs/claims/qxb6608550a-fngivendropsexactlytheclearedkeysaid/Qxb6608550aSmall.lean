/-
  THE WALKS of zzGivenName (14), zzGivenRank (21), zzEqualStrs (18).
-/
import Derived.Test.Qxb6608550aLimit
import Derived.BigQuiet
import Derived.Deep.QuietTactic
namespace Go.Proofs.Qxb6608550a
open Go.RowKit

set_option maxHeartbeats 1000000 in
theorem name_any (k : Nat) (w : World) (hk : k < 7) : Calls Try.prog 14 #[.int .i64 (k : Int)] w fun e w' => e = .returned (.string (nm k)) ∧ w' = w := by
  match k, hk with
  | 0, _ => go_enter Try.func14, Try.ntmps14; go_wp2; go_ret; exact ⟨rfl, rfl⟩
  | 1, _ => go_enter Try.func14, Try.ntmps14; go_wp2; go_ret; exact ⟨rfl, rfl⟩
  | 2, _ => go_enter Try.func14, Try.ntmps14; go_wp2; go_ret; exact ⟨rfl, rfl⟩
  | 3, _ => go_enter Try.func14, Try.ntmps14; go_wp2; go_ret; exact ⟨rfl, rfl⟩
  | 4, _ => go_enter Try.func14, Try.ntmps14; go_wp2; go_ret; exact ⟨rfl, rfl⟩
  | 5, _ => go_enter Try.func14, Try.ntmps14; go_wp2; go_ret; exact ⟨rfl, rfl⟩
  | 6, _ => go_enter Try.func14, Try.ntmps14; go_wp2; go_ret; exact ⟨rfl, rfl⟩

theorem nm_table : ∀ k : Fin 7, ∀ r : Fin 7, (k.val == r.val) = ((nm k.val).data.toList == (nm r.val).data.toList) := by decide
theorem nm_eq {k r : Nat} (hk : k < 7) (hr : r < 7) : ((nm k).toList == (nm r).toList) = (k == r) := by
  have := nm_table ⟨k, hk⟩ ⟨r, hr⟩
  rw [ByteArray.toList_eq, ByteArray.toList_eq]; exact this.symm

set_option maxHeartbeats 400000 in
theorem rank_any (r : Nat) (w : World) (hr : r < 7) : Calls Try.prog 21 #[.string (nm r)] w fun e w' => e = .returned (.int .i64 (r : Int)) ∧ w' = w := by
  obtain ⟨S, hS⟩ : ∃ S, S = nm r := ⟨_, rfl⟩
  rw [← hS]
  have HN := hide (fun (k : Nat) (h : k < 7) => nm_eq h hr)
  rw [← hS] at HN
  clear hS
  go_enter Try.func21, Try.ntmps21
  go_wp2
  go_loop [3] (fun i => ∃ k : Nat, k ≤ r ∧ i = .int .i64 k) (fun i => r + 1 - (intOf i).toNat)
  case atStart => exact ⟨0, by omega, rfl⟩
  case round =>
    obtain ⟨k, hk, rfl⟩ := hrel
    have hk7 : k < 7 := by omega
    have H1 := hide (fun w => name_any k w hk7)
    obtain ⟨T, hT⟩ : ∃ T, T = nm k := ⟨_, rfl⟩
    have hE := HN.out k hk7
    rw [← hT] at H1 hE
    clear hT
    by_cases e : k = r
    · have e' : (k == r) = true := by simpa using e
      rw [e'] at hE
      have HE := hide e
      clear e e'
      go_wp2_with (go_at_call 14; refine (H1.out _).mono ?_; rintro e w' ⟨rfl, rfl⟩)
      go_ret
      exact ⟨by rw [← HE.out]; rfl, rfl⟩
    · have e' : (k == r) = false := by simpa using e
      rw [e'] at hE
      have HE := hide e
      clear e e'
      go_wp2_with (go_at_call 14; refine (H1.out _).mono ?_; rintro e w' ⟨rfl, rfl⟩)
      go_round
      case rel => exact ⟨k + 1, by have := HE.out; omega, by go_num⟩
      case measure => simp [intOf]; omega

/-! ### zzEqualStrs of two slices that hold the same -/
set_option maxHeartbeats 400000 in
theorem eqs_zero (ao bo : Option Addr) (c c' : Nat) (w : World) :
    Calls Try.prog 18 #[.slice ao 0 c, .slice bo 0 c'] w fun e w' => e = .returned (.bool true) ∧ w' = w := by
  go_enter Try.func18, Try.ntmps18
  go_wp2
  refine wp_loop_rounds 1 ?_
  rw [rounds_succ]
  go_wp2
  go_ret
  exact ⟨rfl, rfl⟩
set_option maxHeartbeats 400000 in
theorem eqs_cells (g g' n c c' : Nat) (z : Nat → ByteArray) (w : World) (hm : n ≤ 2097152) (h1 : ∀ j, j < n → w.cell? ⟨g, j, none⟩ = some (.string (z j))) (h2 : ∀ j, j < n → w.cell? ⟨g', j, none⟩ = some (.string (z j))) :
    Calls Try.prog 18 #[.slice (some ⟨g, 0, none⟩) n c, .slice (some ⟨g', 0, none⟩) n c'] w fun e w' => e = .returned (.bool true) ∧ ∃ q, w' = w.drewN q := by
  go_enter Try.func18, Try.ntmps18
  go_wp2
  go_loopw [5] (fun i wr => ∃ k q : Nat, k ≤ n ∧ i = .int .i64 k ∧ wr = w.drewN q) (fun i _ => n - (intOf i).toNat)
  case atStart => exact ⟨0, 0, by omega, rfl, rfl⟩
  case round =>
    obtain ⟨k, q, hk, rfl, rfl⟩ := hrel
    by_cases hlt : k < n
    · have c1 := h1 k hlt
      have c2 := h2 k hlt
      clear h1 h2
      go_wp2
      go_quiet (fail)
      go_wp2
      go_roundw
      case rel => exact ⟨k + 1, _, by omega, by go_num, rfl⟩
      case measure => simp [intOf]; omega
    · go_wp2
      go_ret
      exact ⟨rfl, _, rfl⟩

/-- what an owned row of strings is -/
theorem owns_view {w : World} {b n : Nat} {v : Value} {ks : List ByteArray} (h : w.ownsRow b 9 1 v n (ks.map Value.string)) :
    n = ks.length ∧ ∃ ao c, v = .slice ao n c ∧ (0 < n → ∃ g, ao = some ⟨g, 0, none⟩ ∧ b ≤ g ∧ g < w.heap.size ∧ ∀ j, j < n → w.cell? ⟨g, j, none⟩ = some (.string (ks.getD j ⟨#[]⟩))) := by
  have hl := h.1
  have hn : n = ks.length := by simpa using hl.symm
  refine ⟨hn, ?_⟩
  rcases h.2 with ⟨rfl, rfl⟩ | ⟨g, cap, cur, rfl, hb, hh, hc, hm, hs, ht⟩
  · exact ⟨none, 0, rfl, fun h0 => by omega⟩
  · refine ⟨_, _, rfl, fun h0 => ⟨g, rfl, hb, (Array.getElem?_eq_some_iff.1 hh).1, fun j hj => ?_⟩⟩
    have := h.cellAt j (by omega)
    rw [this, List.getElem?_map, List.getElem?_eq_getElem (by omega)]
    simp [List.getD, List.getElem?_eq_getElem (show j < ks.length by omega)]

theorem eqs_own {w : World} {b b' n n' : Nat} {v v' : Value} {ks : List ByteArray} (h : w.ownsRow b 9 1 v n (ks.map Value.string)) (h' : w.ownsRow b' 9 1 v' n' (ks.map Value.string)) (hm : ks.length ≤ 2097152) :
    Calls Try.prog 18 #[v, v'] w fun e w' => e = .returned (.bool true) ∧ ∃ q, w' = w.drewN q := by
  obtain ⟨e1, ao, c, rfl, hv⟩ := owns_view h
  obtain ⟨e2, bo, c', rfl, hv'⟩ := owns_view h'
  obtain rfl : n = n' := by omega
  by_cases h0 : n = 0
  · subst h0
    exact (eqs_zero _ _ _ _ w).mono fun e w' ⟨he, hw⟩ => ⟨he, 0, hw⟩
  · obtain ⟨g, rfl, _, _, hc⟩ := hv (by omega)
    obtain ⟨g', rfl, _, _, hc'⟩ := hv' (by omega)
    exact eqs_cells g g' n c c' _ w (by omega) hc hc'
end Go.Proofs.Qxb6608550a
