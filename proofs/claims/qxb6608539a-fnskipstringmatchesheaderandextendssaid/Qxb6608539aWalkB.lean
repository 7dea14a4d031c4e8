/-
  THE WALKS of seat b6608539a, the second text: skipString, zzSkipModel, zzSameBytes.
-/
import Derived.Test.Qxb6608539aWalkA
namespace Go.Proofs.Qxb6608539a
open Go.RowKit
open Go.Lib (uvarintDec)
open Plain (nb nb_le hi val skipAt)

/-- 's[k:]' by one name -/
def cutA (g o c k : Nat) : Option Addr := some (if c = k then ⟨g, o, none⟩ else ⟨g, o + k, none⟩)

theorem run_cut (w : World) (g o n c k : Nat) (h1 : k ≤ n) (_h2 : n ≤ c) :
    (Instr.slice 22 (.slice (some ⟨g, o, none⟩) n c) (some (.int .i64 (k : Int))) none none).run Try.prog w = .ok (.slice (cutA g o c k) (n - k) (c - k)) w := by
  have ht' : Try.prog.underlying 22 = some (.slice (Try.prog.elem 22)) := by simp [Program.elem, Try.underlying22]
  have he : Try.prog.elem 22 = 5 := by simp [Program.elem, Try.underlying22]
  rw [run_slice_l w 22 _ _ _ ht' .i64 _ (by omega) (by omega), he, Try.sizeOf5]
  unfold cutA
  by_cases h0 : c = k
  · simp [Result.andThen, sliced, h0]
  · by_cases h1 : k = 0
    · subst h1; simp [Result.andThen, sliced, Addr.add]
    · simp [Result.andThen, sliced, Addr.add, h0, h1]

theorem uv_any (g o c : Nat) (l : List UInt8) (X : Nat) (V : Int) (hx : uvarintDec l = (X, V)) (w : World) (hc : ∀ j, j < l.length → w.cell? ⟨g, o + j, none⟩ = some (.int .u8 (nb l j))) :
    Calls Try.prog 12 #[.slice (some ⟨g, o, none⟩) l.length c] w fun e w' => e = .returned (.tuple #[.int .u64 X, .int .i64 V]) ∧ w' = w := by
  have h := Try.binary_Uvarint g o l.length c l w rfl (fun j hj => by rw [hc j hj]; simp [nb, List.getD, hj])
  rw [hx] at h; exact h
theorem uv_empty (ao : Option Addr) (c : Nat) (w : World) :
    Calls Try.prog 12 #[.slice ao 0 c] w fun e w' => e = .returned (.tuple #[.int .u64 0, .int .i64 0]) ∧ w' = w := Try.binary_Uvarint_empty ao c w

set_option maxHeartbeats 400000 in
theorem skip_some (g o c k : Nat) (l : List UInt8) (w : World) (hm : l.length ≤ 2097152) (hcap : l.length ≤ c) (hc : ∀ j, j < l.length → w.cell? ⟨g, o + j, none⟩ = some (.int .u8 (nb l j)))
    (h : skipAt l = some k) : Calls Try.prog 10 #[.slice (some ⟨g, o, none⟩) l.length c] w fun e w' => e = .returned (.tuple #[.string ⟨#[]⟩, .slice (cutA g o c k) (l.length - k) (c - k), .bool true]) ∧ ∃ n, w' = w.drewN n := by
  obtain ⟨h1, h2, h3⟩ := Plain.skipAt_some h
  have h4 := Plain.dec_bd l h1
  obtain ⟨X, hX⟩ : ∃ X, X = (uvarintDec l).1 := ⟨_, rfl⟩
  obtain ⟨V, hV⟩ : ∃ V, V = (uvarintDec l).2 := ⟨_, rfl⟩
  have huv := uv_any g o c l X V (by rw [hX, hV]) w hc
  rw [← hV] at h1 h2 h3 h4; rw [← hX] at h2 h3
  have H := hide huv
  clear hX hV h huv hc
  have hX : (X : Int) ≤ (l.length : Int) - V := by omega
  have hk : V + (X : Int) = (k : Int) := by omega
  have HK := hide hk
  have hkl : k ≤ l.length := by omega
  have hsl : ∀ w, (Instr.slice 22 (.slice (some ⟨g, o, none⟩) l.length c) (some (.int .i64 (V + (X : Int)))) none none).run Try.prog w = .ok (.slice (cutA g o c k) (l.length - k) (c - k)) w := fun w => by rw [hk]; exact run_cut w g o l.length c k hkl hcap
  clear h2 h3 hk
  go_enter Try.func10, Try.ntmps10
  go_wp2_with (go_at_call 12; refine H.out.mono ?_; rintro e w' ⟨rfl, rfl⟩)
  go_quiet (fail)
  go_wp2
  go_ret3
  exact ⟨rfl, _, rfl⟩

theorem skipAt_none {l : List UInt8} (h : skipAt l = none) : (uvarintDec l).2 ≤ 0 ∨ (0 < (uvarintDec l).2 ∧ l.length - (uvarintDec l).2.toNat < (uvarintDec l).1) := by
  by_cases h1 : (uvarintDec l).2 ≤ 0
  · exact Or.inl h1
  · by_cases h2 : l.length - (uvarintDec l).2.toNat < (uvarintDec l).1
    · exact Or.inr ⟨by omega, h2⟩
    · unfold skipAt at h; rw [if_neg h1, if_neg h2] at h; cases h

set_option maxHeartbeats 400000 in
theorem skip_none (g o c : Nat) (l : List UInt8) (w : World) (hm : l.length ≤ 2097152) (hc : ∀ j, j < l.length → w.cell? ⟨g, o + j, none⟩ = some (.int .u8 (nb l j)))
    (h : skipAt l = none) : Calls Try.prog 10 #[.slice (some ⟨g, o, none⟩) l.length c] w fun e w' => e = .returned (.tuple #[.string ⟨#[]⟩, .slice none 0 0, .bool false]) ∧ w' = w := by
  have h4 := Plain.dec_bd l
  have hN := skipAt_none h
  have hlt := Go.Lib.uvarintDec_lt l
  obtain ⟨X, hX⟩ : ∃ X, X = (uvarintDec l).1 := ⟨_, rfl⟩
  obtain ⟨V, hV⟩ : ∃ V, V = (uvarintDec l).2 := ⟨_, rfl⟩
  have huv := uv_any g o c l X V (by rw [hX, hV]) w hc
  rw [← hV, ← hX] at hN; rw [← hV] at h4; rw [← hX] at hlt
  have H := hide huv
  clear hX hV h huv hc
  rcases hN with hN | ⟨hN, hN2⟩
  · clear h4
    go_enter Try.func10, Try.ntmps10
    go_wp2_with (go_at_call 12; refine H.out.mono ?_; rintro e w' ⟨rfl, rfl⟩)
    go_ret3
    exact ⟨rfl, rfl⟩
  · have hV := h4 hN
    have hX : (l.length : Int) - V < (X : Int) := by omega
    clear hN2 h4
    go_enter Try.func10, Try.ntmps10
    go_wp2_with (go_at_call 12; refine H.out.mono ?_; rintro e w' ⟨rfl, rfl⟩)
    go_ret3
    exact ⟨rfl, rfl⟩

set_option maxHeartbeats 400000 in
theorem skip_empty (ao : Option Addr) (c : Nat) (w : World) :
    Calls Try.prog 10 #[.slice ao 0 c] w fun e w' => e = .returned (.tuple #[.string ⟨#[]⟩, .slice none 0 0, .bool false]) ∧ w' = w := by
  go_enter Try.func10, Try.ntmps10
  go_wp2_with (go_at_call 12; refine (uv_empty ao c _).mono ?_; rintro e w' ⟨rfl, rfl⟩)
  go_ret3
  exact ⟨rfl, rfl⟩

/-! ### ZZskipString (6) -/
theorem zz_some (g o c k : Nat) (l : List UInt8) (w : World) (hm : l.length ≤ 2097152) (hcap : l.length ≤ c) (hc : ∀ j, j < l.length → w.cell? ⟨g, o + j, none⟩ = some (.int .u8 (nb l j)))
    (h : skipAt l = some k) : Calls Try.prog 6 #[.slice (some ⟨g, o, none⟩) l.length c] w fun e w' => e = .returned (.tuple #[.string ⟨#[]⟩, .slice (cutA g o c k) (l.length - k) (c - k), .bool true]) ∧ ∃ n, w' = w.drewN n := by
  have H := hide (skip_some g o c k l w hm hcap hc h)
  clear hc h
  go_enter Try.func6, Try.ntmps6
  go_wp2_with (go_at_call 10; refine H.out.mono ?_; rintro e w' ⟨rfl, n, rfl⟩)
  go_ret3
  exact ⟨rfl, _, rfl⟩
theorem zz_none (g o c : Nat) (l : List UInt8) (w : World) (hm : l.length ≤ 2097152) (hc : ∀ j, j < l.length → w.cell? ⟨g, o + j, none⟩ = some (.int .u8 (nb l j)))
    (h : skipAt l = none) : Calls Try.prog 6 #[.slice (some ⟨g, o, none⟩) l.length c] w fun e w' => e = .returned (.tuple #[.string ⟨#[]⟩, .slice none 0 0, .bool false]) ∧ w' = w := by
  have H := hide (skip_none g o c l w hm hc h)
  clear hc h
  go_enter Try.func6, Try.ntmps6
  go_wp2_with (go_at_call 10; refine H.out.mono ?_; rintro e w' ⟨rfl, rfl⟩)
  go_ret3
  exact ⟨rfl, rfl⟩
theorem zz_empty (ao : Option Addr) (c : Nat) (w : World) :
    Calls Try.prog 6 #[.slice ao 0 c] w fun e w' => e = .returned (.tuple #[.string ⟨#[]⟩, .slice none 0 0, .bool false]) ∧ w' = w := by
  go_enter Try.func6, Try.ntmps6
  go_wp2_with (go_at_call 10; refine (skip_empty ao c _).mono ?_; rintro e w' ⟨rfl, rfl⟩)
  go_ret3
  exact ⟨rfl, rfl⟩

/-! ### zzSkipModel (7) -/
set_option maxHeartbeats 400000 in
theorem model_some (g o c k : Nat) (l : List UInt8) (w : World) (hm : l.length ≤ 2097152) (hc : ∀ j, j < l.length → w.cell? ⟨g, o + j, none⟩ = some (.int .u8 (nb l j)))
    (h : skipAt l = some k) : Calls Try.prog 7 #[.slice (some ⟨g, o, none⟩) l.length c] w fun e w' => e = .returned (.tuple #[.int .i64 k, .bool true]) ∧ w' = w := by
  obtain ⟨h1, h2, h3⟩ := Plain.skipAt_some h
  have h4 := Plain.dec_bd l h1
  have hh := header_any g o c l w hm hc
  obtain ⟨X, hX⟩ : ∃ X, X = (uvarintDec l).1 := ⟨_, rfl⟩
  obtain ⟨V, hV⟩ : ∃ V, V = (uvarintDec l).2 := ⟨_, rfl⟩
  rw [← hV] at h1 h2 h3 h4; rw [← hX] at h2 h3
  have H : Hid (Calls Try.prog 11 #[.slice (some ⟨g, o, none⟩) l.length c] w fun e w' => e = .returned (.tuple #[.int .u64 X, .int .i64 V, .bool true]) ∧ w' = w) := by
    refine hh.mono ?_
    rintro e w' ⟨⟨_, he⟩ | ⟨hn, _⟩, hw⟩
    · rw [hX, hV]; exact ⟨he, hw⟩
    · rw [← hV] at hn; omega
  clear hX hV h hh hc
  have hX : (X : Int) ≤ (l.length : Int) - V := by omega
  have HK : Hid (V + (X : Int) = (k : Int)) := by show _ = _; omega
  clear h2 h3
  go_enter Try.func7, Try.ntmps7
  go_wp2_with (go_at_call 11; refine H.out.mono ?_; rintro e w' ⟨rfl, rfl⟩)
  go_ret2
  exact ⟨by rw [HK.out]; rfl, rfl⟩

set_option maxHeartbeats 400000 in
theorem model_none (g o c : Nat) (l : List UInt8) (w : World) (hm : l.length ≤ 2097152) (hc : ∀ j, j < l.length → w.cell? ⟨g, o + j, none⟩ = some (.int .u8 (nb l j)))
    (h : skipAt l = none) : Calls Try.prog 7 #[.slice (some ⟨g, o, none⟩) l.length c] w fun e w' => e = .returned (.tuple #[.int .i64 0, .bool false]) ∧ w' = w := by
  have h4 := Plain.dec_bd l
  have hN := skipAt_none h
  have hlt := Go.Lib.uvarintDec_lt l
  have hh := header_any g o c l w hm hc
  obtain ⟨X, hX⟩ : ∃ X, X = (uvarintDec l).1 := ⟨_, rfl⟩
  obtain ⟨V, hV⟩ : ∃ V, V = (uvarintDec l).2 := ⟨_, rfl⟩
  rw [← hV, ← hX] at hN; rw [← hV] at h4; rw [← hX] at hlt
  rcases hN with hN | ⟨hN, hN2⟩
  · have H : Hid (Calls Try.prog 11 #[.slice (some ⟨g, o, none⟩) l.length c] w fun e w' => e = .returned (.tuple #[.int .u64 0, .int .i64 0, .bool false]) ∧ w' = w) := by
      refine hh.mono ?_
      rintro e w' ⟨⟨hn, he⟩ | ⟨hn, he⟩, hw⟩
      · rw [← hV] at hn; omega
      · exact ⟨he, hw⟩
    clear hX hV h hh hc h4
    go_enter Try.func7, Try.ntmps7
    go_wp2_with (go_at_call 11; refine H.out.mono ?_; rintro e w' ⟨rfl, rfl⟩)
    go_ret2
    exact ⟨rfl, rfl⟩
  · have H : Hid (Calls Try.prog 11 #[.slice (some ⟨g, o, none⟩) l.length c] w fun e w' => e = .returned (.tuple #[.int .u64 X, .int .i64 V, .bool true]) ∧ w' = w) := by
      refine hh.mono ?_
      rintro e w' ⟨⟨_, he⟩ | ⟨hn, _⟩, hw⟩
      · rw [hX, hV]; exact ⟨he, hw⟩
      · rw [← hV] at hn; omega
    have hV' := h4 hN
    have hX' : (l.length : Int) - V < (X : Int) := by omega
    clear hX hV h hh hc h4 hN2
    go_enter Try.func7, Try.ntmps7
    go_wp2_with (go_at_call 11; refine H.out.mono ?_; rintro e w' ⟨rfl, rfl⟩)
    go_ret2
    exact ⟨rfl, rfl⟩
theorem model_empty (ao : Option Addr) (c : Nat) (w : World) :
    Calls Try.prog 7 #[.slice ao 0 c] w fun e w' => e = .returned (.tuple #[.int .i64 0, .bool false]) ∧ w' = w := by
  go_enter Try.func7, Try.ntmps7
  go_wp2_with (go_at_call 11; refine (header_empty ao c _).mono ?_; rintro e w' ⟨rfl, rfl⟩)
  go_ret2
  exact ⟨rfl, rfl⟩

/-! ### zzSameBytes (8): of two slices that hold the same -/
set_option maxHeartbeats 400000 in
theorem same_zero (ao bo : Option Addr) (c c' : Nat) (w : World) :
    Calls Try.prog 8 #[.slice ao 0 c, .slice bo 0 c'] w fun e w' => e = .returned (.bool true) ∧ w' = w := by
  go_enter Try.func8, Try.ntmps8
  go_wp2
  refine wp_loop_rounds 1 ?_
  rw [rounds_succ]
  go_wp2
  go_ret
  exact ⟨rfl, rfl⟩
set_option maxHeartbeats 400000 in
theorem same_cells (g o g' o' n c c' : Nat) (z : Nat → Int) (w : World) (hm : n ≤ 2097152) (h1 : ∀ j, j < n → w.cell? ⟨g, o + j, none⟩ = some (.int .u8 (z j))) (h2 : ∀ j, j < n → w.cell? ⟨g', o' + j, none⟩ = some (.int .u8 (z j))) :
    Calls Try.prog 8 #[.slice (some ⟨g, o, none⟩) n c, .slice (some ⟨g', o', none⟩) n c'] w fun e w' => e = .returned (.bool true) ∧ ∃ q, w' = w.drewN q := by
  go_enter Try.func8, Try.ntmps8
  go_wp2
  go_loopw [5] (fun i wr => ∃ k q : Nat, k ≤ n ∧ i = .int .i64 k ∧ wr = w.drewN q) (fun i _ => n - (intOf i).toNat)
  case atStart => exact ⟨0, 0, by omega, rfl, rfl⟩
  case round =>
    obtain ⟨k, q, hk, rfl, rfl⟩ := hrel
    by_cases hlt : k < n
    · have c1 := h1 k hlt
      have c2 := h2 k hlt
      clear h1 h2
      go_wp2
      go_quiet (fail)
      go_wp2
      go_roundw
      case rel => exact ⟨k + 1, _, by omega, by go_num, rfl⟩
      case measure => simp [intOf]; omega
    · go_wp2
      go_ret
      exact ⟨rfl, _, rfl⟩
end Go.Proofs.Qxb6608539a
