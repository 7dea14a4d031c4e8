/-
  THE WALKS of seat b6608539a: the callees' contracts.
-/
import Derived.Test.Qxb6608539aRows
import Derived.Test.Qxb6608539aPlain
import Derived.Test.Qxb6608539aShelf
import Derived.WalkKit
import Derived.Below
import Derived.BigQuiet
import Derived.Deep.QuietTactic
import Derived.Lib.EndianBits
namespace Go.Proofs.Qxb6608539a
open Go.RowKit
open Go.Lib (uvarintDec)
open Plain (nb nb_le hi val skipAt)

theorem mask127 (c : Nat) (h : c ≤ 255) : bits .and .u8 (c : Int) 127 = ((c % 128 : Nat) : Int) := by
  have := bits_mask .u8 8 (by decide) wraps_u8 7 (by decide) (c : Int) (by omega) (by omega)
  simpa using this
theorem orlow (x y : Nat) (hx : x * 128 < 18446744073709551616) (hy : y < 128) : bits .or .u64 ((x : Int) * 128) (y : Int) = ((x * 128 + y : Nat) : Int) := by
  rw [bits_join .u64 64 (by decide) wraps_u64 7 ((x : Int) * 128) (y : Int) (by omega) (by omega) (by omega) (by omega) (by omega) (by omega)]
  omega

theorem all_succ {l : List UInt8} {k : Nat} (h : ∀ j, j < k → 128 ≤ nb l j) (hk : 128 ≤ nb l k) : ∀ j, j < k + 1 → 128 ≤ nb l j := fun j hj => by
  by_cases e : j = k
  · subst e; exact hk
  · exact h j (by omega)

theorem fold_start (l : List UInt8) (k : Nat) (_hk : k ≤ 10) : (∃ q : Nat, q < k ∧ Value.int .i64 ((k : Int) - 1) = .int .i64 q ∧ Value.int .u64 (nb l k : Nat) = .int .u64 (hi l k (k - (q + 1)))) ∨ (Value.int .i64 ((k : Int) - 1) = .int .i64 (-1) ∧ Value.int .u64 (nb l k : Nat) = .int .u64 (hi l k k)) := by
  cases k with
  | zero => exact Or.inr ⟨rfl, rfl⟩
  | succ q => refine Or.inl ⟨q, by omega, ?_, ?_⟩
              · congr 1; omega
              · simp [hi]
theorem fold_lt (l : List UInt8) (k q : Nat) (hq : q < k) (h1 : k ≤ 9) (h2 : k < l.length) (h3 : ∀ j, j < k → 128 ≤ nb l j) (h4 : nb l k < 128) (h5 : k = 9 → nb l k ≤ 1) : hi l k (k - (q + 1)) * 128 < 18446744073709551616 := by
  have := Plain.hi_lt l k (k - (q + 1) + 1) (by omega) h1 h2 h3 h4 h5
  simp only [hi] at this
  omega
theorem fold_step (l : List UInt8) (k q : Nat) (hq : q < k) (hlt : hi l k (k - (q + 1)) * 128 < 18446744073709551616) : (∃ q' : Nat, q' < k ∧ Value.int .i64 ((q : Int) - 1) = .int .i64 q' ∧ Value.int .u64 (bits .or .u64 ((hi l k (k - (q + 1)) : Int) * 128) ((nb l q : Int) % 128)) = .int .u64 (hi l k (k - (q' + 1)))) ∨ (Value.int .i64 ((q : Int) - 1) = .int .i64 (-1) ∧ Value.int .u64 (bits .or .u64 ((hi l k (k - (q + 1)) : Int) * 128) ((nb l q : Int) % 128)) = .int .u64 (hi l k k)) := by
  have e : hi l k (k - q) = hi l k (k - (q + 1)) * 128 + nb l q % 128 := by
    have e1 : k - q = (k - (q + 1)) + 1 := by omega
    have e2 : k - 1 - (k - (q + 1)) = q := by omega
    rw [e1]; simp only [hi, e2]
  have eo : bits .or .u64 ((hi l k (k - (q + 1)) : Int) * 128) ((nb l q : Int) % 128) = ((hi l k (k - q) : Nat) : Int) := by
    rw [e, ← orlow _ (nb l q % 128) hlt (Nat.mod_lt _ (by omega))]; rfl
  rw [eo]
  cases q with
  | zero => exact Or.inr ⟨rfl, rfl⟩
  | succ q => refine Or.inl ⟨q, by omega, ?_, rfl⟩
              congr 1; omega
theorem fold_end (l : List UInt8) (k : Nat) (h : uvarintDec l = (hi l k k, (k : Int) + 1)) : 0 < (uvarintDec l).2 ∧ Ending.returned (.tuple #[.int .u64 (hi l k k), .int .i64 ((k : Int) + 1), .bool true]) = .returned (.tuple #[.int .u64 (uvarintDec l).1, .int .i64 (uvarintDec l).2, .bool true]) := by
  rw [h]; exact ⟨by show (0 : Int) < (k : Int) + 1; omega, rfl⟩

set_option maxHeartbeats 1000000 in
theorem header_any (g o c : Nat) (l : List UInt8) (w : World) (hm : l.length ≤ 2097152) (hc : ∀ j, j < l.length → w.cell? ⟨g, o + j, none⟩ = some (.int .u8 (nb l j))) :
    Calls Try.prog 11 #[.slice (some ⟨g, o, none⟩) l.length c] w fun e w' => ((0 < (uvarintDec l).2 ∧ e = .returned (.tuple #[.int .u64 (uvarintDec l).1, .int .i64 (uvarintDec l).2, .bool true])) ∨ ((uvarintDec l).2 ≤ 0 ∧ e = .returned (.tuple #[.int .u64 0, .int .i64 0, .bool false]))) ∧ w' = w := by
  go_enter Try.func11, Try.ntmps11
  go_wp2
  go_loop [5] (fun t => ∃ k : Nat, k ≤ l.length ∧ k ≤ 10 ∧ t = .int .i64 k ∧ Hid (∀ j, j < k → 128 ≤ nb l j)) (fun t => l.length - (intOf t).toNat)
  case atStart => exact ⟨0, by omega, by omega, rfl, fun j hj => by omega⟩
  case round =>
    obtain ⟨k, hk, hk10, rfl, HA⟩ := hrel
    by_cases h1 : k < l.length
    · have hck := hc k h1
      have e1 : ((k : Int) == (l.length : Int)) = false := by simp; omega
      have hb : (nb l k : Int) ≤ 255 := by have := nb_le l k; omega
      by_cases h2 : k < 10
      · have e2 : ((k : Int) == 10) = false := by simp; omega
        by_cases h3 : (128 : Int) ≤ (nb l k : Int)
        · go_wp2
          go_round
          case rel => exact ⟨k + 1, by omega, by omega, by go_num, all_succ HA.out (by omega)⟩
          case measure => simp [intOf]; omega
        · have hn : nb l k < 128 := by omega
          by_cases h59 : k = 9 ∧ (1 : Int) < (nb l k : Int)
          · obtain ⟨rfl, h4⟩ := h59
            go_wp2
            go_ret3
            exact ⟨Or.inr ⟨Plain.dec_over l h1 HA.out (by omega) (by omega), rfl⟩, rfl⟩
          · have H5 : Hid (k = 9 → nb l k ≤ 1) := fun e => by omega
            clear h59
            by_cases h9 : k = 9
            · have hc9 : w.cell? ⟨g, o + 9, none⟩ = some (.int .u8 (nb l k)) := by rw [← h9]; exact hck
              have e9 : ((k : Int) == 9) = true := by simp; omega
              have h4 : ¬ (1 : Int) < (nb l k : Int) := by have := H5.out h9; omega
              have h9' : (9 : Int) < (l.length : Int) := by omega
              have H9 : Hid (k = 9) := h9
              clear h9
              go_wp2
              go_loop [6, 7] (fun x i => (∃ q : Nat, q < k ∧ i = .int .i64 q ∧ x = .int .u64 (hi l k (k - (q + 1)))) ∨ (i = .int .i64 (-1) ∧ x = .int .u64 (hi l k k))) (fun _ i => (intOf i + 1).toNat)
              case atStart => exact fold_start l k (by omega)
              case round =>
                rcases hrel with ⟨q, hq, rfl, rfl⟩ | ⟨rfl, rfl⟩
                · have hcq := hc q (by omega)
                  have hmk := mask127 (nb l q) (nb_le l q)
                  have hlt := Plain.hi_lt l k (k - (q + 1)) (by omega) (by omega) h1 HA.out hn H5.out
                  have hlt2 := fold_lt l k q hq (by omega) h1 HA.out hn H5.out
                  go_wp2
                  go_round
                  case rel => exact fold_step l k q hq hlt2
                  case measure => simp [intOf]
                · go_wp2
                  go_ret3
                  exact ⟨Or.inl (fold_end l k (Plain.dec_ok l k (by omega) h1 HA.out hn H5.out)), rfl⟩
            · have e9 : ((k : Int) == 9) = false := by simp; omega
              go_wp2
              go_loop [6, 7] (fun x i => (∃ q : Nat, q < k ∧ i = .int .i64 q ∧ x = .int .u64 (hi l k (k - (q + 1)))) ∨ (i = .int .i64 (-1) ∧ x = .int .u64 (hi l k k))) (fun _ i => (intOf i + 1).toNat)
              case atStart => exact fold_start l k (by omega)
              case round =>
                rcases hrel with ⟨q, hq, rfl, rfl⟩ | ⟨rfl, rfl⟩
                · have hcq := hc q (by omega)
                  have hmk := mask127 (nb l q) (nb_le l q)
                  have hlt := Plain.hi_lt l k (k - (q + 1)) (by omega) (by omega) h1 HA.out hn H5.out
                  have hlt2 := fold_lt l k q hq (by omega) h1 HA.out hn H5.out
                  go_wp2
                  go_round
                  case rel => exact fold_step l k q hq hlt2
                  case measure => simp [intOf]
                · go_wp2
                  go_ret3
                  exact ⟨Or.inl (fold_end l k (Plain.dec_ok l k (by omega) h1 HA.out hn H5.out)), rfl⟩
      · have e2 : ((k : Int) == 10) = true := by simp; omega
        go_wp2
        go_ret3
        exact ⟨Or.inr ⟨Plain.dec_short l k hk10 (by omega) HA.out, rfl⟩, rfl⟩
    · have e1 : ((k : Int) == (l.length : Int)) = true := by simp; omega
      go_wp2
      go_ret3
      exact ⟨Or.inr ⟨Plain.dec_short l k hk10 (by omega) HA.out, rfl⟩, rfl⟩
set_option maxHeartbeats 400000 in
theorem header_empty (ao : Option Addr) (c : Nat) (w : World) :
    Calls Try.prog 11 #[.slice ao 0 c] w fun e w' => e = .returned (.tuple #[.int .u64 0, .int .i64 0, .bool false]) ∧ w' = w := by
  go_enter Try.func11, Try.ntmps11
  go_wp2
  refine wp_loop_rounds 1 ?_
  rw [rounds_succ]
  go_wp2
  go_ret3
  exact ⟨rfl, rfl⟩

theorem hide {p : Prop} (h : p) : Hid p := h
end Go.Proofs.Qxb6608539a
