/-
  THE WALKS of the reader's methods: fill (12), cut (11), at (10), byte (9), ZZreaderByte (7), ZZreaderPos (8).
-/
import Derived.Test.Qxb6608621aDoorRows
import Derived.WalkKit
import Derived.Below
import Derived.BigQuiet
import Derived.Deep.QuietTactic
import Derived.LaidEql
import Derived.WalkSpells
namespace Go.Proofs.Qxb6608621aDoor
open Go.RowKit

theorem hide {p : Prop} (h : p) : Hid p := h

/-- an error behind a pointer to errors.errorString -/
def erv (a : Addr) : Value := .iface 43 (.pointer (some a))

/-- a reader over a text held whole, in block g: its buffer, its place -/
structure RD (w : World) (g : Nat) (a : Addr) (ao : Option Addr) (n c : Nat) (pos : Int) : Prop where
  src : w.cell? ⟨g, 0, none⟩ = some .nilIface
  err : w.cell? ⟨g, 1, none⟩ = some (.iface 43 (.pointer (some a)))
  buf : w.cell? ⟨g, 2, none⟩ = some (.slice ao n c)
  pos : w.cell? ⟨g, 3, none⟩ = some (.int .i64 pos)
  free : w.frozen? ⟨g, 3, none⟩ = false

theorem Tryd.info43 : (Tryd.prog.info? 43).map (·.comparable) = some true := by kernel_rfl
theorem Tryd.info63 : (Tryd.prog.info? 63).isSome = true := by kernel_rfl

theorem q_eof (w : World) (a : Addr) : (binOp .eql 28 (.iface 43 (.pointer (some a))) (.iface 43 (.pointer (some a)))).run Tryd.prog w = .ok (.bool true) w := by
  obtain ⟨i, hi⟩ : ∃ i, Tryd.prog.info? 43 = some i := by
    cases h : Tryd.prog.info? 43 with
    | none => have := Tryd.info43; rw [h] at this; cases this
    | some i => exact ⟨i, rfl⟩
  obtain ⟨j, hj⟩ := Option.isSome_iff_exists.1 Tryd.info63
  have hc : i.comparable = true := by have := Tryd.info43; rw [hi] at this; simpa using this
  exact run_eql_iface_ptr_same (P := Tryd.prog) w a Tryd.underlying28 Tryd.underlying43 hi hc hj

set_option maxRecDepth 100000 in
set_option maxHeartbeats 1000000 in
theorem fill_any (g : Nat) (w : World) (h : w.cell? ⟨g, 0, none⟩ = some .nilIface) : Calls Tryd.prog 12 #[.pointer (some ⟨g, 0, none⟩)] w fun e w' => e = .returned (.bool false) ∧ w' = w := by
  go_enter Tryd.func12, Tryd.ntmps12
  go_wp2
  go_ret
  exact ⟨rfl, rfl⟩

set_option maxHeartbeats 1000000 in
theorem cut_any (g : Nat) (a b : Addr) (w : World) (h : w.cell? ⟨g, 1, none⟩ = some (.iface 43 (.pointer (some a)))) (h0 : w.cell? ⟨0, 0, none⟩ = some (.iface 43 (.pointer (some a)))) (h1 : w.cell? ⟨1, 0, none⟩ = some (.iface 43 (.pointer (some b)))) :
    Calls Tryd.prog 11 #[.pointer (some ⟨g, 0, none⟩)] w fun e w' => e = .returned (.iface 43 (.pointer (some b))) ∧ ∃ q, w' = w.drewN q := by
  have q := q_eof
  go_enter Tryd.func11, Tryd.ntmps11
  go_wp2
  go_quiet (fail)
  go_wp2
  go_ret
  exact ⟨rfl, _, rfl⟩

set_option maxHeartbeats 1000000 in
theorem at_in (g : Nat) (a : Addr) (gb ob n c k : Nat) (x : Int) (w : World) (R : RD w g a (some ⟨gb, ob, none⟩) n c (k : Int)) (hk : k < n) (_hn : n ≤ 1048576) (hx : w.cell? ⟨gb, ob + k, none⟩ = some (.int .u8 x)) :
    Calls Tryd.prog 10 #[.pointer (some ⟨g, 0, none⟩)] w fun e w' => e = .returned (.tuple #[.int .u8 x, .bool true, .nilIface]) ∧ ∃ q, w' = w.drewN q := by
  obtain ⟨h0, h1, h2, h3, _⟩ := R
  have hk' : (k : Int) < (n : Int) := by omega
  go_enter Tryd.func10, Tryd.ntmps10
  go_wp2
  go_quiet ((go_at_call 12; exact Calls.quiet_of_same (fill_any _ _ h0)))
  go_wp2
  go_quiet (fail)
  go_wp2
  go_ret3
  exact ⟨rfl, _, World.drewN_drewN _ _ _⟩

set_option maxHeartbeats 1000000 in
theorem at_end (g : Nat) (a : Addr) (ao : Option Addr) (n c : Nat) (w : World) (R : RD w g a ao n c (n : Int)) (_hn : n ≤ 1048576) (hE : w.cell? ⟨0, 0, none⟩ = some (.iface 43 (.pointer (some a)))) :
    Calls Tryd.prog 10 #[.pointer (some ⟨g, 0, none⟩)] w fun e w' => e = .returned (.tuple #[.int .u8 0, .bool false, .nilIface]) ∧ ∃ q, w' = w.drewN q := by
  obtain ⟨h0, h1, h2, h3, _⟩ := R
  have q := q_eof
  have hd : decide ((n : Int) < (n : Int)) = false := by simp
  go_enter Tryd.func10, Tryd.ntmps10
  go_wp2
  go_quiet ((go_at_call 12; exact Calls.quiet_of_same (fill_any _ _ h0)))
  go_wp2
  go_quiet (fail)
  go_wp2
  go_ret3
  exact ⟨rfl, _, World.drewN_drewN _ _ _⟩

/-! ### byte (9), ZZreaderByte (7), ZZreaderPos (8) -/
set_option maxHeartbeats 1000000 in
theorem byte_in (g : Nat) (a : Addr) (gb ob n c k : Nat) (x : Int) (w : World) (R : RD w g a (some ⟨gb, ob, none⟩) n c (k : Int)) (hk : k < n) (hn : n ≤ 1048576) (hx : w.cell? ⟨gb, ob + k, none⟩ = some (.int .u8 x)) :
    Calls Tryd.prog 7 #[.pointer (some ⟨g, 0, none⟩)] w fun e w' => e = .returned (.tuple #[.int .u8 x, .nilIface]) ∧ ∃ q, w' = (w.setCell ⟨g, 3, none⟩ (.int .i64 ((k : Int) + 1))).drewN q := by
  have H := hide (at_in g a gb ob n c k x w R hk hn hx)
  obtain ⟨_, _, _, h3, h4⟩ := R
  clear hx
  go_enter Tryd.func7, Tryd.ntmps7
  go_wp2_with (first | (go_at_call 10; refine H.out.mono ?_; rintro e w' ⟨rfl, q, rfl⟩) | (go_at_call 9; go_in))
  go_ret2
  exact ⟨rfl, _, rfl⟩

set_option maxHeartbeats 1000000 in
theorem byte_end (g : Nat) (a b : Addr) (ao : Option Addr) (n c : Nat) (w : World) (R : RD w g a ao n c (n : Int)) (hn : n ≤ 1048576) (hE : w.cell? ⟨0, 0, none⟩ = some (.iface 43 (.pointer (some a)))) (hU : w.cell? ⟨1, 0, none⟩ = some (.iface 43 (.pointer (some b)))) :
    Calls Tryd.prog 7 #[.pointer (some ⟨g, 0, none⟩)] w fun e w' => e = .returned (.tuple #[.int .u8 0, .iface 43 (.pointer (some b))]) ∧ ∃ q, w' = w.drewN q := by
  have H := hide (at_end g a ao n c w R hn hE)
  have H2 := hide (fun q => cut_any g a b (w.drewN q) (by rw [World.cell?_drewN]; exact R.err) (by rw [World.cell?_drewN]; exact hE) (by rw [World.cell?_drewN]; exact hU))
  clear R hE hU
  go_enter Tryd.func7, Tryd.ntmps7
  go_wp2_with (first | (go_at_call 10; refine H.out.mono ?_; rintro e w' ⟨rfl, q, rfl⟩) | (go_at_call 11; refine (H2.out _).mono ?_; rintro e w' ⟨rfl, q2, rfl⟩) | (go_at_call 9; go_in))
  go_ret2
  exact ⟨rfl, _, rfl⟩

theorem pos_any (g : Nat) (p : Int) (w : World) (h : w.cell? ⟨g, 3, none⟩ = some (.int .i64 p)) : Calls Tryd.prog 8 #[.pointer (some ⟨g, 0, none⟩)] w fun e w' => e = .returned (.int .i64 p) ∧ w' = w := by
  go_enter Tryd.func8, Tryd.ntmps8
  go_wp2
  go_ret
  exact ⟨rfl, rfl⟩
end Go.Proofs.Qxb6608621aDoor
