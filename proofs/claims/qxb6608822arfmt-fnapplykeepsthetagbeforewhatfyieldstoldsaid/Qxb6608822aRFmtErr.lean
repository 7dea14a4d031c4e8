/-
  THE CLOSED FACTS on fmt.errorf's stop at this dump, and THE WALK of apply (9) where the value is tagged and empty.
-/
import Derived.Test.Qxb6608822aRFmtRows
import Derived.WalkKit
import Derived.Below
import Derived.Stop.CallBack
import Derived.Stop.IfaceNil
namespace Go.Proofs.Qxb6608822aRFmt
open Go.RowKit
open Go.Extern.Stop Go.Stop Go.Extern

theorem hide {p : Prop} (h : p) : Hid p := h

theorem call13 (args : Array Value) (w : World) : (callFunc 13 args).run Tryf.prog w = ((FmtStop.errorf #[9, 36] #[26] args).run Tryf.prog w).andThen fun v w' => .ok (.value v) w' :=
  run_callFunc_extern Tryf.func13 (by kernel_rfl) (by kernel_rfl) (by kernel_rfl) (by kernel_rfl) args w
theorem guard_ok (name : String) (w : World) : (FmtStop.guard name).run Tryf.prog w = .ok () w := by kernel_rfl
/-- the verb %s without a Tag, one operand -/
theorem fmt0 : FmtStop.printed? ⟨#[37, 115, 32, 119, 105, 116, 104, 111, 117, 116, 32, 97, 32, 84, 97, 103]⟩ 1 = some [(0, 115, false)] := by kernel_rfl
theorem fmt0r (w : World) : (FmtDoors.printed ⟨#[37, 115, 32, 119, 105, 116, 104, 111, 117, 116, 32, 97, 32, 84, 97, 103]⟩ 1).run Tryf.prog w = .ok [(0, 115, false)] w := by kernel_rfl
def shape9 : List UInt8 := [12, 6, 0, 0, 0, 0, 0, 0, 0, 115, 116, 114, 105, 110, 103]
theorem op9 (name : String) (x : ByteArray) (w : World) : (FmtStop.operand name false 115 false (.iface 9 (.string x))).run Tryf.prog w = .ok (shape9, FmtStop.pack x.data.toList) w := by kernel_rfl
theorem op9w (name : String) (x : ByteArray) (w : World) : (FmtStop.operand name true 115 false (.iface 9 (.string x))).run Tryf.prog w = .ok (shape9, FmtStop.pack x.data.toList) w := by kernel_rfl
theorem ptr39 (w : World) : (FmtStop.ptrTo "errors.errorString").run Tryf.prog w = .ok 39 w := by kernel_rfl
theorem elem39 (w : World) : (elemOf 39).run Tryf.prog w = .ok 41 w := by kernel_rfl

attribute [local go_sem] call13 guard_ok fmt0 fmt0r op9 op9w ptr39 elem39

set_option maxHeartbeats 1000000 in
theorem apply_err (F : Interp) (nm : ByteArray) (h s : Int) (ao : Option Addr) (c : Nat) (fv : Value) (w : World) (hF : F.answers w.tape) :
    Calls Tryf.prog 9 #[.agg #[.string nm, .int .i64 h, .bool true, .int .i64 s], .slice ao 0 c, fv] w fun e w' => ∃ p, e = .returned (.tuple #[.slice none 0 0, .iface 39 (.pointer (some p))]) ∧ Below w.heap.size w w' := by
  have hF' : ∀ i name reading k range, w.tape i (.extern (word name reading k) range) = F name reading k := hF
  go_enter Tryf.func9, Tryf.ntmps9
  go_wp2
  go_ret2
  exact ⟨_, rfl, ((((Below.refl _ _).alloc (Nat.le_refl _) _).alloc (by simp) _).alloc (by simp; omega) _).drew⟩

set_option maxHeartbeats 1000000 in
theorem keep_err (F : Interp) (nm : ByteArray) (h s : Int) (ao : Option Addr) (c : Nat) (w : World) (hF : F.answers w.tape) :
    Calls Tryf.prog 6 #[.string nm, .int .i64 h, .bool true, .int .i64 s, .slice ao 0 c] w fun e w' => ∃ p, e = .returned (.tuple #[.slice none 0 0, .iface 39 (.pointer (some p))]) ∧ Below w.heap.size w w' := by
  have H := hide (fun fv => apply_err F nm h s ao c fv w hF)
  go_enter Tryf.func6, Tryf.ntmps6
  go_wp2_with fail
  refine (H.out _).mono ?_
  rintro e w1 ⟨p, rfl, hb⟩
  have HB := hide hb
  clear hb H
  go_wp2_with fail
  go_ret2
  exact ⟨p, rfl, HB.out⟩
set_option maxHeartbeats 1000000 in
theorem drop_err (F : Interp) (nm : ByteArray) (h s : Int) (ao : Option Addr) (c : Nat) (w : World) (hF : F.answers w.tape) :
    Calls Tryf.prog 7 #[.string nm, .int .i64 h, .bool true, .int .i64 s, .slice ao 0 c] w fun e w' => ∃ p, e = .returned (.tuple #[.slice none 0 0, .iface 39 (.pointer (some p))]) ∧ Below w.heap.size w w' := by
  have H := hide (fun fv => apply_err F nm h s ao c fv w hF)
  go_enter Tryf.func7, Tryf.ntmps7
  go_wp2_with fail
  refine (H.out _).mono ?_
  rintro e w1 ⟨p, rfl, hb⟩
  have HB := hide hb
  clear hb H
  go_wp2_with fail
  go_ret2
  exact ⟨p, rfl, HB.out⟩

/-! ### not tagged -/
set_option maxHeartbeats 1000000 in
theorem keep_plain (nm : ByteArray) (h s : Int) (ao : Option Addr) (n c : Nat) (w : World) :
    Calls Tryf.prog 6 #[.string nm, .int .i64 h, .bool false, .int .i64 s, .slice ao n c] w fun e w' => e = .returned (.tuple #[.slice ao n c, .nilIface]) ∧ Below w.heap.size w w' := by
  go_enter Tryf.func6, Tryf.ntmps6
  go_wp2
  go_ret2
  exact ⟨rfl, ((Below.refl _ _).alloc (Nat.le_refl _) _).alloc (by simp) _⟩
set_option maxHeartbeats 1000000 in
theorem drop_plain (nm : ByteArray) (h s : Int) (ao : Option Addr) (n c : Nat) (w : World) :
    Calls Tryf.prog 7 #[.string nm, .int .i64 h, .bool false, .int .i64 s, .slice ao n c] w fun e w' => e = .returned (.tuple #[.slice none 0 0, .nilIface]) ∧ Below w.heap.size w w' := by
  go_enter Tryf.func7, Tryf.ntmps7
  go_wp2
  go_ret2
  exact ⟨rfl, ((Below.refl _ _).alloc (Nat.le_refl _) _).alloc (by simp) _⟩
end Go.Proofs.Qxb6608822aRFmt
