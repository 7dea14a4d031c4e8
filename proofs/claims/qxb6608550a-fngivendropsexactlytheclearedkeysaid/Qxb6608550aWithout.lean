/-
  THE WALK of zzGivenWithout (17).
-/
import Derived.Test.Qxb6608550aDrop
namespace Go.Proofs.Qxb6608550a
open Go.RowKit
set_option linter.unusedVariables false

set_option maxHeartbeats 1000000 in
theorem without0 (p0 p1 p3 p4 p5 aL aR a7 a8 a9 : Option Addr) (nL cL nR cR n7 c7 n8 c8 n9 c9 : Nat) (b0 b1 b2 b3 b4 b5 b6 : Bool) (w : World)
    (e0 : (!aL.isNone) = b0) (e1 : (!p3.isNone) = b1) (e2 : (!p4.isNone) = b2) (e3 : (!p5.isNone) = b3) (e4 : (!aR.isNone) = b4) (e5 : (!a7.isNone) = b5) (e6 : (!a8.isNone) = b6)
    (hL : nL ≤ 1048576) (hR : nR ≤ 1048576) (sL : Strs w aL nL) (sR : Strs w aR nR) (ks : List ByteArray) (N : Nat) (hks : ks = keys (off (flg b0 b1 b2 b3 b4 b5 b6) 0) 7) (hN : N = ks.length) :
    Calls Try.prog 17 #[.int .i64 0, .pointer p0, .pointer p1, .slice aL nL cL, .pointer p3, .pointer p4, .pointer p5, .slice aR nR cR, .slice a7 n7 c7, .slice a8 n8 c8, .slice a9 n9 c9] w
      fun e w' => ∃ ao c, e = .returned (.slice ao N c) ∧ w'.ownsRow w.heap.size 9 1 (.slice ao N c) N (ks.map Value.string) ∧ Below w.heap.size w w' := by
  have hks' : ks = keys (flg false b1 b2 b3 b4 b5 b6) 7 := by
    rw [hks]; apply keys_congr; intro j hj
    match j, hj with
    | 0, _ => simp [off, flg]
    | 1, _ => simp [off, flg]
    | 2, _ => simp [off, flg]
    | 3, _ => simp [off, flg]
    | 4, _ => simp [off, flg]
    | 5, _ => simp [off, flg]
    | 6, _ => simp [off, flg]
  have H := hide (limit_sl p0 p1 p3 p4 p5 none aR a7 a8 a9 0 0 nR cR n7 c7 n8 c8 n9 c9 false b1 b2 b3 b4 b5 b6 w rfl e1 e2 e3 e4 e5 e6 (by omega) hR (Or.inl ⟨rfl, rfl⟩) sR ks N hks' hN)
  clear e0 e1 e2 e3 e4 e5 e6 hL hR sL sR hks hN hks'
  go_enter Try.func17, Try.ntmps17
  go_wp2_with fail
  refine H.out.mono ?_
  rintro e w1 ⟨ao, c, rfl, ho, hb⟩
  have HO := hide ho
  have HB := hide hb
  clear ho hb H
  go_wp2_with fail
  go_ret
  exact ⟨ao, c, rfl, HO.out, HB.out⟩

set_option maxHeartbeats 1000000 in
theorem without1 (p0 p1 p3 p4 p5 aL aR a7 a8 a9 : Option Addr) (nL cL nR cR n7 c7 n8 c8 n9 c9 : Nat) (b0 b1 b2 b3 b4 b5 b6 : Bool) (w : World)
    (e0 : (!aL.isNone) = b0) (e1 : (!p3.isNone) = b1) (e2 : (!p4.isNone) = b2) (e3 : (!p5.isNone) = b3) (e4 : (!aR.isNone) = b4) (e5 : (!a7.isNone) = b5) (e6 : (!a8.isNone) = b6)
    (hL : nL ≤ 1048576) (hR : nR ≤ 1048576) (sL : Strs w aL nL) (sR : Strs w aR nR) (ks : List ByteArray) (N : Nat) (hks : ks = keys (off (flg b0 b1 b2 b3 b4 b5 b6) 1) 7) (hN : N = ks.length) :
    Calls Try.prog 17 #[.int .i64 1, .pointer p0, .pointer p1, .slice aL nL cL, .pointer p3, .pointer p4, .pointer p5, .slice aR nR cR, .slice a7 n7 c7, .slice a8 n8 c8, .slice a9 n9 c9] w
      fun e w' => ∃ ao c, e = .returned (.slice ao N c) ∧ w'.ownsRow w.heap.size 9 1 (.slice ao N c) N (ks.map Value.string) ∧ Below w.heap.size w w' := by
  have hks' : ks = keys (flg b0 false b2 b3 b4 b5 b6) 7 := by
    rw [hks]; apply keys_congr; intro j hj
    match j, hj with
    | 0, _ => simp [off, flg]
    | 1, _ => simp [off, flg]
    | 2, _ => simp [off, flg]
    | 3, _ => simp [off, flg]
    | 4, _ => simp [off, flg]
    | 5, _ => simp [off, flg]
    | 6, _ => simp [off, flg]
  have H := hide (limit_sl p0 p1 none p4 p5 aL aR a7 a8 a9 nL cL nR cR n7 c7 n8 c8 n9 c9 b0 false b2 b3 b4 b5 b6 w e0 rfl e2 e3 e4 e5 e6 hL hR sL sR ks N hks' hN)
  clear e0 e1 e2 e3 e4 e5 e6 hL hR sL sR hks hN hks'
  go_enter Try.func17, Try.ntmps17
  go_wp2_with fail
  refine H.out.mono ?_
  rintro e w1 ⟨ao, c, rfl, ho, hb⟩
  have HO := hide ho
  have HB := hide hb
  clear ho hb H
  go_wp2_with fail
  go_ret
  exact ⟨ao, c, rfl, HO.out, HB.out⟩

set_option maxHeartbeats 1000000 in
theorem without2 (p0 p1 p3 p4 p5 aL aR a7 a8 a9 : Option Addr) (nL cL nR cR n7 c7 n8 c8 n9 c9 : Nat) (b0 b1 b2 b3 b4 b5 b6 : Bool) (w : World)
    (e0 : (!aL.isNone) = b0) (e1 : (!p3.isNone) = b1) (e2 : (!p4.isNone) = b2) (e3 : (!p5.isNone) = b3) (e4 : (!aR.isNone) = b4) (e5 : (!a7.isNone) = b5) (e6 : (!a8.isNone) = b6)
    (hL : nL ≤ 1048576) (hR : nR ≤ 1048576) (sL : Strs w aL nL) (sR : Strs w aR nR) (ks : List ByteArray) (N : Nat) (hks : ks = keys (off (flg b0 b1 b2 b3 b4 b5 b6) 2) 7) (hN : N = ks.length) :
    Calls Try.prog 17 #[.int .i64 2, .pointer p0, .pointer p1, .slice aL nL cL, .pointer p3, .pointer p4, .pointer p5, .slice aR nR cR, .slice a7 n7 c7, .slice a8 n8 c8, .slice a9 n9 c9] w
      fun e w' => ∃ ao c, e = .returned (.slice ao N c) ∧ w'.ownsRow w.heap.size 9 1 (.slice ao N c) N (ks.map Value.string) ∧ Below w.heap.size w w' := by
  have hks' : ks = keys (flg b0 b1 false b3 b4 b5 b6) 7 := by
    rw [hks]; apply keys_congr; intro j hj
    match j, hj with
    | 0, _ => simp [off, flg]
    | 1, _ => simp [off, flg]
    | 2, _ => simp [off, flg]
    | 3, _ => simp [off, flg]
    | 4, _ => simp [off, flg]
    | 5, _ => simp [off, flg]
    | 6, _ => simp [off, flg]
  have H := hide (limit_sl p0 p1 p3 none p5 aL aR a7 a8 a9 nL cL nR cR n7 c7 n8 c8 n9 c9 b0 b1 false b3 b4 b5 b6 w e0 e1 rfl e3 e4 e5 e6 hL hR sL sR ks N hks' hN)
  clear e0 e1 e2 e3 e4 e5 e6 hL hR sL sR hks hN hks'
  go_enter Try.func17, Try.ntmps17
  go_wp2_with fail
  refine H.out.mono ?_
  rintro e w1 ⟨ao, c, rfl, ho, hb⟩
  have HO := hide ho
  have HB := hide hb
  clear ho hb H
  go_wp2_with fail
  go_ret
  exact ⟨ao, c, rfl, HO.out, HB.out⟩

set_option maxHeartbeats 1000000 in
theorem without3 (p0 p1 p3 p4 p5 aL aR a7 a8 a9 : Option Addr) (nL cL nR cR n7 c7 n8 c8 n9 c9 : Nat) (b0 b1 b2 b3 b4 b5 b6 : Bool) (w : World)
    (e0 : (!aL.isNone) = b0) (e1 : (!p3.isNone) = b1) (e2 : (!p4.isNone) = b2) (e3 : (!p5.isNone) = b3) (e4 : (!aR.isNone) = b4) (e5 : (!a7.isNone) = b5) (e6 : (!a8.isNone) = b6)
    (hL : nL ≤ 1048576) (hR : nR ≤ 1048576) (sL : Strs w aL nL) (sR : Strs w aR nR) (ks : List ByteArray) (N : Nat) (hks : ks = keys (off (flg b0 b1 b2 b3 b4 b5 b6) 3) 7) (hN : N = ks.length) :
    Calls Try.prog 17 #[.int .i64 3, .pointer p0, .pointer p1, .slice aL nL cL, .pointer p3, .pointer p4, .pointer p5, .slice aR nR cR, .slice a7 n7 c7, .slice a8 n8 c8, .slice a9 n9 c9] w
      fun e w' => ∃ ao c, e = .returned (.slice ao N c) ∧ w'.ownsRow w.heap.size 9 1 (.slice ao N c) N (ks.map Value.string) ∧ Below w.heap.size w w' := by
  have hks' : ks = keys (flg b0 b1 b2 false b4 b5 b6) 7 := by
    rw [hks]; apply keys_congr; intro j hj
    match j, hj with
    | 0, _ => simp [off, flg]
    | 1, _ => simp [off, flg]
    | 2, _ => simp [off, flg]
    | 3, _ => simp [off, flg]
    | 4, _ => simp [off, flg]
    | 5, _ => simp [off, flg]
    | 6, _ => simp [off, flg]
  have H := hide (limit_sl p0 p1 p3 p4 none aL aR a7 a8 a9 nL cL nR cR n7 c7 n8 c8 n9 c9 b0 b1 b2 false b4 b5 b6 w e0 e1 e2 rfl e4 e5 e6 hL hR sL sR ks N hks' hN)
  clear e0 e1 e2 e3 e4 e5 e6 hL hR sL sR hks hN hks'
  go_enter Try.func17, Try.ntmps17
  go_wp2_with fail
  refine H.out.mono ?_
  rintro e w1 ⟨ao, c, rfl, ho, hb⟩
  have HO := hide ho
  have HB := hide hb
  clear ho hb H
  go_wp2_with fail
  go_ret
  exact ⟨ao, c, rfl, HO.out, HB.out⟩

set_option maxHeartbeats 1000000 in
theorem without4 (p0 p1 p3 p4 p5 aL aR a7 a8 a9 : Option Addr) (nL cL nR cR n7 c7 n8 c8 n9 c9 : Nat) (b0 b1 b2 b3 b4 b5 b6 : Bool) (w : World)
    (e0 : (!aL.isNone) = b0) (e1 : (!p3.isNone) = b1) (e2 : (!p4.isNone) = b2) (e3 : (!p5.isNone) = b3) (e4 : (!aR.isNone) = b4) (e5 : (!a7.isNone) = b5) (e6 : (!a8.isNone) = b6)
    (hL : nL ≤ 1048576) (hR : nR ≤ 1048576) (sL : Strs w aL nL) (sR : Strs w aR nR) (ks : List ByteArray) (N : Nat) (hks : ks = keys (off (flg b0 b1 b2 b3 b4 b5 b6) 4) 7) (hN : N = ks.length) :
    Calls Try.prog 17 #[.int .i64 4, .pointer p0, .pointer p1, .slice aL nL cL, .pointer p3, .pointer p4, .pointer p5, .slice aR nR cR, .slice a7 n7 c7, .slice a8 n8 c8, .slice a9 n9 c9] w
      fun e w' => ∃ ao c, e = .returned (.slice ao N c) ∧ w'.ownsRow w.heap.size 9 1 (.slice ao N c) N (ks.map Value.string) ∧ Below w.heap.size w w' := by
  have hks' : ks = keys (flg b0 b1 b2 b3 false b5 b6) 7 := by
    rw [hks]; apply keys_congr; intro j hj
    match j, hj with
    | 0, _ => simp [off, flg]
    | 1, _ => simp [off, flg]
    | 2, _ => simp [off, flg]
    | 3, _ => simp [off, flg]
    | 4, _ => simp [off, flg]
    | 5, _ => simp [off, flg]
    | 6, _ => simp [off, flg]
  have H := hide (limit_sl p0 p1 p3 p4 p5 aL none a7 a8 a9 nL cL 0 0 n7 c7 n8 c8 n9 c9 b0 b1 b2 b3 false b5 b6 w e0 e1 e2 e3 rfl e5 e6 hL (by omega) sL (Or.inl ⟨rfl, rfl⟩) ks N hks' hN)
  clear e0 e1 e2 e3 e4 e5 e6 hL hR sL sR hks hN hks'
  go_enter Try.func17, Try.ntmps17
  go_wp2_with fail
  refine H.out.mono ?_
  rintro e w1 ⟨ao, c, rfl, ho, hb⟩
  have HO := hide ho
  have HB := hide hb
  clear ho hb H
  go_wp2_with fail
  go_ret
  exact ⟨ao, c, rfl, HO.out, HB.out⟩

set_option maxHeartbeats 1000000 in
theorem without5 (p0 p1 p3 p4 p5 aL aR a7 a8 a9 : Option Addr) (nL cL nR cR n7 c7 n8 c8 n9 c9 : Nat) (b0 b1 b2 b3 b4 b5 b6 : Bool) (w : World)
    (e0 : (!aL.isNone) = b0) (e1 : (!p3.isNone) = b1) (e2 : (!p4.isNone) = b2) (e3 : (!p5.isNone) = b3) (e4 : (!aR.isNone) = b4) (e5 : (!a7.isNone) = b5) (e6 : (!a8.isNone) = b6)
    (hL : nL ≤ 1048576) (hR : nR ≤ 1048576) (sL : Strs w aL nL) (sR : Strs w aR nR) (ks : List ByteArray) (N : Nat) (hks : ks = keys (off (flg b0 b1 b2 b3 b4 b5 b6) 5) 7) (hN : N = ks.length) :
    Calls Try.prog 17 #[.int .i64 5, .pointer p0, .pointer p1, .slice aL nL cL, .pointer p3, .pointer p4, .pointer p5, .slice aR nR cR, .slice a7 n7 c7, .slice a8 n8 c8, .slice a9 n9 c9] w
      fun e w' => ∃ ao c, e = .returned (.slice ao N c) ∧ w'.ownsRow w.heap.size 9 1 (.slice ao N c) N (ks.map Value.string) ∧ Below w.heap.size w w' := by
  have hks' : ks = keys (flg b0 b1 b2 b3 b4 false b6) 7 := by
    rw [hks]; apply keys_congr; intro j hj
    match j, hj with
    | 0, _ => simp [off, flg]
    | 1, _ => simp [off, flg]
    | 2, _ => simp [off, flg]
    | 3, _ => simp [off, flg]
    | 4, _ => simp [off, flg]
    | 5, _ => simp [off, flg]
    | 6, _ => simp [off, flg]
  have H := hide (limit_sl p0 p1 p3 p4 p5 aL aR none a8 a9 nL cL nR cR 0 0 n8 c8 n9 c9 b0 b1 b2 b3 b4 false b6 w e0 e1 e2 e3 e4 rfl e6 hL hR sL sR ks N hks' hN)
  clear e0 e1 e2 e3 e4 e5 e6 hL hR sL sR hks hN hks'
  go_enter Try.func17, Try.ntmps17
  go_wp2_with fail
  refine H.out.mono ?_
  rintro e w1 ⟨ao, c, rfl, ho, hb⟩
  have HO := hide ho
  have HB := hide hb
  clear ho hb H
  go_wp2_with fail
  go_ret
  exact ⟨ao, c, rfl, HO.out, HB.out⟩

set_option maxHeartbeats 1000000 in
theorem without6 (p0 p1 p3 p4 p5 aL aR a7 a8 a9 : Option Addr) (nL cL nR cR n7 c7 n8 c8 n9 c9 : Nat) (b0 b1 b2 b3 b4 b5 b6 : Bool) (w : World)
    (e0 : (!aL.isNone) = b0) (e1 : (!p3.isNone) = b1) (e2 : (!p4.isNone) = b2) (e3 : (!p5.isNone) = b3) (e4 : (!aR.isNone) = b4) (e5 : (!a7.isNone) = b5) (e6 : (!a8.isNone) = b6)
    (hL : nL ≤ 1048576) (hR : nR ≤ 1048576) (sL : Strs w aL nL) (sR : Strs w aR nR) (ks : List ByteArray) (N : Nat) (hks : ks = keys (off (flg b0 b1 b2 b3 b4 b5 b6) 6) 7) (hN : N = ks.length) :
    Calls Try.prog 17 #[.int .i64 6, .pointer p0, .pointer p1, .slice aL nL cL, .pointer p3, .pointer p4, .pointer p5, .slice aR nR cR, .slice a7 n7 c7, .slice a8 n8 c8, .slice a9 n9 c9] w
      fun e w' => ∃ ao c, e = .returned (.slice ao N c) ∧ w'.ownsRow w.heap.size 9 1 (.slice ao N c) N (ks.map Value.string) ∧ Below w.heap.size w w' := by
  have hks' : ks = keys (flg b0 b1 b2 b3 b4 b5 false) 7 := by
    rw [hks]; apply keys_congr; intro j hj
    match j, hj with
    | 0, _ => simp [off, flg]
    | 1, _ => simp [off, flg]
    | 2, _ => simp [off, flg]
    | 3, _ => simp [off, flg]
    | 4, _ => simp [off, flg]
    | 5, _ => simp [off, flg]
    | 6, _ => simp [off, flg]
  have H := hide (limit_sl p0 p1 p3 p4 p5 aL aR a7 none a9 nL cL nR cR n7 c7 0 0 n9 c9 b0 b1 b2 b3 b4 b5 false w e0 e1 e2 e3 e4 e5 rfl hL hR sL sR ks N hks' hN)
  clear e0 e1 e2 e3 e4 e5 e6 hL hR sL sR hks hN hks'
  go_enter Try.func17, Try.ntmps17
  go_wp2_with fail
  refine H.out.mono ?_
  rintro e w1 ⟨ao, c, rfl, ho, hb⟩
  have HO := hide ho
  have HB := hide hb
  clear ho hb H
  go_wp2_with fail
  go_ret
  exact ⟨ao, c, rfl, HO.out, HB.out⟩

theorem without_any (k : Nat) (hk : k < 7) (p0 p1 p3 p4 p5 aL aR a7 a8 a9 : Option Addr) (nL cL nR cR n7 c7 n8 c8 n9 c9 : Nat) (b0 b1 b2 b3 b4 b5 b6 : Bool) (w : World)
    (e0 : (!aL.isNone) = b0) (e1 : (!p3.isNone) = b1) (e2 : (!p4.isNone) = b2) (e3 : (!p5.isNone) = b3) (e4 : (!aR.isNone) = b4) (e5 : (!a7.isNone) = b5) (e6 : (!a8.isNone) = b6)
    (hL : nL ≤ 1048576) (hR : nR ≤ 1048576) (sL : Strs w aL nL) (sR : Strs w aR nR) (ks : List ByteArray) (N : Nat) (hks : ks = keys (off (flg b0 b1 b2 b3 b4 b5 b6) k) 7) (hN : N = ks.length) :
    Calls Try.prog 17 #[.int .i64 (k : Int), .pointer p0, .pointer p1, .slice aL nL cL, .pointer p3, .pointer p4, .pointer p5, .slice aR nR cR, .slice a7 n7 c7, .slice a8 n8 c8, .slice a9 n9 c9] w
      fun e w' => ∃ ao c, e = .returned (.slice ao N c) ∧ w'.ownsRow w.heap.size 9 1 (.slice ao N c) N (ks.map Value.string) ∧ Below w.heap.size w w' := by
  match k, hk with
  | 0, _ => exact without0 p0 p1 p3 p4 p5 aL aR a7 a8 a9 nL cL nR cR n7 c7 n8 c8 n9 c9 b0 b1 b2 b3 b4 b5 b6 w e0 e1 e2 e3 e4 e5 e6 hL hR sL sR ks N hks hN
  | 1, _ => exact without1 p0 p1 p3 p4 p5 aL aR a7 a8 a9 nL cL nR cR n7 c7 n8 c8 n9 c9 b0 b1 b2 b3 b4 b5 b6 w e0 e1 e2 e3 e4 e5 e6 hL hR sL sR ks N hks hN
  | 2, _ => exact without2 p0 p1 p3 p4 p5 aL aR a7 a8 a9 nL cL nR cR n7 c7 n8 c8 n9 c9 b0 b1 b2 b3 b4 b5 b6 w e0 e1 e2 e3 e4 e5 e6 hL hR sL sR ks N hks hN
  | 3, _ => exact without3 p0 p1 p3 p4 p5 aL aR a7 a8 a9 nL cL nR cR n7 c7 n8 c8 n9 c9 b0 b1 b2 b3 b4 b5 b6 w e0 e1 e2 e3 e4 e5 e6 hL hR sL sR ks N hks hN
  | 4, _ => exact without4 p0 p1 p3 p4 p5 aL aR a7 a8 a9 nL cL nR cR n7 c7 n8 c8 n9 c9 b0 b1 b2 b3 b4 b5 b6 w e0 e1 e2 e3 e4 e5 e6 hL hR sL sR ks N hks hN
  | 5, _ => exact without5 p0 p1 p3 p4 p5 aL aR a7 a8 a9 nL cL nR cR n7 c7 n8 c8 n9 c9 b0 b1 b2 b3 b4 b5 b6 w e0 e1 e2 e3 e4 e5 e6 hL hR sL sR ks N hks hN
  | 6, _ => exact without6 p0 p1 p3 p4 p5 aL aR a7 a8 a9 nL cL nR cR n7 c7 n8 c8 n9 c9 b0 b1 b2 b3 b4 b5 b6 w e0 e1 e2 e3 e4 e5 e6 hL hR sL sR ks N hks hN
end Go.Proofs.Qxb6608550a
