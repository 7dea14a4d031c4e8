/-
  THE WALK of FnGivenDropsExactlyTheClearedKey (4).
-/
import Derived.Test.Qxb6608550aWithout
import Derived.Test.Qxb6608550aBytes11
namespace Go.Proofs.Qxb6608550a
open Go.RowKit

/-- one more key counted -/
theorem cnt_step {f : Nat → Bool} {k : Nat} (h : f k = true) : Value.int .i64 ((cnt f k : Int) + 1) = .int .i64 (cnt f (k + 1) : Nat) := by rw [cnt_yes h]; rfl
theorem cnt_stay {f : Nat → Bool} {k : Nat} (h : f k = false) : Value.int .i64 (cnt f k : Nat) = .int .i64 (cnt f (k + 1) : Nat) := by rw [cnt_no h]
theorem rem_own {w wr : World} {v : Value} {xs : List ByteArray} (R : Rem w wr v xs) : wr.ownsRow w.heap.size 9 1 v xs.length (xs.map Value.string) := R.own

set_option maxRecDepth 100000 in
set_option maxHeartbeats 4000000 in
theorem drop_walk (p0 p1 p3 p4 p5 aL aR a7 a8 a9 : Option Addr) (nL cL nR cR n7 c7 n8 c8 n9 c9 : Nat) (vL vR v7 v8 v9 : List Value) (w : World)
    (h0 : PStr w p0) (h1 : PStr w p1) (h3 : PBool w p3) (h4 : PStr w p4) (h5 : PStr w p5) (sL : CellsAt w aL nL vL) (sR : CellsAt w aR nR vR) (s7 : CellsAt w a7 n7 v7) (s8 : CellsAt w a8 n8 v8) (s9 : CellsAt w a9 n9 v9)
    (tL : AllStr vL) (tR : AllStr vR) (zL : aL = none → nL = 0) (zR : aR = none → nR = 0)
    (mL : nL ≤ 9223372036854775807) (mR : nR ≤ 9223372036854775807) (m7 : n7 ≤ 9223372036854775807) (m8 : n8 ≤ 9223372036854775807) (m9 : n9 ≤ 9223372036854775807) :
    Calls Try.prog 4 #[.pointer p0, .pointer p1, .slice aL nL cL, .pointer p3, .pointer p4, .pointer p5, .slice aR nR cR, .slice a7 n7 c7, .slice a8 n8 c8, .slice a9 n9 c9] w fun e w' => e = .returned (.bool true) ∧ Below w.heap.size w w' := by
  have HB := hide (bytes11 p0 p1 p3 p4 p5 aL aR a7 a8 a9 nL cL nR cR n7 c7 n8 c8 n9 c9 w h0 h1 h4 h5 (sL.strsIn tL zL) (sR.strsIn tR zR) mL mR m7 m8 m9)
  have HG := hide (big_any p0 p1 p4 p5 aL aR a7 a8 a9 nL cL nR cR n7 c7 n8 c8 n9 c9 w h0 h1 h4 h5 (sL.strsIn tL zL) (sR.strsIn tR zR) mL mR m7 m8 m9)
  have P0 := hide h0
  have P1 := hide h1
  have P3 := hide h3
  have P4 := hide h4
  have P5 := hide h5
  have CL := hide sL
  have CR := hide sR
  have C7 := hide s7
  have C8 := hide s8
  have C9 := hide s9
  have TL := hide tL
  have TR := hide tR
  have ZL := hide zL
  have ZR := hide zR
  have q25 := fun w a n c n' c' => run_neq_slice_nil_any (P := Try.prog) w 25 9 a n c n' c' Try.underlying25
  have q27 := fun w a n c n' c' => run_neq_slice_nil_any (P := Try.prog) w 27 5 a n c n' c' Try.underlying27
  clear h0 h1 h3 h4 h5 sL sR s7 s8 s9 tL tR zL zR
  go_enter Try.func4, Try.ntmps4
  go_wp2_with fail
  refine HB.out.mono ?_
  rintro e w1 ⟨b, rfl, rfl, hok⟩
  cases b
  · go_wp2_with fail
    go_ret
    exact ⟨rfl, Below.refl _ _⟩
  have OK := hide (hok rfl)
  clear hok
  go_wp2_with fail
  refine HG.out.mono ?_
  rintro e w1 ⟨b, rfl, rfl, _⟩
  cases b
  rotate_left
  · go_wp2_with fail
    go_ret
    exact ⟨rfl, Below.refl _ _⟩
  obtain ⟨w, rfl⟩ : ∃ x, x = w1 := ⟨_, rfl⟩
  have Bw := hide (Below.refl w.heap.size w)
  clear HB HG
  go_upto_if 60 with fail
  go_cut [0] (fun z wc => Below w.heap.size w wc ∧ ∃ p, z = .pointer p ∧ (!p.isNone) = (!p0.isNone))
  case first => as_aux_lemma =>
    cases p0 with
    | none =>
      go_wp2
      go_meet
      case rel => exact ⟨Below.refl _ _, none, rfl, rfl⟩
    | some a =>
      obtain ⟨s, hc, hs⟩ := (P0.out.below Bw.out) a rfl
      go_wp2
      go_meet
      case rel => exact ⟨(Below.refl _ _).alloc (Nat.le_refl _) _, _, rfl, rfl⟩
  obtain ⟨hb, p0', rfl, hp0⟩ := hcut
  obtain ⟨wa, rfl⟩ : ∃ x, x = wc := ⟨_, rfl⟩
  have Bwa := hide (Bw.out.trans (hb.mono Bw.out.size))
  have Dwa := hide hb
  have Ep0 := hide hp0
  clear hb hp0
  go_upto_if 65 with fail
  go_cut [1] (fun z wc => Below wa.heap.size wa wc ∧ ∃ p, z = .pointer p ∧ (!p.isNone) = (!p1.isNone))
  case first => as_aux_lemma =>
    cases p1 with
    | none =>
      go_wp2
      go_meet
      case rel => exact ⟨Below.refl _ _, none, rfl, rfl⟩
    | some a =>
      obtain ⟨s, hc, hs⟩ := (P1.out.below Bwa.out) a rfl
      go_wp2
      go_meet
      case rel => exact ⟨(Below.refl _ _).alloc (Nat.le_refl _) _, _, rfl, rfl⟩
  obtain ⟨hb, p1', rfl, hp1⟩ := hcut
  obtain ⟨wb, rfl⟩ : ∃ x, x = wc := ⟨_, rfl⟩
  have Bwb := hide (Bwa.out.trans (hb.mono Bwa.out.size))
  have Dwb := hide hb
  have Ep1 := hide hp1
  clear hb hp1
  go_upto_if 70 with fail
  go_cut [2] (fun z wc => Below wb.heap.size wb wc ∧ ∃ a n c, z = .slice a n c ∧ (!a.isNone) = (!aL.isNone) ∧ n ≤ 1048576 ∧ Strs wc a n)
  case first => as_aux_lemma =>
    cases aL with
    | none =>
      have hz := hide (ZL.out rfl)
      clear ZL
      go_wp2
      go_meet
      case rel => exact ⟨Below.refl _ _, none, nL, cL, rfl, rfl, by rw [hz.out]; omega, Or.inl ⟨rfl, hz.out⟩⟩
    | some a =>
      obtain ⟨W1, W2, hmk, hcp, hst, hbl⟩ := clone_strs wb a nL cL _ (CL.out.below Bwb.out) TL.out OK.out.1
      have HS := hide hst
      have HL := hide hbl
      clear hst hbl
      go_wp2
      go_meet
      case rel => exact ⟨HL.out, _, _, _, rfl, rfl, OK.out.1, HS.out⟩
  obtain ⟨hb, aL', nL', cL', rfl, haL, hnL, hsL⟩ := hcut
  obtain ⟨wd, rfl⟩ : ∃ x, x = wc := ⟨_, rfl⟩
  have Bwd := hide (Bwb.out.trans (hb.mono Bwb.out.size))
  have Dwd := hide hb
  have EaL := hide haL
  have NL := hide hnL
  have SL := hide hsL
  clear hb haL hnL hsL
  go_upto_if 79 with fail
  go_cut [3] (fun z wc => Below wd.heap.size wd wc ∧ ∃ p, z = .pointer p ∧ (!p.isNone) = (!p3.isNone))
  case first => as_aux_lemma =>
    cases p3 with
    | none =>
      go_wp2
      go_meet
      case rel => exact ⟨Below.refl _ _, none, rfl, rfl⟩
    | some a =>
      obtain ⟨s, hc⟩ := (P3.out.below Bwd.out) a rfl
      go_wp2
      go_meet
      case rel => exact ⟨(Below.refl _ _).alloc (Nat.le_refl _) _, _, rfl, rfl⟩
  obtain ⟨hb, p3', rfl, hp3⟩ := hcut
  obtain ⟨we, rfl⟩ : ∃ x, x = wc := ⟨_, rfl⟩
  have Bwe := hide (Bwd.out.trans (hb.mono Bwd.out.size))
  have Dwe := hide hb
  have Ep3 := hide hp3
  clear hb hp3
  go_upto_if 84 with fail
  go_cut [4] (fun z wc => Below we.heap.size we wc ∧ ∃ p, z = .pointer p ∧ (!p.isNone) = (!p4.isNone))
  case first => as_aux_lemma =>
    cases p4 with
    | none =>
      go_wp2
      go_meet
      case rel => exact ⟨Below.refl _ _, none, rfl, rfl⟩
    | some a =>
      obtain ⟨s, hc, hs⟩ := (P4.out.below Bwe.out) a rfl
      go_wp2
      go_meet
      case rel => exact ⟨(Below.refl _ _).alloc (Nat.le_refl _) _, _, rfl, rfl⟩
  obtain ⟨hb, p4', rfl, hp4⟩ := hcut
  obtain ⟨wf, rfl⟩ : ∃ x, x = wc := ⟨_, rfl⟩
  have Bwf := hide (Bwe.out.trans (hb.mono Bwe.out.size))
  have Dwf := hide hb
  have Ep4 := hide hp4
  clear hb hp4
  go_upto_if 89 with fail
  go_cut [5] (fun z wc => Below wf.heap.size wf wc ∧ ∃ p, z = .pointer p ∧ (!p.isNone) = (!p5.isNone))
  case first => as_aux_lemma =>
    cases p5 with
    | none =>
      go_wp2
      go_meet
      case rel => exact ⟨Below.refl _ _, none, rfl, rfl⟩
    | some a =>
      obtain ⟨s, hc, hs⟩ := (P5.out.below Bwf.out) a rfl
      go_wp2
      go_meet
      case rel => exact ⟨(Below.refl _ _).alloc (Nat.le_refl _) _, _, rfl, rfl⟩
  obtain ⟨hb, p5', rfl, hp5⟩ := hcut
  obtain ⟨wg, rfl⟩ : ∃ x, x = wc := ⟨_, rfl⟩
  have Bwg := hide (Bwf.out.trans (hb.mono Bwf.out.size))
  have Dwg := hide hb
  have Ep5 := hide hp5
  clear hb hp5
  go_upto_if 94 with fail
  go_cut [6] (fun z wc => Below wg.heap.size wg wc ∧ ∃ a n c, z = .slice a n c ∧ (!a.isNone) = (!aR.isNone) ∧ n ≤ 1048576 ∧ Strs wc a n)
  case first => as_aux_lemma =>
    cases aR with
    | none =>
      have hz := hide (ZR.out rfl)
      clear ZR
      go_wp2
      go_meet
      case rel => exact ⟨Below.refl _ _, none, nR, cR, rfl, rfl, by rw [hz.out]; omega, Or.inl ⟨rfl, hz.out⟩⟩
    | some a =>
      obtain ⟨W1, W2, hmk, hcp, hst, hbl⟩ := clone_strs wg a nR cR _ (CR.out.below Bwg.out) TR.out OK.out.2.1
      have HS := hide hst
      have HL := hide hbl
      clear hst hbl
      go_wp2
      go_meet
      case rel => exact ⟨HL.out, _, _, _, rfl, rfl, OK.out.2.1, HS.out⟩
  obtain ⟨hb, aR', nR', cR', rfl, haR, hnR, hsR⟩ := hcut
  obtain ⟨wh, rfl⟩ : ∃ x, x = wc := ⟨_, rfl⟩
  have Bwh := hide (Bwg.out.trans (hb.mono Bwg.out.size))
  have Dwh := hide hb
  have EaR := hide haR
  have NR := hide hnR
  have SR := hide hsR
  clear hb haR hnR hsR
  go_upto_if 103 with fail
  go_cut [7] (fun z wc => Below wh.heap.size wh wc ∧ ∃ a n c, z = .slice a n c ∧ (!a.isNone) = (!a7.isNone))
  case first => as_aux_lemma =>
    cases a7 with
    | none =>
      go_wp2
      go_meet
      case rel => exact ⟨Below.refl _ _, none, n7, c7, rfl, rfl⟩
    | some a =>
      obtain ⟨W1, W2, hmk, hcp, hbl⟩ := clone_bts wh a n7 c7 _ (C7.out.below Bwh.out) OK.out.2.2.1
      have HL := hide hbl
      clear hbl
      go_wp2
      go_meet
      case rel => exact ⟨HL.out, _, _, _, rfl, rfl⟩
  obtain ⟨hb, a7', n7', c7', rfl, ha7⟩ := hcut
  obtain ⟨wi, rfl⟩ : ∃ x, x = wc := ⟨_, rfl⟩
  have Bwi := hide (Bwh.out.trans (hb.mono Bwh.out.size))
  have Dwi := hide hb
  have Ea7 := hide ha7
  clear hb ha7
  go_upto_if 112 with fail
  go_cut [8] (fun z wc => Below wi.heap.size wi wc ∧ ∃ a n c, z = .slice a n c ∧ (!a.isNone) = (!a8.isNone))
  case first => as_aux_lemma =>
    cases a8 with
    | none =>
      go_wp2
      go_meet
      case rel => exact ⟨Below.refl _ _, none, n8, c8, rfl, rfl⟩
    | some a =>
      obtain ⟨W1, W2, hmk, hcp, hbl⟩ := clone_bts wi a n8 c8 _ (C8.out.below Bwi.out) OK.out.2.2.2.1
      have HL := hide hbl
      clear hbl
      go_wp2
      go_meet
      case rel => exact ⟨HL.out, _, _, _, rfl, rfl⟩
  obtain ⟨hb, a8', n8', c8', rfl, ha8⟩ := hcut
  obtain ⟨wj, rfl⟩ : ∃ x, x = wc := ⟨_, rfl⟩
  have Bwj := hide (Bwi.out.trans (hb.mono Bwi.out.size))
  have Dwj := hide hb
  have Ea8 := hide ha8
  clear hb ha8
  go_upto_if 121 with fail
  go_cut [9] (fun z wc => Below wj.heap.size wj wc ∧ ∃ a n c, z = .slice a n c ∧ (!a.isNone) = (!a9.isNone))
  case first => as_aux_lemma =>
    cases a9 with
    | none =>
      go_wp2
      go_meet
      case rel => exact ⟨Below.refl _ _, none, n9, c9, rfl, rfl⟩
    | some a =>
      obtain ⟨W1, W2, hmk, hcp, hbl⟩ := clone_bts wj a n9 c9 _ (C9.out.below Bwj.out) OK.out.2.2.2.2
      have HL := hide hbl
      clear hbl
      go_wp2
      go_meet
      case rel => exact ⟨HL.out, _, _, _, rfl, rfl⟩
  obtain ⟨hb, a9', n9', c9', rfl, ha9⟩ := hcut
  obtain ⟨wk, rfl⟩ : ∃ x, x = wc := ⟨_, rfl⟩
  have Bwk := hide (Bwj.out.trans (hb.mono Bwj.out.size))
  have Dwk := hide hb
  have Ea9 := hide ha9
  clear hb ha9
  have SLk := hide (((((((SL.out.below Dwe.out).below Dwf.out).below Dwg.out).below Dwh.out).below Dwi.out).below Dwj.out).below Dwk.out)
  have SRk := hide (((SR.out.below Dwi.out).below Dwj.out).below Dwk.out)
  clear P0 P1 P3 P4 P5 CL CR C7 C8 C9 TL TR ZL ZR OK Bw Bwa Bwb Bwd Bwe Bwf Bwg Bwh Bwi Bwj Dwa Dwb Dwd Dwe Dwf Dwg Dwh Dwi Dwj Dwk SL SR
  obtain ⟨b0, hb0⟩ : ∃ b, b = (!aL.isNone) := ⟨_, rfl⟩
  obtain ⟨b1, hb1⟩ : ∃ b, b = (!p3.isNone) := ⟨_, rfl⟩
  obtain ⟨b2, hb2⟩ : ∃ b, b = (!p4.isNone) := ⟨_, rfl⟩
  obtain ⟨b3, hb3⟩ : ∃ b, b = (!p5.isNone) := ⟨_, rfl⟩
  obtain ⟨b4, hb4⟩ : ∃ b, b = (!aR.isNone) := ⟨_, rfl⟩
  obtain ⟨b5, hb5⟩ : ∃ b, b = (!a7.isNone) := ⟨_, rfl⟩
  obtain ⟨b6, hb6⟩ : ∃ b, b = (!a8.isNone) := ⟨_, rfl⟩
  have e0 : (!aL'.isNone) = b0 := EaL.out.trans hb0.symm
  have e1 : (!p3'.isNone) = b1 := Ep3.out.trans hb1.symm
  have e2 : (!p4'.isNone) = b2 := Ep4.out.trans hb2.symm
  have e3 : (!p5'.isNone) = b3 := Ep5.out.trans hb3.symm
  have e4 : (!aR'.isNone) = b4 := EaR.out.trans hb4.symm
  have e5 : (!a7'.isNone) = b5 := Ea7.out.trans hb5.symm
  have e6 : (!a8'.isNone) = b6 := Ea8.out.trans hb6.symm
  clear hb0 hb1 hb2 hb3 hb4 hb5 hb6 EaL Ep3 Ep4 Ep5 EaR Ea7 Ea8 Ep0 Ep1 Ea9
  obtain ⟨ks, hks⟩ : ∃ ks, ks = keys (flg b0 b1 b2 b3 b4 b5 b6) 7 := ⟨_, rfl⟩
  obtain ⟨N, hN⟩ : ∃ N, N = ks.length := ⟨_, rfl⟩
  have H1 := hide (limit_sl p0' p1' p3' p4' p5' aL' aR' a7' a8' a9' nL' cL' nR' cR' n7' c7' n8' c8' n9' c9' b0 b1 b2 b3 b4 b5 b6 wk e0 e1 e2 e3 e4 e5 e6 NL.out NR.out SLk.out SRk.out ks N hks hN)
  have H15 := hide (fun (k : Nat) (w2 : World) (hk : k < 7) => present_any k aL' aR' a7' a8' p3' p4' p5' nL' cL' nR' cR' n7' c7' n8' c8' b0 b1 b2 b3 b4 b5 b6 w2 hk e0 e1 e2 e3 e4 e5 e6)
  have H17 := hide (fun (k : Nat) (w2 : World) (hk : k < 7) (h : Below wk.heap.size wk w2) (M : Nat) (hM : M = (keys (off (flg b0 b1 b2 b3 b4 b5 b6) k) 7).length) => without_any k hk p0' p1' p3' p4' p5' aL' aR' a7' a8' a9' nL' cL' nR' cR' n7' c7' n8' c8' n9' c9' b0 b1 b2 b3 b4 b5 b6 w2 e0 e1 e2 e3 e4 e5 e6 NL.out NR.out (SLk.out.below h) (SRk.out.below h) _ M rfl hM)
  have hN7 : N ≤ 7 := by rw [hN, hks, len_keys]; exact cnt_le _ _
  have HNC := hide (show N = cnt (flg b0 b1 b2 b3 b4 b5 b6) 7 by rw [hN, hks, len_keys])
  obtain ⟨F, hF⟩ : ∃ F, F = (flg b0 b1 b2 b3 b4 b5 b6) := ⟨_, rfl⟩
  rw [← hF] at H15 H17 HNC
  have HK := hide (show ks = keys F 7 by rw [hF]; exact hks)
  have HN := hide hN
  clear NL NR SLk SRk hks hN hF e0 e1 e2 e3 e4 e5 e6 q25 q27
  go_wp2_with fail
  refine H1.out.mono ?_
  rintro e wl ⟨ao, c, rfl, ho, hb⟩
  have HF := hide (full_of ho HK.out HN.out)
  have HB := hide hb
  have HW := hide (Bwk.out.trans (hb.mono Bwk.out.size))
  clear ho hb H1 HK HN Bwk
  go_wp2_with fail
  go_loopw [32, 33] (fun n i wr => ∃ k : Nat, k ≤ 7 ∧ i = .int .i64 k ∧ n = .int .i64 (cnt F k : Nat) ∧ Below wl.heap.size wl wr) (fun _ i _ => 7 - (intOf i).toNat)
  case atStart => exact ⟨0, by omega, rfl, rfl, Below.refl _ _⟩
  obtain ⟨k, hk, rfl, rfl, hbr⟩ := hrel
  have HBR := hide hbr
  clear hbr
  by_cases hlt : k < 7
  · have HX := hide (HB.out.trans (HBR.out.mono HB.out.size))
    have hcl := cnt_le F k
    have H14 := hide (fun w => name_any k w hlt)
    have H15k := hide (fun w => H15.out k w hlt)
    have H16 := hide (contains_any k ao N c F wr hlt (HF.out.below HBR.out))
    have H17k := hide (H17.out k wr hlt HX.out _ rfl)
    have H19 := hide (fun (w2 : World) (h : Below wr.heap.size wr w2) => remove_any k ao N c F w2 hlt ((HF.out.below HBR.out).below h))
    obtain ⟨S, hS⟩ : ∃ S, S = nm k := ⟨_, rfl⟩
    rw [← hS] at H14 H16 H19
    obtain ⟨M, hM⟩ : ∃ M, M = (keys (off F k) 7).length := ⟨_, rfl⟩
    have HM := hide (show M ≤ 7 by rw [hM, len_keys]; exact cnt_le _ _)
    rw [← hM] at H17k
    have HY := hide (fun h => cnt_step (f := F) (k := k) h)
    have HZ := hide (fun h => cnt_stay (f := F) (k := k) h)
    obtain ⟨fk, hfk⟩ : ∃ b, b = F k := ⟨_, rfl⟩
    have HFK := hide hfk
    rw [← hfk] at H15k H16
    clear hS hM H15 H17 HX hfk
    go_wp2_with fail
    refine (H14.out _).mono ?_
    rintro e w1 ⟨rfl, rfl⟩
    go_wp2_with fail
    refine (H15k.out _).mono ?_
    rintro e w1 ⟨rfl, rfl⟩
    go_wp2_with fail
    refine H16.out.mono ?_
    rintro e w1 ⟨rfl, rfl⟩
    cases fk
    all_goals
      go_wp2_with fail
      refine H17k.out.mono ?_
      rintro e w2 ⟨bo, c2, rfl, ho2, hb2⟩
      have HO2 := hide ho2
      have HB2 := hide hb2
      clear ho2 hb2
      go_wp2_with fail
      refine (H19.out w2 HB2.out).mono ?_
      rintro e w3 ⟨v, rfl, R⟩
      have HR := hide R
      clear R
      go_wp2_with fail
      refine (eqs_own (owns_below HO2.out HR.out.below) (rem_own HR.out) (by have := HM.out; rw [len_keys]; exact Nat.le_trans (cnt_le _ _) (by omega))).mono ?_
      rintro e w4 ⟨rfl, q, rfl⟩
      go_wp2_with fail
      go_roundw
      case rel => exact ⟨k + 1, by omega, by go_num, by first | exact HY.out HFK.out.symm | exact HZ.out HFK.out.symm, below_drewN (HBR.out.trans ((HB2.out.trans (HR.out.below.mono HB2.out.size)).mono HBR.out.size)) q⟩
      case measure => simp [intOf]; omega
  obtain rfl : k = 7 := by omega
  rw [← HNC.out]
  clear HNC H15 H17 HF
  go_wp2
  go_ret
  exact ⟨rfl, HW.out.trans (HBR.out.mono HW.out.size)⟩
end Go.Proofs.Qxb6608550a
