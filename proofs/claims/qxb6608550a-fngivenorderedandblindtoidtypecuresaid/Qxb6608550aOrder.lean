/-
  THE WALK of FnGivenOrderedAndBlindToIDTypeCure (5).
-/
import Derived.Test.Qxb6608550aArgs
namespace Go.Proofs.Qxb6608550a
open Go.RowKit

/-- one more key counted -/
theorem cnt_step {f : Nat → Bool} {k : Nat} (h : f k = true) : Value.int .i64 ((cnt f k : Int) + 1) = .int .i64 (cnt f (k + 1) : Nat) := by rw [cnt_yes h]; rfl
theorem cnt_stay {f : Nat → Bool} {k : Nat} (h : f k = false) : Value.int .i64 (cnt f k : Nat) = .int .i64 (cnt f (k + 1) : Nat) := by rw [cnt_no h]

theorem key_cells {w : World} {b N c : Nat} {ao : Option Addr} {ks : List ByteArray} {f : Nat → Bool} (h : w.ownsRow b 9 1 (.slice ao N c) N (ks.map Value.string)) (hk : ks = keys f 7) (hN : N = ks.length) :
    ∀ j, j < N → ∃ g, ao = some ⟨g, 0, none⟩ ∧ w.cell? ⟨g, j, none⟩ = some (.string (nm (idx f j))) ∧ idx f j < 7 ∧ (j + 1 < N → idx f j < idx f (j + 1)) := fun j hj => by
  obtain ⟨_, ao', c', hv, hc⟩ := owns_view h
  obtain ⟨rfl, _⟩ : ao = ao' ∧ c = c' := by cases hv; exact ⟨rfl, rfl⟩
  obtain ⟨g, rfl, _, _, hcell⟩ := hc (by omega)
  have hl : N = (idxs f).length := by rw [hN, hk, keys_idxs, List.length_map]
  refine ⟨g, rfl, ?_, idx_lt (by omega), fun h => idx_succ (by omega)⟩
  rw [hcell j hj, hk, keys_get (by omega)]

set_option maxRecDepth 100000 in
set_option maxHeartbeats 4000000 in
theorem order_walk (p0 p1 p3 p4 p5 aL aR a7 a8 a9 : Option Addr) (nL cL nR cR n7 c7 n8 c8 n9 c9 : Nat) (vL vR v7 v8 v9 : List Value) (w : World)
    (h0 : PStr w p0) (h1 : PStr w p1) (h3 : PBool w p3) (h4 : PStr w p4) (h5 : PStr w p5) (sL : CellsAt w aL nL vL) (sR : CellsAt w aR nR vR) (s7 : CellsAt w a7 n7 v7) (s8 : CellsAt w a8 n8 v8) (s9 : CellsAt w a9 n9 v9)
    (tL : AllStr vL) (tR : AllStr vR) (zL : aL = none → nL = 0) (zR : aR = none → nR = 0)
    (mL : nL ≤ 9223372036854775807) (mR : nR ≤ 9223372036854775807) (m7 : n7 ≤ 9223372036854775807) (m8 : n8 ≤ 9223372036854775807) (m9 : n9 ≤ 9223372036854775807) :
    Calls Try.prog 5 #[.pointer p0, .pointer p1, .slice aL nL cL, .pointer p3, .pointer p4, .pointer p5, .slice aR nR cR, .slice a7 n7 c7, .slice a8 n8 c8, .slice a9 n9 c9] w fun e w' => e = .returned (.bool true) ∧ Below w.heap.size w w' := by
  have HB := hide (bytes20 p0 p1 p3 p4 p5 aL aR a7 a8 a9 nL cL nR cR n7 c7 n8 c8 n9 c9 w h0 h1 h4 h5 (sL.strsIn tL zL) (sR.strsIn tR zR) mL mR m7 m8 m9)
  have HG := hide (big_any p0 p1 p4 p5 aL aR a7 a8 a9 nL cL nR cR n7 c7 n8 c8 n9 c9 w h0 h1 h4 h5 (sL.strsIn tL zL) (sR.strsIn tR zR) mL mR m7 m8 m9)
  have P0 := hide h0
  have P1 := hide h1
  have P3 := hide h3
  have P4 := hide h4
  have P5 := hide h5
  have CL := hide sL
  have CR := hide sR
  have C7 := hide s7
  have C8 := hide s8
  have C9 := hide s9
  have TL := hide tL
  have TR := hide tR
  have ZL := hide zL
  have ZR := hide zR
  have q25 := fun w a n c n' c' => run_neq_slice_nil_any (P := Try.prog) w 25 9 a n c n' c' Try.underlying25
  have q27 := fun w a n c n' c' => run_neq_slice_nil_any (P := Try.prog) w 27 5 a n c n' c' Try.underlying27
  clear h0 h1 h3 h4 h5 sL sR s7 s8 s9 tL tR zL zR
  go_enter Try.func5, Try.ntmps5
  go_wp2_with fail
  refine HB.out.mono ?_
  rintro e w1 ⟨b, rfl, rfl, hok⟩
  cases b
  · go_wp2_with fail
    go_ret
    exact ⟨rfl, Below.refl _ _⟩
  have OK := hide (hok rfl)
  clear hok
  go_wp2_with fail
  refine HG.out.mono ?_
  rintro e w1 ⟨b, rfl, rfl, _⟩
  cases b
  rotate_left
  · go_wp2_with fail
    go_ret
    exact ⟨rfl, Below.refl _ _⟩
  obtain ⟨w, rfl⟩ : ∃ x, x = w1 := ⟨_, rfl⟩
  have Bw := hide (Below.refl w.heap.size w)
  clear HB HG
  go_upto_if 61 with fail
  go_cut [0] (fun z wc => Below w.heap.size w wc ∧ ∃ p, z = .pointer p ∧ (!p.isNone) = (!p0.isNone))
  case first => as_aux_lemma =>
    cases p0 with
    | none =>
      go_wp2
      go_meet
      case rel => exact ⟨Below.refl _ _, none, rfl, rfl⟩
    | some a =>
      obtain ⟨s, hc, hs⟩ := (P0.out.below Bw.out) a rfl
      go_wp2
      go_meet
      case rel => exact ⟨(Below.refl _ _).alloc (Nat.le_refl _) _, _, rfl, rfl⟩
  obtain ⟨hb, p0', rfl, hp0⟩ := hcut
  obtain ⟨wa, rfl⟩ : ∃ x, x = wc := ⟨_, rfl⟩
  have Bwa := hide (Bw.out.trans (hb.mono Bw.out.size))
  have Dwa := hide hb
  have Ep0 := hide hp0
  clear hb hp0
  go_upto_if 66 with fail
  go_cut [1] (fun z wc => Below wa.heap.size wa wc ∧ ∃ p, z = .pointer p ∧ (!p.isNone) = (!p1.isNone))
  case first => as_aux_lemma =>
    cases p1 with
    | none =>
      go_wp2
      go_meet
      case rel => exact ⟨Below.refl _ _, none, rfl, rfl⟩
    | some a =>
      obtain ⟨s, hc, hs⟩ := (P1.out.below Bwa.out) a rfl
      go_wp2
      go_meet
      case rel => exact ⟨(Below.refl _ _).alloc (Nat.le_refl _) _, _, rfl, rfl⟩
  obtain ⟨hb, p1', rfl, hp1⟩ := hcut
  obtain ⟨wb, rfl⟩ : ∃ x, x = wc := ⟨_, rfl⟩
  have Bwb := hide (Bwa.out.trans (hb.mono Bwa.out.size))
  have Dwb := hide hb
  have Ep1 := hide hp1
  clear hb hp1
  go_upto_if 71 with fail
  go_cut [2] (fun z wc => Below wb.heap.size wb wc ∧ ∃ a n c, z = .slice a n c ∧ (!a.isNone) = (!aL.isNone) ∧ n ≤ 1048576 ∧ Strs wc a n)
  case first => as_aux_lemma =>
    cases aL with
    | none =>
      have hz := hide (ZL.out rfl)
      clear ZL
      go_wp2
      go_meet
      case rel => exact ⟨Below.refl _ _, none, nL, cL, rfl, rfl, by rw [hz.out]; omega, Or.inl ⟨rfl, hz.out⟩⟩
    | some a =>
      obtain ⟨W1, W2, hmk, hcp, hst, hbl⟩ := clone_strs wb a nL cL _ (CL.out.below Bwb.out) TL.out OK.out.1
      have HS := hide hst
      have HL := hide hbl
      clear hst hbl
      go_wp2
      go_meet
      case rel => exact ⟨HL.out, _, _, _, rfl, rfl, OK.out.1, HS.out⟩
  obtain ⟨hb, aL', nL', cL', rfl, haL, hnL, hsL⟩ := hcut
  obtain ⟨wd, rfl⟩ : ∃ x, x = wc := ⟨_, rfl⟩
  have Bwd := hide (Bwb.out.trans (hb.mono Bwb.out.size))
  have Dwd := hide hb
  have EaL := hide haL
  have NL := hide hnL
  have SL := hide hsL
  clear hb haL hnL hsL
  go_upto_if 80 with fail
  go_cut [3] (fun z wc => Below wd.heap.size wd wc ∧ ∃ p, z = .pointer p ∧ (!p.isNone) = (!p3.isNone))
  case first => as_aux_lemma =>
    cases p3 with
    | none =>
      go_wp2
      go_meet
      case rel => exact ⟨Below.refl _ _, none, rfl, rfl⟩
    | some a =>
      obtain ⟨s, hc⟩ := (P3.out.below Bwd.out) a rfl
      go_wp2
      go_meet
      case rel => exact ⟨(Below.refl _ _).alloc (Nat.le_refl _) _, _, rfl, rfl⟩
  obtain ⟨hb, p3', rfl, hp3⟩ := hcut
  obtain ⟨we, rfl⟩ : ∃ x, x = wc := ⟨_, rfl⟩
  have Bwe := hide (Bwd.out.trans (hb.mono Bwd.out.size))
  have Dwe := hide hb
  have Ep3 := hide hp3
  clear hb hp3
  go_upto_if 85 with fail
  go_cut [4] (fun z wc => Below we.heap.size we wc ∧ ∃ p, z = .pointer p ∧ (!p.isNone) = (!p4.isNone))
  case first => as_aux_lemma =>
    cases p4 with
    | none =>
      go_wp2
      go_meet
      case rel => exact ⟨Below.refl _ _, none, rfl, rfl⟩
    | some a =>
      obtain ⟨s, hc, hs⟩ := (P4.out.below Bwe.out) a rfl
      go_wp2
      go_meet
      case rel => exact ⟨(Below.refl _ _).alloc (Nat.le_refl _) _, _, rfl, rfl⟩
  obtain ⟨hb, p4', rfl, hp4⟩ := hcut
  obtain ⟨wf, rfl⟩ : ∃ x, x = wc := ⟨_, rfl⟩
  have Bwf := hide (Bwe.out.trans (hb.mono Bwe.out.size))
  have Dwf := hide hb
  have Ep4 := hide hp4
  clear hb hp4
  go_upto_if 90 with fail
  go_cut [5] (fun z wc => Below wf.heap.size wf wc ∧ ∃ p, z = .pointer p ∧ (!p.isNone) = (!p5.isNone))
  case first => as_aux_lemma =>
    cases p5 with
    | none =>
      go_wp2
      go_meet
      case rel => exact ⟨Below.refl _ _, none, rfl, rfl⟩
    | some a =>
      obtain ⟨s, hc, hs⟩ := (P5.out.below Bwf.out) a rfl
      go_wp2
      go_meet
      case rel => exact ⟨(Below.refl _ _).alloc (Nat.le_refl _) _, _, rfl, rfl⟩
  obtain ⟨hb, p5', rfl, hp5⟩ := hcut
  obtain ⟨wg, rfl⟩ : ∃ x, x = wc := ⟨_, rfl⟩
  have Bwg := hide (Bwf.out.trans (hb.mono Bwf.out.size))
  have Dwg := hide hb
  have Ep5 := hide hp5
  clear hb hp5
  go_upto_if 95 with fail
  go_cut [6] (fun z wc => Below wg.heap.size wg wc ∧ ∃ a n c, z = .slice a n c ∧ (!a.isNone) = (!aR.isNone) ∧ n ≤ 1048576 ∧ Strs wc a n)
  case first => as_aux_lemma =>
    cases aR with
    | none =>
      have hz := hide (ZR.out rfl)
      clear ZR
      go_wp2
      go_meet
      case rel => exact ⟨Below.refl _ _, none, nR, cR, rfl, rfl, by rw [hz.out]; omega, Or.inl ⟨rfl, hz.out⟩⟩
    | some a =>
      obtain ⟨W1, W2, hmk, hcp, hst, hbl⟩ := clone_strs wg a nR cR _ (CR.out.below Bwg.out) TR.out OK.out.2.1
      have HS := hide hst
      have HL := hide hbl
      clear hst hbl
      go_wp2
      go_meet
      case rel => exact ⟨HL.out, _, _, _, rfl, rfl, OK.out.2.1, HS.out⟩
  obtain ⟨hb, aR', nR', cR', rfl, haR, hnR, hsR⟩ := hcut
  obtain ⟨wh, rfl⟩ : ∃ x, x = wc := ⟨_, rfl⟩
  have Bwh := hide (Bwg.out.trans (hb.mono Bwg.out.size))
  have Dwh := hide hb
  have EaR := hide haR
  have NR := hide hnR
  have SR := hide hsR
  clear hb haR hnR hsR
  go_upto_if 104 with fail
  go_cut [7] (fun z wc => Below wh.heap.size wh wc ∧ ∃ a n c, z = .slice a n c ∧ (!a.isNone) = (!a7.isNone))
  case first => as_aux_lemma =>
    cases a7 with
    | none =>
      go_wp2
      go_meet
      case rel => exact ⟨Below.refl _ _, none, n7, c7, rfl, rfl⟩
    | some a =>
      obtain ⟨W1, W2, hmk, hcp, hbl⟩ := clone_bts wh a n7 c7 _ (C7.out.below Bwh.out) OK.out.2.2.1
      have HL := hide hbl
      clear hbl
      go_wp2
      go_meet
      case rel => exact ⟨HL.out, _, _, _, rfl, rfl⟩
  obtain ⟨hb, a7', n7', c7', rfl, ha7⟩ := hcut
  obtain ⟨wi, rfl⟩ : ∃ x, x = wc := ⟨_, rfl⟩
  have Bwi := hide (Bwh.out.trans (hb.mono Bwh.out.size))
  have Dwi := hide hb
  have Ea7 := hide ha7
  clear hb ha7
  go_upto_if 113 with fail
  go_cut [8] (fun z wc => Below wi.heap.size wi wc ∧ ∃ a n c, z = .slice a n c ∧ (!a.isNone) = (!a8.isNone))
  case first => as_aux_lemma =>
    cases a8 with
    | none =>
      go_wp2
      go_meet
      case rel => exact ⟨Below.refl _ _, none, n8, c8, rfl, rfl⟩
    | some a =>
      obtain ⟨W1, W2, hmk, hcp, hbl⟩ := clone_bts wi a n8 c8 _ (C8.out.below Bwi.out) OK.out.2.2.2.1
      have HL := hide hbl
      clear hbl
      go_wp2
      go_meet
      case rel => exact ⟨HL.out, _, _, _, rfl, rfl⟩
  obtain ⟨hb, a8', n8', c8', rfl, ha8⟩ := hcut
  obtain ⟨wj, rfl⟩ : ∃ x, x = wc := ⟨_, rfl⟩
  have Bwj := hide (Bwi.out.trans (hb.mono Bwi.out.size))
  have Dwj := hide hb
  have Ea8 := hide ha8
  clear hb ha8
  go_upto_if 122 with fail
  go_cut [9] (fun z wc => Below wj.heap.size wj wc ∧ ∃ a n c, z = .slice a n c ∧ (!a.isNone) = (!a9.isNone))
  case first => as_aux_lemma =>
    cases a9 with
    | none =>
      go_wp2
      go_meet
      case rel => exact ⟨Below.refl _ _, none, n9, c9, rfl, rfl⟩
    | some a =>
      obtain ⟨W1, W2, hmk, hcp, hbl⟩ := clone_bts wj a n9 c9 _ (C9.out.below Bwj.out) OK.out.2.2.2.2
      have HL := hide hbl
      clear hbl
      go_wp2
      go_meet
      case rel => exact ⟨HL.out, _, _, _, rfl, rfl⟩
  obtain ⟨hb, a9', n9', c9', rfl, ha9⟩ := hcut
  obtain ⟨wk, rfl⟩ : ∃ x, x = wc := ⟨_, rfl⟩
  have Bwk := hide (Bwj.out.trans (hb.mono Bwj.out.size))
  have Dwk := hide hb
  have Ea9 := hide ha9
  clear hb ha9
  have SLk := hide (((((((SL.out.below Dwe.out).below Dwf.out).below Dwg.out).below Dwh.out).below Dwi.out).below Dwj.out).below Dwk.out)
  have SRk := hide (((SR.out.below Dwi.out).below Dwj.out).below Dwk.out)
  clear P0 P1 P3 P4 P5 CL CR C7 C8 C9 TL TR ZL ZR OK Bw Bwa Bwb Bwd Bwe Bwf Bwg Bwh Bwi Bwj Dwa Dwb Dwd Dwe Dwf Dwg Dwh Dwi Dwj Dwk SL SR
  obtain ⟨b0, hb0⟩ : ∃ b, b = (!aL.isNone) := ⟨_, rfl⟩
  obtain ⟨b1, hb1⟩ : ∃ b, b = (!p3.isNone) := ⟨_, rfl⟩
  obtain ⟨b2, hb2⟩ : ∃ b, b = (!p4.isNone) := ⟨_, rfl⟩
  obtain ⟨b3, hb3⟩ : ∃ b, b = (!p5.isNone) := ⟨_, rfl⟩
  obtain ⟨b4, hb4⟩ : ∃ b, b = (!aR.isNone) := ⟨_, rfl⟩
  obtain ⟨b5, hb5⟩ : ∃ b, b = (!a7.isNone) := ⟨_, rfl⟩
  obtain ⟨b6, hb6⟩ : ∃ b, b = (!a8.isNone) := ⟨_, rfl⟩
  have e0 : (!aL'.isNone) = b0 := EaL.out.trans hb0.symm
  have e1 : (!p3'.isNone) = b1 := Ep3.out.trans hb1.symm
  have e2 : (!p4'.isNone) = b2 := Ep4.out.trans hb2.symm
  have e3 : (!p5'.isNone) = b3 := Ep5.out.trans hb3.symm
  have e4 : (!aR'.isNone) = b4 := EaR.out.trans hb4.symm
  have e5 : (!a7'.isNone) = b5 := Ea7.out.trans hb5.symm
  have e6 : (!a8'.isNone) = b6 := Ea8.out.trans hb6.symm
  clear hb0 hb1 hb2 hb3 hb4 hb5 hb6 EaL Ep3 Ep4 Ep5 EaR Ea7 Ea8 Ep0 Ep1 Ea9
  obtain ⟨ks, hks⟩ : ∃ ks, ks = keys (flg b0 b1 b2 b3 b4 b5 b6) 7 := ⟨_, rfl⟩
  obtain ⟨N, hN⟩ : ∃ N, N = ks.length := ⟨_, rfl⟩
  have H1 := hide (limit_sl p0' p1' p3' p4' p5' aL' aR' a7' a8' a9' nL' cL' nR' cR' n7' c7' n8' c8' n9' c9' b0 b1 b2 b3 b4 b5 b6 wk e0 e1 e2 e3 e4 e5 e6 NL.out NR.out SLk.out SRk.out ks N hks hN)
  have H2 := hide (fun (w2 : World) (h : Below wk.heap.size wk w2) => limit_sl none none p3' p4' p5' aL' aR' a7' a8' none nL' cL' nR' cR' n7' c7' n8' c8' 0 0 b0 b1 b2 b3 b4 b5 b6 w2 e0 e1 e2 e3 e4 e5 e6 NL.out NR.out (SLk.out.below h) (SRk.out.below h) ks N hks hN)
  have HK := hide hks
  have HN := hide hN
  clear NL NR SLk SRk hks hN
  go_wp2_with fail
  refine H1.out.mono ?_
  rintro e wl ⟨ao, c, rfl, ho, hb⟩
  have HO := hide ho
  have HB := hide hb
  clear ho hb H1
  go_wp2_with fail
  refine (H2.out wl HB.out).mono ?_
  rintro e wm ⟨bo, c', rfl, ho, hb⟩
  have HO1 := hide (owns_below HO.out hb)
  have HO2 := hide ho
  have HB1 := hide ((Bwk.out.trans (HB.out.mono Bwk.out.size)).trans (hb.mono (Nat.le_trans Bwk.out.size HB.out.size)))
  clear ho hb H2 HO HB Bwk
  have hN7 : N ≤ 7 := by rw [HN.out, HK.out, len_keys]; exact cnt_le _ _
  go_wp2_with fail
  refine (eqs_own HO1.out HO2.out (by rw [← HN.out]; omega)).mono ?_
  rintro e wn ⟨rfl, q, rfl⟩
  obtain ⟨wn, hwn⟩ : ∃ x, x = wm.drewN q := ⟨_, rfl⟩
  have HO3 : Hid (wn.ownsRow wk.heap.size 9 1 (.slice ao N c) N (ks.map Value.string)) := by rw [hwn]; exact owns_drewN HO1.out q
  have HB2 : Hid (Below w.heap.size w wn) := by rw [hwn]; exact below_drewN HB1.out q
  rw [← hwn]
  clear hwn HO1 HO2 HB1
  go_upto_if 154 with fail
  go_cut [33] (fun z wc => wn = wc ∧ z = .int .i64 (cnt (flg b0 b1 b2 b3 b4 b5 b6) 1 : Nat))
  case first => as_aux_lemma =>
    cases b0 with
    | true =>
      go_wp2
      go_meet
      case rel => exact ⟨rfl, cnt_step (f := (flg true b1 b2 b3 b4 b5 b6)) (k := 0) rfl⟩
    | false =>
      go_wp2
      go_meet
      case rel => exact ⟨rfl, cnt_stay (f := (flg false b1 b2 b3 b4 b5 b6)) (k := 0) rfl⟩
  obtain ⟨rfl, rfl⟩ := hcut
  have hc1 := cnt_le (flg b0 b1 b2 b3 b4 b5 b6) 1
  go_upto_if 158 with fail
  go_cut [33] (fun z wc => wn = wc ∧ z = .int .i64 (cnt (flg b0 b1 b2 b3 b4 b5 b6) 2 : Nat))
  case first => as_aux_lemma =>
    cases b1 with
    | true =>
      go_wp2
      go_meet
      case rel => exact ⟨rfl, cnt_step (f := (flg b0 true b2 b3 b4 b5 b6)) (k := 1) rfl⟩
    | false =>
      go_wp2
      go_meet
      case rel => exact ⟨rfl, cnt_stay (f := (flg b0 false b2 b3 b4 b5 b6)) (k := 1) rfl⟩
  obtain ⟨rfl, rfl⟩ := hcut
  have hc2 := cnt_le (flg b0 b1 b2 b3 b4 b5 b6) 2
  go_upto_if 162 with fail
  go_cut [33] (fun z wc => wn = wc ∧ z = .int .i64 (cnt (flg b0 b1 b2 b3 b4 b5 b6) 3 : Nat))
  case first => as_aux_lemma =>
    cases b2 with
    | true =>
      go_wp2
      go_meet
      case rel => exact ⟨rfl, cnt_step (f := (flg b0 b1 true b3 b4 b5 b6)) (k := 2) rfl⟩
    | false =>
      go_wp2
      go_meet
      case rel => exact ⟨rfl, cnt_stay (f := (flg b0 b1 false b3 b4 b5 b6)) (k := 2) rfl⟩
  obtain ⟨rfl, rfl⟩ := hcut
  have hc3 := cnt_le (flg b0 b1 b2 b3 b4 b5 b6) 3
  go_upto_if 166 with fail
  go_cut [33] (fun z wc => wn = wc ∧ z = .int .i64 (cnt (flg b0 b1 b2 b3 b4 b5 b6) 4 : Nat))
  case first => as_aux_lemma =>
    cases b3 with
    | true =>
      go_wp2
      go_meet
      case rel => exact ⟨rfl, cnt_step (f := (flg b0 b1 b2 true b4 b5 b6)) (k := 3) rfl⟩
    | false =>
      go_wp2
      go_meet
      case rel => exact ⟨rfl, cnt_stay (f := (flg b0 b1 b2 false b4 b5 b6)) (k := 3) rfl⟩
  obtain ⟨rfl, rfl⟩ := hcut
  have hc4 := cnt_le (flg b0 b1 b2 b3 b4 b5 b6) 4
  go_upto_if 170 with fail
  go_cut [33] (fun z wc => wn = wc ∧ z = .int .i64 (cnt (flg b0 b1 b2 b3 b4 b5 b6) 5 : Nat))
  case first => as_aux_lemma =>
    cases b4 with
    | true =>
      go_wp2
      go_meet
      case rel => exact ⟨rfl, cnt_step (f := (flg b0 b1 b2 b3 true b5 b6)) (k := 4) rfl⟩
    | false =>
      go_wp2
      go_meet
      case rel => exact ⟨rfl, cnt_stay (f := (flg b0 b1 b2 b3 false b5 b6)) (k := 4) rfl⟩
  obtain ⟨rfl, rfl⟩ := hcut
  have hc5 := cnt_le (flg b0 b1 b2 b3 b4 b5 b6) 5
  go_upto_if 174 with fail
  go_cut [33] (fun z wc => wn = wc ∧ z = .int .i64 (cnt (flg b0 b1 b2 b3 b4 b5 b6) 6 : Nat))
  case first => as_aux_lemma =>
    cases b5 with
    | true =>
      go_wp2
      go_meet
      case rel => exact ⟨rfl, cnt_step (f := (flg b0 b1 b2 b3 b4 true b6)) (k := 5) rfl⟩
    | false =>
      go_wp2
      go_meet
      case rel => exact ⟨rfl, cnt_stay (f := (flg b0 b1 b2 b3 b4 false b6)) (k := 5) rfl⟩
  obtain ⟨rfl, rfl⟩ := hcut
  have hc6 := cnt_le (flg b0 b1 b2 b3 b4 b5 b6) 6
  go_upto_if 178 with fail
  go_cut [33] (fun z wc => wn = wc ∧ z = .int .i64 (cnt (flg b0 b1 b2 b3 b4 b5 b6) 7 : Nat))
  case first => as_aux_lemma =>
    cases b6 with
    | true =>
      go_wp2
      go_meet
      case rel => exact ⟨rfl, cnt_step (f := (flg b0 b1 b2 b3 b4 b5 true)) (k := 6) rfl⟩
    | false =>
      go_wp2
      go_meet
      case rel => exact ⟨rfl, cnt_stay (f := (flg b0 b1 b2 b3 b4 b5 false)) (k := 6) rfl⟩
  obtain ⟨rfl, rfl⟩ := hcut
  have hc7 := cnt_le (flg b0 b1 b2 b3 b4 b5 b6) 7
  have hlen : (N : Int) = (cnt (flg b0 b1 b2 b3 b4 b5 b6) 7 : Int) := by rw [HN.out, HK.out, len_keys]
  rw [← hlen]
  clear hlen hc1 hc2 hc3 hc4 hc5 hc6 hc7
  clear e0 e1 e2 e3 e4 e5 e6
  have CE := hide (key_cells HO3.out HK.out HN.out)
  clear HO3 HK HN
  go_wp2
  go_loop [34, 187] (fun l i => ∃ (j : Nat) (y : Int), j ≤ N ∧ i = .int .i64 j ∧ l = .int .i64 y ∧ -1 ≤ y ∧ y < 7 ∧ Hid (j < N → y < (idx (flg b0 b1 b2 b3 b4 b5 b6) j : Int))) (fun _ i => N - (intOf i).toNat)
  case atStart => exact ⟨0, -1, by omega, rfl, rfl, by omega, by omega, fun _ => by omega⟩
  obtain ⟨j, y, hj, rfl, rfl, hy0, hy1, HY⟩ := hrel
  by_cases hlt : j < N
  · obtain ⟨g, rfl, hc, hi7, hnx⟩ := CE.out j hlt
    have hy := HY.out hlt
    have HX := hide hnx
    have HR := hide (fun w => rank_any (idx (flg b0 b1 b2 b3 b4 b5 b6) j) w hi7)
    obtain ⟨r, hr⟩ : ∃ r, r = idx (flg b0 b1 b2 b3 b4 b5 b6) j := ⟨_, rfl⟩
    rw [← hr] at hc hi7 hy HR HX
    obtain ⟨S, hS⟩ : ∃ S, S = nm r := ⟨_, rfl⟩
    rw [← hS] at hc HR
    clear hnx HY CE hr hS
    go_wp2_with (go_at_call 21; refine (HR.out _).mono ?_; rintro e w' ⟨rfl, rfl⟩)
    go_round
    case rel => exact ⟨j + 1, r, by omega, by go_num, rfl, by omega, by omega, fun h => by have := HX.out h; omega⟩
    case measure => simp [intOf]; omega
  go_wp2
  go_ret
  exact ⟨rfl, HB2.out⟩
end Go.Proofs.Qxb6608550a
