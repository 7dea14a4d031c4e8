/-
  THE WALKS of FnCurrencyCodeCaseFold's callees.
-/
import Derived.Test.Qxb6608550aRows
import Derived.Test.Qxb6608550aFold
import Derived.Test.Qxb6608550aClone
import Derived.WalkKit
import Derived.Below
import Derived.Laws.IdiomStrings
namespace Go.Proofs.Qxb6608550a
open Go.RowKit
open Fold

theorem hide {p : Prop} (h : p) : Hid p := h
theorem Try.info5 : (Try.prog.info? 5).map (fun i => (i.zero, i.size, i.bytes)) = some (some (.int .u8 0), 1, 1) := by kernel_rfl

/-- the bytes of a string -/
def bts (s : ByteArray) : List UInt8 := s.data.toList
theorem bts_len (s : ByteArray) : (bts s).length = s.size := by simp [bts]
theorem bts_get (s : ByteArray) (k : Nat) (h : k < s.size) : s[k] = (bts s).getD k 0 := by
  have h' : k < (bts s).length := by rw [bts_len]; exact h
  simp only [List.getD, List.getElem?_eq_getElem h', Option.getD_some]; rfl

theorem make_bytes (w : World) (n : Nat) (hm : n ≤ 1048576) :
    ∃ W1, (Instr.makeSlice 27 (.int .i64 n) (.int .i64 n)).run Try.prog w = .ok (.slice (some ⟨w.heap.size, 0, none⟩) n n) W1 ∧ Below w.heap.size w W1 ∧
      (∀ j, j < n → (W1.cell? ⟨w.heap.size, j, none⟩).isSome = true) ∧ (∀ j, j < n → W1.frozen? ⟨w.heap.size, j, none⟩ = false) := by
  obtain ⟨i0, hi, hz0, hz1, hz2⟩ := info_parts Try.info5
  have hmk := run_make (P := Try.prog) w 27 5 i0 (.int .u8 0) Try.underlying27 hi hz0 .i64 .i64 n n (by omega) (by omega) (by rw [hz2]; omega) (by omega)
  simp only [Int.toNat_natCast, hz1, Nat.mul_one] at hmk
  exact ⟨_, hmk, (Below.refl _ _).alloc (Nat.le_refl _) _, fun j hj => cell_made w _ _ _ _ hj, fun j _ => free_made w _ _ _⟩

/-- the buffer, filled up to k by f of the string's bytes -/
structure Filled (w wr : World) (g n k : Nat) (f : Nat → Int) : Prop where
  below : Below g w wr
  there : ∀ j, j < n → (wr.cell? ⟨g, j, none⟩).isSome = true
  free : ∀ j, j < n → wr.frozen? ⟨g, j, none⟩ = false
  done : ∀ j, j < k → wr.cell? ⟨g, j, none⟩ = some (.int .u8 (f j))

theorem Filled.step {w wr : World} {g n k : Nat} {f : Nat → Int} (h : Filled w wr g n k f) (hk : k < n) : Filled w (wr.setCell ⟨g, k, none⟩ (.int .u8 (f k))) g n (k + 1) f where
  below := h.below.setCell (Nat.le_refl _) _
  there := fun j hj => by
    by_cases e : j = k
    · subst e
      obtain ⟨u, hu⟩ := Option.isSome_iff_exists.1 (h.there j hj)
      rw [World.cell?_setCell_same _ _ _ hu]; rfl
    · rw [World.cell?_setCell_other _ _ _ _ (by simp)]; exact h.there j hj
  free := fun j hj => by rw [World.frozen?_setCell]; exact h.free j hj
  done := fun j hj => by
    by_cases e : j = k
    · subst e
      obtain ⟨u, hu⟩ := Option.isSome_iff_exists.1 (h.there j hk)
      rw [World.cell?_setCell_same _ _ _ hu]
    · rw [World.cell?_setCell_other _ _ _ _ (by simp)]; exact h.done j (by omega)

theorem Filled.back {w wr : World} {g n : Nat} {f : Nat → Int} {l : List UInt8} (h : Filled w wr g n n f) (hl : l.length = n) (hf : ∀ j (hj : j < l.length), f j = (l[j].toNat : Int)) :
    (convert 27 9 (.slice (some ⟨g, 0, none⟩) n n)).run Try.prog wr = .ok (.string ⟨l.toArray⟩) wr := by
  subst hl
  refine run_convert_bytes_back (P := Try.prog) wr 27 9 5 ⟨g, 0, none⟩ l.length l Try.underlying27 Try.underlying5 Try.underlying9 (fun j hj => ?_)
  rw [Go.WideShapes.add_plain, Nat.zero_add, h.done j hj, hf j hj]

theorem Filled.step' {w wr : World} {g n k : Nat} {f : Nat → Int} (h : Filled w wr g n k f) (hk : k < n) {v : Int} (e : v = f k) : Filled w (wr.setCell ⟨g, k, none⟩ (.int .u8 v)) g n (k + 1) f := by
  subst e; exact h.step hk
theorem up_in {c : UInt8} (h1 : (97 : Int) ≤ (c.toNat : Int)) (h2 : (c.toNat : Int) ≤ 122) : (c.toNat : Int) - 97 + 65 = ((up c).toNat : Int) := by rw [up_nat, if_pos (by omega)]; omega
theorem up_out {c : UInt8} (h : ¬ (97 : Int) ≤ (c.toNat : Int) ∨ ¬ (c.toNat : Int) ≤ 122) : (c.toNat : Int) = ((up c).toNat : Int) := by rw [up_nat, if_neg (by omega)]
theorem lo_in {c : UInt8} (h1 : (65 : Int) ≤ (c.toNat : Int)) (h2 : (c.toNat : Int) ≤ 90) : (c.toNat : Int) - 65 + 97 = ((lo c).toNat : Int) := by rw [lo_nat, if_pos (by omega)]; omega
theorem lo_out {c : UInt8} (h : ¬ (65 : Int) ≤ (c.toNat : Int) ∨ ¬ (c.toNat : Int) ≤ 90) : (c.toNat : Int) = ((lo c).toNat : Int) := by rw [lo_nat, if_neg (by omega)]
theorem map_at (s : ByteArray) (f : UInt8 → UInt8) (j : Nat) (hj : j < ((bts s).map f).length) : ((f ((bts s).getD j 0)).toNat : Int) = ((((bts s).map f)[j]).toNat : Int) := by
  have h' : j < (bts s).length := by simpa using hj
  simp [List.getD, List.getElem?_eq_getElem h']

set_option maxHeartbeats 400000 in
theorem upper_any (s : ByteArray) (w : World) (hm : s.size ≤ 1048576) :
    Calls Try.prog 7 #[.string s] w fun e w' => e = .returned (.string ⟨((bts s).map up).toArray⟩) ∧ Below w.heap.size w w' := by
  obtain ⟨W1, hmk, hB, hth, hfr⟩ := make_bytes w s.size hm
  have F0 : Filled w W1 w.heap.size s.size 0 (fun j => ((up ((bts s).getD j 0)).toNat : Int)) := ⟨hB, hth, hfr, fun j hj => by omega⟩
  clear hB hth hfr
  go_enter Try.func7, Try.ntmps7
  go_wp2
  go_loopw [4] (fun i wr => ∃ k : Nat, k ≤ s.size ∧ i = .int .i64 k ∧ Filled w wr w.heap.size s.size k (fun j => ((up ((bts s).getD j 0)).toNat : Int))) (fun i _ => s.size - (intOf i).toNat)
  case atStart => exact ⟨0, by omega, rfl, F0⟩
  case round =>
    obtain ⟨k, hk, rfl, F⟩ := hrel
    by_cases hlt : k < s.size
    · obtain ⟨u, hu⟩ := Option.isSome_iff_exists.1 (F.there k hlt)
      have hz := F.free k hlt
      have hb : (s[k].toNat : Int) ≤ 255 := by have := s[k].toNat_lt; omega
      by_cases h1 : (97 : Int) ≤ (s[k].toNat : Int)
      · by_cases h2 : (s[k].toNat : Int) ≤ 122
        · go_wp2
          go_roundw
          case rel => exact ⟨k + 1, by omega, by go_num, F.step' hlt (by rw [← bts_get s k hlt]; exact up_in h1 h2)⟩
          case measure => simp [intOf]; omega
        · go_wp2
          go_roundw
          case rel => exact ⟨k + 1, by omega, by go_num, F.step' hlt (by rw [← bts_get s k hlt]; exact up_out (Or.inr h2))⟩
          case measure => simp [intOf]; omega
      · go_wp2
        go_roundw
        case rel => exact ⟨k + 1, by omega, by go_num, F.step' hlt (by rw [← bts_get s k hlt]; exact up_out (Or.inl h1))⟩
        case measure => simp [intOf]; omega
    · obtain rfl : k = s.size := by omega
      have hcv := F.back (l := (bts s).map up) (by rw [List.length_map, bts_len]) (fun j hj => map_at s up j hj)
      have HB := hide F.below
      clear F F0
      go_wp2
      go_ret
      exact ⟨rfl, HB.out⟩

set_option maxHeartbeats 400000 in
theorem lower_any (s : ByteArray) (w : World) (hm : s.size ≤ 1048576) :
    Calls Try.prog 8 #[.string s] w fun e w' => e = .returned (.string ⟨((bts s).map lo).toArray⟩) ∧ Below w.heap.size w w' := by
  obtain ⟨W1, hmk, hB, hth, hfr⟩ := make_bytes w s.size hm
  have F0 : Filled w W1 w.heap.size s.size 0 (fun j => ((lo ((bts s).getD j 0)).toNat : Int)) := ⟨hB, hth, hfr, fun j hj => by omega⟩
  clear hB hth hfr
  go_enter Try.func8, Try.ntmps8
  go_wp2
  go_loopw [4] (fun i wr => ∃ k : Nat, k ≤ s.size ∧ i = .int .i64 k ∧ Filled w wr w.heap.size s.size k (fun j => ((lo ((bts s).getD j 0)).toNat : Int))) (fun i _ => s.size - (intOf i).toNat)
  case atStart => exact ⟨0, by omega, rfl, F0⟩
  case round =>
    obtain ⟨k, hk, rfl, F⟩ := hrel
    by_cases hlt : k < s.size
    · obtain ⟨u, hu⟩ := Option.isSome_iff_exists.1 (F.there k hlt)
      have hz := F.free k hlt
      have hb : (s[k].toNat : Int) ≤ 255 := by have := s[k].toNat_lt; omega
      by_cases h1 : (65 : Int) ≤ (s[k].toNat : Int)
      · by_cases h2 : (s[k].toNat : Int) ≤ 90
        · go_wp2
          go_roundw
          case rel => exact ⟨k + 1, by omega, by go_num, F.step' hlt (by rw [← bts_get s k hlt]; exact lo_in h1 h2)⟩
          case measure => simp [intOf]; omega
        · go_wp2
          go_roundw
          case rel => exact ⟨k + 1, by omega, by go_num, F.step' hlt (by rw [← bts_get s k hlt]; exact lo_out (Or.inr h2))⟩
          case measure => simp [intOf]; omega
      · go_wp2
        go_roundw
        case rel => exact ⟨k + 1, by omega, by go_num, F.step' hlt (by rw [← bts_get s k hlt]; exact lo_out (Or.inl h1))⟩
        case measure => simp [intOf]; omega
    · obtain rfl : k = s.size := by omega
      have hcv := F.back (l := (bts s).map lo) (by rw [List.length_map, bts_len]) (fun j hj => map_at s lo j hj)
      have HB := hide F.below
      clear F F0
      go_wp2
      go_ret
      exact ⟨rfl, HB.out⟩

/-! ### isCurrencyCode (22), ZZisCurrencyCode (9), zzIsLetter (23), zzThreeLetters (10) -/
theorem all_true {f : UInt8 → Bool} {l : List UInt8} (h : l.all f = true) {k : Nat} (hk : k < l.length) : f (l.getD k 0) = true := by
  simp only [List.getD, List.getElem?_eq_getElem hk, Option.getD_some]
  exact List.all_eq_true.1 h _ (List.getElem_mem hk)
theorem all_false : ∀ {f : UInt8 → Bool} {l : List UInt8}, (∀ k, k < l.length → f (l.getD k 0) = true) → l.all f = true
  | f, [], _ => rfl
  | f, c :: r, h => by
    simp only [List.all_cons, Bool.and_eq_true]
    exact ⟨by simpa using h 0 (by simp), all_false (fun k hk => by simpa using h (k + 1) (by simpa using hk))⟩

theorem bytes_conv (w : World) (s : ByteArray) :
    ∃ W1 c, (convert 9 27 (.string s)).run Try.prog w = .ok (.slice (some ⟨w.heap.size, 0, none⟩) s.size c) W1 ∧ Below w.heap.size w W1 ∧ (∀ j (hj : j < s.size), W1.cell? ⟨w.heap.size, j, none⟩ = some (.int .u8 (s[j].toNat : Int))) := by
  refine ⟨_, _, run_bytes_of_string w 9 27 5 s Try.underlying9 Try.underlying27 Try.underlying5, ?_, ?_⟩
  · exact (Below.refl _ _).drew.alloc (Nat.le_refl _) _
  · intro j hj
    have e : w.drew.heap.size = w.heap.size := rfl
    rw [← e, World.cell?_alloc_mark]
    have hj' : j < s.data.size := hj
    unfold bytesRow
    rw [Array.getElem?_append_left (by simpa using hj'), Array.getElem?_map, Array.getElem?_eq_getElem hj']
    rfl

theorem ret_bool {a b : Bool} (h : a = b) : Ending.returned (.bool a) = .returned (.bool b) := by rw [h]
theorem ccB_len {l : List UInt8} (h : l.length ≠ 3) : ccB l = false := by simp [ccB, h]
theorem tlB_len {l : List UInt8} (h : l.length ≠ 3) : tlB l = false := by simp [tlB, h]
theorem ccB_hit {l : List UInt8} {k : Nat} (hk : k < l.length) (h : isUp (l.getD k 0) = false) : ccB l = false := by
  cases hc : ccB l with
  | false => rfl
  | true =>
    unfold ccB at hc; simp only [Bool.and_eq_true] at hc
    rw [all_true hc.2 hk] at h; exact h
theorem ccB_all {l : List UInt8} (h3 : l.length = 3) (h : ∀ k, k < l.length → isUp (l.getD k 0) = true) : ccB l = true := by
  unfold ccB; simp only [Bool.and_eq_true]; exact ⟨by simpa using h3, all_false h⟩
theorem tlB_hit {l : List UInt8} {k : Nat} (hk : k < l.length) (h : isLet (l.getD k 0) = false) : tlB l = false := by
  cases hc : tlB l with
  | false => rfl
  | true =>
    unfold tlB at hc; simp only [Bool.and_eq_true] at hc
    rw [all_true hc.2 hk] at h; exact h
theorem tlB_all {l : List UInt8} (h3 : l.length = 3) (h : ∀ k, k < l.length → isLet (l.getD k 0) = true) : tlB l = true := by
  unfold tlB; simp only [Bool.and_eq_true]; exact ⟨by simpa using h3, all_false h⟩
theorem isUp_in {c : UInt8} (h1 : (65 : Int) ≤ (c.toNat : Int)) (h2 : (c.toNat : Int) ≤ 90) : isUp c = true := by simp [isUp]; omega
theorem isUp_out {c : UInt8} (h : ¬ (65 : Int) ≤ (c.toNat : Int) ∨ ¬ (c.toNat : Int) ≤ 90) : isUp c = false := by simp [isUp]; omega
theorem all_succ {p : Nat → Bool} {k : Nat} (h : ∀ j, j < k → p j = true) (hk : p k = true) : ∀ j, j < k + 1 → p j = true := fun j hj => by
  by_cases e : j = k
  · subst e; exact hk
  · exact h j (by omega)

set_option maxHeartbeats 400000 in
theorem cur_any (s : ByteArray) (w : World) (hm : s.size ≤ 1048576) :
    Calls Try.prog 22 #[.string s] w fun e w' => e = .returned (.bool (ccB (bts s))) ∧ Below w.heap.size w w' := by
  by_cases h3 : s.size = 3
  · have e3 : ((s.size : Int) == 3) = true := by simp; omega
    have e3' : ((s.size : Int) != 3) = false := by simp; omega
    obtain ⟨W1, c, hcv, hB, hcell⟩ := bytes_conv w s
    have H3 := hide h3
    have HB := hide hB
    clear h3 hB
    go_enter Try.func22, Try.ntmps22
    go_wp2
    go_loop [11] (fun i => ∃ k : Nat, k ≤ s.size ∧ i = .int .i64 k ∧ Hid (∀ j, j < k → isUp ((bts s).getD j 0) = true)) (fun i => s.size - (intOf i).toNat)
    case atStart => exact ⟨0, by omega, rfl, fun j hj => by omega⟩
    case round =>
      obtain ⟨k, hk, rfl, HA⟩ := hrel
      by_cases hlt : k < s.size
      · have hck := hcell k hlt
        have hb : (s[k].toNat : Int) ≤ 255 := by have := s[k].toNat_lt; omega
        clear hcell
        by_cases h1 : (65 : Int) ≤ (s[k].toNat : Int)
        · by_cases h2 : (s[k].toNat : Int) ≤ 90
          · go_wp2
            go_round
            case rel => exact ⟨k + 1, by omega, by go_num, all_succ HA.out (by rw [← bts_get s k hlt]; exact isUp_in h1 h2)⟩
            case measure => simp [intOf]; omega
          · go_wp2
            go_ret
            exact ⟨ret_bool (ccB_hit (k := k) (by rw [bts_len]; exact hlt) (by rw [← bts_get s k hlt]; exact isUp_out (by omega))).symm, HB.out⟩
        · go_wp2
          go_ret
          exact ⟨ret_bool (ccB_hit (k := k) (by rw [bts_len]; exact hlt) (by rw [← bts_get s k hlt]; exact isUp_out (by omega))).symm, HB.out⟩
      · clear hcell
        go_wp2
        go_ret
        exact ⟨ret_bool (ccB_all (by rw [bts_len]; exact H3.out) (fun j hj => HA.out j (by rw [bts_len] at hj; omega))).symm, HB.out⟩
  · have e3 : ((s.size : Int) == 3) = false := by simp; omega
    go_enter Try.func22, Try.ntmps22
    go_wp2
    go_ret
    exact ⟨ret_bool (ccB_len (by rw [bts_len]; exact h3)).symm, Below.refl _ _⟩
theorem zcur_any (s : ByteArray) (w : World) (hm : s.size ≤ 1048576) :
    Calls Try.prog 9 #[.string s] w fun e w' => e = .returned (.bool (ccB (bts s))) ∧ Below w.heap.size w w' := by
  go_enter Try.func9, Try.ntmps9
  go_wp2_with (go_at_call 22; refine (cur_any s _ hm).mono ?_; rintro e w' ⟨rfl, hb⟩)
  go_ret
  exact ⟨rfl, hb⟩

theorem letter_any (c : UInt8) (w : World) : Calls Try.prog 23 #[.int .u8 (c.toNat : Int)] w fun e w' => e = .returned (.bool (isLet c)) ∧ w' = w := by
  have hb : (c.toNat : Int) ≤ 255 := by have := c.toNat_lt; omega
  have ex : ∀ b : Bool, (b = true ↔ ((97 : Int) ≤ (c.toNat : Int) ∧ (c.toNat : Int) ≤ 122) ∨ ((65 : Int) ≤ (c.toNat : Int) ∧ (c.toNat : Int) ≤ 90)) → b = isLet c := fun b hb => by
    rw [Bool.eq_iff_iff, hb]; simp [isLet]; omega
  by_cases h1 : (97 : Int) ≤ (c.toNat : Int)
  · by_cases h2 : (c.toNat : Int) ≤ 122
    · have HX := hide (ex true (by simp; omega))
      clear ex
      go_enter Try.func23, Try.ntmps23
      go_wp2
      go_ret
      exact ⟨ret_bool HX.out, rfl⟩
    · have HX := hide (ex false (by simp; omega))
      have h4 : ¬ (c.toNat : Int) ≤ 90 := by omega
      have h5 : (65 : Int) ≤ (c.toNat : Int) := by omega
      clear ex
      go_enter Try.func23, Try.ntmps23
      go_wp2
      go_ret
      exact ⟨ret_bool HX.out, rfl⟩
  · by_cases h3 : (65 : Int) ≤ (c.toNat : Int)
    · by_cases h4 : (c.toNat : Int) ≤ 90
      · have HX := hide (ex true (by simp; omega))
        clear ex
        go_enter Try.func23, Try.ntmps23
        go_wp2
        go_ret
        exact ⟨ret_bool HX.out, rfl⟩
      · have HX := hide (ex false (by simp; omega))
        clear ex
        go_enter Try.func23, Try.ntmps23
        go_wp2
        go_ret
        exact ⟨ret_bool HX.out, rfl⟩
    · have HX := hide (ex false (by simp; omega))
      clear ex
      go_enter Try.func23, Try.ntmps23
      go_wp2
      go_ret
      exact ⟨ret_bool HX.out, rfl⟩

set_option maxHeartbeats 400000 in
theorem three_any (s : ByteArray) (w : World) (_hm : s.size ≤ 1048576) :
    Calls Try.prog 10 #[.string s] w fun e w' => e = .returned (.bool (tlB (bts s))) ∧ w' = w := by
  by_cases h3 : s.size = 3
  · have e3 : ((s.size : Int) == 3) = true := by simp; omega
    have e3' : ((s.size : Int) != 3) = false := by simp; omega
    have H3 := hide h3
    clear h3
    go_enter Try.func10, Try.ntmps10
    go_wp2
    go_loop [3] (fun i => ∃ k : Nat, k ≤ 3 ∧ i = .int .i64 k ∧ Hid (∀ j, j < k → isLet ((bts s).getD j 0) = true)) (fun i => 3 - (intOf i).toNat)
    case atStart => exact ⟨0, by omega, rfl, fun j hj => by omega⟩
    case round =>
      obtain ⟨k, hk, rfl, HA⟩ := hrel
      by_cases hlt3 : k < 3
      · have hlt : k < s.size := by have := H3.out; omega
        cases hl : isLet s[k] with
        | true =>
          have HL := hide hl
          clear hl
          go_wp2_with (go_at_call 23; refine (letter_any s[k] _).mono ?_; rw [HL.out]; rintro e w' ⟨rfl, rfl⟩)
          go_round
          case rel => exact ⟨k + 1, by omega, by go_num, all_succ HA.out (by rw [← bts_get s k hlt]; exact HL.out)⟩
          case measure => simp [intOf]; omega
        | false =>
          have HL := hide hl
          clear hl
          go_wp2_with (go_at_call 23; refine (letter_any s[k] _).mono ?_; rw [HL.out]; rintro e w' ⟨rfl, rfl⟩)
          go_ret
          exact ⟨ret_bool (tlB_hit (k := k) (by rw [bts_len]; exact hlt) (by rw [← bts_get s k hlt]; exact HL.out)).symm, rfl⟩
      · go_wp2
        go_ret
        exact ⟨ret_bool (tlB_all (by rw [bts_len]; exact H3.out) (fun j hj => HA.out j (by rw [bts_len, H3.out] at hj; omega))).symm, rfl⟩
  · have e3 : ((s.size : Int) == 3) = false := by simp; omega
    go_enter Try.func10, Try.ntmps10
    go_wp2
    go_ret
    exact ⟨ret_bool (tlB_len (by rw [bts_len]; exact h3)).symm, rfl⟩
end Go.Proofs.Qxb6608550a
