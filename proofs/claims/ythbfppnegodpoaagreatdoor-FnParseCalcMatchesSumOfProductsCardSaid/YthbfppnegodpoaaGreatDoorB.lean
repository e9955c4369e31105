/-
  strconv.ParseFloat on the decimal text of a whole number: plain walks (a part: special, readFloat).
-/
import Derived.Test.YthbfppnegodpoaaGreatDoorA
import Derived.PlainAid
import Derived.WalkMore
import Derived.Deep.LoopGhost
namespace Go.Proofs.YthbfppnegodpoaaGreatDoor
open Go.RowKit Go.Deep Go.PlainAid

/-- The value of the k digits from place off on. -/
def vl (s : ByteArray) (off : Nat) : Nat → Int
  | 0 => 0
  | k + 1 => 10 * vl s off k + (bt s (off + k) - 48)

/-- The text is an optional sign (off = 1) and L digits, no leading nought but "0" itself. -/
structure Dec (s : ByteArray) (off L : Nat) : Prop where
  size : s.size = off + L
  pos : 1 ≤ L
  le : L ≤ 18
  lo : ∀ i, off ≤ i → i < off + L → 48 ≤ bt s i
  hi : ∀ i, off ≤ i → i < off + L → bt s i ≤ 57
  lead : bt s off = 48 → L = 1

theorem vl_bounds {s : ByteArray} {off L : Nat} (h : Dec s off L) : ∀ k, k ≤ L → 0 ≤ vl s off k ∧ vl s off k < 10 ^ k
  | 0, _ => ⟨Int.le_refl _, by simp [vl]⟩
  | k + 1, hk => by
    obtain ⟨h1, h2⟩ := vl_bounds h k (by omega)
    have a := h.lo (off + k) (by omega) (by omega)
    have b := h.hi (off + k) (by omega) (by omega)
    rw [vl, Int.pow_succ]
    omega

theorem vl_small {s : ByteArray} {off L : Nat} (h : Dec s off L) (k : Nat) (hk : k ≤ L) : vl s off k < 1000000000000000000 := by
  have h1 := (vl_bounds h k hk).2
  have h2 : (10 : Int) ^ k ≤ 10 ^ 18 := by
    have := h.le
    exact_mod_cast Nat.pow_le_pow_right (by omega) (by omega)
  omega

theorem vl_pos {s : ByteArray} {off L : Nat} (h : Dec s off L) (h0 : (bt s off == 48) = false) : ∀ k, 1 ≤ k → k ≤ L → 1 ≤ vl s off k
  | 1, _, hk => by
    have a := h.lo off (by omega) (by omega)
    have b : bt s off ≠ 48 := beq_eq_false_iff_ne.1 h0
    simp only [vl, Nat.add_zero]
    omega
  | k + 2, _, hk => by
    have r := vl_pos h h0 (k + 1) (by omega) (by omega)
    have a := h.lo (off + (k + 1)) (by omega) (by omega)
    rw [vl]
    omega

theorem prefix_any (s : ByteArray) (w : World) (h0 : 0 < s.size) (h1 : 48 ≤ bt s 0) (h2 : bt s 0 ≤ 57) :
    Calls Tryz.prog 80 #[.string s, .string ⟨#[105, 110, 102, 105, 110, 105, 116, 121]⟩] w fun e w' => e = .returned (.int .i64 0) ∧ w = w' := by
  have hb := get_bt s
  have e2 : (bt s 0 != 105) = true := by simp; omega
  have e3 : (bt s 0 != (((⟨#[105, 110, 102, 105, 110, 105, 116, 121]⟩ : ByteArray)[0]'(by decide)).toNat : Int)) = true := e2
  go_enter Tryz.func80, Tryz.ntmps80
  go_wp2
  all_goals
    refine wp_loop_rounds 1 ?_
    rw [rounds_succ]
    go_wp2
    go_ret
    exact ⟨rfl, rfl⟩

theorem bt_tail (s : ByteArray) (k : Nat) : bt (s.extract 1 s.size) k = bt s (1 + k) := by
  unfold bt
  by_cases h : 1 + k < s.size
  · rw [dif_pos h, dif_pos (by rw [ByteArray.size_extract]; omega)]
    congr 2
    exact ByteArray.getElem_extract ..
  · rw [dif_neg h, dif_neg (by rw [ByteArray.size_extract]; omega)]

/-- Nothing special: a digit ahead, or a minus and a digit. -/
theorem special_plain (s : ByteArray) (w : World) (h0 : 0 < s.size) (h1 : 48 ≤ bt s 0) (h2 : bt s 0 ≤ 57) :
    Calls Tryz.prog 66 #[.string s] w fun e w' => e = .returned (.tuple #[.float .f64 0, .int .i64 0, .bool false]) ∧ w = w' := by
  have hb := get_bt s
  have z0 : ((s.size : Int) == 0) = false := beq_eq_false_iff_ne.2 (by omega)
  have e1 : (bt s 0 == 43) = false := by rw [beq_eq_false_iff_ne]; omega
  have e2 : (bt s 0 == 45) = false := by rw [beq_eq_false_iff_ne]; omega
  have e3 : (bt s 0 == 105) = false := by rw [beq_eq_false_iff_ne]; omega
  have e4 : (bt s 0 == 73) = false := by rw [beq_eq_false_iff_ne]; omega
  have e5 : (bt s 0 == 110) = false := by rw [beq_eq_false_iff_ne]; omega
  have e6 : (bt s 0 == 78) = false := by rw [beq_eq_false_iff_ne]; omega
  go_enter Tryz.func66, Tryz.ntmps66
  go_wp2_with fail
  go_ret3
  exact ⟨rfl, rfl⟩

theorem special_minus (s : ByteArray) (w : World) (h0 : 1 < s.size) (hm : bt s 0 = 45) (h1 : 48 ≤ bt s 1) (h2 : bt s 1 ≤ 57) :
    Calls Tryz.prog 66 #[.string s] w fun e w' => e = .returned (.tuple #[.float .f64 0, .int .i64 0, .bool false]) ∧ w = w' := by
  have hb := get_bt s
  have z0 : ((s.size : Int) == 0) = false := beq_eq_false_iff_ne.2 (by omega)
  have e1 : (bt s 0 == 43) = false := by rw [beq_eq_false_iff_ne]; omega
  have e2 : (bt s 0 == 45) = true := by rw [beq_iff_eq]; omega
  have c80 := Lib.hid (prefix_any (s.extract 1 s.size) w (by rw [ByteArray.size_extract]; omega) (by rw [bt_tail]; exact h1) (by rw [bt_tail]; exact h2))
  clear hm
  go_enter Tryz.func66, Tryz.ntmps66
  go_wp2_with fail
  refine c80.out.mono ?_
  rintro e w' ⟨rfl, rfl⟩
  go_wp2_with fail
  go_ret3
  exact ⟨rfl, rfl⟩


set_option maxHeartbeats 4000000 in
set_option maxRecDepth 100000 in
/-- readFloat on a decimal text without a sign, no nought ahead. -/
theorem read0 (s : ByteArray) (L : Nat) (w : World) (h : Dec s 0 L) (hl : bt s 0 ≠ 48) :
    Calls Tryz.prog 67 #[.string s] w fun e w' => e = .returned (.tuple #[.int .u64 (vl s 0 L), .int .i64 0, .bool false, .bool false, .bool false, .int .i64 L, .bool true]) ∧ w = w' := by
  have hb := get_bt s
  have H := Lib.hid h
  have hs : s.size = 0 + L := h.size
  have hp := h.pos
  have hle := h.le
  have a0 := h.lo 0 (by omega) (by omega)
  have b0 := h.hi 0 (by omega) (by omega)
  have e1 : (bt s 0 == 43) = false := beq_eq_false_iff_ne.2 (by omega)
  have e2 : (bt s 0 == 45) = false := beq_eq_false_iff_ne.2 (by omega)
  have e3 : (bt s 0 == 48) = false := beq_eq_false_iff_ne.2 hl
  have HS := Lib.hid hs
  have hs1 : (s.size : Int) ≤ 19 := by omega
  have hs2 : 1 ≤ (s.size : Int) := by omega
  have hs3 : 0 < s.size := by omega
  have hs4 : 0 < s.size := by omega
  clear hl h hs
  have hne : ¬ s = ByteArray.empty := fun e => by rw [e] at hs3; exact absurd hs3 (by decide)
  by_cases h2 : (2 : Int) < s.size
  all_goals
    go_enter Tryz.func67, Tryz.ntmps67
    go_wp2_with fail
    go_step3
    go_wp2_with fail
    go_step3
    go_wp2_with fail
    go_loop [2, 5, 7, 9, 13, 14, 15, 16, 17] (fun m tr i us dt sd nd ndm dp => ∃ k : Nat, k ≤ L ∧ m = .int .u64 (vl s 0 k) ∧ tr = .bool false ∧ i = .int .i64 (k : Int) ∧ us = .bool false ∧ dt = .bool false ∧ sd = .bool (decide (0 < k)) ∧ nd = .int .i64 k ∧ ndm = .int .i64 k ∧ dp = .int .i64 0) (fun _ _ i _ _ _ _ _ _ => L + 0 - (intOf i).toNat)
    case atStart => exact ⟨0, by omega, rfl, rfl, rfl, rfl, rfl, rfl, rfl, rfl, rfl⟩
    case round =>
      obtain ⟨k, hk, rfl, rfl, rfl, rfl, rfl, rfl, rfl, rfl, rfl⟩ := hrel
      by_cases hlt : k < L
      · have v0 := (vl_bounds H.out k hk).1
        have v1 := vl_small H.out k hk
        have c0 := H.out.lo (0 + k) (by omega) (by omega)
        have c1 := H.out.hi (0 + k) (by omega) (by omega)
        have hlt' : 0 + k < s.size := by rw [HS.out]; omega
        have hlt2 : (k : Int) < (s.size : Int) := by rw [HS.out]; omega
        have hv : vl s 0 (k + 1) = 10 * vl s 0 k + (bt s (0 + k) - 48) := by rw [vl]
        rw [show 0 + k = k by omega] at hv c0 c1 hlt'
        have HV := Lib.hid hv
        clear hv
        have t1 : (bt s (k) == 95) = false := beq_eq_false_iff_ne.2 (by omega)
        have t2 : (bt s (k) == 46) = false := beq_eq_false_iff_ne.2 (by omega)
        by_cases hk0 : k = 0
        · subst hk0
          go_wp2_with fail
          go_round
          case rel => exact ⟨1, by omega, by rw [HV.out]; go_num, rfl, rfl, rfl, rfl, rfl, rfl, rfl, rfl⟩
          case measure => simp [intOf]; omega
        · have t3 : ((k : Int) == 0) = false := beq_eq_false_iff_ne.2 (by omega)
          go_wp2_with fail
          all_goals
            go_round
            case rel => exact ⟨k + 1, by omega, by rw [HV.out]; go_num, rfl, by go_num, rfl, rfl, by simp, by go_num, by go_num, rfl⟩
            case measure => simp [intOf]; omega
      · obtain rfl : k = L := by omega
        have hv1 := vl_pos H.out e3 k hp (Nat.le_refl _)
        have hd : decide (0 < k) = true := decide_eq_true (by omega)
        have hse : (s.size : Int) ≤ (k : Int) := by rw [HS.out]; omega
        have hvn : (vl s 0 k != 0) = true := by rw [bne_iff_ne]; omega
        go_wp2_with fail
        refine bodyPost_ret (v := .tuple #[.int .u64 (vl s 0 k), .int .i64 0, .bool false, .bool false, .bool false, .int .i64 ↑k, .bool true]) (by simp [results, Tryz.results67, go_sem]) rfl ⟨rfl, rfl⟩

set_option maxHeartbeats 4000000 in
set_option maxRecDepth 100000 in
/-- readFloat on a decimal text with a minus, no nought ahead. -/
theorem read1 (s : ByteArray) (L : Nat) (w : World) (h : Dec s 1 L) (hm : bt s 0 = 45) (hl : bt s 1 ≠ 48) :
    Calls Tryz.prog 67 #[.string s] w fun e w' => e = .returned (.tuple #[.int .u64 (vl s 1 L), .int .i64 0, .bool true, .bool false, .bool false, .int .i64 ((L : Int) + 1), .bool true]) ∧ w = w' := by
  have hb := get_bt s
  have H := Lib.hid h
  have hs : s.size = 1 + L := h.size
  have hp := h.pos
  have hle := h.le
  have a0 := h.lo 1 (by omega) (by omega)
  have b0 := h.hi 1 (by omega) (by omega)
  have e1 : (bt s 0 == 43) = false := beq_eq_false_iff_ne.2 (by omega)
  have e2 : (bt s 0 == 45) = true := by rw [beq_iff_eq]; omega
  have e3 : (bt s 1 == 48) = false := beq_eq_false_iff_ne.2 hl
  have HS := Lib.hid hs
  have hs1 : (s.size : Int) ≤ 19 := by omega
  have hs2 : 2 ≤ (s.size : Int) := by omega
  have hs3 : 0 < s.size := by omega
  have hs4 : 1 < s.size := by omega
  clear hl h hs hm
  have hne : ¬ s = ByteArray.empty := fun e => by rw [e] at hs3; exact absurd hs3 (by decide)
  by_cases h2 : (3 : Int) < s.size
  all_goals
    go_enter Tryz.func67, Tryz.ntmps67
    go_wp2_with fail
    go_step3
    go_wp2_with fail
    go_step3
    go_wp2_with fail
    go_loop [2, 5, 7, 9, 13, 14, 15, 16, 17] (fun m tr i us dt sd nd ndm dp => ∃ k : Nat, k ≤ L ∧ m = .int .u64 (vl s 1 k) ∧ tr = .bool false ∧ i = .int .i64 ((k : Int) + 1) ∧ us = .bool false ∧ dt = .bool false ∧ sd = .bool (decide (0 < k)) ∧ nd = .int .i64 k ∧ ndm = .int .i64 k ∧ dp = .int .i64 0) (fun _ _ i _ _ _ _ _ _ => L + 1 - (intOf i).toNat)
    case atStart => exact ⟨0, by omega, rfl, rfl, rfl, rfl, rfl, rfl, rfl, rfl, rfl⟩
    case round =>
      obtain ⟨k, hk, rfl, rfl, rfl, rfl, rfl, rfl, rfl, rfl, rfl⟩ := hrel
      by_cases hlt : k < L
      · have v0 := (vl_bounds H.out k hk).1
        have v1 := vl_small H.out k hk
        have c0 := H.out.lo (1 + k) (by omega) (by omega)
        have c1 := H.out.hi (1 + k) (by omega) (by omega)
        have hlt' : 1 + k < s.size := by rw [HS.out]; omega
        have hlt2 : ((k : Int) + 1) < (s.size : Int) := by rw [HS.out]; omega
        have hv : vl s 1 (k + 1) = 10 * vl s 1 k + (bt s (1 + k) - 48) := by rw [vl]
        rw [show 1 + k = k + 1 by omega] at hv c0 c1 hlt'
        have HV := Lib.hid hv
        clear hv
        have t1 : (bt s (k + 1) == 95) = false := beq_eq_false_iff_ne.2 (by omega)
        have t2 : (bt s (k + 1) == 46) = false := beq_eq_false_iff_ne.2 (by omega)
        by_cases hk0 : k = 0
        · subst hk0
          go_wp2_with fail
          go_round
          case rel => exact ⟨1, by omega, by rw [HV.out]; go_num, rfl, rfl, rfl, rfl, rfl, rfl, rfl, rfl⟩
          case measure => simp [intOf]; omega
        · have t3 : ((k : Int) == 0) = false := beq_eq_false_iff_ne.2 (by omega)
          go_wp2_with fail
          all_goals
            go_round
            case rel => exact ⟨k + 1, by omega, by rw [HV.out]; go_num, rfl, by go_num, rfl, rfl, by simp, by go_num, by go_num, rfl⟩
            case measure => simp [intOf]; omega
      · obtain rfl : k = L := by omega
        have hv1 := vl_pos H.out e3 k hp (Nat.le_refl _)
        have hd : decide (0 < k) = true := decide_eq_true (by omega)
        have hse : (s.size : Int) ≤ ((k : Int) + 1) := by rw [HS.out]; omega
        have hvn : (vl s 1 k != 0) = true := by rw [bne_iff_ne]; omega
        go_wp2_with fail
        refine bodyPost_ret (v := .tuple #[.int .u64 (vl s 1 k), .int .i64 0, .bool true, .bool false, .bool false, .int .i64 (↑k + 1), .bool true]) (by simp [results, Tryz.results67, go_sem]) rfl ⟨rfl, rfl⟩

end Go.Proofs.YthbfppnegodpoaaGreatDoor
