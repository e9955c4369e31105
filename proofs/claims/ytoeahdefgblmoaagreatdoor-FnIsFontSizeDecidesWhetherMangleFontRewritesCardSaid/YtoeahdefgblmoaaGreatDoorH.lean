/-
  strconv.ParseFloat at the law's numbers: whole decimal texts, and 550.5.
-/
import Derived.Test.YtoeahdefgblmoaaGreatDoorA
import Derived.PlainAid
import Derived.WalkMore
import Derived.Deep.LoopGhost
namespace Go.Proofs.YtoeahdefgblmoaaGreatDoor
open Go.RowKit Go.Deep Go.PlainAid

/-- The value of the k digits from place off on. -/
def vl (s : ByteArray) (off : Nat) : Nat → Int
  | 0 => 0
  | k + 1 => 10 * vl s off k + (bt s (off + k) - 48)

/-- The text is an optional sign (off = 1) and L digits, no leading nought but "0" itself. -/
structure Dec (s : ByteArray) (off L : Nat) : Prop where
  size : s.size = off + L
  pos : 1 ≤ L
  le : L ≤ 18
  lo : ∀ i, off ≤ i → i < off + L → 48 ≤ bt s i
  hi : ∀ i, off ≤ i → i < off + L → bt s i ≤ 57
  lead : bt s off = 48 → L = 1

theorem vl_bounds {s : ByteArray} {off L : Nat} (h : Dec s off L) : ∀ k, k ≤ L → 0 ≤ vl s off k ∧ vl s off k < 10 ^ k
  | 0, _ => ⟨Int.le_refl _, by simp [vl]⟩
  | k + 1, hk => by
    obtain ⟨h1, h2⟩ := vl_bounds h k (by omega)
    have a := h.lo (off + k) (by omega) (by omega)
    have b := h.hi (off + k) (by omega) (by omega)
    rw [vl, Int.pow_succ]
    omega

theorem vl_small {s : ByteArray} {off L : Nat} (h : Dec s off L) (k : Nat) (hk : k ≤ L) : vl s off k < 1000000000000000000 := by
  have h1 := (vl_bounds h k hk).2
  have h2 : (10 : Int) ^ k ≤ 10 ^ 18 := by
    have := h.le
    exact_mod_cast Nat.pow_le_pow_right (by omega) (by omega)
  omega

theorem vl_pos {s : ByteArray} {off L : Nat} (h : Dec s off L) (h0 : (bt s off == 48) = false) : ∀ k, 1 ≤ k → k ≤ L → 1 ≤ vl s off k
  | 1, _, hk => by
    have a := h.lo off (by omega) (by omega)
    have b : bt s off ≠ 48 := beq_eq_false_iff_ne.1 h0
    simp only [vl, Nat.add_zero]
    omega
  | k + 2, _, hk => by
    have r := vl_pos h h0 (k + 1) (by omega) (by omega)
    have a := h.lo (off + (k + 1)) (by omega) (by omega)
    rw [vl]
    omega

/-- Nothing special: a digit ahead, or a minus and a digit. -/
theorem special_plain (s : ByteArray) (w : World) (h0 : 0 < s.size) (h1 : 48 ≤ bt s 0) (h2 : bt s 0 ≤ 57) :
    Calls Tryz.prog 64 #[.string s] w fun e w' => e = .returned (.tuple #[.float .f64 0, .int .i64 0, .bool false]) ∧ w = w' := by
  have hb := get_bt s
  have z0 : ((s.size : Int) == 0) = false := beq_eq_false_iff_ne.2 (by omega)
  have e1 : (bt s 0 == 43) = false := by rw [beq_eq_false_iff_ne]; omega
  have e2 : (bt s 0 == 45) = false := by rw [beq_eq_false_iff_ne]; omega
  have e3 : (bt s 0 == 105) = false := by rw [beq_eq_false_iff_ne]; omega
  have e4 : (bt s 0 == 73) = false := by rw [beq_eq_false_iff_ne]; omega
  have e5 : (bt s 0 == 110) = false := by rw [beq_eq_false_iff_ne]; omega
  have e6 : (bt s 0 == 78) = false := by rw [beq_eq_false_iff_ne]; omega
  go_enter Tryz.func64, Tryz.ntmps64
  go_wp2_with fail
  go_ret3
  exact ⟨rfl, rfl⟩

set_option maxHeartbeats 4000000 in
set_option maxRecDepth 100000 in
/-- readFloat on a decimal text without a sign, no nought ahead. -/
theorem read0 (s : ByteArray) (L : Nat) (w : World) (h : Dec s 0 L) (hl : bt s 0 ≠ 48) :
    Calls Tryz.prog 65 #[.string s] w fun e w' => e = .returned (.tuple #[.int .u64 (vl s 0 L), .int .i64 0, .bool false, .bool false, .bool false, .int .i64 L, .bool true]) ∧ w = w' := by
  have hb := get_bt s
  have H := Lib.hid h
  have hs : s.size = 0 + L := h.size
  have hp := h.pos
  have hle := h.le
  have a0 := h.lo 0 (by omega) (by omega)
  have b0 := h.hi 0 (by omega) (by omega)
  have e1 : (bt s 0 == 43) = false := beq_eq_false_iff_ne.2 (by omega)
  have e2 : (bt s 0 == 45) = false := beq_eq_false_iff_ne.2 (by omega)
  have e3 : (bt s 0 == 48) = false := beq_eq_false_iff_ne.2 hl
  have HS := Lib.hid hs
  have hs1 : (s.size : Int) ≤ 19 := by omega
  have hs2 : 1 ≤ (s.size : Int) := by omega
  have hs3 : 0 < s.size := by omega
  have hs4 : 0 < s.size := by omega
  clear hl h hs
  have hne : ¬ s = ByteArray.empty := fun e => by rw [e] at hs3; exact absurd hs3 (by decide)
  by_cases h2 : (2 : Int) < s.size
  all_goals
    go_enter Tryz.func65, Tryz.ntmps65
    go_wp2_with fail
    go_step3
    go_wp2_with fail
    go_step3
    go_wp2_with fail
    go_loop [2, 5, 7, 9, 13, 14, 15, 16, 17] (fun m tr i us dt sd nd ndm dp => ∃ k : Nat, k ≤ L ∧ m = .int .u64 (vl s 0 k) ∧ tr = .bool false ∧ i = .int .i64 (k : Int) ∧ us = .bool false ∧ dt = .bool false ∧ sd = .bool (decide (0 < k)) ∧ nd = .int .i64 k ∧ ndm = .int .i64 k ∧ dp = .int .i64 0) (fun _ _ i _ _ _ _ _ _ => L + 0 - (intOf i).toNat)
    case atStart => exact ⟨0, by omega, rfl, rfl, rfl, rfl, rfl, rfl, rfl, rfl, rfl⟩
    case round =>
      obtain ⟨k, hk, rfl, rfl, rfl, rfl, rfl, rfl, rfl, rfl, rfl⟩ := hrel
      by_cases hlt : k < L
      · have v0 := (vl_bounds H.out k hk).1
        have v1 := vl_small H.out k hk
        have c0 := H.out.lo (0 + k) (by omega) (by omega)
        have c1 := H.out.hi (0 + k) (by omega) (by omega)
        have hlt' : 0 + k < s.size := by rw [HS.out]; omega
        have hlt2 : (k : Int) < (s.size : Int) := by rw [HS.out]; omega
        have hv : vl s 0 (k + 1) = 10 * vl s 0 k + (bt s (0 + k) - 48) := by rw [vl]
        rw [show 0 + k = k by omega] at hv c0 c1 hlt'
        have HV := Lib.hid hv
        clear hv
        have t1 : (bt s (k) == 95) = false := beq_eq_false_iff_ne.2 (by omega)
        have t2 : (bt s (k) == 46) = false := beq_eq_false_iff_ne.2 (by omega)
        by_cases hk0 : k = 0
        · subst hk0
          go_wp2_with fail
          go_round
          case rel => exact ⟨1, by omega, by rw [HV.out]; go_num, rfl, rfl, rfl, rfl, rfl, rfl, rfl, rfl⟩
          case measure => simp [intOf]; omega
        · have t3 : ((k : Int) == 0) = false := beq_eq_false_iff_ne.2 (by omega)
          go_wp2_with fail
          all_goals
            go_round
            case rel => exact ⟨k + 1, by omega, by rw [HV.out]; go_num, rfl, by go_num, rfl, rfl, by simp, by go_num, by go_num, rfl⟩
            case measure => simp [intOf]; omega
      · obtain rfl : k = L := by omega
        have hv1 := vl_pos H.out e3 k hp (Nat.le_refl _)
        have hd : decide (0 < k) = true := decide_eq_true (by omega)
        have hse : (s.size : Int) ≤ (k : Int) := by rw [HS.out]; omega
        have hvn : (vl s 0 k != 0) = true := by rw [bne_iff_ne]; omega
        go_wp2_with fail
        refine bodyPost_ret (v := .tuple #[.int .u64 (vl s 0 k), .int .i64 0, .bool false, .bool false, .bool false, .int .i64 ↑k, .bool true]) (by simp [results, Tryz.results65, go_sem]) rfl ⟨rfl, rfl⟩

theorem bool2_any (b : Bool) (w : World) : Calls Tryz.prog 73 #[.bool b] w fun e w' => e = .returned (.int .u64 (if b then 1 else 0)) ∧ w = w' := by
  cases b
  all_goals
    go_enter Tryz.func73, Tryz.ntmps73
    go_wp2
    go_ret
    exact ⟨rfl, rfl⟩

set_option maxHeartbeats 1000000 in
set_option maxRecDepth 100000 in
theorem exact_f (m : Int) (w : World) (h0 : 0 ≤ m) (h1 : m < 4503599627370496) (hc : w.cell? ⟨11, 0, none⟩ = some (.int .u64 52)) :
    Calls Tryz.prog 75 #[.int .u64 m, .int .i64 0, .bool false] w fun e w' => e = .returned (.tuple #[.float .f64 (floatOfInt .f64 m), .bool true]) ∧ w = w' := by
  go_enter Tryz.func75, Tryz.ntmps75
  go_wp2
  go_ret2
  exact ⟨rfl, rfl⟩

set_option maxRecDepth 100000 in
theorem pf56 (s : ByteArray) (x : Nat) (n : Int) (w : World) (h : Calls Tryz.prog 54 #[.string s] w fun e w' => e = .returned (.tuple #[.float .f64 x, .int .i64 n, .nilIface]) ∧ w = w') :
    Calls Tryz.prog 41 #[.string s, .int .i64 64] w fun e w' => e = .returned (.tuple #[.float .f64 x, .int .i64 n, .nilIface]) ∧ w = w' := by
  have H := Lib.hid h
  clear h
  go_enter Tryz.func41, Tryz.ntmps41
  go_wp2_with fail
  refine H.out.mono ?_
  rintro e w' ⟨rfl, rfl⟩
  go_wp2_with fail
  go_ret3
  exact ⟨rfl, rfl⟩

set_option maxRecDepth 100000 in
theorem pf50 (s : ByteArray) (x : Nat) (w : World) (h : Calls Tryz.prog 54 #[.string s] w fun e w' => e = .returned (.tuple #[.float .f64 x, .int .i64 s.size, .nilIface]) ∧ w = w') :
    Calls Tryz.prog 31 #[.string s, .int .i64 64] w fun e w' => e = .returned (.tuple #[.float .f64 x, .nilIface]) ∧ w = w' := by
  have H := Lib.hid (pf56 s x _ w h)
  have hz : ((s.size : Int) != s.size) = false := by simp
  clear h
  go_enter Tryz.func31, Tryz.ntmps31
  go_wp2_with fail
  refine H.out.mono ?_
  rintro e w' ⟨rfl, rfl⟩
  go_wp2_with fail
  go_ret2
  exact ⟨rfl, rfl⟩

set_option maxRecDepth 100000 in
theorem pf41 (s : ByteArray) (x : Nat) (w : World) (h : Calls Tryz.prog 54 #[.string s] w fun e w' => e = .returned (.tuple #[.float .f64 x, .int .i64 s.size, .nilIface]) ∧ w = w') :
    Calls Tryz.prog 22 #[.string s, .int .i64 64] w fun e w' => e = .returned (.tuple #[.float .f64 x, .nilIface]) ∧ w = w' := by
  have H := Lib.hid (pf50 s x w h)
  clear h
  go_enter Tryz.func22, Tryz.ntmps22
  go_wp2_with fail
  refine H.out.mono ?_
  rintro e w' ⟨rfl, rfl⟩
  go_wp2_with fail
  go_outline
  go_ret2
  exact ⟨rfl, rfl⟩


/-- What is known of the tables that the road reads. -/
structure Tabs (w : World) : Prop where
  opt : w.cell? ⟨10, 0, none⟩ = some (.bool true)
  info : w.cell? ⟨11, 0, none⟩ = some (.int .u64 52)
  ten : ∃ R oR cap, w.cell? ⟨14, 0, none⟩ = some (.slice (some ⟨R, oR, none⟩) 23 cap) ∧ w.cell? ⟨R, oR + 1, none⟩ = some (.float .f64 4621819117588971520)
theorem Tabs.below {w w' : World} (h : Tabs w) (hb : Below w.heap.size w w') : Tabs w' := by
  obtain ⟨h1, h2, R, oR, cap, h3, h4⟩ := h
  exact ⟨cell_later hb h1, cell_later hb h2, R, oR, cap, cell_later hb h3, cell_later hb h4⟩

set_option maxHeartbeats 4000000 in
set_option maxRecDepth 100000 in
/-- readFloat on 550.5. -/
theorem read_dot (s : ByteArray) (w : World) (h5 : s.size = 5) (h0 : bt s 0 = 53) (h1 : bt s 1 = 53) (h2 : bt s 2 = 48) (h3 : bt s 3 = 46) (h4 : bt s 4 = 53) :
    Calls Tryz.prog 65 #[.string s] w fun e w' => e = .returned (.tuple #[.int .u64 5505, .int .i64 (-1), .bool false, .bool false, .bool false, .int .i64 5, .bool true]) ∧ w = w' := by
  have hb := get_bt s
  have hne : ¬ s = ByteArray.empty := fun e => by rw [e] at h5; exact absurd h5 (by decide)
  go_enter Tryz.func65, Tryz.ntmps65
  go_wp2_with fail
  go_step3
  go_wp2_with fail
  go_step3
  go_wp2_with fail
  refine wp_loop_rounds 6 ?_
  iterate 6
    rw [rounds_succ]
    go_wp2_with fail
  rw [Exit.noGoto_ret]
  refine bodyPost_ret (v := .tuple #[.int .u64 5505, .int .i64 (-1), .bool false, .bool false, .bool false, .int .i64 5, .bool true]) (by simp [results, Tryz.results65, go_sem]) rfl ⟨rfl, rfl⟩

set_option maxHeartbeats 1000000 in
set_option maxRecDepth 100000 in
theorem exact_dot (w : World) (R oR cap : Nat) (hc : w.cell? ⟨11, 0, none⟩ = some (.int .u64 52)) (h3 : w.cell? ⟨14, 0, none⟩ = some (.slice (some ⟨R, oR, none⟩) 23 cap)) (h4 : w.cell? ⟨R, oR + 1, none⟩ = some (.float .f64 4621819117588971520)) :
    Calls Tryz.prog 75 #[.int .u64 5505, .int .i64 (-1), .bool false] w fun e w' => e = .returned (.tuple #[.float .f64 4648053465027706880, .bool true]) ∧ w = w' := by
  have hq := fun (t : TypeId) (W : World) => run_float_arith (P := Tryz.prog) W .quo t .f64 (floatOfInt .f64 5505) 4621819117588971520 4648053465027706880 (by decide +kernel)
  go_enter Tryz.func75, Tryz.ntmps75
  go_wp2_with fail
  go_ret2
  exact ⟨rfl, rfl⟩

set_option maxHeartbeats 1000000 in
set_option maxRecDepth 100000 in
/-- atof64, given what special, readFloat and atof64exact say; the number is not nought. -/
theorem atof_any (s : ByteArray) (m n p : Int) (x : Nat) (w : World) (hT : Tabs w) (h0 : 1 ≤ m) (h1 : m < 4503599627370496) (hp : -2 < p ∧ p < 2)
    (hs : Calls Tryz.prog 64 #[.string s] w fun e w' => e = .returned (.tuple #[.float .f64 0, .int .i64 0, .bool false]) ∧ w = w')
    (hr : Calls Tryz.prog 65 #[.string s] w fun e w' => e = .returned (.tuple #[.int .u64 m, .int .i64 p, .bool false, .bool false, .bool false, .int .i64 n, .bool true]) ∧ w = w')
    (he : Calls Tryz.prog 75 #[.int .u64 m, .int .i64 p, .bool false] w fun e w' => e = .returned (.tuple #[.float .f64 x, .bool true]) ∧ w = w') :
    Calls Tryz.prog 54 #[.string s] w fun e w' => e = .returned (.tuple #[.float .f64 x, .int .i64 n, .nilIface]) ∧ w = w' := by
  have HS := Lib.hid hs
  have HR := Lib.hid hr
  have HE := Lib.hid he
  have c9 := hT.opt
  have em : (m == 0) = false := beq_eq_false_iff_ne.2 (by omega)
  obtain ⟨p0, p1⟩ := hp
  clear hs hr he
  go_enter Tryz.func54, Tryz.ntmps54
  go_wp2_with fail
  refine HS.out.mono ?_
  rintro e w' ⟨rfl, rfl⟩
  go_wp2_with fail
  refine HR.out.mono ?_
  rintro e w' ⟨rfl, rfl⟩
  go_wp2_with fail
  refine (bool2_any _ _).mono ?_
  rintro e w' ⟨rfl, rfl⟩
  go_wp2_with fail
  refine HE.out.mono ?_
  rintro e w' ⟨rfl, rfl⟩
  go_wp2_with fail
  go_ret3
  exact ⟨rfl, rfl⟩

/-- A number between one and a thousand, as ParseFloat reads it. -/
def Okay (s : ByteArray) (w : World) : Prop := ∃ x : Nat, (FloatKind.f64.format.order x 4607182418800017408 == some .lt) = false ∧ (FloatKind.f64.format.order x 4652007308841189376 == some .gt) = false ∧
  Calls Tryz.prog 22 #[.string s, .int .i64 64] w fun e w' => e = .returned (.tuple #[.float .f64 x, .nilIface]) ∧ w = w'

theorem okay_whole (s : ByteArray) (L : Nat) (x : Nat) (w : World) (hT : Tabs w) (h : Dec s 0 L) (hl : bt s 0 ≠ 48) (hx : floatOfInt .f64 (vl s 0 L) = x) (h1 : 1 ≤ vl s 0 L) (h2 : vl s 0 L < 4503599627370496)
    (o1 : (FloatKind.f64.format.order x 4607182418800017408 == some .lt) = false) (o2 : (FloatKind.f64.format.order x 4652007308841189376 == some .gt) = false) : Okay s w := by
  have hsz := h.size
  have lo := h.lo 0 (by omega) (by have := h.pos; omega)
  have hi := h.hi 0 (by omega) (by have := h.pos; omega)
  have hp := h.pos
  refine ⟨x, o1, o2, pf41 s x w ?_⟩
  have := atof_any s (vl s 0 L) L 0 x w hT h1 h2 (by omega) (special_plain s w (by omega) lo hi) (read0 s L w h hl) (by rw [← hx]; exact exact_f _ w (by omega) h2 hT.info)
  rw [show ((s.size : Nat) : Int) = (L : Int) by omega]
  exact this

theorem okay_dot (w : World) (hT : Tabs w) : Okay ⟨#[53, 53, 48, 46, 53]⟩ w := by
  obtain ⟨R, oR, cap, h3, h4⟩ := hT.ten
  refine ⟨4648053465027706880, by decide +kernel, by decide +kernel, pf41 _ _ w ?_⟩
  exact atof_any _ 5505 5 (-1) _ w hT (by omega) (by omega) (by omega) (special_plain _ w (by decide) (by decide) (by decide)) (read_dot _ w rfl rfl rfl rfl rfl rfl) (exact_dot w R oR cap hT.info h3 h4)

theorem okay_400 (w : World) (hT : Tabs w) : Okay ⟨#[52, 48, 48]⟩ w :=
  okay_whole _ 3 4645744490609377280 w hT ⟨rfl, by decide, by decide, fun i _ hi => (by decide : ∀ i : Fin 3, 48 ≤ bt ⟨#[52, 48, 48]⟩ i.val) ⟨i, by omega⟩, fun i _ hi => (by decide : ∀ i : Fin 3, bt ⟨#[52, 48, 48]⟩ i.val ≤ 57) ⟨i, by omega⟩, by decide⟩ (by decide) (by decide +kernel) (by decide) (by decide) (by decide +kernel) (by decide +kernel)
theorem okay_1 (w : World) (hT : Tabs w) : Okay ⟨#[49]⟩ w :=
  okay_whole _ 1 4607182418800017408 w hT ⟨rfl, by decide, by decide, fun i _ hi => (by decide : ∀ i : Fin 1, 48 ≤ bt ⟨#[49]⟩ i.val) ⟨i, by omega⟩, fun i _ hi => (by decide : ∀ i : Fin 1, bt ⟨#[49]⟩ i.val ≤ 57) ⟨i, by omega⟩, by decide⟩ (by decide) (by decide +kernel) (by decide) (by decide) (by decide +kernel) (by decide +kernel)
theorem okay_1000 (w : World) (hT : Tabs w) : Okay ⟨#[49, 48, 48, 48]⟩ w :=
  okay_whole _ 4 4652007308841189376 w hT ⟨rfl, by decide, by decide, fun i _ hi => (by decide : ∀ i : Fin 4, 48 ≤ bt ⟨#[49, 48, 48, 48]⟩ i.val) ⟨i, by omega⟩, fun i _ hi => (by decide : ∀ i : Fin 4, bt ⟨#[49, 48, 48, 48]⟩ i.val ≤ 57) ⟨i, by omega⟩, by decide⟩ (by decide) (by decide +kernel) (by decide) (by decide) (by decide +kernel) (by decide +kernel)
end Go.Proofs.YtoeahdefgblmoaaGreatDoor
