/-
  Plain laws: the float of a whole number and its negation; the decimal text read back.
-/
import Derived.Test.YthbfppnegodpoaaGreatDoorE
namespace Go.Proofs.YthbfppnegodpoaaGreatDoor
open Go.RowKit Go.Deep Go.PlainAid Ieee

/-- The rung of a whole number. -/
theorem nearest_word (f : Format) (mag : Nat) (place : Int) : ∃ R, R ≤ f.infRung ∧ ∀ neg, f.nearest neg mag place = f.word neg R := by
  by_cases h : mag = 0
  · exact ⟨0, Nat.zero_le _, fun neg => by unfold Format.nearest; rw [if_pos h]⟩
  · refine ⟨min ((max (place + mag.log2 - f.fractionBits) f.leastPlace - f.leastPlace).toNat * f.binade + Toward.even.cut false (mag <<< (place - max (place + mag.log2 - f.fractionBits) f.leastPlace).toNat) (max (place + mag.log2 - f.fractionBits) f.leastPlace - place).toNat) f.infRung, Nat.min_le_right _ _, fun neg => ?_⟩
    unfold Format.nearest
    rw [if_neg h]
    rfl

theorem xor_top (R : Nat) (h : R < 2 ^ 63) : R ^^^ 2 ^ 63 = 2 ^ 63 + R := by
  apply Nat.eq_of_testBit_eq
  intro j
  rw [Nat.testBit_xor, Nat.testBit_two_pow]
  by_cases hj : j = 63
  · subst hj
    rw [Nat.testBit_two_pow_add_eq, Nat.testBit_lt_two_pow h]
    rfl
  · rcases Nat.lt_or_ge j 63 with hl | hl
    · rw [Nat.testBit_two_pow_add_gt hl]
      simp [show ¬ 63 = j by omega]
    · have h1 : R < 2 ^ j := Nat.lt_of_lt_of_le h (Nat.pow_le_pow_right (by omega) hl)
      have h2 : 2 ^ 63 + R < 2 ^ j := by
        have : 2 ^ (63 + 1) ≤ 2 ^ j := Nat.pow_le_pow_right (by omega) (by omega)
        rw [Nat.pow_succ] at this
        omega
      rw [Nat.testBit_lt_two_pow h1, Nat.testBit_lt_two_pow h2]
      simp [show ¬ 63 = j by omega]

theorem double_inf : double.infRung < 2 ^ 63 := by decide +kernel
theorem double_sign : double.signWeight = 2 ^ 63 := by decide +kernel

/-- A whole number's word is no NaN: it equals itself. -/
theorem word_eq (neg : Bool) (R : Nat) (h : R ≤ double.infRung) : (double.order (double.word neg R) (double.word neg R) == some Ordering.eq) = true := by
  have hs := double_sign
  have hi := double_inf
  have hm : double.word neg R % double.signWeight = R := by
    unfold Format.word
    cases neg
    · rw [if_neg Bool.false_ne_true]; exact Nat.mod_eq_of_lt (by omega)
    · rw [if_pos rfl, Nat.add_mod_left]; exact Nat.mod_eq_of_lt (by omega)
  unfold Format.order Format.read
  simp only [hm]
  by_cases h1 : R < double.binade
  · simp only [if_pos h1, Datum.order]
    simp [compare, compareOfLessAndEq]
  · by_cases h2 : R < double.infRung
    · simp only [if_neg h1, if_pos h2, Datum.order]
      simp [compare, compareOfLessAndEq]
    · obtain rfl : R = double.infRung := by omega
      simp only [if_neg h1, if_neg h2, if_pos, Datum.order]
      simp [compare, compareOfLessAndEq]

/-- The float of a whole number, whichever way it is made. -/
theorem flo_eq (n : Int) : flo n.natAbs (decide (n < 0)) = floatOfInt .f64 n := by
  obtain ⟨R, hR, hw⟩ := nearest_word double n.natAbs 0
  have e1 : floatOfInt .f64 n = double.word (decide (n < 0)) R := hw (decide (n < 0))
  have e2 : floatOfInt .f64 (n.natAbs : Int) = double.word false R := by
    have h2 := hw false
    have : decide ((n.natAbs : Int) < 0) = false := by simp
    show double.nearest (decide ((n.natAbs : Int) < 0)) (n.natAbs : Int).natAbs 0 = _
    rw [this, Int.natAbs_natCast]
    exact h2
  rw [e1]
  by_cases hn : n < 0
  · rw [decide_eq_true hn, flo, if_pos rfl, e2]
    show (if false = true then double.signWeight + R else R) ^^^ 2 ^ (double.exponentBits + double.fractionBits) = if true = true then double.signWeight + R else R
    rw [if_neg Bool.false_ne_true, if_pos rfl]
    show R ^^^ 2 ^ 63 = _
    rw [xor_top R (Nat.lt_of_le_of_lt hR double_inf), double_sign]
  · rw [decide_eq_false hn, flo, if_neg Bool.false_ne_true, e2]

theorem flo_self (n : Int) : (double.order (floatOfInt .f64 n) (floatOfInt .f64 n) == some Ordering.eq) = true := by
  obtain ⟨R, hR, hw⟩ := nearest_word double n.natAbs 0
  have e1 : floatOfInt .f64 n = double.word (decide (n < 0)) R := hw (decide (n < 0))
  rw [e1]
  exact word_eq _ R hR

theorem flo_zero : floatOfInt .f64 0 = 0 := by decide +kernel

/-- '==' and '!=' on such floats. -/
theorem run_eq_flo (n : Int) (t : TypeId) (w : World) : (binOp .eql t (.float .f64 (floatOfInt .f64 n)) (.float .f64 (floatOfInt .f64 n))).run Tryz.prog w = .ok (.bool true) w := by
  have h : (FloatKind.f64.format.order (floatOfInt .f64 n) (floatOfInt .f64 n) == some Ordering.eq) = true := flo_self n
  simp [binOp, Op.floatCmp, h]
theorem run_ne_flo (n : Int) (t : TypeId) (w : World) : (binOp .neq t (.float .f64 (floatOfInt .f64 n)) (.float .f64 (floatOfInt .f64 n))).run Tryz.prog w = .ok (.bool false) w := by
  have h : (FloatKind.f64.format.order (floatOfInt .f64 n) (floatOfInt .f64 n) == some Ordering.eq) = true := flo_self n
  simp [binOp, Op.floatCmp, bne, h]

/-! ### The decimal text, read back -/

/-- The number that a list of digits stands for. -/
def vd : List Int → Int := List.foldl (fun a d => 10 * a + (d - 48)) 0

theorem vd_snoc (ds : List Int) (d : Int) : vd (ds ++ [d]) = 10 * vd ds + (d - 48) := by
  unfold vd
  rw [List.foldl_append]
  rfl

theorem vd_dz (u : Nat) : vd (dz u) = u := by
  induction u using Nat.strongRecOn with
  | _ u ih =>
    rw [dz]
    by_cases h : u < 10
    · rw [dif_pos h]; simp [vd]; omega
    · rw [dif_neg h, vd_snoc, ih (u / 10) (by omega)]
      omega

theorem dz_digits (u : Nat) : ∀ d ∈ dz u, 48 ≤ d ∧ d ≤ 57 := by
  induction u using Nat.strongRecOn with
  | _ u ih =>
    rw [dz]
    by_cases h : u < 10
    · rw [dif_pos h]; intro d hd; simp at hd; omega
    · rw [dif_neg h]
      intro d hd
      rcases List.mem_append.1 hd with hd | hd
      · exact ih (u / 10) (by omega) d hd
      · simp at hd; omega

theorem dz_lead (u : Nat) (h0 : 0 < u) : (dz u).getD 0 0 ≠ 48 := by
  induction u using Nat.strongRecOn with
  | _ u ih =>
    rw [dz]
    by_cases h : u < 10
    · rw [dif_pos h]; simp; omega
    · rw [dif_neg h]
      have := ih (u / 10) (by omega) (by omega)
      rw [List.getD_eq_getElem?_getD, List.getElem?_append_left (dz_pos _), ← List.getD_eq_getElem?_getD]
      exact this

theorem nums_get (xs : List Int) (i : Nat) (hi : i < xs.length) (hs : i < (strOfNums xs).size) : (strOfNums xs)[i]'hs = UInt8.ofNat (xs[i].toNat) := by
  have hh : i < ((xs.map fun n => UInt8.ofNat n.toNat).toArray).size := by simpa using hi
  have : (strOfNums xs)[i]'hs = ((xs.map fun n => UInt8.ofNat n.toNat).toArray)[i]'hh := rfl
  rw [this, List.getElem_toArray, List.getElem_map]

theorem bt_nums (xs : List Int) (h : ∀ x ∈ xs, 0 ≤ x ∧ x ≤ 255) (i : Nat) (hi : i < xs.length) : bt (strOfNums xs) i = xs.getD i 0 := by
  have hs : i < (strOfNums xs).size := by rw [strOfNums_size]; exact hi
  unfold bt
  rw [dif_pos hs]
  have hx := h xs[i] (List.getElem_mem hi)
  have e : (strOfNums xs)[i]'hs = UInt8.ofNat (xs[i].toNat) := by
    exact nums_get xs i hi hs
  rw [e, List.getD_eq_getElem?_getD, List.getElem?_eq_getElem hi, Option.getD_some, UInt8.toNat_ofNat']
  rw [Nat.mod_eq_of_lt (by omega)]
  omega

theorem vl_take (s : ByteArray) (off : Nat) (ds : List Int) (h : ∀ i, i < ds.length → bt s (off + i) = ds.getD i 0) : ∀ k, k ≤ ds.length → vl s off k = vd (ds.take k)
  | 0, _ => rfl
  | k + 1, hk => by
    rw [vl, vl_take s off ds h k (by omega), List.take_succ_eq_append_getElem (by omega), vd_snoc, h k (by omega), List.getD_eq_getElem?_getD, List.getElem?_eq_getElem (by omega)]
    rfl

/-- The text of a number: how its bytes read. -/
theorem num_text (n : Int) (h1 : -2147483648 ≤ n) (h2 : n ≤ 2147483647) (hn : n ≠ 0) :
    Dec (strOfNums (numZ n)) (if n < 0 then 1 else 0) (dz n.natAbs).length ∧ (n < 0 → bt (strOfNums (numZ n)) 0 = 45) ∧ bt (strOfNums (numZ n)) (if n < 0 then 1 else 0) ≠ 48 ∧
      vl (strOfNums (numZ n)) (if n < 0 then 1 else 0) (dz n.natAbs).length = n.natAbs := by
  have hd := dz_digits n.natAbs
  have hl := dz_length 9 n.natAbs (by omega)
  have hp := dz_pos n.natAbs
  have hlead := dz_lead n.natAbs (by omega)
  have hv := vd_dz n.natAbs
  obtain ⟨ds, hds⟩ : ∃ ds, ds = dz n.natAbs := ⟨_, rfl⟩
  rw [← hds] at hd hl hp hlead hv ⊢
  have hgd : ∀ i, i < ds.length → 48 ≤ ds.getD i 0 ∧ ds.getD i 0 ≤ 57 := fun i hi => by
    rw [List.getD_eq_getElem?_getD, List.getElem?_eq_getElem hi]
    exact hd _ (List.getElem_mem hi)
  by_cases hneg : n < 0
  · simp only [if_pos hneg]
    have e : numZ n = 45 :: ds := by unfold numZ; rw [if_pos hneg, hds]
    rw [e]
    have hr : ∀ x ∈ (45 :: ds), (0 : Int) ≤ x ∧ x ≤ 255 := fun x hx => by
      rcases List.mem_cons.1 hx with rfl | hx
      · omega
      · have := hd x hx; omega
    have hb : ∀ i, i < ds.length → bt (strOfNums (45 :: ds)) (1 + i) = ds.getD i 0 := fun i hi => by
      rw [bt_nums _ hr (1 + i) (by simp; omega), Nat.add_comm 1 i]
      rfl
    have hlast : bt (strOfNums (45 :: ds)) 1 ≠ 48 := by
      have := hb 0 hp
      rw [Nat.add_zero] at this
      rw [this]
      exact hlead
    refine ⟨⟨by rw [strOfNums_size, List.length_cons]; omega, hp, by omega, fun i h1 h2 => ?_, fun i h1 h2 => ?_, fun h => absurd h hlast⟩, fun _ => bt_nums _ hr 0 (by simp), hlast, ?_⟩
    · have := hb (i - 1) (by omega)
      rw [show 1 + (i - 1) = i by omega] at this
      rw [this]
      exact (hgd _ (by omega)).1
    · have := hb (i - 1) (by omega)
      rw [show 1 + (i - 1) = i by omega] at this
      rw [this]
      exact (hgd _ (by omega)).2
    · rw [vl_take _ 1 ds hb _ (Nat.le_refl _), List.take_length, hv]
  · simp only [if_neg hneg]
    have e : numZ n = ds := by unfold numZ; rw [if_neg hneg, hds]
    rw [e]
    have hr : ∀ x ∈ ds, (0 : Int) ≤ x ∧ x ≤ 255 := fun x hx => by have := hd x hx; omega
    have hb : ∀ i, i < ds.length → bt (strOfNums ds) (0 + i) = ds.getD i 0 := fun i hi => by rw [Nat.zero_add]; exact bt_nums _ hr i hi
    have hlast : bt (strOfNums ds) 0 ≠ 48 := by
      rw [bt_nums _ hr 0 hp]
      exact hlead
    refine ⟨⟨by rw [strOfNums_size]; omega, hp, by omega, fun i h1 h2 => ?_, fun i h1 h2 => ?_, fun h => absurd h hlast⟩, fun h => absurd h hneg, hlast, ?_⟩
    · have := hb i (by omega)
      rw [Nat.zero_add] at this
      rw [this]
      exact (hgd _ (by omega)).1
    · have := hb i (by omega)
      rw [Nat.zero_add] at this
      rw [this]
      exact (hgd _ (by omega)).2
    · rw [vl_take _ 0 ds hb _ (Nat.le_refl _), List.take_length, hv]

/-- strconv.ParseFloat on the decimal text of a number: the number's own float, no error. -/
theorem parse_num (n : Int) (h1 : -2147483648 ≤ n) (h2 : n ≤ 2147483647) (W : World) (hT : Tabs W) :
    Calls Tryz.prog 41 #[.string (strOfNums (numZ n)), .int .i64 64] W fun e w' => e = .returned (.tuple #[.float .f64 (floatOfInt .f64 n), .nilIface]) ∧ W = w' := by
  by_cases h0 : n = 0
  · subst h0
    have e : numZ 0 = [48] := by
      unfold numZ
      rw [if_neg (by omega), dz, dif_pos (by decide)]
      rfl
    have hr : ∀ x ∈ ([48] : List Int), (0 : Int) ≤ x ∧ x ≤ 255 := fun x hx => by simp at hx; omega
    rw [e, flo_zero]
    have hs : (strOfNums [48]).size = 1 := rfl
    refine pf41 _ _ _ ?_
    rw [hs]
    exact atof_zero _ _ hT hs (bt_nums _ hr 0 (by simp))
  · obtain ⟨hD, hm, hl, hv⟩ := num_text n h1 h2 h0
    rw [← flo_eq n]
    refine pf41 _ _ _ ?_
    have hsz := hD.size
    have hlen := hD.pos
    have lo := hD.lo
    have hi := hD.hi
    by_cases hneg : n < 0
    · simp only [if_pos hneg] at hD hl hv hsz lo hi
      rw [decide_eq_true hneg, hsz]
      have := atof_any _ (n.natAbs : Int) (((dz n.natAbs).length : Int) + 1) true W hT (by omega) (by omega)
        (special_minus _ _ (by omega) (hm hneg) (lo 1 (by omega) (by omega)) (hi 1 (by omega) (by omega)))
        (by have := read1 _ _ W hD (hm hneg) hl; rw [hv] at this; exact this)
      rw [show ((1 + (dz n.natAbs).length : Nat) : Int) = ((dz n.natAbs).length : Int) + 1 by omega]
      exact this
    · simp only [if_neg hneg] at hD hl hv hsz lo hi
      rw [decide_eq_false hneg, hsz]
      have := atof_any _ (n.natAbs : Int) ((dz n.natAbs).length : Int) false W hT (by omega) (by omega)
        (special_plain _ _ (by omega) (lo 0 (by omega) (by omega)) (hi 0 (by omega) (by omega)))
        (by have := read0 _ _ W hD hl; rw [hv] at this; exact this)
      rw [show ((0 + (dz n.natAbs).length : Nat) : Int) = ((dz n.natAbs).length : Int) by omega]
      exact this
end Go.Proofs.YthbfppnegodpoaaGreatDoor
