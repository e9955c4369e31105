/-
  strconv.ParseFloat on the decimal text of a whole number: the rest of the walk.
-/
import Derived.Test.YthbfppnegodpoaaGreatDoorB
namespace Go.Proofs.YthbfppnegodpoaaGreatDoor
open Go.RowKit Go.Deep Go.PlainAid

set_option maxHeartbeats 4000000 in
set_option maxRecDepth 100000 in
/-- readFloat on "0". -/
theorem readz (s : ByteArray) (w : World) (h1 : s.size = 1) (h0 : bt s 0 = 48) :
    Calls Tryz.prog 67 #[.string s] w fun e w' => e = .returned (.tuple #[.int .u64 0, .int .i64 0, .bool false, .bool false, .bool false, .int .i64 1, .bool true]) ∧ w = w' := by
  have hb := get_bt s
  have hs1 : (s.size : Int) ≤ 1 := by omega
  have hs2 : 1 ≤ (s.size : Int) := by omega
  have hs3 : 0 < s.size := by omega
  have hne : ¬ s = ByteArray.empty := fun e => by rw [e] at hs3; exact absurd hs3 (by decide)
  have e1 : (bt s 0 == 43) = false := beq_eq_false_iff_ne.2 (by omega)
  have e2 : (bt s 0 == 45) = false := beq_eq_false_iff_ne.2 (by omega)
  have e4 : (bt s 0 == 95) = false := beq_eq_false_iff_ne.2 (by omega)
  have e5 : (bt s 0 == 46) = false := beq_eq_false_iff_ne.2 (by omega)
  have e6 : (bt s 0 == 48) = true := by rw [beq_iff_eq]; omega
  have a0 : 48 ≤ bt s 0 := by omega
  have b0 : bt s 0 ≤ 57 := by omega
  clear h1 h0
  go_enter Tryz.func67, Tryz.ntmps67
  go_wp2_with fail
  go_step3
  go_wp2_with fail
  go_step3
  go_wp2_with fail
  refine wp_loop_rounds 2 ?_
  rw [rounds_succ]
  go_wp2_with fail
  rw [rounds_succ]
  go_wp2_with fail
  refine bodyPost_ret (v := .tuple #[.int .u64 0, .int .i64 0, .bool false, .bool false, .bool false, .int .i64 1, .bool true]) (by simp [results, Tryz.results67, go_sem]) rfl ⟨rfl, rfl⟩

theorem bool2_any (b : Bool) (w : World) : Calls Tryz.prog 75 #[.bool b] w fun e w' => e = .returned (.int .u64 (if b then 1 else 0)) ∧ w = w' := by
  cases b
  all_goals
    go_enter Tryz.func75, Tryz.ntmps75
    go_wp2
    go_ret
    exact ⟨rfl, rfl⟩

/-- The float that a whole number is read as. -/
def flo (m : Int) (neg : Bool) : Nat := if neg then Op.negFloat .f64 (floatOfInt .f64 m) else floatOfInt .f64 m

theorem run_neg_float {P : Program} (b : Nat) (w : World) : (Op.unary UnOp.neg (Value.float .f64 b)).run P w = .ok (.float .f64 (Op.negFloat .f64 b)) w := rfl

set_option maxHeartbeats 1000000 in
set_option maxRecDepth 100000 in
theorem exact_f (m : Int) (w : World) (h0 : 0 ≤ m) (h1 : m < 4503599627370496) (hc : w.cell? ⟨10, 0, none⟩ = some (.int .u64 52)) :
    Calls Tryz.prog 77 #[.int .u64 m, .int .i64 0, .bool false] w fun e w' => e = .returned (.tuple #[.float .f64 (floatOfInt .f64 m), .bool true]) ∧ w = w' := by
  go_enter Tryz.func77, Tryz.ntmps77
  go_wp2
  go_ret2
  exact ⟨rfl, rfl⟩

set_option maxHeartbeats 1000000 in
set_option maxRecDepth 100000 in
theorem exact_g (m : Int) (w : World) (h0 : 0 ≤ m) (h1 : m < 4503599627370496) (hc : w.cell? ⟨10, 0, none⟩ = some (.int .u64 52)) :
    Calls Tryz.prog 77 #[.int .u64 m, .int .i64 0, .bool true] w fun e w' => e = .returned (.tuple #[.float .f64 (Op.negFloat .f64 (floatOfInt .f64 m)), .bool true]) ∧ w = w' := by
  have hn := fun b W => run_neg_float (P := Tryz.prog) b W
  go_enter Tryz.func77, Tryz.ntmps77
  go_wp2
  go_ret2
  exact ⟨rfl, rfl⟩

theorem exact_any (m : Int) (neg : Bool) (w : World) (h0 : 0 ≤ m) (h1 : m < 4503599627370496) (hc : w.cell? ⟨10, 0, none⟩ = some (.int .u64 52)) :
    Calls Tryz.prog 77 #[.int .u64 m, .int .i64 0, .bool neg] w fun e w' => e = .returned (.tuple #[.float .f64 (flo m neg), .bool true]) ∧ w = w' := by
  cases neg with
  | false => rw [flo, if_neg Bool.false_ne_true]; exact exact_f m w h0 h1 hc
  | true => rw [flo, if_pos rfl]; exact exact_g m w h0 h1 hc

/-- What is known of the tables that the road reads. -/
structure Tabs (w : World) : Prop where
  opt : w.cell? ⟨9, 0, none⟩ = some (.bool true)
  info : w.cell? ⟨10, 0, none⟩ = some (.int .u64 52)

set_option maxHeartbeats 1000000 in
set_option maxRecDepth 100000 in
/-- atof64, given what special and readFloat say; the number is not nought. -/
theorem atof_any (s : ByteArray) (m n : Int) (neg : Bool) (w : World) (hT : Tabs w) (h0 : 1 ≤ m) (h1 : m < 4503599627370496)
    (hs : Calls Tryz.prog 66 #[.string s] w fun e w' => e = .returned (.tuple #[.float .f64 0, .int .i64 0, .bool false]) ∧ w = w')
    (hr : Calls Tryz.prog 67 #[.string s] w fun e w' => e = .returned (.tuple #[.int .u64 m, .int .i64 0, .bool neg, .bool false, .bool false, .int .i64 n, .bool true]) ∧ w = w') :
    Calls Tryz.prog 62 #[.string s] w fun e w' => e = .returned (.tuple #[.float .f64 (flo m neg), .int .i64 n, .nilIface]) ∧ w = w' := by
  have HS := Lib.hid hs
  have HR := Lib.hid hr
  have HE := Lib.hid (exact_any m neg w (by omega) h1 hT.info)
  have c9 := hT.opt
  have em : (m == 0) = false := beq_eq_false_iff_ne.2 (by omega)
  clear hs hr
  go_enter Tryz.func62, Tryz.ntmps62
  go_wp2_with fail
  refine HS.out.mono ?_
  rintro e w' ⟨rfl, rfl⟩
  go_wp2_with fail
  refine HR.out.mono ?_
  rintro e w' ⟨rfl, rfl⟩
  go_wp2_with fail
  refine (bool2_any _ _).mono ?_
  rintro e w' ⟨rfl, rfl⟩
  cases neg
  all_goals
    go_wp2_with fail
    refine HE.out.mono ?_
    rintro e w' ⟨rfl, rfl⟩
    go_wp2_with fail
    go_ret3
    exact ⟨rfl, rfl⟩

theorem run_frombits {P : Program} (w : World) : (Extern.MathFloatBits.float64frombits #[.int .u64 (bits BinOp.or IntKind.u64 0 0)]).run P w = .ok (.float .f64 0) w := rfl

set_option maxHeartbeats 1000000 in
set_option maxRecDepth 100000 in
/-- atof64 on "0". -/
theorem atof_zero (s : ByteArray) (w : World) (hT : Tabs w) (h1 : s.size = 1) (h0 : bt s 0 = 48) :
    Calls Tryz.prog 62 #[.string s] w fun e w' => e = .returned (.tuple #[.float .f64 0, .int .i64 1, .nilIface]) ∧ w = w' := by
  have HS := Lib.hid (special_plain s w (by omega) (by omega) (by omega))
  have HR := Lib.hid (readz s w h1 h0)
  have c9 := hT.opt
  clear h1 h0
  go_enter Tryz.func62, Tryz.ntmps62
  go_wp2_with fail
  refine HS.out.mono ?_
  rintro e w' ⟨rfl, rfl⟩
  go_wp2_with fail
  refine HR.out.mono ?_
  rintro e w' ⟨rfl, rfl⟩
  go_wp2_with fail
  refine (bool2_any _ _).mono ?_
  rintro e w' ⟨rfl, rfl⟩
  go_wp2_with fail
  rw [run_callFunc_extern Tryz.func76 (by kernel_rfl) (by kernel_rfl) (by kernel_rfl) (e := Extern.MathFloatBits.float64frombits) (by kernel_rfl), run_frombits]
  simp only [Result.andThen]
  rw [Oper.upon_value]
  go_wp2_with fail
  go_ret3
  exact ⟨rfl, rfl⟩
end Go.Proofs.YthbfppnegodpoaaGreatDoor
