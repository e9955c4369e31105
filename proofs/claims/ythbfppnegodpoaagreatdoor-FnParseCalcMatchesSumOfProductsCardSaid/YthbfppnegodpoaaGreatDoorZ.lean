/-
  math.Inf and math.NaN.
-/
import Derived.Test.YthbfppnegodpoaaGreatDoorC
namespace Go.Proofs.YthbfppnegodpoaaGreatDoor
open Go.RowKit Go.Deep Go.PlainAid

def fInf : Nat := 9218868437227405312
def fNeg : Nat := 18442240474082181120
def fNaN : Nat := 9221120237041090561

theorem run52 (k : Int) (w : World) : (callFunc 52 #[.int .u64 k]).run Tryz.prog w = .ok (.value (.float .f64 k.toNat)) w := by
  rw [run_callFunc_extern Tryz.func52 (by kernel_rfl) (by kernel_rfl) (by kernel_rfl) (e := Extern.MathFloatBits.float64frombits) (by kernel_rfl)]
  rfl

set_option maxRecDepth 100000 in
theorem inf_pos (w : World) : Calls Tryz.prog 45 #[.int .i64 1] w fun e w' => e = .returned (.float .f64 fInf) ∧ w = w' := by
  go_enter Tryz.func45, Tryz.ntmps45
  go_wp2_with fail
  rw [run52, Oper.upon_value]
  go_wp2_with fail
  go_ret
  exact ⟨rfl, rfl⟩
set_option maxRecDepth 100000 in
theorem inf_neg (w : World) : Calls Tryz.prog 45 #[.int .i64 (-1)] w fun e w' => e = .returned (.float .f64 fNeg) ∧ w = w' := by
  go_enter Tryz.func45, Tryz.ntmps45
  go_wp2_with fail
  rw [run52, Oper.upon_value]
  go_wp2_with fail
  go_ret
  exact ⟨rfl, rfl⟩
set_option maxRecDepth 100000 in
theorem nan_any (w : World) : Calls Tryz.prog 46 #[] w fun e w' => e = .returned (.float .f64 fNaN) ∧ w = w' := by
  go_enter Tryz.func46, Tryz.ntmps46
  go_wp2_with fail
  rw [run52, Oper.upon_value]
  go_wp2_with fail
  go_ret
  exact ⟨rfl, rfl⟩
end Go.Proofs.YthbfppnegodpoaaGreatDoor
