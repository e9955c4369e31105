/-
  atof64exact: whatever its arguments.
-/
import Derived.Test.YtoeahdefgblmoaaGreatDoorRK
import Derived.Laws.FloatArith
import Derived.Deep.Draws
namespace Go.Proofs.YtoeahdefgblmoaaGreatDoor
open Go.RowKit Go.Deep Go.PlainAid Go.Maps Go.Sort

def fR (op : BinOp) (x y : Nat) (w : World) : Nat := (floatBits op .f64 x y).getD (Question.cut (.nanBits .f64 x y) (w.tape w.drawn (.nanBits .f64 x y)))
def fN (op : BinOp) (x y : Nat) : Nat := if (floatBits op .f64 x y).isSome then 0 else 1
theorem drewN_zero (w : World) : w.drewN 0 = w := rfl
theorem below_drewN {B : Nat} {a w : World} (h : Below B a w) (n : Nat) : Below B a (w.drewN n) := ⟨h.os, h.tape, h.output, h.size, h.block⟩
theorem run_fop {P : Program} {op : BinOp} (ho : op = .mul ∨ op = .quo) (t : TypeId) (x y : Nat) (w : World) :
    (binOp op t (.float .f64 x) (.float .f64 y)).run P w = .ok (.float .f64 (fR op x y w)) (w.drewN (fN op x y)) := by
  unfold fR fN
  cases hb : floatBits op .f64 x y with
  | some r =>
    have hr := run_float_arith (P := P) w op t .f64 x y r hb
    rw [hr]
    exact congrArg (fun W => Result.ok (Value.float .f64 r) W) (drewN_zero w).symm
  | none =>
    rcases ho with rfl | rfl
    · have h : FloatKind.f64.format.mul x y = none := hb
      simp [binOp, Op.floatArith, h, Question.forced]
      rfl
    · have h : FloatKind.f64.format.div x y = none := hb
      simp [binOp, Op.floatArith, h, Question.forced]
      rfl
theorem run_neg_float {P : Program} (b : Nat) (w : World) : (Op.unary UnOp.neg (Value.float .f64 b)).run P w = .ok (.float .f64 (Op.negFloat .f64 b)) w := rfl

def isFB (v : Value) : Prop := ∃ x b, v = .tuple #[.float .f64 x, .bool b]
def GivesC (p : Value → Prop) (w : World) (e : Ending) (w' : World) : Prop := ∃ v, e = .returned v ∧ p v ∧ Below w.heap.size w w'
/-- The exact powers of ten. -/
def Tens (w : World) : Prop := ∃ R o cap, w.cell? ⟨14, 0, none⟩ = some (.slice (some ⟨R, o, none⟩) 23 cap) ∧ ∀ i, i < 23 → ∃ x, w.cell? ⟨R, o + i, none⟩ = some (.float .f64 x)
theorem Tens.below {w w' : World} (h : Tens w) (hb : Below w.heap.size w w') : Tens w' := by
  obtain ⟨R, o, cap, h1, h2⟩ := h
  refine ⟨R, o, cap, cell_later hb h1, fun i hi => ?_⟩
  obtain ⟨x, hx⟩ := h2 i hi
  exact ⟨x, cell_later hb hx⟩

set_option maxHeartbeats 2000000 in
set_option maxRecDepth 100000 in
theorem exact_any (m : Nat) (e : Int) (ng : Bool) (w : World) (i0 : w.cell? ⟨11, 0, none⟩ = some (.int .u64 52)) (hT : Tens w) : Calls Tryz.prog 75 #[.int .u64 m, .int .i64 e, .bool ng] w (GivesC isFB w) := by
  obtain ⟨R, o, cap, h14, ht⟩ := hT
  have hmul := fun (x y : Nat) (W : World) => run_fop (P := Tryz.prog) (op := .mul) (.inl rfl) 91 x y W
  have hquo := fun (x y : Nat) (W : World) => run_fop (P := Tryz.prog) (op := .quo) (.inr rfl) 91 x y W
  have hneg := fun (b : Nat) (W : World) => run_neg_float (P := Tryz.prog) b W
  obtain ⟨p22, h22⟩ := ht 22 (by omega)
  have HT := Lib.hid ht
  clear ht
  by_cases e0 : e = 0
  · subst e0
    cases ng
    all_goals
      go_enter Tryz.func75, Tryz.ntmps75
      go_wp2_with fail
      all_goals
        go_ret2
        exact ⟨_, rfl, ⟨_, _, rfl⟩, by first | exact Below.refl _ _ | exact below_drewN (Below.refl _ _) _ | exact below_drewN (below_drewN (Below.refl _ _) _) _⟩
  have e0' : (e == 0) = false := beq_eq_false_iff_ne.2 e0
  by_cases e1 : 0 < e
  · by_cases e2 : e ≤ 22
    · obtain ⟨i, rfl⟩ : ∃ i : Nat, e = (i : Int) := ⟨e.toNat, by omega⟩
      obtain ⟨x, hx⟩ := HT.out i (by omega)
      cases ng
      all_goals
        go_enter Tryz.func75, Tryz.ntmps75
        go_wp2_with fail
        all_goals
          go_ret2
          exact ⟨_, rfl, ⟨_, _, rfl⟩, by first | exact Below.refl _ _ | exact below_drewN (Below.refl _ _) _ | exact below_drewN (below_drewN (Below.refl _ _) _) _⟩
    · by_cases e3 : e ≤ 37
      · obtain ⟨i, hi⟩ : ∃ i : Nat, e - 22 = (i : Int) := ⟨(e - 22).toNat, by omega⟩
        obtain ⟨x, hx⟩ := HT.out i (by omega)
        have hi2 : i < 23 := by omega
        cases ng
        all_goals
          go_enter Tryz.func75, Tryz.ntmps75
          go_wp2_with fail
          all_goals
            go_ret2
            exact ⟨_, rfl, ⟨_, _, rfl⟩, by first | exact Below.refl _ _ | exact below_drewN (Below.refl _ _) _ | exact below_drewN (below_drewN (Below.refl _ _) _) _⟩
      · cases ng
        all_goals
          go_enter Tryz.func75, Tryz.ntmps75
          go_wp2_with fail
          all_goals
            go_ret2
            exact ⟨_, rfl, ⟨_, _, rfl⟩, by first | exact Below.refl _ _ | exact below_drewN (Below.refl _ _) _ | exact below_drewN (below_drewN (Below.refl _ _) _) _⟩
  · by_cases e2 : -22 ≤ e
    · obtain ⟨i, hi⟩ : ∃ i : Nat, -e = (i : Int) := ⟨(-e).toNat, by omega⟩
      obtain ⟨x, hx⟩ := HT.out i (by omega)
      have hi2 : i < 23 := by omega
      cases ng
      all_goals
        go_enter Tryz.func75, Tryz.ntmps75
        go_wp2_with fail
        all_goals
          go_ret2
          exact ⟨_, rfl, ⟨_, _, rfl⟩, by first | exact Below.refl _ _ | exact below_drewN (Below.refl _ _) _ | exact below_drewN (below_drewN (Below.refl _ _) _) _⟩
    · cases ng
      all_goals
        go_enter Tryz.func75, Tryz.ntmps75
        go_wp2_with fail
        all_goals
          go_ret2
          exact ⟨_, rfl, ⟨_, _, rfl⟩, by first | exact Below.refl _ _ | exact below_drewN (Below.refl _ _) _ | exact below_drewN (below_drewN (Below.refl _ _) _) _⟩
end Go.Proofs.YtoeahdefgblmoaaGreatDoor
