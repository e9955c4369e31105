/-
  Floats: what an operation gives, where a NaN's bits are drawn; alike up to the bits of a NaN; the law's own comparison.
-/
import Derived.Test.YtnoghiefpdbpbaaGreatFmtProg
import Derived.WalkKit
import Derived.WalkLawsBesides
import Derived.WalkSpells
import Derived.Lib.Hide
import Derived.Deep.QuietTactic
import Derived.BigQuiet
import Derived.Deep.OwnRows
import Derived.Laws.BytesArg
import Derived.RegionTactic
import Derived.ChangeAlike
import Derived.Deep.DeepFit
import Derived.Handy
import Derived.Outline
import Derived.Laws.FloatArith
import Derived.Deep.Draws
namespace Go.Proofs.YtnoghiefpdbpbaaGreatFmt
open Go.RowKit Go.Deep Ieee

def NaN (x : Nat) : Prop := (double.read x).isNaN = true

theorem order_nan {x : Nat} (h : NaN x) (y : Nat) : double.order x y = none := by
  unfold NaN at h
  unfold Format.order
  cases hd : double.read x with
  | nan s t => cases double.read y <;> rfl
  | infinity s => rw [hd] at h; cases h
  | number s m i => rw [hd] at h; cases h

theorem order_self {x : Nat} (h : ¬ NaN x) : double.order x x = some .eq := by
  unfold NaN at h
  unfold Format.order
  cases hd : double.read x with
  | nan s t => rw [hd] at h; exact absurd rfl h
  | infinity s => simp [Datum.order, compare, compareOfLessAndEq]
  | number s m i => simp [Datum.order, compare, compareOfLessAndEq]

theorem read_word (neg : Bool) (R : Nat) (h : R ≤ double.infRung) : ¬ NaN (double.word neg R) := by
  have hs : double.signWeight = 2 ^ 63 := by decide +kernel
  have hi : double.infRung < 2 ^ 63 := by decide +kernel
  have hm : double.word neg R % double.signWeight = R := by
    unfold Format.word
    cases neg
    · rw [if_neg Bool.false_ne_true]; exact Nat.mod_eq_of_lt (by omega)
    · rw [if_pos rfl, Nat.add_mod_left]; exact Nat.mod_eq_of_lt (by omega)
  unfold NaN Format.read
  simp only [hm]
  by_cases h1 : R < double.binade
  · simp [if_pos h1, Datum.isNaN]
  · by_cases h2 : R < double.infRung
    · simp [if_neg h1, if_pos h2, Datum.isNaN]
    · obtain rfl : R = double.infRung := by omega
      simp [if_neg h1, Datum.isNaN]

theorem nearest_word (f : Format) (neg : Bool) (mag : Nat) (place : Int) : ∃ R, R ≤ f.infRung ∧ f.nearest neg mag place = f.word neg R := by
  by_cases h : mag = 0
  · exact ⟨0, Nat.zero_le _, by unfold Format.nearest; rw [if_pos h]⟩
  · refine ⟨min ((max (place + mag.log2 - f.fractionBits) f.leastPlace - f.leastPlace).toNat * f.binade + Toward.even.cut neg (mag <<< (place - max (place + mag.log2 - f.fractionBits) f.leastPlace).toNat) (max (place + mag.log2 - f.fractionBits) f.leastPlace - place).toNat) f.infRung, Nat.min_le_right _ _, ?_⟩
    unfold Format.nearest
    rw [if_neg h]

theorem write_not {d : Datum} (h : d.isNaN = false) : ¬ NaN (double.write d) := by
  cases d with
  | nan s t => cases h
  | infinity s => exact read_word s _ (Nat.le_refl _)
  | number s m i =>
    obtain ⟨R, hR, e⟩ := nearest_word double s m i
    show ¬ NaN (double.nearest s m i)
    rw [e]
    exact read_word s R hR

/-- The three operations that the code uses. -/
def Arith (op : BinOp) : Prop := op = .mul ∨ op = .quo ∨ op = .add

theorem bits_nan {op : BinOp} (ho : Arith op) {x y : Nat} (h : NaN x ∨ NaN y) : floatBits op .f64 x y = none := by
  unfold NaN at h
  rcases ho with rfl | rfl | rfl
  · show ((double.read x).product (double.read y)).map double.write = none
    cases hx : double.read x <;> cases hy : double.read y <;> rw [hx, hy] at h <;> first | rfl | (rcases h with h | h <;> cases h)
  · show ((double.read x).quotient _ (double.read y)).map double.write = none
    cases hx : double.read x <;> cases hy : double.read y <;> rw [hx, hy] at h <;> first | rfl | (rcases h with h | h <;> cases h)
  · show ((double.read x).sum (double.read y)).map double.write = none
    cases hx : double.read x <;> cases hy : double.read y <;> rw [hx, hy] at h <;> first | rfl | (rcases h with h | h <;> cases h)

theorem bits_some {op : BinOp} (ho : Arith op) {x y r : Nat} (h : floatBits op .f64 x y = some r) : ¬ NaN r := by
  rcases ho with rfl | rfl | rfl
  · obtain ⟨d, hd, rfl⟩ := Option.map_eq_some_iff.1 (show ((double.read x).product (double.read y)).map double.write = some r from h)
    refine write_not ?_
    cases hx : double.read x <;> cases hy : double.read y <;> rw [hx, hy] at hd <;> simp only [Datum.product] at hd
    all_goals (try (split at hd))
    all_goals first | (cases hd; done) | (cases hd; rfl)
  · obtain ⟨d, hd, rfl⟩ := Option.map_eq_some_iff.1 (show ((double.read x).quotient _ (double.read y)).map double.write = some r from h)
    refine write_not ?_
    cases hx : double.read x <;> cases hy : double.read y <;> rw [hx, hy] at hd <;> simp only [Datum.quotient] at hd
    all_goals (try (split at hd))
    all_goals (try (split at hd))
    all_goals first | (cases hd; done) | (cases hd; rfl)
  · obtain ⟨d, hd, rfl⟩ := Option.map_eq_some_iff.1 (show ((double.read x).sum (double.read y)).map double.write = some r from h)
    refine write_not ?_
    cases hx : double.read x <;> cases hy : double.read y <;> rw [hx, hy] at hd <;> simp only [Datum.sum] at hd
    all_goals (try (split at hd))
    all_goals first | (cases hd; done) | (cases hd; rfl)

/-- What an operation gives: where it has no answer, a NaN whose bits are drawn. -/
def fR (op : BinOp) (x y : Nat) (w : World) : Nat := (floatBits op .f64 x y).getD (Question.cut (.nanBits .f64 x y) (w.tape w.drawn (.nanBits .f64 x y)))
/-- How many draws it takes. -/
def fN (op : BinOp) (x y : Nat) : Nat := if (floatBits op .f64 x y).isSome then 0 else 1

theorem cut_nan (x y t : Nat) : NaN (Question.cut (.nanBits .f64 x y) t) := by
  have hs : double.signWeight = 2 ^ 63 := by decide +kernel
  have hi : double.infRung = 0x7ff0000000000000 := by decide +kernel
  have hb : double.binade = 2 ^ 52 := by decide +kernel
  show NaN ((t % 2) * 2 ^ 63 + 0x7ff0000000000000 + 1 + (t / 2) % (2 ^ 52 - 1))
  have hr : (t / 2) % (2 ^ 52 - 1) < 2 ^ 52 - 1 := Nat.mod_lt _ (by decide)
  obtain ⟨r, er⟩ : ∃ r, r = (t / 2) % (2 ^ 52 - 1) := ⟨_, rfl⟩
  rw [← er] at hr ⊢
  have hm : ((t % 2) * 2 ^ 63 + 0x7ff0000000000000 + 1 + r) % 2 ^ 63 = 0x7ff0000000000000 + 1 + r := by omega
  unfold NaN Format.read
  rw [hs, hi, hb]
  simp only [hm]
  rw [if_neg (by omega), if_neg (by omega), if_neg (by omega)]
  rfl

theorem fR_nan {op : BinOp} {x y : Nat} {w : World} (h : floatBits op .f64 x y = none) : NaN (fR op x y w) := by
  unfold fR
  rw [h]
  exact cut_nan x y _

/-- Alike, up to the bits of a NaN. -/
def Sim (x y : Nat) : Prop := x = y ∨ (NaN x ∧ NaN y)

theorem Sim.refl (x : Nat) : Sim x x := Or.inl rfl

theorem sim_op {op : BinOp} (ho : Arith op) {x x' y y' : Nat} (hx : Sim x x') (hy : Sim y y') (w w' : World) : Sim (fR op x y w) (fR op x' y' w') := by
  by_cases hn : NaN x ∨ NaN y
  · refine Or.inr ⟨fR_nan (bits_nan ho hn), fR_nan (bits_nan ho ?_)⟩
    rcases hn with h | h
    · rcases hx with rfl | hx
      · exact Or.inl h
      · exact Or.inl hx.2
    · rcases hy with rfl | hy
      · exact Or.inr h
      · exact Or.inr hy.2
  · obtain rfl : x = x' := by
      rcases hx with h | h
      · exact h
      · exact absurd (Or.inl h.1) hn
    obtain rfl : y = y' := by
      rcases hy with h | h
      · exact h
      · exact absurd (Or.inr h.1) hn
    cases hb : floatBits op .f64 x y with
    | none => exact Or.inr ⟨fR_nan hb, fR_nan hb⟩
    | some r => exact Or.inl (by unfold fR; simp only [hb, Option.getD_some])

/-- A float is stored as any other value of one cell. -/
@[go_sem] theorem run_store_float {P : Program} {w : World} {a : Addr} {m : Mode} (k : FloatKind) (b : Nat) : (store a (.float k b) m).run P w = stored P w a (.float k b) m := run_store P w a _ m rfl

theorem drewN_zero (w : World) : w.drewN 0 = w := rfl

section
variable {P : Program}
theorem run_fop {op : BinOp} (ho : Arith op) (t : TypeId) (x y : Nat) (w : World) :
    (binOp op t (.float .f64 x) (.float .f64 y)).run P w = .ok (.float .f64 (fR op x y w)) (w.drewN (fN op x y)) := by
  unfold fR fN
  cases hb : floatBits op .f64 x y with
  | some r =>
    have hr := run_float_arith (P := P) w op t .f64 x y r hb
    rw [hr]
    exact congrArg (fun W => Result.ok (Value.float .f64 r) W) (drewN_zero w).symm
  | none =>
    rcases ho with rfl | rfl | rfl
    · have h : FloatKind.f64.format.mul x y = none := hb
      simp [binOp, Op.floatArith, h, Question.forced]
      rfl
    · have h : FloatKind.f64.format.div x y = none := hb
      simp [binOp, Op.floatArith, h, Question.forced]
      rfl
    · have h : FloatKind.f64.format.add x y = none := hb
      simp [binOp, Op.floatArith, h, Question.forced]
      rfl
end

def one : Nat := 4607182418800017408

theorem quo_one {x : Nat} (h : ¬ NaN x) : ∃ r, floatBits .quo .f64 one x = some r := by
  unfold NaN at h
  have h1 : double.read one = .number false (2 ^ 52) (-52) := by decide +kernel
  show ∃ r, ((double.read one).quotient (double.fractionBits + 2) (double.read x)).map double.write = some r
  rw [h1]
  cases hx : double.read x with
  | nan s t => rw [hx] at h; exact absurd rfl h
  | infinity s => exact ⟨_, rfl⟩
  | number s m i =>
    simp only [Datum.quotient]
    by_cases hm : m = 0
    · rw [if_pos hm, if_neg (by decide)]; exact ⟨_, rfl⟩
    · rw [if_neg hm]; exact ⟨_, rfl⟩

set_option maxRecDepth 100000 in
/-- The law's own comparison of two floats that are alike. -/
theorem same_any (a b : Nat) (h : Sim a b) (w : World) : Calls Tryz.prog 15 #[.float .f64 a, .float .f64 b] w fun e w' => e = .returned (.bool true) ∧ w = w' := by
  by_cases hn : NaN a
  · have hnb : NaN b := by
      rcases h with rfl | h
      · exact hn
      · exact h.2
    have h1 : (FloatKind.f64.format.order a a != some Ordering.eq) = true := by rw [show FloatKind.f64.format.order a a = none from order_nan hn a]; rfl
    have h2 : (FloatKind.f64.format.order b b != some Ordering.eq) = true := by rw [show FloatKind.f64.format.order b b = none from order_nan hnb b]; rfl
    go_enter Tryz.func15, Tryz.ntmps15
    go_wp2_with fail
    go_ret
    exact ⟨rfl, rfl⟩
  · obtain rfl : a = b := by
      rcases h with h | h
      · exact h
      · exact absurd h.1 hn
    have h1 : (FloatKind.f64.format.order a a != some Ordering.eq) = false := by rw [show FloatKind.f64.format.order a a = some .eq from order_self hn]; rfl
    obtain ⟨r, hr⟩ := quo_one hn
    have hq := fun (W : World) => run_float_arith (P := Tryz.prog) W .quo 33 .f64 4607182418800017408 a r hr
    cases h0 : (FloatKind.f64.format.order a 0 == some Ordering.eq) with
    | false =>
      go_enter Tryz.func15, Tryz.ntmps15
      go_wp2_with fail
      go_ret
      exact ⟨rfl, rfl⟩
    | true =>
      go_enter Tryz.func15, Tryz.ntmps15
      go_wp2_with fail
      go_ret
      exact ⟨rfl, rfl⟩

/-- The factor: the number itself or its reciprocal. -/
def fac (x : Nat) (inv : Bool) (w : World) : Nat := if inv then fR .quo one x w else x
def facN (x : Nat) (inv : Bool) : Nat := if inv then fN .quo one x else 0

theorem factor_any (x : Nat) (inv : Bool) (w : World) : Calls Tryz.prog 18 #[.float .f64 x, .bool inv] w fun e w' => e = .returned (.float .f64 (fac x inv w)) ∧ w.drewN (facN x inv) = w' := by
  have hq := fun (W : World) => run_fop (P := Tryz.prog) (Or.inr (Or.inl rfl)) 33 4607182418800017408 x W
  cases inv
  all_goals
    go_enter Tryz.func18, Tryz.ntmps18
    go_wp2_with fail
    go_ret
    exact ⟨rfl, rfl⟩
end Go.Proofs.YtnoghiefpdbpbaaGreatFmt
