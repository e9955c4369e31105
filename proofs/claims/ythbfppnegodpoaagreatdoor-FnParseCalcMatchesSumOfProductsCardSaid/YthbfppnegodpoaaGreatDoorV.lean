/-
  The two collecting passes, walked: the scan over a run of operators.
-/
import Derived.Test.YthbfppnegodpoaaGreatDoorU
import Derived.Test.YthbfppnegodpoaaGreatDoorP
import Derived.Deep.RegionLaw
namespace Go.Proofs.YthbfppnegodpoaaGreatDoor
open Go.RowKit Go.Deep Go.PlainAid

/-- A frame of this function. -/
def Fr (a : Act) : Prop := a.tmps.size = 529 ∧ a.defers = []
theorem Fr.lit {a : Act} (h : Fr a) : ∃ xs, a = fr xs ∧ ∀ i v, i < 529 → a.tmps[i]? = some v → xs i = v := act_fr a h.1 h.2

def intAt (a : Act) (i : Nat) : Nat := (intOf (a.tmps.getD i undef)).toNat

theorem other34 (b : Nat) : ∀ w, (Instr.typeAssert (.iface 34 (.pointer (some ⟨b, 0, none⟩))) 70 54 true).run Tryz.prog w = .ok (.tuple #[.pointer none, .bool false]) w := run_assert_other (P := Tryz.prog) _ 70 54 34 80 Tryz.underlying54 (by decide) (fun _ => by kernel_rfl)
theorem other102 (b : Nat) : ∀ w, (Instr.typeAssert (.iface 102 (.pointer (some ⟨b, 0, none⟩))) 70 54 true).run Tryz.prog w = .ok (.tuple #[.pointer none, .bool false]) w := run_assert_other (P := Tryz.prog) _ 70 54 102 80 Tryz.underlying54 (by decide) (fun _ => by kernel_rfl)
theorem other98 (b : Nat) : ∀ w, (Instr.typeAssert (.iface 98 (.pointer (some ⟨b, 0, none⟩))) 70 54 true).run Tryz.prog w = .ok (.tuple #[.pointer none, .bool false]) w := run_assert_other (P := Tryz.prog) _ 70 54 98 80 Tryz.underlying54 (by decide) (fun _ => by kernel_rfl)
theorem other100 (b : Nat) : ∀ w, (Instr.typeAssert (.iface 100 (.pointer (some ⟨b, 0, none⟩))) 70 54 true).run Tryz.prog w = .ok (.tuple #[.pointer none, .bool false]) w := run_assert_other (P := Tryz.prog) _ 70 54 100 80 Tryz.underlying54 (by decide) (fun _ => by kernel_rfl)
theorem other95 (b : Nat) : ∀ w, (Instr.typeAssert (.iface 95 (.pointer (some ⟨b, 0, none⟩))) 70 54 true).run Tryz.prog w = .ok (.tuple #[.pointer none, .bool false]) w := run_assert_other (P := Tryz.prog) _ 70 54 95 80 Tryz.underlying54 (by decide) (fun _ => by kernel_rfl)

set_option maxHeartbeats 4000000 in
set_option maxRecDepth 100000 in
theorem mul_scan_wp {d : Code} (hcode : Tryz.f30.body.bind (fb 4) = some (.block 4 d)) (Q : Exit → Act → World → Prop) (a : Act) (W : World) (T n f : Nat) (ts : List CT) (D : Nat → Prop)
    (hfr : Fr a) (e3 : a.tmps[3]? = some (.slice (some ⟨T, 0, none⟩) ts.length n)) (e13 : a.tmps[13]? = some (.int .i64 f)) (e16 : a.tmps[16]? = some (.int .i64 f))
    (hn : n ≤ 4096) (hlt : f + 1 < ts.length) (hop : mulOp (ts.getD f dT) = true) (hrow : Row W D T n ts)
    (hQ : ∀ a' l m, l = f + 2 * m → Fr a' → a'.tmps[3]? = some (.slice (some ⟨T, 0, none⟩) ts.length n) → a'.tmps[13]? = some (.int .i64 f) → a'.tmps[16]? = some (.int .i64 (l : Int)) → scan mulOp ts f = l → l + 1 < ts.length →
      (∀ q, q ≤ m → mulOp (ts.getD (f + 2 * q) dT) = true) → Q .normal a' W) :
    Code.wp Tryz.prog (.block 4 d) Q a W := by
  have key : ∀ {D : Code}, Tryz.f30.body.bind (fb 4) = some (.block 4 D) → Code.wp Tryz.prog (.block 4 D) Q a W → Code.wp Tryz.prog (.block 4 d) Q a W := fun e h => by
    rw [e] at hcode
    cases hcode
    exact h
  refine key rfl ?_
  clear key hcode
  have hle := hrow.le
  refine wp_block ?_
  have hop0 : ∀ q, q ≤ 0 → mulOp (ts.getD (f + 2 * q) dT) = true := fun q hq => by
    obtain rfl : q = 0 := Nat.le_zero.1 hq
    exact hop
  refine wp_loop (fun a w => w = W ∧ Fr a ∧ ∃ l m, l = f + 2 * m ∧ a.tmps[3]? = some (.slice (some ⟨T, 0, none⟩) ts.length n) ∧ a.tmps[13]? = some (.int .i64 f) ∧ a.tmps[16]? = some (.int .i64 (l : Int)) ∧ scan mulOp ts f = scan mulOp ts l ∧ l + 1 < ts.length ∧
      (∀ q, q ≤ m → mulOp (ts.getD (f + 2 * q) dT) = true)) (fun a _ => ts.length - intAt a 16) ⟨rfl, hfr, f, 0, rfl, e3, e13, e16, rfl, hlt, hop0⟩ ?_
  clear hfr e3 e13 e16 hop0 hop a
  rintro a w ⟨rfl, hfr, l, m, el, e3, e13, e16, hsc, hm, hops⟩
  obtain ⟨xs, rfl, hx⟩ := hfr.lit
  have x3 := hx 3 _ (by omega) e3
  have x13 := hx 13 _ (by omega) e13
  have x16 := hx 16 _ (by omega) e16
  clear hx e3 e13 e16 hfr
  simp only [fr, x3, x13, x16]
  clear x3 x13 x16
  have HQ := Lib.hid hQ
  have HO := Lib.hid hops
  have HL := Lib.hid el
  have HS := Lib.hid hsc
  have fin : mulOp (ts.getD (l + 2) dT) = true → ∀ q, q ≤ m + 1 → mulOp (ts.getD (f + 2 * q) dT) = true := fun h q hq => by
    rcases Nat.lt_or_ge m q with hg | hg
    · obtain rfl : q = m + 1 := by omega
      rw [show f + 2 * (m + 1) = l + 2 by omega]
      exact h
    · exact hops q hg
  have HF := Lib.hid fin
  clear hQ hops el hsc fin
  by_cases hlt3 : l + 3 < ts.length
  · have hl3 : (l : Int) + 3 < (ts.length : Int) := by omega
    obtain ⟨v, k, c0, c1, hv⟩ := hrow.cell (l + 2) (by omega)
    have H1 := Lib.hid (scan_on (op := mulOp) hlt3)
    have H0 := Lib.hid (scan_off (op := mulOp) hlt3)
    generalize ht : ts.getD (l + 2) dT = t at hv H0 H1 HF
    clear ht
    cases hv with
    | val b kd s ws bad p hbD q0 q1 q2 q3 q4 q5 q6 q7 =>
      have ha := run_assert_same (P := Tryz.prog) (.pointer (some ⟨b, 0, none⟩)) 70 54 80 Tryz.underlying54
      go_wp2_with fail
      all_goals first
        | (have hy := H1.out (by simp_all [mulOp])
           have hz := HF.out (by simp_all [mulOp])
           have e2 := HL.out
           refine ⟨⟨trivial, ⟨rfl, rfl⟩, l + 2, m + 1, by omega, rfl, rfl, rfl, HS.out.trans hy, by omega, hz⟩, ?_⟩
           show ts.length - (l + 2) < ts.length - l
           omega)
        | (have hy := H0.out (by simp_all [mulOp])
           exact HQ.out _ l m HL.out ⟨rfl, rfl⟩ rfl rfl rfl (HS.out.trans hy) hm HO.out)
    | num b _ _ hbD q0 q1 =>
      have ha := other34 b
      go_wp2_with fail
      exact HQ.out _ l m HL.out ⟨rfl, rfl⟩ rfl rfl rfl (HS.out.trans (H0.out rfl)) hm HO.out
    | sum b _ _ _ _ hbD _ q0 _ _ =>
      have ha := other102 b
      go_wp2_with fail
      exact HQ.out _ l m HL.out ⟨rfl, rfl⟩ rfl rfl rfl (HS.out.trans (H0.out rfl)) hm HO.out
    | prod b _ _ _ _ hbD _ q0 _ _ =>
      have ha := other98 b
      go_wp2_with fail
      exact HQ.out _ l m HL.out ⟨rfl, rfl⟩ rfl rfl rfl (HS.out.trans (H0.out rfl)) hm HO.out
    | neg b _ _ hbD q0 _ =>
      have ha := other100 b
      go_wp2_with fail
      exact HQ.out _ l m HL.out ⟨rfl, rfl⟩ rfl rfl rfl (HS.out.trans (H0.out rfl)) hm HO.out
    | inv b _ _ hbD q0 _ =>
      have ha := other95 b
      go_wp2_with fail
      exact HQ.out _ l m HL.out ⟨rfl, rfl⟩ rfl rfl rfl (HS.out.trans (H0.out rfl)) hm HO.out
  · have hl3 : ¬ (l : Int) + 3 < (ts.length : Int) := by omega
    go_wp2_with fail
    exact HQ.out _ l m HL.out ⟨rfl, rfl⟩ rfl rfl rfl (HS.out.trans (scan_end hlt3)) hm HO.out

set_option maxHeartbeats 4000000 in
set_option maxRecDepth 100000 in
theorem add_scan_wp {d : Code} (hcode : Tryz.f30.body.bind (fb 10) = some (.block 10 d)) (Q : Exit → Act → World → Prop) (a : Act) (W : World) (T n f : Nat) (ts : List CT) (D : Nat → Prop)
    (hfr : Fr a) (e3 : a.tmps[3]? = some (.slice (some ⟨T, 0, none⟩) ts.length n)) (e13 : a.tmps[13]? = some (.int .i64 f)) (e16 : a.tmps[25]? = some (.int .i64 f))
    (hn : n ≤ 4096) (hlt : f + 1 < ts.length) (hop : addOp (ts.getD f dT) = true) (hrow : Row W D T n ts)
    (hQ : ∀ a' l m, l = f + 2 * m → Fr a' → a'.tmps[3]? = some (.slice (some ⟨T, 0, none⟩) ts.length n) → a'.tmps[13]? = some (.int .i64 f) → a'.tmps[25]? = some (.int .i64 (l : Int)) → scan addOp ts f = l → l + 1 < ts.length →
      (∀ q, q ≤ m → addOp (ts.getD (f + 2 * q) dT) = true) → Q .normal a' W) :
    Code.wp Tryz.prog (.block 10 d) Q a W := by
  have key : ∀ {D : Code}, Tryz.f30.body.bind (fb 10) = some (.block 10 D) → Code.wp Tryz.prog (.block 10 D) Q a W → Code.wp Tryz.prog (.block 10 d) Q a W := fun e h => by
    rw [e] at hcode
    cases hcode
    exact h
  refine key rfl ?_
  clear key hcode
  have hle := hrow.le
  refine wp_block ?_
  have hop0 : ∀ q, q ≤ 0 → addOp (ts.getD (f + 2 * q) dT) = true := fun q hq => by
    obtain rfl : q = 0 := Nat.le_zero.1 hq
    exact hop
  refine wp_loop (fun a w => w = W ∧ Fr a ∧ ∃ l m, l = f + 2 * m ∧ a.tmps[3]? = some (.slice (some ⟨T, 0, none⟩) ts.length n) ∧ a.tmps[13]? = some (.int .i64 f) ∧ a.tmps[25]? = some (.int .i64 (l : Int)) ∧ scan addOp ts f = scan addOp ts l ∧ l + 1 < ts.length ∧
      (∀ q, q ≤ m → addOp (ts.getD (f + 2 * q) dT) = true)) (fun a _ => ts.length - intAt a 25) ⟨rfl, hfr, f, 0, rfl, e3, e13, e16, rfl, hlt, hop0⟩ ?_
  clear hfr e3 e13 e16 hop0 hop a
  rintro a w ⟨rfl, hfr, l, m, el, e3, e13, e16, hsc, hm, hops⟩
  obtain ⟨xs, rfl, hx⟩ := hfr.lit
  have x3 := hx 3 _ (by omega) e3
  have x13 := hx 13 _ (by omega) e13
  have x16 := hx 25 _ (by omega) e16
  clear hx e3 e13 e16 hfr
  simp only [fr, x3, x13, x16]
  clear x3 x13 x16
  have HQ := Lib.hid hQ
  have HO := Lib.hid hops
  have HL := Lib.hid el
  have HS := Lib.hid hsc
  have fin : addOp (ts.getD (l + 2) dT) = true → ∀ q, q ≤ m + 1 → addOp (ts.getD (f + 2 * q) dT) = true := fun h q hq => by
    rcases Nat.lt_or_ge m q with hg | hg
    · obtain rfl : q = m + 1 := by omega
      rw [show f + 2 * (m + 1) = l + 2 by omega]
      exact h
    · exact hops q hg
  have HF := Lib.hid fin
  clear hQ hops el hsc fin
  by_cases hlt3 : l + 3 < ts.length
  · have hl3 : (l : Int) + 3 < (ts.length : Int) := by omega
    obtain ⟨v, k, c0, c1, hv⟩ := hrow.cell (l + 2) (by omega)
    have H1 := Lib.hid (scan_on (op := addOp) hlt3)
    have H0 := Lib.hid (scan_off (op := addOp) hlt3)
    generalize ht : ts.getD (l + 2) dT = t at hv H0 H1 HF
    clear ht
    cases hv with
    | val b kd s ws bad p hbD q0 q1 q2 q3 q4 q5 q6 q7 =>
      have ha := run_assert_same (P := Tryz.prog) (.pointer (some ⟨b, 0, none⟩)) 70 54 80 Tryz.underlying54
      cases bad
      all_goals
        go_wp2_with fail
      all_goals first
        | (have hy := H1.out (by simp_all [addOp])
           have hz := HF.out (by simp_all [addOp])
           have e2 := HL.out
           refine ⟨⟨trivial, ⟨rfl, rfl⟩, l + 2, m + 1, by omega, rfl, rfl, rfl, HS.out.trans hy, by omega, hz⟩, ?_⟩
           show ts.length - (l + 2) < ts.length - l
           omega)
        | (have hy := H0.out (by simp_all [addOp])
           exact HQ.out _ l m HL.out ⟨rfl, rfl⟩ rfl rfl rfl (HS.out.trans hy) hm HO.out)
    | num b _ _ hbD q0 q1 =>
      have ha := other34 b
      go_wp2_with fail
      exact HQ.out _ l m HL.out ⟨rfl, rfl⟩ rfl rfl rfl (HS.out.trans (H0.out rfl)) hm HO.out
    | sum b _ _ _ _ hbD _ q0 _ _ =>
      have ha := other102 b
      go_wp2_with fail
      exact HQ.out _ l m HL.out ⟨rfl, rfl⟩ rfl rfl rfl (HS.out.trans (H0.out rfl)) hm HO.out
    | prod b _ _ _ _ hbD _ q0 _ _ =>
      have ha := other98 b
      go_wp2_with fail
      exact HQ.out _ l m HL.out ⟨rfl, rfl⟩ rfl rfl rfl (HS.out.trans (H0.out rfl)) hm HO.out
    | neg b _ _ hbD q0 _ =>
      have ha := other100 b
      go_wp2_with fail
      exact HQ.out _ l m HL.out ⟨rfl, rfl⟩ rfl rfl rfl (HS.out.trans (H0.out rfl)) hm HO.out
    | inv b _ _ hbD q0 _ =>
      have ha := other95 b
      go_wp2_with fail
      exact HQ.out _ l m HL.out ⟨rfl, rfl⟩ rfl rfl rfl (HS.out.trans (H0.out rfl)) hm HO.out
  · have hl3 : ¬ (l : Int) + 3 < (ts.length : Int) := by omega
    go_wp2_with fail
    exact HQ.out _ l m HL.out ⟨rfl, rfl⟩ rfl rfl rfl (HS.out.trans (scan_end hlt3)) hm HO.out
end Go.Proofs.YthbfppnegodpoaaGreatDoor
