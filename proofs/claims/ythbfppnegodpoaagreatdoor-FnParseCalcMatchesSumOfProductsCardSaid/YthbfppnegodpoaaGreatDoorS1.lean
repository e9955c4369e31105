/-
  The two collecting passes over a list of operands and operators in turn: plain law.
-/
import Derived.Test.YthbfppnegodpoaaGreatDoorP
namespace Go.Proofs.YthbfppnegodpoaaGreatDoor

def dP : CT × CT := (dT, dT)
/-- Operators and operands in turn. -/
def flat : List (CT × CT) → List CT
  | [] => []
  | p :: ps => p.1 :: p.2 :: flat ps
theorem flat_len (ps : List (CT × CT)) : (flat ps).length = 2 * ps.length := by
  induction ps with
  | nil => rfl
  | cons p ps ih => simp only [flat, List.length_cons, ih]; omega
theorem flat_even (ps : List (CT × CT)) (i : Nat) : (flat ps).getD (2 * i) dT = (ps.getD i dP).1 := by
  induction ps generalizing i with
  | nil => simp [flat, dP]
  | cons p ps ih =>
    cases i with
    | zero => rfl
    | succ i => exact ih i
theorem flat_odd (ps : List (CT × CT)) (i : Nat) : (flat ps).getD (2 * i + 1) dT = (ps.getD i dP).2 := by
  induction ps generalizing i with
  | nil => simp [flat, dP]
  | cons p ps ih =>
    cases i with
    | zero => rfl
    | succ i => exact ih i
theorem flat_drop (ps : List (CT × CT)) (i : Nat) : (flat ps).drop (2 * i) = flat (ps.drop i) := by
  induction ps generalizing i with
  | nil => simp [flat]
  | cons p ps ih =>
    cases i with
    | zero => rfl
    | succ i => exact ih i

/-- What is done, one operand, and the rest. -/
def lay (pre : List CT) (t0 : CT) (ps : List (CT × CT)) : List CT := pre ++ t0 :: flat ps
theorem lay_len (pre : List CT) (t0 : CT) (ps : List (CT × CT)) : (lay pre t0 ps).length = pre.length + 1 + 2 * ps.length := by
  unfold lay
  rw [List.length_append, List.length_cons, flat_len]
  omega
theorem lay_at (pre : List CT) (t0 : CT) (ps : List (CT × CT)) (k : Nat) : (lay pre t0 ps).getD (pre.length + 1 + k) dT = (flat ps).getD k dT := by
  unfold lay
  rw [List.getD_eq_getElem?_getD, List.getD_eq_getElem?_getD, List.getElem?_append_right (by omega), show pre.length + 1 + k - pre.length = k + 1 by omega, List.getElem?_cons_succ]
theorem lay_0 (pre : List CT) (t0 : CT) (ps : List (CT × CT)) : (lay pre t0 ps).getD pre.length dT = t0 := by
  unfold lay
  rw [List.getD_eq_getElem?_getD, List.getElem?_append_right (Nat.le_refl _), Nat.sub_self]
  rfl
theorem lay_op (pre : List CT) (t0 : CT) (ps : List (CT × CT)) (i : Nat) : (lay pre t0 ps).getD (pre.length + 1 + 2 * i) dT = (ps.getD i dP).1 := by
  rw [lay_at, flat_even]
theorem lay_opd (pre : List CT) (t0 : CT) (ps : List (CT × CT)) (i : Nat) : (lay pre t0 ps).getD (pre.length + 1 + 2 * i + 1) dT = (ps.getD i dP).2 := by
  rw [show pre.length + 1 + 2 * i + 1 = pre.length + 1 + (2 * i + 1) by omega, lay_at, flat_odd]

section
variable (op second : CT → Bool) (wrap : CT → CT) (mk : List CT → CT)

theorem scan_lay (pre : List CT) (t0 : CT) (ps : List (CT × CT)) (i : Nat) (hi : i < ps.length) :
    scan op (lay pre t0 ps) (pre.length + 1 + 2 * i) = pre.length + 1 + 2 * (i + ((ps.drop (i + 1)).takeWhile fun p => op p.1).length) := by
  induction hn : ps.length - i generalizing i with
  | zero => omega
  | succ n ih =>
    by_cases h : i + 1 < ps.length
    · have hd : ps.drop (i + 1) = ps[i + 1] :: ps.drop (i + 1 + 1) := List.drop_eq_getElem_cons h
      have hg : (lay pre t0 ps).getD (pre.length + 1 + 2 * i + 2) dT = (ps[i + 1]).1 := by
        rw [show pre.length + 1 + 2 * i + 2 = pre.length + 1 + 2 * (i + 1) by omega, lay_op, List.getD_eq_getElem?_getD, List.getElem?_eq_getElem h, Option.getD_some]
      cases ho : op (ps[i + 1]).1 with
      | true =>
        rw [scan_on (by rw [lay_len]; omega) (by rw [hg]; exact ho), show pre.length + 1 + 2 * i + 2 = pre.length + 1 + 2 * (i + 1) by omega, ih (i + 1) h (by omega), hd, List.takeWhile_cons_of_pos (by exact ho), List.length_cons]
        omega
      | false =>
        rw [scan_off (by rw [lay_len]; omega) (by rw [hg]; exact ho), hd, List.takeWhile_cons_of_neg (by rw [ho]; exact Bool.false_ne_true)]
        rfl
    · rw [scan_end (by rw [lay_len]; omega), List.drop_eq_nil_of_le (by omega)]
      rfl

/-- An operand behind its operator. -/
def wr (p : CT × CT) : CT := if second p.1 = true then wrap p.2 else p.2

theorem repl_lay (pre : List CT) (t0 : CT) (ps : List (CT × CT)) (e : Nat) (he : e < ps.length) :
    repl second wrap mk (lay pre t0 ps) (pre.length + 1) (pre.length + 1 + 2 * e) = lay pre (mk (t0 :: (ps.take (e + 1)).map (wr second wrap))) (ps.drop (e + 1)) := by
  unfold repl
  rw [runOf_eq]
  have h1 : (lay pre t0 ps).take (pre.length + 1 - 1) = pre := by
    unfold lay
    rw [Nat.add_sub_cancel, List.take_left']
    rfl
  have h2 : (lay pre t0 ps).drop (pre.length + 1 + 2 * e + 2) = flat (ps.drop (e + 1)) := by
    unfold lay
    rw [show pre.length + 1 + 2 * e + 2 = pre.length + (2 * (e + 1) + 1) by omega, List.drop_length_add_append, List.drop_succ_cons, flat_drop]
  have h3 : (List.range (e + 2)).map (opnd second wrap (lay pre t0 ps) (pre.length + 1)) = t0 :: (ps.take (e + 1)).map (wr second wrap) := by
    rw [List.range_succ_eq_map, List.map_cons]
    congr 1
    · unfold opnd
      rw [if_neg (by omega)]
      exact lay_0 _ _ _
    · rw [List.map_map]
      apply List.ext_getElem
      · simp only [List.length_map, List.length_range, List.length_take]; omega
      · intro j hj1 hj2
        simp only [List.length_map, List.length_range] at hj1
        rw [List.getElem_map, List.getElem_map, List.getElem_take, List.getElem_range]
        simp only [Function.comp]
        unfold opnd wr
        rw [show pre.length + 1 + (j.succ) * 2 - 2 = pre.length + 1 + 2 * j by omega, show pre.length + 1 + (j.succ) * 2 - 1 = pre.length + 1 + 2 * j + 1 by omega, lay_op, lay_opd]
        rw [List.getD_eq_getElem?_getD, List.getElem?_eq_getElem (show j < ps.length by omega), Option.getD_some]
        by_cases hs : second (ps[j]'(by omega)).1 = true
        · rw [if_pos ⟨by omega, hs⟩, if_pos hs]
        · rw [if_neg (fun h => hs h.2), if_neg hs]
  rw [h1, h2, h3]
  rfl

/-- What a pass makes. -/
def grp (t0 : CT) : List (CT × CT) → CT × List (CT × CT)
  | [] => (t0, [])
  | p :: ps =>
    if op p.1 = true then grp (mk (t0 :: ((p :: ps).takeWhile fun p => op p.1).map (wr second wrap))) (ps.dropWhile fun p => op p.1)
    else (t0, (p.1, (grp p.2 ps).1) :: (grp p.2 ps).2)
termination_by ps => ps.length
decreasing_by
  · have := List.IsSuffix.length_le (List.dropWhile_suffix (l := ps) fun p => op p.1)
    simp only [List.length_cons]
    omega
  · simp

theorem pass_grp (f : Nat) (hf : 1 ≤ f) (pre : List CT) (t0 : CT) (ps : List (CT × CT)) (e : f = pre.length + 1) (hp : ∀ p ∈ ps, op p.2 = false) :
    pass op second wrap mk f hf (lay pre t0 ps) = lay pre (grp op second wrap mk t0 ps).1 (grp op second wrap mk t0 ps).2 := by
  induction hn : ps.length using Nat.strongRecOn generalizing f pre t0 ps with
  | _ n ih =>
    subst e
    cases ps with
    | nil => rw [pass_end _ (by rw [lay_len]; simp), grp]
    | cons p ps =>
      have hl : pre.length + 1 + 1 < (lay pre t0 (p :: ps)).length := by rw [lay_len, List.length_cons]; omega
      have hg : (lay pre t0 (p :: ps)).getD (pre.length + 1) dT = p.1 := lay_op pre t0 (p :: ps) 0
      rw [grp]
      by_cases ho : op p.1 = true
      · rw [if_pos ho, pass_yes _ hl (by rw [hg]; exact ho)]
        have hs := scan_lay op pre t0 (p :: ps) 0 (by simp)
        rw [Nat.mul_zero, Nat.add_zero, Nat.zero_add, Nat.zero_add, List.drop_one, List.tail_cons] at hs
        have hw := List.IsPrefix.length_le (List.takeWhile_prefix (l := ps) fun p => op p.1)
        rw [hs, repl_lay second wrap mk pre t0 (p :: ps) _ (by rw [List.length_cons]; omega), List.take_succ_cons, List.drop_succ_cons, show ((p :: ps).takeWhile fun p => op p.1) = p :: ps.takeWhile fun p => op p.1 from List.takeWhile_cons_of_pos (p := fun p : CT × CT => op p.1) ho]
        have e1 : ps.take (ps.takeWhile fun p => op p.1).length = ps.takeWhile fun p => op p.1 := (List.prefix_iff_eq_take.1 (List.takeWhile_prefix _)).symm
        have e2 : ps.drop (ps.takeWhile fun p => op p.1).length = ps.dropWhile fun p => op p.1 := by
          have h := List.takeWhile_append_dropWhile (p := fun p : CT × CT => op p.1) (l := ps)
          have h2 := congrArg (List.drop (ps.takeWhile fun p => op p.1).length) h
          rw [List.drop_left] at h2
          exact h2.symm
        rw [e1, e2]
        have hd := List.IsSuffix.length_le (List.dropWhile_suffix (l := ps) fun p => op p.1)
        exact ih _ (by rw [← hn, List.length_cons]; omega) _ _ pre _ _ rfl (fun q hq => hp q (List.mem_cons_of_mem _ ((List.dropWhile_suffix _).subset hq))) rfl
      · have ho : op p.1 = false := by simpa using ho
        rw [if_neg (by rw [ho]; exact Bool.false_ne_true), pass_no _ hl (by rw [hg]; exact ho)]
        have hg2 : (lay pre t0 (p :: ps)).getD (pre.length + 1 + 1) dT = p.2 := lay_opd pre t0 (p :: ps) 0
        have hlay : lay pre t0 (p :: ps) = lay (pre ++ [t0, p.1]) p.2 ps := by
          unfold lay
          rw [List.append_assoc]
          rfl
        by_cases h2 : pre.length + 1 + 1 + 1 < (lay pre t0 (p :: ps)).length
        · rw [pass_no _ h2 (by rw [hg2]; exact hp p (List.mem_cons_self)), hlay]
          rw [ih ps.length (by rw [← hn, List.length_cons]; omega) _ (by omega) (pre ++ [t0, p.1]) p.2 ps (by simp) (fun q hq => hp q (List.mem_cons_of_mem _ hq)) rfl]
          unfold lay
          rw [List.append_assoc]
          rfl
        · have hz : ps = [] := by
            rw [lay_len, List.length_cons] at h2
            exact List.length_eq_zero_iff.1 (by omega)
          subst hz
          rw [pass_end _ h2, grp]
end
end Go.Proofs.YthbfppnegodpoaaGreatDoor
