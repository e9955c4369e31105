/-
  The two collecting passes: the operators; equations; what a run's replacement is.
-/
import Derived.Test.YthbfppnegodpoaaGreatDoorS
namespace Go.Proofs.YthbfppnegodpoaaGreatDoor

def mulOp : CT → Bool
  | .val k _ _ _ => k == 13 || k == 24
  | _ => false
def isDiv : CT → Bool
  | .val k _ _ _ => k == 24
  | _ => false
def addOp : CT → Bool
  | .val k _ _ bad => !bad && (k == 23 || k == 22)
  | _ => false
def isSub : CT → Bool
  | .val k _ _ _ => k == 22
  | _ => false

def mulPass (f : Nat) (h : 1 ≤ f) (ts : List CT) : List CT := pass mulOp isDiv .inv .prod f h ts
def addPass (f : Nat) (h : 1 ≤ f) (ts : List CT) : List CT := pass addOp isSub .neg .sum f h ts

section
variable {op second : CT → Bool} {wrap : CT → CT} {mk : List CT → CT} {f : Nat} {ts : List CT}
theorem pass_end (h : 1 ≤ f) (hl : ¬ f + 1 < ts.length) : pass op second wrap mk f h ts = ts := by
  rw [pass, dif_neg hl]
theorem pass_no (h : 1 ≤ f) (hl : f + 1 < ts.length) (ho : op (ts.getD f dT) = false) : pass op second wrap mk f h ts = pass op second wrap mk (f + 1) (Nat.le_succ_of_le h) ts := by
  rw [pass, dif_pos hl, if_neg (by rw [ho]; exact Bool.false_ne_true)]
theorem pass_yes (h : 1 ≤ f) (hl : f + 1 < ts.length) (ho : op (ts.getD f dT) = true) : pass op second wrap mk f h ts = pass op second wrap mk f h (repl second wrap mk ts f (scan op ts f)) := by
  rw [pass, dif_pos hl, if_pos ho]
theorem scan_on {l : Nat} (h : l + 3 < ts.length) (ho : op (ts.getD (l + 2) dT) = true) : scan op ts l = scan op ts (l + 2) := by
  rw [scan, dif_pos h, if_pos ho]
theorem scan_off {l : Nat} (h : l + 3 < ts.length) (ho : op (ts.getD (l + 2) dT) = false) : scan op ts l = l := by
  rw [scan, dif_pos h, if_neg (by rw [ho]; exact Bool.false_ne_true)]
theorem scan_end {l : Nat} (h : ¬ l + 3 < ts.length) : scan op ts l = l := by
  rw [scan, dif_neg h]

/-- The run's j-th operand. -/
def opnd (second : CT → Bool) (wrap : CT → CT) (ts : List CT) (f j : Nat) : CT :=
  if 0 < j ∧ second (ts.getD (f + j * 2 - 2) dT) = true then wrap (ts.getD (f + j * 2 - 1) dT) else ts.getD (f + j * 2 - 1) dT

theorem runOf_eq (m : Nat) : runOf second wrap ts f (f + 2 * m) = (List.range (m + 2)).map (opnd second wrap ts f) := by
  unfold runOf
  rw [show (f + 2 * m - f) / 2 = m by omega]
  rfl
theorem run_snoc (j : Nat) : (List.range (j + 1)).map (opnd second wrap ts f) = (List.range j).map (opnd second wrap ts f) ++ [opnd second wrap ts f j] := by
  rw [List.range_succ, List.map_append]
  rfl
theorem repl_eq (m : Nat) (h1 : 1 ≤ f) (h2 : f + 2 * m + 1 < ts.length) :
    ((ts.set (f - 1) (mk ((List.range (m + 2)).map (opnd second wrap ts f)))).take f ++ (ts.set (f - 1) (mk ((List.range (m + 2)).map (opnd second wrap ts f)))).drop (f + 2 * m + 2)) = repl second wrap mk ts f (f + 2 * m) := by
  unfold repl
  rw [runOf_eq]
  generalize mk ((List.range (m + 2)).map (opnd second wrap ts f)) = x
  obtain ⟨g, rfl⟩ : ∃ g, f = g + 1 := ⟨f - 1, by omega⟩
  rw [Nat.add_sub_cancel, List.drop_set_of_lt (by omega), List.take_succ_eq_append_getElem (by rw [List.length_set]; omega), List.getElem_set_self, List.take_set_of_le (Nat.le_refl _), List.append_assoc]
  rfl
end
end Go.Proofs.YthbfppnegodpoaaGreatDoor
