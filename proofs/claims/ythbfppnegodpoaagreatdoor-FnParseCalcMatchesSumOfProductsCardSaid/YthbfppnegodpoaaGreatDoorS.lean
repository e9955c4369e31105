/-
  tryToParseCalcTerm in plain Lean: trees, the two collecting passes, parity.
-/
namespace Go.Proofs.YthbfppnegodpoaaGreatDoor

/-- A tree of calc terms. -/
inductive CT where
  | num (u : ByteArray) (x : Nat)
  | val (k : Int) (t : ByteArray) (ws : Int) (bad : Bool)
  | sum (l : List CT)
  | prod (l : List CT)
  | neg (t : CT)
  | inv (t : CT)

def dT : CT := .num ByteArray.empty 0

/-- The end of the run of operators that begins at last. -/
def scan (op : CT → Bool) (ts : List CT) (last : Nat) : Nat :=
  if h : last + 3 < ts.length then
    if op (ts.getD (last + 2) dT) then scan op ts (last + 2) else last
  else last
termination_by ts.length - last

theorem scan_ge (op : CT → Bool) (ts : List CT) (last : Nat) : last ≤ scan op ts last := by
  induction hn : ts.length - last using Nat.strongRecOn generalizing last with
  | _ n ih =>
    rw [scan]
    split
    · split
      · exact Nat.le_trans (Nat.le_add_right _ 2) (ih _ (by omega) (last + 2) rfl)
      · exact Nat.le_refl _
    · exact Nat.le_refl _
theorem scan_lt (op : CT → Bool) (ts : List CT) (last : Nat) (h0 : last + 1 < ts.length) : scan op ts last + 1 < ts.length := by
  induction hn : ts.length - last using Nat.strongRecOn generalizing last with
  | _ n ih =>
    rw [scan]
    split
    · split
      · exact ih _ (by omega) (last + 2) (by omega) rfl
      · exact h0
    · exact h0
theorem scan_par (op : CT → Bool) (ts : List CT) (last : Nat) : scan op ts last % 2 = last % 2 := by
  induction hn : ts.length - last using Nat.strongRecOn generalizing last with
  | _ n ih =>
    rw [scan]
    split
    · split
      · rw [ih _ (by omega) (last + 2) rfl]; omega
      · rfl
    · rfl

/-- The run's operands, each behind an operator of the second kind wrapped. -/
def runOf (second : CT → Bool) (wrap : CT → CT) (ts : List CT) (first last : Nat) : List CT :=
  (List.range ((last - first) / 2 + 2)).map fun i =>
    let t := ts.getD (first + i * 2 - 1) dT
    if 0 < i ∧ second (ts.getD (first + i * 2 - 2) dT) = true then wrap t else t

/-- The list behind the run's replacement. -/
def repl (second : CT → Bool) (wrap : CT → CT) (mk : List CT → CT) (ts : List CT) (first last : Nat) : List CT :=
  ts.take (first - 1) ++ (mk (runOf second wrap ts first last) :: ts.drop (last + 2))

theorem repl_len (second : CT → Bool) (wrap : CT → CT) (mk : List CT → CT) (ts : List CT) (first last : Nat) (h1 : 1 ≤ first) (h2 : first ≤ last) (h3 : last + 1 < ts.length) :
    (repl second wrap mk ts first last).length = first + (ts.length - (last + 2)) := by
  unfold repl
  rw [List.length_append, List.length_cons, List.length_take, List.length_drop]
  omega

/-- One collecting pass. -/
def pass (op second : CT → Bool) (wrap : CT → CT) (mk : List CT → CT) (first : Nat) (h1 : 1 ≤ first) (ts : List CT) : List CT :=
  if h : first + 1 < ts.length then
    if op (ts.getD first dT) then pass op second wrap mk first h1 (repl second wrap mk ts first (scan op ts first))
    else pass op second wrap mk (first + 1) (by omega) ts
  else ts
termination_by ts.length - first
decreasing_by
  · have h2 := scan_ge op ts first
    have h3 := scan_lt op ts first h
    rw [repl_len _ _ _ _ _ _ h1 h2 h3]
    omega
  · omega

theorem pass_par (op second : CT → Bool) (wrap : CT → CT) (mk : List CT → CT) (first : Nat) (h1 : 1 ≤ first) (ts : List CT) : (pass op second wrap mk first h1 ts).length % 2 = ts.length % 2 := by
  induction hn : ts.length - first using Nat.strongRecOn generalizing first ts with
  | _ n ih =>
    rw [pass]
    split
    · rename_i h
      split
      · have h2 := scan_ge op ts first
        have h3 := scan_lt op ts first h
        have h4 := scan_par op ts first
        have hl := repl_len second wrap mk ts first (scan op ts first) h1 h2 h3
        rw [ih _ (by rw [hl]; omega) first h1 _ rfl, hl]
        omega
      · exact ih _ (by omega) (first + 1) (by omega) ts rfl
    · rfl
end Go.Proofs.YthbfppnegodpoaaGreatDoor
