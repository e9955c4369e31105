/-
  What the parse makes of operands and operators in turn: a sum of products, group by group.
-/
import Derived.Test.YthbfppnegodpoaaGreatDoorS1
import Derived.Test.YthbfppnegodpoaaGreatDoorF2
namespace Go.Proofs.YthbfppnegodpoaaGreatDoor

section
variable (op second : CT → Bool) (wrap : CT → CT) (mk : List CT → CT)

theorem drop_while {α : Type} (q : α → Bool) (l : List α) : l.drop (l.takeWhile q).length = l.dropWhile q := by
  have h2 := congrArg (List.drop (l.takeWhile q).length) (List.takeWhile_append_dropWhile (p := q) (l := l))
  rw [List.drop_left] at h2
  exact h2.symm
theorem mem_tw {α : Type} (q : α → Bool) (l : List α) {x : α} (h : x ∈ l.takeWhile q) : q x = true := by
  induction l with
  | nil => cases h
  | cons y l ih =>
    cases hq : q y with
    | true =>
      rw [List.takeWhile_cons_of_pos hq] at h
      rcases List.mem_cons.1 h with rfl | h
      · exact hq
      · exact ih h
    | false =>
      rw [List.takeWhile_cons_of_neg (by rw [hq]; exact Bool.false_ne_true)] at h
      cases h
theorem tw_self {α : Type} (q : α → Bool) (l : List α) (h : ∀ x ∈ l, q x = true) : l.takeWhile q = l := by
  induction l with
  | nil => rfl
  | cons y l ih => rw [List.takeWhile_cons_of_pos (h y List.mem_cons_self), ih (fun x hx => h x (List.mem_cons_of_mem _ hx))]
theorem take_while {α : Type} (q : α → Bool) (l : List α) : l.take (l.takeWhile q).length = l.takeWhile q := (List.prefix_iff_eq_take.1 (List.takeWhile_prefix _)).symm

def headOf (t0 : CT) (ps : List (CT × CT)) : CT := if (ps.takeWhile fun p => op p.1) = [] then t0 else mk (t0 :: (ps.takeWhile fun p => op p.1).map (wr second wrap))

theorem grp_span (t0 : CT) (ps : List (CT × CT)) : grp op second wrap mk t0 ps =
    (headOf op second wrap mk t0 ps, match ps.dropWhile fun p => op p.1 with
      | [] => []
      | p :: r => (p.1, (grp op second wrap mk p.2 r).1) :: (grp op second wrap mk p.2 r).2) := by
  cases ps with
  | nil => rw [grp]; rfl
  | cons p ps =>
    rw [grp]
    by_cases ho : op p.1 = true
    · have e1 : ((p :: ps).takeWhile fun p => op p.1) = p :: ps.takeWhile fun p => op p.1 := List.takeWhile_cons_of_pos (p := fun p : CT × CT => op p.1) ho
      have e2 : ((p :: ps).dropWhile fun p => op p.1) = ps.dropWhile fun p => op p.1 := List.dropWhile_cons_of_pos (p := fun p : CT × CT => op p.1) ho
      unfold headOf
      rw [if_pos ho, e2, e1, if_neg (by simp)]
      cases hd : ps.dropWhile fun p => op p.1 with
      | nil => rw [grp]
      | cons q r =>
        have hq : op q.1 = false := by
          have h := List.head?_dropWhile_not (fun p : CT × CT => op p.1) ps
          rw [hd] at h
          simpa using h
        rw [grp, if_neg (by rw [hq]; exact Bool.false_ne_true)]
    · have e1 : ((p :: ps).takeWhile fun p => op p.1) = [] := List.takeWhile_cons_of_neg (p := fun p : CT × CT => op p.1) ho
      have e2 : ((p :: ps).dropWhile fun p => op p.1) = p :: ps := List.dropWhile_cons_of_neg (p := fun p : CT × CT => op p.1) ho
      unfold headOf
      rw [if_neg ho, e2, e1, if_pos rfl]

/-- Every operator is of the kind: one group. -/
theorem grp_all (t0 : CT) (ps : List (CT × CT)) (h : ∀ p ∈ ps, op p.1 = true) : grp op second wrap mk t0 ps = (if ps = [] then t0 else mk (t0 :: ps.map (wr second wrap)), []) := by
  have e1 : (ps.takeWhile fun p => op p.1) = ps := tw_self _ _ (fun p hp => h p hp)
  have e2 : (ps.dropWhile fun p => op p.1) = [] := by
    have := drop_while (fun p : CT × CT => op p.1) ps
    rw [e1, List.drop_length] at this
    exact this.symm
  rw [grp_span, e2]
  unfold headOf
  rw [e1]
/-- .. and only then. -/
theorem grp_one (t0 : CT) (ps : List (CT × CT)) (h : (grp op second wrap mk t0 ps).2 = []) : ∀ p ∈ ps, op p.1 = true := by
  rw [grp_span] at h
  cases hd : ps.dropWhile fun p => op p.1 with
  | nil =>
    intro p hp
    have := List.takeWhile_append_dropWhile (p := fun p : CT × CT => op p.1) (l := ps)
    rw [hd, List.append_nil] at this
    rw [← this] at hp
    exact mem_tw (fun p : CT × CT => op p.1) _ hp
  | cons q r =>
    rw [hd] at h
    cases h
/-- The operators that are left: those not of the kind. -/
theorem grp_ops (t0 : CT) (ps : List (CT × CT)) (c : CT → Bool) : (∀ p ∈ (grp op second wrap mk t0 ps).2, c p.1 = true) ↔ ∀ p ∈ ps, op p.1 = true ∨ c p.1 = true := by
  induction hn : ps.length using Nat.strongRecOn generalizing t0 ps with
  | _ n ih =>
    cases ps with
    | nil => rw [grp]; simp
    | cons p ps =>
      rw [grp]
      by_cases ho : op p.1 = true
      · rw [if_pos ho]
        have hd := List.IsSuffix.length_le (List.dropWhile_suffix (l := ps) fun p => op p.1)
        rw [ih _ (by rw [← hn, List.length_cons]; omega) _ (ps.dropWhile fun p => op p.1) rfl]
        constructor
        · intro h q hq
          rcases List.mem_cons.1 hq with rfl | hq
          · exact .inl ho
          · rw [← List.takeWhile_append_dropWhile (p := fun p : CT × CT => op p.1) (l := ps)] at hq
            rcases List.mem_append.1 hq with hq | hq
            · exact .inl (mem_tw (fun p : CT × CT => op p.1) _ hq)
            · exact h q hq
        · intro h q hq
          exact h q (List.mem_cons_of_mem _ ((List.dropWhile_suffix _).subset hq))
      · rw [if_neg ho]
        have h1 := ih _ (by rw [← hn, List.length_cons]; omega) p.2 ps rfl
        simp only [List.mem_cons, forall_eq_or_imp]
        rw [h1]
        constructor
        · rintro ⟨a, b⟩
          exact ⟨.inr a, b⟩
        · rintro ⟨a | a, b⟩
          · exact absurd a ho
          · exact ⟨a, b⟩
/-- The operands that are left. -/
theorem grp_opds (t0 : CT) (ps : List (CT × CT)) (c : CT → Bool) (hmk : ∀ l, c (mk l) = false) (h : ∀ p ∈ ps, c p.2 = false) : ∀ p ∈ (grp op second wrap mk t0 ps).2, c p.2 = false := by
  induction hn : ps.length using Nat.strongRecOn generalizing t0 ps with
  | _ n ih =>
    rw [grp_span]
    cases hd : ps.dropWhile fun p => op p.1 with
    | nil => intro p hp; cases hp
    | cons q r =>
      have hs : (q :: r) <:+ ps := by rw [← hd]; exact List.dropWhile_suffix _
      have hl := hs.length_le
      rw [List.length_cons] at hl
      have hr : ∀ p ∈ r, c p.2 = false := fun p hp => h p (hs.subset (List.mem_cons_of_mem _ hp))
      intro p hp
      rcases List.mem_cons.1 hp with rfl | hp
      · show c (grp op second wrap mk q.2 r).1 = false
        rw [grp_span]
        show c (headOf op second wrap mk q.2 r) = false
        unfold headOf
        split
        · exact h q (hs.subset List.mem_cons_self)
        · exact hmk _
      · exact ih r.length (by omega) q.2 r hr rfl p hp
end

/-! By places: leaf k and the operator before it. -/
def leafOf (t0 : CT) (P : List (CT × CT)) (k : Nat) : CT := if k = 0 then t0 else (P.getD (k - 1) dP).2
def opOf (P : List (CT × CT)) (k : Nat) : CT := (P.getD (k - 1) dP).1
def runLen (P : List (CT × CT)) (k : Nat) : Nat := ((P.drop k).takeWhile fun p => mulOp p.1).length
def grpT (t0 : CT) (P : List (CT × CT)) (k : Nat) : CT := if runLen P k = 0 then leafOf t0 P k else .prod (leafOf t0 P k :: ((P.drop k).take (runLen P k)).map (wr isDiv .inv))
def sgn (P : List (CT × CT)) (k : Nat) (t : CT) : CT := if 0 < k ∧ isSub (opOf P k) = true then .neg t else t
def terms (t0 : CT) (P : List (CT × CT)) (k : Nat) : List CT := sgn P k (grpT t0 P k) :: (if k + runLen P k < P.length then terms t0 P (k + runLen P k + 1) else [])
termination_by P.length - k

theorem terms_eq (t0 : CT) (P : List (CT × CT)) (k : Nat) (hk : k ≤ P.length) : terms t0 P k = sgn P k (grp mulOp isDiv .inv .prod (leafOf t0 P k) (P.drop k)).1 :: (grp mulOp isDiv .inv .prod (leafOf t0 P k) (P.drop k)).2.map (wr isSub .neg) := by
  induction hn : P.length - k using Nat.strongRecOn generalizing k with
  | _ n ih =>
    rw [terms, grp_span]
    have hh : headOf mulOp isDiv .inv .prod (leafOf t0 P k) (P.drop k) = grpT t0 P k := by
      unfold headOf grpT runLen
      rw [take_while]
      by_cases h : ((P.drop k).takeWhile fun p => mulOp p.1) = []
      · rw [if_pos h, if_pos (by rw [h]; rfl)]
      · rw [if_neg h, if_neg (by rw [List.length_eq_zero_iff]; exact h)]
    rw [hh]
    congr 1
    have hdw : ((P.drop k).dropWhile fun p => mulOp p.1) = P.drop (k + runLen P k) := by
      rw [← drop_while, List.drop_drop]
      rfl
    rw [hdw]
    by_cases h : k + runLen P k < P.length
    · rw [if_pos h, List.drop_eq_getElem_cons h, ih _ (by omega) (k + runLen P k + 1) (by omega) rfl]
      have e1 : leafOf t0 P (k + runLen P k + 1) = (P[k + runLen P k]).2 := by
        unfold leafOf
        rw [if_neg (by omega), Nat.add_sub_cancel, List.getD_eq_getElem?_getD, List.getElem?_eq_getElem h, Option.getD_some]
      have e2 : opOf P (k + runLen P k + 1) = (P[k + runLen P k]).1 := by
        unfold opOf
        rw [Nat.add_sub_cancel, List.getD_eq_getElem?_getD, List.getElem?_eq_getElem h, Option.getD_some]
      rw [e1]
      show _ = wr isSub .neg (_, _) :: _
      congr 1
      unfold sgn wr
      rw [e2]
      by_cases hs : isSub (P[k + runLen P k]).1 = true
      · rw [if_pos ⟨by omega, hs⟩, if_pos hs]
      · rw [if_neg (fun h => hs h.2), if_neg hs]
    · rw [if_neg h, List.drop_eq_nil_of_le (by omega)]
      rfl

/-- The parse. -/
theorem parsed_terms (t0 : CT) (P : List (CT × CT)) (hm : ∀ p ∈ P, mulOp p.2 = false) (ha : ∀ p ∈ P, addOp p.2 = false) :
    ((∀ p ∈ P, mulOp p.1 = true ∨ addOp p.1 = true) → parsed (t0 :: flat P) = some (if (terms t0 P 0).length = 1 then (terms t0 P 0).getD 0 dT else .sum (terms t0 P 0))) ∧
    ((¬ ∀ p ∈ P, mulOp p.1 = true ∨ addOp p.1 = true) → parsed (t0 :: flat P) = none) := by
  have e1 : mulPass 1 (Nat.le_refl 1) (t0 :: flat P) = lay [] (grp mulOp isDiv .inv .prod t0 P).1 (grp mulOp isDiv .inv .prod t0 P).2 := pass_grp mulOp isDiv .inv .prod 1 (Nat.le_refl 1) [] t0 P rfl hm
  have ho := grp_ops mulOp isDiv .inv .prod t0 P addOp
  have hod := grp_opds mulOp isDiv .inv .prod t0 P addOp (fun l => rfl) ha
  have ht := terms_eq t0 P 0 (Nat.zero_le _)
  rw [List.drop_zero, show leafOf t0 P 0 = t0 from rfl] at ht
  have hsg : ∀ t, sgn P 0 t = t := fun t => if_neg (fun h => absurd h.1 (Nat.lt_irrefl 0))
  rw [hsg] at ht
  generalize grp mulOp isDiv .inv .prod t0 P = G at e1 ho hod ht
  have e2 : addPass 1 (Nat.le_refl 1) (lay [] G.1 G.2) = lay [] (grp addOp isSub .neg .sum G.1 G.2).1 (grp addOp isSub .neg .sum G.1 G.2).2 := pass_grp addOp isSub .neg .sum 1 (Nat.le_refl 1) [] G.1 G.2 rfl hod
  constructor
  · intro h
    have h2 := grp_all addOp isSub .neg .sum G.1 G.2 (ho.2 h)
    rw [h2] at e2
    unfold parsed
    rw [e1, e2, ht, if_pos (by rw [lay_len]; rfl)]
    congr 1
    show (if G.2 = [] then G.1 else CT.sum (G.1 :: List.map (wr isSub CT.neg) G.2)) = _
    by_cases hz : G.2 = []
    · rw [if_pos hz, hz]
      rfl
    · rw [if_neg hz, if_neg]
      rw [List.length_cons, List.length_map]
      intro hl
      exact hz (List.length_eq_zero_iff.1 (by omega))
  · intro h
    unfold parsed
    rw [e1, e2, if_neg]
    rw [lay_len]
    intro hl
    refine h (ho.1 (grp_one addOp isSub .neg .sum G.1 G.2 (List.length_eq_zero_iff.1 ?_)))
    simp only [List.length_nil] at hl
    omega
end Go.Proofs.YthbfppnegodpoaaGreatDoor
