/-
  Groups of equal keys, in order of first occurrence: plain lists. Sums of floats from the left.
-/
import Derived.Test.YtnoghiefpdbpbaaGreatFmtA
namespace Go.Proofs.YtnoghiefpdbpbaaGreatFmt

def grpF (κ : Nat → List Int) : Nat → List Nat → List (List Nat)
  | 0, _ => []
  | _ + 1, [] => []
  | n + 1, a :: l => (a :: l.filter (fun x => κ x == κ a)) :: grpF κ n (l.filter (fun x => !(κ x == κ a)))

/-- The groups of equal keys, in order of first occurrence. -/
def grp (κ : Nat → List Int) (l : List Nat) : List (List Nat) := grpF κ l.length l

theorem grpF_enough (κ : Nat → List Int) : ∀ n m l, l.length ≤ n → l.length ≤ m → grpF κ n l = grpF κ m l
  | 0, 0, _, _, _ => rfl
  | 0, m + 1, l, h, _ => by
    have : l = [] := List.eq_nil_of_length_eq_zero (by omega)
    subst this; rfl
  | n + 1, 0, l, _, h => by
    have : l = [] := List.eq_nil_of_length_eq_zero (by omega)
    subst this; rfl
  | n + 1, m + 1, [], _, _ => rfl
  | n + 1, m + 1, a :: l, h1, h2 => by
    have h3 := List.length_filter_le (fun x => !(κ x == κ a)) l
    simp only [List.length_cons] at h1 h2
    unfold grpF
    rw [grpF_enough κ n m _ (by omega) (by omega)]

theorem grp_nil (κ : Nat → List Int) : grp κ [] = [] := rfl
theorem grp_cons (κ : Nat → List Int) (a : Nat) (l : List Nat) : grp κ (a :: l) = (a :: l.filter (fun x => κ x == κ a)) :: grp κ (l.filter (fun x => !(κ x == κ a))) := by
  show _ :: grpF κ l.length _ = _
  unfold grp
  rw [grpF_enough κ l.length _ _ (List.length_filter_le _ _) (Nat.le_refl _)]

/-- The first member of group a. -/
def hd (G : List (List Nat)) (a : Nat) : Nat := (G.getD a []).headD 0

theorem hd_zero (g : List Nat) (G : List (List Nat)) : hd (g :: G) 0 = g.headD 0 := rfl
theorem hd_succ (g : List Nat) (G : List (List Nat)) (a : Nat) : hd (g :: G) (a + 1) = hd G a := by
  unfold hd
  rw [List.getD_eq_getElem?_getD, List.getD_eq_getElem?_getD, List.getElem?_cons_succ]

theorem grp_found (κ : Nat → List Int) (x : Nat) : ∀ n l, l.length ≤ n → ∀ a, a < (grp κ l).length → κ (hd (grp κ l) a) = κ x → (∀ b, b < a → κ (hd (grp κ l) b) ≠ κ x) →
    grp κ (l ++ [x]) = (grp κ l).set a ((grp κ l).getD a [] ++ [x])
  | 0, l, hl, a, ha, _, _ => by
    have : l = [] := List.eq_nil_of_length_eq_zero (by omega)
    subst this
    rw [grp_nil] at ha
    exact absurd ha (Nat.not_lt_zero _)
  | n + 1, [], _, a, ha, _, _ => by
    rw [grp_nil] at ha
    exact absurd ha (Nat.not_lt_zero _)
  | n + 1, y :: l, hl, a, ha, he, hn => by
    rw [List.cons_append, grp_cons κ y (l ++ [x]), List.filter_append, List.filter_append]
    rw [grp_cons] at ha he hn ⊢
    cases a with
    | zero =>
      rw [hd_zero, List.headD_cons] at he
      have e1 : [x].filter (fun z => κ z == κ y) = [x] := by simp [he]
      have e2 : [x].filter (fun z => !(κ z == κ y)) = [] := by simp [he]
      rw [e1, e2, List.append_nil]
      rfl
    | succ a =>
      have h0 := hn 0 (by omega)
      rw [hd_zero, List.headD_cons] at h0
      have e1 : [x].filter (fun z => κ z == κ y) = [] := by simp [Ne.symm h0]
      have e2 : [x].filter (fun z => !(κ z == κ y)) = [x] := by simp [Ne.symm h0]
      rw [e1, e2, List.append_nil]
      have hlen : (l.filter (fun z => !(κ z == κ y))).length ≤ n := by
        have := List.length_filter_le (fun z => !(κ z == κ y)) l
        simp at hl
        omega
      have ih := grp_found κ x n _ hlen a (by simpa using ha) (by rw [hd_succ] at he; exact he) (fun b hb => by
        have := hn (b + 1) (by omega)
        rw [hd_succ] at this
        exact this)
      rw [ih]
      rfl

theorem grp_new (κ : Nat → List Int) (x : Nat) : ∀ n l, l.length ≤ n → (∀ b, b < (grp κ l).length → κ (hd (grp κ l) b) ≠ κ x) → grp κ (l ++ [x]) = grp κ l ++ [[x]]
  | 0, l, hl, _ => by
    have : l = [] := List.eq_nil_of_length_eq_zero (by omega)
    subst this
    rw [List.nil_append, grp_cons, grp_nil, List.filter_nil, List.filter_nil, grp_nil]
    rfl
  | n + 1, [], _, _ => by
    rw [List.nil_append, grp_cons, grp_nil, List.filter_nil, List.filter_nil, grp_nil]
    rfl
  | n + 1, y :: l, hl, hn => by
    rw [List.cons_append, grp_cons κ y (l ++ [x]), List.filter_append, List.filter_append]
    rw [grp_cons] at hn ⊢
    have h0 := hn 0 (by simp)
    rw [hd_zero, List.headD_cons] at h0
    have e1 : [x].filter (fun z => κ z == κ y) = [] := by simp [Ne.symm h0]
    have e2 : [x].filter (fun z => !(κ z == κ y)) = [x] := by simp [Ne.symm h0]
    rw [e1, e2, List.append_nil]
    have hlen : (l.filter (fun z => !(κ z == κ y))).length ≤ n := by
      have := List.length_filter_le (fun z => !(κ z == κ y)) l
      simp at hl
      omega
    rw [grp_new κ x n _ hlen (fun b hb => by
      have := hn (b + 1) (by simpa using hb)
      rw [hd_succ] at this
      exact this)]
    rfl

/-- Every group has a member. -/
theorem grp_pos (κ : Nat → List Int) : ∀ n l, l.length ≤ n → ∀ g ∈ grp κ l, g ≠ []
  | 0, l, hl, g, hg => by
    have : l = [] := List.eq_nil_of_length_eq_zero (by omega)
    subst this
    rw [grp_nil] at hg
    cases hg
  | n + 1, [], _, g, hg => by
    rw [grp_nil] at hg
    cases hg
  | n + 1, y :: l, hl, g, hg => by
    rw [grp_cons] at hg
    rcases List.mem_cons.1 hg with rfl | hg
    · simp
    · have hlen : (l.filter (fun z => !(κ z == κ y))).length ≤ n := by
        have := List.length_filter_le (fun z => !(κ z == κ y)) l
        simp at hl
        omega
      exact grp_pos κ n _ hlen g hg

/-- No more groups than members. -/
theorem grp_len (κ : Nat → List Int) : ∀ n l, l.length ≤ n → (grp κ l).length ≤ l.length
  | 0, l, hl => by
    have : l = [] := List.eq_nil_of_length_eq_zero (by omega)
    subst this
    rw [grp_nil]
    exact Nat.le_refl _
  | n + 1, [], _ => by rw [grp_nil]; exact Nat.le_refl _
  | n + 1, y :: l, hl => by
    rw [grp_cons]
    have h1 := List.length_filter_le (fun z => !(κ z == κ y)) l
    have h2 := grp_len κ n (l.filter (fun z => !(κ z == κ y))) (by simp at hl; omega)
    simp
    omega

/-- A sum of these values, from the left; a NaN's bits are left open. -/
inductive Sums : List Nat → Nat → Prop
  | one (z : Nat) : Sums [z] z
  | snoc (l : List Nat) (z v : Nat) (W : World) : Sums l v → Sums (l ++ [z]) (fR .add v z W)

theorem sums_ne {l : List Nat} {v : Nat} (h : Sums l v) : l.length ≠ 0 := by
  cases h with
  | one z => simp
  | snoc l z v W _ => simp

theorem sums_sim {l : List Nat} {v : Nat} (h : Sums l v) : ∀ v', Sums l v' → Sim v v' := by
  induction h with
  | one z =>
    intro v' h'
    generalize hl : [z] = l' at h'
    cases h' with
    | one => injection hl with e; subst e; exact Sim.refl _
    | snoc l2 z2 v2 W2 hp2 =>
      have := sums_ne hp2
      have h1 : ([z] : List Nat).length = (l2 ++ [z2]).length := by rw [hl]
      simp at h1
      exact absurd (by rw [h1]; rfl) this
  | snoc l z v W hp ih =>
    intro v' h'
    generalize hl : l ++ [z] = l' at h'
    cases h' with
    | one =>
      have h1 := congrArg List.length hl
      simp at h1
      exact absurd (by rw [h1]; rfl) (sums_ne hp)
    | snoc l2 z2 v2 W2 hp2 =>
      obtain ⟨e1, e2⟩ := List.append_inj' hl rfl
      injection e2 with e2
      subst e1
      subst e2
      exact sim_op (Or.inr (Or.inr rfl)) (ih v2 hp2) (Sim.refl _) W W2
end Go.Proofs.YtnoghiefpdbpbaaGreatFmt
