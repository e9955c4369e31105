/-
  Groups of what is alike, whatever relation says so, in order of first occurrence; the groups of a list whose head was grouped before; sums of floats from the left: plain lists.
-/
import Derived.Test.YtnoghiefpdbpbaaGreatFmtA
namespace Go.Proofs.YtnoghiefpdbpbaaGreatFmt

def grpF (ρ : Nat → Nat → Bool) : Nat → List Nat → List (List Nat)
  | 0, _ => []
  | _ + 1, [] => []
  | n + 1, a :: l => (a :: l.filter (fun x => ρ x a)) :: grpF ρ n (l.filter (fun x => !ρ x a))

/-- The groups, in order of first occurrence. -/
def grp (ρ : Nat → Nat → Bool) (l : List Nat) : List (List Nat) := grpF ρ l.length l

theorem grpF_enough (ρ : Nat → Nat → Bool) : ∀ n m l, l.length ≤ n → l.length ≤ m → grpF ρ n l = grpF ρ m l
  | 0, 0, _, _, _ => rfl
  | 0, m + 1, l, h, _ => by
    have : l = [] := List.eq_nil_of_length_eq_zero (by omega)
    subst this; rfl
  | n + 1, 0, l, _, h => by
    have : l = [] := List.eq_nil_of_length_eq_zero (by omega)
    subst this; rfl
  | n + 1, m + 1, [], _, _ => rfl
  | n + 1, m + 1, a :: l, h1, h2 => by
    have h3 := List.length_filter_le (fun x => !ρ x a) l
    simp only [List.length_cons] at h1 h2
    unfold grpF
    rw [grpF_enough ρ n m _ (by omega) (by omega)]

theorem grp_nil (ρ : Nat → Nat → Bool) : grp ρ [] = [] := rfl
theorem grp_cons (ρ : Nat → Nat → Bool) (a : Nat) (l : List Nat) : grp ρ (a :: l) = (a :: l.filter (fun x => ρ x a)) :: grp ρ (l.filter (fun x => !ρ x a)) := by
  show _ :: grpF ρ l.length _ = _
  unfold grp
  rw [grpF_enough ρ l.length _ _ (List.length_filter_le _ _) (Nat.le_refl _)]

/-- The first member of group a. -/
def hd (G : List (List Nat)) (a : Nat) : Nat := (G.getD a []).headD 0

theorem hd_zero (g : List Nat) (G : List (List Nat)) : hd (g :: G) 0 = g.headD 0 := rfl
theorem hd_succ (g : List Nat) (G : List (List Nat)) (a : Nat) : hd (g :: G) (a + 1) = hd G a := by
  unfold hd
  rw [List.getD_eq_getElem?_getD, List.getD_eq_getElem?_getD, List.getElem?_cons_succ]

/-- Every group has a member. -/
theorem grp_pos (ρ : Nat → Nat → Bool) : ∀ n l, l.length ≤ n → ∀ g ∈ grp ρ l, g ≠ []
  | 0, l, hl, g, hg => by
    have : l = [] := List.eq_nil_of_length_eq_zero (by omega)
    subst this
    rw [grp_nil] at hg
    cases hg
  | n + 1, [], _, g, hg => by
    rw [grp_nil] at hg
    cases hg
  | n + 1, y :: l, hl, g, hg => by
    rw [grp_cons] at hg
    rcases List.mem_cons.1 hg with rfl | hg
    · simp
    · have hlen : (l.filter (fun z => !ρ z y)).length ≤ n := by
        have := List.length_filter_le (fun z => !ρ z y) l
        simp at hl
        omega
      exact grp_pos ρ n _ hlen g hg

/-- No more groups than members. -/
theorem grp_len (ρ : Nat → Nat → Bool) : ∀ n l, l.length ≤ n → (grp ρ l).length ≤ l.length
  | 0, l, hl => by
    have : l = [] := List.eq_nil_of_length_eq_zero (by omega)
    subst this
    rw [grp_nil]
    exact Nat.le_refl _
  | n + 1, [], _ => by rw [grp_nil]; exact Nat.le_refl _
  | n + 1, y :: l, hl => by
    rw [grp_cons]
    have h1 := List.length_filter_le (fun z => !ρ z y) l
    have h2 := grp_len ρ n (l.filter (fun z => !ρ z y)) (by simp at hl; omega)
    simp
    omega

/-- A sum of these values, from the left; a NaN's bits are left open. -/
inductive Sums : List Nat → Nat → Prop
  | one (z : Nat) : Sums [z] z
  | snoc (l : List Nat) (z v : Nat) (W : World) : Sums l v → Sums (l ++ [z]) (fR .add v z W)

theorem sums_ne {l : List Nat} {v : Nat} (h : Sums l v) : l.length ≠ 0 := by
  cases h with
  | one z => simp
  | snoc l z v W _ => simp

theorem sums_sim {l : List Nat} {v : Nat} (h : Sums l v) : ∀ v', Sums l v' → Sim v v' := by
  induction h with
  | one z =>
    intro v' h'
    generalize hl : [z] = l' at h'
    cases h' with
    | one => injection hl with e; subst e; exact Sim.refl _
    | snoc l2 z2 v2 W2 hp2 =>
      have := sums_ne hp2
      have h1 : ([z] : List Nat).length = (l2 ++ [z2]).length := by rw [hl]
      simp at h1
      exact absurd (by rw [h1]; rfl) this
  | snoc l z v W hp ih =>
    intro v' h'
    generalize hl : l ++ [z] = l' at h'
    cases h' with
    | one =>
      have h1 := congrArg List.length hl
      simp at h1
      exact absurd (by rw [h1]; rfl) (sums_ne hp)
    | snoc l2 z2 v2 W2 hp2 =>
      obtain ⟨e1, e2⟩ := List.append_inj' hl rfl
      injection e2 with e2
      subst e1
      subst e2
      exact sim_op (Or.inr (Or.inr rfl)) (ih v2 hp2) (Sim.refl _) W W2
/-! A list whose head was grouped before. -/
def heads (G : List (List Nat)) : List Nat := G.map fun g => g.headD 0
theorem heads_mem (ρ : Nat → Nat → Bool) : ∀ n l, l.length ≤ n → ∀ x, x ∈ heads (grp ρ l) → x ∈ l
  | 0, l, hl, x, hx => by
    have : l = [] := List.eq_nil_of_length_eq_zero (by omega)
    subst this
    cases hx
  | n + 1, [], _, x, hx => by cases hx
  | n + 1, y :: l, hl, x, hx => by
    rw [grp_cons] at hx
    rcases List.mem_cons.1 hx with rfl | hx
    · exact List.mem_cons_self
    · have h1 := List.length_filter_le (fun z => !ρ z y) l
      have h2 := heads_mem ρ n (l.filter (fun z => !ρ z y)) (by simp at hl; omega) x hx
      exact List.mem_cons_of_mem _ (List.mem_filter.1 h2).1
theorem heads_not (ρ : Nat → Nat → Bool) (l : List Nat) (y : Nat) : (∀ x, x ∈ heads (grp ρ (l.filter (fun z => !ρ z y))) → ρ x y = false) := fun x hx => by
  have h := heads_mem ρ _ _ (Nat.le_refl _) x hx
  simpa using (List.mem_filter.1 h).2

/-- The groups of the whole list out of those of its head and those of the grouped list. -/
def joinG : List (List Nat) → List (List Nat) → List (List Nat)
  | [], H => H
  | _ :: _, [] => []
  | g :: G, h :: H => (g ++ h.tail) :: joinG G H
theorem grp_nest (ρ : Nat → Nat → Bool) : ∀ n l r, l.length ≤ n → grp ρ (l ++ r) = joinG (grp ρ l) (grp ρ (heads (grp ρ l) ++ r))
  | 0, l, r, hl => by
    have : l = [] := List.eq_nil_of_length_eq_zero (by omega)
    subst this
    rfl
  | n + 1, [], r, _ => rfl
  | n + 1, y :: l, r, hl => by
    have h1 := List.length_filter_le (fun z => !ρ z y) l
    have hn := heads_not ρ l y
    have ih := grp_nest ρ n (l.filter (fun z => !ρ z y)) (r.filter (fun z => !ρ z y)) (by simp at hl; omega)
    have f1 : (heads (grp ρ (l.filter (fun z => !ρ z y)))).filter (fun z => ρ z y) = [] := List.filter_eq_nil_iff.2 fun x hx => by rw [hn x hx]; exact Bool.false_ne_true
    have f2 : (heads (grp ρ (l.filter (fun z => !ρ z y)))).filter (fun z => !ρ z y) = heads (grp ρ (l.filter (fun z => !ρ z y))) := List.filter_eq_self.2 fun x hx => by rw [hn x hx]; rfl
    have e1 : grp ρ ((y :: l) ++ r) = (y :: (l.filter (fun z => ρ z y) ++ r.filter (fun z => ρ z y))) :: grp ρ (l.filter (fun z => !ρ z y) ++ r.filter (fun z => !ρ z y)) := by
      rw [List.cons_append, grp_cons, List.filter_append, List.filter_append]
    have e2 : heads (grp ρ (y :: l)) = y :: heads (grp ρ (l.filter (fun z => !ρ z y))) := by rw [grp_cons]; rfl
    have e3 : grp ρ (heads (grp ρ (y :: l)) ++ r) = (y :: r.filter (fun z => ρ z y)) :: grp ρ (heads (grp ρ (l.filter (fun z => !ρ z y))) ++ r.filter (fun z => !ρ z y)) := by
      rw [e2, List.cons_append, grp_cons, List.filter_append, List.filter_append, f1, f2, List.nil_append]
    rw [e1, e3, grp_cons, ih]
    rfl

theorem joinG_len : ∀ G H : List (List Nat), G.length ≤ H.length → (joinG G H).length = H.length
  | [], H, _ => rfl
  | g :: G, [], h => by simp at h
  | g :: G, x :: H, h => by
    show (joinG G H).length + 1 = H.length + 1
    rw [joinG_len G H (by simpa using h)]
theorem joinG_at : ∀ (G H : List (List Nat)) (q : Nat), G.length ≤ H.length → q < H.length → (joinG G H).getD q [] = if q < G.length then G.getD q [] ++ (H.getD q []).tail else H.getD q []
  | [], H, q, _, _ => by simp [joinG]
  | g :: G, [], q, h, _ => by simp at h
  | g :: G, x :: H, 0, h, _ => by simp [joinG]
  | g :: G, x :: H, q + 1, h, hq => by
    have := joinG_at G H q (by simpa using h) (by simpa using hq)
    show (joinG G H).getD q [] = _
    rw [this]
    simp
/-- The grouped list's groups begin with its heads. -/
theorem nest_heads (ρ : Nat → Nat → Bool) : ∀ n l r, l.length ≤ n → (grp ρ l).length ≤ (grp ρ (heads (grp ρ l) ++ r)).length ∧ ∀ q, q < (grp ρ l).length → hd (grp ρ (heads (grp ρ l) ++ r)) q = hd (grp ρ l) q
  | 0, l, r, hl => by
    have : l = [] := List.eq_nil_of_length_eq_zero (by omega)
    subst this
    exact ⟨Nat.zero_le _, fun q hq => absurd hq (Nat.not_lt_zero _)⟩
  | n + 1, [], r, _ => ⟨Nat.zero_le _, fun q hq => absurd hq (Nat.not_lt_zero _)⟩
  | n + 1, y :: l, r, hl => by
    have h1 := List.length_filter_le (fun z => !ρ z y) l
    have hn := heads_not ρ l y
    obtain ⟨i1, i2⟩ := nest_heads ρ n (l.filter (fun z => !ρ z y)) (r.filter (fun z => !ρ z y)) (by simp at hl; omega)
    have f1 : (heads (grp ρ (l.filter (fun z => !ρ z y)))).filter (fun z => ρ z y) = [] := List.filter_eq_nil_iff.2 fun x hx => by rw [hn x hx]; exact Bool.false_ne_true
    have f2 : (heads (grp ρ (l.filter (fun z => !ρ z y)))).filter (fun z => !ρ z y) = heads (grp ρ (l.filter (fun z => !ρ z y))) := List.filter_eq_self.2 fun x hx => by rw [hn x hx]; rfl
    have e2 : heads (grp ρ (y :: l)) = y :: heads (grp ρ (l.filter (fun z => !ρ z y))) := by rw [grp_cons]; rfl
    have e3 : grp ρ (heads (grp ρ (y :: l)) ++ r) = (y :: r.filter (fun z => ρ z y)) :: grp ρ (heads (grp ρ (l.filter (fun z => !ρ z y))) ++ r.filter (fun z => !ρ z y)) := by
      rw [e2, List.cons_append, grp_cons, List.filter_append, List.filter_append, f1, f2, List.nil_append]
    rw [e3, grp_cons]
    refine ⟨by simpa using i1, fun q hq => ?_⟩
    cases q with
    | zero => rfl
    | succ q =>
      rw [hd_succ, hd_succ]
      exact i2 q (by simpa using hq)

/-- A sum that goes on from a sum. -/
theorem sums_cat {l : List Nat} {u : Nat} (h : Sums l u) {m : List Nat} {v : Nat} (h2 : Sums m v) : ∀ r, m = u :: r → Sums (l ++ r) v := by
  induction h2 with
  | one z =>
    intro r e
    injection e with e1 e2
    subst e1 e2
    rw [List.append_nil]
    exact h
  | snoc k z v W hp ih =>
    intro r e
    cases k with
    | nil => exact absurd rfl (sums_ne hp)
    | cons k0 k =>
      rw [List.cons_append] at e
      injection e with e1 e2
      subst e1 e2
      rw [← List.append_assoc]
      exact Sums.snoc _ z v W (ih k rfl)
end Go.Proofs.YtnoghiefpdbpbaaGreatFmt
