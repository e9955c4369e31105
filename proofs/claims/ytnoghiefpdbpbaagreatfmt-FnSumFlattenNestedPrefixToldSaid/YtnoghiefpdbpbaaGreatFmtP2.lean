/-
  The sum of a calc expression, walked: numeric terms, some negated.
-/
import Derived.Test.YtnoghiefpdbpbaaGreatFmtM
import Derived.Test.YtnoghiefpdbpbaaGreatFmtN2
import Derived.Deep.QuietTactic
import Derived.BigQuiet
namespace Go.Proofs.YtnoghiefpdbpbaaGreatFmt
open Go.RowKit Go.Deep

/-- The row of the terms: A at its head, S at its end. -/
def TR (T n e : Nat) (N : Nat → Nat) (A S : List Nat) (W : World) : Prop := A.length + S.length ≤ e ∧ e ≤ n ∧ ∃ f, W.rowIs T 53 (n * 2) f ∧
  (∀ q, q < A.length → f (q * 2) = .iface 57 (.pointer (some ⟨N (A.getD q 0), 0, none⟩)) ∧ f (q * 2 + 1) = .int .i32 0) ∧
  (∀ q, q < S.length → f ((e - S.length + q) * 2) = .iface 57 (.pointer (some ⟨N (S.getD q 0), 0, none⟩)) ∧ f ((e - S.length + q) * 2 + 1) = .int .i32 0)

theorem getD_append_left {l l' : List Nat} {i : Nat} (h : i < l.length) : (l ++ l').getD i 0 = l.getD i 0 := by
  rw [List.getD_eq_getElem?_getD, List.getD_eq_getElem?_getD, List.getElem?_append_left h]
theorem getD_append_right {l l' : List Nat} {i : Nat} (h : l.length ≤ i) : (l ++ l').getD i 0 = l'.getD (i - l.length) 0 := by
  rw [List.getD_eq_getElem?_getD, List.getD_eq_getElem?_getD, List.getElem?_append_right h]

theorem TR.alloc {T n e : Nat} {N : Nat → Nat} {A S : List Nat} {W : World} (h : TR T n e N A S W) (o : Obj) : TR T n e N A S (W.alloc o) := by
  obtain ⟨h1, h2, f, h3, h4⟩ := h
  exact ⟨h1, h2, f, h3.alloc o, h4⟩
theorem TR.other {T n e : Nat} {N : Nat → Nat} {A S : List Nat} {W : World} (h : TR T n e N A S W) {a : Addr} {v : Value} (hne : T ≠ a.block) : TR T n e N A S (W.setCell a v) := by
  obtain ⟨h1, h2, f, h3, h4⟩ := h
  exact ⟨h1, h2, f, row_other h3 hne, h4⟩
theorem TR.drewN {T n e : Nat} {N : Nat → Nat} {A S : List Nat} {W : World} (h : TR T n e N A S W) (k : Nat) : TR T n e N A S (W.drewN k) := h
theorem TR.split {T n e : Nat} {N : Nat → Nat} {A S : List Nat} {W : World} (h : TR T n e N (A ++ S) [] W) (he : (A ++ S).length = e) : TR T n e N A S W := by
  obtain ⟨h1, h2, f, h3, h4, _⟩ := h
  rw [List.length_append] at he
  refine ⟨by omega, h2, f, h3, fun q hq => ?_, fun q hq => ?_⟩
  · have := h4 q (by rw [List.length_append]; omega)
    rw [getD_append_left hq] at this
    exact this
  · have := h4 (e - S.length + q) (by rw [List.length_append]; omega)
    rw [getD_append_right (by omega), show e - S.length + q - A.length = q by omega] at this
    exact this
theorem TR.skip {T n e : Nat} {N : Nat → Nat} {A S : List Nat} {s : Nat} {W : World} (h : TR T n e N A (s :: S) W) : TR T n e N A S W := by
  obtain ⟨h1, h2, f, h3, h4, h5⟩ := h
  rw [List.length_cons] at h1
  refine ⟨by omega, h2, f, h3, h4, fun q hq => ?_⟩
  have := h5 (q + 1) (by rw [List.length_cons]; omega)
  rw [List.length_cons, show e - (S.length + 1) + (q + 1) = e - S.length + q by omega] at this
  exact this
theorem TR.move {T n e : Nat} {N : Nat → Nat} {A S : List Nat} {s : Nat} {W : World} (h : TR T n e N A (s :: S) W) :
    TR T n e N (A ++ [s]) S ((W.setCell ⟨T, A.length * 2, none⟩ (.iface 57 (.pointer (some ⟨N s, 0, none⟩)))).setCell ⟨T, A.length * 2 + 1, none⟩ (.int .i32 0)) := by
  obtain ⟨h1, h2, f, h3, h4, h5⟩ := h
  rw [List.length_cons] at h1
  refine ⟨by rw [List.length_append, List.length_singleton]; omega, h2, _, (h3.set (A.length * 2) _).set (A.length * 2 + 1) _, fun q hq => ?_, fun q hq => ?_⟩
  · rw [List.length_append, List.length_singleton] at hq
    by_cases e : q = A.length
    · subst e
      rw [if_neg (by omega), if_pos rfl, if_pos rfl, getD_append_right (Nat.le_refl _), Nat.sub_self]
      exact ⟨rfl, rfl⟩
    · rw [if_neg (by omega), if_neg (by omega), if_neg (by omega), if_neg (by omega), getD_append_left (by omega)]
      exact h4 q (by omega)
  · have := h5 (q + 1) (by rw [List.length_cons]; omega)
    rw [List.length_cons, show e - (S.length + 1) + (q + 1) = e - S.length + q by omega] at this
    rw [if_neg (by omega), if_neg (by omega), if_neg (by omega), if_neg (by omega)]
    exact this
/-- All passed: the row is cut behind its head. -/
theorem TR.cut {T n e : Nat} {N : Nat → Nat} {A : List Nat} {W : World} (h : TR T n e N A [] W) : TR T n A.length N A [] W := by
  obtain ⟨h1, h2, f, h3, h4, _⟩ := h
  simp only [List.length_nil, Nat.add_zero] at h1
  exact ⟨by simp, by omega, f, h3, h4, fun q hq => absurd hq (Nat.not_lt_zero _)⟩

/-- Where the outer loop stands: the groups GD are folded, their first members in D; R is left. -/
structure Outer (ρ : Nat → Nat → Bool) (A0 : List Nat) (zs ws : Nat → Nat) (n : Nat) (GD : List (List Nat)) (D R : List Nat) : Prop where
  grp : grp ρ A0 = GD ++ grp ρ R
  len : D.length = GD.length
  head : ∀ q, q < GD.length → D.getD q 0 = hd GD q
  sum : ∀ q, q < GD.length → Sums ((GD.getD q []).map zs) (ws (hd GD q))
  raw : ∀ m, m ∈ R → ws m = zs m
  nodup : (D ++ R).Nodup
  lt : ∀ m, m ∈ D ++ R → m < n

theorem Outer.start (ρ : Nat → Nat → Bool) (A0 : List Nat) (zs : Nat → Nat) (n : Nat) (h1 : A0.Nodup) (h2 : ∀ m, m ∈ A0 → m < n) : Outer ρ A0 zs zs n [] [] A0 :=
  ⟨rfl, rfl, fun q h => absurd h (Nat.not_lt_zero _), fun q h => absurd h (Nat.not_lt_zero _), fun _ _ => rfl, by simpa using h1, fun m h => h2 m (by simpa using h)⟩

theorem getD_snoc {α : Type} (l : List α) (x d : α) (i : Nat) : (l ++ [x]).getD i d = if i < l.length then l.getD i d else if i = l.length then x else d := by
  by_cases h : i < l.length
  · rw [if_pos h, List.getD_eq_getElem?_getD, List.getElem?_append_left h, ← List.getD_eq_getElem?_getD]
  · rw [if_neg h, List.getD_eq_getElem?_getD, List.getElem?_append_right (by omega)]
    by_cases e : i = l.length
    · subst e; rw [if_pos rfl, Nat.sub_self]; rfl
    · rw [if_neg e, List.getElem?_eq_none (by simp; omega)]; rfl

theorem hd_snoc (G : List (List Nat)) (g : List Nat) (i : Nat) : hd (G ++ [g]) i = if i < G.length then hd G i else if i = G.length then g.headD 0 else 0 := by
  unfold hd
  rw [getD_snoc]
  by_cases h : i < G.length
  · rw [if_pos h, if_pos h]
  · rw [if_neg h, if_neg h]
    by_cases e : i = G.length
    · rw [if_pos e, if_pos e]
    · rw [if_neg e, if_neg e]; rfl

theorem Outer.step {ρ : Nat → Nat → Bool} {A0 : List Nat} {zs ws : Nat → Nat} {n : Nat} {GD : List (List Nat)} {D R : List Nat} {a v : Nat} (h : Outer ρ A0 zs ws n GD D (a :: R)) (hs : Sums ((a :: R.filter (fun x => ρ x a)).map zs) v) :
    Outer ρ A0 zs (fun i => if i = a then v else ws i) n (GD ++ [a :: R.filter (fun x => ρ x a)]) (D ++ [a]) (R.filter (fun x => !ρ x a)) := by
  have hn := h.nodup
  rw [List.nodup_append] at hn
  obtain ⟨n1, n2, n3⟩ := hn
  have hDa : ∀ q, q < GD.length → hd GD q ≠ a := fun q hq e => by
    have hm : D.getD q 0 ∈ D := by
      have hq' : q < D.length := by rw [h.len]; exact hq
      rw [List.getD_eq_getElem?_getD, List.getElem?_eq_getElem hq']
      exact List.getElem_mem hq'
    rw [h.head q hq, e] at hm
    exact n3 a hm a (by simp) rfl
  have hRa : ∀ m, m ∈ R → m ≠ a := fun m hm e => by
    subst e
    exact (List.nodup_cons.1 n2).1 hm
  refine ⟨by rw [h.grp, grp_cons, List.append_assoc]; rfl, by simp [h.len], fun q hq => ?_, fun q hq => ?_, fun m hm => ?_, ?_, fun m hm => ?_⟩
  · rw [List.length_append, List.length_singleton] at hq
    rw [getD_snoc, hd_snoc, h.len]
    by_cases e : q < GD.length
    · rw [if_pos e, if_pos e]; exact h.head q e
    · rw [if_neg e, if_neg e, if_pos (by omega), if_pos (by omega)]; rfl
  · rw [List.length_append, List.length_singleton] at hq
    by_cases e : q < GD.length
    · have e1 : (GD ++ [a :: R.filter (fun x => ρ x a)]).getD q [] = GD.getD q [] := by rw [getD_snoc, if_pos e]
      have e2 : hd (GD ++ [a :: R.filter (fun x => ρ x a)]) q = hd GD q := by rw [hd_snoc, if_pos e]
      rw [e1, e2]
      show Sums _ (if hd GD q = a then v else ws (hd GD q))
      rw [if_neg (hDa q e)]
      exact h.sum q e
    · have e1 : (GD ++ [a :: R.filter (fun x => ρ x a)]).getD q [] = a :: R.filter (fun x => ρ x a) := by rw [getD_snoc, if_neg e, if_pos (by omega)]
      have e2 : hd (GD ++ [a :: R.filter (fun x => ρ x a)]) q = a := by rw [hd_snoc, if_neg e, if_pos (by omega)]; rfl
      rw [e1, e2]
      show Sums _ (if a = a then v else ws a)
      rw [if_pos rfl]
      exact hs
  · have hm' := (List.mem_filter.1 hm).1
    simp only [if_neg (hRa m hm')]
    exact h.raw m (List.mem_cons_of_mem _ hm')
  · rw [List.append_assoc]
    refine List.nodup_append.2 ⟨n1, ?_, fun x hx y hy e => ?_⟩
    · exact List.nodup_cons.2 ⟨fun hm => (List.nodup_cons.1 n2).1 (List.mem_filter.1 hm).1, List.Pairwise.filter _ (List.nodup_cons.1 n2).2⟩
    · rcases List.mem_cons.1 hy with rfl | hy
      · exact n3 x hx y (by simp) e
      · exact n3 x hx y (List.mem_cons_of_mem _ (List.mem_filter.1 hy).1) e
  · refine h.lt m ?_
    rcases List.mem_append.1 hm with hm | hm
    · rcases List.mem_append.1 hm with hm | hm
      · exact List.mem_append_left _ hm
      · exact List.mem_append_right _ (by simpa using Or.inl (by simpa using hm))
    · exact List.mem_append_right _ (List.mem_cons_of_mem _ (List.mem_filter.1 hm).1)
end Go.Proofs.YtnoghiefpdbpbaaGreatFmt
