/-
  A sum whose first k terms were summed before has the flat sum's groups and sums: plain law.
-/
import Derived.Test.YtnoghiefpdbpbaaGreatFmtM2
namespace Go.Proofs.YtnoghiefpdbpbaaGreatFmt

theorem grp_mem (ρ : Nat → Nat → Bool) : ∀ n l, l.length ≤ n → ∀ q x, x ∈ (grp ρ l).getD q [] → x ∈ l
  | 0, l, hl, q, x, hx => by
    have : l = [] := List.eq_nil_of_length_eq_zero (by omega)
    subst this
    rw [grp_nil] at hx
    simp at hx
  | n + 1, [], _, q, x, hx => by
    rw [grp_nil] at hx
    simp at hx
  | n + 1, y :: l, hl, q, x, hx => by
    rw [grp_cons] at hx
    have h1 := List.length_filter_le (fun z => !ρ z y) l
    cases q with
    | zero =>
      rcases List.mem_cons.1 hx with rfl | hx
      · exact List.mem_cons_self
      · exact List.mem_cons_of_mem _ (List.mem_filter.1 hx).1
    | succ q =>
      rw [List.getD_cons_succ] at hx
      have := grp_mem ρ n (l.filter (fun z => !ρ z y)) (by simp at hl; omega) q x hx
      exact List.mem_cons_of_mem _ (List.mem_filter.1 this).1

theorem nest_mem (ρ : Nat → Nat → Bool) : ∀ n l r, l.length ≤ n → ∀ q, (q < (grp ρ l).length → ∀ x, x ∈ ((grp ρ (heads (grp ρ l) ++ r)).getD q []).tail → x ∈ r) ∧ ((grp ρ l).length ≤ q → ∀ x, x ∈ (grp ρ (heads (grp ρ l) ++ r)).getD q [] → x ∈ r)
  | 0, l, r, hl, q => by
    have : l = [] := List.eq_nil_of_length_eq_zero (by omega)
    subst this
    exact ⟨fun h => absurd h (Nat.not_lt_zero _), fun _ x hx => grp_mem ρ _ _ (Nat.le_refl _) q x hx⟩
  | n + 1, [], r, _, q => ⟨fun h => absurd h (Nat.not_lt_zero _), fun _ x hx => grp_mem ρ _ _ (Nat.le_refl _) q x hx⟩
  | n + 1, y :: l, r, hl, q => by
    have h1 := List.length_filter_le (fun z => !ρ z y) l
    have hn := heads_not ρ l y
    have f1 : (heads (grp ρ (l.filter (fun z => !ρ z y)))).filter (fun z => ρ z y) = [] := List.filter_eq_nil_iff.2 fun x hx => by rw [hn x hx]; exact Bool.false_ne_true
    have f2 : (heads (grp ρ (l.filter (fun z => !ρ z y)))).filter (fun z => !ρ z y) = heads (grp ρ (l.filter (fun z => !ρ z y))) := List.filter_eq_self.2 fun x hx => by rw [hn x hx]; rfl
    have e2 : heads (grp ρ (y :: l)) = y :: heads (grp ρ (l.filter (fun z => !ρ z y))) := by rw [grp_cons]; rfl
    have e3 : grp ρ (heads (grp ρ (y :: l)) ++ r) = (y :: r.filter (fun z => ρ z y)) :: grp ρ (heads (grp ρ (l.filter (fun z => !ρ z y))) ++ r.filter (fun z => !ρ z y)) := by
      rw [e2, List.cons_append, grp_cons, List.filter_append, List.filter_append, f1, f2, List.nil_append]
    rw [e3, grp_cons]
    cases q with
    | zero => exact ⟨fun _ x hx => (List.mem_filter.1 hx).1, fun h => absurd h (by simp)⟩
    | succ q =>
      obtain ⟨i1, i2⟩ := nest_mem ρ n (l.filter (fun z => !ρ z y)) (r.filter (fun z => !ρ z y)) (by simp at hl; omega) q
      rw [List.getD_cons_succ]
      exact ⟨fun h x hx => (List.mem_filter.1 (i1 (by simpa using h) x hx)).1, fun h x hx => (List.mem_filter.1 (i2 (by simpa using h) x hx)).1⟩

theorem range_cut (k n : Nat) (h : k ≤ n) : List.range n = List.range k ++ (List.range (n - k)).map (k + ·) := by
  rw [← List.range_add]
  congr 1
  omega

theorem grp_ne (ρ : Nat → Nat → Bool) (l : List Nat) (q : Nat) (hq : q < (grp ρ l).length) : (grp ρ l).getD q [] = hd (grp ρ l) q :: ((grp ρ l).getD q []).tail := by
  have h := grp_pos ρ _ l (Nat.le_refl _) ((grp ρ l).getD q []) (by
    rw [List.getD_eq_getElem?_getD, List.getElem?_eq_getElem hq, Option.getD_some]
    exact List.getElem_mem _)
  unfold hd
  cases hx : (grp ρ l).getD q [] with
  | nil => exact absurd hx h
  | cons a t => rfl

/-- The plain law: zl is each term's number, ws the inner sum's, z the outer one's before it is folded. -/
theorem nest_sums (ρ : Nat → Nat → Bool) (k n : Nat) (hk : k ≤ n) (zl z1 ws z w2 : Nat → Nat) (h1 : ∀ i, i < k → z1 i = zl i) (hs1 : ∀ q, q < (grp ρ (List.range k)).length → Sums (((grp ρ (List.range k)).getD q []).map z1) (ws (hd (grp ρ (List.range k)) q)))
    (hz1 : ∀ i, i < k → z i = ws i) (hz2 : ∀ i, k ≤ i → i < n → z i = zl i)
    (hs2 : ∀ q, q < (grp ρ (heads (grp ρ (List.range k)) ++ (List.range (n - k)).map (k + ·))).length → Sums (((grp ρ (heads (grp ρ (List.range k)) ++ (List.range (n - k)).map (k + ·))).getD q []).map z) (w2 (hd (grp ρ (heads (grp ρ (List.range k)) ++ (List.range (n - k)).map (k + ·))) q))) :
    (grp ρ (List.range n)).length = (grp ρ (heads (grp ρ (List.range k)) ++ (List.range (n - k)).map (k + ·))).length ∧ (∀ q, q < (grp ρ (List.range n)).length → hd (grp ρ (List.range n)) q = hd (grp ρ (heads (grp ρ (List.range k)) ++ (List.range (n - k)).map (k + ·))) q) ∧
      ∀ q, q < (grp ρ (List.range n)).length → Sums (((grp ρ (List.range n)).getD q []).map zl) (w2 (hd (grp ρ (List.range n)) q)) := by
  obtain ⟨r, er⟩ : ∃ r, r = (List.range (n - k)).map (k + ·) := ⟨_, rfl⟩
  rw [range_cut k n hk]
  rw [← er] at hs2 ⊢
  rw [grp_nest ρ _ (List.range k) r (Nat.le_refl _)]
  have hr : ∀ x, x ∈ r → k ≤ x ∧ x < n := fun x hx => by
    rw [er] at hx
    obtain ⟨i, hi, rfl⟩ := List.mem_map.1 hx
    have := List.mem_range.1 hi
    omega
  obtain ⟨l1, l2⟩ := nest_heads ρ _ (List.range k) r (Nat.le_refl _)
  have hm := nest_mem ρ _ (List.range k) r (Nat.le_refl _)
  have hl := joinG_len _ _ l1
  have hat := fun q hq => joinG_at (grp ρ (List.range k)) (grp ρ (heads (grp ρ (List.range k)) ++ r)) q l1 hq
  have hne := grp_ne ρ (List.range k)
  have hne2 := grp_ne ρ (heads (grp ρ (List.range k)) ++ r)
  have hin := grp_mem ρ _ (List.range k) (Nat.le_refl _)
  generalize grp ρ (heads (grp ρ (List.range k)) ++ r) = H at *
  generalize grp ρ (List.range k) = G at *
  have hhd : ∀ q, q < H.length → hd (joinG G H) q = hd H q := fun q hq => by
    have h3 := hat q hq
    unfold hd at *
    rw [h3]
    by_cases hg : q < G.length
    · rw [if_pos hg, hne q hg]
      exact (l2 q hg).symm
    · rw [if_neg hg]
  rw [hl]
  refine ⟨rfl, hhd, fun q hq => ?_⟩
  rw [hhd q hq, hat q hq]
  have h4 := hs2 q hq
  by_cases hg : q < G.length
  · rw [if_pos hg, List.map_append]
    rw [hne2 q hq, List.map_cons] at h4
    have hdk : hd H q < k := by
      rw [l2 q hg]
      have := hin q (hd G q) (by rw [hne q hg]; exact List.mem_cons_self)
      exact List.mem_range.1 this
    have e1 : (G.getD q []).map zl = (G.getD q []).map z1 := List.map_congr_left fun i hi => (h1 i (List.mem_range.1 (hin q i hi))).symm
    have e2 : (H.getD q []).tail.map zl = (H.getD q []).tail.map z := List.map_congr_left fun i hi => by
      have := hr i ((hm q).1 hg i hi)
      exact (hz2 i this.1 this.2).symm
    rw [e1, e2]
    have h5 := hs1 q hg
    rw [← l2 q hg] at h5
    rw [hz1 _ hdk] at h4
    exact sums_cat h5 h4 _ rfl
  · rw [if_neg hg]
    have e2 : (H.getD q []).map zl = (H.getD q []).map z := List.map_congr_left fun i hi => by
      have := hr i ((hm q).2 (by omega) i hi)
      exact (hz2 i this.1 this.2).symm
    rw [e2]
    exact h4
end Go.Proofs.YtnoghiefpdbpbaaGreatFmt
