/-
  The product of a calc expression: its first loop (every term simplified, the terms gathered in a slice of their own).
-/
import Derived.Test.YtnoghiefpdbpbaaGreatFmtE
import Derived.Laws.AppendOwn
namespace Go.Proofs.YtnoghiefpdbpbaaGreatFmt
open Go.RowKit Go.Deep

/-- append of one row of two cells where there is room. -/
theorem append_row {w : World} {T n k A cap : Nat} {f : Nat → Value} {v0 v1 : Value} (h : w.rowIs T 53 (n * 2) f) (hk : k < n) (hA : w.cell? ⟨A, 0, none⟩ = some v0) (hB : w.cell? ⟨A, 1, none⟩ = some v1)
    (o0 : v0.oneCell' = true) (o1 : v1.oneCell' = true) (ty : TypeId) :
    ∃ w', (Builtin.append_ #[41, 41] ty #[.slice (some ⟨T, 0, none⟩) k n, .slice (some ⟨A, 0, none⟩) 1 cap]).run Tryz.prog w = .ok (.slice (some ⟨T, 0, none⟩) (k + 1) n) w' ∧
      w'.rowIs T 53 (n * 2) (fun j => if j = k * 2 then v0 else if j = k * 2 + 1 then v1 else f j) ∧ w'.heap.size = w.heap.size ∧ (∀ b, b ≠ T → w'.heap[b]? = w.heap[b]?) ∧ w'.os = w.os ∧ w'.tape = w.tape ∧ w'.output = w.output := by
  obtain ⟨i, hi, hzz⟩ := Option.map_eq_some_iff.1 info53
  simp only [Prod.mk.injEq] at hzz
  obtain ⟨hz, hs, hb⟩ := hzz
  obtain ⟨cur, hg, hsz, hat⟩ := h
  have hr := run_append_room (P := Tryz.prog) w 41 ty 53 i Tryz.underlying41 hi T k n cur hg ⟨A, 0, none⟩ 1 cap [v0, v1] (by rw [hs]; rfl) (fun j u hj => by
    match j, hj with
    | 0, hj => cases hj; exact hA
    | 1, hj => cases hj; exact hB) (fun u hu => by
    rcases List.mem_cons.1 hu with rfl | hu
    · exact o0
    · rcases List.mem_cons.1 hu with rfl | hu
      · exact o1
      · cases hu) (by omega) (by rw [hs, hsz]; show k * 2 + 2 ≤ n * 2; omega)
  refine ⟨_, hr, ⟨_, setRow_heap w T cur _ 53 _ hg, ?_, ?_⟩, ?_, ?_, rfl, rfl, rfl⟩
  · rw [hs]
    simp only [List.size_toArray, List.length_append, List.length_take, List.length_drop, Array.length_toList, List.length_cons, List.length_nil]
    omega
  · intro j hj
    rw [hs, List.getElem?_toArray]
    show _ = some (if j = k * 2 then v0 else if j = k * 2 + 1 then v1 else f j)
    have hl1 : (cur.toList.take (k * 2)).length = k * 2 := by rw [List.length_take, Array.length_toList]; omega
    rcases Nat.lt_or_ge j (k * 2) with h1 | h1
    · rw [List.append_assoc, List.getElem?_append_left (by omega), List.getElem?_take_of_lt h1, Array.getElem?_toList, hat j hj, if_neg (by omega), if_neg (by omega)]
    · rw [List.append_assoc, List.getElem?_append_right (by omega), hl1]
      by_cases e0 : j = k * 2
      · subst e0; rw [Nat.sub_self, if_pos rfl]; rfl
      · by_cases e1 : j = k * 2 + 1
        · subst e1; rw [show k * 2 + 1 - k * 2 = 1 by omega, if_neg e0, if_pos rfl]; rfl
        · have hl2 : [v0, v1].length = 2 := rfl
          have e2 : k * 2 + [v0, v1].length + (j - k * 2 - [v0, v1].length) = j := by omega
          rw [List.getElem?_append_right (by omega), List.getElem?_drop, Array.getElem?_toList, e2, if_neg e0, if_neg e1, hat j hj]
  · simp [World.setRow]
  · exact fun b hb => setRow_other w T b _ hb

/-- The middle of the first loop: k terms simplified. -/
structure Mid (us : List ByteArray) (xs : List Nat) (fs : List Bool) (N zs : Nat → Nat) (k n L T : Nat) (W : World) : Prop where
  hiT : T < W.heap.size
  loN : ∀ i, i < n → L < N i
  hiN : ∀ i, i < n → N i + b2n (fs.getD i false) < T
  mono : ∀ i j, i < j → j < n → N i + b2n (fs.getD i false) < N j
  row : ∀ i, i < n → W.cell? ⟨L, i * 2, none⟩ = some (leafV true (fs.getD i false) (N i))
  loc : ∀ i, i < n → W.cell? ⟨L, i * 2 + 1, none⟩ = some (.int .i32 0)
  unit : ∀ i, i < n → W.cell? ⟨N i, 0, none⟩ = some (.string (us.getD i ByteArray.empty))
  num : ∀ i, i < n → W.cell? ⟨N i, 1, none⟩ = some (.float .f64 (zs i))
  fz : ∀ i, i < n → W.frozen? ⟨N i, 1, none⟩ = false
  inn : ∀ i, i < n → fs.getD i false = true → W.cell? ⟨N i + 1, 0, none⟩ = some (.iface 57 (.pointer (some ⟨N i, 0, none⟩))) ∧ W.frozen? ⟨N i + 1, 0, none⟩ = false
  old : ∀ i, k ≤ i → zs i = xs.getD i 0
  new : ∀ i, i < k → ∃ W0, zs i = fac (xs.getD i 0) (fs.getD i false) W0

/-- The rows of the new slice, k of them set. -/
def rowT (N : Nat → Nat) (k j : Nat) : Value := if j % 2 = 1 then .int .i32 0 else if j / 2 < k then .iface 57 (.pointer (some ⟨N (j / 2), 0, none⟩)) else .nilIface

theorem rowT_set (N : Nat → Nat) (k j : Nat) : (if j = k * 2 then Value.iface 57 (.pointer (some ⟨N k, 0, none⟩)) else if j = k * 2 + 1 then .int .i32 0 else rowT N k j) = rowT N (k + 1) j := by
  unfold rowT
  by_cases h0 : j = k * 2
  · subst h0; rw [if_pos rfl, if_neg (by omega), if_pos (by omega), show k * 2 / 2 = k by omega]
  · rw [if_neg h0]
    by_cases h1 : j = k * 2 + 1
    · subst h1; rw [if_pos rfl, if_pos (by omega)]
    · rw [if_neg h1]
      by_cases ho : j % 2 = 1
      · rw [if_pos ho, if_pos ho]
      · rw [if_neg ho, if_neg ho]
        by_cases h2 : j / 2 < k
        · rw [if_pos h2, if_pos (by omega)]
        · rw [if_neg h2, if_neg (by omega)]

/-- What lies below T and is no number of a node stays: the middle stays. -/
theorem Mid.keep {us : List ByteArray} {xs : List Nat} {fs : List Bool} {N zs : Nat → Nat} {k n L T : Nat} {W W' : World} (h : Mid us xs fs N zs k n L T W) (hs : W.heap.size ≤ W'.heap.size)
    (hc : ∀ b i, b < T → W'.cell? ⟨b, i, none⟩ = W.cell? ⟨b, i, none⟩) (hf : ∀ b i, b < T → W'.frozen? ⟨b, i, none⟩ = W.frozen? ⟨b, i, none⟩) : Mid us xs fs N zs k n L T W' where
  hiT := Nat.lt_of_lt_of_le h.hiT hs
  loN := h.loN
  hiN := h.hiN
  mono := h.mono
  row i hi := by rw [hc _ _ (by have := h.hiN i hi; have := h.loN i hi; omega)]; exact h.row i hi
  loc i hi := by rw [hc _ _ (by have := h.hiN i hi; have := h.loN i hi; omega)]; exact h.loc i hi
  unit i hi := by rw [hc _ _ (by have := h.hiN i hi; omega)]; exact h.unit i hi
  num i hi := by rw [hc _ _ (by have := h.hiN i hi; omega)]; exact h.num i hi
  fz i hi := by rw [hf _ _ (by have := h.hiN i hi; omega)]; exact h.fz i hi
  inn i hi ht := by
    have h1 := h.hiN i hi
    rw [ht] at h1
    simp only [b2n, if_pos] at h1
    rw [hc _ _ (by omega), hf _ _ (by omega)]
    exact h.inn i hi ht
  old := h.old
  new := h.new

/-- One term more, plain: nothing turned. -/
theorem Mid.plain {us : List ByteArray} {xs : List Nat} {fs : List Bool} {N zs : Nat → Nat} {k n L T : Nat} {W : World} (h : Mid us xs fs N zs k n L T W) (hf : fs.getD k false = false) : Mid us xs fs N zs (k + 1) n L T W :=
  { h with
    old := fun i hi => h.old i (by omega)
    new := fun i hi => by
      by_cases e : i = k
      · subst e; exact ⟨W, by rw [h.old i (Nat.le_refl _), hf]; rfl⟩
      · exact h.new i (by omega) }

/-- One term more, inverted: its number is turned. -/
theorem Mid.turn {us : List ByteArray} {xs : List Nat} {fs : List Bool} {N zs : Nat → Nat} {k n L T : Nat} {W W' W0 : World} (h : Mid us xs fs N zs k n L T W) (hk : k < n) (hf : fs.getD k false = true)
    (ht : Turned (N k) (fR .quo one (zs k) W0) W W') : Mid us xs fs N (fun i => if i = k then fR .quo one (zs k) W0 else zs i) (k + 1) n L T W' := by
  have hne : ∀ i, i < n → i ≠ k → N i ≠ N k := fun i hi hik e => by
    rcases Nat.lt_or_gt_of_ne hik with h1 | h1
    · have := h.mono i k h1 hk; omega
    · have := h.mono k i h1 hi; omega
  have hk1 := h.hiN k hk
  have hk0 := h.loN k hk
  refine ⟨by rw [ht.size]; exact h.hiT, h.loN, h.hiN, h.mono, fun i hi => ?_, fun i hi => ?_, fun i hi => ?_, fun i hi => ?_, fun i hi => ?_, fun i hi hfi => ?_, fun i hi => ?_, fun i hi => ?_⟩
  · rw [ht.cells _ _ (by omega)]; exact h.row i hi
  · rw [ht.cells _ _ (by omega)]; exact h.loc i hi
  · rw [ht.cells _ _ (by omega)]; exact h.unit i hi
  · show _ = some (Value.float .f64 (if i = k then _ else _))
    by_cases e : i = k
    · subst e; rw [if_pos rfl]; exact ht.num
    · rw [if_neg e, ht.cells _ _ (by have := hne i hi e; omega)]; exact h.num i hi
  · rw [ht.fz]; exact h.fz i hi
  · have hne2 : N i + 1 ≠ N k := fun e => by
      rcases Nat.lt_trichotomy i k with h1 | h1 | h1
      · have := h.mono i k h1 hk; rw [hfi] at this; simp only [b2n, if_pos] at this; omega
      · subst h1; omega
      · have := h.mono k i h1 hi; omega
    rw [ht.cells _ _ (by omega), ht.fz]
    exact h.inn i hi hfi
  · show (if i = k then _ else _) = _
    rw [if_neg (by omega)]; exact h.old i (by omega)
  · show ∃ W0', (if i = k then _ else _) = _
    by_cases e : i = k
    · subst e; simp only [if_pos]; rw [h.old i (Nat.le_refl _), hf]; exact ⟨W0, rfl⟩
    · simp only [if_neg e]; exact h.new i (by omega)

/-- The numeric nodes, with these units and these numbers. -/
structure St (us : List ByteArray) (N ws : Nat → Nat) (n T : Nat) (W : World) : Prop where
  hiT : T < W.heap.size
  lt : ∀ i, i < n → N i < T
  inj : ∀ i j, i < n → j < n → i ≠ j → N i ≠ N j
  unit : ∀ i, i < n → W.cell? ⟨N i, 0, none⟩ = some (.string (us.getD i ByteArray.empty))
  num : ∀ i, i < n → W.cell? ⟨N i, 1, none⟩ = some (.float .f64 (ws i))
  fz : ∀ i, i < n → W.frozen? ⟨N i, 1, none⟩ = false

theorem Mid.st {us : List ByteArray} {xs : List Nat} {fs : List Bool} {N zs : Nat → Nat} {k n L T : Nat} {W : World} (h : Mid us xs fs N zs k n L T W) : St us N zs n T W where
  hiT := h.hiT
  lt i hi := by have := h.hiN i hi; omega
  inj i j hi hj hij e := by
    rcases Nat.lt_or_gt_of_ne hij with h1 | h1
    · have := h.mono i j h1 hj; omega
    · have := h.mono j i h1 hi; omega
  unit := h.unit
  num := h.num
  fz := h.fz

theorem St.keep {us : List ByteArray} {N ws : Nat → Nat} {n T : Nat} {W W' : World} (h : St us N ws n T W) (hs : W.heap.size ≤ W'.heap.size)
    (hc : ∀ b i, b < T → W'.cell? ⟨b, i, none⟩ = W.cell? ⟨b, i, none⟩) (hf : ∀ b i, b < T → W'.frozen? ⟨b, i, none⟩ = W.frozen? ⟨b, i, none⟩) : St us N ws n T W' where
  hiT := Nat.lt_of_lt_of_le h.hiT hs
  lt := h.lt
  inj := h.inj
  unit i hi := by rw [hc _ _ (h.lt i hi)]; exact h.unit i hi
  num i hi := by rw [hc _ _ (h.lt i hi)]; exact h.num i hi
  fz i hi := by rw [hf _ _ (h.lt i hi)]; exact h.fz i hi

theorem St.set {us : List ByteArray} {N ws : Nat → Nat} {n T i0 v : Nat} {W : World} (h : St us N ws n T W) (h0 : i0 < n) :
    St us N (fun i => if i = i0 then v else ws i) n T (W.setCell ⟨N i0, 1, none⟩ (.float .f64 v)) where
  hiT := by rw [World.size_setCell]; exact h.hiT
  lt := h.lt
  inj := h.inj
  unit i hi := by
    rw [World.cell?_setCell_other _ _ _ _ (fun e => by injection e with e1 e2; omega)]
    exact h.unit i hi
  num i hi := by
    by_cases e : i = i0
    · subst e
      simp only [if_pos]
      exact World.cell?_setCell_same' _ _ _ (by rw [h.num i hi]; rfl)
    · simp only [if_neg e]
      rw [cell_set_other (h.inj i i0 hi h0 e)]
      exact h.num i hi
  fz i hi := by rw [World.frozen?_setCell]; exact h.fz i hi

theorem St.congr {us : List ByteArray} {N ws ws' : Nat → Nat} {n T : Nat} {W : World} (h : St us N ws n T W) (he : ∀ i, i < n → ws i = ws' i) : St us N ws' n T W :=
  ⟨h.hiT, h.lt, h.inj, h.unit, fun i hi => by rw [← he i hi]; exact h.num i hi, h.fz⟩

theorem filled {u : ByteArray} (h : u ≠ ⟨#[]⟩) : u.toList.isEmpty = false := by
  rw [ByteArray.toList_eq]
  cases hd : u.data.toList with
  | nil =>
    refine absurd ?_ h
    obtain ⟨⟨l⟩⟩ := u
    have : l = [] := hd
    rw [this]
  | cons _ _ => rfl

/-- A row stays where another block is written. -/
theorem row_other {w : World} {T m : Nat} {t : TypeId} {f : Nat → Value} {a : Addr} {v : Value} (h : w.rowIs T t m f) (hne : T ≠ a.block) : (w.setCell a v).rowIs T t m f := by
  obtain ⟨cur, h1, h2, h3⟩ := h
  exact ⟨cur, (Below.heap_setCell w a v T hne).trans h1, h2, h3⟩

/-- A product of these values, from the left; a NaN's bits are left open. -/
inductive Prods : List Nat → Nat → Prop
  | one (z : Nat) : Prods [z] z
  | snoc (l : List Nat) (z v : Nat) (W : World) : Prods l v → Prods (l ++ [z]) (fR .mul v z W)

theorem prods_ne {l : List Nat} {v : Nat} (h : Prods l v) : l.length ≠ 0 := by
  cases h with
  | one z => simp
  | snoc l z v W _ => simp

theorem prods_sim {l : List Nat} {v : Nat} (h : Prods l v) : ∀ l' v', Prods l' v' → l.length = l'.length → (∀ i, i < l.length → Sim (l.getD i 0) (l'.getD i 0)) → Sim v v' := by
  induction h with
  | one z =>
    intro l' v' h' hl hs
    cases h' with
    | one z' => exact hs 0 (by simp)
    | snoc l2 z2 v2 W2 hp2 => exact absurd (by simp at hl; exact hl ▸ rfl) (prods_ne hp2)
  | snoc l z v W hp ih =>
    intro l' v' h' hl hs
    cases h' with
    | one z' => exact absurd (by simp at hl; exact hl ▸ rfl) (prods_ne hp)
    | snoc l2 z2 v2 W2 hp2 =>
      have hl2 : l.length = l2.length := by simpa using hl
      refine sim_op (Or.inl rfl) (ih l2 v2 hp2 hl2 fun i hi => ?_) ?_ W W2
      · have := hs i (by simp; omega)
        simp only [List.getD_eq_getElem?_getD, List.getElem?_append_left hi, List.getElem?_append_left (show i < l2.length by omega)] at this
        simp only [List.getD_eq_getElem?_getD]
        exact this
      · have h3 := hs l.length (by simp)
        have e1 : (l ++ [z]).getD l.length 0 = z := by rw [List.getD_eq_getElem?_getD, List.getElem?_append_right (Nat.le_refl _), Nat.sub_self]; rfl
        have e2 : (l2 ++ [z2]).getD l.length 0 = z2 := by rw [hl2, List.getD_eq_getElem?_getD, List.getElem?_append_right (Nat.le_refl _), Nat.sub_self]; rfl
        rw [e1, e2] at h3
        exact h3

/-- The indices below k, all but p. -/
def idx (p k : Nat) : List Nat := (List.range k).filter fun i => i != p

theorem idx_succ (p k : Nat) : idx p (k + 1) = if k = p then idx p k else idx p k ++ [k] := by
  unfold idx
  rw [List.range_succ, List.filter_append]
  by_cases h : k = p
  · subst h; simp
  · rw [if_neg h]; simp [h]
end Go.Proofs.YtnoghiefpdbpbaaGreatFmt
