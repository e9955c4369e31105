/-
  Trees in memory: what a value of the interface calcTerm leads to; the row of terms.
-/
import Derived.Test.YthbfppnegodpoaaGreatDoorS
import Derived.Test.YthbfppnegodpoaaGreatDoorL
import Derived.Test.YthbfppnegodpoaaGreatDoorE
namespace Go.Proofs.YthbfppnegodpoaaGreatDoor
open Go.RowKit Go.Deep Go.PlainAid

/-- The value leads to the tree, in blocks of D. -/
inductive Rep (W : World) (D : Nat → Prop) : Value → CT → Prop
  | num (b : Nat) (u : ByteArray) (x : Nat) (hb : D b) (c0 : W.cell? ⟨b, 0, none⟩ = some (.string u)) (c1 : W.cell? ⟨b, 1, none⟩ = some (.float .f64 x)) :
      Rep W D (.iface 34 (.pointer (some ⟨b, 0, none⟩))) (.num u x)
  | val (b : Nat) (k : Int) (t : ByteArray) (ws : Int) (bad : Bool) (p : Option Addr) (hb : D b) (c0 : W.cell? ⟨b, 0, none⟩ = some (.pointer p)) (c1 : W.cell? ⟨b, 1, none⟩ = some (.string t))
      (c2 : W.cell? ⟨b, 2, none⟩ = some (.int .i32 0)) (c3 : W.cell? ⟨b, 3, none⟩ = some (.int .u32 0)) (c4 : W.cell? ⟨b, 4, none⟩ = some (.int .u16 0))
      (c5 : W.cell? ⟨b, 5, none⟩ = some (.int .u8 k)) (c6 : W.cell? ⟨b, 6, none⟩ = some (.int .u8 ws)) (c7 : W.cell? ⟨b, 7, none⟩ = some (.bool bad)) :
      Rep W D (.iface 54 (.pointer (some ⟨b, 0, none⟩))) (.val k t ws bad)
  | sum (b r : Nat) (l : List CT) (vs : Nat → Value) (h0 : 0 < l.length ∧ l.length ≤ 8192) (hb : D b) (hr : D r) (c0 : W.cell? ⟨b, 0, none⟩ = some (.slice (some ⟨r, 0, none⟩) l.length l.length))
      (cs : ∀ i, i < l.length → W.cell? ⟨r, i * 2, none⟩ = some (vs i)) (rs : ∀ i, i < l.length → Rep W D (vs i) (l.getD i dT)) :
      Rep W D (.iface 102 (.pointer (some ⟨b, 0, none⟩))) (.sum l)
  | prod (b r : Nat) (l : List CT) (vs : Nat → Value) (h0 : 0 < l.length ∧ l.length ≤ 8192) (hb : D b) (hr : D r) (c0 : W.cell? ⟨b, 0, none⟩ = some (.slice (some ⟨r, 0, none⟩) l.length l.length))
      (cs : ∀ i, i < l.length → W.cell? ⟨r, i * 2, none⟩ = some (vs i)) (rs : ∀ i, i < l.length → Rep W D (vs i) (l.getD i dT)) :
      Rep W D (.iface 98 (.pointer (some ⟨b, 0, none⟩))) (.prod l)
  | neg (b : Nat) (v : Value) (t : CT) (hb : D b) (c0 : W.cell? ⟨b, 0, none⟩ = some v) (r : Rep W D v t) : Rep W D (.iface 100 (.pointer (some ⟨b, 0, none⟩))) (.neg t)
  | inv (b : Nat) (v : Value) (t : CT) (hb : D b) (c0 : W.cell? ⟨b, 0, none⟩ = some v) (r : Rep W D v t) : Rep W D (.iface 95 (.pointer (some ⟨b, 0, none⟩))) (.inv t)

theorem Rep.one {W : World} {D : Nat → Prop} {v : Value} {t : CT} (h : Rep W D v t) : v.oneCell' = true := by cases h <;> rfl

/-- In the blocks of D every cell that was there is as it was. -/
def Keeps (D : Nat → Prop) (W W' : World) : Prop := ∀ b o x, D b → W.cell? ⟨b, o, none⟩ = some x → W'.cell? ⟨b, o, none⟩ = some x

theorem Keeps.refl (D : Nat → Prop) (W : World) : Keeps D W W := fun _ _ _ _ h => h
theorem Keeps.trans {D : Nat → Prop} {a b c : World} (h : Keeps D a b) (k : Keeps D b c) : Keeps D a c := fun b o x hb hx => k b o x hb (h b o x hb hx)
theorem Keeps.below {D : Nat → Prop} {W W' : World} (h : Below W.heap.size W W') : Keeps D W W' := fun _ _ _ _ hx => cell_later h hx
theorem Keeps.setCell (D : Nat → Prop) (W : World) (b o : Nat) (v : Value) (h : ¬ D b) : Keeps D W (W.setCell ⟨b, o, none⟩ v) := fun c p x hc hx => by
  rw [World.cell?_of_block (Below.heap_setCell W ⟨b, o, none⟩ v c (by show c ≠ b; intro e; subst e; exact h hc))]
  exact hx

theorem Rep.keep {W W' : World} {D : Nat → Prop} {v : Value} {t : CT} (h : Rep W D v t) (hk : Keeps D W W') : Rep W' D v t := by
  induction h with
  | num b u x hb c0 c1 => exact .num b u x hb (hk _ _ _ hb c0) (hk _ _ _ hb c1)
  | val b k t ws bad p hb c0 c1 c2 c3 c4 c5 c6 c7 => exact .val b k t ws bad p hb (hk _ _ _ hb c0) (hk _ _ _ hb c1) (hk _ _ _ hb c2) (hk _ _ _ hb c3) (hk _ _ _ hb c4) (hk _ _ _ hb c5) (hk _ _ _ hb c6) (hk _ _ _ hb c7)
  | sum b r l vs h0 hb hr c0 cs rs ih => exact .sum b r l vs h0 hb hr (hk _ _ _ hb c0) (fun i hi => hk _ _ _ hr (cs i hi)) ih
  | prod b r l vs h0 hb hr c0 cs rs ih => exact .prod b r l vs h0 hb hr (hk _ _ _ hb c0) (fun i hi => hk _ _ _ hr (cs i hi)) ih
  | neg b v t hb c0 r ih => exact .neg b v t hb (hk _ _ _ hb c0) ih
  | inv b v t hb c0 r ih => exact .inv b v t hb (hk _ _ _ hb c0) ih

/-- The blocks that it leads through are there. -/
theorem Rep.weaken {W : World} {D D' : Nat → Prop} {v : Value} {t : CT} (h : Rep W D v t) (hl : ∀ b, b < W.heap.size → D b → D' b) : Rep W D' v t := by
  have hc : ∀ {b o : Nat} {x : Value}, D b → W.cell? ⟨b, o, none⟩ = some x → D' b := fun hb c => hl _ (World.block_lt_of_cell? _ _ c) hb
  induction h with
  | num b u x hb c0 c1 => exact .num b u x (hc hb c0) c0 c1
  | val b k t ws bad p hb c0 c1 c2 c3 c4 c5 c6 c7 => exact .val b k t ws bad p (hc hb c0) c0 c1 c2 c3 c4 c5 c6 c7
  | sum b r l vs h0 hb hr c0 cs rs ih => exact .sum b r l vs h0 (hc hb c0) (hc hr (cs 0 h0.1)) c0 cs ih
  | prod b r l vs h0 hb hr c0 cs rs ih => exact .prod b r l vs h0 (hc hb c0) (hc hr (cs 0 h0.1)) c0 cs ih
  | neg b v t hb c0 r ih => exact .neg b v t (hc hb c0) c0 ih
  | inv b v t hb c0 r ih => exact .inv b v t (hc hb c0) c0 ih

/-- The row of terms: block T, n terms long, the first of them lead to the trees. -/
structure Row (W : World) (D : Nat → Prop) (T n : Nat) (ts : List CT) : Prop where
  out : ¬ D T
  le : ts.length ≤ n
  row : ∃ f, W.rowIs T 92 (n * 2) f ∧ (∀ j, j < ts.length → Rep W D (f (j * 2)) (ts.getD j dT)) ∧ (∀ j, j < n → ∃ k, f (j * 2 + 1) = .int .i32 k)

section
variable {W W' : World} {D D' : Nat → Prop} {T n : Nat} {ts : List CT}

theorem Row.lt (h : Row W D T n ts) : T < W.heap.size := by
  obtain ⟨_, _, f, h1, _⟩ := h
  exact h1.lt
theorem Row.fz (h : Row W D T n ts) (i : Nat) : W.frozen? ⟨T, i, none⟩ = false := by
  obtain ⟨_, _, f, h1, _⟩ := h
  exact h1.frozen i
theorem Row.isCell (h : Row W D T n ts) (i : Nat) (hi : i < n * 2) : ∃ x, W.cell? ⟨T, i, none⟩ = some x := by
  obtain ⟨_, _, f, h1, _⟩ := h
  exact ⟨_, h1.cell hi⟩
theorem Row.cell (h : Row W D T n ts) (j : Nat) (hj : j < ts.length) :
    ∃ v k, W.cell? ⟨T, j * 2, none⟩ = some v ∧ W.cell? ⟨T, j * 2 + 1, none⟩ = some (.int .i32 k) ∧ Rep W D v (ts.getD j dT) := by
  obtain ⟨_, hle, f, h1, h2, h3⟩ := h
  obtain ⟨k, hk⟩ := h3 j (by omega)
  exact ⟨f (j * 2), k, h1.cell (by omega), by rw [h1.cell (by omega), hk], h2 j hj⟩
theorem Row.keep (h : Row W D T n ts) (hT : W'.heap[T]? = W.heap[T]?) (hk : Keeps D W W') : Row W' D T n ts := by
  obtain ⟨ho, hle, f, h1, h2, h3⟩ := h
  exact ⟨ho, hle, f, h1.of_block hT, fun j hj => (h2 j hj).keep hk, h3⟩
theorem Row.below (h : Row W D T n ts) (hb : Below W.heap.size W W') : Row W' D T n ts := h.keep (hb.block T h.lt) (Keeps.below hb)
theorem Row.weaken (h : Row W D T n ts) (hl : ∀ b, b < W.heap.size → D b → D' b) (ho : ¬ D' T) : Row W D' T n ts := by
  obtain ⟨_, hle, f, h1, h2, h3⟩ := h
  exact ⟨ho, hle, f, h1, fun j hj => (h2 j hj).weaken hl, h3⟩
/-- A store of a term's data at j: the row's j-th tree, or one more. -/
theorem Row.set {ts' : List CT} {v : Value} (h : Row W D T n ts) (j : Nat) (hr : Rep W D v (ts'.getD j dT)) (hle : ts'.length ≤ n)
    (hs : ∀ i, i < ts'.length → i ≠ j → i < ts.length ∧ ts'.getD i dT = ts.getD i dT) : Row (W.setCell ⟨T, j * 2, none⟩ v) D T n ts' := by
  obtain ⟨ho, _, f, h1, h2, h3⟩ := h
  have hk := Keeps.setCell D W T (j * 2) v ho
  refine ⟨ho, hle, _, h1.set (j * 2) v, fun i hi => ?_, fun i hi => ?_⟩
  · by_cases e : i = j
    · subst e
      rw [if_pos rfl]
      exact hr.keep hk
    · rw [if_neg (by omega)]
      obtain ⟨s1, s2⟩ := hs i hi e
      rw [s2]
      exact (h2 i s1).keep hk
  · rw [if_neg (by omega)]
    exact h3 i hi
theorem Row.setLoc (h : Row W D T n ts) (j : Nat) (k : Int) : Row (W.setCell ⟨T, j * 2 + 1, none⟩ (.int .i32 k)) D T n ts := by
  obtain ⟨ho, hle, f, h1, h2, h3⟩ := h
  have hk := Keeps.setCell D W T (j * 2 + 1) (.int .i32 k) ho
  refine ⟨ho, hle, _, h1.set (j * 2 + 1) _, fun i hi => ?_, fun i hi => ?_⟩
  · rw [if_neg (by omega)]
    exact (h2 i hi).keep hk
  · by_cases e : i = j
    · subst e
      rw [if_pos rfl]
      exact ⟨k, rfl⟩
    · rw [if_neg (by omega)]
      exact h3 i hi
/-- One tree more. -/
theorem Row.push {v : Value} {t : CT} (h : Row W D T n ts) (hr : Rep W D v t) (hn : ts.length < n) : Row (W.setCell ⟨T, ts.length * 2, none⟩ v) D T n (ts ++ [t]) :=
  h.set ts.length (by rw [List.getD_eq_getElem?_getD, List.getElem?_append_right (Nat.le_refl _), Nat.sub_self]; exact hr) (by rw [List.length_append, List.length_singleton]; omega)
    fun i hi hne => by
      rw [List.length_append, List.length_singleton] at hi
      refine ⟨by omega, ?_⟩
      rw [List.getD_eq_getElem?_getD, List.getElem?_append_left (by omega), ← List.getD_eq_getElem?_getD]
/-- Another tree at j. -/
theorem Row.put {v : Value} {t : CT} (h : Row W D T n ts) (j : Nat) (hj : j < ts.length) (hr : Rep W D v t) : Row (W.setCell ⟨T, j * 2, none⟩ v) D T n (ts.set j t) :=
  h.set j (by rw [List.getD_eq_getElem?_getD, List.getElem?_set_self hj]; exact hr) (by rw [List.length_set]; exact h.le)
    fun i hi hne => by
      rw [List.length_set] at hi
      refine ⟨hi, ?_⟩
      rw [List.getD_eq_getElem?_getD, List.getElem?_set_ne (Ne.symm hne), ← List.getD_eq_getElem?_getD]
end

theorem rowIs_setCells {T t n : Nat} : ∀ (vs : List Value) (o : Nat) (W : World) (f : Nat → Value), W.rowIs T t n f → (W.setCells T o vs).rowIs T t n (fun i => if o ≤ i ∧ i < o + vs.length then vs.getD (i - o) .nilIface else f i)
  | [], o, _, f, h => h.congr fun i _ => by rw [if_neg (by simp only [List.length_nil]; omega)]
  | v :: vs, o, W, f, h => by
    have h1 := rowIs_setCells vs (o + 1) _ _ (h.set o v)
    refine World.rowIs.congr h1 fun i _ => ?_
    rw [List.length_cons]
    by_cases e : i = o
    · subst e
      rw [if_neg (by omega), if_pos rfl, if_pos (by omega), Nat.sub_self]
      rfl
    · by_cases e2 : o + 1 ≤ i ∧ i < o + 1 + vs.length
      · rw [if_pos e2, if_pos (by omega), show i - o = (i - (o + 1)) + 1 by omega]
        rfl
      · rw [if_neg e2, if_neg e, if_neg (by omega)]

theorem keeps_setCells {T : Nat} {D : Nat → Prop} (hT : ¬ D T) : ∀ (vs : List Value) (o : Nat) (W : World), Keeps D W (W.setCells T o vs)
  | [], _, W => Keeps.refl _ W
  | v :: vs, o, W => (Keeps.setCell D W T o v hT).trans (keeps_setCells hT vs (o + 1) _)

theorem size_setCells {T : Nat} : ∀ (vs : List Value) (o : Nat) (W : World), (W.setCells T o vs).heap.size = W.heap.size
  | [], _, _ => rfl
  | v :: vs, o, W => by
    show ((W.setCell _ v).setCells T (o + 1) vs).heap.size = _
    rw [size_setCells vs (o + 1), World.size_setCell]

theorem below_setCells {T B : Nat} (hT : B ≤ T) {w : World} : ∀ (vs : List Value) (o : Nat) {W : World}, Below B w W → Below B w (W.setCells T o vs)
  | [], _, _, h => h
  | v :: vs, o, _, h => below_setCells hT vs (o + 1) (h.setCell hT v)

/-- The cells of the terms from a on; behind their move to place 'first'. -/
theorem Row.tail {W : World} {D : Nat → Prop} {T n : Nat} {ts : List CT} (h : Row W D T n ts) (a : Nat) : ∃ news : List Value, news.length = (ts.length - a) * 2 ∧ (∀ j u, news[j]? = some u → W.cell? ⟨T, a * 2 + j, none⟩ = some u) ∧ (∀ u ∈ news, u.oneCell' = true) ∧
    ∀ first, first ≤ a → first ≤ ts.length → Row (W.setCells T (first * 2) news) D T n (ts.take first ++ ts.drop a) := by
  obtain ⟨ho, hle, f, h1, h2, h3⟩ := h
  refine ⟨(List.range ((ts.length - a) * 2)).map fun j => f (a * 2 + j), by simp, fun j u hj => ?_, fun u hu => ?_, fun first hf hf2 => ?_⟩
  · rw [List.getElem?_map] at hj
    obtain ⟨x, hx, rfl⟩ := Option.map_eq_some_iff.1 hj
    obtain ⟨hx1, rfl⟩ := List.getElem?_eq_some_iff.1 hx
    rw [List.getElem_range]
    rw [List.length_range] at hx1
    exact h1.cell (by omega)
  · obtain ⟨j, hj, rfl⟩ := List.mem_map.1 hu
    rw [List.mem_range] at hj
    rcases Nat.mod_two_eq_zero_or_one j with e | e
    · have hr := h2 (a + j / 2) (by omega)
      rw [show (a + j / 2) * 2 = a * 2 + j by omega] at hr
      exact hr.one
    · obtain ⟨k, hk⟩ := h3 (a + j / 2) (by omega)
      rw [show (a + j / 2) * 2 + 1 = a * 2 + j by omega] at hk
      rw [hk]
      rfl
  · have hk := keeps_setCells (T := T) (D := D) ho ((List.range ((ts.length - a) * 2)).map fun j => f (a * 2 + j)) (first * 2) W
    have hg : ∀ j, j < (ts.length - a) * 2 → ((List.range ((ts.length - a) * 2)).map fun j => f (a * 2 + j)).getD j .nilIface = f (a * 2 + j) := fun j hj => by
      rw [List.getD_eq_getElem?_getD, List.getElem?_map, List.getElem?_range hj]
      rfl
    have hl : (ts.take first ++ ts.drop a).length = first + (ts.length - a) := by rw [List.length_append, List.length_take, List.length_drop]; omega
    refine ⟨ho, by rw [hl]; omega, _, rowIs_setCells _ _ _ _ h1, fun j hj => ?_, fun j hj => ?_⟩
    · rw [hl] at hj
      refine Rep.keep ?_ hk
      rw [List.length_map, List.length_range]
      by_cases e : j < first
      · rw [if_neg (by omega), List.getD_eq_getElem?_getD, List.getElem?_append_left (by rw [List.length_take]; omega), List.getElem?_take, if_pos e, ← List.getD_eq_getElem?_getD]
        exact h2 j (by omega)
      · rw [if_pos (by omega), hg _ (by omega), List.getD_eq_getElem?_getD, List.getElem?_append_right (by rw [List.length_take]; omega), List.getElem?_drop, ← List.getD_eq_getElem?_getD, List.length_take, Nat.min_eq_left hf2,
          show a * 2 + (j * 2 - first * 2) = (a + (j - first)) * 2 by omega]
        exact h2 _ (by omega)
    · rw [List.length_map, List.length_range]
      by_cases e : first * 2 ≤ j * 2 + 1 ∧ j * 2 + 1 < first * 2 + (ts.length - a) * 2
      · rw [if_pos e, hg _ (by omega), show a * 2 + (j * 2 + 1 - first * 2) = (a + (j - first)) * 2 + 1 by omega]
        exact h3 _ (by omega)
      · rw [if_neg e]
        exact h3 j hj
end Go.Proofs.YthbfppnegodpoaaGreatDoor
