/-
  The nodes of a sum's terms, wherever their rows lie; what a sum's simplification answers, whatever its first term is.
-/
import Derived.Test.YtnoghiefpdbpbaaGreatFmtM
import Derived.Test.YtnoghiefpdbpbaaGreatFmtP2
import Derived.Laws.AppendOwn
namespace Go.Proofs.YtnoghiefpdbpbaaGreatFmt
open Go.RowKit Go.Deep

/-- The nodes: units, numbers, wrappers. -/
structure NS (us : List ByteArray) (fs : List Bool) (N : Nat → Nat) (n T : Nat) (zs : Nat → Nat) (W : World) : Prop where
  hi : ∀ i, i < n → N i + b2n (fs.getD i false) < T
  mono : ∀ i j, i < j → j < n → N i + b2n (fs.getD i false) < N j
  unit : ∀ i, i < n → W.cell? ⟨N i, 0, none⟩ = some (.string (us.getD i ByteArray.empty))
  num : ∀ i, i < n → W.cell? ⟨N i, 1, none⟩ = some (.float .f64 (zs i))
  fz : ∀ i, i < n → W.frozen? ⟨N i, 1, none⟩ = false
  inn : ∀ i, i < n → fs.getD i false = true → W.cell? ⟨N i + 1, 0, none⟩ = some (.iface 57 (.pointer (some ⟨N i, 0, none⟩))) ∧ W.frozen? ⟨N i + 1, 0, none⟩ = false

section
variable {us : List ByteArray} {fs : List Bool} {N : Nat → Nat} {n T : Nat} {zs : Nat → Nat} {W W' : World}
theorem NS.inj (h : NS us fs N n T zs W) (i j : Nat) (hi : i < n) (hj : j < n) (hij : i ≠ j) : N i ≠ N j ∧ N i + b2n (fs.getD i false) ≠ N j := by
  rcases Nat.lt_or_gt_of_ne hij with h1 | h1
  · have := h.mono i j h1 hj
    omega
  · have h2 := h.mono j i h1 hi
    have h3 : N j ≤ N j + b2n (fs.getD j false) := Nat.le_add_right _ _
    omega
theorem NS.keep (h : NS us fs N n T zs W) (hc : ∀ b i, b < T → W'.cell? ⟨b, i, none⟩ = W.cell? ⟨b, i, none⟩) (hf : ∀ b i, b < T → W'.frozen? ⟨b, i, none⟩ = W.frozen? ⟨b, i, none⟩) : NS us fs N n T zs W' where
  hi := h.hi
  mono := h.mono
  unit i hi := by rw [hc _ _ (by have := h.hi i hi; omega)]; exact h.unit i hi
  num i hi := by rw [hc _ _ (by have := h.hi i hi; omega)]; exact h.num i hi
  fz i hi := by rw [hf _ _ (by have := h.hi i hi; omega)]; exact h.fz i hi
  inn i hi ht := by
    have h1 := h.hi i hi
    rw [ht] at h1
    simp only [b2n, if_pos] at h1
    rw [hc _ _ (by omega), hf _ _ (by omega)]
    exact h.inn i hi ht
/-- One node's number is turned. -/
theorem NS.turn {k y : Nat} (h : NS us fs N n T zs W) (hk : k < n) (ht : Turned (N k) y W W') : NS us fs N n T (fun i => if i = k then y else zs i) W' := by
  refine ⟨h.hi, h.mono, fun i hi => ?_, fun i hi => ?_, fun i hi => ?_, fun i hi hfi => ?_⟩
  · rw [ht.cells _ _ (by omega)]; exact h.unit i hi
  · by_cases e : i = k
    · subst e
      rw [ht.num, if_pos rfl]
    · rw [if_neg e, ht.cells _ _ (by have := (h.inj i k hi hk e).1; omega)]; exact h.num i hi
  · rw [ht.fz]; exact h.fz i hi
  · rw [ht.cells _ _ (by omega), ht.fz]
    exact h.inn i hi hfi
theorem NS.congr {zs' : Nat → Nat} (h : NS us fs N n T zs W) (e : ∀ i, i < n → zs i = zs' i) : NS us fs N n T zs' W :=
  { h with num := fun i hi => by rw [← e i hi]; exact h.num i hi }
theorem NS.st {T' : Nat} (h : NS us fs N n T zs W) (hT : T ≤ T') (hz : T' < W.heap.size) : St us N zs n T' W where
  hiT := hz
  lt i hi := by have := h.hi i hi; omega
  inj i j hi hj hij := (h.inj i j hi hj hij).1
  unit := h.unit
  num := h.num
  fz := h.fz
end

/-- The cells of a row of numeric terms. -/
def rowN (N : Nat → Nat) (A : List Nat) : List Value := A.flatMap fun i => [.iface 57 (.pointer (some ⟨N i, 0, none⟩)), .int .i32 0]
theorem rowN_len (N : Nat → Nat) (A : List Nat) : (rowN N A).length = A.length * 2 := by
  unfold rowN
  induction A with
  | nil => rfl
  | cons a A ih => rw [List.flatMap_cons, List.length_append, ih, List.length_cons, List.length_cons, List.length_cons, List.length_nil]; omega
theorem rowN_append (N : Nat → Nat) (A B : List Nat) : rowN N (A ++ B) = rowN N A ++ rowN N B := by unfold rowN; rw [List.flatMap_append]
theorem rowN_at (N : Nat → Nat) : ∀ (A : List Nat) (q : Nat), q < A.length → (rowN N A)[q * 2]? = some (.iface 57 (.pointer (some ⟨N (A.getD q 0), 0, none⟩))) ∧ (rowN N A)[q * 2 + 1]? = some (.int .i32 0)
  | [], q, h => absurd h (Nat.not_lt_zero _)
  | a :: A, 0, _ => ⟨rfl, rfl⟩
  | a :: A, q + 1, h => by
    have ih := rowN_at N A q (by simpa using h)
    have e : rowN N (a :: A) = .iface 57 (.pointer (some ⟨N a, 0, none⟩)) :: .int .i32 0 :: rowN N A := rfl
    rw [e, show (q + 1) * 2 = q * 2 + 1 + 1 by omega, List.getElem?_cons_succ, List.getElem?_cons_succ, show q * 2 + 1 + 1 + 1 = q * 2 + 1 + 1 + 1 from rfl, List.getElem?_cons_succ, List.getElem?_cons_succ]
    exact ih

/-- The row that the terms are gathered in, as the folding loops want it. -/
theorem TR.of_own {W : World} {base : Nat} {v : Value} {N : Nat → Nat} {A : List Nat} (h : W.ownsRow base 53 2 v A.length (rowN N A)) (hs : v.ownBlock ≠ none) :
    ∃ T cap, v = .slice (some ⟨T, 0, none⟩) A.length cap ∧ base ≤ T ∧ T < W.heap.size ∧ cap ≤ maxLen ∧ TR T cap A.length N A [] W := by
  rcases h.2 with ⟨rfl, _⟩ | ⟨g, cap, cur, rfl, hb, hg, hc, hm, hz, ht⟩
  · exact absurd rfl hs
  · refine ⟨g, cap, rfl, hb, (Array.getElem?_eq_some_iff.1 hg).1, hm, ⟨by simp, hc, fun j => cur.getD j .nilIface, ⟨cur, hg, hz, fun j hj => by simp [Array.getD, hz, hj]⟩, fun q hq => ?_, fun q hq => absurd hq (Nat.not_lt_zero _)⟩⟩
    have e := rowN_at N A q hq
    rw [← ht, List.getElem?_take, List.getElem?_take] at e
    rw [if_pos (by omega), if_pos (by omega)] at e
    simp only [Array.getElem?_toList] at e
    have h1 : q * 2 < cur.size := by omega
    have h2 : q * 2 + 1 < cur.size := by omega
    rw [Array.getElem?_eq_getElem h1, Array.getElem?_eq_getElem h2] at e
    simp only [Array.getD, h1, h2, dif_pos]
    exact ⟨Option.some.inj e.1, Option.some.inj e.2⟩

/-- Of what was there only the nodes turned, and the blocks of cs. -/
def Fr (N : Nat → Nat) (fs : List Bool) (n : Nat) (cs : List Nat) (w W : World) : Prop := ∀ b, b < w.heap.size → (∀ i, i < n → b ≠ N i ∧ b ≠ N i + b2n (fs.getD i false)) → b ∉ cs → W.heap[b]? = w.heap[b]?
section
variable {N : Nat → Nat} {fs : List Bool} {n : Nat} {cs : List Nat} {w W W' : World}
theorem Fr.refl (N : Nat → Nat) (fs : List Bool) (n : Nat) (cs : List Nat) (w : World) : Fr N fs n cs w w := fun _ _ _ _ => rfl
theorem Fr.trans (h : Fr N fs n cs w W) (hs : w.heap.size ≤ W.heap.size) {cs' : List Nat} (h2 : Fr N fs n cs' W W') (hc : ∀ b, b ∈ cs' → b ∈ cs) : Fr N fs n cs w W' := fun b hb hn hcs => (h2 b (by omega) hn (fun e => hcs (hc b e))).trans (h b hb hn hcs)
theorem Fr.more {cs' : List Nat} (h : Fr N fs n cs w W) (hc : ∀ b, b ∈ cs → b ∈ cs') : Fr N fs n cs' w W := fun b hb hn hcs => h b hb hn (fun e => hcs (hc b e))
theorem Fr.cell (h : Fr N fs n cs w W) {b i : Nat} {v : Value} (hv : w.cell? ⟨b, i, none⟩ = some v) (hn : ∀ j, j < n → b ≠ N j ∧ b ≠ N j + b2n (fs.getD j false)) (hc : b ∉ cs) : W.cell? ⟨b, i, none⟩ = some v :=
  (World.cell?_of_block (a := ⟨b, i, none⟩) (h b (World.block_lt_of_cell? _ _ hv) hn hc)).trans hv
theorem Fr.frozen (h : Fr N fs n cs w W) {b i : Nat} (hb : b < w.heap.size) (hn : ∀ j, j < n → b ≠ N j ∧ b ≠ N j + b2n (fs.getD j false)) (hc : b ∉ cs) : W.frozen? ⟨b, i, none⟩ = w.frozen? ⟨b, i, none⟩ :=
  World.frozen?_of_block (a := ⟨b, i, none⟩) (h b hb hn hc)
/-- Elsewhere than in an old block. -/
theorem Fr.on (h : Fr N fs n cs w W) (e : ∀ b, b < w.heap.size → (∀ i, i < n → b ≠ N i ∧ b ≠ N i + b2n (fs.getD i false)) → b ∉ cs → W'.heap[b]? = W.heap[b]?) : Fr N fs n cs w W' := fun b hb hn hcs => (e b hb hn hcs).trans (h b hb hn hcs)
end

theorem own_blk {W W' : World} {base : Nat} {e : TypeId} {size : Nat} {v : Value} {m : Nat} {xs : List Value} (h : W.ownsRow base e size v m xs) (hb : ∀ g, base ≤ g → g < W.heap.size → W'.heap[g]? = W.heap[g]?) : W'.ownsRow base e size v m xs := by
  obtain ⟨h1, h2⟩ := h
  refine ⟨h1, ?_⟩
  rcases h2 with h2 | ⟨g, cap, cur, hv, hg, hh, hr⟩
  · exact .inl h2
  · exact .inr ⟨g, cap, cur, hv, hg, by rw [hb g hg (Array.getElem?_eq_some_iff.1 hh).1]; exact hh, hr⟩

/-- What a sum of the terms A0 simplifies to: the groups, each with its first node. -/
def SumsTo (ρ : Nat → Nat → Bool) (us : List ByteArray) (fs : List Bool) (N : Nat → Nat) (n B bd : Nat) (cs : List Nat) (A0 : List Nat) (Z : (Nat → Nat) → Prop) (c : Nat) (w : World) (e : Ending) (w' : World) : Prop :=
  Below B w w' ∧ Fr N fs n (c :: cs) w w' ∧
  ∃ (z ws : Nat → Nat), Z z ∧ NS us fs N n bd ws w' ∧ (∀ i, i < n → i ∉ A0 → ws i = z i) ∧ (∀ q, q < (grp ρ A0).length → Sums (((grp ρ A0).getD q []).map z) (ws (hd (grp ρ A0) q))) ∧
    ((grp ρ A0).length = 1 → e = .returned (.iface 57 (.pointer (some ⟨N (hd (grp ρ A0) 0), 0, none⟩)))) ∧
    ((grp ρ A0).length ≠ 1 → e = .returned (.iface 46 (.pointer (some ⟨c, 0, none⟩))) ∧ ∃ T cap, w'.cell? ⟨c, 0, none⟩ = some (.slice (some ⟨T, 0, none⟩) (grp ρ A0).length cap) ∧
      ∀ q, q < (grp ρ A0).length → w'.cell? ⟨T, q * 2, none⟩ = some (.iface 57 (.pointer (some ⟨N (hd (grp ρ A0) q), 0, none⟩))) ∧ w'.cell? ⟨T, q * 2 + 1, none⟩ = some (.int .i32 0))
end Go.Proofs.YtnoghiefpdbpbaaGreatFmt
