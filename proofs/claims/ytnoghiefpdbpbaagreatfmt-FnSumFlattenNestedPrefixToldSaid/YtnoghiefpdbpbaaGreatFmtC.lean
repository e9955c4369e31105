/-
  The leaves of a calc expression: numeric nodes, some of them wrapped.
-/
import Derived.Test.YtnoghiefpdbpbaaGreatFmtB
namespace Go.Proofs.YtnoghiefpdbpbaaGreatFmt
open Go.RowKit Go.Deep

theorem cell_alloc_old {w : World} {o : Obj} {b i : Nat} (h : b < w.heap.size) : (w.alloc o).cell? ⟨b, i, none⟩ = w.cell? ⟨b, i, none⟩ := World.cell?_of_block (Below.heap_alloc w o b h)
theorem cell_set_other {w : World} {a : Addr} {v : Value} {b i : Nat} (h : b ≠ a.block) : (w.setCell a v).cell? ⟨b, i, none⟩ = w.cell? ⟨b, i, none⟩ := World.cell?_of_block (Below.heap_setCell w a v b h)
theorem fz_alloc_old {w : World} {o : Obj} {b i : Nat} (h : b < w.heap.size) : (w.alloc o).frozen? ⟨b, i, none⟩ = w.frozen? ⟨b, i, none⟩ := World.frozen?_of_block (Below.heap_alloc w o b h)
theorem fz_set_other {w : World} {a : Addr} {v : Value} {b i : Nat} (h : b ≠ a.block) : (w.setCell a v).frozen? ⟨b, i, none⟩ = w.frozen? ⟨b, i, none⟩ := World.frozen?_of_block (Below.heap_setCell w a v b h)

/-- One more where the leaf is wrapped. -/
def b2n (b : Bool) : Nat := if b then 1 else 0
/-- The type of a wrapper's pointer: Invert or Negate. -/
def wrapT (inv : Bool) : TypeId := if inv then 60 else 63
def leafV (inv : Bool) (f : Bool) (n : Nat) : Value := if f then .iface (wrapT inv) (.pointer (some ⟨n + 1, 0, none⟩)) else .iface 57 (.pointer (some ⟨n, 0, none⟩))

/-- The leaves: rows of the slice in block L; numeric nodes in the blocks N i, wrappers right behind them. -/
structure Nodes (inv : Bool) (us : List ByteArray) (xs : List Nat) (fs : List Bool) (n B L : Nat) (N : Nat → Nat) (W : World) : Prop where
  lo : B ≤ L
  hiL : L < W.heap.size
  loN : ∀ i, i < n → L < N i
  hiN : ∀ i, i < n → N i + b2n (fs.getD i false) < W.heap.size
  mono : ∀ i j, i < j → j < n → N i + b2n (fs.getD i false) < N j
  row : ∀ i, i < n → W.cell? ⟨L, i * 2, none⟩ = some (leafV inv (fs.getD i false) (N i))
  loc : ∀ i, i < n → W.cell? ⟨L, i * 2 + 1, none⟩ = some (.int .i32 0)
  unit : ∀ i, i < n → W.cell? ⟨N i, 0, none⟩ = some (.string (us.getD i ByteArray.empty))
  num : ∀ i, i < n → W.cell? ⟨N i, 1, none⟩ = some (fl (xs.getD i 0))
  fz : ∀ i, i < n → W.frozen? ⟨N i, 1, none⟩ = false
  inn : ∀ i, i < n → fs.getD i false = true → W.cell? ⟨N i + 1, 0, none⟩ = some (.iface 57 (.pointer (some ⟨N i, 0, none⟩))) ∧ W.frozen? ⟨N i + 1, 0, none⟩ = false

/-- The nodes without the rows: what the loop builds. -/
structure Built (us : List ByteArray) (xs : List Nat) (fs : List Bool) (k L : Nat) (N : Nat → Nat) (W : World) : Prop where
  hiL : L < W.heap.size
  loN : ∀ i, i < k → L < N i
  hiN : ∀ i, i < k → N i + b2n (fs.getD i false) < W.heap.size
  mono : ∀ i j, i < j → j < k → N i + b2n (fs.getD i false) < N j
  unit : ∀ i, i < k → W.cell? ⟨N i, 0, none⟩ = some (.string (us.getD i ByteArray.empty))
  num : ∀ i, i < k → W.cell? ⟨N i, 1, none⟩ = some (fl (xs.getD i 0))
  fz : ∀ i, i < k → W.frozen? ⟨N i, 1, none⟩ = false
  inn : ∀ i, i < k → fs.getD i false = true → W.cell? ⟨N i + 1, 0, none⟩ = some (.iface 57 (.pointer (some ⟨N i, 0, none⟩))) ∧ W.frozen? ⟨N i + 1, 0, none⟩ = false

/-- What stays outside block L stays. -/
theorem Built.keep {us : List ByteArray} {xs : List Nat} {fs : List Bool} {k L : Nat} {N : Nat → Nat} {W W' : World} (h : Built us xs fs k L N W) (hs : W.heap.size ≤ W'.heap.size)
    (hc : ∀ b i, b < W.heap.size → b ≠ L → W'.cell? ⟨b, i, none⟩ = W.cell? ⟨b, i, none⟩) (hf : ∀ b i, b < W.heap.size → b ≠ L → W'.frozen? ⟨b, i, none⟩ = W.frozen? ⟨b, i, none⟩) : Built us xs fs k L N W' where
  hiL := Nat.lt_of_lt_of_le h.hiL hs
  loN := h.loN
  hiN i hi := Nat.lt_of_lt_of_le (h.hiN i hi) hs
  mono := h.mono
  unit i hi := by rw [hc _ _ (by have := h.hiN i hi; omega) (by have := h.loN i hi; omega)]; exact h.unit i hi
  num i hi := by rw [hc _ _ (by have := h.hiN i hi; omega) (by have := h.loN i hi; omega)]; exact h.num i hi
  fz i hi := by rw [hf _ _ (by have := h.hiN i hi; omega) (by have := h.loN i hi; omega)]; exact h.fz i hi
  inn i hi ht := by
    have h1 := h.hiN i hi
    have h2 := h.loN i hi
    rw [ht] at h1
    simp only [b2n, if_pos] at h1
    rw [hc _ _ (by omega) (by omega), hf _ _ (by omega) (by omega)]
    exact h.inn i hi ht

/-- One leaf more, in block p (and p + 1). -/
theorem Built.snoc {us : List ByteArray} {xs : List Nat} {fs : List Bool} {k L p : Nat} {N : Nat → Nat} {W : World} (h : Built us xs fs k L N W) (hN : ∀ i, i < k → N i + b2n (fs.getD i false) < p) (hL : L < p)
    (hp : p + b2n (fs.getD k false) < W.heap.size) (h0 : W.cell? ⟨p, 0, none⟩ = some (.string (us.getD k ByteArray.empty))) (h1 : W.cell? ⟨p, 1, none⟩ = some (fl (xs.getD k 0))) (hf : W.frozen? ⟨p, 1, none⟩ = false)
    (hi : fs.getD k false = true → W.cell? ⟨p + 1, 0, none⟩ = some (.iface 57 (.pointer (some ⟨p, 0, none⟩))) ∧ W.frozen? ⟨p + 1, 0, none⟩ = false) :
    Built us xs fs (k + 1) L (fun i => if i = k then p else N i) W where
  hiL := h.hiL
  loN i hi := by
    by_cases e : i = k
    · rw [if_pos e]; exact hL
    · rw [if_neg e]; exact h.loN i (by omega)
  hiN i hi := by
    by_cases e : i = k
    · subst e; rw [if_pos rfl]; exact hp
    · rw [if_neg e]; exact h.hiN i (by omega)
  mono i j hij hj := by
    have e1 : ¬ i = k := by omega
    rw [if_neg e1]
    by_cases e : j = k
    · rw [if_pos e]; exact hN i (by omega)
    · rw [if_neg e]; exact h.mono i j hij (by omega)
  unit i hi := by
    by_cases e : i = k
    · subst e; rw [if_pos rfl]; exact h0
    · rw [if_neg e]; exact h.unit i (by omega)
  num i hi := by
    by_cases e : i = k
    · subst e; rw [if_pos rfl]; exact h1
    · rw [if_neg e]; exact h.num i (by omega)
  fz i hi := by
    by_cases e : i = k
    · subst e; rw [if_pos rfl]; exact hf
    · rw [if_neg e]; exact h.fz i (by omega)
  inn i hi' ht := by
    by_cases e : i = k
    · subst e; rw [if_pos rfl]; exact hi ht
    · rw [if_neg e]; exact h.inn i (by omega) ht

/-- The answer: a slice of leaves. -/
def Leaves (inv : Bool) (us : List ByteArray) (xs : List Nat) (fs : List Bool) (n : Nat) (w : World) (e : Ending) (w' : World) : Prop :=
  ∃ L N, e = .returned (.slice (some ⟨L, 0, none⟩) n n) ∧ Nodes inv us xs fs n w.heap.size L N w' ∧ Below w.heap.size w w'

theorem info53 : (Tryz.prog.info? 53).map (fun i => (i.zero, i.size, i.bytes)) = some (some (.agg #[.nilIface, .int .i32 0]), 2, 24) := by kernel_rfl
end Go.Proofs.YtnoghiefpdbpbaaGreatFmt
