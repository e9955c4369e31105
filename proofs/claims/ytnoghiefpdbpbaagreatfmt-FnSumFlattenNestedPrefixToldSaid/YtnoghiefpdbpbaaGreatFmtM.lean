/-
  The sum of a calc expression: its first loop's middle; a negated number's own simplification.
-/
import Derived.Test.YtnoghiefpdbpbaaGreatFmtG
namespace Go.Proofs.YtnoghiefpdbpbaaGreatFmt
open Go.RowKit Go.Deep

/-- The number of a term: negated where it is marked. -/
def ng (x : Nat) (b : Bool) : Nat := if b then Op.negFloat .f64 x else x

theorem run_neg_float {P : Program} (b : Nat) (w : World) : (Op.unary UnOp.neg (Value.float .f64 b)).run P w = .ok (.float .f64 (Op.negFloat .f64 b)) w := rfl

set_option maxRecDepth 100000 in
set_option maxHeartbeats 1000000 in
theorem negsimp_any (n x : Nat) (w : World) (c0 : w.cell? ⟨n + 1, 0, none⟩ = some (.iface 57 (.pointer (some ⟨n, 0, none⟩)))) (f0 : w.frozen? ⟨n + 1, 0, none⟩ = false)
    (c2 : w.cell? ⟨n, 1, none⟩ = some (.float .f64 x)) (f1 : w.frozen? ⟨n, 1, none⟩ = false) :
    Calls Tryz.prog 123 #[.pointer (some ⟨n + 1, 0, none⟩)] w fun e w' => e = .returned (.iface 57 (.pointer (some ⟨n, 0, none⟩))) ∧ Turned n (Op.negFloat .f64 x) w w' := by
  have ha := run_assert_same (P := Tryz.prog) (.pointer (some ⟨n, 0, none⟩)) 45 57 59 u57
  have hq := fun (W : World) => run_neg_float (P := Tryz.prog) x W
  have hn := numsimp_any n
  go_enter Tryz.func123, Tryz.ntmps123
  go_wp2_with fail
  refine (hn _).mono ?_
  rintro e w' ⟨rfl, rfl⟩
  go_wp2_with fail
  go_ret
  exact ⟨rfl, turned_set (k := 0) c0 (by rw [c2]; rfl)⟩

/-- The numbers while the first k terms are simplified. -/
def mz (xs : List Nat) (fs : List Bool) (k i : Nat) : Nat := if i < k then ng (xs.getD i 0) (fs.getD i false) else xs.getD i 0

/-- The middle of the first loop: k terms simplified. -/
structure MidS (us : List ByteArray) (xs : List Nat) (fs : List Bool) (N : Nat → Nat) (k n L T : Nat) (W : World) : Prop where
  hiT : T < W.heap.size
  loN : ∀ i, i < n → L < N i
  hiN : ∀ i, i < n → N i + b2n (fs.getD i false) < T
  mono : ∀ i j, i < j → j < n → N i + b2n (fs.getD i false) < N j
  row : ∀ i, i < n → W.cell? ⟨L, i * 2, none⟩ = some (leafV false (fs.getD i false) (N i))
  loc : ∀ i, i < n → W.cell? ⟨L, i * 2 + 1, none⟩ = some (.int .i32 0)
  unit : ∀ i, i < n → W.cell? ⟨N i, 0, none⟩ = some (.string (us.getD i ByteArray.empty))
  num : ∀ i, i < n → W.cell? ⟨N i, 1, none⟩ = some (.float .f64 (mz xs fs k i))
  fz : ∀ i, i < n → W.frozen? ⟨N i, 1, none⟩ = false
  inn : ∀ i, i < n → fs.getD i false = true → W.cell? ⟨N i + 1, 0, none⟩ = some (.iface 57 (.pointer (some ⟨N i, 0, none⟩))) ∧ W.frozen? ⟨N i + 1, 0, none⟩ = false

theorem MidS.keep {us : List ByteArray} {xs : List Nat} {fs : List Bool} {N : Nat → Nat} {k n L T : Nat} {W W' : World} (h : MidS us xs fs N k n L T W) (hs : W.heap.size ≤ W'.heap.size)
    (hc : ∀ b i, b < T → W'.cell? ⟨b, i, none⟩ = W.cell? ⟨b, i, none⟩) (hf : ∀ b i, b < T → W'.frozen? ⟨b, i, none⟩ = W.frozen? ⟨b, i, none⟩) : MidS us xs fs N k n L T W' where
  hiT := Nat.lt_of_lt_of_le h.hiT hs
  loN := h.loN
  hiN := h.hiN
  mono := h.mono
  row i hi := by rw [hc _ _ (by have := h.hiN i hi; have := h.loN i hi; omega)]; exact h.row i hi
  loc i hi := by rw [hc _ _ (by have := h.hiN i hi; have := h.loN i hi; omega)]; exact h.loc i hi
  unit i hi := by rw [hc _ _ (by have := h.hiN i hi; omega)]; exact h.unit i hi
  num i hi := by rw [hc _ _ (by have := h.hiN i hi; omega)]; exact h.num i hi
  fz i hi := by rw [hf _ _ (by have := h.hiN i hi; omega)]; exact h.fz i hi
  inn i hi ht := by
    have h1 := h.hiN i hi
    rw [ht] at h1
    simp only [b2n, if_pos] at h1
    rw [hc _ _ (by omega), hf _ _ (by omega)]
    exact h.inn i hi ht

theorem mz_succ {xs : List Nat} {fs : List Bool} {k i : Nat} (h : i ≠ k) : mz xs fs (k + 1) i = mz xs fs k i := by
  unfold mz
  by_cases h1 : i < k
  · rw [if_pos h1, if_pos (by omega)]
  · rw [if_neg h1, if_neg (by omega)]

/-- One term more, plain: nothing turned. -/
theorem MidS.plain {us : List ByteArray} {xs : List Nat} {fs : List Bool} {N : Nat → Nat} {k n L T : Nat} {W : World} (h : MidS us xs fs N k n L T W) (hf : fs.getD k false = false) : MidS us xs fs N (k + 1) n L T W :=
  { h with
    num := fun i hi => by
      by_cases e : i = k
      · subst e
        rw [h.num i hi]
        unfold mz
        rw [if_neg (Nat.lt_irrefl _), if_pos (Nat.lt_succ_self _), hf]
        rfl
      · rw [mz_succ e]; exact h.num i hi }

/-- One term more, negated: its number is turned. -/
theorem MidS.turn {us : List ByteArray} {xs : List Nat} {fs : List Bool} {N : Nat → Nat} {k n L T : Nat} {W W' : World} (h : MidS us xs fs N k n L T W) (hk : k < n) (hf : fs.getD k false = true)
    (ht : Turned (N k) (Op.negFloat .f64 (xs.getD k 0)) W W') : MidS us xs fs N (k + 1) n L T W' := by
  have hne : ∀ i, i < n → i ≠ k → N i ≠ N k := fun i hi hik e => by
    rcases Nat.lt_or_gt_of_ne hik with h1 | h1
    · have := h.mono i k h1 hk; omega
    · have := h.mono k i h1 hi; omega
  have hk1 := h.hiN k hk
  have hk0 := h.loN k hk
  refine ⟨by rw [ht.size]; exact h.hiT, h.loN, h.hiN, h.mono, fun i hi => ?_, fun i hi => ?_, fun i hi => ?_, fun i hi => ?_, fun i hi => ?_, fun i hi hfi => ?_⟩
  · rw [ht.cells _ _ (by omega)]; exact h.row i hi
  · rw [ht.cells _ _ (by omega)]; exact h.loc i hi
  · rw [ht.cells _ _ (by omega)]; exact h.unit i hi
  · by_cases e : i = k
    · subst e
      rw [ht.num]
      unfold mz
      rw [if_pos (Nat.lt_succ_self _), hf]
      rfl
    · rw [mz_succ e, ht.cells _ _ (by have := hne i hi e; omega)]; exact h.num i hi
  · rw [ht.fz]; exact h.fz i hi
  · have hne2 : N i + 1 ≠ N k := fun e => by
      rcases Nat.lt_trichotomy i k with h1 | h1 | h1
      · have := h.mono i k h1 hk; rw [hfi] at this; simp only [b2n, if_pos] at this; omega
      · subst h1; omega
      · have := h.mono k i h1 hi; omega
    rw [ht.cells _ _ (by omega), ht.fz]
    exact h.inn i hi hfi

theorem MidS.st {us : List ByteArray} {xs : List Nat} {fs : List Bool} {N : Nat → Nat} {k n L T : Nat} {W : World} (h : MidS us xs fs N k n L T W) : St us N (mz xs fs k) n T W where
  hiT := h.hiT
  lt i hi := by have := h.hiN i hi; omega
  inj i j hi hj hij e := by
    rcases Nat.lt_or_gt_of_ne hij with h1 | h1
    · have := h.mono i j h1 hj; omega
    · have := h.mono j i h1 hi; omega
  unit := h.unit
  num := h.num
  fz := h.fz
end Go.Proofs.YtnoghiefpdbpbaaGreatFmt
