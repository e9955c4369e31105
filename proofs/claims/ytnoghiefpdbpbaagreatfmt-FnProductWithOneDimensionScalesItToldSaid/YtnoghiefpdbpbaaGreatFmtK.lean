/-
  The plain law behind the law FnProductWithOneDimensionScalesIt: a dimension put in among plain numbers.
-/
import Derived.Test.YtnoghiefpdbpbaaGreatFmtI
namespace Go.Proofs.YtnoghiefpdbpbaaGreatFmt
open Go.RowKit Go.Deep

/-- zzBytes_FnProductWithOneDimensionScalesIt: where it says yes, the slices and the unit are short. -/
theorem zz20_any (a1 a2 : Option Addr) (n1 n2 c1 c2 : Nat) (pos : Int) (u : ByteArray) (d : Nat) (w : World) (h1 : n1 ≤ 9223372036854775807) (h2 : n2 ≤ 9223372036854775807) (h3 : u.size ≤ 9223372036854775807) :
    Calls Tryz.prog 20 #[.slice a1 n1 c1, .slice a2 n2 c2, .int .i64 pos, .string u, .float .f64 d] w (SomeBool (fun b => b = true → n1 ≤ 1048576 ∧ n2 ≤ 1048576 ∧ u.size ≤ 1048576) w) := by
  go_enter Tryz.func20, Tryz.ntmps20
  go_wp2
  all_goals
    go_ret
    exact ⟨_, fun h => by first | (cases h; done) | omega, rfl, rfl⟩

theorem idx_below (p : Nat) : ∀ k, k ≤ p → idx p k = List.range k
  | 0, _ => rfl
  | k + 1, h => by rw [idx_succ, if_neg (by omega), idx_below p k (by omega), List.range_succ]

theorem idx_len (p : Nat) : ∀ k, p < k → (idx p k).length = k - 1
  | 0, h => by omega
  | k + 1, h => by
    rw [idx_succ]
    by_cases e : k = p
    · rw [if_pos e, idx_below p k (by omega), List.length_range]; rfl
    · rw [if_neg e, List.length_append, idx_len p k (by omega)]
      simp
      omega

theorem idx_getD (p : Nat) : ∀ k, p < k → ∀ i, i < k - 1 → (idx p k).getD i 0 = if i < p then i else i + 1
  | 0, h, _, _ => by omega
  | k + 1, h, i, hi => by
    rw [idx_succ]
    by_cases e : k = p
    · rw [if_pos e, idx_below p k (by omega), if_pos (by omega), List.getD_eq_getElem?_getD, List.getElem?_range (by omega)]
      rfl
    · rw [if_neg e, List.getD_eq_getElem?_getD]
      have hl := idx_len p k (by omega)
      rcases Nat.lt_or_ge i (k - 1) with h1 | h1
      · rw [List.getElem?_append_left (by omega), ← List.getD_eq_getElem?_getD]
        exact idx_getD p k (by omega) i h1
      · obtain rfl : k = i + 1 := by omega
        rw [List.getElem?_append_right (by omega), if_neg (by omega), hl, show i - (i + 1 - 1) = 0 by omega]
        rfl

/-- The units, the numbers and the marks with the dimension put in at place p. -/
def insU (u : ByteArray) (p i : Nat) : ByteArray := if i = p then u else ⟨#[]⟩
def insX (xs : List Nat) (d p i : Nat) : Nat := if i = p then d else if i < p then xs.getD i 0 else xs.getD (i - 1) 0
def insB (fs : List Bool) (p i : Nat) : Bool := if i = p then false else if i < p then fs.getD i false else fs.getD (i - 1) false

theorem getD_map_range {α : Type} (n i : Nat) (g : Nat → α) (d : α) (h : i < n) : ((List.range n).map g).getD i d = g i := by
  rw [List.getD_eq_getElem?_getD, List.getElem?_map, List.getElem?_range h]; rfl

theorem slc_row {α : Type} (f : α → Value) (d : α) {W : World} {B n : Nat} {t : TypeId} {g : Nat → α} (h : W.rowIs B t n (fun i => f (g i))) : Slc f d W (some ⟨B, 0, none⟩) ((List.range n).map g) := fun i hi => by
  have hi' : i < n := by simpa using hi
  exact ⟨B, 0, rfl, by rw [Nat.zero_add, h.cell hi', getD_map_range n i g d hi']⟩

/-- What the simplified product is: the dimension scaled. -/
def Scaled (u : ByteArray) (xs : List Nat) (fs : List Bool) (d n : Nat) (w : World) (e : Ending) (w' : World) : Prop :=
  Below w.heap.size w w' ∧ ∃ b1 b2 v, e = .returned (.tuple #[.int .i64 1, .slice (some ⟨b1, 0, none⟩) 1 1, .slice (some ⟨b2, 0, none⟩) 1 1]) ∧ w'.cell? ⟨b1, 0, none⟩ = some (.string u) ∧ w'.cell? ⟨b2, 0, none⟩ = some (.float .f64 v) ∧
    (n = 0 → v = d) ∧ (0 < n → ∃ P W0, v = fR .mul d P W0 ∧ ∀ y, Facts xs fs n y → Sim P y)

theorem simp_ins (u : ByteArray) (hu0 : u ≠ ⟨#[]⟩) (xs : List Nat) (fs : List Bool) (d p n : Nat) (hn : n ≤ 1048576) (hp : p ≤ n) (W : World) (U F B : Nat)
    (hU : W.rowIs U 9 (n + 1) (fun i => .string (insU u p i))) (hF : W.rowIs F 33 (n + 1) (fun i => fl (insX xs d p i))) (hB : W.rowIs B 4 (n + 1) (fun i => .bool (insB fs p i))) :
    Calls Tryz.prog 17 #[.slice (some ⟨U, 0, none⟩) (n + 1) (n + 1), .slice (some ⟨F, 0, none⟩) (n + 1) (n + 1), .slice (some ⟨B, 0, none⟩) (n + 1) (n + 1)] W (Scaled u xs fs d n W) := by
  have ku : ∀ i, i < n + 1 → ((List.range (n + 1)).map (insU u p)).getD i ByteArray.empty = insU u p i := fun i h => getD_map_range _ _ _ _ h
  have kx : ∀ i, i < n + 1 → ((List.range (n + 1)).map (insX xs d p)).getD i 0 = insX xs d p i := fun i h => getD_map_range _ _ _ _ h
  have kb : ∀ i, i < n + 1 → ((List.range (n + 1)).map (insB fs p)).getD i false = insB fs p i := fun i h => getD_map_range _ _ _ _ h
  have hs := simp_any (some ⟨U, 0, none⟩) (some ⟨F, 0, none⟩) (some ⟨B, 0, none⟩) (n + 1) (n + 1) (n + 1) ((List.range (n + 1)).map (insU u p)) ((List.range (n + 1)).map (insX xs d p)) ((List.range (n + 1)).map (insB fs p)) (n + 1) (n + 1) p W
    (slc_row Value.string ByteArray.empty hU) (slc_row fl 0 hF) (slc_row Value.bool false hB) (by simp; omega) (by simp) (by simp) (by simp) (by simp)
    (fun i hi => by
      have hi' : i < n + 1 := by simpa using hi
      rw [ku i hi']
      unfold insU
      by_cases e : i = p
      · rw [if_pos e]; exact ⟨fun h => absurd h hu0, fun h => absurd e h⟩
      · rw [if_neg e]; exact ⟨fun _ => e, fun _ => rfl⟩)
    (fun i hi ht => by
      have hi' : i < n + 1 := by simpa using hi
      rw [kb i hi'] at ht
      rw [ku i hi']
      unfold insU
      unfold insB at ht
      by_cases e : i = p
      · rw [if_pos e] at ht; cases ht
      · rw [if_neg e])
  have hlen : ((List.range (n + 1)).map (insX xs d p)).length = n + 1 := by simp
  rw [hlen] at hs
  refine hs.mono ?_
  rintro e w' ⟨hb, _, h1⟩
  obtain ⟨zs, b1, b2, v, u', hz, rfl, c0, c1, _, h2⟩ := h1 (by omega)
  obtain ⟨rfl, k1, k2⟩ := h2 (by omega)
  have hzp : zs p = d := by
    obtain ⟨W0, e⟩ := hz p (by omega)
    rw [e, kx p (by omega), kb p (by omega)]
    unfold insX insB fac
    rw [if_pos rfl, if_pos rfl]
    rfl
  refine ⟨hb, b1, b2, v, rfl, ?_, c1, fun h0 => ?_, fun h0 => ?_⟩
  · rw [c0, ku p (by omega)]
    unfold insU
    rw [if_pos rfl]
  · rw [k1 (by omega), hzp]
  · obtain ⟨P, W0, hP, e⟩ := k2 (by omega)
    refine ⟨P, W0, by rw [e, hzp], fun y hy => facts_sim hy hP (by rw [List.length_map, idx_len p (n + 1) (by omega)]; rfl) fun i hi => ?_⟩
    have hj := idx_getD p (n + 1) (by omega) i (by omega)
    have hl := idx_len p (n + 1) (by omega)
    obtain ⟨W1, e1⟩ := hz (if i < p then i else i + 1) (by split <;> omega)
    refine ⟨W1, ?_⟩
    have e2 : ((idx p (n + 1)).map zs).getD i 0 = zs ((idx p (n + 1)).getD i 0) := by
      rw [List.getD_eq_getElem?_getD, List.getD_eq_getElem?_getD, List.getElem?_map, List.getElem?_eq_getElem (by omega)]; rfl
    rw [e2, hj, e1, kx _ (by split <;> omega), kb _ (by split <;> omega)]
    unfold insX insB
    by_cases h3 : i < p
    · rw [if_pos h3, if_neg (by omega), if_pos h3, if_neg (by omega), if_pos h3]
    · rw [if_neg h3, if_neg (by omega), if_neg (by omega), if_neg (by omega), if_neg (by omega), Nat.add_sub_cancel]
end Go.Proofs.YtnoghiefpdbpbaaGreatFmt
