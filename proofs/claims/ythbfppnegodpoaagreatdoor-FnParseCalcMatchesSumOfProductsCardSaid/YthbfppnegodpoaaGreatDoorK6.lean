/-
  The conversion of any calc tree into plain data, walked.
-/
import Derived.Test.YthbfppnegodpoaaGreatDoorK3
namespace Go.Proofs.YthbfppnegodpoaaGreatDoor
open Go.RowKit Go.Deep Go.PlainAid

theorem mv_cells (m : MV) (a : Option Addr) (n c : Nat) (h : m.kids = .slice a n c) : m.val = .agg #[.int .i64 m.tag, .string m.unit, .float .f64 m.num, .int .u8 m.kind, .string m.text, .int .u8 m.ws, .bool m.inv, .slice a n c] := by
  unfold MV.val
  rw [h]

theorem Mir.kids {W : World} {D : Nat → Prop} {m : MV} {t : CT} (h : Mir W D m t) : ∃ a n c, m.kids = .slice a n c := by
  cases h <;> exact ⟨_, _, _, rfl⟩

/-- The eight stores of a node. -/
def put8 (w : World) (T o : Nat) (m : MV) : World :=
  (((((((w.setCell ⟨T, o, none⟩ (.int .i64 m.tag)).setCell ⟨T, o + 1, none⟩ (.string m.unit)).setCell ⟨T, o + 2, none⟩ (.float .f64 m.num)).setCell ⟨T, o + 3, none⟩ (.int .u8 m.kind)).setCell ⟨T, o + 4, none⟩ (.string m.text)).setCell ⟨T, o + 5, none⟩ (.int .u8 m.ws)).setCell ⟨T, o + 6, none⟩ (.bool m.inv)).setCell ⟨T, o + 7, none⟩ m.kids
theorem put8_keeps (w : World) (T o : Nat) (m : MV) (D : Nat → Prop) (h : ¬ D T) : Keeps D w (put8 w T o m) :=
  (((((((Keeps.setCell D w T o _ h).trans (Keeps.setCell D _ T (o + 1) _ h)).trans (Keeps.setCell D _ T (o + 2) _ h)).trans (Keeps.setCell D _ T (o + 3) _ h)).trans (Keeps.setCell D _ T (o + 4) _ h)).trans (Keeps.setCell D _ T (o + 5) _ h)).trans (Keeps.setCell D _ T (o + 6) _ h)).trans (Keeps.setCell D _ T (o + 7) _ h)
theorem put8_below {B : Nat} {a w : World} (h : Below B a w) (T o : Nat) (m : MV) (hB : B ≤ T) : Below B a (put8 w T o m) :=
  (((((((h.setCell hB _).setCell hB _).setCell hB _).setCell hB _).setCell hB _).setCell hB _).setCell hB _).setCell hB _
theorem put8_other (w : World) (T o : Nat) (m : MV) (b : Nat) (h : b ≠ T) : (put8 w T o m).heap[b]? = w.heap[b]? := by
  unfold put8
  rw [Below.heap_setCell _ _ _ _ h, Below.heap_setCell _ _ _ _ h, Below.heap_setCell _ _ _ _ h, Below.heap_setCell _ _ _ _ h, Below.heap_setCell _ _ _ _ h, Below.heap_setCell _ _ _ _ h, Below.heap_setCell _ _ _ _ h, Below.heap_setCell _ _ _ _ h]

/-- The first i of n nodes are made. -/
def Kids (w : World) (T n : Nat) (ts : Nat → CT) (i : Nat) : Prop :=
  ∃ (f : Nat → Value) (ms : Nat → MV), w.rowIs T 48 (n * 8) f ∧ ∀ j, j < i → f (j * 8) = .int .i64 (ms j).tag ∧ f (j * 8 + 1) = .string (ms j).unit ∧ f (j * 8 + 2) = .float .f64 (ms j).num ∧ f (j * 8 + 3) = .int .u8 (ms j).kind ∧
    f (j * 8 + 4) = .string (ms j).text ∧ f (j * 8 + 5) = .int .u8 (ms j).ws ∧ f (j * 8 + 6) = .bool (ms j).inv ∧ f (j * 8 + 7) = (ms j).kids ∧ Mir w (T < ·) (ms j) (ts j)
theorem Kids.isCell {w : World} {T n : Nat} {ts : Nat → CT} {i : Nat} (h : Kids w T n ts i) (j : Nat) (hj : j < n * 8) : ∃ x, w.cell? ⟨T, j, none⟩ = some x := by
  obtain ⟨f, ms, h1, _⟩ := h
  exact ⟨_, h1.cell hj⟩
theorem Kids.fz {w : World} {T n : Nat} {ts : Nat → CT} {i : Nat} (h : Kids w T n ts i) (j : Nat) : w.frozen? ⟨T, j, none⟩ = false := by
  obtain ⟨f, ms, h1, _⟩ := h
  exact h1.frozen j
theorem Kids.lt {w : World} {T n : Nat} {ts : Nat → CT} {i : Nat} (h : Kids w T n ts i) : T < w.heap.size := by
  obtain ⟨f, ms, h1, _⟩ := h
  exact h1.lt
theorem Kids.below {w w' : World} {T n : Nat} {ts : Nat → CT} {i : Nat} (h : Kids w T n ts i) (hb : Below w.heap.size w w') : Kids w' T n ts i := by
  obtain ⟨f, ms, h1, h2⟩ := h
  refine ⟨f, ms, h1.of_block (hb.block T h1.lt), fun j hj => ?_⟩
  obtain ⟨a0, a1, a2, a3, a4, a5, a6, a7, a8⟩ := h2 j hj
  exact ⟨a0, a1, a2, a3, a4, a5, a6, a7, a8.keep (Keeps.below hb)⟩
theorem Kids.at {w : World} {T n : Nat} {ts : Nat → CT} {i : Nat} (h : Kids w T n ts i) (hi : i ≤ n) : ∃ ms : Nat → MV, ∀ j, j < i → MVAt w T (j * 8) (ms j) ∧ Mir w (T < ·) (ms j) (ts j) := by
  obtain ⟨f, ms, h1, h2⟩ := h
  refine ⟨ms, fun j hj => ?_⟩
  obtain ⟨a0, a1, a2, a3, a4, a5, a6, a7, a8⟩ := h2 j hj
  exact ⟨⟨by rw [h1.cell (by omega), a0], by rw [h1.cell (by omega), a1], by rw [h1.cell (by omega), a2], by rw [h1.cell (by omega), a3], by rw [h1.cell (by omega), a4], by rw [h1.cell (by omega), a5], by rw [h1.cell (by omega), a6], by rw [h1.cell (by omega), a7]⟩, a8⟩

theorem Kids.step {w w2 : World} {T n : Nat} {ts : Nat → CT} {i : Nat} (h : Kids w T n ts i) (hb : Below w.heap.size w w2) {m : MV} (hm : Mir w2 (w.heap.size ≤ ·) m (ts i)) : Kids (put8 w2 T (i * 8) m) T n ts (i + 1) := by
  have hTl := h.lt
  obtain ⟨f, ms, h1, h2⟩ := h.below hb
  have hk := put8_keeps w2 T (i * 8) m (T < ·) (Nat.lt_irrefl _)
  refine ⟨_, fun j => if j = i then m else ms j, (((((((h1.set (i * 8) _).set (i * 8 + 1) _).set (i * 8 + 2) _).set (i * 8 + 3) _).set (i * 8 + 4) _).set (i * 8 + 5) _).set (i * 8 + 6) _).set (i * 8 + 7) _, fun j hj => ?_⟩
  by_cases e : j = i
  · subst e
    dsimp only
    have em : (if j = j then m else ms j) = m := if_pos rfl
    rw [em]
    refine ⟨by simp, by simp, by simp, by simp, by simp, by simp, by simp, by simp, (hm.weaken (fun b _ hb => by omega)).keep hk⟩
  · dsimp only
    rw [if_neg e]
    obtain ⟨a0, a1, a2, a3, a4, a5, a6, a7, a8⟩ := h2 j (by omega)
    have hne : ∀ k q, k < 8 → q < 8 → j * 8 + k ≠ i * 8 + q := fun k q hk hq => by omega
    refine ⟨?_, ?_, ?_, ?_, ?_, ?_, ?_, ?_, a8.keep hk⟩
    · rw [if_neg (by omega), if_neg (by omega), if_neg (by omega), if_neg (by omega), if_neg (by omega), if_neg (by omega), if_neg (by omega), if_neg (by omega)]; exact a0
    · rw [if_neg (by omega), if_neg (by omega), if_neg (by omega), if_neg (by omega), if_neg (by omega), if_neg (by omega), if_neg (by omega), if_neg (by omega)]; exact a1
    · rw [if_neg (by omega), if_neg (by omega), if_neg (by omega), if_neg (by omega), if_neg (by omega), if_neg (by omega), if_neg (by omega), if_neg (by omega)]; exact a2
    · rw [if_neg (by omega), if_neg (by omega), if_neg (by omega), if_neg (by omega), if_neg (by omega), if_neg (by omega), if_neg (by omega), if_neg (by omega)]; exact a3
    · rw [if_neg (by omega), if_neg (by omega), if_neg (by omega), if_neg (by omega), if_neg (by omega), if_neg (by omega), if_neg (by omega), if_neg (by omega)]; exact a4
    · rw [if_neg (by omega), if_neg (by omega), if_neg (by omega), if_neg (by omega), if_neg (by omega), if_neg (by omega), if_neg (by omega), if_neg (by omega)]; exact a5
    · rw [if_neg (by omega), if_neg (by omega), if_neg (by omega), if_neg (by omega), if_neg (by omega), if_neg (by omega), if_neg (by omega), if_neg (by omega)]; exact a6
    · rw [if_neg (by omega), if_neg (by omega), if_neg (by omega), if_neg (by omega), if_neg (by omega), if_neg (by omega), if_neg (by omega), if_neg (by omega)]; exact a7

def zero48 : Array Value := #[.int .i64 0, .string ⟨#[]⟩, .float .f64 0, .int .u8 0, .string ⟨#[]⟩, .int .u8 0, .bool false, .slice none 0 0]
theorem make_kids (n : Nat) (hn : n ≤ 16384) (W : World) : (Instr.makeSlice 46 (.int .i64 (n : Int)) (.int .i64 (n : Int))).run Tryz.prog W = .ok (.slice (some ⟨W.heap.size, 0, none⟩) n n) (W.alloc (.cells (madeCells zero48 (n * 8)) 48)) := by
  have hi : (Tryz.prog.info? 48).map (fun i => (i.zero, i.size, i.bytes)) = some (some (.agg zero48), 8, 88) := by kernel_rfl
  exact make_row (P := Tryz.prog) 46 48 _ 8 88 Tryz.underlying46 hi .i64 .i64 n (by omega) (by omega) W
theorem kids_made (W : World) (n : Nat) (ts : Nat → CT) : Kids (W.alloc (.cells (madeCells zero48 (n * 8)) 48)) W.heap.size n ts 0 := by
  refine ⟨fun i => (madeCells zero48 (n * 8)).getD i .nilIface, fun _ => mvNil, ?_, fun j hj => absurd hj (Nat.not_lt_zero _)⟩
  have h := World.rowIs_alloc W (madeCells zero48 (n * 8)) 48 (fun i => (madeCells zero48 (n * 8)).getD i .nilIface) (fun i hi => by simp [Array.getD, hi])
  rw [size_madeCells] at h
  exact h

set_option maxHeartbeats 4000000 in
set_option maxRecDepth 100000 in
/-- zzCalcTreeList. -/
theorem list_any (w : World) (r n : Nat) (vs : Nat → Value) (ts : Nat → CT) (hn : n ≤ 8192) (hc : ∀ i, i < n → w.cell? ⟨r, i * 2, none⟩ = some (vs i)) (h33 : ∀ i, i < n → ∀ W, Below w.heap.size w W → Calls Tryz.prog 33 #[vs i] W (Conv (ts i) W)) :
    Calls Tryz.prog 47 #[.slice (some ⟨r, 0, none⟩) n n] w fun e w' => ∃ q, e = .returned (.slice (some ⟨q, 0, none⟩) n n) ∧ w.heap.size ≤ q ∧ Below w.heap.size w w' ∧ Kids w' q n ts n := by
  have hmk := make_kids n (by omega)
  have HC := Lib.hid hc
  have H33 := Lib.hid h33
  clear hc h33
  go_enter Tryz.func47, Tryz.ntmps47
  go_wp2_with fail
  go_loopw [4] (fun i wr => ∃ j : Nat, j ≤ n ∧ i = .int .i64 j ∧ Hid (Kids wr w.heap.size n ts j) ∧ Hid (Below w.heap.size w wr)) (fun i _ => n - (intOf i).toNat)
  case atStart => exact ⟨0, Nat.zero_le _, rfl, kids_made w n ts, (Below.refl _ _).alloc (Nat.le_refl _) _⟩
  case round =>
    obtain ⟨j, hj, rfl, hk, hb⟩ := hrel
    by_cases hlt : j < n
    · have hji : (j : Int) < (n : Int) := by omega
      have c0 := cell_later hb.out (HC.out j hlt)
      have H := Lib.hid (H33.out j hlt wr hb.out)
      have hTl := hk.out.lt
      go_wp2_with fail
      refine H.out.mono ?_
      rintro e w2 ⟨m, rfl, hb2, hm⟩
      have HK := Lib.hid (hk.out.step hb2 hm)
      have HB2 := Lib.hid (put8_below (hb.out.trans (hb2.mono hb.out.size)) w.heap.size (j * 8) m (Nat.le_refl _))
      have hk2 := hk.out.below hb2
      obtain ⟨ka, kn, kc, ek⟩ := hm.kids
      have hmv := mv_cells m ka kn kc ek
      obtain ⟨y0, p0⟩ := hk2.isCell (j * 8) (by omega)
      obtain ⟨y1, p1⟩ := hk2.isCell (j * 8 + 1) (by omega)
      obtain ⟨y2, p2⟩ := hk2.isCell (j * 8 + 2) (by omega)
      obtain ⟨y3, p3⟩ := hk2.isCell (j * 8 + 3) (by omega)
      obtain ⟨y4, p4⟩ := hk2.isCell (j * 8 + 4) (by omega)
      obtain ⟨y5, p5⟩ := hk2.isCell (j * 8 + 5) (by omega)
      obtain ⟨y6, p6⟩ := hk2.isCell (j * 8 + 6) (by omega)
      obtain ⟨y7, p7⟩ := hk2.isCell (j * 8 + 7) (by omega)
      have f0 := hk2.fz (j * 8)
      have f1 := hk2.fz (j * 8 + 1)
      have f2 := hk2.fz (j * 8 + 2)
      have f3 := hk2.fz (j * 8 + 3)
      have f4 := hk2.fz (j * 8 + 4)
      have f5 := hk2.fz (j * 8 + 5)
      have f6 := hk2.fz (j * 8 + 6)
      have f7 := hk2.fz (j * 8 + 7)
      have HEK := Lib.hid ek
      clear hb2 hm hk2 ek
      go_wp2_with fail
      refine ⟨⟨j + 1, by omega, by go_num, ?_, ?_⟩, ?_⟩
      · have h := HK.out
        unfold put8 at h
        rw [HEK.out] at h
        exact h
      · have h := HB2.out
        unfold put8 at h
        rw [HEK.out] at h
        exact h
      · simp [intOf]; omega
    · obtain rfl : j = n := by omega
      go_wp2_with fail
      go_ret
      exact ⟨w.heap.size, rfl, Nat.le_refl _, hb.out, hk.out⟩
end Go.Proofs.YthbfppnegodpoaaGreatDoor
