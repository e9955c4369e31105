/-
  The row of tokens that a law makes out of its codes.
-/
import Derived.Test.YthbfppnegodpoaaGreatDoorK2
namespace Go.Proofs.YthbfppnegodpoaaGreatDoor
open Go.RowKit Go.Deep Go.PlainAid

/-- Numbers of a slice that came in. -/
def Ints16 (W : World) (a : Option Addr) (zs : List Int) : Prop := ∀ i, i < zs.length → ∃ b off, a = some ⟨b, off, none⟩ ∧ W.cell? ⟨b, off + i, none⟩ = some (.int .u16 (zs.getD i 0)) ∧ 0 ≤ zs.getD i 0 ∧ zs.getD i 0 ≤ 65535
theorem Ints16.below {W W' : World} {a : Option Addr} {zs : List Int} (h : Ints16 W a zs) (hb : Below W.heap.size W W') : Ints16 W' a zs := fun i hi => by
  obtain ⟨b, off, h1, h2, h3⟩ := h i hi
  exact ⟨b, off, h1, cell_later hb h2, h3⟩

/-- The first i of n tokens are made. -/
def Filled (w : World) (T n : Nat) (zs : List Int) (i : Nat) : Prop :=
  ∃ (f : Nat → Value) (chs : Nat → Option Addr), w.rowIs T 32 (n * 7) f ∧ ∀ j, j < i → (∀ k, k < 7 → f (j * 7 + k) = (anyTok (zs.getD j 0) (chs j)).vals.getD k .nilIface) ∧
    (kOf (zs.getD j 0) = 8 ∨ kOf (zs.getD j 0) = 9 ∨ kOf (zs.getD j 0) = 10 → InnerAt w (T + 1) (chs j) (zs.getD j 0 / 64))

theorem Filled.isCell {w : World} {T n : Nat} {zs : List Int} {i : Nat} (h : Filled w T n zs i) (j : Nat) (hj : j < n * 7) : ∃ x, w.cell? ⟨T, j, none⟩ = some x := by
  obtain ⟨f, chs, h1, _⟩ := h
  exact ⟨_, h1.cell hj⟩
theorem Filled.fz {w : World} {T n : Nat} {zs : List Int} {i : Nat} (h : Filled w T n zs i) (j : Nat) : w.frozen? ⟨T, j, none⟩ = false := by
  obtain ⟨f, chs, h1, _⟩ := h
  exact h1.frozen j
theorem Filled.lt {w : World} {T n : Nat} {zs : List Int} {i : Nat} (h : Filled w T n zs i) : T < w.heap.size := by
  obtain ⟨f, chs, h1, _⟩ := h
  exact h1.lt
theorem Filled.below {w w' : World} {T n : Nat} {zs : List Int} {i : Nat} (h : Filled w T n zs i) (hb : Below w.heap.size w w') : Filled w' T n zs i := by
  obtain ⟨f, chs, h1, h2⟩ := h
  exact ⟨f, chs, h1.of_block (hb.block T h1.lt), fun j hj => ⟨(h2 j hj).1, fun hk => ((h2 j hj).2 hk).keep (Keeps.below hb)⟩⟩

/-- The whole row, token by token. -/
theorem Filled.toks {w : World} {T n : Nat} {zs : List Int} (h : Filled w T n zs n) : ∃ chs : Nat → Option Addr, Toks w T n (fun j => anyTok (zs.getD j 0) (chs j)) ∧ ∀ j, j < n → kOf (zs.getD j 0) = 8 ∨ kOf (zs.getD j 0) = 9 ∨ kOf (zs.getD j 0) = 10 → InnerAt w (T + 1) (chs j) (zs.getD j 0 / 64) := by
  obtain ⟨f, chs, h1, h2⟩ := h
  refine ⟨chs, fun j hj => ?_, fun j hj => (h2 j hj).2⟩
  have h3 := (h2 j hj).1
  have hc : ∀ k, k < 7 → w.cell? ⟨T, j * 7 + k, none⟩ = some ((anyTok (zs.getD j 0) (chs j)).vals.getD k .nilIface) := fun k hk => by rw [h1.cell (by omega), h3 k hk]
  exact ⟨hc 0 (by omega), hc 1 (by omega), hc 2 (by omega), hc 3 (by omega), hc 4 (by omega), hc 5 (by omega), hc 6 (by omega)⟩

/-- The seven stores of a token. -/
def put7 (w : World) (T o : Nat) (t : TK) : World :=
  ((((((w.setCell ⟨T, o, none⟩ (.pointer t.ch)).setCell ⟨T, o + 1, none⟩ (.string t.s)).setCell ⟨T, o + 2, none⟩ (.int .i32 0)).setCell ⟨T, o + 3, none⟩ (.int .u32 0)).setCell ⟨T, o + 4, none⟩ (.int .u16 0)).setCell ⟨T, o + 5, none⟩ (.int .u8 t.kd)).setCell ⟨T, o + 6, none⟩ (.int .u8 t.ws)

theorem put7_size (w : World) (T o : Nat) (t : TK) : (put7 w T o t).heap.size = w.heap.size := by
  unfold put7
  simp only [World.size_setCell]
theorem put7_keeps (w : World) (T o : Nat) (t : TK) (D : Nat → Prop) (h : ¬ D T) : Keeps D w (put7 w T o t) :=
  ((((((Keeps.setCell D w T o _ h).trans (Keeps.setCell D _ T (o + 1) _ h)).trans (Keeps.setCell D _ T (o + 2) _ h)).trans (Keeps.setCell D _ T (o + 3) _ h)).trans (Keeps.setCell D _ T (o + 4) _ h)).trans (Keeps.setCell D _ T (o + 5) _ h)).trans (Keeps.setCell D _ T (o + 6) _ h)
theorem put7_below {B : Nat} {a w : World} (h : Below B a w) (T o : Nat) (t : TK) (hB : B ≤ T) : Below B a (put7 w T o t) :=
  ((((((h.setCell hB _).setCell hB _).setCell hB _).setCell hB _).setCell hB _).setCell hB _).setCell hB _

theorem Filled.step {w w2 : World} {T n : Nat} {zs : List Int} {i : Nat} (h : Filled w T n zs i) (hi : i < n) (hb : Below w.heap.size w w2) (ch : Option Addr)
    (hin : kOf (zs.getD i 0) = 8 ∨ kOf (zs.getD i 0) = 9 ∨ kOf (zs.getD i 0) = 10 → InnerAt w2 w.heap.size ch (zs.getD i 0 / 64)) : Filled (put7 w2 T (i * 7) (anyTok (zs.getD i 0) ch)) T n zs (i + 1) := by
  have hTl := h.lt
  obtain ⟨f, chs, h1, h2⟩ := h.below hb
  have hk := put7_keeps w2 T (i * 7) (anyTok (zs.getD i 0) ch) (T + 1 ≤ ·) (by omega)
  refine ⟨_, fun j => if j = i then ch else chs j, ((((((h1.set (i * 7) _).set (i * 7 + 1) _).set (i * 7 + 2) _).set (i * 7 + 3) _).set (i * 7 + 4) _).set (i * 7 + 5) _).set (i * 7 + 6) _, fun j hj => ?_⟩
  by_cases e : j = i
  · subst e
    dsimp only
    rw [if_pos rfl]
    refine ⟨fun k hk7 => ?_, fun hq => ((hin hq).mono (by omega)).keep hk⟩
    match k, hk7 with
    | 0, _ => simp [TK.vals]
    | 1, _ => simp [TK.vals]
    | 2, _ => simp [TK.vals]
    | 3, _ => simp [TK.vals]
    | 4, _ => simp [TK.vals]
    | 5, _ => simp [TK.vals]
    | 6, _ => simp [TK.vals]
  · dsimp only
    rw [if_neg e]
    refine ⟨fun k hk7 => ?_, fun hq => ((h2 j (by omega)).2 hq).keep hk⟩
    rw [← (h2 j (by omega)).1 k hk7]
    rw [if_neg (by omega), if_neg (by omega), if_neg (by omega), if_neg (by omega), if_neg (by omega), if_neg (by omega), if_neg (by omega)]

theorem make_toks (n : Nat) (hn : n ≤ 8192) (W : World) : (Instr.makeSlice 33 (.int .i64 (n : Int)) (.int .i64 (n : Int))).run Tryz.prog W = .ok (.slice (some ⟨W.heap.size, 0, none⟩) n n) (W.alloc (.cells (madeCells #[.pointer none, .string ⟨#[]⟩, .int .i32 0, .int .u32 0, .int .u16 0, .int .u8 0, .int .u8 0] (n * 7)) 32)) := by
  have hi : (Tryz.prog.info? 32).map (fun i => (i.zero, i.size, i.bytes)) = some (some (.agg #[.pointer none, .string ⟨#[]⟩, .int .i32 0, .int .u32 0, .int .u16 0, .int .u8 0, .int .u8 0]), 7, 40) := by kernel_rfl
  exact make_row (P := Tryz.prog) 33 32 _ 7 40 Tryz.underlying33 hi .i64 .i64 n (by omega) (by omega) W

theorem filled_made (W : World) (n : Nat) (zs : List Int) : Filled (W.alloc (.cells (madeCells #[.pointer none, .string ⟨#[]⟩, .int .i32 0, .int .u32 0, .int .u16 0, .int .u8 0, .int .u8 0] (n * 7)) 32)) W.heap.size n zs 0 := by
  refine ⟨fun i => (madeCells #[Value.pointer none, .string ⟨#[]⟩, .int .i32 0, .int .u32 0, .int .u16 0, .int .u8 0, .int .u8 0] (n * 7)).getD i .nilIface, fun _ => none, ?_, fun j hj => absurd hj (Nat.not_lt_zero _)⟩
  have h := World.rowIs_alloc W (madeCells #[Value.pointer none, .string ⟨#[]⟩, .int .i32 0, .int .u32 0, .int .u16 0, .int .u8 0, .int .u8 0] (n * 7)) 32 (fun i => (madeCells #[Value.pointer none, .string ⟨#[]⟩, .int .i32 0, .int .u32 0, .int .u16 0, .int .u8 0, .int .u8 0] (n * 7)).getD i .nilIface) (fun i hi => by
    simp [Array.getD, hi])
  rw [size_madeCells] at h
  exact h
end Go.Proofs.YthbfppnegodpoaaGreatDoor
