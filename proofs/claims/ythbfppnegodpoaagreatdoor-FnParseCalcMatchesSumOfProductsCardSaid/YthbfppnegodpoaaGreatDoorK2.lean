/-
  ZZParseCalcTree, walked: the parse, mirrored.
-/
import Derived.Test.YthbfppnegodpoaaGreatDoorK1
namespace Go.Proofs.YthbfppnegodpoaaGreatDoor
open Go.RowKit Go.Deep Go.PlainAid

/-- Nil, or a value that leads to a tree. -/
def RepO (W : World) (D : Nat → Prop) (v : Value) : Option CT → Prop
  | none => v = .nilIface
  | some t => Rep W D v t
/-- The node of nil, or one that mirrors a tree. -/
def MirO (W : World) (D : Nat → Prop) (m : MV) : Option CT → Prop
  | none => m = mvNil
  | some t => Mir W D m t

/-- What ZZParseCalcTree answers. -/
def Tree (w : World) (o : Option CT) (e : Ending) (w' : World) : Prop := ∃ m : MV, e = .returned m.val ∧ Below w.heap.size w w' ∧ MirO w' (w.heap.size ≤ ·) m o

set_option maxHeartbeats 4000000 in
set_option maxRecDepth 100000 in
theorem pct_any (w : World) (s : Value) (o : Option CT) (h30 : ∀ W, Below w.heap.size w W → Calls Tryz.prog 30 #[s] W (Ans W o))
    (h33 : ∀ v W, RepO W (w.heap.size < ·) v o → Calls Tryz.prog 33 #[v] W (Tree W o)) : Calls Tryz.prog 17 #[s] w (Tree w o) := by
  have H := Lib.hid h30
  have H2 := Lib.hid h33
  clear h30 h33
  go_enter Tryz.func17, Tryz.ntmps17
  go_wp2_with fail
  obtain ⟨W1, eW⟩ : ∃ W1, W1 = w.alloc (.cells #[.int .i64 0, .string ⟨#[]⟩, .float .f64 0, .int .u8 0, .string ⟨#[]⟩, .int .u8 0, .bool false, .slice none 0 0] 48) := ⟨_, rfl⟩
  have hb1 : Below w.heap.size w W1 := by rw [eW]; exact (Below.refl _ _).alloc (Nat.le_refl _) _
  have hz1 : W1.heap.size = w.heap.size + 1 := by rw [eW, World.size_alloc]
  have q0 : W1.cell? ⟨w.heap.size, 0, none⟩ = some (.int .i64 0) := by rw [eW]; simp [go_sem]
  have q1 : W1.cell? ⟨w.heap.size, 1, none⟩ = some (.string ⟨#[]⟩) := by rw [eW]; simp [go_sem]
  have q2 : W1.cell? ⟨w.heap.size, 2, none⟩ = some (.float .f64 0) := by rw [eW]; simp [go_sem]
  have q3 : W1.cell? ⟨w.heap.size, 3, none⟩ = some (.int .u8 0) := by rw [eW]; simp [go_sem]
  have q4 : W1.cell? ⟨w.heap.size, 4, none⟩ = some (.string ⟨#[]⟩) := by rw [eW]; simp [go_sem]
  have q5 : W1.cell? ⟨w.heap.size, 5, none⟩ = some (.int .u8 0) := by rw [eW]; simp [go_sem]
  have q6 : W1.cell? ⟨w.heap.size, 6, none⟩ = some (.bool false) := by rw [eW]; simp [go_sem]
  have q7 : W1.cell? ⟨w.heap.size, 7, none⟩ = some (.slice none 0 0) := by rw [eW]; simp [go_sem]
  have qf : ∀ i, W1.frozen? ⟨w.heap.size, i, none⟩ = false := fun i => by rw [eW]; simp [go_sem]
  rw [← eW]
  clear eW
  refine (H.out W1 hb1).mono ?_
  rintro e W2 ⟨v, rfl, hb2, hv⟩
  have hv' : RepO W2 (w.heap.size < ·) v o := by
    cases o with
    | none => exact hv
    | some t => exact Rep.weaken hv (fun b _ h => by rw [hz1] at h; omega)
  have HV := Lib.hid hv'
  clear hv hv'
  go_wp2_with fail
  refine (H2.out v W2 HV.out).mono ?_
  rintro e W3 ⟨m, rfl, hb3, hm⟩
  have hb13 : Below W1.heap.size W1 W3 := hb2.trans (hb3.mono hb2.size)
  have HB := Lib.hid (hb1.trans (hb13.mono hb1.size))
  have r0 := cell_later hb13 q0
  have r1 := cell_later hb13 q1
  have r2 := cell_later hb13 q2
  have r3 := cell_later hb13 q3
  have r4 := cell_later hb13 q4
  have r5 := cell_later hb13 q5
  have r6 := cell_later hb13 q6
  have r7 := cell_later hb13 q7
  have rf : ∀ i, W3.frozen? ⟨w.heap.size, i, none⟩ = false := fun i => (hb13.frozen (p := ⟨w.heap.size, i, none⟩) (by show w.heap.size < W1.heap.size; omega)).trans (qf i)
  have rf0 := rf 0
  have rf1 := rf 1
  have rf2 := rf 2
  have rf3 := rf 3
  have rf4 := rf 4
  have rf5 := rf 5
  have rf6 := rf 6
  have rf7 := rf 7
  have hk : m.kids.oneCell' = true := by
    cases o with
    | none => rw [show m = mvNil from hm]; rfl
    | some t => have hm : Mir W3 (W2.heap.size ≤ ·) m t := hm; cases hm <;> rfl
  have hkf : ∃ a n c, m.kids = .slice a n c := by
    cases o with
    | none => rw [show m = mvNil from hm]; exact ⟨_, _, _, rfl⟩
    | some t => have hm : Mir W3 (W2.heap.size ≤ ·) m t := hm; cases hm <;> exact ⟨_, _, _, rfl⟩
  have hfin : ∀ W4, (∀ b, b ≠ w.heap.size → W4.heap[b]? = W3.heap[b]?) → MirO W4 (w.heap.size ≤ ·) m o := fun W4 hh => by
    cases o with
    | none => exact hm
    | some t =>
      have h2 : Mir W3 (w.heap.size < ·) m t := Mir.weaken hm (fun b _ h => by have := hb2.size; omega)
      exact (h2.keep (W' := W4) (fun b i x hb hx => by
        rw [World.cell?_of_block (hh b (by omega))]
        exact hx)).weaken (fun b _ h => Nat.le_of_lt h)
  have HFIN := Lib.hid hfin
  obtain ⟨ka, kn, kc, ek⟩ := hkf
  obtain ⟨tag, un, nm, kd, tx, ws, bad, kids⟩ := m
  simp only at ek
  subst ek
  have hmv : (MV.val ⟨tag, un, nm, kd, tx, ws, bad, .slice ka kn kc⟩) = .agg #[.int .i64 tag, .string un, .float .f64 nm, .int .u8 kd, .string tx, .int .u8 ws, .bool bad, .slice ka kn kc] := rfl
  clear hfin rf hm hk HV q0 q1 q2 q3 q4 q5 q6 q7 qf hb13 hb2 hb3 hb1 
  go_wp2_with fail
  refine bodyPost_ret (v := MV.val ⟨tag, un, nm, kd, tx, ws, bad, .slice ka kn kc⟩) (by simp [results, Tryz.results17, go_sem, MV.val, *]) rfl ⟨_, rfl, ?_, HFIN.out _ (fun b hb => ?_)⟩
  · exact (((((((HB.out.setCell (Nat.le_refl _) _).setCell (Nat.le_refl _) _).setCell (Nat.le_refl _) _).setCell (Nat.le_refl _) _).setCell (Nat.le_refl _) _).setCell (Nat.le_refl _) _).setCell (Nat.le_refl _) _).setCell (Nat.le_refl _) _
  · rw [Below.heap_setCell _ _ _ _ hb, Below.heap_setCell _ _ _ _ hb, Below.heap_setCell _ _ _ _ hb, Below.heap_setCell _ _ _ _ hb, Below.heap_setCell _ _ _ _ hb, Below.heap_setCell _ _ _ _ hb, Below.heap_setCell _ _ _ _ hb, Below.heap_setCell _ _ _ _ hb]

/-- The parse answers nil. -/
theorem pct_nil (w : World) (s : Value) (h30 : ∀ W, Below w.heap.size w W → Calls Tryz.prog 30 #[s] W (Ans W none)) : Calls Tryz.prog 17 #[s] w (Tree w none) :=
  pct_any w s none h30 fun v W hv => by
    rw [show v = .nilIface from hv]
    exact (tree_nil W).mono fun e w' ⟨he, hb⟩ => ⟨mvNil, he, hb, rfl⟩
end Go.Proofs.YthbfppnegodpoaaGreatDoor
