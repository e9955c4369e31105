/-
  tryToParseCalcTerm on one identifier token: a value node.
-/
import Derived.Test.YthbfppnegodpoaaGreatDoorL
import Derived.Test.YthbfppnegodpoaaGreatDoorE
import Derived.Deep.RegionHeld3
namespace Go.Proofs.YthbfppnegodpoaaGreatDoor
open Go.RowKit Go.Deep Go.PlainAid

def wInf : ByteArray := ⟨#[73, 110, 102, 105, 110, 105, 116, 121]⟩
def wNeg : ByteArray := ⟨#[45, 73, 110, 102, 105, 110, 105, 116, 121]⟩
def wNaN : ByteArray := ⟨#[78, 97, 78]⟩
theorem word_inf : Word wInf := by unfold Word; decide +kernel
theorem word_neg : Word wNeg := by unfold Word; decide +kernel
theorem word_nan : Word wNaN := by unfold Word; decide +kernel

/-- A new value node that holds the token, unmarked. -/
def Valued (s : ByteArray) (kd ws : Int) (w : World) (e : Ending) (w' : World) : Prop :=
  ∃ b, e = .returned (.iface 54 (.pointer (some ⟨b, 0, none⟩))) ∧ b < w'.heap.size ∧ (∀ i, i < 7 → w'.cell? ⟨b, i, none⟩ = (tok s kd ws)[i]?) ∧ w'.cell? ⟨b, 7, none⟩ = some (.bool false) ∧ Below w.heap.size w w'

set_option maxHeartbeats 4000000 in
set_option maxRecDepth 100000 in
theorem calc_value (s : ByteArray) (ws : Int) (b cap : Nat) (w : World) (hF : Fold w) (hs : s.size < 4611686018427387904)
    (n1 : ¬ FoldEq s wInf) (n2 : ¬ FoldEq s wNeg) (n3 : ¬ FoldEq s wNaN)
    (c0 : w.cell? ⟨b, 0, none⟩ = some (.pointer none)) (c1 : w.cell? ⟨b, 1, none⟩ = some (.string s)) (c2 : w.cell? ⟨b, 2, none⟩ = some (.int .i32 0)) (c3 : w.cell? ⟨b, 3, none⟩ = some (.int .u32 0))
    (c4 : w.cell? ⟨b, 4, none⟩ = some (.int .u16 0)) (c5 : w.cell? ⟨b, 5, none⟩ = some (.int .u8 29)) (c6 : w.cell? ⟨b, 6, none⟩ = some (.int .u8 ws)) :
    Calls Tryz.prog 30 #[.slice (some ⟨b, 0, none⟩) 1 cap] w (Valued s 29 ws w) := by
  have hbs : b < w.heap.size := World.block_lt_of_cell? _ _ c0
  have hmk := make_one
  have HF := Lib.hid hF
  have H1 := fun W hW => Lib.hid (equalfold_any s wInf W hs word_inf hW)
  have H2 := fun W hW => Lib.hid (equalfold_any s wNeg W hs word_neg hW)
  have H3 := fun W hW => Lib.hid (equalfold_any s wNaN W hs word_nan hW)
  clear hF hs
  go_enter Tryz.func30, Tryz.ntmps30
  go_wp2_with fail
  refine wp_loop_rounds 2 ?_
  rw [rounds_succ]
  go_wp2_with fail
  obtain ⟨W2, eW⟩ : ∃ W2, W2 = (w.alloc (Obj.cells #[Value.nilIface, Value.int IntKind.i32 0] 92)).alloc (Obj.cells #[Value.pointer none, Value.string s, Value.int IntKind.i32 0, Value.int IntKind.u32 0, Value.int IntKind.u16 0, Value.int IntKind.u8 29, Value.int IntKind.u8 ws] 32) := ⟨_, rfl⟩
  have hb2 : Below w.heap.size w W2 := by rw [eW]; exact ((Below.refl _ _).alloc (Nat.le_refl _) _).alloc (by rw [World.size_alloc]; omega) _
  have z2 : W2.heap.size = w.heap.size + 2 := by rw [eW, World.size_alloc, World.size_alloc]
  have d0 : W2.cell? ⟨w.heap.size + 1, 0, none⟩ = some (.pointer none) := by rw [eW]; simp [go_sem]
  have d1 : W2.cell? ⟨w.heap.size + 1, 1, none⟩ = some (.string s) := by rw [eW]; simp [go_sem]
  have d2 : W2.cell? ⟨w.heap.size + 1, 2, none⟩ = some (.int .i32 0) := by rw [eW]; simp [go_sem]
  have d3 : W2.cell? ⟨w.heap.size + 1, 3, none⟩ = some (.int .u32 0) := by rw [eW]; simp [go_sem]
  have d4 : W2.cell? ⟨w.heap.size + 1, 4, none⟩ = some (.int .u16 0) := by rw [eW]; simp [go_sem]
  have d5 : W2.cell? ⟨w.heap.size + 1, 5, none⟩ = some (.int .u8 29) := by rw [eW]; simp [go_sem]
  have d6 : W2.cell? ⟨w.heap.size + 1, 6, none⟩ = some (.int .u8 ws) := by rw [eW]; simp [go_sem]
  have p0 : W2.cell? ⟨w.heap.size, 0, none⟩ = some .nilIface := by rw [eW]; simp [go_sem]
  have p1 : W2.cell? ⟨w.heap.size, 1, none⟩ = some (.int .i32 0) := by rw [eW]; simp [go_sem]
  have pf : W2.frozen? ⟨w.heap.size, 0, none⟩ = false := by rw [eW]; simp [go_sem]
  rw [← eW]
  have hf2 : Fold W2 := HF.out.below hb2
  clear eW
  refine (H1 W2 hf2).out.mono ?_
  rintro e w3 ⟨v, rfl, hv, hb3⟩
  obtain rfl : v = false := by cases v with | false => rfl | true => exact absurd (hv.1 rfl) n1
  have hf3 := hf2.below hb3
  have e1 := cell_later hb3 d1
  have e5 := cell_later hb3 d5
  go_wp2_with fail
  refine (H2 w3 hf3).out.mono ?_
  rintro e w4 ⟨v, rfl, hv, hb4⟩
  obtain rfl : v = false := by cases v with | false => rfl | true => exact absurd (hv.1 rfl) n2
  have hf4 := hf3.below hb4
  have f1 := cell_later hb4 e1
  have f5 := cell_later hb4 e5
  go_wp2_with fail
  refine (H3 w4 hf4).out.mono ?_
  rintro e w5 ⟨v, rfl, hv, hb5⟩
  obtain rfl : v = false := by cases v with | false => rfl | true => exact absurd (hv.1 rfl) n3
  have hb25 : Below W2.heap.size W2 w5 := (hb3.trans (hb4.mono hb3.size)).trans (hb5.mono (Nat.le_trans hb3.size hb4.size))
  have z5 := hb25.size
  have g0 := cell_later hb25 d0
  have g1 := cell_later hb25 d1
  have g2 := cell_later hb25 d2
  have g3 := cell_later hb25 d3
  have g4 := cell_later hb25 d4
  have g5 := cell_later hb25 d5
  have g6 := cell_later hb25 d6
  have q0 := cell_later hb25 p0
  have q1 := cell_later hb25 p1
  clear d0 d1 d2 d3 d4 d5 d6 e1 e5 f1 f5 p0 p1 c0 c1 c2 c3 c4 c5 c6 hf2 hf3 hf4 hb3 hb4 hb5
  go_wp2_with fail
  go_region
  obtain ⟨W6, eW⟩ : ∃ W6, W6 = (w5.alloc (Obj.cells #[Value.pointer none, Value.string s, Value.int IntKind.i32 0, Value.int IntKind.u32 0, Value.int IntKind.u16 0, Value.int IntKind.u8 29, Value.int IntKind.u8 ws, Value.bool false] 80)).drew := ⟨_, rfl⟩
  have hlt : w.heap.size < w5.heap.size := by omega
  have hb6 : Below w5.heap.size w5 W6 := by rw [eW]; exact ((Below.refl _ _).alloc (Nat.le_refl _) _).drew
  have z6 : W6.heap.size = w5.heap.size + 1 := by rw [eW]; exact World.size_alloc _ _
  have r0 := cell_later hb6 q0
  have r1 := cell_later hb6 q1
  have rf : W6.frozen? ⟨w.heap.size, 0, none⟩ = false := ((hb6.frozen (p := ⟨w.heap.size, 0, none⟩) hlt).trans (hb25.frozen (p := ⟨w.heap.size, 0, none⟩) (by show w.heap.size < W2.heap.size; omega))).trans pf
  have d0 : W6.cell? ⟨w5.heap.size, 0, none⟩ = some (.pointer none) := by rw [eW]; simp [go_sem]
  have d1 : W6.cell? ⟨w5.heap.size, 1, none⟩ = some (.string s) := by rw [eW]; simp [go_sem]
  have d2 : W6.cell? ⟨w5.heap.size, 2, none⟩ = some (.int .i32 0) := by rw [eW]; simp [go_sem]
  have d3 : W6.cell? ⟨w5.heap.size, 3, none⟩ = some (.int .u32 0) := by rw [eW]; simp [go_sem]
  have d4 : W6.cell? ⟨w5.heap.size, 4, none⟩ = some (.int .u16 0) := by rw [eW]; simp [go_sem]
  have d5 : W6.cell? ⟨w5.heap.size, 5, none⟩ = some (.int .u8 29) := by rw [eW]; simp [go_sem]
  have d6 : W6.cell? ⟨w5.heap.size, 6, none⟩ = some (.int .u8 ws) := by rw [eW]; simp [go_sem]
  have d7 : W6.cell? ⟨w5.heap.size, 7, none⟩ = some (.bool false) := by rw [eW]; simp [go_sem]
  rw [← eW]
  clear eW g0 g1 g2 g3 g4 g5 g6 q0 q1
  have hn0 : ∀ i, (⟨w5.heap.size, i, none⟩ : Addr) ≠ ⟨w.heap.size, 0, none⟩ := fun i h => by injection h; omega
  have hB := Lib.hid (((hb2.trans (hb25.mono (by omega))).trans (hb6.mono (by omega))))
  go_wp2_with fail
  rw [rounds_succ]
  go_wp2_with fail
  refine wp_loop_rounds 1 ?_
  rw [rounds_succ]
  go_wp2_with fail
  refine wp_loop_rounds 1 ?_
  rw [rounds_succ]
  go_wp2_with fail
  go_ret
  refine ⟨_, rfl, ?_, ?_, ?_, ?_⟩
  · simp [z6]
  · intro i hi
    rw [World.cell?_of_block (Below.heap_setCell W6 _ _ _ (by show w5.heap.size ≠ w.heap.size; omega))]
    match i, hi with
    | 0, _ => exact d0
    | 1, _ => exact d1
    | 2, _ => exact d2
    | 3, _ => exact d3
    | 4, _ => exact d4
    | 5, _ => exact d5
    | 6, _ => exact d6
  · rw [World.cell?_of_block (Below.heap_setCell W6 _ _ _ (by show w5.heap.size ≠ w.heap.size; omega))]
    exact d7
  · exact hB.out.setCell (Nat.le_refl _) _
end Go.Proofs.YthbfppnegodpoaaGreatDoor
