/-
  mangleFontWeight, IsAngle, and the law's small functions.
-/
import Derived.Test.YtoeahdefgblmoaaGreatDoorC
namespace Go.Proofs.YtoeahdefgblmoaaGreatDoor
open Go.RowKit Go.Deep Go.PlainAid Go.Maps Go.Sort

/-- A token in a block of its own. -/
structure Box (w : World) (b : Nat) (t : TK) : Prop where
  c0 : w.cell? ⟨b, 0, none⟩ = some (.pointer none)
  c1 : w.cell? ⟨b, 1, none⟩ = some (.string t.s)
  c2 : w.cell? ⟨b, 2, none⟩ = some (.int .i32 0)
  c3 : w.cell? ⟨b, 3, none⟩ = some (.int .u32 0)
  c4 : w.cell? ⟨b, 4, none⟩ = some (.int .u16 0)
  c5 : w.cell? ⟨b, 5, none⟩ = some (.int .u8 t.kd)
  c6 : w.cell? ⟨b, 6, none⟩ = some (.int .u8 t.ws)
  fz : ∀ j, w.frozen? ⟨b, j, none⟩ = false

theorem Box.made (w : World) (t : TK) : Box (w.alloc (.cells #[.pointer none, .string t.s, .int .i32 0, .int .u32 0, .int .u16 0, .int .u8 t.kd, .int .u8 t.ws] 31)) w.heap.size t :=
  ⟨by simp [go_sem], by simp [go_sem], by simp [go_sem], by simp [go_sem], by simp [go_sem], by simp [go_sem], by simp [go_sem], fun j => by simp [go_sem]⟩
theorem Box.keep {w w' : World} {b : Nat} {t : TK} (h : Box w b t) (e : w'.heap[b]? = w.heap[b]?) : Box w' b t :=
  have hc : ∀ j, w'.cell? ⟨b, j, none⟩ = w.cell? ⟨b, j, none⟩ := fun j => World.cell?_of_block (a := ⟨b, j, none⟩) e
  ⟨(hc 0).trans h.c0, (hc 1).trans h.c1, (hc 2).trans h.c2, (hc 3).trans h.c3, (hc 4).trans h.c4, (hc 5).trans h.c5, (hc 6).trans h.c6, fun j => (World.frozen?_of_block (a := ⟨b, j, none⟩) e).trans (h.fz j)⟩
theorem Box.lt {w : World} {b : Nat} {t : TK} (h : Box w b t) : b < w.heap.size := World.block_lt_of_cell? _ _ h.c0
theorem Box.later {w w' : World} {b : Nat} {t : TK} (h : Box w b t) (hb : Below w.heap.size w w') : Box w' b t := h.keep (hb.block b h.lt)
theorem Box.alloc {w : World} {b : Nat} {t : TK} (h : Box w b t) (o : Obj) : Box (w.alloc o) b t := h.keep (heap_alloc_old w o h.lt)

theorem bset {B : Nat} {a w : World} (h : Below B a w) (b o : Nat) (v : Value) (hb : B ≤ b) : Below B a (w.setCell ⟨b, o, none⟩ v) := h.setCell hb v
/-- What mangleFontWeight makes of an identifier. -/
def wtT (l : ByteArray) (t : TK) : TK := if l.toList = [98, 111, 108, 100] then ⟨30, ⟨#[55, 48, 48]⟩, t.ws⟩ else t

set_option maxHeartbeats 1000000 in
set_option maxRecDepth 100000 in
theorem weight_one (r : Bool) (p : Value) (s l : ByteArray) (ws : Int) (hL : Low s l) (n1 : (l.toList == [110, 111, 114, 109, 97, 108]) = false) (n2 : (l.toList == [98, 111, 108, 100]) = r) (w : World) :
    Calls Tryz.prog 21 #[p, .agg #[.pointer none, .string s, .int .i32 0, .int .u32 0, .int .u16 0, .int .u8 29, .int .u8 ws]] w fun e w' =>
      e = .returned (.agg #[.pointer none, .string (if r then ⟨#[55, 48, 48]⟩ else s), .int .i32 0, .int .u32 0, .int .u16 0, .int .u8 (if r then 30 else 29), .int .u8 ws]) ∧ Below w.heap.size w w' := by
  have HW := Lib.hid (fun W => low_any hL W)
  clear hL
  cases r
  all_goals
    go_enter Tryz.func21, Tryz.ntmps21
    go_wp2_with fail
    obtain ⟨W2, eW⟩ : ∃ W2, W2 = (w.alloc (.cells #[.pointer none, .string s, .int .i32 0, .int .u32 0, .int .u16 0, .int .u8 29, .int .u8 ws] 31)).alloc (.cells #[.pointer none, .string ⟨#[]⟩, .int .i32 0, .int .u32 0, .int .u16 0, .int .u8 0, .int .u8 0] 31) := ⟨_, rfl⟩
    have hA : Box W2 w.heap.size ⟨29, s, ws⟩ := by rw [eW]; exact (Box.made w ⟨29, s, ws⟩).alloc _
    have hZ : Box W2 (w.heap.size + 1) ⟨0, ⟨#[]⟩, 0⟩ := by
      rw [eW]
      have := Box.made (w.alloc (.cells #[.pointer none, .string s, .int .i32 0, .int .u32 0, .int .u16 0, .int .u8 29, .int .u8 ws] 31)) ⟨0, ⟨#[]⟩, 0⟩
      rw [World.size_alloc] at this
      exact this
    have hB : Below w.heap.size w W2 := by rw [eW]; exact ((Below.refl _ _).alloc (Nat.le_refl _) _).alloc (by rw [World.size_alloc]; omega) _
    rw [← eW]
    clear eW
    refine (HW.out _).mono ?_
    rintro e w' ⟨rfl, hb⟩
    obtain ⟨a0, a1, a2, a3, a4, a5, a6, af⟩ := hA.later hb
    obtain ⟨z0, z1, z2, z3, z4, z5, z6, zf⟩ := hZ.later hb
    dsimp only at a1 a5 a6 z1 z5 z6
    have hsz := hb.size
    have hsz2 := hZ.lt
    have HB := Lib.hid (hB.trans (hb.mono hB.size))
    clear hA hZ hB hb
    have ff0 := af 0
    have ff1 := af 1
    have ff5 := af 5
    have fz0 := zf 0
    have fz1 := zf 1
    have fz2 := zf 2
    have fz3 := zf 3
    have fz4 := zf 4
    have fz5 := zf 5
    have fz6 := zf 6
    go_wp2_with fail
  · refine bodyPost_ret (v := .agg #[.pointer none, .string s, .int .i32 0, .int .u32 0, .int .u16 0, .int .u8 29, .int .u8 ws]) (by simp [results, Tryz.results21, go_sem, z0, z1, z2, z3, z4, z5, z6]) rfl ⟨rfl, ?_⟩
    iterate 7 refine bset ?_ _ _ _ (by omega)
    exact HB.out
  · refine bodyPost_ret (v := .agg #[.pointer none, .string ⟨#[55, 48, 48]⟩, .int .i32 0, .int .u32 0, .int .u16 0, .int .u8 30, .int .u8 ws]) (by simp [results, Tryz.results21, go_sem, z0, z1, z2, z3, z4, z5, z6]) rfl ⟨rfl, ?_⟩
    iterate 9 refine bset ?_ _ _ _ (by omega)
    exact HB.out

theorem weight_any (p : Value) (s l : ByteArray) (ws : Int) (hL : Low s l) (hn : l.toList ≠ [110, 111, 114, 109, 97, 108]) (w : World) :
    Calls Tryz.prog 21 #[p, .agg #[.pointer none, .string s, .int .i32 0, .int .u32 0, .int .u16 0, .int .u8 29, .int .u8 ws]] w fun e w' =>
      e = .returned (.agg #[.pointer none, .string (wtT l ⟨29, s, ws⟩).s, .int .i32 0, .int .u32 0, .int .u16 0, .int .u8 (wtT l ⟨29, s, ws⟩).kd, .int .u8 (wtT l ⟨29, s, ws⟩).ws]) ∧ Below w.heap.size w w' := by
  have n1 : (l.toList == [110, 111, 114, 109, 97, 108]) = false := by simpa using hn
  by_cases hb : l.toList = [98, 111, 108, 100]
  · have h := weight_one true p s l ws hL n1 (by simpa using hb) w
    rw [show wtT l ⟨29, s, ws⟩ = ⟨30, ⟨#[55, 48, 48]⟩, ws⟩ from if_pos hb]
    exact h
  · have h := weight_one false p s l ws hL n1 (by simpa using hb) w
    rw [show wtT l ⟨29, s, ws⟩ = ⟨29, s, ws⟩ from if_neg hb]
    exact h
end Go.Proofs.YtoeahdefgblmoaaGreatDoor
