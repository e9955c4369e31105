/-
  zzAny: the token that a code stands for.
-/
import Derived.Test.YthbfppnegodpoaaGreatDoorJ1
namespace Go.Proofs.YthbfppnegodpoaaGreatDoor
open Go.RowKit Go.Deep Go.PlainAid

def TK.vals (t : TK) : Array Value := #[.pointer t.ch, .string t.s, .int .i32 0, .int .u32 0, .int .u16 0, .int .u8 t.kd, .int .u8 t.ws]

def kOf (c : Int) : Int := bits .and .u16 c 15
def wsOf (c : Int) : Int := wsN (bits .and .u16 c 16 != 0) (bits .and .u16 c 32 != 0)
/-- A code's token; ch: its children's address. -/
def anyTok (c : Int) (ch : Option Addr) : TK :=
  if kOf c = 1 then ⟨none, ⟨#[120]⟩, 30, wsOf c⟩ else
  if kOf c = 2 then ⟨none, ⟨#[97]⟩, 29, wsOf c⟩ else
  if kOf c = 3 then ⟨none, ⟨#[105, 110, 102, 105, 110, 105, 116, 121]⟩, 29, wsOf c⟩ else
  if kOf c = 4 then ⟨none, ⟨#[43]⟩, 23, wsOf c⟩ else
  if kOf c = 5 then ⟨none, ⟨#[45]⟩, 22, wsOf c⟩ else
  if kOf c = 6 then ⟨none, ⟨#[42]⟩, 13, wsOf c⟩ else
  if kOf c = 7 then ⟨none, ⟨#[47]⟩, 24, wsOf c⟩ else
  if kOf c = 8 then ⟨ch, ⟨#[40]⟩, 33, wsOf c⟩ else
  if kOf c = 9 then ⟨ch, ⟨#[99, 97, 108, 99]⟩, 27, wsOf c⟩ else
  if kOf c = 10 then ⟨ch, ⟨#[86, 65, 82]⟩, 27, wsOf c⟩ else
  if kOf c = 11 then ⟨none, ⟨#[102, 111, 111]⟩, 27, wsOf c⟩ else
  if kOf c = 12 then ⟨none, ⟨#[110, 97, 110]⟩, 29, wsOf c⟩ else
  if kOf c = 13 then ⟨none, ⟨#[45, 73, 110, 102, 105, 110, 105, 116, 121]⟩, 29, wsOf c⟩ else
  ⟨none, strOfNums (numZ (c / 64)), 30, wsOf c⟩

/-- The token's children, where it has some. -/
def AnyAt (c : Int) (w : World) (e : Ending) (w' : World) : Prop :=
  ∃ ch, e = .returned (.agg (anyTok c ch).vals) ∧ Below w.heap.size w w' ∧ (kOf c = 8 ∨ kOf c = 9 ∨ kOf c = 10 → InnerAt w' w.heap.size ch (c / 64))


set_option maxHeartbeats 4000000 in
set_option maxRecDepth 100000 in
theorem any_1 (c : Int) (w : World) (h0 : 0 ≤ c) (h1 : c ≤ 65535) (hk : bits .and .u16 c 15 = 1) : Calls Tryz.prog 15 #[.int .u16 c] w (AnyAt c w) := by
  have ek : kOf c = 1 := hk
  go_enter Tryz.func15, Tryz.ntmps15
  go_wp2_with fail
  refine (ws_any _ _ _).mono ?_
  rintro e w' ⟨rfl, rfl⟩
  go_wp2_with fail
  refine bodyPost_ret (v := .agg #[.pointer none, .string ⟨#[120]⟩, .int .i32 0, .int .u32 0, .int .u16 0, .int .u8 30, .int .u8 (wsOf c)]) (by simp [results, Tryz.results15, go_sem, wsOf]) rfl ⟨none, ?_, (Below.refl _ _).alloc (Nat.le_refl _) _, fun h => ?_⟩
  · unfold anyTok
    simp [ek, TK.vals]
  · rw [ek] at h
    omega

set_option maxHeartbeats 4000000 in
set_option maxRecDepth 100000 in
theorem any_2 (c : Int) (w : World) (h0 : 0 ≤ c) (h1 : c ≤ 65535) (hk : bits .and .u16 c 15 = 2) : Calls Tryz.prog 15 #[.int .u16 c] w (AnyAt c w) := by
  have ek : kOf c = 2 := hk
  go_enter Tryz.func15, Tryz.ntmps15
  go_wp2_with fail
  refine (ws_any _ _ _).mono ?_
  rintro e w' ⟨rfl, rfl⟩
  go_wp2_with fail
  refine bodyPost_ret (v := .agg #[.pointer none, .string ⟨#[97]⟩, .int .i32 0, .int .u32 0, .int .u16 0, .int .u8 29, .int .u8 (wsOf c)]) (by simp [results, Tryz.results15, go_sem, wsOf]) rfl ⟨none, ?_, (Below.refl _ _).alloc (Nat.le_refl _) _, fun h => ?_⟩
  · unfold anyTok
    simp [ek, TK.vals]
  · rw [ek] at h
    omega

set_option maxHeartbeats 4000000 in
set_option maxRecDepth 100000 in
theorem any_3 (c : Int) (w : World) (h0 : 0 ≤ c) (h1 : c ≤ 65535) (hk : bits .and .u16 c 15 = 3) : Calls Tryz.prog 15 #[.int .u16 c] w (AnyAt c w) := by
  have ek : kOf c = 3 := hk
  go_enter Tryz.func15, Tryz.ntmps15
  go_wp2_with fail
  refine (ws_any _ _ _).mono ?_
  rintro e w' ⟨rfl, rfl⟩
  go_wp2_with fail
  refine bodyPost_ret (v := .agg #[.pointer none, .string ⟨#[105, 110, 102, 105, 110, 105, 116, 121]⟩, .int .i32 0, .int .u32 0, .int .u16 0, .int .u8 29, .int .u8 (wsOf c)]) (by simp [results, Tryz.results15, go_sem, wsOf]) rfl ⟨none, ?_, (Below.refl _ _).alloc (Nat.le_refl _) _, fun h => ?_⟩
  · unfold anyTok
    simp [ek, TK.vals]
  · rw [ek] at h
    omega

set_option maxHeartbeats 4000000 in
set_option maxRecDepth 100000 in
theorem any_4 (c : Int) (w : World) (h0 : 0 ≤ c) (h1 : c ≤ 65535) (hk : bits .and .u16 c 15 = 4) : Calls Tryz.prog 15 #[.int .u16 c] w (AnyAt c w) := by
  have ek : kOf c = 4 := hk
  go_enter Tryz.func15, Tryz.ntmps15
  go_wp2_with fail
  refine (ws_any _ _ _).mono ?_
  rintro e w' ⟨rfl, rfl⟩
  go_wp2_with fail
  refine bodyPost_ret (v := .agg #[.pointer none, .string ⟨#[43]⟩, .int .i32 0, .int .u32 0, .int .u16 0, .int .u8 23, .int .u8 (wsOf c)]) (by simp [results, Tryz.results15, go_sem, wsOf]) rfl ⟨none, ?_, (Below.refl _ _).alloc (Nat.le_refl _) _, fun h => ?_⟩
  · unfold anyTok
    simp [ek, TK.vals]
  · rw [ek] at h
    omega

set_option maxHeartbeats 4000000 in
set_option maxRecDepth 100000 in
theorem any_5 (c : Int) (w : World) (h0 : 0 ≤ c) (h1 : c ≤ 65535) (hk : bits .and .u16 c 15 = 5) : Calls Tryz.prog 15 #[.int .u16 c] w (AnyAt c w) := by
  have ek : kOf c = 5 := hk
  go_enter Tryz.func15, Tryz.ntmps15
  go_wp2_with fail
  refine (ws_any _ _ _).mono ?_
  rintro e w' ⟨rfl, rfl⟩
  go_wp2_with fail
  refine bodyPost_ret (v := .agg #[.pointer none, .string ⟨#[45]⟩, .int .i32 0, .int .u32 0, .int .u16 0, .int .u8 22, .int .u8 (wsOf c)]) (by simp [results, Tryz.results15, go_sem, wsOf]) rfl ⟨none, ?_, (Below.refl _ _).alloc (Nat.le_refl _) _, fun h => ?_⟩
  · unfold anyTok
    simp [ek, TK.vals]
  · rw [ek] at h
    omega

set_option maxHeartbeats 4000000 in
set_option maxRecDepth 100000 in
theorem any_6 (c : Int) (w : World) (h0 : 0 ≤ c) (h1 : c ≤ 65535) (hk : bits .and .u16 c 15 = 6) : Calls Tryz.prog 15 #[.int .u16 c] w (AnyAt c w) := by
  have ek : kOf c = 6 := hk
  go_enter Tryz.func15, Tryz.ntmps15
  go_wp2_with fail
  refine (ws_any _ _ _).mono ?_
  rintro e w' ⟨rfl, rfl⟩
  go_wp2_with fail
  refine bodyPost_ret (v := .agg #[.pointer none, .string ⟨#[42]⟩, .int .i32 0, .int .u32 0, .int .u16 0, .int .u8 13, .int .u8 (wsOf c)]) (by simp [results, Tryz.results15, go_sem, wsOf]) rfl ⟨none, ?_, (Below.refl _ _).alloc (Nat.le_refl _) _, fun h => ?_⟩
  · unfold anyTok
    simp [ek, TK.vals]
  · rw [ek] at h
    omega

set_option maxHeartbeats 4000000 in
set_option maxRecDepth 100000 in
theorem any_7 (c : Int) (w : World) (h0 : 0 ≤ c) (h1 : c ≤ 65535) (hk : bits .and .u16 c 15 = 7) : Calls Tryz.prog 15 #[.int .u16 c] w (AnyAt c w) := by
  have ek : kOf c = 7 := hk
  go_enter Tryz.func15, Tryz.ntmps15
  go_wp2_with fail
  refine (ws_any _ _ _).mono ?_
  rintro e w' ⟨rfl, rfl⟩
  go_wp2_with fail
  refine bodyPost_ret (v := .agg #[.pointer none, .string ⟨#[47]⟩, .int .i32 0, .int .u32 0, .int .u16 0, .int .u8 24, .int .u8 (wsOf c)]) (by simp [results, Tryz.results15, go_sem, wsOf]) rfl ⟨none, ?_, (Below.refl _ _).alloc (Nat.le_refl _) _, fun h => ?_⟩
  · unfold anyTok
    simp [ek, TK.vals]
  · rw [ek] at h
    omega

set_option maxHeartbeats 4000000 in
set_option maxRecDepth 100000 in
theorem any_8 (c : Int) (w : World) (h0 : 0 ≤ c) (h1 : c ≤ 65535) (hk : bits .and .u16 c 15 = 8) : Calls Tryz.prog 15 #[.int .u16 c] w (AnyAt c w) := by
  have ek : kOf c = 8 := hk
  go_enter Tryz.func15, Tryz.ntmps15
  go_wp2_with fail
  refine (ws_any _ _ _).mono ?_
  rintro e w' ⟨rfl, rfl⟩
  go_wp2_with fail
  refine (inner_any _ _ (by omega) (by omega)).mono ?_
  rintro e w2 ⟨ch, rfl, hin, hb⟩
  have hb1 : Below w.heap.size w w2 := ((Below.refl _ _).alloc (Nat.le_refl _) _).trans (hb.mono (by rw [World.size_alloc]; omega))
  have r0 : w2.cell? ⟨w.heap.size, 0, none⟩ = some (.pointer none) := cell_later hb (by simp [go_sem])
  have r1 : w2.cell? ⟨w.heap.size, 1, none⟩ = some (.string ⟨#[]⟩) := cell_later hb (by simp [go_sem])
  have r2 : w2.cell? ⟨w.heap.size, 2, none⟩ = some (.int .i32 0) := cell_later hb (by simp [go_sem])
  have r3 : w2.cell? ⟨w.heap.size, 3, none⟩ = some (.int .u32 0) := cell_later hb (by simp [go_sem])
  have r4 : w2.cell? ⟨w.heap.size, 4, none⟩ = some (.int .u16 0) := cell_later hb (by simp [go_sem])
  have r5 : w2.cell? ⟨w.heap.size, 5, none⟩ = some (.int .u8 0) := cell_later hb (by simp [go_sem])
  have r6 : w2.cell? ⟨w.heap.size, 6, none⟩ = some (.int .u8 0) := cell_later hb (by simp [go_sem])
  have rf : ∀ i, w2.frozen? ⟨w.heap.size, i, none⟩ = false := fun i => (hb.frozen (p := ⟨w.heap.size, i, none⟩) (by rw [World.size_alloc]; show w.heap.size < _; omega)).trans (by simp [go_sem])
  have rf0 := rf 0
  have rf1 := rf 1
  have rf2 := rf 2
  have rf3 := rf 3
  have rf4 := rf 4
  have rf5 := rf 5
  have rf6 := rf 6
  have hsz : w.heap.size < w2.heap.size := by have := hb.size; rw [World.size_alloc] at this; omega
  have HIN := Lib.hid hin
  have HB1 := Lib.hid hb1
  clear rf hb hb1 hin
  go_wp2_with fail
  refine bodyPost_ret (v := .agg #[.pointer ch, .string ⟨#[40]⟩, .int .i32 0, .int .u32 0, .int .u16 0, .int .u8 33, .int .u8 (wsOf c)]) (by simp [results, Tryz.results15, go_sem, wsOf, *]) rfl ⟨ch, ?_, ?_, fun _ => ?_⟩
  · unfold anyTok
    simp [ek, TK.vals]
  · exact (((((((HB1.out.setCell (Nat.le_refl _) _).setCell (Nat.le_refl _) _).setCell (Nat.le_refl _) _).setCell (Nat.le_refl _) _).setCell (Nat.le_refl _) _).setCell (Nat.le_refl _) _).setCell (Nat.le_refl _) _)
  · refine (HIN.out.keep (W' := _) (fun b i x hb hx => ?_)).mono (by rw [World.size_alloc]; omega)
    rw [World.size_alloc] at hb
    have hne : b ≠ w.heap.size := by omega
    rw [World.cell?_of_block (Below.heap_setCell _ _ _ _ hne), World.cell?_of_block (Below.heap_setCell _ _ _ _ hne), World.cell?_of_block (Below.heap_setCell _ _ _ _ hne), World.cell?_of_block (Below.heap_setCell _ _ _ _ hne), World.cell?_of_block (Below.heap_setCell _ _ _ _ hne), World.cell?_of_block (Below.heap_setCell _ _ _ _ hne), World.cell?_of_block (Below.heap_setCell _ _ _ _ hne)]
    exact hx

set_option maxHeartbeats 4000000 in
set_option maxRecDepth 100000 in
theorem any_9 (c : Int) (w : World) (h0 : 0 ≤ c) (h1 : c ≤ 65535) (hk : bits .and .u16 c 15 = 9) : Calls Tryz.prog 15 #[.int .u16 c] w (AnyAt c w) := by
  have ek : kOf c = 9 := hk
  go_enter Tryz.func15, Tryz.ntmps15
  go_wp2_with fail
  refine (ws_any _ _ _).mono ?_
  rintro e w' ⟨rfl, rfl⟩
  go_wp2_with fail
  refine (inner_any _ _ (by omega) (by omega)).mono ?_
  rintro e w2 ⟨ch, rfl, hin, hb⟩
  have hb1 : Below w.heap.size w w2 := ((Below.refl _ _).alloc (Nat.le_refl _) _).trans (hb.mono (by rw [World.size_alloc]; omega))
  have r0 : w2.cell? ⟨w.heap.size, 0, none⟩ = some (.pointer none) := cell_later hb (by simp [go_sem])
  have r1 : w2.cell? ⟨w.heap.size, 1, none⟩ = some (.string ⟨#[]⟩) := cell_later hb (by simp [go_sem])
  have r2 : w2.cell? ⟨w.heap.size, 2, none⟩ = some (.int .i32 0) := cell_later hb (by simp [go_sem])
  have r3 : w2.cell? ⟨w.heap.size, 3, none⟩ = some (.int .u32 0) := cell_later hb (by simp [go_sem])
  have r4 : w2.cell? ⟨w.heap.size, 4, none⟩ = some (.int .u16 0) := cell_later hb (by simp [go_sem])
  have r5 : w2.cell? ⟨w.heap.size, 5, none⟩ = some (.int .u8 0) := cell_later hb (by simp [go_sem])
  have r6 : w2.cell? ⟨w.heap.size, 6, none⟩ = some (.int .u8 0) := cell_later hb (by simp [go_sem])
  have rf : ∀ i, w2.frozen? ⟨w.heap.size, i, none⟩ = false := fun i => (hb.frozen (p := ⟨w.heap.size, i, none⟩) (by rw [World.size_alloc]; show w.heap.size < _; omega)).trans (by simp [go_sem])
  have rf0 := rf 0
  have rf1 := rf 1
  have rf2 := rf 2
  have rf3 := rf 3
  have rf4 := rf 4
  have rf5 := rf 5
  have rf6 := rf 6
  have hsz : w.heap.size < w2.heap.size := by have := hb.size; rw [World.size_alloc] at this; omega
  have HIN := Lib.hid hin
  have HB1 := Lib.hid hb1
  clear rf hb hb1 hin
  go_wp2_with fail
  refine bodyPost_ret (v := .agg #[.pointer ch, .string ⟨#[99, 97, 108, 99]⟩, .int .i32 0, .int .u32 0, .int .u16 0, .int .u8 27, .int .u8 (wsOf c)]) (by simp [results, Tryz.results15, go_sem, wsOf, *]) rfl ⟨ch, ?_, ?_, fun _ => ?_⟩
  · unfold anyTok
    simp [ek, TK.vals]
  · exact (((((((HB1.out.setCell (Nat.le_refl _) _).setCell (Nat.le_refl _) _).setCell (Nat.le_refl _) _).setCell (Nat.le_refl _) _).setCell (Nat.le_refl _) _).setCell (Nat.le_refl _) _).setCell (Nat.le_refl _) _)
  · refine (HIN.out.keep (W' := _) (fun b i x hb hx => ?_)).mono (by rw [World.size_alloc]; omega)
    rw [World.size_alloc] at hb
    have hne : b ≠ w.heap.size := by omega
    rw [World.cell?_of_block (Below.heap_setCell _ _ _ _ hne), World.cell?_of_block (Below.heap_setCell _ _ _ _ hne), World.cell?_of_block (Below.heap_setCell _ _ _ _ hne), World.cell?_of_block (Below.heap_setCell _ _ _ _ hne), World.cell?_of_block (Below.heap_setCell _ _ _ _ hne), World.cell?_of_block (Below.heap_setCell _ _ _ _ hne), World.cell?_of_block (Below.heap_setCell _ _ _ _ hne)]
    exact hx

set_option maxHeartbeats 4000000 in
set_option maxRecDepth 100000 in
theorem any_10 (c : Int) (w : World) (h0 : 0 ≤ c) (h1 : c ≤ 65535) (hk : bits .and .u16 c 15 = 10) : Calls Tryz.prog 15 #[.int .u16 c] w (AnyAt c w) := by
  have ek : kOf c = 10 := hk
  go_enter Tryz.func15, Tryz.ntmps15
  go_wp2_with fail
  refine (ws_any _ _ _).mono ?_
  rintro e w' ⟨rfl, rfl⟩
  go_wp2_with fail
  refine (inner_any _ _ (by omega) (by omega)).mono ?_
  rintro e w2 ⟨ch, rfl, hin, hb⟩
  have hb1 : Below w.heap.size w w2 := ((Below.refl _ _).alloc (Nat.le_refl _) _).trans (hb.mono (by rw [World.size_alloc]; omega))
  have r0 : w2.cell? ⟨w.heap.size, 0, none⟩ = some (.pointer none) := cell_later hb (by simp [go_sem])
  have r1 : w2.cell? ⟨w.heap.size, 1, none⟩ = some (.string ⟨#[]⟩) := cell_later hb (by simp [go_sem])
  have r2 : w2.cell? ⟨w.heap.size, 2, none⟩ = some (.int .i32 0) := cell_later hb (by simp [go_sem])
  have r3 : w2.cell? ⟨w.heap.size, 3, none⟩ = some (.int .u32 0) := cell_later hb (by simp [go_sem])
  have r4 : w2.cell? ⟨w.heap.size, 4, none⟩ = some (.int .u16 0) := cell_later hb (by simp [go_sem])
  have r5 : w2.cell? ⟨w.heap.size, 5, none⟩ = some (.int .u8 0) := cell_later hb (by simp [go_sem])
  have r6 : w2.cell? ⟨w.heap.size, 6, none⟩ = some (.int .u8 0) := cell_later hb (by simp [go_sem])
  have rf : ∀ i, w2.frozen? ⟨w.heap.size, i, none⟩ = false := fun i => (hb.frozen (p := ⟨w.heap.size, i, none⟩) (by rw [World.size_alloc]; show w.heap.size < _; omega)).trans (by simp [go_sem])
  have rf0 := rf 0
  have rf1 := rf 1
  have rf2 := rf 2
  have rf3 := rf 3
  have rf4 := rf 4
  have rf5 := rf 5
  have rf6 := rf 6
  have hsz : w.heap.size < w2.heap.size := by have := hb.size; rw [World.size_alloc] at this; omega
  have HIN := Lib.hid hin
  have HB1 := Lib.hid hb1
  clear rf hb hb1 hin
  go_wp2_with fail
  refine bodyPost_ret (v := .agg #[.pointer ch, .string ⟨#[86, 65, 82]⟩, .int .i32 0, .int .u32 0, .int .u16 0, .int .u8 27, .int .u8 (wsOf c)]) (by simp [results, Tryz.results15, go_sem, wsOf, *]) rfl ⟨ch, ?_, ?_, fun _ => ?_⟩
  · unfold anyTok
    simp [ek, TK.vals]
  · exact (((((((HB1.out.setCell (Nat.le_refl _) _).setCell (Nat.le_refl _) _).setCell (Nat.le_refl _) _).setCell (Nat.le_refl _) _).setCell (Nat.le_refl _) _).setCell (Nat.le_refl _) _).setCell (Nat.le_refl _) _)
  · refine (HIN.out.keep (W' := _) (fun b i x hb hx => ?_)).mono (by rw [World.size_alloc]; omega)
    rw [World.size_alloc] at hb
    have hne : b ≠ w.heap.size := by omega
    rw [World.cell?_of_block (Below.heap_setCell _ _ _ _ hne), World.cell?_of_block (Below.heap_setCell _ _ _ _ hne), World.cell?_of_block (Below.heap_setCell _ _ _ _ hne), World.cell?_of_block (Below.heap_setCell _ _ _ _ hne), World.cell?_of_block (Below.heap_setCell _ _ _ _ hne), World.cell?_of_block (Below.heap_setCell _ _ _ _ hne), World.cell?_of_block (Below.heap_setCell _ _ _ _ hne)]
    exact hx

set_option maxHeartbeats 4000000 in
set_option maxRecDepth 100000 in
theorem any_11 (c : Int) (w : World) (h0 : 0 ≤ c) (h1 : c ≤ 65535) (hk : bits .and .u16 c 15 = 11) : Calls Tryz.prog 15 #[.int .u16 c] w (AnyAt c w) := by
  have ek : kOf c = 11 := hk
  go_enter Tryz.func15, Tryz.ntmps15
  go_wp2_with fail
  refine (ws_any _ _ _).mono ?_
  rintro e w' ⟨rfl, rfl⟩
  go_wp2_with fail
  refine bodyPost_ret (v := .agg #[.pointer none, .string ⟨#[102, 111, 111]⟩, .int .i32 0, .int .u32 0, .int .u16 0, .int .u8 27, .int .u8 (wsOf c)]) (by simp [results, Tryz.results15, go_sem, wsOf]) rfl ⟨none, ?_, (Below.refl _ _).alloc (Nat.le_refl _) _, fun h => ?_⟩
  · unfold anyTok
    simp [ek, TK.vals]
  · rw [ek] at h
    omega

set_option maxHeartbeats 4000000 in
set_option maxRecDepth 100000 in
theorem any_12 (c : Int) (w : World) (h0 : 0 ≤ c) (h1 : c ≤ 65535) (hk : bits .and .u16 c 15 = 12) : Calls Tryz.prog 15 #[.int .u16 c] w (AnyAt c w) := by
  have ek : kOf c = 12 := hk
  go_enter Tryz.func15, Tryz.ntmps15
  go_wp2_with fail
  refine (ws_any _ _ _).mono ?_
  rintro e w' ⟨rfl, rfl⟩
  go_wp2_with fail
  refine bodyPost_ret (v := .agg #[.pointer none, .string ⟨#[110, 97, 110]⟩, .int .i32 0, .int .u32 0, .int .u16 0, .int .u8 29, .int .u8 (wsOf c)]) (by simp [results, Tryz.results15, go_sem, wsOf]) rfl ⟨none, ?_, (Below.refl _ _).alloc (Nat.le_refl _) _, fun h => ?_⟩
  · unfold anyTok
    simp [ek, TK.vals]
  · rw [ek] at h
    omega

set_option maxHeartbeats 4000000 in
set_option maxRecDepth 100000 in
theorem any_13 (c : Int) (w : World) (h0 : 0 ≤ c) (h1 : c ≤ 65535) (hk : bits .and .u16 c 15 = 13) : Calls Tryz.prog 15 #[.int .u16 c] w (AnyAt c w) := by
  have ek : kOf c = 13 := hk
  go_enter Tryz.func15, Tryz.ntmps15
  go_wp2_with fail
  refine (ws_any _ _ _).mono ?_
  rintro e w' ⟨rfl, rfl⟩
  go_wp2_with fail
  refine bodyPost_ret (v := .agg #[.pointer none, .string ⟨#[45, 73, 110, 102, 105, 110, 105, 116, 121]⟩, .int .i32 0, .int .u32 0, .int .u16 0, .int .u8 29, .int .u8 (wsOf c)]) (by simp [results, Tryz.results15, go_sem, wsOf]) rfl ⟨none, ?_, (Below.refl _ _).alloc (Nat.le_refl _) _, fun h => ?_⟩
  · unfold anyTok
    simp [ek, TK.vals]
  · rw [ek] at h
    omega

set_option maxHeartbeats 4000000 in
set_option maxRecDepth 100000 in
theorem any_0 (c : Int) (w : World) (h0 : 0 ≤ c) (h1 : c ≤ 65535) (k : Int) (hk : bits .and .u16 c 15 = k) (k1 : (k == 1) = false) (k2 : (k == 2) = false) (k3 : (k == 3) = false) (k4 : (k == 4) = false) (k5 : (k == 5) = false) (k6 : (k == 6) = false) (k7 : (k == 7) = false) (k8 : (k == 8) = false) (k9 : (k == 9) = false) (k10 : (k == 10) = false) (k11 : (k == 11) = false) (k12 : (k == 12) = false) (k13 : (k == 13) = false) : Calls Tryz.prog 15 #[.int .u16 c] w (AnyAt c w) := by
  have ek : kOf c = k := hk
  go_enter Tryz.func15, Tryz.ntmps15
  go_wp2_with fail
  refine (ws_any _ _ _).mono ?_
  rintro e w' ⟨rfl, rfl⟩
  go_wp2_with fail
  refine (itoa_any _ _ (by omega) (by omega)).mono ?_
  rintro e w2 ⟨rfl, hb⟩
  have hb1 : Below w.heap.size w w2 := ((Below.refl _ _).alloc (Nat.le_refl _) _).trans (hb.mono (by rw [World.size_alloc]; omega))
  have r0 : w2.cell? ⟨w.heap.size, 0, none⟩ = some (.pointer none) := cell_later hb (by simp [go_sem])
  have r1 : w2.cell? ⟨w.heap.size, 1, none⟩ = some (.string ⟨#[]⟩) := cell_later hb (by simp [go_sem])
  have r2 : w2.cell? ⟨w.heap.size, 2, none⟩ = some (.int .i32 0) := cell_later hb (by simp [go_sem])
  have r3 : w2.cell? ⟨w.heap.size, 3, none⟩ = some (.int .u32 0) := cell_later hb (by simp [go_sem])
  have r4 : w2.cell? ⟨w.heap.size, 4, none⟩ = some (.int .u16 0) := cell_later hb (by simp [go_sem])
  have r5 : w2.cell? ⟨w.heap.size, 5, none⟩ = some (.int .u8 0) := cell_later hb (by simp [go_sem])
  have r6 : w2.cell? ⟨w.heap.size, 6, none⟩ = some (.int .u8 0) := cell_later hb (by simp [go_sem])
  have rf : ∀ i, w2.frozen? ⟨w.heap.size, i, none⟩ = false := fun i => (hb.frozen (p := ⟨w.heap.size, i, none⟩) (by rw [World.size_alloc]; show w.heap.size < _; omega)).trans (by simp [go_sem])
  have rf0 := rf 0
  have rf1 := rf 1
  have rf2 := rf 2
  have rf3 := rf 3
  have rf4 := rf 4
  have rf5 := rf 5
  have rf6 := rf 6
  have HB1 := Lib.hid hb1
  have HEK := Lib.hid ek
  clear rf hb hb1 ek
  go_wp2_with fail
  refine bodyPost_ret (v := .agg #[.pointer none, .string (strOfNums (numZ (c / 64))), .int .i32 0, .int .u32 0, .int .u16 0, .int .u8 30, .int .u8 (wsOf c)]) (by simp [results, Tryz.results15, go_sem, wsOf, *]) rfl ⟨none, ?_, ?_, fun h => ?_⟩
  · unfold anyTok
    rw [HEK.out]
    simp only [beq_eq_false_iff_ne] at k1 k2 k3 k4 k5 k6 k7 k8 k9 k10 k11 k12 k13
    simp [k1, k2, k3, k4, k5, k6, k7, k8, k9, k10, k11, k12, k13, TK.vals]
  · exact (((((((HB1.out.setCell (Nat.le_refl _) _).setCell (Nat.le_refl _) _).setCell (Nat.le_refl _) _).setCell (Nat.le_refl _) _).setCell (Nat.le_refl _) _).setCell (Nat.le_refl _) _).setCell (Nat.le_refl _) _)
  · rw [HEK.out] at h
    simp only [beq_eq_false_iff_ne] at k8 k9 k10
    omega

/-- zzAny. -/
theorem any_any (c : Int) (w : World) (h0 : 0 ≤ c) (h1 : c ≤ 65535) : Calls Tryz.prog 15 #[.int .u16 c] w (AnyAt c w) := by
  obtain ⟨k, hk⟩ : ∃ k, bits .and .u16 c 15 = k := ⟨_, rfl⟩
  by_cases k1 : k = 1
  · exact any_1 c w h0 h1 (hk.trans k1)
  by_cases k2 : k = 2
  · exact any_2 c w h0 h1 (hk.trans k2)
  by_cases k3 : k = 3
  · exact any_3 c w h0 h1 (hk.trans k3)
  by_cases k4 : k = 4
  · exact any_4 c w h0 h1 (hk.trans k4)
  by_cases k5 : k = 5
  · exact any_5 c w h0 h1 (hk.trans k5)
  by_cases k6 : k = 6
  · exact any_6 c w h0 h1 (hk.trans k6)
  by_cases k7 : k = 7
  · exact any_7 c w h0 h1 (hk.trans k7)
  by_cases k8 : k = 8
  · exact any_8 c w h0 h1 (hk.trans k8)
  by_cases k9 : k = 9
  · exact any_9 c w h0 h1 (hk.trans k9)
  by_cases k10 : k = 10
  · exact any_10 c w h0 h1 (hk.trans k10)
  by_cases k11 : k = 11
  · exact any_11 c w h0 h1 (hk.trans k11)
  by_cases k12 : k = 12
  · exact any_12 c w h0 h1 (hk.trans k12)
  by_cases k13 : k = 13
  · exact any_13 c w h0 h1 (hk.trans k13)
  exact any_0 c w h0 h1 k hk (beq_eq_false_iff_ne.2 k1) (beq_eq_false_iff_ne.2 k2) (beq_eq_false_iff_ne.2 k3) (beq_eq_false_iff_ne.2 k4) (beq_eq_false_iff_ne.2 k5) (beq_eq_false_iff_ne.2 k6) (beq_eq_false_iff_ne.2 k7) (beq_eq_false_iff_ne.2 k8) (beq_eq_false_iff_ne.2 k9) (beq_eq_false_iff_ne.2 k10) (beq_eq_false_iff_ne.2 k11) (beq_eq_false_iff_ne.2 k12) (beq_eq_false_iff_ne.2 k13)
end Go.Proofs.YthbfppnegodpoaaGreatDoor

