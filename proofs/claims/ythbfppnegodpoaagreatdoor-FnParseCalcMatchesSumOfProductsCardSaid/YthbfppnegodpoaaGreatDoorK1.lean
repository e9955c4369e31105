/-
  The conversion of a calc tree into plain data, walked.
-/
import Derived.Test.YthbfppnegodpoaaGreatDoorJ3
namespace Go.Proofs.YthbfppnegodpoaaGreatDoor
open Go.RowKit Go.Deep Go.PlainAid Ieee

/-- A float is stored as any other value of one cell. -/
@[go_sem] theorem run_store_float {P : Program} {w : World} {a : Addr} {m : Mode} (k : FloatKind) (b : Nat) : (store a (.float k b) m).run P w = stored P w a (.float k b) m := run_store P w a _ m rfl

/-- A mirrored tree's node. -/
structure MV where
  tag : Int
  unit : ByteArray
  num : Nat
  kind : Int
  text : ByteArray
  ws : Int
  inv : Bool
  kids : Value
def MV.val (m : MV) : Value := .agg #[.int .i64 m.tag, .string m.unit, .float .f64 m.num, .int .u8 m.kind, .string m.text, .int .u8 m.ws, .bool m.inv, m.kids]

/-- A node in memory. -/
structure MVAt (W : World) (b o : Nat) (m : MV) : Prop where
  c0 : W.cell? ⟨b, o, none⟩ = some (.int .i64 m.tag)
  c1 : W.cell? ⟨b, o + 1, none⟩ = some (.string m.unit)
  c2 : W.cell? ⟨b, o + 2, none⟩ = some (.float .f64 m.num)
  c3 : W.cell? ⟨b, o + 3, none⟩ = some (.int .u8 m.kind)
  c4 : W.cell? ⟨b, o + 4, none⟩ = some (.string m.text)
  c5 : W.cell? ⟨b, o + 5, none⟩ = some (.int .u8 m.ws)
  c6 : W.cell? ⟨b, o + 6, none⟩ = some (.bool m.inv)
  c7 : W.cell? ⟨b, o + 7, none⟩ = some m.kids

def isNaN (x : Nat) : Prop := (double.order x x == some .eq) = false
/-- The same number, or both none. -/
def SameF (x y : Nat) : Prop := x = y ∨ (isNaN x ∧ isNaN y)

/-- The node mirrors the tree, in blocks of D. -/
inductive Mir (W : World) (D : Nat → Prop) : MV → CT → Prop
  | num (u : ByteArray) (x y : Nat) (h : SameF x y) : Mir W D ⟨1, u, y, 0, ⟨#[]⟩, 0, false, .slice none 0 0⟩ (.num u x)
  | val (k : Int) (t : ByteArray) (ws : Int) (bad : Bool) : Mir W D ⟨2, ⟨#[]⟩, 0, k, t, ws, bad, .slice none 0 0⟩ (.val k t ws bad)
  | sum (r cap : Nat) (l : List CT) (ms : Nat → MV) (h0 : 0 < l.length ∧ l.length ≤ 8192) (hr : D r) (cs : ∀ i, i < l.length → MVAt W r (i * 8) (ms i)) (rs : ∀ i, i < l.length → Mir W D (ms i) (l.getD i dT)) :
      Mir W D ⟨3, ⟨#[]⟩, 0, 0, ⟨#[]⟩, 0, false, .slice (some ⟨r, 0, none⟩) l.length cap⟩ (.sum l)
  | prod (r cap : Nat) (l : List CT) (ms : Nat → MV) (h0 : 0 < l.length ∧ l.length ≤ 8192) (hr : D r) (cs : ∀ i, i < l.length → MVAt W r (i * 8) (ms i)) (rs : ∀ i, i < l.length → Mir W D (ms i) (l.getD i dT)) :
      Mir W D ⟨4, ⟨#[]⟩, 0, 0, ⟨#[]⟩, 0, false, .slice (some ⟨r, 0, none⟩) l.length cap⟩ (.prod l)
  | neg (r cap : Nat) (m : MV) (t : CT) (hr : D r) (c : MVAt W r 0 m) (h : Mir W D m t) : Mir W D ⟨5, ⟨#[]⟩, 0, 0, ⟨#[]⟩, 0, false, .slice (some ⟨r, 0, none⟩) 1 cap⟩ (.neg t)
  | inv (r cap : Nat) (m : MV) (t : CT) (hr : D r) (c : MVAt W r 0 m) (h : Mir W D m t) : Mir W D ⟨6, ⟨#[]⟩, 0, 0, ⟨#[]⟩, 0, false, .slice (some ⟨r, 0, none⟩) 1 cap⟩ (.inv t)

theorem MVAt.keep {W W' : World} {D : Nat → Prop} {b o : Nat} {m : MV} (h : MVAt W b o m) (hb : D b) (hk : Keeps D W W') : MVAt W' b o m :=
  ⟨hk _ _ _ hb h.c0, hk _ _ _ hb h.c1, hk _ _ _ hb h.c2, hk _ _ _ hb h.c3, hk _ _ _ hb h.c4, hk _ _ _ hb h.c5, hk _ _ _ hb h.c6, hk _ _ _ hb h.c7⟩

theorem Mir.keep {W W' : World} {D : Nat → Prop} {m : MV} {t : CT} (h : Mir W D m t) (hk : Keeps D W W') : Mir W' D m t := by
  induction h with
  | num u x y h => exact .num u x y h
  | val k t ws bad => exact .val k t ws bad
  | sum r cap l ms h0 hr cs rs ih => exact .sum r cap l ms h0 hr (fun i hi => (cs i hi).keep hr hk) ih
  | prod r cap l ms h0 hr cs rs ih => exact .prod r cap l ms h0 hr (fun i hi => (cs i hi).keep hr hk) ih
  | neg r cap m t hr c h ih => exact .neg r cap m t hr (c.keep hr hk) ih
  | inv r cap m t hr c h ih => exact .inv r cap m t hr (c.keep hr hk) ih

theorem Mir.weaken {W : World} {D D' : Nat → Prop} {m : MV} {t : CT} (h : Mir W D m t) (hl : ∀ b, b < W.heap.size → D b → D' b) : Mir W D' m t := by
  have hc : ∀ {b o : Nat} {m : MV}, D b → MVAt W b o m → D' b := fun hb c => hl _ (World.block_lt_of_cell? _ _ c.c0) hb
  induction h with
  | num u x y h => exact .num u x y h
  | val k t ws bad => exact .val k t ws bad
  | sum r cap l ms h0 hr cs rs ih => exact .sum r cap l ms h0 (hc hr (cs 0 h0.1)) cs ih
  | prod r cap l ms h0 hr cs rs ih => exact .prod r cap l ms h0 (hc hr (cs 0 h0.1)) cs ih
  | neg r cap m t hr c h ih => exact .neg r cap m t (hc hr c) c ih
  | inv r cap m t hr c h ih => exact .inv r cap m t (hc hr c) c ih

theorem assert_nil (t : TypeId) (d : TypeId) (ht : Tryz.prog.underlying t = some (.pointer d)) (hz : ∀ w, (zeroValue t).run Tryz.prog w = .ok (.pointer none) w) (w : World) : (Instr.typeAssert .nilIface 70 t true).run Tryz.prog w = .ok (.tuple #[.pointer none, .bool false]) w := by
  simp [Instr.typeAssert, run_underlying ht, hz]

def mvNil : MV := ⟨0, ⟨#[]⟩, 0, 0, ⟨#[]⟩, 0, false, .slice none 0 0⟩

set_option maxHeartbeats 4000000 in
set_option maxRecDepth 100000 in
theorem tree_nil (w : World) : Calls Tryz.prog 33 #[.nilIface] w fun e w' => e = .returned mvNil.val ∧ Below w.heap.size w w' := by
  have h34 := assert_nil 34 73 Tryz.underlying34 (fun _ => by kernel_rfl)
  have h54 := assert_nil 54 80 Tryz.underlying54 (fun _ => by kernel_rfl)
  have h102 := assert_nil 102 99 Tryz.underlying102 (fun _ => by kernel_rfl)
  have h98 := assert_nil 98 94 Tryz.underlying98 (fun _ => by kernel_rfl)
  have h100 := assert_nil 100 101 Tryz.underlying100 (fun _ => by kernel_rfl)
  have h95 := assert_nil 95 97 Tryz.underlying95 (fun _ => by kernel_rfl)
  go_enter Tryz.func33, Tryz.ntmps33
  go_wp2_with fail
  refine bodyPost_ret (v := mvNil.val) (by simp [results, Tryz.results33, go_sem, MV.val, mvNil]) rfl ⟨rfl, (Below.refl _ _).alloc (Nat.le_refl _) _⟩

/-- What the conversion answers. -/
def Conv (t : CT) (w : World) (e : Ending) (w' : World) : Prop := ∃ m, e = .returned m.val ∧ Below w.heap.size w w' ∧ Mir w' (w.heap.size ≤ ·) m t

set_option maxHeartbeats 4000000 in
set_option maxRecDepth 100000 in
theorem tree_num (w : World) (b : Nat) (u : ByteArray) (x : Nat) (c0 : w.cell? ⟨b, 0, none⟩ = some (.string u)) (c1 : w.cell? ⟨b, 1, none⟩ = some (.float .f64 x)) :
    Calls Tryz.prog 33 #[.iface 34 (.pointer (some ⟨b, 0, none⟩))] w (Conv (.num u x) w) := by
  have ha := run_assert_same (P := Tryz.prog) (.pointer (some ⟨b, 0, none⟩)) 70 34 73 Tryz.underlying34
  have hbl := World.block_lt_of_cell? _ _ c0
  go_enter Tryz.func33, Tryz.ntmps33
  go_wp2_with fail
  go_region
  go_wp2_with fail
  refine bodyPost_ret (v := MV.val ⟨1, u, x, 0, ⟨#[]⟩, 0, false, .slice none 0 0⟩) (by simp [results, Tryz.results33, go_sem, MV.val]) rfl ⟨_, rfl, ((Below.refl _ _).alloc (Nat.le_refl _) _).drew, .num u x x (.inl rfl)⟩

theorem otherT34_54 (b : Nat) : ∀ w, (Instr.typeAssert (.iface 54 (.pointer (some ⟨b, 0, none⟩))) 70 34 true).run Tryz.prog w = .ok (.tuple #[.pointer none, .bool false]) w := run_assert_other (P := Tryz.prog) _ 70 34 54 73 Tryz.underlying34 (by decide) (fun _ => by kernel_rfl)

set_option maxHeartbeats 4000000 in
set_option maxRecDepth 100000 in
theorem tree_val (w : World) (b : Nat) (k : Int) (t : ByteArray) (ws : Int) (bad : Bool) (c1 : w.cell? ⟨b, 1, none⟩ = some (.string t)) (c5 : w.cell? ⟨b, 5, none⟩ = some (.int .u8 k)) (c6 : w.cell? ⟨b, 6, none⟩ = some (.int .u8 ws)) (c7 : w.cell? ⟨b, 7, none⟩ = some (.bool bad)) :
    Calls Tryz.prog 33 #[.iface 54 (.pointer (some ⟨b, 0, none⟩))] w (Conv (.val k t ws bad) w) := by
  have h1 := otherT34_54 b
  have ha := run_assert_same (P := Tryz.prog) (.pointer (some ⟨b, 0, none⟩)) 70 54 80 Tryz.underlying54
  have hbl := World.block_lt_of_cell? _ _ c1
  go_enter Tryz.func33, Tryz.ntmps33
  go_wp2_with fail
  go_region
  go_wp2_with fail
  refine bodyPost_ret (v := MV.val ⟨2, ⟨#[]⟩, 0, k, t, ws, bad, .slice none 0 0⟩) (by simp [results, Tryz.results33, go_sem, MV.val]) rfl ⟨_, rfl, ((Below.refl _ _).alloc (Nat.le_refl _) _).drew, .val k t ws bad⟩
end Go.Proofs.YthbfppnegodpoaaGreatDoor
