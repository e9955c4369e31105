/-
  The printer's row at its beginning, stored at once.
-/
import Derived.Test.YtiplakadjkimmabGreatFmtC
import Derived.Test.YtiplakadjkimmabGreatFmtD
import Derived.Deep.DeepCutAuto
import Derived.Deep.RegionHeld3
namespace Go.Proofs.YtiplakadjkimmabGreatFmt
open Go.RowKit Go.Deep Go.Maps

def optV : Array Value := #[.pointer none, .slice none 0 0, .map none, .int .i64 0, .int .u32 0, .int .u16 0, .bool false, .bool false, .int .u8 0, .bool false, .int .u8 2, .bool false, .int .u8 0]

/-- The printer's zero row, and its row when Print begins. -/
def prnZ : Array Value := #[.pointer none, .slice none 0 0, .map none, .int .i64 0, .int .u32 0, .int .u16 0, .bool false, .bool false, .int .u8 0, .bool false, .int .u8 0, .bool false, .int .u8 0, .slice none 0 0, .slice none 0 0, .slice none 0 0, .map none, .slice none 0 0, .slice none 0 0, .pointer none, .slice none 0 0, .slice none 0 0, .map none, .slice none 0 0, .string ⟨#[]⟩, .int .i64 0, .int .i64 0, .int .i64 0, .int .i64 0, .int .i64 0, .int .i64 0, .bool false, .int .i64 0, .int .i64 0, .int .i64 0, .int .i32 0, .int .u32 0, .bool false, .bool false, .bool false, .bool false, .int .i64 0, .int .i64 0]
def prnV (m : Nat) : Array Value := #[.pointer none, .slice none 0 0, .map none, .int .i64 0, .int .u32 0, .int .u16 0, .bool false, .bool false, .int .u8 0, .bool false, .int .u8 2, .bool false, .int .u8 0, .slice none 0 0, .slice none 0 0, .slice none 0 0, .map none, .slice none 0 0, .slice none 0 0, .pointer none, .slice none 0 0, .slice none 0 0, .map (some m), .slice none 0 0, .string ⟨#[]⟩, .int .i64 0, .int .i64 0, .int .i64 0, .int .i64 0, .int .i64 0, .int .i64 0, .bool false, .int .i64 0, .int .i64 0, .int .i64 0, .int .i32 (-1), .int .u32 0, .bool false, .bool false, .bool false, .bool true, .int .i64 0, .int .i64 0]

theorem info85 : (Tryz.prog.info? 85).map (·.size) = some 43 := by kernel_rfl
theorem size_prn (m : Nat) : (prnV m).size = 43 := rfl
theorem size_prnZ : prnZ.size = 43 := rfl
theorem one_prn (m : Nat) : (prnV m).all (·.oneCell') = true := by simp [prnV, Value.oneCell']


def blkOf : Value → Nat
  | .pointer (some a) => a.block
  | _ => 0
def cellsOf : Value → Array Value
  | .agg cs => cs
  | _ => #[]
@[go_sem] theorem blkOf_ptr (a : Addr) : blkOf (.pointer (some a)) = a.block := rfl
@[go_sem] theorem cellsOf_agg (cs : Array Value) : cellsOf (.agg cs) = cs := rfl
def fit85 (cs : Array Value) : Prop := cs.size = 43 ∧ cs.all (·.oneCell') = true
@[go_sem] theorem fit_prn (m : Nat) : fit85 #[.pointer none, .slice none 0 0, .map none, .int .i64 0, .int .u32 0, .int .u16 0, .bool false, .bool false, .int .u8 0, .bool false, .int .u8 2, .bool false, .int .u8 0, .slice none 0 0, .slice none 0 0, .slice none 0 0, .map none, .slice none 0 0, .slice none 0 0, .pointer none, .slice none 0 0, .slice none 0 0, .map (some m), .slice none 0 0, .string ⟨#[]⟩, .int .i64 0, .int .i64 0, .int .i64 0, .int .i64 0, .int .i64 0, .int .i64 0, .bool false, .int .i64 0, .int .i64 0, .int .i64 0, .int .i32 (-1), .int .u32 0, .bool false, .bool false, .bool false, .bool true, .int .i64 0, .int .i64 0] = True := eq_true ⟨size_prn m, one_prn m⟩

/-- Block g is the printer's zero row. -/
def zero85 (w : World) (g : Nat) : Prop := w.heap[g]? = some (.cells prnZ 85 (0, 0))

/-- Is it the store of a value of type 85? From where, and to where. -/
def isSt85 : Op → Bool
  | .store t _ _ => t == 85
  | _ => false
def stX : Op → Operand
  | .store _ x _ => x
  | _ => .const undef
def stY : Op → Operand
  | .store _ _ y => y
  | _ => .const undef

/-- The printer is stored at once. -/
@[go_sem ↓] theorem wp_store_prn (o : Oper) (a : Act) (w : World) (K : Act → World → Prop) (Q : Exit → Act → World → Prop) (h85 : isSt85 o.op = true)
    (hx : a.eval (stX o.op) = .pointer (some ⟨blkOf (a.eval (stX o.op)), 0, none⟩)) (hy : a.eval (stY o.op) = .agg (cellsOf (a.eval (stY o.op)))) (hg : zero85 w (blkOf (a.eval (stX o.op)))) (hf : fit85 (cellsOf (a.eval (stY o.op)))) :
    Oper.wp Tryz.prog o a w K Q = K (a.put o.dst undef) (w.setRow (blkOf (a.eval (stX o.op))) (cellsOf (a.eval (stY o.op)))) := by
  obtain ⟨dst, op, ty, pos, after, gd⟩ := o
  cases op <;> first | (exact absurd h85 Bool.false_ne_true) | skip
  rename_i t x y
  have ht : t = 85 := by simpa [isSt85] using h85
  subst ht
  simp only [stX, stY] at *
  generalize blkOf (a.eval x) = g at *
  generalize cellsOf (a.eval y) = cs at *
  have hs := run_storeVar_row (P := Tryz.prog) w g 85 85 prnZ cs hg (by rw [hf.1]; exact info85) (by rw [hf.1]; rfl) hf.2
  unfold Oper.wp execOp
  simp only [hx, hy, Instr.storeAt, Instr.sureAddr, Sem.run_bind, Sem.run_pure, Result.andThen_ok, hs]
  rfl
attribute [go_sem] isSt85 stX stY

theorem zero85_last (V : World) : zero85 (V.alloc (.cells #[.pointer none, .slice none 0 0, .map none, .int .i64 0, .int .u32 0, .int .u16 0, .bool false, .bool false, .int .u8 0, .bool false, .int .u8 0, .bool false, .int .u8 0, .slice none 0 0, .slice none 0 0, .slice none 0 0, .map none, .slice none 0 0, .slice none 0 0, .pointer none, .slice none 0 0, .slice none 0 0, .map none, .slice none 0 0, .string ⟨#[]⟩, .int .i64 0, .int .i64 0, .int .i64 0, .int .i64 0, .int .i64 0, .int .i64 0, .bool false, .int .i64 0, .int .i64 0, .int .i64 0, .int .i32 0, .int .u32 0, .bool false, .bool false, .bool false, .bool false, .int .i64 0, .int .i64 0] 85)) V.heap.size := heap_alloc_new V (.cells prnZ 85)
@[go_sem] theorem zero85_last' (V : World) : zero85 (V.alloc (.cells #[.pointer none, .slice none 0 0, .map none, .int .i64 0, .int .u32 0, .int .u16 0, .bool false, .bool false, .int .u8 0, .bool false, .int .u8 0, .bool false, .int .u8 0, .slice none 0 0, .slice none 0 0, .slice none 0 0, .map none, .slice none 0 0, .slice none 0 0, .pointer none, .slice none 0 0, .slice none 0 0, .map none, .slice none 0 0, .string ⟨#[]⟩, .int .i64 0, .int .i64 0, .int .i64 0, .int .i64 0, .int .i64 0, .int .i64 0, .bool false, .int .i64 0, .int .i64 0, .int .i64 0, .int .i32 0, .int .u32 0, .bool false, .bool false, .bool false, .bool false, .int .i64 0, .int .i64 0] 85)) V.heap.size = True := eq_true (zero85_last V)


theorem later_prn {V w' : World} (hb : Below (V.alloc (.cells #[.pointer none, .slice none 0 0, .map none, .int .i64 0, .int .u32 0, .int .u16 0, .bool false, .bool false, .int .u8 0, .bool false, .int .u8 0, .bool false, .int .u8 0, .slice none 0 0, .slice none 0 0, .slice none 0 0, .map none, .slice none 0 0, .slice none 0 0, .pointer none, .slice none 0 0, .slice none 0 0, .map none, .slice none 0 0, .string ⟨#[]⟩, .int .i64 0, .int .i64 0, .int .i64 0, .int .i64 0, .int .i64 0, .int .i64 0, .bool false, .int .i64 0, .int .i64 0, .int .i64 0, .int .i32 0, .int .u32 0, .bool false, .bool false, .bool false, .bool false, .int .i64 0, .int .i64 0] 85)).heap.size (V.alloc (.cells #[.pointer none, .slice none 0 0, .map none, .int .i64 0, .int .u32 0, .int .u16 0, .bool false, .bool false, .int .u8 0, .bool false, .int .u8 0, .bool false, .int .u8 0, .slice none 0 0, .slice none 0 0, .slice none 0 0, .map none, .slice none 0 0, .slice none 0 0, .pointer none, .slice none 0 0, .slice none 0 0, .map none, .slice none 0 0, .string ⟨#[]⟩, .int .i64 0, .int .i64 0, .int .i64 0, .int .i64 0, .int .i64 0, .int .i64 0, .bool false, .int .i64 0, .int .i64 0, .int .i64 0, .int .i32 0, .int .u32 0, .bool false, .bool false, .bool false, .bool false, .int .i64 0, .int .i64 0] 85)) w') : zero85 w' V.heap.size :=
  (hb.block _ (by rw [World.size_alloc]; omega)).trans (zero85_last V)
theorem later_prn' {V w' : World} (hb : Below (V.alloc (.cells #[.pointer none, .slice none 0 0, .map none, .int .i64 0, .int .u32 0, .int .u16 0, .bool false, .bool false, .int .u8 0, .bool false, .int .u8 0, .bool false, .int .u8 0, .slice none 0 0, .slice none 0 0, .slice none 0 0, .map none, .slice none 0 0, .slice none 0 0, .pointer none, .slice none 0 0, .slice none 0 0, .map none, .slice none 0 0, .string ⟨#[]⟩, .int .i64 0, .int .i64 0, .int .i64 0, .int .i64 0, .int .i64 0, .int .i64 0, .bool false, .int .i64 0, .int .i64 0, .int .i64 0, .int .i32 0, .int .u32 0, .bool false, .bool false, .bool false, .bool false, .int .i64 0, .int .i64 0] 85)).drew.heap.size (V.alloc (.cells #[.pointer none, .slice none 0 0, .map none, .int .i64 0, .int .u32 0, .int .u16 0, .bool false, .bool false, .int .u8 0, .bool false, .int .u8 0, .bool false, .int .u8 0, .slice none 0 0, .slice none 0 0, .slice none 0 0, .map none, .slice none 0 0, .slice none 0 0, .pointer none, .slice none 0 0, .slice none 0 0, .map none, .slice none 0 0, .string ⟨#[]⟩, .int .i64 0, .int .i64 0, .int .i64 0, .int .i64 0, .int .i64 0, .int .i64 0, .bool false, .int .i64 0, .int .i64 0, .int .i64 0, .int .i32 0, .int .u32 0, .bool false, .bool false, .bool false, .bool false, .int .i64 0, .int .i64 0] 85)).drew w') : zero85 w' V.heap.size :=
  (hb.block _ (by show V.heap.size < (World.alloc _ _).heap.size; rw [World.size_alloc]; omega)).trans (zero85_last V)

/-- The result's zero row. -/
def resZ : Array Value := #[.slice none 0 0, .slice none 0 0, .slice none 0 0, .slice none 0 0, .int .u32 0, .slice none 0 0, .int .i64 0, .int .i64 0, .int .i64 0, .int .i64 0, .int .i64 0, .int .i64 0, .bool false, .int .i64 0, .bool false]

/-- The boxes that Print begins with: tree, symbols, options, result. -/
def Boxes (s : Nat) (v : Value) (W : World) : Prop :=
  W.heap.size = s + 4 ∧ W.heap[s]? = some (.cells (treeV v) 52 (0, 0)) ∧ W.heap[s + 1]? = some (.cells #[.slice none 0 0] 69 (0, 0)) ∧ W.heap[s + 2]? = some (.cells optV 79 (0, 0)) ∧ W.heap[s + 3]? = some (.cells resZ 65 (0, 0))

theorem heap_new_at (V : World) (o : Obj) (k : Nat) (hk : k = V.heap.size) : (V.alloc o).heap[k]? = some o := by
  subst hk
  exact heap_alloc_new V o

theorem boxes_made (w : World) (v : Value) : Boxes w.heap.size v ((((w.alloc (.cells (treeV v) 52)).alloc (.cells #[.slice none 0 0] 69)).alloc (.cells optV 79)).alloc (.cells resZ 65)) := by
  refine ⟨by simp only [World.size_alloc], ?_, ?_, ?_, ?_⟩
  · rw [Below.heap_alloc _ _ _ (by simp only [World.size_alloc]; omega), Below.heap_alloc _ _ _ (by simp only [World.size_alloc]; omega), Below.heap_alloc _ _ _ (by simp only [World.size_alloc]; omega)]
    exact heap_alloc_new _ _
  · rw [Below.heap_alloc _ _ _ (by simp only [World.size_alloc]; omega), Below.heap_alloc _ _ _ (by simp only [World.size_alloc]; omega)]
    exact heap_new_at _ _ _ (by simp only [World.size_alloc])
  · rw [Below.heap_alloc _ _ _ (by simp only [World.size_alloc]; omega)]
    exact heap_new_at _ _ _ (by simp only [World.size_alloc])
  · exact heap_new_at _ _ _ (by simp only [World.size_alloc])

theorem below_made (w : World) (A B C D : Obj) : Below w.heap.size w ((((w.alloc A).alloc B).alloc C).alloc D) :=
  ((((Below.refl _ _).alloc (Nat.le_refl _) _).alloc (by simp only [World.size_alloc]; omega) _).alloc (by simp only [World.size_alloc]; omega) _).alloc (by simp only [World.size_alloc]; omega) _

/-- The cells that the first region loads. -/
def Cells1 (s : Nat) (W : World) : Prop :=
  W.cell? ⟨s, 2, none⟩ = some (.slice none 0 0) ∧ W.cell? ⟨s + 1, 0, none⟩ = some (.slice none 0 0) ∧ ∀ o, W.cell? ⟨s + 1 + 1, o, none⟩ = optV[o]?

theorem cells1 {s : Nat} {v : Value} {W W' : World} (h : Boxes s v W) (hb : Below (s + 4) W W') : Cells1 s W' := by
  obtain ⟨hs, h0, h1, h2, _⟩ := h
  refine ⟨?_, ?_, fun o => ?_⟩
  · rw [hb.cell (p := ⟨s, 2, none⟩) (show s < s + 4 by omega)]; simp [World.cell?, h0, treeV]
  · rw [hb.cell (p := ⟨s + 1, 0, none⟩) (show s + 1 < s + 4 by omega)]; simp [World.cell?, h1]
  · rw [hb.cell (p := ⟨s + 1 + 1, o, none⟩) (show s + 2 < s + 4 by omega)]; simp [World.cell?, h2]

theorem below_call {s : Nat} {W V V' : World} (h : Below (s + 4) W V) (hs : s + 4 ≤ V.heap.size) (hb : Below V.heap.size V V') : Below (s + 4) W V' := h.trans (hb.mono hs)

theorem prn_start (W : World) (g m : Nat) (hg : zero85 W g) : Prn g [] (W.setRow g (prnV m)) := by
  have hc := fun j => cell_setRow_same W g j prnZ (prnV m) 85 (0, 0) hg
  have hh := setRow_heap W g prnZ (prnV m) 85 (0, 0) hg
  refine ⟨hc 10, ⟨?_, ?_⟩, ⟨hc 15, hc 18⟩, ⟨_, hc 17, ?_⟩, .inl ⟨rfl, hc 16⟩⟩
  · simp [World.frozen?, hh]
  · simp [World.frozen?, hh]
  · exact ⟨rfl, .inl ⟨rfl, rfl⟩⟩
end Go.Proofs.YtiplakadjkimmabGreatFmt
