/-
  The law FnParseCalcParenIsTransparent, walked.
-/
import Derived.Test.YthbfppnegodpoaaGreatDoorK4
import Derived.Test.YthbfppnegodpoaaGreatDoorK7
import Derived.Test.YthbfppnegodpoaaGreatDoorK8
import Derived.Test.YthbfppnegodpoaaGreatDoorN
namespace Go.Proofs.YthbfppnegodpoaaGreatDoor
open Go.RowKit Go.Deep Go.PlainAid

/-- One token alone. -/
theorem parse_one (o : Option CT) : parseOf 1 (fun _ => o) = o := by
  cases o with
  | none => exact parse_none (j := 0) (by omega) rfl
  | some t =>
    have h1 : parseOf 1 (fun _ => some t) = parsed [t] := parse_all (n := 1) (ts := [t]) (lf := fun _ => some t) rfl (fun j hj => by cases j with | zero => rfl | succ k => omega)
    rw [h1]
    unfold parsed
    have e1 : mulPass 1 (Nat.le_refl 1) [t] = [t] := pass_end _ (by simp)
    have e2 : addPass 1 (Nat.le_refl 1) [t] = [t] := pass_end _ (by simp)
    rw [e1, e2]
    rfl


theorem same_o {o : Option CT} (W : World) {D1 D2 : Nat → Prop} {m1 m2 : MV} (h1 : MirO W D1 m1 o) (h2 : MirO W D2 m2 o) : Calls Tryz.prog 18 #[m1.val, m2.val] W fun e w' => e = .returned (.bool true) ∧ Below W.heap.size W w' := by
  cases o with
  | none =>
    rw [show m1 = mvNil from h1, show m2 = mvNil from h2]
    exact same_nil W
  | some t =>
    have h1 : Mir W D1 m1 t := h1
    exact same_any h1.slim W D1 D2 m1 m2 h1 h2

theorem MirO.keep {W W' : World} {D : Nat → Prop} {m : MV} {o : Option CT} (h : MirO W D m o) (hk : Keeps D W W') : MirO W' D m o := by
  cases o with
  | none => exact h
  | some t => exact Mir.keep h hk
theorem MirO.kids {W : World} {D : Nat → Prop} {m : MV} {o : Option CT} (h : MirO W D m o) : ∃ a n c, m.kids = .slice a n c := by
  cases o with
  | none => rw [show m = mvNil from h]; exact ⟨_, _, _, rfl⟩
  | some t => exact Mir.kids h

/-- The call on the wrapped list. -/
theorem wrap_call {w : World} {O C : Nat} {tk : TK} {sa : Option Addr} {n cap' : Nat} {o : Option CT} (ht : TokAt w O 0 tk) (hch : tk.ch = some ⟨C, 0, none⟩) (hcc : w.cell? ⟨C, 0, none⟩ = some (.slice sa n cap'))
    (hk : tk.kd = 33 ∨ (tk.kd = 27 ∧ EF w tk.s wVar false ∧ EF w tk.s wCalc true)) (h30 : ∀ W', Below w.heap.size w W' → Calls Tryz.prog 30 #[.slice sa n cap'] W' (Ans W' o)) {cap : Nat} :
    ∀ W, Below w.heap.size w W → Calls Tryz.prog 30 #[.slice (some ⟨O, 0, none⟩) 1 cap] W (Ans W o) := fun W hb => by
  have h := parse_any W O 1 cap (fun _ => tk) (fun _ => o) (by omega) (fun i hi => by obtain rfl : i = 0 := (by omega); exact ht.below hb) (fun i hi => by
    refine LeafOk.later ?_ hb
    rcases hk with hk | ⟨hk, h1, h2⟩
    · exact .paren hk C sa n cap' o hch hcc h30
    · exact .fcalc hk h1 h2 C sa n cap' o hch hcc h30)
  rw [parse_one] at h
  exact h
end Go.Proofs.YthbfppnegodpoaaGreatDoor
