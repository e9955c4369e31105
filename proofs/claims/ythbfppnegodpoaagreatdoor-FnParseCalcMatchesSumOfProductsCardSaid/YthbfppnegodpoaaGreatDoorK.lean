/-
  The listed variables, laid: what the road reads of them.
-/
import Derived.Test.YthbfppnegodpoaaGreatDoorRows
import Derived.Test.YthbfppnegodpoaaGreatDoorH
import Derived.ProofKit
import Derived.Lib.LaidU8
import Derived.Lay
namespace Go.Proofs.YthbfppnegodpoaaGreatDoor
open Go.ChangeShapes Go.WideShapes Go.ChangeAt Go.RowKit

theorem g9 : Tryz.prog.globalNamed "internal/strconv.optimize" = some 9 := by kernel_rfl
theorem g10 : Tryz.prog.globalNamed "internal/strconv.float64info" = some 10 := by kernel_rfl
theorem t9 : (Tryz.prog.globals[9]?).map (·.type) = some 4 := by kernel_rfl
theorem t10 : (Tryz.prog.globals[10]?).map (·.type) = some 147 := by kernel_rfl
theorem c75 : Tryz.prog.cellsOf 75 = 1 := by kernel_rfl
def firstField : TypeDesc → Option (Nat × TypeId)
  | .struct fs => (fs[0]?).map fun f => (f.offset, f.type)
  | _ => none
theorem u147 : (Tryz.prog.underlying 147).bind firstField = some (0, 75) := by kernel_rfl
theorem s147 : ∃ fs f, Tryz.prog.underlying 147 = some (.struct fs) ∧ fs[0]? = some f ∧ f.offset = 0 ∧ f.type = 75 := by
  obtain ⟨d, hd, hf⟩ := Option.bind_eq_some_iff.1 u147
  unfold firstField at hf
  split at hf
  · obtain ⟨f, hf, he⟩ := Option.map_eq_some_iff.1 hf
    simp only [Prod.mk.injEq] at he
    exact ⟨_, f, hd, hf, he.1, he.2⟩
  · cases hf
theorem u75 : Tryz.prog.underlying 75 = some (.int .u64) := by kernel_rfl

/-- What the listed variables tell of the tables that the road reads. -/
theorem tabs_of {W : World} (hL : laidMet Tryz.prog Rows.fnParsedNumberIsSimplifyFixedPointRow.laid W) : Tabs W := by
  refine ⟨?_, ?_⟩
  · obtain ⟨g, t, cs, fuel, p, hg, ht, hv, hd⟩ := Lib.laidMet.reads hL (n := "internal/strconv.optimize") (d := Rows.laid_internal_strconv_optimize) (.tail _ (.tail _ (.tail _ (.tail _ (.head _)))))
    obtain rfl := Option.some.inj (g9.symm.trans hg)
    obtain rfl := Option.some.inj (t9.symm.trans ht)
    obtain ⟨b, hcs, hx⟩ := DataW.trod_bool Tryz.underlying4 hd
    have hb : b = true := by simp [Rows.laid_internal_strconv_optimize] at hx; exact hx.1
    subst hb
    have := World.var?_cell hg hv 0
    rw [← Array.getElem?_toList, hcs] at this
    simpa using this
  · obtain ⟨g, t, cs, fuel, p, hg, ht, hv, hd⟩ := Lib.laidMet.reads hL (n := "internal/strconv.float64info") (d := Rows.laid_internal_strconv_float64info) (.tail _ (.tail _ (.tail _ (.head _))))
    obtain rfl := Option.some.inj (g10.symm.trans hg)
    obtain rfl := Option.some.inj (t10.symm.trans ht)
    obtain ⟨fs, f0, hu, hf0, ho, hf5⟩ := s147
    obtain ⟨xs, n, rfl, hx, hl, hxl, hall⟩ := DataW.trod_struct hu hd
    have h0 := hall 0 f0 hf0
    rw [ho, hf5, c75] at h0
    cases hxs : xs with
    | nil => rw [hxs] at hxl; simp at hxl; obtain ⟨hlt, _⟩ := Array.getElem?_eq_some_iff.1 hf0; omega
    | cons x r =>
      rw [hxs] at h0 hx
      simp only [List.getElem?_cons_zero] at h0
      obtain ⟨k, e1, e2, _⟩ := DataW.trod_int u75 h0
      have hk : k = 52 := by
        simp [Rows.laid_internal_strconv_float64info, e2] at hx
        exact hx.1.1.symm
      subst hk
      have hc := World.var?_cell hg hv 0
      rw [List.drop_zero] at e1
      rw [hc, ← Array.getElem?_toList]
      have e3 := congrArg (·[0]?) e1
      simpa using e3
end Go.Proofs.YthbfppnegodpoaaGreatDoor
