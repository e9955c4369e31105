/-
  The listed variables, laid: the table asciiFold.
-/
import Derived.Test.YthbfppnegodpoaaGreatDoorRows
import Derived.Test.YthbfppnegodpoaaGreatDoorQ
import Derived.ProofKit
import Derived.Lib.LaidU8
import Derived.Lay
namespace Go.Proofs.YthbfppnegodpoaaGreatDoor
open Go.ChangeShapes Go.WideShapes Go.ChangeAt Go.RowKit

theorem g1 : Tryz.prog.globalNamed "unicode.asciiFold" = some 1 := by kernel_rfl
theorem t1 : (Tryz.prog.globals[1]?).map (·.type) = some 109 := by kernel_rfl
theorem u109 : Tryz.prog.underlying 109 = some (.array 128 30) := by kernel_rfl
theorem u30 : Tryz.prog.underlying 30 = some (.int .u16) := by kernel_rfl
theorem c30 : Tryz.prog.cellsOf 30 = 1 := by kernel_rfl

def foldTab : List Int := (List.range 128).map fun (i : Nat) => if i = 107 then 8490 else if i = 115 then 383 else swap (i : Int)
theorem fold_tab : (Rows.laid_unicode_asciiFold : DataW Unit) = .agg (foldTab.map fun z => .lit (.int .u16 z)) := by kernel_rfl
theorem tab_at (c : Nat) (h : c < 128) (h1 : low c ≠ 107) (h2 : low c ≠ 115) : foldTab[c]? = some (swap c) := by
  have n1 : c ≠ 107 := fun e => h1 (by rw [e]; decide)
  have n2 : c ≠ 115 := fun e => h2 (by rw [e]; decide)
  unfold foldTab
  rw [List.getElem?_map, List.getElem?_range h]
  simp [n1, n2]

/-- What the listed table tells. -/
theorem fold_reads {W : World} (h : Lib.VarReads Tryz.prog W "unicode.asciiFold" Rows.laid_unicode_asciiFold) : Fold W := by
  intro c hc h1 h2
  obtain ⟨g, t, cs, fuel, p, hg, ht, hv, hd⟩ := h
  obtain rfl := Option.some.inj (g1.symm.trans hg)
  obtain rfl := Option.some.inj (t1.symm.trans ht)
  rw [fold_tab] at hd
  obtain ⟨f', d, q, hds, htr⟩ := Lib.array_elem u109 hd c hc
  rw [c30, Nat.mul_one] at htr
  obtain ⟨n, hn, hx, _⟩ := DataW.trod_int u30 htr
  rw [List.getElem?_map, tab_at c hc h1 h2] at hds
  simp only [Prod.mk.injEq] at hx
  simp only [Option.map_some, Option.some.injEq] at hds
  rw [hx.1] at hds
  simp only [DataW.lit.injEq, Lit.int.injEq, true_and] at hds
  have e3 := congrArg (·[0]?) hn
  rw [World.var?_cell hg hv c, ← Array.getElem?_toList, hds]
  simpa [List.getElem?_take, List.getElem?_drop] using e3

theorem fold_of {W : World} (hL : laidMet Tryz.prog Rows.fnParsedIdentIsSimplifyFixedPointRow.laid W) : Fold W :=
  fold_reads (Lib.laidMet.reads hL (.tail _ (.tail _ (.tail _ (.tail _ (.tail _ (.tail _ (.tail _ (.tail _ (.tail _ (.tail _ (.tail _ (.tail _ (.head _))))))))))))))
end Go.Proofs.YthbfppnegodpoaaGreatDoor
