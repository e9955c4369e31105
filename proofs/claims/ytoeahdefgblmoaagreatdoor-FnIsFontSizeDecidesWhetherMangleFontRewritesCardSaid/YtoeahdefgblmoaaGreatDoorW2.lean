/-
  A world in which the listed variables of the row FnIsFontSizeDecidesWhetherMangleFontRewrites lie as they are told: three of them are maps.
-/
import Derived.Test.YtoeahdefgblmoaaGreatDoorRows
import Derived.Test.YtoeahdefgblmoaaGreatDoorChecked
import Derived.ProofKit
import Derived.Lay
import Derived.LaidLaws
import Derived.LaidOnce
import Derived.Lib.LaidIn
namespace Go.Proofs.YtoeahdefgblmoaaGreatDoor
open Go.ChangeShapes Go.WideShapes Go.ChangeAt Go.RowKit

def ents : DataW Unit → Obj
  | .map l => .map ((l.zipIdx.filterMap fun x => match x.1 with
    | (.string bs, .lit (.bool b)) => some ⟨.string ⟨bs.toArray⟩, .bool b, x.2⟩
    | _ => none).toArray) l.length
  | _ => .map #[] 0
abbrev laidL : List (String × DataW Unit) := Rows.fnIsFontSizeDecidesWhetherMangleFontRewritesRow.laid
def three : List String := ["github.com/evanw/esbuild/internal/css_parser.fontSizeKeywords", "github.com/evanw/esbuild/internal/css_parser.cssWideAndReservedKeywords", "github.com/evanw/esbuild/internal/css_parser.genericFamilyNames"]
def great : List String := (laidL.map (·.1)).filter fun n => !three.contains n

/-- The world with the three maps. -/
noncomputable def mapWorld (os : Os) : World :=
  let n := (World.settled Tryz.prog os).heap.size
  let w0 := World.holding Tryz.prog os ⟨#[ents Rows.laid_github_com_evanw_esbuild_internal_css_parser_fontSizeKeywords, ents Rows.laid_github_com_evanw_esbuild_internal_css_parser_genericFamilyNames, ents Rows.laid_github_com_evanw_esbuild_internal_css_parser_cssWideAndReservedKeywords], #[], []⟩
  let put (h : Array Obj) (g : Nat) (cs : Array Value) : Array Obj := h.modify g fun
    | .cells _ t frozen => .cells cs t frozen
    | o => o
  { w0 with heap := put (put (put w0.heap 0 #[.map (some n)]) 1 #[.map (some (n + 1))]) 5 #[.map (some (n + 2))] }
noncomputable def laidW (os : Os) : World := (mapWorld os).layVars Tryz.prog (laidL.filter fun x => great.contains x.1)
theorem laidW_os (os : Os) : (laidW os).os = os := by
  unfold laidW
  rw [World.layVars_os]
  rfl
noncomputable def mapBlocks (os : Os) : List Nat := [0, 1, 5, (World.settled Tryz.prog os).heap.size, (World.settled Tryz.prog os).heap.size + 1, (World.settled Tryz.prog os).heap.size + 2]

set_option maxRecDepth 100000 in
theorem maps_in (os : Os) : LaidIn Tryz.prog (laidW os) (laidL.filter fun x => !great.contains x.1) (mapBlocks os) :=
  LaidIn.of_run _ 8 (by kernel_rfl) (by kernel_rfl) (by kernel_rfl) (by kernel_rfl)
set_option maxRecDepth 100000 in
theorem laid_met0 (os : Os) : laidMet Tryz.prog laidL (laidW os) :=
  laidMet_layVars (w0 := mapWorld os) great (mapBlocks os) rfl (by kernel_rfl) (by kernel_rfl) (maps_in os)
theorem laid_met (os : Os) (args : Array Value) : laidMet Tryz.prog laidL ((laidW os).forCall (fun _ _ => 0) ⟨#[], args, []⟩).memory :=
  (laid_met0 os).of_heap (by simp [World.memory, World.forCall, Input.heap])
end Go.Proofs.YtoeahdefgblmoaaGreatDoor
