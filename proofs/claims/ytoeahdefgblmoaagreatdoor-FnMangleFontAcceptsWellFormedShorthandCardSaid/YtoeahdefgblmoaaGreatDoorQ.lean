/-
  The laid variables of the row FnMangleFontAcceptsWellFormedShorthand.
-/
import Derived.Test.YtoeahdefgblmoaaGreatDoorRows
import Derived.Test.YtoeahdefgblmoaaGreatDoorN2
import Derived.ProofKit
import Derived.Lib.LaidTab
import Derived.Lib.LaidU8
import Derived.WideKeyElems2
import Derived.WideKeyArgs
import Derived.Maps.OwnSet
import Derived.Lay
namespace Go.Proofs.YtoeahdefgblmoaaGreatDoor
open Go.ChangeShapes Go.WideShapes Go.ChangeAt Go.RowKit Go.Maps

/-- A variable that is a map of bools, laid. -/
theorem map_of {W : World} {name : String} {g : Nat} {D : DataW Unit} (hg0 : Tryz.prog.globalNamed name = some g) (ht0 : (Tryz.prog.globals[g]?).map (·.type) = some 99) (hn : D ≠ .nil) (h : Lib.VarReads Tryz.prog W name D) : MapAt W g D := by
  obtain ⟨g', t, cs, fuel, p, hg, hty, hvar, hd⟩ := h
  obtain rfl := Option.some.inj (hg0.symm.trans hg)
  obtain rfl := Option.some.inj (ht0.symm.trans hty)
  rcases Go.WideElems.open_map Tryz.underlying99 hd with ⟨_, hx⟩ | ⟨b, es, clock, n, rfl, hcs, hb, _, F, hx⟩
  · exact absurd (congrArg Prod.fst hx) hn
  · have hD := congrArg Prod.fst hx
    have hown := World.ownsMap_of_fit (R := plainElem Tryz.prog 4) hb F (fun x _ z hz => by
      obtain ⟨bb, hv, hzz⟩ := Go.WideElems.elemAt_bool Tryz.underlying4 hz
      rw [hv, hzz]
      exact plainElem_bool Tryz.underlying4 bb)
    refine ⟨b, es.size, ?_, ?_⟩
    · have := World.var?_cell hg hvar 0
      rw [← Array.getElem?_toList, hcs] at this
      simpa using this
    · rw [show D = _ from hD]
      exact hown

section
variable {H : Type} {enc : TypeId × Value → H} {P : Program} {w : World} {base : Nat} {held : Bool}
theorem float_is {spare : Nat → Bool} {e : TypeId} {fuel : Nat} {v : Value} {b : Nat} {p : List MemPlace} (he : P.underlying e = some (.float .f64)) (h : DataW.trod enc P w base spare held fuel e [v] = some (.lit (.float .f64 b), p)) : v = .float .f64 b := by
  cases fuel with
  | zero => simp [DataW.trod] at h
  | succ n =>
    unfold DataW.trod at h
    rw [he] at h
    split at h <;> simp_all
end

def firstField : TypeDesc → Option (Nat × TypeId)
  | .struct fs => (fs[0]?).map fun f => (f.offset, f.type)
  | _ => none
theorem u162 : (Tryz.prog.underlying 162).bind firstField = some (0, 147) := by kernel_rfl
theorem s162 : ∃ fs f, Tryz.prog.underlying 162 = some (.struct fs) ∧ fs[0]? = some f ∧ f.offset = 0 ∧ f.type = 147 := by
  obtain ⟨d, hd, hf⟩ := Option.bind_eq_some_iff.1 u162
  unfold firstField at hf
  split at hf
  · obtain ⟨f, hf, he⟩ := Option.map_eq_some_iff.1 hf
    simp only [Prod.mk.injEq] at he
    exact ⟨_, f, hd, hf, he.1, he.2⟩
  · cases hf
theorem u147 : Tryz.prog.underlying 147 = some (.int .u64) := by kernel_rfl
theorem u91 : Tryz.prog.underlying 91 = some (.float .f64) := by kernel_rfl
theorem u204 : Tryz.prog.underlying 204 = some (.slice 91) := by kernel_rfl
theorem c147 : Tryz.prog.cellsOf 147 = 1 := by kernel_rfl
theorem c91 : Tryz.prog.cellsOf 91 = 1 := by kernel_rfl

theorem opt_of {W : World} (h : Lib.VarReads Tryz.prog W "internal/strconv.optimize" Rows.laid_internal_strconv_optimize) : W.cell? ⟨10, 0, none⟩ = some (.bool true) := by
  obtain ⟨g, t, cs, fuel, p, hg, ht, hv, hd⟩ := h
  obtain rfl := Option.some.inj ((show Tryz.prog.globalNamed "internal/strconv.optimize" = some 10 by kernel_rfl).symm.trans hg)
  obtain rfl := Option.some.inj ((show (Tryz.prog.globals[10]?).map (·.type) = some 4 by kernel_rfl).symm.trans ht)
  obtain ⟨b, hcs, hx⟩ := DataW.trod_bool Tryz.underlying4 hd
  have hb : b = true := by simp [Rows.laid_internal_strconv_optimize] at hx; exact hx.1
  subst hb
  have := World.var?_cell hg hv 0
  rw [← Array.getElem?_toList, hcs] at this
  simpa using this

theorem info_of {W : World} (h : Lib.VarReads Tryz.prog W "internal/strconv.float64info" Rows.laid_internal_strconv_float64info) : W.cell? ⟨11, 0, none⟩ = some (.int .u64 52) := by
  obtain ⟨g, t, cs, fuel, p, hg, ht, hv, hd⟩ := h
  obtain rfl := Option.some.inj ((show Tryz.prog.globalNamed "internal/strconv.float64info" = some 11 by kernel_rfl).symm.trans hg)
  obtain rfl := Option.some.inj ((show (Tryz.prog.globals[11]?).map (·.type) = some 162 by kernel_rfl).symm.trans ht)
  obtain ⟨fs, f0, hu, hf0, ho, hf5⟩ := s162
  obtain ⟨xs, n, rfl, hx, hl, hxl, hall⟩ := DataW.trod_struct hu hd
  have h0 := hall 0 f0 hf0
  rw [ho, hf5, c147] at h0
  cases hxs : xs with
  | nil => rw [hxs] at hxl; simp at hxl; obtain ⟨hlt, _⟩ := Array.getElem?_eq_some_iff.1 hf0; omega
  | cons x r =>
    rw [hxs] at h0 hx
    simp only [List.getElem?_cons_zero] at h0
    obtain ⟨k, e1, e2, _⟩ := DataW.trod_int u147 h0
    have hk : k = 52 := by
      simp [Rows.laid_internal_strconv_float64info, e2] at hx
      exact hx.1.1.symm
    subst hk
    have hc := World.var?_cell hg hv 0
    rw [List.drop_zero] at e1
    rw [hc, ← Array.getElem?_toList]
    have e3 := congrArg (·[0]?) e1
    simpa using e3

/-- A datum's slice: how many, and what the second reads as. -/
def second : DataW Unit → Option (Nat × DataW Unit)
  | .slice l _ => (l[1]?).map fun d => (l.length, d)
  | _ => none
theorem pow_second : second Rows.laid_internal_strconv_float64pow10 = some (23, .lit (.float .f64 4621819117588971520)) := by rfl
theorem pow_not : (Rows.laid_internal_strconv_float64pow10 : DataW Unit) ≠ .nil := fun h => by
  have := pow_second
  rw [h] at this
  cases this

theorem ten_of {W : World} (h : Lib.VarReads Tryz.prog W "internal/strconv.float64pow10" Rows.laid_internal_strconv_float64pow10) :
    ∃ R oR cap, W.cell? ⟨14, 0, none⟩ = some (.slice (some ⟨R, oR, none⟩) 23 cap) ∧ W.cell? ⟨R, oR + 1, none⟩ = some (.float .f64 4621819117588971520) := by
  obtain ⟨g, t, cs, fuel, p, hg, hty, hvar, hd⟩ := h
  obtain rfl := Option.some.inj ((show Tryz.prog.globalNamed "internal/strconv.float64pow10" = some 14 by kernel_rfl).symm.trans hg)
  obtain rfl := Option.some.inj ((show (Tryz.prog.globals[14]?).map (·.type) = some 204 by kernel_rfl).symm.trans hty)
  have hs := pow_second
  have hn := pow_not
  obtain ⟨D, hD⟩ : ∃ D, D = (Rows.laid_internal_strconv_float64pow10 : DataW Unit) := ⟨_, rfl⟩
  rw [← hD] at hd hs hn
  clear hD
  rcases DataW.trod_slice u204 hd with ⟨_, hx'⟩ | ⟨a', len, cap, el, rs, m, rfl, hc0, hx', _, hlc, _, hel, helem, hsp, _⟩
  · exact absurd (congrArg Prod.fst hx') hn
  have e0 : D = .slice (el.map (·.1)) (rs.map (·.1)) := congrArg Prod.fst hx'
  subst e0
  simp only [second, List.getElem?_map, Option.map_eq_some_iff, Prod.mk.injEq, List.length_map] at hs
  obtain ⟨d, ⟨b, hb, rfl⟩, hl, hdd⟩ := hs
  have hlen : len = 23 := by omega
  subst hlen
  have h1 := helem 1 (by omega)
  rw [c91, hb] at h1
  obtain ⟨ce, hce, hte⟩ := Option.bind_eq_some_iff.1 h1
  obtain ⟨hlc1, _, hcc⟩ := World.cells?_some hce
  obtain ⟨v, rfl⟩ : ∃ v, ce = [v] := by
    match ce, hlc1 with
    | [v], _ => exact ⟨v, rfl⟩
  have hv := float_is (b := 4621819117588971520) (p := b.2) u91 (by rw [hte, ← hdd])
  subst hv
  have hc := hcc 0 (by omega)
  obtain ⟨b0, hb0⟩ : ∃ b, el[0]? = some b := ⟨el[0]'(by omega), List.getElem?_eq_getElem (by omega)⟩
  have h2 := helem 0 (by omega)
  rw [c91, hb0] at h2
  obtain ⟨ce0, hce0, hte0⟩ := Option.bind_eq_some_iff.1 h2
  obtain ⟨hlc0, _, hcc0⟩ := World.cells?_some hce0
  obtain ⟨v0, rfl⟩ : ∃ v, ce0 = [v] := by
    match ce0, hlc0 with
    | [v], _ => exact ⟨v, rfl⟩
  have hc00 := hcc0 0 (by omega)
  obtain ⟨R, oR, sR⟩ := a'
  obtain rfl : sR = none := by
    have h3 : (Addr.add (Addr.add ⟨R, oR, sR⟩ (0 * 1)) 0) = ⟨R, oR, sR⟩ := by simp [Addr.add]
    rw [h3] at hc00
    exact World.cell?_spot (a := ⟨R, oR, sR⟩) (v := v0) (by simpa using hc00)
  refine ⟨R, oR, cap, ?_, ?_⟩
  · rw [World.var?_cell hg hvar 0, ← Array.getElem?_toList, hc0]
    rfl
  · simpa [Addr.add] using hc

theorem env_of {W : World} (hL : laidMet Tryz.prog Rows.fnMangleFontAcceptsWellFormedShorthandRow.laid W) : Env0 W := by
  refine ⟨?_, ?_, ?_, ?_, ?_⟩
  · exact map_of (name := "github.com/evanw/esbuild/internal/css_parser.fontSizeKeywords") (by kernel_rfl) (by kernel_rfl) (fun h => by cases h) (Lib.laidMet.reads hL (.tail _ (.tail _ (.tail _ (.tail _ (.tail _ (.tail _ (.tail _ (.tail _ (.tail _ (.tail _ (.tail _ (.tail _ (.head _))))))))))))))
  · exact map_of (name := "github.com/evanw/esbuild/internal/css_parser.genericFamilyNames") (by kernel_rfl) (by kernel_rfl) (fun h => by cases h) (Lib.laidMet.reads hL (.tail _ (.tail _ (.tail _ (.tail _ (.tail _ (.tail _ (.tail _ (.tail _ (.tail _ (.tail _ (.tail _ (.tail _ (.tail _ (.tail _ (.head _))))))))))))))))
  · exact opt_of (Lib.laidMet.reads hL (.tail _ (.tail _ (.tail _ (.tail _ (.head _))))))
  · exact info_of (Lib.laidMet.reads hL (.tail _ (.tail _ (.tail _ (.head _)))))
  · exact ten_of (Lib.laidMet.reads hL (.tail _ (.tail _ (.tail _ (.tail _ (.tail _ (.tail _ (.head _))))))))
end Go.Proofs.YtoeahdefgblmoaaGreatDoor
