/-
  The listed variables, laid: what the parse reads of them.
-/
import Derived.Test.YthbfppnegodpoaaGreatDoorK
import Derived.Test.YthbfppnegodpoaaGreatDoorR
import Derived.Test.YthbfppnegodpoaaGreatDoorK4
namespace Go.Proofs.YthbfppnegodpoaaGreatDoor
open Go.ChangeShapes Go.WideShapes Go.ChangeAt Go.RowKit

theorem g6 : Tryz.prog.globalNamed "strconv.ErrSyntax" = some 6 := by kernel_rfl
theorem t6 : (Tryz.prog.globals[6]?).map (·.type) = some 86 := by kernel_rfl
theorem u86 : ∃ ms, Tryz.prog.underlying 86 = some (.interface ms) := ⟨_, Tryz.underlying86⟩

theorem trod_face {H : Type} {enc : TypeId × Value → H} {P : Program} {w : World} {base : Nat} {spare : Nat → Bool} {held : Bool} {fuel : Nat} {t : TypeId} {cs : List Value} {x : DataW H × List MemPlace} (ht : ∃ ms, P.underlying t = some (.interface ms))
    (h : DataW.trod enc P w base spare held fuel t cs = some x) : cs = [.nilIface] ∨ ∃ u v, cs = [.iface u v] := by
  obtain ⟨ms, ht⟩ := ht
  cases fuel with
  | zero => simp [DataW.trod] at h
  | succ n =>
    unfold DataW.trod at h
    rw [ht] at h
    split at h <;> simp_all

theorem env_of {W : World} (hL : laidMet Tryz.prog Rows.fnParseCalcRefusesEvenLengthOrVarRow.laid W) : Env W := by
  refine ⟨tabs_of hL, fold_of hL, ?_⟩
  obtain ⟨g, t, cs, fuel, p, hg, ht, hv, hd⟩ := Lib.laidMet.reads hL (n := "strconv.ErrSyntax") (d := Rows.laid_strconv_ErrSyntax) (.tail _ (.tail _ (.tail _ (.tail _ (.tail _ (.tail _ (.tail _ (.tail _ (.tail _ (.tail _ (.tail _ (.head _))))))))))))
  obtain rfl := Option.some.inj (g6.symm.trans hg)
  obtain rfl := Option.some.inj (t6.symm.trans ht)
  have hc := World.var?_cell hg hv 0
  rw [← Array.getElem?_toList] at hc
  rcases trod_face u86 hd with h | ⟨u, v, h⟩
  · rw [h] at hd
    obtain ⟨ms, hu⟩ := u86
    cases fuel with
    | zero => simp [DataW.trod] at hd
    | succ n =>
      unfold DataW.trod at hd
      rw [hu] at hd
      simp [Rows.laid_strconv_ErrSyntax] at hd
  · rw [h] at hc
    exact ⟨u, v, by simpa using hc⟩
end Go.Proofs.YthbfppnegodpoaaGreatDoor
