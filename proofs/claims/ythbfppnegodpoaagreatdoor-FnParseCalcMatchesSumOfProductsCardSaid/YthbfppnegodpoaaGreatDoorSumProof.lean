/-
  The law FnParseCalcMatchesSumOfProducts returns true for every input (its tied card): over operands and operators in turn, tryToParseCalcTerm answers the sum of products read by descent, or nil where that refuses. No condition of ours.
-/
import Derived.Test.YthbfppnegodpoaaGreatDoorTie
import Derived.Test.YthbfppnegodpoaaGreatDoorCards
import Derived.Test.YthbfppnegodpoaaGreatDoorS11
import Derived.ProofKit
import Derived.OpenShut
import Derived.ShutString
import Derived.ChangeOld
import Derived.Below
import Derived.SliceStrings
import Derived.Lay
import Derived.LaidOnce
import Derived.Lib.LaidU8
import Derived.SevenTiedAt
import Derived.SizedLaws
namespace Go.Proofs.YthbfppnegodpoaaGreatDoor.fnParseCalcMatchesSumOfProductsDone
open Go.ChangeShapes Go.WideShapes Go.ChangeAt Go.RowKit
open Go.ChangeMaps (open_string shut_string)

theorem own : ownKnob Tryz.prog.godebug = none := by kernel_rfl
theorem laidOut : laidOutB Tryz.prog = true := by kernel_rfl

set_option maxRecDepth 100000 in
set_option maxHeartbeats 1000000 in
theorem lifted (os : Os) (started : os.Started) (H : Type) (enc : TypeId × Value → H) :
    ReturnsInHanded {} Tryz.checked os 7 .any (fun w args => (Rows.fnParseCalcMatchesSumOfProductsSpec.pre enc Tryz.prog Tryz.f7 [] false w args ∧ laidMetH Tryz.prog Rows.fnParseCalcMatchesSumOfProductsRow.laid w) ∧ sizedMet enc Tryz.prog Tryz.f7 (OpenSpec.ofChange Rows.fnParseCalcMatchesSumOfProductsSpec) false w args)
      (Rows.fnParseCalcMatchesSumOfProductsSpec.post enc Tryz.prog Tryz.f7 false true false false) := by
  refine returnsInHanded_of_change_and (C := Tryz.checked) (X := fun w _ => laidMetH Tryz.prog Rows.fnParseCalcMatchesSumOfProductsRow.laid w) (fun _ _ _ hh h => h.of_heap hh) own started (by kernel_rfl) Tryz.func7
    (ChangeSpec.witness_shaped (enc := enc) (C := Tryz.checked) (os := os) (X := fun w _ => laidMetH Tryz.prog Rows.fnParseCalcMatchesSumOfProductsRow.laid w) false (World.laidAll Tryz.prog os Rows.fnParseCalcMatchesSumOfProductsRow.laid) #[.slice none 0 0] 8 (World.laidAll_os _ _ _)
      (World.shaped_of_ZipB (by kernel_rfl) (by kernel_rfl)) (by kernel_rfl) (by kernel_rfl) (by kernel_rfl)
      (by rw [MakeChecks.laidMetH_plain _ _ _ (by kernel_rfl)]; exact laidMet_laidAll _ (by kernel_rfl) (by kernel_rfl))) ?_
  intro W base args ds gs before hval0 hW _ _ hL _
  have hval : ∀ (j : Nat) t v, Tryz.f7.params[j]? = some t → args[j]? = some v → Value.okWide Tryz.prog W .any base t v := hval0
  have hW' := hW
  obtain ⟨p, q, hA0, hV, rfl, hfz, hnd⟩ := hW
  rw [MakeChecks.laidMetH_plain _ _ _ (by kernel_rfl)] at hL
  have hA : DataW.TrodAll enc Tryz.prog W 0 (fun _ => true) true Tryz.f7.params.toList args.toList ds p := hA0
  rw [Tryz.params7] at hA hval
  obtain ⟨v0, vs0, d0, ds0, p0, q0, hargs, rfl, rfl, h0, r0⟩ := trodAll_cons hA
  obtain ⟨rfl, rfl, rfl⟩ := trodAll_nil r0
  obtain rfl : args = #[v0] := by cases args; simp_all
  obtain ⟨rfl, rfl⟩ := trodVars_none hV
  have k0 := h0
  have lt0 : ∀ x ∈ p0, x.block < W.heap.size := by obtain ⟨m, hm⟩ := k0; exact DataW.trod_lt m _ _ _ hm
  obtain ⟨a0, len0, cap0, rfl⟩ := okWide_slice Tryz.underlying42 (hval 0 42 v0 rfl rfl)
  obtain ⟨z0, e0, w0⟩ : ∃ zs : List Int, len0 = zs.length ∧ Ints16 W a0 zs := by
    obtain ⟨fuel, hf⟩ := h0
    rcases open_ints Tryz.underlying42 Tryz.underlying30 (by kernel_rfl) hf with ⟨hcs, _⟩ | ⟨x, l, c, zs, hcs, _, hl, hm, hz, _, hcell, hwz⟩
    · simp [Value.cells] at hcs
      obtain ⟨rfl, rfl, rfl⟩ := hcs
      exact ⟨[], rfl, fun i h => by cases h⟩
    · simp [Value.cells] at hcs
      obtain ⟨rfl, rfl, rfl⟩ := hcs
      have hz' : zs.length = cap0 := by simpa using hz
      refine ⟨zs.take len0, by rw [List.length_take]; omega, fun i hi => ?_⟩
      rw [List.length_take] at hi
      obtain ⟨b, off, spot⟩ := x
      have h0' := hcell 0 (by omega)
      have hspot : spot = none := by simpa [Addr.add] using World.cell?_spot h0'
      subst hspot
      have ez : (zs.take len0).getD i 0 = zs.getD i 0 := by
        simp [List.getD_eq_getElem?_getD, show i < len0 by omega]
      rw [ez]
      have hr := range_u16 hwz i
      rw [← List.getD_eq_getElem?_getD] at hr
      refine ⟨b, off, rfl, ?_, hr.1, hr.2⟩
      have hi' := hcell i (by omega)
      rw [show (⟨b, off + i, none⟩ : Addr) = (⟨b, off, none⟩ : Addr).add i by unfold Addr.add; split <;> simp_all, hi']
  subst e0
  clear hA0 hval0 hval
  refine (fnParseCalcMatchesSumOfProducts_walk a0 cap0 z0 W w0 (env_of hL)).mono fun e W' ⟨he, bel⟩ => ?_
  subst he
  exact ⟨_, rfl, _, _, _, [], _, [], hW', trodAll_mk1 (shut_bool Tryz.underlying4 _), (trodAll_cons_mk (Below.trod laidOut (by kernel_rfl) (of_decide_eq_true (by kernel_rfl)) k0 bel lt0) trodAll_mk0), rfl, bel.frame _, fun h => by cases h⟩

theorem holds : Rows.FnParseCalcMatchesSumOfProductsSaid :=
  OpenClaim.holds_of_wide 7 Tryz.f7 rfl rfl rfl rfl rfl rfl rfl ⟨rfl, rfl, rfl, rfl, rfl⟩ rfl rfl rfl rfl rfl (by kernel_rfl) Tryz.func7 (by kernel_rfl)
    (of_decide_eq_true (by kernel_rfl)) (by unfold Func.isWrapper; first | (rw [if_pos (by decide +kernel)]; kernel_rfl) | (rw [if_neg (by decide +kernel)]; exact ⟨rfl, rfl⟩))
    (fun os started H enc _ => lifted os started H enc)

/-- The card. -/
theorem proved : Rows.FnParseCalcMatchesSumOfProductsCardSaid :=
  Claim7.holds_tied_plain_at .later [] [.data, .data, .widerDeep, .widerDeep, .data, .data, .data, .data, .data, .data, .sentinel, .sentinel, .data, .data, .pinned, .pinned, .pinned, .pinned] true (true, "d14e84895abd5ffa00984e7fa7a250e87fe0e945cc91864a2b241086c3cad713") true holds (fun _ h => by cases h) (by kernel_rfl) (fun _ h => by cases h) fnParseCalcMatchesSumOfProducts_row_tie rfl ⟨rfl, rfl⟩ (by kernel_rfl) rfl
    (fun f fn hf hfn => by
      obtain rfl : f = 7 := Option.some.inj ((show Tryz.prog.funcNamed "github.com/evanw/esbuild/n011_172.FnParseCalcMatchesSumOfProducts" = some 7 by kernel_rfl).symm.trans hf) |>.symm
      obtain rfl : fn = Tryz.f7 := (Option.some.inj (Tryz.func7.symm.trans hfn)).symm
      exact ⟨by kernel_rfl, fun j t ht => by
        rw [Tryz.params7] at ht
        have hm : t ∈ [42] := by simpa using Array.mem_of_getElem? ht
        have hall : ([42].all fun u => !Tryz.prog.wantsStandIn u) = true := by kernel_rfl
        exact (show Tryz.prog.wantsStandIn t = false by simpa using List.all_eq_true.1 hall t hm)⟩)
    (by kernel_rfl)

#print axioms proved
end Go.Proofs.YthbfppnegodpoaaGreatDoor.fnParseCalcMatchesSumOfProductsDone
