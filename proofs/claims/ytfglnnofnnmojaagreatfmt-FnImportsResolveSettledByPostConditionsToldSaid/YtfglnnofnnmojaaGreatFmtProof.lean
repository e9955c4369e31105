/-
  The law FnImportsResolveSettledByPostConditions returns true for every input (its told and tied card): where no key can match, the resolution of an import does not depend on the conditions, is never undefined, and the post-conditions leave it as it is. No condition of ours; the fmt stop is never reached on the road that the premise leaves open.
-/
import Derived.Test.YtfglnnofnnmojaaGreatFmtTie
import Derived.Test.YtfglnnofnnmojaaGreatFmtCards
import Derived.Test.YtfglnnofnnmojaaGreatFmtF
import Derived.ProofKit
import Derived.OpenShut
import Derived.ShutString
import Derived.ChangeOld
import Derived.Below
import Derived.SliceStrings
import Derived.Lay
import Derived.Stop.JoinedTold
import Derived.SevenTiedAt
import Derived.SizedLaws
namespace Go.Proofs.YtfglnnofnnmojaaGreatFmt.fnImportsResolveSettledByPostConditionsDone
open Go.ChangeShapes Go.WideShapes Go.ChangeAt Go.RowKit
open Go.ChangeMaps (open_string shut_string)
open Go.Extern.Stop Go.Stop Go.Extern

theorem own : ownKnob Tryz.prog.godebug = none := by kernel_rfl
theorem laidOut : laidOutB Tryz.prog = true := by kernel_rfl
theorem stops : Tryz.pinned.checked.prog.stops = ["fmt.Sprintf"] := by kernel_rfl
theorem stopKnobs : Tryz.pinned.checked.prog.stopKnobs = [] := by kernel_rfl
theorem quiet (os : Os) : Stop.quiet Tryz.pinned.checked.prog os := by
  intro k hk
  rw [stopKnobs] at hk
  cases hk

set_option maxRecDepth 100000 in
/-- There is an input that fits: the listed variables laid by a function. -/
theorem wit {H : Type} (enc : TypeId × Value → H) (os : Os) (F : Stop.Interp) :
    ∃ (w : World) (tape : Tape) (i : Input), w.os = os ∧ (w.forCall tape i).Shaped Tryz.prog ∧ i.vars = [] ∧ Input.okWide Tryz.prog (w.forCall tape i) .any w.heap.size 3 i ∧
      (OpenSpec.ofChange Rows.fnImportsResolveSettledByPostConditionsSpec).preRow enc Tryz.prog Tryz.f3 Rows.fnImportsResolveSettledByPostConditionsRow.domain false Rows.fnImportsResolveSettledByPostConditionsRow.laid (w.forCall tape i).memory i.args ∧ ({} : Assume).holds Tryz.prog (lone (Frame.enter Tryz.prog 3 i.args .normal) [] (w.forCall tape i)) ∧ F.answers tape :=
  ⟨World.laidAll Tryz.prog os Rows.fnImportsResolveSettledByPostConditionsRow.laid, F.over fun _ _ => 0, ⟨#[], #[.string ⟨#[]⟩, .int .u8 0, .slice none 0 0, .int .i32 0, .int .i32 0, .slice none 0 0], []⟩, World.laidAll_os _ _ _,
    World.shaped_of_ZipB (w := (World.laidAll Tryz.prog os Rows.fnImportsResolveSettledByPostConditionsRow.laid).forCall (fun _ _ => 0) ⟨#[], #[.string ⟨#[]⟩, .int .u8 0, .slice none 0 0, .int .i32 0, .int .i32 0, .slice none 0 0], []⟩) (by kernel_rfl) (by kernel_rfl), rfl,
    (Input.okWide_of_okWideB (w := (World.laidAll Tryz.prog os Rows.fnImportsResolveSettledByPostConditionsRow.laid).forCall (fun _ _ => 0) ⟨#[], #[.string ⟨#[]⟩, .int .u8 0, .slice none 0 0, .int .i32 0, .int .i32 0, .slice none 0 0], []⟩) (base := _) (by kernel_rfl)).2,
    OpenSpec.preRow_of_B (w := ((World.laidAll Tryz.prog os Rows.fnImportsResolveSettledByPostConditionsRow.laid).forCall (fun _ _ => 0) ⟨#[], #[.string ⟨#[]⟩, .int .u8 0, .slice none 0 0, .int .i32 0, .int .i32 0, .slice none 0 0], []⟩).memory) rfl 8 (by kernel_rfl) (by kernel_rfl)
      (by rw [MakeChecks.laidMetH_plain _ _ _ (by kernel_rfl)]; exact laidMet_laidAll _ (by kernel_rfl) (by kernel_rfl)), by
    simp only [Assume.holds]
    exact ⟨by simp, by simp, (fun h => by cases h), by simp, by simp⟩, F.over_answers _⟩

set_option maxRecDepth 100000 in
set_option maxHeartbeats 1000000 in
theorem lifted (os : Os) (started : os.Started) (H : Type) (enc : TypeId × Value → H) :
    ReturnsInTold none {} Tryz.checked os 3 .any Input.okWide ((OpenSpec.ofChange Rows.fnImportsResolveSettledByPostConditionsSpec).preRow enc Tryz.prog Tryz.f3 Rows.fnImportsResolveSettledByPostConditionsRow.domain false Rows.fnImportsResolveSettledByPostConditionsRow.laid)
      (fun F => ((OpenSpec.ofChange Rows.fnImportsResolveSettledByPostConditionsSpec).at F).post enc Tryz.prog Tryz.f3 false true false false) (aloneAtReturn Tryz.prog) nothingAlways := by
  refine returnsInTold_of_row (C := Tryz.checked) (s := OpenSpec.ofChange Rows.fnImportsResolveSettledByPostConditionsSpec) (by kernel_rfl) own started (by kernel_rfl) Tryz.func3 (wit enc os) ?_
  intro F W base args ds gs before _ hF hval0 hW _ _ hsz0 hL _
  have hval : ∀ (j : Nat) t v, Tryz.f3.params[j]? = some t → args[j]? = some v → Value.okWide Tryz.prog W .any base t v := hval0
  have hW' := hW
  obtain ⟨p, q, hA0, hV, rfl, hfz, hnd⟩ := hW
  have hA : DataW.TrodAll enc Tryz.prog W 0 (fun _ => true) true Tryz.f3.params.toList args.toList ds p := hA0
  rw [Tryz.params3] at hA hval
  obtain ⟨v0, vs0, d0, ds0, p0, q0, hargs, rfl, rfl, h0, r0⟩ := trodAll_cons hA
  obtain ⟨v1, vs1, d1, ds1, p1, q1, rfl, rfl, rfl, h1, r1⟩ := trodAll_cons r0
  obtain ⟨v2, vs2, d2, ds2, p2, q2, rfl, rfl, rfl, h2, r2⟩ := trodAll_cons r1
  obtain ⟨v3, vs3, d3, ds3, p3, q3, rfl, rfl, rfl, h3, r3⟩ := trodAll_cons r2
  obtain ⟨v4, vs4, d4, ds4, p4, q4, rfl, rfl, rfl, h4, r4⟩ := trodAll_cons r3
  obtain ⟨v5, vs5, d5, ds5, p5, q5, rfl, rfl, rfl, h5, r5⟩ := trodAll_cons r4
  obtain ⟨rfl, rfl, rfl⟩ := trodAll_nil r5
  obtain rfl : args = #[v0, v1, v2, v3, v4, v5] := by cases args; simp_all
  obtain ⟨rfl, rfl⟩ := trodVars_none hV
  have k0 := h0
  have lt0 : ∀ x ∈ p0, x.block < W.heap.size := by obtain ⟨m, hm⟩ := k0; exact DataW.trod_lt m _ _ _ hm
  obtain ⟨s0, rfl, _, _, w0⟩ := open_string Tryz.underlying9 (hval 0 9 v0 rfl rfl) h0
  have k1 := h1
  have lt1 : ∀ x ∈ p1, x.block < W.heap.size := by obtain ⟨m, hm⟩ := k1; exact DataW.trod_lt m _ _ _ hm
  obtain ⟨x1, rfl, _, _, w1⟩ := open_int Tryz.underlying5 (hval 1 5 v1 rfl rfl) h1
  have k2 := h2
  have lt2 : ∀ x ∈ p2, x.block < W.heap.size := by obtain ⟨m, hm⟩ := k2; exact DataW.trod_lt m _ _ _ hm
  obtain ⟨a2, len2, cap2, rfl⟩ := okWide_slice Tryz.underlying22 (hval 2 22 v2 rfl rfl)
  obtain ⟨z2, e2, w2⟩ : ∃ zs : List ByteArray, len2 = zs.length ∧ Strs W a2 zs := by
    obtain ⟨fuel, hf⟩ := h2
    rcases open_strings Tryz.underlying22 Tryz.underlying9 (by kernel_rfl) hf with ⟨hcs, _⟩ | ⟨x, l, c, zs, hcs, _, hl, hm, hz, _, hcell, hwz⟩
    · simp [Value.cells] at hcs
      obtain ⟨rfl, rfl, rfl⟩ := hcs
      exact ⟨[], rfl, fun i h => by cases h⟩
    · simp [Value.cells] at hcs
      obtain ⟨rfl, rfl, rfl⟩ := hcs
      have hz' : zs.length = cap2 := by simpa using hz
      refine ⟨zs.take len2, by rw [List.length_take]; omega, fun i hi => ?_⟩
      rw [List.length_take] at hi
      obtain ⟨b, off, spot⟩ := x
      have h0' := hcell 0 (by omega)
      have hspot : spot = none := by simpa [Addr.add] using World.cell?_spot h0'
      subst hspot
      refine ⟨b, off, rfl, ?_⟩
      have hi' := hcell i (by omega)
      rw [show (⟨b, off + i, none⟩ : Addr) = (⟨b, off, none⟩ : Addr).add i by unfold Addr.add; split <;> simp_all, hi']
      congr 2
      simp [List.getD_eq_getElem?_getD, show i < len2 by omega]
  subst e2
  have k3 := h3
  have lt3 : ∀ x ∈ p3, x.block < W.heap.size := by obtain ⟨m, hm⟩ := k3; exact DataW.trod_lt m _ _ _ hm
  obtain ⟨x3, rfl, _, _, w3⟩ := open_int Tryz.underlying21 (hval 3 21 v3 rfl rfl) h3
  have k4 := h4
  have lt4 : ∀ x ∈ p4, x.block < W.heap.size := by obtain ⟨m, hm⟩ := k4; exact DataW.trod_lt m _ _ _ hm
  obtain ⟨x4, rfl, _, _, w4⟩ := open_int Tryz.underlying21 (hval 4 21 v4 rfl rfl) h4
  have k5 := h5
  have lt5 : ∀ x ∈ p5, x.block < W.heap.size := by obtain ⟨m, hm⟩ := k5; exact DataW.trod_lt m _ _ _ hm
  obtain ⟨a5, len5, cap5, rfl⟩ := okWide_slice Tryz.underlying22 (hval 5 22 v5 rfl rfl)
  obtain ⟨z5, e5, w5⟩ : ∃ zs : List ByteArray, len5 = zs.length ∧ Strs W a5 zs := by
    obtain ⟨fuel, hf⟩ := h5
    rcases open_strings Tryz.underlying22 Tryz.underlying9 (by kernel_rfl) hf with ⟨hcs, _⟩ | ⟨x, l, c, zs, hcs, _, hl, hm, hz, _, hcell, hwz⟩
    · simp [Value.cells] at hcs
      obtain ⟨rfl, rfl, rfl⟩ := hcs
      exact ⟨[], rfl, fun i h => by cases h⟩
    · simp [Value.cells] at hcs
      obtain ⟨rfl, rfl, rfl⟩ := hcs
      have hz' : zs.length = cap5 := by simpa using hz
      refine ⟨zs.take len5, by rw [List.length_take]; omega, fun i hi => ?_⟩
      rw [List.length_take] at hi
      obtain ⟨b, off, spot⟩ := x
      have h0' := hcell 0 (by omega)
      have hspot : spot = none := by simpa [Addr.add] using World.cell?_spot h0'
      subst hspot
      refine ⟨b, off, rfl, ?_⟩
      have hi' := hcell i (by omega)
      rw [show (⟨b, off + i, none⟩ : Addr) = (⟨b, off, none⟩ : Addr).add i by unfold Addr.add; split <;> simp_all, hi']
      congr 2
      simp [List.getD_eq_getElem?_getD, show i < len5 by omega]
  subst e5
  clear hA0 hval0 hval
  refine (fnImportsResolveSettledByPostConditions_walk s0 x1 a2 cap2 z2 x3 x4 a5 cap5 z5 W w0 w1 w2 w3 w4 w5 ).mono fun e W' ⟨he, bel⟩ => ?_
  subst he
  exact ⟨_, rfl, _, _, _, [], _, [], hW', trodAll_mk1 (shut_bool Tryz.underlying4 _), (trodAll_cons_mk (Below.trod laidOut (by kernel_rfl) (of_decide_eq_true (by kernel_rfl)) k0 bel lt0) (trodAll_cons_mk (Below.trod laidOut (by kernel_rfl) (of_decide_eq_true (by kernel_rfl)) k1 bel lt1) (trodAll_cons_mk (Below.trod laidOut (by kernel_rfl) (of_decide_eq_true (by kernel_rfl)) k2 bel lt2) (trodAll_cons_mk (Below.trod laidOut (by kernel_rfl) (of_decide_eq_true (by kernel_rfl)) k3 bel lt3) (trodAll_cons_mk (Below.trod laidOut (by kernel_rfl) (of_decide_eq_true (by kernel_rfl)) k4 bel lt4) (trodAll_cons_mk (Below.trod laidOut (by kernel_rfl) (of_decide_eq_true (by kernel_rfl)) k5 bel lt5) trodAll_mk0)))))), rfl, bel.frame _, fun h => by cases h⟩

/-- The card. -/
theorem proved : Rows.FnImportsResolveSettledByPostConditionsToldSaid :=
  Claim7.holds_of_told_tied_any_at .later 3 Tryz.f3 "fmt.Sprintf" [] [] (true, "338d02c08cb6e021ec381e0d0748cd30d3b3a3f2e2a3d90106481d2c7b094067") false false [.data] true (by kernel_rfl) rfl rfl rfl laidOut (by kernel_rfl) rfl ⟨rfl, rfl, rfl, rfl, rfl, rfl, rfl⟩ rfl rfl (by kernel_rfl) (by kernel_rfl) Tryz.func3 (by kernel_rfl)
    (of_decide_eq_true (by kernel_rfl)) (by unfold Func.isWrapper; first | (rw [if_pos (by decide +kernel)]; kernel_rfl) | (rw [if_neg (by decide +kernel)]; exact ⟨rfl, rfl⟩)) stops.symm rfl stopKnobs.symm (by kernel_rfl)
    (by kernel_rfl) (by kernel_rfl) (by kernel_rfl) (by kernel_rfl) (by kernel_rfl) (by kernel_rfl) (by kernel_rfl) (by kernel_rfl) (by kernel_rfl) rfl (by kernel_rfl) rfl rfl
    rfl rfl
    rfl (by kernel_rfl) (by kernel_rfl) (by kernel_rfl) (by decide) (by kernel_rfl) fnImportsResolveSettledByPostConditions_row_tie
    (OpenClaim.moreEntering_of (by kernel_rfl) (by kernel_rfl) (by kernel_rfl) (by kernel_rfl) (by kernel_rfl) (by kernel_rfl) (by kernel_rfl) (by kernel_rfl) (by kernel_rfl) (by kernel_rfl))
    ⟨_, WideRow.started_initial, quiet _⟩
    (fun os started _ H enc _ => lifted os started H enc)

#print axioms proved
end Go.Proofs.YtfglnnofnnmojaaGreatFmt.fnImportsResolveSettledByPostConditionsDone
