/-
  The law FnSumFlattenNestedPrefix returns true for every input (its told and tied card): a sum whose first k terms stand in an inner sum of their own is simplified to the same as the flat sum, for any unit strings; no condition of ours.
-/
import Derived.Test.YtnoghiefpdbpbaaGreatFmtTie
import Derived.Test.YtnoghiefpdbpbaaGreatFmtCards
import Derived.Test.YtnoghiefpdbpbaaGreatFmtW3
import Derived.ProofKit
import Derived.OpenShut
import Derived.ShutString
import Derived.ChangeOld
import Derived.Below
import Derived.SliceStrings
import Derived.Lay
import Derived.Stop.JoinedTold
import Derived.SevenTiedAt
import Derived.SizedLaws
import Derived.Test.YtnoghiefpdbpbaaGreatFmtJ
import Derived.Test.YtnoghiefpdbpbaaGreatFmtE6
namespace Go.Proofs.YtnoghiefpdbpbaaGreatFmt.fnSumFlattenNestedPrefixDone
open Go.ChangeShapes Go.WideShapes Go.ChangeAt Go.RowKit
open Go.ChangeMaps (open_string shut_string)
open Go.Extern.Stop Go.Stop Go.Extern

theorem own : ownKnob Tryz.prog.godebug = none := by kernel_rfl
theorem laidOut : laidOutB Tryz.prog = true := by kernel_rfl
theorem stops : Tryz.pinned.checked.prog.stops = ["fmt.Sprintf"] := by kernel_rfl
theorem stopKnobs : Tryz.pinned.checked.prog.stopKnobs = [] := by kernel_rfl
theorem quiet (os : Os) : Stop.quiet Tryz.pinned.checked.prog os := by
  intro k hk
  rw [stopKnobs] at hk
  cases hk

/-- The input of the witness. -/
def inp : Input := ⟨#[], #[.slice none 0 0, .slice none 0 0, .slice none 0 0, .int .i64 0], []⟩

set_option maxRecDepth 100000 in
theorem shaped (os : Os) (tape : Tape) : ((World.laidAll Tryz.prog os Rows.fnSumFlattenNestedPrefixRow.laid).forCall tape inp).Shaped Tryz.prog := World.shaped_of_ZipB (by kernel_rfl) (by kernel_rfl)

set_option maxRecDepth 100000 in
theorem wide (os : Os) (tape : Tape) (base : Nat) : Input.okWide Tryz.prog ((World.laidAll Tryz.prog os Rows.fnSumFlattenNestedPrefixRow.laid).forCall tape inp) .any base 5 inp :=
  (Input.okWide_of_okWideB (w := (World.laidAll Tryz.prog os Rows.fnSumFlattenNestedPrefixRow.laid).forCall tape inp) (base := base) (by kernel_rfl)).2

set_option maxRecDepth 100000 in
theorem preMet {H : Type} (enc : TypeId × Value → H) (os : Os) (tape : Tape) : (OpenSpec.ofChange Rows.fnSumFlattenNestedPrefixSpec).preRow enc Tryz.prog Tryz.f5 Rows.fnSumFlattenNestedPrefixRow.domain false Rows.fnSumFlattenNestedPrefixRow.laid ((World.laidAll Tryz.prog os Rows.fnSumFlattenNestedPrefixRow.laid).forCall tape inp).memory inp.args :=
  OpenSpec.preRow_of_B (w := ((World.laidAll Tryz.prog os Rows.fnSumFlattenNestedPrefixRow.laid).forCall tape inp).memory) rfl 8 (by kernel_rfl) (by kernel_rfl)
    (by rw [MakeChecks.laidMetH_plain _ _ _ (by kernel_rfl)]; exact laidMet_laidAll _ (by kernel_rfl) (by kernel_rfl))

set_option maxRecDepth 100000 in
/-- There is an input that fits: the listed variables laid by a function. -/
theorem wit {H : Type} (enc : TypeId × Value → H) (os : Os) (F : Stop.Interp) :
    ∃ (w : World) (tape : Tape) (i : Input), w.os = os ∧ (w.forCall tape i).Shaped Tryz.prog ∧ i.vars = [] ∧ Input.okWide Tryz.prog (w.forCall tape i) .any w.heap.size 5 i ∧
      (OpenSpec.ofChange Rows.fnSumFlattenNestedPrefixSpec).preRow enc Tryz.prog Tryz.f5 Rows.fnSumFlattenNestedPrefixRow.domain false Rows.fnSumFlattenNestedPrefixRow.laid (w.forCall tape i).memory i.args ∧ ({} : Assume).holds Tryz.prog (lone (Frame.enter Tryz.prog 5 i.args .normal) [] (w.forCall tape i)) ∧ F.answers tape :=
  ⟨World.laidAll Tryz.prog os Rows.fnSumFlattenNestedPrefixRow.laid, F.over fun _ _ => 0, inp, World.laidAll_os _ _ _, shaped os _, rfl, wide os _ _, preMet enc os _, by
    simp only [Assume.holds]
    exact ⟨by simp, by simp, (fun h => by cases h), by simp, by simp⟩, F.over_answers _⟩

set_option maxRecDepth 100000 in
set_option maxHeartbeats 1000000 in
theorem lifted (os : Os) (started : os.Started) (H : Type) (enc : TypeId × Value → H) :
    ReturnsInTold none {} Tryz.checked os 5 .any Input.okWide ((OpenSpec.ofChange Rows.fnSumFlattenNestedPrefixSpec).preRow enc Tryz.prog Tryz.f5 Rows.fnSumFlattenNestedPrefixRow.domain false Rows.fnSumFlattenNestedPrefixRow.laid)
      (fun F => ((OpenSpec.ofChange Rows.fnSumFlattenNestedPrefixSpec).at F).post enc Tryz.prog Tryz.f5 false true false false) (aloneAtReturn Tryz.prog) nothingAlways := by
  refine returnsInTold_of_row (C := Tryz.checked) (s := OpenSpec.ofChange Rows.fnSumFlattenNestedPrefixSpec) (by kernel_rfl) own started (by kernel_rfl) Tryz.func5 (wit enc os) ?_
  intro F W base args ds gs before _ hF hval0 hW _ _ hsz0 hL _
  have hval : ∀ (j : Nat) t v, Tryz.f5.params[j]? = some t → args[j]? = some v → Value.okWide Tryz.prog W .any base t v := hval0
  have hW' := hW
  obtain ⟨p, q, hA0, hV, rfl, hfz, hnd⟩ := hW
  have hA : DataW.TrodAll enc Tryz.prog W 0 (fun _ => true) true Tryz.f5.params.toList args.toList ds p := hA0
  rw [Tryz.params5] at hA hval
  obtain ⟨v0, vs0, d0, ds0, p0, q0, hargs, rfl, rfl, h0, r0⟩ := trodAll_cons hA
  obtain ⟨v1, vs1, d1, ds1, p1, q1, rfl, rfl, rfl, h1, r1⟩ := trodAll_cons r0
  obtain ⟨v2, vs2, d2, ds2, p2, q2, rfl, rfl, rfl, h2, r2⟩ := trodAll_cons r1
  obtain ⟨v3, vs3, d3, ds3, p3, q3, rfl, rfl, rfl, h3, r3⟩ := trodAll_cons r2
  obtain ⟨rfl, rfl, rfl⟩ := trodAll_nil r3
  obtain rfl : args = #[v0, v1, v2, v3] := by cases args; simp_all
  obtain ⟨rfl, rfl⟩ := trodVars_none hV
  have k0 := h0
  have lt0 : ∀ x ∈ p0, x.block < W.heap.size := by obtain ⟨m, hm⟩ := k0; exact DataW.trod_lt m _ _ _ hm
  obtain ⟨a0, len0, cap0, rfl⟩ := okWide_slice Tryz.underlying22 (hval 0 22 v0 rfl rfl)
  obtain ⟨z0, e0, w0, l0⟩ : ∃ zs, len0 = List.length zs ∧ Slc Value.string ByteArray.empty W a0 zs ∧ List.length zs ≤ 9223372036854775807 := by
    obtain ⟨fuel, hf⟩ := h0
    obtain ⟨a', l', c', zs, hcs, hl, hs⟩ := open_slc Value.string ByteArray.empty Tryz.underlying22 (by kernel_rfl) (fun _ _ _ h => trod_string1 Tryz.underlying9 h) hf
    simp [Value.cells] at hcs
    obtain ⟨rfl, rfl, rfl⟩ := hcs
    exact ⟨zs, hl, hs⟩
  subst e0
  have k1 := h1
  have lt1 : ∀ x ∈ p1, x.block < W.heap.size := by obtain ⟨m, hm⟩ := k1; exact DataW.trod_lt m _ _ _ hm
  obtain ⟨a1, len1, cap1, rfl⟩ := okWide_slice Tryz.underlying23 (hval 1 23 v1 rfl rfl)
  obtain ⟨z1, e1, w1, l1⟩ : ∃ zs, len1 = List.length zs ∧ Slc fl 0 W a1 zs ∧ List.length zs ≤ 9223372036854775807 := by
    obtain ⟨fuel, hf⟩ := h1
    obtain ⟨a', l', c', zs, hcs, hl, hs⟩ := open_slc fl 0 Tryz.underlying23 (by kernel_rfl) (fun _ _ _ h => trod_float1 Tryz.underlying33 h) hf
    simp [Value.cells] at hcs
    obtain ⟨rfl, rfl, rfl⟩ := hcs
    exact ⟨zs, hl, hs⟩
  subst e1
  have k2 := h2
  have lt2 : ∀ x ∈ p2, x.block < W.heap.size := by obtain ⟨m, hm⟩ := k2; exact DataW.trod_lt m _ _ _ hm
  obtain ⟨a2, len2, cap2, rfl⟩ := okWide_slice Tryz.underlying24 (hval 2 24 v2 rfl rfl)
  obtain ⟨z2, e2, w2, l2⟩ : ∃ zs, len2 = List.length zs ∧ Slc Value.bool false W a2 zs ∧ List.length zs ≤ 9223372036854775807 := by
    obtain ⟨fuel, hf⟩ := h2
    obtain ⟨a', l', c', zs, hcs, hl, hs⟩ := open_slc Value.bool false Tryz.underlying24 (by kernel_rfl) (fun _ _ _ h => trod_bool1 Tryz.underlying4 h) hf
    simp [Value.cells] at hcs
    obtain ⟨rfl, rfl, rfl⟩ := hcs
    exact ⟨zs, hl, hs⟩
  subst e2
  have k3 := h3
  have lt3 : ∀ x ∈ p3, x.block < W.heap.size := by obtain ⟨m, hm⟩ := k3; exact DataW.trod_lt m _ _ _ hm
  obtain ⟨x3, rfl, _, _, w3⟩ := open_int Tryz.underlying3 (hval 3 3 v3 rfl rfl) h3
  clear hA0 hval0 hval
  rw [MakeChecks.laidMetH_plain _ _ _ (by kernel_rfl)] at hL
  refine (fnSumFlattenNestedPrefix_walk a0 cap0 z0 a1 cap1 z1 a2 cap2 z2 x3 W w0 l0 w1 l1 w2 l2 (eqTabs_of hL)).mono fun e W' ⟨he, bel⟩ => ?_
  subst he
  exact ⟨_, rfl, _, _, _, [], _, [], hW', trodAll_mk1 (shut_bool Tryz.underlying4 _), (trodAll_cons_mk (Below.trod laidOut (by kernel_rfl) (of_decide_eq_true (by kernel_rfl)) k0 bel lt0) (trodAll_cons_mk (Below.trod laidOut (by kernel_rfl) (of_decide_eq_true (by kernel_rfl)) k1 bel lt1) (trodAll_cons_mk (Below.trod laidOut (by kernel_rfl) (of_decide_eq_true (by kernel_rfl)) k2 bel lt2) (trodAll_cons_mk (Below.trod laidOut (by kernel_rfl) (of_decide_eq_true (by kernel_rfl)) k3 bel lt3) trodAll_mk0)))), rfl, bel.frame _, fun h => by cases h⟩

/-- The card. -/
theorem proved : Rows.FnSumFlattenNestedPrefixToldSaid :=
  Claim7.holds_of_told_tied_any_at .later 5 Tryz.f5 "fmt.Sprintf" [] [] (true, "40c7dca622598fbf8d9693f6e3a5a935467ba3e9b7d588a28c4cb47e580ca92b") true false [.data, .data, .data, .pinned, .pinned] true (by kernel_rfl) rfl rfl rfl laidOut (by kernel_rfl) rfl ⟨rfl, rfl, rfl, rfl, rfl, rfl, rfl⟩ rfl rfl (by kernel_rfl) (by kernel_rfl) Tryz.func5 (by kernel_rfl)
    (of_decide_eq_true (by kernel_rfl)) (by unfold Func.isWrapper; first | (rw [if_pos (by decide +kernel)]; kernel_rfl) | (rw [if_neg (by decide +kernel)]; exact ⟨rfl, rfl⟩)) stops.symm rfl stopKnobs.symm (by kernel_rfl)
    (by kernel_rfl) (by kernel_rfl) (by kernel_rfl) (by kernel_rfl) (by kernel_rfl) (by kernel_rfl) (by kernel_rfl) (by kernel_rfl) (by kernel_rfl) rfl (by kernel_rfl) rfl rfl
    rfl rfl
    rfl (by kernel_rfl) (by kernel_rfl) (by kernel_rfl) (by decide) (by kernel_rfl) fnSumFlattenNestedPrefix_row_tie
    (OpenClaim.moreEntering_of (by kernel_rfl) (by kernel_rfl) (by kernel_rfl) (by kernel_rfl) (by kernel_rfl) (by kernel_rfl) (by kernel_rfl) (by kernel_rfl) (by kernel_rfl) (by kernel_rfl))
    ⟨_, WideRow.started_initial, quiet _⟩
    (fun os started _ H enc _ => lifted os started H enc)

#print axioms proved
end Go.Proofs.YtnoghiefpdbpbaaGreatFmt.fnSumFlattenNestedPrefixDone
