/-
  The law FnPrintRuleCharsetQuoted returns true for every input (its told and tied card): a charset rule prints its name in double quotes, with a backslash before each backslash, each double quote and the slash of a closing style tag; no condition of ours.
-/
import Derived.Test.YtiplakadjkimmabGreatFmtTie
import Derived.Test.YtiplakadjkimmabGreatFmtCards
import Derived.Test.YtiplakadjkimmabGreatFmtY
import Derived.ProofKit
import Derived.OpenShut
import Derived.ShutString
import Derived.ChangeOld
import Derived.Below
import Derived.SliceStrings
import Derived.Lay
import Derived.Stop.JoinedTold
import Derived.SevenTiedAt
import Derived.SizedLaws
import Derived.Test.YtiplakadjkimmabGreatFmtJ
import Derived.OpenVars
namespace Go.Proofs.YtiplakadjkimmabGreatFmt.fnPrintRuleCharsetQuotedDone
open Go.ChangeShapes Go.WideShapes Go.ChangeAt Go.RowKit
open Go.ChangeMaps (open_string shut_string)
open Go.Extern.Stop Go.Stop Go.Extern

theorem own : ownKnob Tryz.prog.godebug = none := by kernel_rfl
theorem laidOut : laidOutB Tryz.prog = true := by kernel_rfl
theorem stops : Tryz.pinned.checked.prog.stops = ["fmt.Sprintf"] := by kernel_rfl
theorem stopKnobs : Tryz.pinned.checked.prog.stopKnobs = [] := by kernel_rfl
theorem quiet (os : Os) : Stop.quiet Tryz.pinned.checked.prog os := by
  intro k hk
  rw [stopKnobs] at hk
  cases hk

/-- The input of the witness. -/
def inp : Input := ⟨#[], #[.string ⟨#[]⟩, .bool false], []⟩

set_option maxRecDepth 100000 in
theorem shaped (os : Os) (tape : Tape) : ((World.laidAll Tryz.prog os Rows.fnPrintRuleCharsetQuotedRow.laid).forCall tape inp).Shaped Tryz.prog := World.shaped_of_ZipB (by kernel_rfl) (by kernel_rfl)

set_option maxRecDepth 100000 in
theorem wide (os : Os) (tape : Tape) (base : Nat) : Input.okWide Tryz.prog ((World.laidAll Tryz.prog os Rows.fnPrintRuleCharsetQuotedRow.laid).forCall tape inp) .any base 3 inp :=
  (Input.okWide_of_okWideB (w := (World.laidAll Tryz.prog os Rows.fnPrintRuleCharsetQuotedRow.laid).forCall tape inp) (base := base) (by kernel_rfl)).2

set_option maxRecDepth 100000 in
theorem preMet {H : Type} (enc : TypeId × Value → H) (os : Os) (tape : Tape) : (OpenSpec.ofChange Rows.fnPrintRuleCharsetQuotedSpec).preRow enc Tryz.prog Tryz.f3 Rows.fnPrintRuleCharsetQuotedRow.domain false Rows.fnPrintRuleCharsetQuotedRow.laid ((World.laidAll Tryz.prog os Rows.fnPrintRuleCharsetQuotedRow.laid).forCall tape inp).memory inp.args :=
  OpenSpec.preRow_of_B (w := ((World.laidAll Tryz.prog os Rows.fnPrintRuleCharsetQuotedRow.laid).forCall tape inp).memory) rfl 8 (by kernel_rfl) (by kernel_rfl)
    (by rw [MakeChecks.laidMetH_plain _ _ _ (by kernel_rfl)]; exact laidMet_laidAll _ (by kernel_rfl) (by kernel_rfl))

set_option maxRecDepth 100000 in
/-- There is an input that fits: the listed variables laid by a function. -/
theorem wit {H : Type} (enc : TypeId × Value → H) (os : Os) (F : Stop.Interp) :
    ∃ (w : World) (tape : Tape) (i : Input), w.os = os ∧ (w.forCall tape i).Shaped Tryz.prog ∧ i.vars = [] ∧ Input.okWide Tryz.prog (w.forCall tape i) .any w.heap.size 3 i ∧
      (OpenSpec.ofChange Rows.fnPrintRuleCharsetQuotedSpec).preRow enc Tryz.prog Tryz.f3 Rows.fnPrintRuleCharsetQuotedRow.domain false Rows.fnPrintRuleCharsetQuotedRow.laid (w.forCall tape i).memory i.args ∧ ({} : Assume).holds Tryz.prog (lone (Frame.enter Tryz.prog 3 i.args .normal) [] (w.forCall tape i)) ∧ F.answers tape :=
  ⟨World.laidAll Tryz.prog os Rows.fnPrintRuleCharsetQuotedRow.laid, F.over fun _ _ => 0, inp, World.laidAll_os _ _ _, shaped os _, rfl, wide os _ _, preMet enc os _, by
    simp only [Assume.holds]
    exact ⟨by simp, by simp, (fun h => by cases h), by simp, by simp⟩, F.over_answers _⟩

set_option maxRecDepth 100000 in
set_option maxHeartbeats 1000000 in
theorem lifted (os : Os) (started : os.Started) (H : Type) (enc : TypeId × Value → H) :
    ReturnsInTold none {} Tryz.checked os 3 .any Input.okWide ((OpenSpec.ofChange Rows.fnPrintRuleCharsetQuotedSpec).preRow enc Tryz.prog Tryz.f3 Rows.fnPrintRuleCharsetQuotedRow.domain false Rows.fnPrintRuleCharsetQuotedRow.laid)
      (fun F => ((OpenSpec.ofChange Rows.fnPrintRuleCharsetQuotedSpec).at F).post enc Tryz.prog Tryz.f3 false true false false) (aloneAtReturn Tryz.prog) nothingAlways := by
  refine returnsInTold_of_row (C := Tryz.checked) (s := OpenSpec.ofChange Rows.fnPrintRuleCharsetQuotedSpec) (by kernel_rfl) own started (by kernel_rfl) Tryz.func3 (wit enc os) ?_
  intro F W base args ds gs before _ hF hval0 hW _ _ hsz0 hL _
  have hval : ∀ (j : Nat) t v, Tryz.f3.params[j]? = some t → args[j]? = some v → Value.okWide Tryz.prog W .any base t v := hval0
  have hW' := hW
  obtain ⟨p, q, hA0, hV, rfl, hfz, hnd⟩ := hW
  have hA : DataW.TrodAll enc Tryz.prog W 0 (fun _ => true) true Tryz.f3.params.toList args.toList ds p := hA0
  rw [Tryz.params3] at hA hval
  obtain ⟨v0, vs0, d0, ds0, p0, q0, hargs, rfl, rfl, h0, r0⟩ := trodAll_cons hA
  obtain ⟨v1, vs1, d1, ds1, p1, q1, rfl, rfl, rfl, h1, r1⟩ := trodAll_cons r0
  obtain ⟨rfl, rfl, rfl⟩ := trodAll_nil r1
  obtain rfl : args = #[v0, v1] := by cases args; simp_all
  have hV' := hV
  obtain ⟨g0, gs0, rfl⟩ : ∃ g l, gs = g :: l := by
    rcases gs with _ | ⟨g, l⟩
    · exact (hV' : False).elim
    · exact ⟨g, l, rfl⟩
  obtain ⟨_, hV'⟩ := trodVars_tail hV'
  obtain ⟨g1, gs1, rfl⟩ : ∃ g l, gs0 = g :: l := by
    rcases gs0 with _ | ⟨g, l⟩
    · exact (hV' : False).elim
    · exact ⟨g, l, rfl⟩
  obtain ⟨_, hV'⟩ := trodVars_tail hV'
  obtain rfl : gs1 = [] := (trodVars_none hV').1
  have k0 := h0
  have lt0 : ∀ x ∈ p0, x.block < W.heap.size := by obtain ⟨m, hm⟩ := k0; exact DataW.trod_lt m _ _ _ hm
  obtain ⟨s0, rfl, _, _, w0⟩ := open_string Tryz.underlying9 (hval 0 9 v0 rfl rfl) h0
  have k1 := h1
  have lt1 : ∀ x ∈ p1, x.block < W.heap.size := by obtain ⟨m, hm⟩ := k1; exact DataW.trod_lt m _ _ _ hm
  obtain ⟨b1, rfl, _, _⟩ := open_bool Tryz.underlying4 (hval 1 4 v1 rfl rfl) h1
  clear hA0 hval0 hval
  refine (fnPrintRuleCharsetQuoted_walk s0 b1 W w0 ).mono fun e W' ⟨he, bel⟩ => ?_
  subst he
  exact ⟨_, rfl, _, _, _, [], _, _, hW', trodAll_mk1 (shut_bool Tryz.underlying4 _), (trodAll_cons_mk (Below.trod laidOut (by kernel_rfl) (of_decide_eq_true (by kernel_rfl)) k0 bel lt0) (trodAll_cons_mk (Below.trod laidOut (by kernel_rfl) (of_decide_eq_true (by kernel_rfl)) k1 bel lt1) trodAll_mk0)), Below.trodVars laidOut bel (by kernel_rfl) hV, bel.frame _, fun h => by cases h⟩

/-- The card. -/
theorem proved : Rows.FnPrintRuleCharsetQuotedToldSaid :=
  Claim7.holds_of_told_tied_any_at .later 3 Tryz.f3 "fmt.Sprintf" [] [] (true, "75da039116696caa556d13925bafd83b6130b15de903f7b4a75291386fa7e78b") true false [.data, .data, .data, .data, .widerDeep, .pinned, .pinned] true (by kernel_rfl) rfl rfl rfl laidOut (by kernel_rfl) rfl ⟨rfl, rfl, rfl, rfl, rfl, rfl, rfl⟩ rfl rfl (by kernel_rfl) (by kernel_rfl) Tryz.func3 (by kernel_rfl)
    (of_decide_eq_true (by kernel_rfl)) (by unfold Func.isWrapper; first | (rw [if_pos (by decide +kernel)]; kernel_rfl) | (rw [if_neg (by decide +kernel)]; exact ⟨rfl, rfl⟩)) stops.symm rfl stopKnobs.symm (by kernel_rfl)
    (by kernel_rfl) (by kernel_rfl) (by kernel_rfl) (by kernel_rfl) (by kernel_rfl) (by kernel_rfl) (by kernel_rfl) (by kernel_rfl) (by kernel_rfl) rfl (by kernel_rfl) rfl rfl
    rfl rfl
    rfl (by kernel_rfl) (by kernel_rfl) (by kernel_rfl) (by decide) (by kernel_rfl) fnPrintRuleCharsetQuoted_row_tie
    (OpenClaim.moreEntering_of (by kernel_rfl) (by kernel_rfl) (by kernel_rfl) (by kernel_rfl) (by kernel_rfl) (by kernel_rfl) (by kernel_rfl) (by kernel_rfl) (by kernel_rfl) (by kernel_rfl))
    ⟨_, WideRow.started_initial, quiet _⟩
    (fun os started _ H enc _ => lifted os started H enc)

#print axioms proved
end Go.Proofs.YtiplakadjkimmabGreatFmt.fnPrintRuleCharsetQuotedDone
