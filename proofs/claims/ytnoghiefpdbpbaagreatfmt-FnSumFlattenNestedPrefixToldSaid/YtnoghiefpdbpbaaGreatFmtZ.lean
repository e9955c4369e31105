/-
  strings.EqualFold of any two texts, walked.
-/
import Derived.Test.YtnoghiefpdbpbaaGreatFmtY
import Derived.Lib.QuoteLoop
import Derived.Laws.BitsAllLaws
import Derived.ScopeJumps
namespace Go.Proofs.YtnoghiefpdbpbaaGreatFmt
open Go.RowKit Go.Deep Go.PlainAid Go.Lib

section
variable {P : Program} {a : Act} {w : World} {Q : Exit → Act → World → Prop} {l : Nat} {J : Act → World → Prop}
@[go_sem] theorem jump_normal : Exit.jump l J Q .normal a w = Q .normal a w := rfl
@[go_sem] theorem jump_exit (id : Nat) : Exit.jump l J Q (.exit id) a w = Q (.exit id) a w := rfl
@[go_sem] theorem jump_ret : Exit.jump l J Q .ret a w = Q .ret a w := rfl
@[go_sem] theorem jump_panic (ch : List PanicEntry) : Exit.jump l J Q (.panic ch) a w = Q (.panic ch) a w := rfl
@[go_sem] theorem jump_goto : Exit.jump l J Q (.goto l) a w = J a w := by simp [Exit.jump]

/-- A scope in which the run jumps forward, once: what stands behind the label is walked from where the jump came. -/
theorem wp_scope_forward {c rest : Code} (l : Nat) (hf : findLabel c l = some rest)
    (first : c.wp P (Exit.jump l (fun a w => rest.wp P (Exit.noGoto Q) a w) Q) a w) : (Code.scope c).wp P Q a w :=
  wp_scope_jumps l (fun a w => rest.wp P (Exit.noGoto Q) a w) (fun _ _ => 0) hf first fun a w h => wp_mono h fun e a' w' hq => by
    cases e with
    | goto l' => exact absurd hq (by simp [Exit.noGoto])
    | normal => exact hq
    | exit id => exact hq
    | ret => exact hq
    | panic ch => exact hq
    | outgrown => exact hq

/-- Another object in a block. -/
def World.setBlk (w : World) (b : Nat) (o : Obj) : World := { w with heap := w.heap.setIfInBounds b o }
theorem setBlk_size (w : World) (b : Nat) (o : Obj) : (World.setBlk w b o).heap.size = w.heap.size := by simp [World.setBlk]
theorem setBlk_at (w : World) (b : Nat) (o : Obj) (h : b < w.heap.size) : (World.setBlk w b o).heap[b]? = some o := by simp [World.setBlk, h]
theorem setBlk_below {B : Nat} {w0 w : World} (h : Below B w0 w) (b : Nat) (o : Obj) (hb : B ≤ b) : Below B w0 (World.setBlk w b o) :=
  ⟨h.os, h.tape, h.output, by rw [setBlk_size]; exact h.size, fun k hk => by rw [← h.block k hk]; simp [World.setBlk, show b ≠ k by omega]⟩
theorem setBlk_pos (w : World) (b : Nat) (s : ByteArray) (p : Nat) (h : b < w.heap.size) : (World.setBlk w b (.stringIter s p)).iterPos b = p := by
  unfold World.iterPos
  rw [setBlk_at w b _ h]
theorem run_next_at (w : World) (b : Nat) (s : ByteArray) (pos : Nat) (ty : TypeId) (hb : w.heap[b]? = some (.stringIter s pos)) (h : pos < s.size) :
    (Instr.next (.pointer (some ⟨b, 0, none⟩)) true ty).run P w = .ok (.tuple #[.bool true, .int .i64 pos, .int .i32 (Utf8.decode s pos).1]) (World.setBlk w b (.stringIter s (pos + (Utf8.decode s pos).2))) := by
  simp only [Instr.next, getObj, setObj, Sem.run_bind, Sem.run, hb, Result.andThen, h, if_true]
  simp [goInt, World.setBlk]
theorem run_next_stop (w : World) (b : Nat) (s : ByteArray) (pos : Nat) (ty : TypeId) (hb : w.heap[b]? = some (.stringIter s pos)) (h : ¬ pos < s.size) :
    (Instr.next (.pointer (some ⟨b, 0, none⟩)) true ty).run P w = .ok (.tuple #[.bool false]) w := by
  simp [Instr.next, getObj, Sem.run, hb, h]
end

theorem fold_range {r : Int} (h0 : -2147483648 ≤ r) (h1 : r ≤ 2147483647) : -2147483648 ≤ foldI r ∧ foldI r ≤ 2147483647 := by
  by_cases ho : r < 0 ∨ 1114111 < r
  · rw [fold_out ho]
    exact ⟨h0, h1⟩
  obtain ⟨m, rfl⟩ : ∃ m : Nat, r = m := ⟨r.toNat, by omega⟩
  by_cases h2 : m < 128
  · rw [fold_low h2]
    have hs : ascF.getD m 0 ≤ 65535 := by
      rw [List.getD_eq_getElem?_getD, List.getElem?_eq_getElem (by rw [asc_len]; exact h2), Option.getD_some]
      exact asc_small _ (List.getElem_mem _)
    omega
  obtain ⟨f1, f2⟩ := fold_high h2 (by omega)
  cases hg : orbGet m with
  | some t =>
    rw [f1 t hg]
    obtain ⟨p, hp, _, rfl⟩ := orbGet_mem hg
    have := (orb_small p hp).2
    omega
  | none =>
    obtain ⟨f3, f4⟩ := f2 hg
    cases hx : rowOf m with
    | none =>
      rw [f4 hx]
      omega
    | some x =>
      rw [f3 x hx]
      obtain ⟨m1, m2, m3⟩ := rowOf_mem hx
      have w0 := conv_small m1 m2 m3 0 (by omega)
      have w1 := conv_small m1 m2 m3 1 (by omega)
      unfold stepR
      have hw : ∀ z : Int, wrap32 z = z → -2147483648 ≤ z ∧ z ≤ 2147483647 := fun z hz => by unfold wrap32 at hz; omega
      split
      · exact hw _ w0
      · exact hw _ w1

theorem eqU_step {s t : ByteArray} {p : Nat} (h : p < s.size) (ht : t.size ≠ 0) : eqU s p t = if runeEq (Utf8.decode s p).1 (Utf8.decode t 0).1 then eqU s (p + (Utf8.decode s p).2) (t.extract (Utf8.decode t 0).2 t.size) else false := by
  rw [eqU, if_pos h, if_neg ht]
theorem eqU_none {s t : ByteArray} {p : Nat} (h : p < s.size) (ht : t.size = 0) : eqU s p t = false := by
  rw [eqU, if_pos h, if_pos ht]
theorem eqU_end {s t : ByteArray} {p : Nat} (h : ¬ p < s.size) : eqU s p t = (t.size == 0) := by
  rw [eqU, if_neg h]

/-- What EqualFold reads besides its texts. -/
structure EqTabs (w : World) : Prop where
  utf : Lib.Utf8Tabs 4 5 w
  fold : FoldTabs w
end Go.Proofs.YtnoghiefpdbpbaaGreatFmt
