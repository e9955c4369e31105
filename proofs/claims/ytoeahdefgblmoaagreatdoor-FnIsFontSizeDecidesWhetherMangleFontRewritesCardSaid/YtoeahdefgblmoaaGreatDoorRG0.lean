/-
  A scope whose jumps go forward, to several labels; frames of 243 slots as functions.
  Then: floatBits: what stands behind the labels.
-/
import Derived.Test.YtoeahdefgblmoaaGreatDoorRF
import Derived.Test.YtoeahdefgblmoaaGreatDoorRE
import Derived.ScopeJumps
namespace Go
/-- As Q; by a goto to label l: J l. -/
def Exit.jumps (J : Nat → Act → World → Prop) (Q : Exit → Act → World → Prop) : Exit → Act → World → Prop
  | .goto l, a, w => J l a w
  | e, a, w => Q e a w
section
variable {P : Program} {a : Act} {w : World} {Q : Exit → Act → World → Prop} {J : Nat → Act → World → Prop}
@[go_sem] theorem jumps_normal : Exit.jumps J Q .normal a w = Q .normal a w := rfl
@[go_sem] theorem jumps_exit (id : Nat) : Exit.jumps J Q (.exit id) a w = Q (.exit id) a w := rfl
@[go_sem] theorem jumps_ret : Exit.jumps J Q .ret a w = Q .ret a w := rfl
@[go_sem] theorem jumps_panic (ch : List PanicEntry) : Exit.jumps J Q (.panic ch) a w = Q (.panic ch) a w := rfl
@[go_sem] theorem jumps_goto (l : Nat) : Exit.jumps J Q (.goto l) a w = J l a w := rfl

theorem wp_scope_many {c : Code} (J : Nat → Act → World → Prop) (μ : Nat → Nat) (first : c.wp P (Exit.jumps J Q) a w)
    (pass : ∀ l a w, J l a w → ∃ r, findLabel c l = some r ∧ r.wp P (Exit.jumps (fun l' a' w' => J l' a' w' ∧ μ l' < μ l) Q) a w) : (Code.scope c).wp P Q a w := by
  intro b k cs
  have key : ∀ n l a w, μ l = n → J l a w → ∃ r, findLabel c l = some r ∧ ∃ e a' w', Q e a' w' ∧ Arrives P (lone (b.at a (.code r :: .inScope c :: k)) cs w) b k cs e a' w' := by
    intro n
    induction n using Nat.strongRecOn with
    | _ n ih =>
      intro l a w hn hJ
      obtain ⟨r, hf, hp⟩ := pass l a w hJ
      refine ⟨r, hf, ?_⟩
      obtain ⟨e, a₁, w₁, hq, harr⟩ := hp b (.inScope c :: k) cs
      cases e with
      | normal => exact ⟨.normal, a₁, w₁, hq, Steps.trans harr (.one step_inScope)⟩
      | exit id => exact ⟨.exit id, a₁, w₁, hq, fun k' hk => harr k' (by simp [exitTo, hk])⟩
      | goto l' =>
        obtain ⟨hJ', hlt⟩ := hq
        obtain ⟨r2, hf2, e₂, a₂, w₂, hq₂, harr₂⟩ := ih _ (by omega) l' a₁ w₁ rfl hJ'
        have hg : gotoIn l' (.inScope c :: k) = some (.code r2 :: .inScope c :: k) := by simp [gotoIn, hf2]
        exact ⟨e₂, a₂, w₂, hq₂, .of_steps (harr _ hg) harr₂⟩
      | ret => exact ⟨_, a₁, w₁, hq, harr⟩
      | panic ch => exact ⟨_, a₁, w₁, hq, harr⟩
      | outgrown => exact ⟨_, a₁, w₁, hq, harr⟩
  obtain ⟨e, a₁, w₁, hq, harr⟩ := first b (.inScope c :: k) cs
  cases e with
  | normal => exact ⟨.normal, a₁, w₁, hq, .head step_scope (Steps.trans harr (.one step_inScope))⟩
  | exit id => exact ⟨.exit id, a₁, w₁, hq, fun k' hk => .head step_scope (harr k' (by simp [exitTo, hk]))⟩
  | goto l' =>
    obtain ⟨r2, hf2, e₂, a₂, w₂, hq₂, harr₂⟩ := key _ l' a₁ w₁ rfl hq
    have hg : gotoIn l' (.inScope c :: k) = some (.code r2 :: .inScope c :: k) := by simp [gotoIn, hf2]
    exact ⟨e₂, a₂, w₂, hq₂, .of_steps (.head step_scope (harr _ hg)) harr₂⟩
  | ret => exact ⟨_, a₁, w₁, hq, .of_steps (.one step_scope) harr⟩
  | panic ch => exact ⟨_, a₁, w₁, hq, .of_steps (.one step_scope) harr⟩
  | outgrown => exact ⟨_, a₁, w₁, hq, .of_steps (.one step_scope) harr⟩
end
end Go
namespace Go.Proofs.YtoeahdefgblmoaaGreatDoor
open Go.RowKit Go.Deep Go.PlainAid

/-- A frame of 243 slots. -/
def gr (xs : Nat → Value) : Act := ⟨#[xs 0, xs 1, xs 2, xs 3, xs 4, xs 5, xs 6, xs 7, xs 8, xs 9, xs 10, xs 11, xs 12, xs 13, xs 14, xs 15, xs 16, xs 17, xs 18, xs 19, xs 20, xs 21, xs 22, xs 23, xs 24, xs 25, xs 26, xs 27, xs 28, xs 29, xs 30, xs 31, xs 32, xs 33, xs 34, xs 35, xs 36, xs 37, xs 38, xs 39, xs 40, xs 41, xs 42, xs 43, xs 44, xs 45, xs 46, xs 47, xs 48, xs 49, xs 50, xs 51, xs 52, xs 53, xs 54, xs 55, xs 56, xs 57, xs 58, xs 59, xs 60, xs 61, xs 62, xs 63, xs 64, xs 65, xs 66, xs 67, xs 68, xs 69, xs 70, xs 71, xs 72, xs 73, xs 74, xs 75, xs 76, xs 77, xs 78, xs 79, xs 80, xs 81, xs 82, xs 83, xs 84, xs 85, xs 86, xs 87, xs 88, xs 89, xs 90, xs 91, xs 92, xs 93, xs 94, xs 95, xs 96, xs 97, xs 98, xs 99, xs 100, xs 101, xs 102, xs 103, xs 104, xs 105, xs 106, xs 107, xs 108, xs 109, xs 110, xs 111, xs 112, xs 113, xs 114, xs 115, xs 116, xs 117, xs 118, xs 119, xs 120, xs 121, xs 122, xs 123, xs 124, xs 125, xs 126, xs 127, xs 128, xs 129, xs 130, xs 131, xs 132, xs 133, xs 134, xs 135, xs 136, xs 137, xs 138, xs 139, xs 140, xs 141, xs 142, xs 143, xs 144, xs 145, xs 146, xs 147, xs 148, xs 149, xs 150, xs 151, xs 152, xs 153, xs 154, xs 155, xs 156, xs 157, xs 158, xs 159, xs 160, xs 161, xs 162, xs 163, xs 164, xs 165, xs 166, xs 167, xs 168, xs 169, xs 170, xs 171, xs 172, xs 173, xs 174, xs 175, xs 176, xs 177, xs 178, xs 179, xs 180, xs 181, xs 182, xs 183, xs 184, xs 185, xs 186, xs 187, xs 188, xs 189, xs 190, xs 191, xs 192, xs 193, xs 194, xs 195, xs 196, xs 197, xs 198, xs 199, xs 200, xs 201, xs 202, xs 203, xs 204, xs 205, xs 206, xs 207, xs 208, xs 209, xs 210, xs 211, xs 212, xs 213, xs 214, xs 215, xs 216, xs 217, xs 218, xs 219, xs 220, xs 221, xs 222, xs 223, xs 224, xs 225, xs 226, xs 227, xs 228, xs 229, xs 230, xs 231, xs 232, xs 233, xs 234, xs 235, xs 236, xs 237, xs 238, xs 239, xs 240, xs 241, xs 242], []⟩

set_option maxRecDepth 100000 in
theorem gr_eq (xs : Nat → Value) : gr xs = ⟨((List.range 243).map xs).toArray, []⟩ := by kernel_rfl

theorem act_some (a : Act) (n : Nat) (hs : a.tmps.size = n) (hd : a.defers = []) : a = ⟨((List.range n).map fun i => a.tmps.getD i .nilIface).toArray, []⟩ := by
  obtain ⟨t, d⟩ := a
  simp only at hs hd ⊢
  subst hd
  congr 1
  apply Array.ext
  · simp [hs]
  · intro i h1 h2
    simp [Array.getD, h1]

theorem act_gr (a : Act) (hs : a.tmps.size = 243) (hd : a.defers = []) : ∃ xs, a = gr xs ∧ ∀ i v, i < 243 → a.tmps[i]? = some v → xs i = v := by
  refine ⟨fun i => a.tmps.getD i .nilIface, ?_, fun i v hi h => ?_⟩
  · exact (act_some a 243 hs hd).trans (gr_eq _).symm
  · have hl : i < a.tmps.size := by rw [hs]; exact hi
    rw [Array.getElem?_eq_getElem hl, Option.some.injEq] at h
    simp only [Array.getD, hl, dif_pos]
    exact h

/-- The three numbers of float64info, the table of shifts. -/
structure Flt (w : World) : Prop where
  i0 : w.cell? ⟨11, 0, none⟩ = some (.int .u64 52)
  i1 : w.cell? ⟨11, 1, none⟩ = some (.int .u64 11)
  i2 : w.cell? ⟨11, 2, none⟩ = some (.int .i64 (-1023))
  pow : ∃ R o cap, w.cell? ⟨13, 0, none⟩ = some (.slice (some ⟨R, o, none⟩) 9 cap) ∧ ∀ i, i < 9 → ∃ n : Nat, 1 ≤ n ∧ n ≤ 27 ∧ w.cell? ⟨R, o + i, none⟩ = some (.int .i64 n)
  cheats : Cheats w
theorem Flt.below {w w' : World} (h : Flt w) (hb : Below w.heap.size w w') : Flt w' := by
  obtain ⟨R, o, cap, h1, h2⟩ := h.pow
  refine ⟨cell_later hb h.i0, cell_later hb h.i1, cell_later hb h.i2, ⟨R, o, cap, cell_later hb h1, fun i hi => ?_⟩, h.cheats.below hb⟩
  obtain ⟨n, k1, k2, k3⟩ := h2 i hi
  exact ⟨n, k1, k2, cell_later hb k3⟩
end Go.Proofs.YtoeahdefgblmoaaGreatDoor

namespace Go.Proofs.YtoeahdefgblmoaaGreatDoor
open Go.RowKit Go.Deep Go.PlainAid Go.Maps Go.Sort

def lab (l : Nat) : Code → Option Code
  | .scope c => findLabel c l
  | .seq a b => match lab l a with
    | some c => some c
    | none => lab l b
  | _ => none

/-- What floatBits leaves. -/
def BitsPost (b : Nat) (w0 : World) (e : Ending) (w' : World) : Prop := (∃ x o, e = .returned (.tuple #[.int .u64 x, .bool o])) ∧ Below b w0 w'

/-- At a jump. -/
structure FJ (b : Nat) (w0 : World) (a : Act) (w : World) : Prop where
  size : a.tmps.size = 243
  defers : a.defers = []
  s0 : a.tmps[0]? = some (.pointer (some ⟨b, 0, none⟩))
  s1 : a.tmps[1]? = some (.pointer (some ⟨11, 0, none⟩))
  s5 : ∃ o, a.tmps[5]? = some (.bool o)
  s6 : ∃ x, a.tmps[6]? = some (.int .i64 x)
  s7 : ∃ x, a.tmps[7]? = some (.int .u64 x)
  dec : ∃ G nd dp ng tr, DecAt w b G nd dp ng tr
  flt : Flt w
  bel : Below b w0 w

set_option maxHeartbeats 2000000 in
set_option maxRecDepth 100000 in
theorem tail_wp {d : Code} (hcode : Tryz.f72.body.bind (lab 0) = some d) (J : Nat → Act → World → Prop) (b : Nat) (w0 : World) (a : Act) (w : World) (ha : FJ b w0 a w) :
    d.wp Tryz.prog (Exit.jumps J (bodyPost Tryz.prog Tryz.f72 (BitsPost b w0))) a w := by
  have key : ∀ {D : Code}, Tryz.f72.body.bind (lab 0) = some D → D.wp Tryz.prog (Exit.jumps J (bodyPost Tryz.prog Tryz.f72 (BitsPost b w0))) a w → d.wp Tryz.prog (Exit.jumps J (bodyPost Tryz.prog Tryz.f72 (BitsPost b w0))) a w := fun e h => by
    rw [e] at hcode
    cases hcode
    exact h
  refine key rfl ?_
  clear key hcode
  obtain ⟨h1, h2, e0, e1, ⟨o, e5⟩, ⟨x, e6⟩, ⟨m, e7⟩, ⟨G, nd, dp, ng, tr, hd⟩, hf, hb⟩ := ha
  obtain ⟨xs, rfl, hxs⟩ := act_gr a h1 h2
  have x0 := hxs 0 _ (by omega) e0
  have x1 := hxs 1 _ (by omega) e1
  have x5 := hxs 5 _ (by omega) e5
  have x6 := hxs 6 _ (by omega) e6
  have x7 := hxs 7 _ (by omega) e7
  clear hxs e0 e1 e5 e6 e7 h1 h2
  simp only [gr, x0, x1, x5, x6, x7]
  clear x0 x1 x5 x6 x7
  have c3 := hd.cng
  have i0 := hf.i0
  have i1 := hf.i1
  have i2 := hf.i2
  have HB := Lib.hid hb
  clear hd hf hb
  cases ng
  · go_wp2_with fail
    go_region
    go_wp2_with fail
    rw [jumps_ret]
    refine bodyPost_ret (v := .tuple #[_, _]) (by simp [results, Tryz.results72, go_sem]; exact ⟨rfl, rfl⟩) rfl ⟨⟨_, _, rfl⟩, HB.out.drew⟩
  · go_wp2_with fail
    go_region
    go_wp2_with fail
    go_region
    go_wp2_with fail
    rw [jumps_ret]
    refine bodyPost_ret (v := .tuple #[_, _]) (by simp [results, Tryz.results72, go_sem]; exact ⟨rfl, rfl⟩) rfl ⟨⟨_, _, rfl⟩, HB.out.drew.drew⟩

set_option maxHeartbeats 2000000 in
set_option maxRecDepth 100000 in
theorem tail1_wp {d : Code} (hcode : Tryz.f72.body.bind (lab 1) = some d) (J : Nat → Act → World → Prop) (b : Nat) (w0 : World) (a : Act) (w : World) (ha : FJ b w0 a w) :
    d.wp Tryz.prog (Exit.jumps J (bodyPost Tryz.prog Tryz.f72 (BitsPost b w0))) a w := by
  have key : ∀ {D : Code}, Tryz.f72.body.bind (lab 1) = some D → D.wp Tryz.prog (Exit.jumps J (bodyPost Tryz.prog Tryz.f72 (BitsPost b w0))) a w → d.wp Tryz.prog (Exit.jumps J (bodyPost Tryz.prog Tryz.f72 (BitsPost b w0))) a w := fun e h => by
    rw [e] at hcode
    cases hcode
    exact h
  refine key rfl ?_
  clear key hcode
  obtain ⟨h1, h2, e0, e1, ⟨o, e5⟩, ⟨x, e6⟩, ⟨m, e7⟩, ⟨G, nd, dp, ng, tr, hd⟩, hf, hb⟩ := ha
  obtain ⟨xs, rfl, hxs⟩ := act_gr a h1 h2
  have x0 := hxs 0 _ (by omega) e0
  have x1 := hxs 1 _ (by omega) e1
  have x5 := hxs 5 _ (by omega) e5
  have x6 := hxs 6 _ (by omega) e6
  have x7 := hxs 7 _ (by omega) e7
  clear hxs e0 e1 e5 e6 e7 h1 h2
  simp only [gr, x0, x1, x5, x6, x7]
  clear x0 x1 x5 x6 x7
  have c3 := hd.cng
  have i0 := hf.i0
  have i1 := hf.i1
  have i2 := hf.i2
  have HB := Lib.hid hb
  clear hd hf hb
  cases ng
  · go_wp2_with fail
    go_region
    go_wp2_with fail
    refine wp_label ?_
    go_wp2_with fail
    go_region
    go_wp2_with fail
    rw [jumps_ret]
    refine bodyPost_ret (v := .tuple #[_, _]) (by simp [results, Tryz.results72, go_sem]; exact ⟨rfl, rfl⟩) rfl ⟨⟨_, _, rfl⟩, HB.out.drew.drew⟩
  · go_wp2_with fail
    go_region
    go_wp2_with fail
    refine wp_label ?_
    go_wp2_with fail
    go_region
    go_wp2_with fail
    go_region
    go_wp2_with fail
    rw [jumps_ret]
    refine bodyPost_ret (v := .tuple #[_, _]) (by simp [results, Tryz.results72, go_sem]; exact ⟨rfl, rfl⟩) rfl ⟨⟨_, _, rfl⟩, HB.out.drew.drew.drew⟩
end Go.Proofs.YtoeahdefgblmoaaGreatDoor
