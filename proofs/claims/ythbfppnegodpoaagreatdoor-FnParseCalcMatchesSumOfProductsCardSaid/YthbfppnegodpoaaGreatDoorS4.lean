/-
  zzOperator and zzSpaced.
-/
import Derived.Test.YthbfppnegodpoaaGreatDoorS3
namespace Go.Proofs.YthbfppnegodpoaaGreatDoor
open Go.RowKit Go.Deep Go.PlainAid

/-- An operator's token, its number, its tree. -/
def oprTok (c : Int) : TK :=
  if opdK c = 0 then ⟨none, ⟨#[43]⟩, 23, ws2 c⟩ else
  if opdK c = 1 then ⟨none, ⟨#[45]⟩, 22, ws2 c⟩ else
  if opdK c = 2 then ⟨none, ⟨#[42]⟩, 13, ws2 c⟩ else
  if opdK c = 3 then ⟨none, ⟨#[47]⟩, 24, ws2 c⟩ else
  ⟨none, ⟨#[113]⟩, 29, ws2 c⟩
def oprN (c : Int) : Int :=
  if opdK c = 0 then 1 else
  if opdK c = 1 then 2 else
  if opdK c = 2 then 3 else
  if opdK c = 3 then 4 else 0
def oprT (c : Int) (bad : Bool) : CT := .val (oprTok c).kd (oprTok c).s (oprTok c).ws bad
def OprAt (c : Int) (w : World) (e : Ending) (w' : World) : Prop := e = .returned (.tuple #[.agg (oprTok c).vals, .int .i64 (oprN c)]) ∧ Below w.heap.size w w'

set_option maxHeartbeats 4000000 in
set_option maxRecDepth 100000 in
theorem opr_0 (c : Int) (w : World) (hk : bits .and .u16 c 7 = 0) : Calls Tryz.prog 28 #[.int .u16 c] w (OprAt c w) := by
  have ek : opdK c = 0 := hk
  go_enter Tryz.func28, Tryz.ntmps28
  go_wp2_with fail
  refine (ws_any _ _ _).mono ?_
  rintro e w' ⟨rfl, rfl⟩
  go_wp2_with fail
  refine bodyPost_ret (v := .tuple #[.agg #[.pointer none, .string ⟨#[43]⟩, .int .i32 0, .int .u32 0, .int .u16 0, .int .u8 23, .int .u8 (ws2 c)], .int .i64 1]) (by simp [results, Tryz.results28, go_sem, ws2]) rfl ⟨?_, (Below.refl _ _).alloc (Nat.le_refl _) _⟩
  unfold oprTok oprN
  simp [ek, TK.vals]

set_option maxHeartbeats 4000000 in
set_option maxRecDepth 100000 in
theorem opr_1 (c : Int) (w : World) (hk : bits .and .u16 c 7 = 1) : Calls Tryz.prog 28 #[.int .u16 c] w (OprAt c w) := by
  have ek : opdK c = 1 := hk
  go_enter Tryz.func28, Tryz.ntmps28
  go_wp2_with fail
  refine (ws_any _ _ _).mono ?_
  rintro e w' ⟨rfl, rfl⟩
  go_wp2_with fail
  refine bodyPost_ret (v := .tuple #[.agg #[.pointer none, .string ⟨#[45]⟩, .int .i32 0, .int .u32 0, .int .u16 0, .int .u8 22, .int .u8 (ws2 c)], .int .i64 2]) (by simp [results, Tryz.results28, go_sem, ws2]) rfl ⟨?_, (Below.refl _ _).alloc (Nat.le_refl _) _⟩
  unfold oprTok oprN
  simp [ek, TK.vals]

set_option maxHeartbeats 4000000 in
set_option maxRecDepth 100000 in
theorem opr_2 (c : Int) (w : World) (hk : bits .and .u16 c 7 = 2) : Calls Tryz.prog 28 #[.int .u16 c] w (OprAt c w) := by
  have ek : opdK c = 2 := hk
  go_enter Tryz.func28, Tryz.ntmps28
  go_wp2_with fail
  refine (ws_any _ _ _).mono ?_
  rintro e w' ⟨rfl, rfl⟩
  go_wp2_with fail
  refine bodyPost_ret (v := .tuple #[.agg #[.pointer none, .string ⟨#[42]⟩, .int .i32 0, .int .u32 0, .int .u16 0, .int .u8 13, .int .u8 (ws2 c)], .int .i64 3]) (by simp [results, Tryz.results28, go_sem, ws2]) rfl ⟨?_, (Below.refl _ _).alloc (Nat.le_refl _) _⟩
  unfold oprTok oprN
  simp [ek, TK.vals]

set_option maxHeartbeats 4000000 in
set_option maxRecDepth 100000 in
theorem opr_3 (c : Int) (w : World) (hk : bits .and .u16 c 7 = 3) : Calls Tryz.prog 28 #[.int .u16 c] w (OprAt c w) := by
  have ek : opdK c = 3 := hk
  go_enter Tryz.func28, Tryz.ntmps28
  go_wp2_with fail
  refine (ws_any _ _ _).mono ?_
  rintro e w' ⟨rfl, rfl⟩
  go_wp2_with fail
  refine bodyPost_ret (v := .tuple #[.agg #[.pointer none, .string ⟨#[47]⟩, .int .i32 0, .int .u32 0, .int .u16 0, .int .u8 24, .int .u8 (ws2 c)], .int .i64 4]) (by simp [results, Tryz.results28, go_sem, ws2]) rfl ⟨?_, (Below.refl _ _).alloc (Nat.le_refl _) _⟩
  unfold oprTok oprN
  simp [ek, TK.vals]

set_option maxHeartbeats 4000000 in
set_option maxRecDepth 100000 in
theorem opr_9 (c : Int) (w : World) (k : Int) (hk : bits .and .u16 c 7 = k) (k0 : (k == 0) = false) (k1 : (k == 1) = false) (k2 : (k == 2) = false) (k3 : (k == 3) = false) : Calls Tryz.prog 28 #[.int .u16 c] w (OprAt c w) := by
  have ek : opdK c = k := hk
  go_enter Tryz.func28, Tryz.ntmps28
  go_wp2_with fail
  refine (ws_any _ _ _).mono ?_
  rintro e w' ⟨rfl, rfl⟩
  go_wp2_with fail
  refine bodyPost_ret (v := .tuple #[.agg #[.pointer none, .string ⟨#[113]⟩, .int .i32 0, .int .u32 0, .int .u16 0, .int .u8 29, .int .u8 (ws2 c)], .int .i64 0]) (by simp [results, Tryz.results28, go_sem, ws2]) rfl ⟨?_, (Below.refl _ _).alloc (Nat.le_refl _) _⟩
  have q0 := beq_eq_false_iff_ne.1 k0
  have q1 := beq_eq_false_iff_ne.1 k1
  have q2 := beq_eq_false_iff_ne.1 k2
  have q3 := beq_eq_false_iff_ne.1 k3
  unfold oprTok oprN
  rw [ek, if_neg q0, if_neg q1, if_neg q2, if_neg q3, if_neg q0, if_neg q1, if_neg q2, if_neg q3]
  rfl

theorem opr_any (c : Int) (w : World) : Calls Tryz.prog 28 #[.int .u16 c] w (OprAt c w) := by
  obtain ⟨k, hk⟩ : ∃ k, bits .and .u16 c 7 = k := ⟨_, rfl⟩
  by_cases k0 : k = 0
  · exact opr_0 c w (hk.trans k0)
  by_cases k1 : k = 1
  · exact opr_1 c w (hk.trans k1)
  by_cases k2 : k = 2
  · exact opr_2 c w (hk.trans k2)
  by_cases k3 : k = 3
  · exact opr_3 c w (hk.trans k3)
  exact opr_9 c w k hk (beq_eq_false_iff_ne.2 k0) (beq_eq_false_iff_ne.2 k1) (beq_eq_false_iff_ne.2 k2) (beq_eq_false_iff_ne.2 k3)

theorem opr_leaf {w : World} (hE : Env w) (c : Int) (bad : Bool) : LeafOk w (oprTok c) bad (some (oprT c bad)) := by
  have hF := hE.fold
  unfold oprT
  by_cases k0 : opdK c = 0
  · rw [show oprTok c = ⟨none, ⟨#[43]⟩, 23, ws2 c⟩ by unfold oprTok; simp [k0]]
    exact .other rfl rfl rfl rfl rfl rfl
  by_cases k1 : opdK c = 1
  · rw [show oprTok c = ⟨none, ⟨#[45]⟩, 22, ws2 c⟩ by unfold oprTok; simp [k1]]
    exact .other rfl rfl rfl rfl rfl rfl
  by_cases k2 : opdK c = 2
  · rw [show oprTok c = ⟨none, ⟨#[42]⟩, 13, ws2 c⟩ by unfold oprTok; simp [k2]]
    exact .other rfl rfl rfl rfl rfl rfl
  by_cases k3 : opdK c = 3
  · rw [show oprTok c = ⟨none, ⟨#[47]⟩, 24, ws2 c⟩ by unfold oprTok; simp [k3]]
    exact .other rfl rfl rfl rfl rfl rfl
  rw [show oprTok c = ⟨none, ⟨#[113]⟩, 29, ws2 c⟩ by unfold oprTok; simp [k0, k1, k2, k3]]
  exact .ident rfl (ef_of hF ⟨#[113]⟩ wInf (by decide) word_inf false (by unfold FoldEq; decide +kernel)) (ef_of hF ⟨#[113]⟩ wNeg (by decide) word_neg false (by unfold FoldEq; decide +kernel)) (ef_of hF ⟨#[113]⟩ wNaN (by decide) word_nan false (by unfold FoldEq; decide +kernel))

/-- Space on both sides. -/
def spaced (tk : Nat → TK) (i : Nat) : Bool := ((bits .and .u8 (tk i).ws 1 != 0) || (bits .and .u8 (tk (i - 1)).ws 2 != 0)) && ((bits .and .u8 (tk i).ws 2 != 0) || (bits .and .u8 (tk (i + 1)).ws 1 != 0))

set_option maxHeartbeats 4000000 in
set_option maxRecDepth 100000 in
theorem spaced_any (w : World) (T n cap i : Nat) (tk : Nat → TK) (hn : n ≤ 4096) (h0 : 0 < i) (h1 : i + 1 < n) (ht : Toks w T n tk) : Calls Tryz.prog 38 #[.slice (some ⟨T, 0, none⟩) n cap, .int .i64 i] w fun e w' => e = .returned (.bool (spaced tk i)) ∧ w = w' := by
  have c0 := (ht i (by omega)).c6
  have c1 := (ht (i - 1) (by omega)).c6
  have c2 := (ht (i + 1) (by omega)).c6
  obtain ⟨g, rfl⟩ : ∃ g, i = g + 1 := ⟨i - 1, by omega⟩
  have es : spaced tk (g + 1) = (((bits .and .u8 (tk (g + 1)).ws 1 != 0) || (bits .and .u8 (tk g).ws 2 != 0)) && ((bits .and .u8 (tk (g + 1)).ws 2 != 0) || (bits .and .u8 (tk (g + 1 + 1)).ws 1 != 0))) := rfl
  rw [es]
  rw [Nat.add_sub_cancel] at c1
  generalize (tk (g + 1)).ws = x at c0 es ⊢
  generalize (tk g).ws = y at c1 es ⊢
  generalize (tk (g + 1 + 1)).ws = z at c2 es ⊢
  clear es ht h0
  have w1 : IntKind.i64.wrap (((g + 1 : Nat) : Int) - 1) = (g : Int) := by rw [IntKind.wrap_i64]; omega
  have w2 : IntKind.i64.wrap (((g + 1 : Nat) : Int) + 1) = ((g + 1 + 1 : Nat) : Int) := by rw [IntKind.wrap_i64]; omega
  have l0 : ((g + 1 : Nat) : Int) < (n : Int) := by omega
  have l1 : (g : Int) < (n : Int) := by omega
  have l2 : ((g + 1 + 1 : Nat) : Int) < (n : Int) := by omega
  cases e1 : (bits .and .u8 x 1 != 0) <;> cases e2 : (bits .and .u8 x 2 != 0) <;> (
    go_enter Tryz.func38, Tryz.ntmps38
    go_wp2_with fail
    all_goals (go_ret; exact ⟨by simp [*], rfl⟩))
end Go.Proofs.YthbfppnegodpoaaGreatDoor
