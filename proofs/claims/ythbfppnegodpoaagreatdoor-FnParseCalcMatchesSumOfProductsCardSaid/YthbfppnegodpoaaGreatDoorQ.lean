/-
  The walk of the law FnParsedIdentIsSimplifyFixedPoint.
-/
import Derived.Test.YthbfppnegodpoaaGreatDoorM
import Derived.LaidEqlPtr
namespace Go.Proofs.YthbfppnegodpoaaGreatDoor
open Go.RowKit Go.Deep Go.PlainAid

/-- A new value node, by its pointer. -/
def Val (s : ByteArray) (kd ws : Int) (w : World) (e : Ending) (w' : World) : Prop :=
  ∃ b, e = .returned (.tuple #[.pointer (some ⟨b, 0, none⟩), .bool true]) ∧ b < w'.heap.size ∧ (∀ i, i < 7 → w'.cell? ⟨b, i, none⟩ = (tok s kd ws)[i]?) ∧ w'.cell? ⟨b, 7, none⟩ = some (.bool false) ∧ Below w.heap.size w w'

theorem info80 : (Tryz.prog.info? 80).map (fun _ => ()) = some () := by kernel_rfl
theorem u54' : Tryz.prog.underlying 54 = some (.pointer 80) := by kernel_rfl
theorem u54 : ∃ d, Tryz.prog.underlying 54 = some (.pointer d) := ⟨80, by kernel_rfl⟩

set_option maxRecDepth 100000 in
theorem value_any (s : ByteArray) (kd ws : Int) (v : Value) (w : World) (h30 : Calls Tryz.prog 30 #[v] w (Valued s kd ws w)) : Calls Tryz.prog 22 #[v] w (Val s kd ws w) := by
  obtain ⟨d, hd⟩ := u54
  have ha := fun b => run_assert_same (P := Tryz.prog) (.pointer (some ⟨b, 0, none⟩)) 70 54 d hd
  have H := Lib.hid h30
  clear h30
  go_enter Tryz.func22, Tryz.ntmps22
  go_wp2_with fail
  refine H.out.mono ?_
  rintro e w' ⟨b, rfl, hb, h0, h1, hB⟩
  have HB := Lib.hid (And.intro hb (And.intro h0 (And.intro h1 hB)))
  clear hb h0 h1 hB
  go_wp2_with fail
  go_ret2
  exact ⟨b, rfl, HB.out⟩

set_option maxRecDepth 100000 in
theorem valsimp_any (b : Nat) (w : World) : Calls Tryz.prog 25 #[.pointer (some ⟨b, 0, none⟩)] w fun e w' => e = .returned (.tuple #[.pointer (some ⟨b, 0, none⟩), .bool true]) ∧ w = w' := by
  obtain ⟨d, hd⟩ := u54
  have ha := run_assert_same (P := Tryz.prog) (.pointer (some ⟨b, 0, none⟩)) 70 54 d hd
  go_enter Tryz.func25, Tryz.ntmps25
  go_wp2
  go_ret2
  exact ⟨rfl, rfl⟩

theorem invalid_any (b : Nat) (w : World) (h : w.cell? ⟨b, 7, none⟩ = some (.bool false)) : Calls Tryz.prog 24 #[.pointer (some ⟨b, 0, none⟩)] w fun e w' => e = .returned (.bool false) ∧ w = w' := by
  go_enter Tryz.func24, Tryz.ntmps24
  go_wp2
  go_ret
  exact ⟨rfl, rfl⟩

set_option maxRecDepth 100000 in
theorem token_any (s : ByteArray) (kd ws : Int) (b : Nat) (w : World) (c0 : w.cell? ⟨b, 0, none⟩ = some (.pointer none)) (c1 : w.cell? ⟨b, 1, none⟩ = some (.string s)) (c2 : w.cell? ⟨b, 2, none⟩ = some (.int .i32 0)) (c3 : w.cell? ⟨b, 3, none⟩ = some (.int .u32 0))
    (c4 : w.cell? ⟨b, 4, none⟩ = some (.int .u16 0)) (c5 : w.cell? ⟨b, 5, none⟩ = some (.int .u8 kd)) (c6 : w.cell? ⟨b, 6, none⟩ = some (.int .u8 ws)) :
    Calls Tryz.prog 23 #[.pointer (some ⟨b, 0, none⟩)] w fun e w' => e = .returned (.agg #[.pointer none, .string s, .int .i32 0, .int .u32 0, .int .u16 0, .int .u8 kd, .int .u8 ws]) ∧ Below w.heap.size w w' := by
  have hbs : b < w.heap.size := World.block_lt_of_cell? _ _ c0
  go_enter Tryz.func23, Tryz.ntmps23
  go_wp2_with fail
  refine bodyPost_ret (v := .agg #[.pointer none, .string s, .int .i32 0, .int .u32 0, .int .u16 0, .int .u8 kd, .int .u8 ws]) (by simp [results, Tryz.results23, go_sem]) rfl ⟨rfl, (Below.refl _ _).alloc (Nat.le_refl _) _⟩

theorem zz20_any (s : ByteArray) (b1 b2 : Bool) (w : World) : Calls Tryz.prog 20 #[.string s, .bool b1, .bool b2] w fun e w' => e = .returned (.bool (decide (s.size ≤ 1048576))) ∧ w = w' := by
  by_cases h : s.size ≤ 1048576
  · have h1 : ¬ (1048576 : Int) < (s.size : Int) := by omega
    rw [decide_eq_true h]
    go_enter Tryz.func20, Tryz.ntmps20
    go_wp2
    go_ret
    exact ⟨rfl, rfl⟩
  · have h1 : (1048576 : Int) < (s.size : Int) := by omega
    rw [decide_eq_false h]
    go_enter Tryz.func20, Tryz.ntmps20
    go_wp2
    go_ret
    exact ⟨rfl, rfl⟩

theorem feq_low (s t u : ByteArray) (hsz : t.size = u.size) (h : ∀ i, i < u.size → bt u i = low (bt t i)) (hf : FoldEq s t) : LowEq s u :=
  ⟨hf.1.trans hsz, fun i hi => by rw [h i (by rw [← hsz, ← hf.1]; exact hi)]; exact hf.2 i hi⟩

def lInf : ByteArray := ⟨#[105, 110, 102, 105, 110, 105, 116, 121]⟩
def lNeg : ByteArray := ⟨#[45, 105, 110, 102, 105, 110, 105, 116, 121]⟩
def lNaN : ByteArray := ⟨#[110, 97, 110]⟩
theorem low_inf {s : ByteArray} (h : FoldEq s wInf) : LowEq s lInf := feq_low s wInf lInf rfl (by decide +kernel) h
theorem low_neg {s : ByteArray} (h : FoldEq s wNeg) : LowEq s lNeg := feq_low s wNeg lNeg rfl (by decide +kernel) h
theorem low_nan {s : ByteArray} (h : FoldEq s wNaN) : LowEq s lNaN := feq_low s wNaN lNaN rfl (by decide +kernel) h

set_option maxHeartbeats 4000000 in
set_option maxRecDepth 100000 in
theorem fnParsedIdentIsSimplifyFixedPoint_walk (s : ByteArray) (b1 b2 : Bool) (W : World) (hF : Fold W) :
    Calls Tryz.prog 6 #[.string s, .bool b1, .bool b2] W fun e w' => e = .returned (.bool true) ∧ Below W.heap.size W w' := by
  by_cases hs : s.size ≤ 1048576
  · have h1 : ¬ (1048576 : Int) < (s.size : Int) := by omega
    have h20 := zz20_any s b1 b2
    rw [decide_eq_true hs] at h20
    have f1 := foldeq_any s lInf W (by omega)
    have f2 := foldeq_any s lNeg W (by omega)
    have f3 := foldeq_any s lNaN W (by omega)
    have hw := ws_any b1 b2
    have hF' := Lib.hid hF
    go_enter Tryz.func6, Tryz.ntmps6
    go_wp2_with fail
    refine (h20 _).mono ?_
    rintro e w' ⟨rfl, rfl⟩
    go_wp2_with fail
    refine f1.mono ?_
    rintro e w' ⟨v1, rfl, hv1, rfl⟩
    cases v1
    case true =>
      go_wp2_with fail
      all_goals (go_ret; exact ⟨rfl, Below.refl _ _⟩)
    go_wp2_with fail
    refine f2.mono ?_
    rintro e w' ⟨v2, rfl, hv2, rfl⟩
    cases v2
    case true =>
      go_wp2_with fail
      all_goals (go_ret; exact ⟨rfl, Below.refl _ _⟩)
    go_wp2_with fail
    refine f3.mono ?_
    rintro e w' ⟨v3, rfl, hv3, rfl⟩
    cases v3
    case true =>
      go_wp2_with fail
      all_goals (go_ret; exact ⟨rfl, Below.refl _ _⟩)
    have n1 : ¬ FoldEq s wInf := fun h => by cases (hv1.2 (low_inf h))
    have n2 : ¬ FoldEq s wNeg := fun h => by cases (hv2.2 (low_neg h))
    have n3 : ¬ FoldEq s wNaN := fun h => by cases (hv3.2 (low_nan h))
    have HN := Lib.hid (And.intro n1 (And.intro n2 n3))
    clear n1 n2 n3 hv1 hv2 hv3
    go_wp2_with fail
    refine (hw _).mono ?_
    rintro e w' ⟨rfl, rfl⟩
    go_wp2_with fail
    refine (value_any s 29 (wsN b1 b2) _ _ (calc_value s (wsN b1 b2) W.heap.size 1 _ (hF'.out.below ((Below.refl _ _).alloc (Nat.le_refl _) _)) (by omega) HN.out.1 HN.out.2.1 HN.out.2.2
      (by simp [go_sem]) (by simp [go_sem]) (by simp [go_sem]) (by simp [go_sem]) (by simp [go_sem]) (by simp [go_sem]) (by simp [go_sem]))).mono ?_
    rintro e w3 ⟨b, rfl, hb, hc, h7, hB⟩
    have c0 : w3.cell? ⟨b, 0, none⟩ = some (.pointer none) := hc 0 (by omega)
    have c1 : w3.cell? ⟨b, 1, none⟩ = some (.string s) := hc 1 (by omega)
    have c2 : w3.cell? ⟨b, 2, none⟩ = some (.int .i32 0) := hc 2 (by omega)
    have c3 : w3.cell? ⟨b, 3, none⟩ = some (.int .u32 0) := hc 3 (by omega)
    have c4 : w3.cell? ⟨b, 4, none⟩ = some (.int .u16 0) := hc 4 (by omega)
    have c5 : w3.cell? ⟨b, 5, none⟩ = some (.int .u8 29) := hc 5 (by omega)
    have c6 : w3.cell? ⟨b, 6, none⟩ = some (.int .u8 (wsN b1 b2)) := hc 6 (by omega)
    have ht := token_any s 29 (wsN b1 b2) b w3 c0 c1 c2 c3 c4 c5 c6
    have HB := Lib.hid (And.intro hb (And.intro h7 hB))
    clear c0 c1 c2 c3 c4 c5 c6 hc hb h7 hB
    go_wp2_with fail
    refine ht.mono ?_
    rintro e w4 ⟨rfl, hb4⟩
    have hi := invalid_any b
    have hz := valsimp_any b
    obtain ⟨i80, e80, _⟩ := Option.map_eq_some_iff.1 info80
    have he := fun w a => run_eql_ptr_same (P := Tryz.prog) w a u54' e80
    have k7 := cell_later hb4 HB.out.2.1
    have hlt : b < w4.heap.size := Nat.lt_of_lt_of_le HB.out.1 hb4.size
    have hb14 : Below W.heap.size W w4 := by
      have h3 := HB.out.2.2.size
      rw [World.size_alloc] at h3
      exact (((Below.refl _ _).alloc (Nat.le_refl _) _).trans (HB.out.2.2.mono (by rw [World.size_alloc]; omega))).trans (hb4.mono (by omega))
    have hW4 := hb14.size
    go_wp2_with fail
    refine (hi _ (cell_later ((Below.refl _ _).alloc (Nat.le_refl _) _) k7)).mono ?_
    rintro e w' ⟨rfl, rfl⟩
    go_wp2_with fail
    refine (hz _).mono ?_
    rintro e w' ⟨rfl, rfl⟩
    go_wp2_with fail
    go_ret
    exact ⟨rfl, hb14.alloc hW4 _⟩
  · have h20 := zz20_any s b1 b2
    rw [decide_eq_false hs] at h20
    go_enter Tryz.func6, Tryz.ntmps6
    go_wp2_with fail
    refine (h20 _).mono ?_
    rintro e w' ⟨rfl, rfl⟩
    go_wp2_with fail
    go_ret
    exact ⟨rfl, Below.refl _ _⟩
end Go.Proofs.YthbfppnegodpoaaGreatDoor
