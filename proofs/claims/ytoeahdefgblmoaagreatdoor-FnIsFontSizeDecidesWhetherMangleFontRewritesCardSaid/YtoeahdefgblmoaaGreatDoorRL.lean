/-
  parseFloat64 and what it calls: whatever the number.
-/
import Derived.Test.YtoeahdefgblmoaaGreatDoorRE
import Derived.Test.YtoeahdefgblmoaaGreatDoorRK
import Derived.Test.YtoeahdefgblmoaaGreatDoorSH
import Derived.Deep.DeepCutAuto
namespace Go.Proofs.YtoeahdefgblmoaaGreatDoor
open Go.RowKit Go.Deep Go.PlainAid Go.Maps Go.Sort

def isL (v : Value) : Prop := ∃ n : Nat, n ≤ 64 ∧ v = .int .i64 n
def isUU (v : Value) : Prop := ∃ x y, v = .tuple #[.int .u64 x, .int .u64 y]
def isI2 (v : Value) : Prop := ∃ x, v = .int .i64 x

set_option maxHeartbeats 1000000 in
set_option maxRecDepth 100000 in
theorem mul_any (x y : Int) (w : World) : Calls Tryz.prog 96 #[.int .u64 x, .int .u64 y] w (Gives isUU w) := by
  go_enter Tryz.func96, Tryz.ntmps96
  go_wp2_with fail
  all_goals
    go_ret2
    exact ⟨_, rfl, ⟨_, _, rfl⟩, rfl⟩

theorem log_any (x : Int) (w : World) : Calls Tryz.prog 85 #[.int .i64 x] w (Gives isI2 w) := by
  go_enter Tryz.func85, Tryz.ntmps85
  go_wp2_with fail
  go_ret
  exact ⟨_, rfl, ⟨_, rfl⟩, rfl⟩
theorem unmin_any (x : Int) (w : World) : Calls Tryz.prog 89 #[.int .u64 x] w (Gives isU w) := by
  go_enter Tryz.func89, Tryz.ntmps89
  go_wp2_with fail
  go_ret
  exact ⟨_, rfl, ⟨_, rfl⟩, rfl⟩
theorem round_any (x : Int) (w : World) : Calls Tryz.prog 91 #[.int .u64 x] w (Gives isU w) := by
  go_enter Tryz.func91, Tryz.ntmps91
  go_wp2_with fail
  go_ret
  exact ⟨_, rfl, ⟨_, rfl⟩, rfl⟩
theorem b2u_any (b : Bool) (w : World) : Calls Tryz.prog 73 #[.bool b] w (Gives isU w) := by
  cases b
  all_goals
    go_enter Tryz.func73, Tryz.ntmps73
    go_wp2_with fail
    go_ret
    exact ⟨_, rfl, ⟨_, rfl⟩, rfl⟩
def isS1 (v : Value) : Prop := ∃ n : Nat, n ≤ 1 ∧ v = .int .i64 n
theorem b2i_any (b : Bool) (w : World) : Calls Tryz.prog 88 #[.bool b] w (Gives isS1 w) := by
  cases b
  all_goals
    go_enter Tryz.func88, Tryz.ntmps88
    go_wp2_with fail
    go_ret
    first
      | exact ⟨_, rfl, ⟨0, by decide, rfl⟩, rfl⟩
      | exact ⟨_, rfl, ⟨1, by decide, rfl⟩, rfl⟩
theorem aux_le : ∀ f x, Lib.bitLenAux f x ≤ f
  | 0, _ => Nat.le_refl _
  | f + 1, x => by
    unfold Lib.bitLenAux
    split
    · exact Nat.zero_le _
    · have := aux_le f (x / 2)
      omega
theorem len_any (n : Nat) (w : World) (hn : n < 18446744073709551616) : Calls Tryz.prog 84 #[.int .u64 n] w (Gives isL w) := by
  refine (Tryz.bits_Len64 (n : Int) w (by omega) (by omega)).mono ?_
  rintro e w' ⟨rfl, rfl⟩
  exact ⟨_, rfl, ⟨_, aux_le 64 _, rfl⟩, rfl⟩

/-- The table of powers; the scaler in its box. -/
def PTab (w : World) : Prop := ∀ i, i < 696 → (∃ x, w.cell? ⟨15, i * 2, none⟩ = some (.int .u64 x)) ∧ ∃ x, w.cell? ⟨15, i * 2 + 1, none⟩ = some (.int .u64 x)
theorem PTab.below {w w' : World} (h : PTab w) (hb : Below w.heap.size w w') : PTab w' := fun i hi => by
  obtain ⟨⟨x, hx⟩, ⟨y, hy⟩⟩ := h i hi
  exact ⟨⟨x, cell_later hb hx⟩, ⟨y, cell_later hb hy⟩⟩
structure Sc (w : World) (b : Nat) : Prop where
  c0 : ∃ x, w.cell? ⟨b, 0, none⟩ = some (.int .u64 x)
  c1 : ∃ x, w.cell? ⟨b, 1, none⟩ = some (.int .u64 x)
  c2 : ∃ x, w.cell? ⟨b, 2, none⟩ = some (.int .i64 x)
def ScPost (b : Nat) (w : World) (e : Ending) (w' : World) : Prop := e = .returned (.tuple #[]) ∧ Sc w' b ∧ Below b w w'

set_option maxHeartbeats 1000000 in
set_option maxRecDepth 100000 in
theorem prescale_any (b i : Nat) (e p lp : Int) (w : World) (hp : p = (i : Int) - 348) (hi : i < 696) (hT : PTab w) (hS : Sc w b) (hf : ∀ j, w.frozen? ⟨b, j, none⟩ = false) :
    Calls Tryz.prog 86 #[.pointer (some ⟨b, 0, none⟩), .int .i64 e, .int .i64 p, .int .i64 lp] w (ScPost b w) := by
  obtain ⟨⟨x, hx⟩, ⟨y, hy⟩⟩ := hT i hi
  obtain ⟨⟨z0, h0⟩, ⟨z1, h1⟩, ⟨z2, h2⟩⟩ := hS
  have f0 := hf 0
  have f1 := hf 1
  have f2 := hf 2
  subst hp
  go_enter Tryz.func86, Tryz.ntmps86
  go_wp2_with fail
  refine bodyPost_end (v := .tuple #[]) (by simp [results, Tryz.results86, go_sem]) rfl ?_
  generalize wrap64 (-wrap64 (wrap64 (e + lp) + 3)) = z
  exact ⟨rfl, ⟨⟨x, by simp [go_sem, h0]⟩, ⟨y, by simp [go_sem, h1]⟩, ⟨z, by simp [go_sem, h2]⟩⟩, dset (dset (dset (Below.refl b w) 0 _) 1 _) 2 _⟩

def GivesB (p : Value → Prop) (w : World) (e : Ending) (w' : World) : Prop := ∃ v, e = .returned v ∧ p v ∧ Below w.heap.size w w'
def isFE (v : Value) : Prop := ∃ x u, v = .tuple #[.float .f64 x, u] ∧ isE u

/-- Thirty-two bits and more cut off: a count below 64. -/
theorem and63 (x : Int) : ∃ n : Nat, bits .and .i64 x 63 = (n : Int) ∧ n ≤ 63 := by
  have h : ∀ v : BitVec 64, (v &&& 63#64).toNat ≤ 63 := fun v => by
    rw [BitVec.toNat_and]
    exact Nat.and_le_right
  have e : bits .and .i64 x 63 = IntKind.i64.wrap (((BitVec.ofInt 64 x &&& BitVec.ofInt 64 63).toNat : Nat) : Int) := rfl
  have h2 := h (BitVec.ofInt 64 x)
  have e2 : BitVec.ofInt 64 63 = 63#64 := rfl
  rw [e2] at e
  refine ⟨_, e.trans ?_, h2⟩
  rw [IntKind.wrap_i64]
  omega

set_option maxHeartbeats 1000000 in
set_option maxRecDepth 100000 in
theorem uscale_any (b : Nat) (x : Int) (w : World) (hS : Sc w b) : Calls Tryz.prog 87 #[.int .u64 x, .pointer (some ⟨b, 0, none⟩)] w (GivesB isU w) := by
  obtain ⟨⟨z0, h0⟩, ⟨z1, h1⟩, ⟨z2, h2⟩⟩ := hS
  obtain ⟨n, hn, hn63⟩ := and63 z2
  go_enter Tryz.func87, Tryz.ntmps87
  go_wp2_with (first
    | (go_at_call 96; refine (mul_any _ _ _).mono ?_; rintro e w' ⟨v, rfl, ⟨p, q, rfl⟩, rfl⟩)
    | (go_at_call 73; refine (b2u_any _ _).mono ?_; rintro e w' ⟨v, rfl, ⟨p, rfl⟩, rfl⟩)
    | fail)
  · go_ret
    exact ⟨_, rfl, ⟨_, rfl⟩, Below.refl _ _⟩
  · go_region_with (go_at_call 73; refine (b2u_any _ _).mono ?_; rintro e w' ⟨v, rfl, ⟨p, rfl⟩, rfl⟩)
    all_goals
      go_wp2_with fail
      go_ret
      exact ⟨_, rfl, ⟨_, rfl⟩, (Below.refl _ _).drew⟩

set_option maxHeartbeats 1000000 in
set_option maxRecDepth 100000 in
theorem pack_any (m e : Int) (w : World) : Calls Tryz.prog 94 #[.int .u64 m, .int .i64 e] w (GivesB isFE w) := by
  have hfb := run_bits
  go_enter Tryz.func94, Tryz.ntmps94
  go_wp2_with fail
  · go_ret2
    exact ⟨_, rfl, ⟨_, _, rfl, .inl rfl⟩, Below.refl _ _⟩
  · go_ret2
    exact ⟨_, rfl, ⟨_, _, rfl, .inr (.inl rfl)⟩, Below.refl _ _⟩
  · go_ret2
    exact ⟨_, rfl, ⟨_, _, rfl, .inl rfl⟩, Below.refl _ _⟩

set_option maxHeartbeats 2000000 in
set_option maxRecDepth 100000 in
theorem parse64_any (d i : Nat) (p sg : Int) (w : World) (hd : d < 18446744073709551616) (hp : p = (i : Int) - 348) (hi : i < 696) (hT : PTab w) : Calls Tryz.prog 76 #[.int .u64 d, .int .i64 p, .int .u64 sg] w (GivesB isFE w) := by
  have hfb := run_bits
  have HP := Lib.hid (And.intro hp (And.intro hi hT))
  clear hp hT
  go_enter Tryz.func76, Tryz.ntmps76
  go_wp2_with (first
    | (go_at_call 84; refine (len_any d _ hd).mono ?_; rintro e w' ⟨v, rfl, ⟨n, hn, rfl⟩, rfl⟩)
    | (go_at_call 85; refine (log_any _ _).mono ?_; rintro e w' ⟨v, rfl, ⟨y, rfl⟩, rfl⟩)
    | fail)
  obtain ⟨hp, _, hT⟩ := HP.out
  obtain ⟨B, hB⟩ : ∃ B, B = w'.heap.size := ⟨_, rfl⟩
  obtain ⟨W1, eW⟩ : ∃ W1, W1 = w'.alloc (.cells #[.int .u64 0, .int .u64 0, .int .i64 0] 193) := ⟨_, rfl⟩
  have hb1 : Below w'.heap.size w' W1 := by rw [eW]; exact (Below.refl _ _).alloc (Nat.le_refl _) _
  have hS1 : Sc W1 B := by rw [eW, hB]; exact ⟨⟨0, by simp [go_sem]⟩, ⟨0, by simp [go_sem]⟩, ⟨0, by simp [go_sem]⟩⟩
  have hF1 : ∀ j, W1.frozen? ⟨B, j, none⟩ = false := fun j => by rw [eW, hB]; simp [go_sem]
  rw [← eW, ← hB]
  refine (prescale_any B i _ p y W1 hp hi (hT.below hb1) hS1 hF1).mono ?_
  rintro e w2 ⟨rfl, hS2, hb2⟩
  have HB2 : Hid (Below w'.heap.size w' w2) := Lib.hid (hb1.trans (hB ▸ hb2))
  have HS2 := Lib.hid hS2
  obtain ⟨z, hz⟩ := hS2.c2
  have h64 : 0 ≤ 64 - (n : Int) := by omega
  have h64' : 64 - (n : Int) ≤ 64 := by omega
  clear hb1 hS1 hF1 eW hb2 hS2 hT hp hB
  go_wp2_with (first
    | (go_at_call 87; refine (uscale_any B _ w2 HS2.out).mono ?_; rintro e w3 ⟨v, rfl, ⟨u, rfl⟩, hb3⟩)
    | (go_at_call 89; refine (unmin_any _ _).mono ?_; rintro e w' ⟨v, rfl, ⟨q, rfl⟩, rfl⟩)
    | (go_at_call 88; refine (b2i_any _ _).mono ?_; rintro e w' ⟨v, rfl, ⟨s1, hs1, rfl⟩, rfl⟩)
    | (go_at_call 91; refine (round_any _ _).mono ?_; rintro e w' ⟨v, rfl, ⟨q2, rfl⟩, rfl⟩)
    | (go_at_call 94; refine (pack_any _ _ _).mono ?_; rintro e w4 ⟨v, rfl, ⟨f, u2, rfl, hu2⟩, hb4⟩)
    | fail)
  · go_ret2
    exact ⟨_, rfl, ⟨_, _, rfl, .inl rfl⟩, HB2.out⟩
  · go_ret2
    have h3 := HB2.out.trans (hb3.mono HB2.out.size)
    exact ⟨_, rfl, ⟨_, _, rfl, hu2⟩, h3.trans (hb4.mono h3.size)⟩
end Go.Proofs.YtoeahdefgblmoaaGreatDoor
