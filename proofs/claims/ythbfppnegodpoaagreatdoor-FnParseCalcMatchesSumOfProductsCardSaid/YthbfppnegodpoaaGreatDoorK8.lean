/-
  zzSameFloat and zzSameTree: two nodes that mirror one tree are found to be the same.
-/
import Derived.Test.YthbfppnegodpoaaGreatDoorK6
namespace Go.Proofs.YthbfppnegodpoaaGreatDoor
open Go.RowKit Go.Deep Go.PlainAid Ieee

theorem ord_eq_t {x : Nat} (h : (double.order x x == some Ordering.eq) = true) : (FloatKind.f64.format.order x x == some Ordering.eq) = true := h
theorem ord_eq_f {x : Nat} (h : (double.order x x == some Ordering.eq) = false) : (FloatKind.f64.format.order x x == some Ordering.eq) = false := h
theorem ord_ne_t {x : Nat} (h : (double.order x x == some Ordering.eq) = true) : (FloatKind.f64.format.order x x != some Ordering.eq) = false := by
  have h : (FloatKind.f64.format.order x x == some Ordering.eq) = true := h
  simp only [bne, h, Bool.not_true]
theorem ord_ne_f {x : Nat} (h : (double.order x x == some Ordering.eq) = false) : (FloatKind.f64.format.order x x != some Ordering.eq) = true := by
  have h : (FloatKind.f64.format.order x x == some Ordering.eq) = false := h
  simp only [bne, h, Bool.not_false]

set_option maxRecDepth 100000 in
theorem samefloat_any (x y : Nat) (h : SameF x y) (w : World) : Calls Tryz.prog 34 #[.float .f64 x, .float .f64 y] w fun e w' => e = .returned (.bool true) ∧ w = w' := by
  by_cases hx : (double.order x x == some Ordering.eq) = true
  · have e : x = y := by
      rcases h with h | ⟨h, _⟩
      · exact h
      · unfold isNaN at h
        rw [hx] at h
        cases h
    subst e
    have e1 := ord_eq_t hx
    have e2 := ord_ne_t hx
    clear hx h
    go_enter Tryz.func34, Tryz.ntmps34
    go_wp2_with fail
    go_ret
    exact ⟨rfl, rfl⟩
  · have hx : (double.order x x == some Ordering.eq) = false := by simpa using hx
    have hy : (double.order y y == some Ordering.eq) = false := by
      rcases h with h | ⟨_, h⟩
      · rw [← h]; exact hx
      · exact h
    have e1 := ord_ne_f hx
    have e2 := ord_ne_f hy
    clear hx h hy
    go_enter Tryz.func34, Tryz.ntmps34
    go_wp2_with fail
    go_ret
    exact ⟨rfl, rfl⟩

set_option maxHeartbeats 8000000 in
set_option maxRecDepth 100000 in
theorem same_step (W : World) (tag : Int) (un : ByteArray) (x y : Nat) (kd : Int) (tx : ByteArray) (ws : Int) (bad : Bool) (n c1 c2 : Nat) (a1 a2 : Option Addr) (ms1 ms2 : Nat → MV) (hn : n ≤ 16384) (hxy : SameF x y)
    (h1 : ∀ i, i < n → ∃ r, a1 = some ⟨r, 0, none⟩ ∧ MVAt W r (i * 8) (ms1 i) ∧ ∃ a k c, (ms1 i).kids = .slice a k c) (h2 : ∀ i, i < n → ∃ r, a2 = some ⟨r, 0, none⟩ ∧ MVAt W r (i * 8) (ms2 i) ∧ ∃ a k c, (ms2 i).kids = .slice a k c)
    (hc : ∀ i, i < n → ∀ W', Below W.heap.size W W' → Calls Tryz.prog 18 #[(ms1 i).val, (ms2 i).val] W' fun e w' => e = .returned (.bool true) ∧ Below W'.heap.size W' w') :
    Calls Tryz.prog 18 #[MV.val ⟨tag, un, x, kd, tx, ws, bad, .slice a1 n c1⟩, MV.val ⟨tag, un, y, kd, tx, ws, bad, .slice a2 n c2⟩] W fun e w' => e = .returned (.bool true) ∧ Below W.heap.size W w' := by
  have HS := Lib.hid (fun w => samefloat_any x y hxy w)
  have H1 := Lib.hid h1
  have H2 := Lib.hid h2
  have HC := Lib.hid hc
  clear hxy h1 h2 hc
  unfold MV.val
  simp only
  have z1 : ((tag != tag) = false) := by simp
  have z2 : ((kd != kd) = false) := by simp
  have z3 : ((ws != ws) = false) := by simp
  have z4 : ((bad != bad) = false) := by simp
  have z5 : (((n : Int) != (n : Int)) = false) := by simp
  go_enter Tryz.func18, Tryz.ntmps18
  go_wp2_with fail
  refine (HS.out _).mono ?_
  rintro e w' ⟨rfl, rfl⟩
  go_wp2_with fail
  go_loopw [5] (fun i wr => ∃ j : Nat, j ≤ n ∧ i = .int .i64 j ∧ Hid (Below W.heap.size W wr) ∧ Hid (wr.cell? ⟨W.heap.size, 7, none⟩ = some (.slice a1 n c1) ∧ wr.cell? ⟨W.heap.size + 1, 7, none⟩ = some (.slice a2 n c2))) (fun i _ => n - (intOf i).toNat)
  case atStart =>
    refine ⟨0, Nat.zero_le _, rfl, ?_, ?_, ?_⟩
    · exact ((Below.refl _ _).alloc (Nat.le_refl _) _).alloc (by rw [World.size_alloc]; omega) _
    · simp [go_sem]
    · simp [go_sem]
  case round =>
    obtain ⟨j, hj, rfl, hb, hcc⟩ := hrel
    have q1 := hcc.out.1
    have q2 := hcc.out.2
    by_cases hlt : j < n
    · have hji : (j : Int) < (n : Int) := by omega
      obtain ⟨r1, rfl, hm1, ⟨ka1, kn1, kc1, ek1⟩⟩ := H1.out j hlt
      obtain ⟨r2, rfl, hm2, ⟨ka2, kn2, kc2, ek2⟩⟩ := H2.out j hlt
      have hcall := HC.out j hlt
      generalize ms1 j = m1 at hm1 ek1 hcall
      generalize ms2 j = m2 at hm2 ek2 hcall
      obtain ⟨t1, u1, n1, k1, x1, s1, i1, kids1⟩ := m1
      obtain ⟨t2, u2, n2, k2, x2, s2, i2, kids2⟩ := m2
      simp only at ek1 ek2
      subst ek1
      subst ek2
      have g1 := (hm1.keep (D := fun _ => True) trivial (Keeps.below hb.out))
      have g2 := (hm2.keep (D := fun _ => True) trivial (Keeps.below hb.out))
      obtain ⟨p0, p1, p2, p3, p4, p5, p6, p7⟩ := g1
      obtain ⟨o0, o1, o2, o3, o4, o5, o6, o7⟩ := g2
      simp only at p0 p1 p2 p3 p4 p5 p6 p7 o0 o1 o2 o3 o4 o5 o6 o7
      unfold MV.val at hcall
      simp only at hcall
      have HCA := Lib.hid hcall
      clear hcall hm1 hm2
      have hbz := hb.out.size
      go_wp2_with fail
      go_region_with (go_at_call 18; refine (HCA.out _ hb.out.drew).mono ?_; rintro e w2 ⟨rfl, hb2⟩; have HB2 := Lib.hid (hb.out.trans ((show Below wr.heap.size wr w2 from (Below.refl _ _).drew.trans hb2).mono hbz)); have HCC := Lib.hid (And.intro (cell_later (show Below wr.heap.size wr w2 from (Below.refl _ _).drew.trans hb2) q1) (cell_later (show Below wr.heap.size wr w2 from (Below.refl _ _).drew.trans hb2) q2)); clear hb2)
      all_goals (try go_wp2_with fail)
      all_goals
        refine ⟨⟨j + 1, by omega, by go_num, HB2.out, HCC.out⟩, ?_⟩
        simp [intOf]; omega
    · obtain rfl : j = n := by omega
      go_wp2_with fail
      go_ret
      exact ⟨rfl, hb.out⟩

theorem Mir.rows {W : World} {D : Nat → Prop} {r n : Nat} {ms : Nat → MV} {ts : Nat → CT} (cs : ∀ i, i < n → MVAt W r (i * 8) (ms i)) (rs : ∀ i, i < n → Mir W D (ms i) (ts i)) {w' : World} (hb : Below W.heap.size W w') :
    ∀ i, i < n → ∃ q, (some ⟨r, 0, none⟩ : Option Addr) = some ⟨q, 0, none⟩ ∧ MVAt w' q (i * 8) (ms i) ∧ ∃ a k c, (ms i).kids = .slice a k c := fun i hi =>
  ⟨r, rfl, (cs i hi).keep (D := fun _ => True) trivial (Keeps.below hb), (rs i hi).kids⟩

/-- The greatest number of children. -/
inductive Slim : CT → Prop
  | num (u : ByteArray) (x : Nat) : Slim (.num u x)
  | val (k : Int) (t : ByteArray) (ws : Int) (bad : Bool) : Slim (.val k t ws bad)
  | sum (l : List CT) (hl : l.length ≤ 8192) (h : ∀ i, i < l.length → Slim (l.getD i dT)) : Slim (.sum l)
  | prod (l : List CT) (hl : l.length ≤ 8192) (h : ∀ i, i < l.length → Slim (l.getD i dT)) : Slim (.prod l)
  | neg (t : CT) (h : Slim t) : Slim (.neg t)
  | inv (t : CT) (h : Slim t) : Slim (.inv t)

theorem Mir.slim {W : World} {D : Nat → Prop} {m : MV} {t : CT} (h : Mir W D m t) : Slim t := by
  induction h with
  | num u x y h => exact .num u x
  | val k t ws bad => exact .val k t ws bad
  | sum r cap l ms h0 hr cs rs ih => exact .sum l h0.2 ih
  | prod r cap l ms h0 hr cs rs ih => exact .prod l h0.2 ih
  | neg r cap m t hr c h ih => exact .neg t ih
  | inv r cap m t hr c h ih => exact .inv t ih

theorem SameF.symm {x y : Nat} (h : SameF x y) : SameF y x := by
  rcases h with h | ⟨h1, h2⟩
  · exact .inl h.symm
  · exact .inr ⟨h2, h1⟩
theorem SameF.trans {x y z : Nat} (h : SameF x y) (k : SameF y z) : SameF x z := by
  rcases h with rfl | ⟨h1, h2⟩
  · exact k
  · rcases k with rfl | ⟨k1, k2⟩
    · exact .inr ⟨h1, h2⟩
    · exact .inr ⟨h1, k2⟩

/-- Two nodes that mirror one tree. -/
theorem same_any {t : CT} (hs : Slim t) : ∀ (W : World) (D1 D2 : Nat → Prop) (m1 m2 : MV), Mir W D1 m1 t → Mir W D2 m2 t → Calls Tryz.prog 18 #[m1.val, m2.val] W fun e w' => e = .returned (.bool true) ∧ Below W.heap.size W w' := by
  induction hs with
  | num u x =>
    intro W D1 D2 m1 m2 h1 h2
    cases h1 with
    | num _ _ y hy =>
      cases h2 with
      | num _ _ z hz => exact same_step W 1 u y z 0 _ 0 false 0 0 0 none none (fun _ => mvNil) (fun _ => mvNil) (by omega) (hy.symm.trans hz) (fun i hi => absurd hi (Nat.not_lt_zero _)) (fun i hi => absurd hi (Nat.not_lt_zero _)) (fun i hi => absurd hi (Nat.not_lt_zero _))
  | val k t ws bad =>
    intro W D1 D2 m1 m2 h1 h2
    cases h1 with
    | val =>
      cases h2 with
      | val => exact same_step W 2 _ 0 0 k t ws bad 0 0 0 none none (fun _ => mvNil) (fun _ => mvNil) (by omega) (.inl rfl) (fun i hi => absurd hi (Nat.not_lt_zero _)) (fun i hi => absurd hi (Nat.not_lt_zero _)) (fun i hi => absurd hi (Nat.not_lt_zero _))
  | sum l hl h ih =>
    intro W D1 D2 m1 m2 h1 h2
    cases h1 with
    | sum r1 cap1 _ ms1 h01 hr1 cs1 rs1 =>
      cases h2 with
      | sum r2 cap2 _ ms2 h02 hr2 cs2 rs2 =>
        exact same_step W 3 _ 0 0 0 _ 0 false l.length cap1 cap2 _ _ ms1 ms2 (by omega) (.inl rfl) (Mir.rows cs1 rs1 (Below.refl _ _)) (Mir.rows cs2 rs2 (Below.refl _ _)) (fun i hi W' hW => ih i hi W' D1 D2 _ _ ((rs1 i hi).keep (Keeps.below hW)) ((rs2 i hi).keep (Keeps.below hW)))
  | prod l hl h ih =>
    intro W D1 D2 m1 m2 h1 h2
    cases h1 with
    | prod r1 cap1 _ ms1 h01 hr1 cs1 rs1 =>
      cases h2 with
      | prod r2 cap2 _ ms2 h02 hr2 cs2 rs2 =>
        exact same_step W 4 _ 0 0 0 _ 0 false l.length cap1 cap2 _ _ ms1 ms2 (by omega) (.inl rfl) (Mir.rows cs1 rs1 (Below.refl _ _)) (Mir.rows cs2 rs2 (Below.refl _ _)) (fun i hi W' hW => ih i hi W' D1 D2 _ _ ((rs1 i hi).keep (Keeps.below hW)) ((rs2 i hi).keep (Keeps.below hW)))
  | neg t h ih =>
    intro W D1 D2 m1 m2 h1 h2
    cases h1 with
    | neg r1 cap1 n1 _ hr1 c1 g1 =>
      cases h2 with
      | neg r2 cap2 n2 _ hr2 c2 g2 =>
        exact same_step W 5 _ 0 0 0 _ 0 false 1 cap1 cap2 _ _ (fun _ => n1) (fun _ => n2) (by omega) (.inl rfl) (fun i hi => ⟨r1, rfl, by obtain rfl : i = 0 := (by omega); rw [Nat.zero_mul]; exact c1, g1.kids⟩) (fun i hi => ⟨r2, rfl, by obtain rfl : i = 0 := (by omega); rw [Nat.zero_mul]; exact c2, g2.kids⟩)
          (fun i hi W' hW => ih W' D1 D2 _ _ (g1.keep (Keeps.below hW)) (g2.keep (Keeps.below hW)))
  | inv t h ih =>
    intro W D1 D2 m1 m2 h1 h2
    cases h1 with
    | inv r1 cap1 n1 _ hr1 c1 g1 =>
      cases h2 with
      | inv r2 cap2 n2 _ hr2 c2 g2 =>
        exact same_step W 6 _ 0 0 0 _ 0 false 1 cap1 cap2 _ _ (fun _ => n1) (fun _ => n2) (by omega) (.inl rfl) (fun i hi => ⟨r1, rfl, by obtain rfl : i = 0 := (by omega); rw [Nat.zero_mul]; exact c1, g1.kids⟩) (fun i hi => ⟨r2, rfl, by obtain rfl : i = 0 := (by omega); rw [Nat.zero_mul]; exact c2, g2.kids⟩)
          (fun i hi W' hW => ih W' D1 D2 _ _ (g1.keep (Keeps.below hW)) (g2.keep (Keeps.below hW)))

/-- .. nil and nil, too. -/
theorem same_nil (W : World) : Calls Tryz.prog 18 #[mvNil.val, mvNil.val] W fun e w' => e = .returned (.bool true) ∧ Below W.heap.size W w' :=
  same_step W 0 _ 0 0 0 _ 0 false 0 0 0 none none (fun _ => mvNil) (fun _ => mvNil) (by omega) (.inl rfl) (fun i hi => absurd hi (Nat.not_lt_zero _)) (fun i hi => absurd hi (Nat.not_lt_zero _)) (fun i hi => absurd hi (Nat.not_lt_zero _))
end Go.Proofs.YthbfppnegodpoaaGreatDoor
