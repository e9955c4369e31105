/-
  The walk of the law FnProductOfPlainNumbersFoldsToOneNumber.
-/
import Derived.Test.YtnoghiefpdbpbaaGreatFmtH
import Derived.Deep.RegionWith
import Derived.Deep.DeepCutAuto
namespace Go.Proofs.YtnoghiefpdbpbaaGreatFmt
open Go.RowKit Go.Deep

theorem idx_all (n : Nat) : ∀ k, k ≤ n → idx n k = List.range k
  | 0, _ => rfl
  | k + 1, h => by rw [idx_succ, if_neg (by omega), idx_all n k (by omega), List.range_succ]

/-- A new slice of n empty strings. -/
theorem empties (w : World) (n : Nat) : Slc Value.string ByteArray.empty (w.alloc (.cells (madeCells #[.string ⟨#[]⟩] n) 9)) (some ⟨w.heap.size, 0, none⟩) (List.replicate n (⟨#[]⟩ : ByteArray)) := fun i hi => by
  have hi' : i < n := by simpa using hi
  refine ⟨w.heap.size, 0, rfl, ?_⟩
  rw [Nat.zero_add, (World.rowIs_made w (.string ⟨#[]⟩) n 9).cell hi', List.getD_eq_getElem?_getD, List.getElem?_replicate, if_pos hi']
  rfl

/-- The law's own product of the first k factors. -/
def Facts (xs : List Nat) (fs : List Bool) (k v : Nat) : Prop := ∃ l : List Nat, l.length = k ∧ Prods l v ∧ ∀ i, i < k → ∃ W0, l.getD i 0 = fac (xs.getD i 0) (fs.getD i false) W0

theorem facts_one (xs : List Nat) (fs : List Bool) (W0 : World) : Facts xs fs 1 (fac (xs.getD 0 0) (fs.getD 0 false) W0) :=
  ⟨[_], rfl, .one _, fun i hi => ⟨W0, by obtain rfl : i = 0 := by omega
                                         rfl⟩⟩

theorem facts_snoc {xs : List Nat} {fs : List Bool} {k v : Nat} (h : Facts xs fs k v) (W0 W : World) : Facts xs fs (k + 1) (fR .mul v (fac (xs.getD k 0) (fs.getD k false) W0) W) := by
  obtain ⟨l, hl, hp, hf⟩ := h
  refine ⟨l ++ [_], by simp [hl], .snoc l _ v W hp, fun i hi => ?_⟩
  rcases Nat.lt_or_ge i k with h1 | h1
  · obtain ⟨W1, e⟩ := hf i h1
    exact ⟨W1, by rw [← e, List.getD_eq_getElem?_getD, List.getElem?_append_left (by omega), ← List.getD_eq_getElem?_getD]⟩
  · obtain rfl : i = k := by omega
    exact ⟨W0, by rw [List.getD_eq_getElem?_getD, List.getElem?_append_right (by omega), hl, Nat.sub_self]; rfl⟩

theorem fac_sim (x : Nat) (b : Bool) (W W' : World) : Sim (fac x b W) (fac x b W') := by
  cases b
  · unfold fac
    rw [if_neg Bool.false_ne_true, if_neg Bool.false_ne_true]
    exact Sim.refl _
  · exact sim_op (Or.inr (Or.inl rfl)) (Sim.refl _) (Sim.refl _) W W'

theorem facts_sim {xs : List Nat} {fs : List Bool} {k v : Nat} (h : Facts xs fs k v) {ys : List Nat} {y : Nat} (hp : Prods ys y) (hl : ys.length = k) (he : ∀ i, i < k → ∃ W0, ys.getD i 0 = fac (xs.getD i 0) (fs.getD i false) W0) : Sim y v := by
  obtain ⟨l, h1, h2, h3⟩ := h
  exact prods_sim hp l v h2 (by omega) fun i hi => by
    obtain ⟨W1, e1⟩ := he i (by omega)
    obtain ⟨W2, e2⟩ := h3 i (by omega)
    rw [e1, e2]; exact fac_sim _ _ _ _

theorem Slc.at {α : Type} {f : α → Value} {d : α} {w : World} {b o : Nat} {xs : List α} (h : Slc f d w (some ⟨b, o, none⟩) xs) {i : Nat} (hi : i < xs.length) : w.cell? ⟨b, o + i, none⟩ = some (f (xs.getD i d)) := by
  obtain ⟨b', o', e, hc⟩ := h i hi
  injection e with e
  injection e with e1 e2
  subst e1
  subst e2
  exact hc

/-- The answer is a slice of n values, those of the list. -/
def Cln {α : Type} (f : α → Value) (d : α) (xs : List α) (n : Nat) (w : World) (e : Ending) (w' : World) : Prop :=
  ∃ a' c', e = .returned (.slice a' n c') ∧ Slc f d w' a' xs ∧ Below w.heap.size w w'

set_option maxHeartbeats 400000 in
set_option maxRecDepth 100000 in
/-- The law's walk, over lengths that are letters. -/
theorem law4 (a0 a1 : Option Addr) (cap0 cap1 n m : Nat) (xs : List Nat) (fs : List Bool) (W : World) (hxl : xs.length = n) (hfl : fs.length = m)
    (h16 : Calls Tryz.prog 16 #[.slice a0 n cap0, .slice a1 m cap1] W (SomeBool (fun b => b = true → n ≤ 1048576 ∧ m ≤ 1048576) W))
    (h8 : n ≤ 1048576 → m ≤ 1048576 → Calls Tryz.prog 8 #[.slice none 0 0, .slice a0 n cap0, .slice a1 m cap1] W fun e w' => e = .returned (.int .i64 (8 * n + m)) ∧ W = w')
    (h11 : n ≤ 1048576 → Calls Tryz.prog 11 #[.slice a0 n cap0] W (Cln fl 0 xs n W))
    (h12 : m ≤ 1048576 → ∀ V, Below W.heap.size W V → Calls Tryz.prog 12 #[.slice a1 m cap1] V (Cln Value.bool false fs m V))
    (h17 : n ≤ 1048576 → m = n → ∀ V b0 b1 d0 d1, Slc fl 0 V b0 xs → Slc Value.bool false V b1 fs → Calls Tryz.prog 17 #[.slice (some ⟨V.heap.size, 0, none⟩) n n, .slice b0 n d0, .slice b1 n d1] (V.alloc (.cells (madeCells #[.string ⟨#[]⟩] n) 9)) (Simp (List.replicate n ⟨#[]⟩) xs fs n n (V.alloc (.cells (madeCells #[.string ⟨#[]⟩] n) 9)))) :
    Calls Tryz.prog 4 #[.slice a0 n cap0, .slice a1 m cap1] W fun e w' => e = .returned (.bool true) ∧ Below W.heap.size W w' := by
  have H16 := Lib.hid h16
  have H8 := Lib.hid h8
  have H11 := Lib.hid h11
  have H12 := Lib.hid h12
  have H17 := Lib.hid h17
  have HL := Lib.hid (And.intro hxl hfl)
  clear h16 h8 h11 h12 h17 hxl hfl
  go_enter Tryz.func4, Tryz.ntmps4
  go_wp2_with fail
  refine H16.out.mono ?_
  rintro e w' ⟨b, hb, rfl, rfl⟩
  cases b
  · go_wp2_with fail
    go_ret
    exact ⟨rfl, Below.refl _ _⟩
  obtain ⟨lx, lf⟩ := hb rfl
  clear hb
  go_wp2_with fail
  refine (H8.out lx lf).mono ?_
  rintro e w' ⟨rfl, rfl⟩
  by_cases hbig : (1048576 : Int) < 8 * (n : Int) + (m : Int)
  · go_wp2_with fail
    go_ret
    exact ⟨rfl, Below.refl _ _⟩
  by_cases hne : m = n
  rotate_left
  · have hne' : ((m : Int) != (n : Int)) = true := by simp; omega
    go_wp2_with fail
    go_ret
    exact ⟨rfl, Below.refl _ _⟩
  subst hne
  go_wp2_with fail
  refine (H11.out lx).mono ?_
  rintro e w1 ⟨b0, d0, rfl, hX1, hB1⟩
  have HX1 := Lib.hid hX1
  have HB1 := Lib.hid hB1
  clear hX1 hB1
  go_wp2_with fail
  refine (H12.out lf _ HB1.out).mono ?_
  rintro e w2 ⟨b1, d1, rfl, hF2, hB2⟩
  have HF2 := Lib.hid hF2
  have HX2 := Lib.hid (HX1.out.below hB2)
  have HB2 := Lib.hid (HB1.out.trans (hB2.mono HB1.out.size))
  clear hF2 hB2 HX1 HB1
  have hmk := fun V => run_make_row' (P := Tryz.prog) 22 9 (.string ⟨#[]⟩) 16 Tryz.underlying22 info9 rfl .i64 .i64 m (by omega) (by omega) V
  go_wp2_with fail
  refine (H17.out lx trivial w2 b0 b1 d0 d1 HX2.out HF2.out).mono ?_
  rintro e w3 ⟨hB3, h0, h1⟩
  have hz2 := World.size_alloc w2 (.cells (madeCells #[.string ⟨#[]⟩] m) 9)
  have hb23 : Below w2.heap.size w2 w3 := ((Below.refl _ _).alloc (Nat.le_refl _) _).trans (hB3.mono (by omega))
  have HX3 := Lib.hid (HX2.out.below hb23)
  have HF3 := Lib.hid (HF2.out.below hb23)
  have HB3 := Lib.hid (HB2.out.trans (hb23.mono HB2.out.size))
  clear hB3 hb23 hz2 HX2 HF2 HB2 H17 H16 H8 H11 H12 hmk
  rcases Nat.eq_zero_or_pos m with hm0 | hm0
  · subst hm0
    obtain ⟨a1, a2, c1, c2, rfl⟩ := h0 rfl
    clear h0 h1
    go_wp2_with fail
    go_ret
    exact ⟨rfl, HB3.out⟩
  obtain ⟨zs, q1, q2, v, u, hzs, rfl, c0, c1, k1, k2⟩ := h1 hm0
  obtain ⟨rfl, hP⟩ := k1 (Nat.le_refl _)
  clear h0 h1 k1 k2
  have HP := Lib.hid (And.intro hzs hP)
  clear hzs hP
  obtain ⟨B0, o0, rfl, x0⟩ := HX3.out 0 (by rw [HL.out.1]; exact hm0)
  obtain ⟨B1, o1, rfl, f0⟩ := HF3.out 0 (by rw [HL.out.2]; exact hm0)
  obtain ⟨x, ex⟩ : ∃ x, x = xs.getD 0 0 := ⟨_, rfl⟩
  obtain ⟨f, ef⟩ : ∃ f, f = fs.getD 0 false := ⟨_, rfl⟩
  rw [← ex, Nat.add_zero] at x0
  rw [← ef, Nat.add_zero] at f0
  have HE := Lib.hid (And.intro ex ef)
  clear ex ef
  have hp0 : (0 : Int) < (m : Int) := by omega
  go_upto_region 13 with fail
  go_cut [9] (fun s9 wx => (∃ W0, s9 = .float .f64 (fac x f W0)) ∧ Hid (Below w3.heap.size w3 wx))
  case first =>
    go_region_with (go_at_call 18; refine (factor_any _ _ _).mono ?_; rintro e w' ⟨rfl, rfl⟩)
    all_goals (go_wp2_with fail; go_meet; exact ⟨⟨_, rfl⟩, by first | exact below_drewN (Below.refl _ _) _ | exact below_drewN (Below.refl _ _).drew _⟩)
  case rest =>
  obtain ⟨⟨W0, rfl⟩, hb4⟩ := hcut
  have HX4 := Lib.hid (HX3.out.below hb4.out)
  have HF4 := Lib.hid (HF3.out.below hb4.out)
  have HB4 := Lib.hid (HB3.out.trans (hb4.out.mono HB3.out.size))
  have HC := Lib.hid (And.intro (cell_later hb4.out c0) (cell_later hb4.out c1))
  have hF0 := facts_one xs fs W0
  rw [← HE.out.1, ← HE.out.2] at hF0
  obtain ⟨v0, ev0⟩ : ∃ v0, v0 = fac x f W0 := ⟨_, rfl⟩
  rw [← ev0] at hF0 ⊢
  have HF0 := Lib.hid hF0
  clear x0 f0 HX3 HF3 HB3 HE ev0 hF0 c0 c1
  obtain ⟨w4, ew4⟩ : ∃ w4, w4 = wc := ⟨_, rfl⟩
  subst ew4
  go_wp2_with fail
  go_loopw [9, 10] (fun p i wr => ∃ (k v : Nat), 1 ≤ k ∧ k ≤ m ∧ i = .int .i64 k ∧ p = .float .f64 v ∧ Hid (Facts xs fs k v) ∧ Hid (Below w4.heap.size w4 wr)) (fun _ i _ => m - (intOf i).toNat)
  case atStart => exact ⟨1, v0, Nat.le_refl _, by omega, rfl, rfl, HF0.out, Below.refl _ _⟩
  case round =>
    obtain ⟨k, v1, hk1, hkm, rfl, rfl, hFk, hb⟩ := hrel
    have HXr := Lib.hid (HX4.out.below hb.out)
    have HFr := Lib.hid (HF4.out.below hb.out)
    by_cases hlt : k < m
    · have xk := HXr.out.at (i := k) (by rw [HL.out.1]; exact hlt)
      have fk := HFr.out.at (i := k) (by rw [HL.out.2]; exact hlt)
      obtain ⟨x, ex⟩ : ∃ x, x = xs.getD k 0 := ⟨_, rfl⟩
      obtain ⟨f, ef⟩ : ∃ f, f = fs.getD k false := ⟨_, rfl⟩
      rw [← ex] at xk
      rw [← ef] at fk
      have HE := Lib.hid (And.intro ex ef)
      clear ex ef
      have hmul := fun (y : Nat) (W : World) => run_fop (P := Tryz.prog) (Or.inl rfl) 33 v1 y W
      have hklt : (k : Int) < (m : Int) := by omega
      go_wp2_with fail
      go_region_with (go_at_call 18; refine (factor_any _ _ _).mono ?_; rintro e w' ⟨rfl, rfl⟩)
      all_goals
        go_wp2_with fail
        go_roundw
        case rel => exact ⟨k + 1, _, by omega, by omega, by go_num, rfl, by rw [HE.out.1, HE.out.2]; exact facts_snoc hFk.out _ _, by first | exact below_drewN hb.out _ | exact below_drewN (below_drewN hb.out.drew _) _⟩
        case measure => simp [intOf]; omega
    · obtain rfl : k = m := by omega
      have c0 := cell_later hb.out HC.out.1
      have c1 := cell_later hb.out HC.out.2
      have hsim := same_any v v1 (facts_sim hFk.out HP.out.2 (by rw [idx_all k k (Nat.le_refl _)]; simp) (fun i hi => by
        obtain ⟨W1, e1⟩ := HP.out.1 i hi
        refine ⟨W1, ?_⟩
        rw [← e1, idx_all k k (Nat.le_refl _), List.getD_eq_getElem?_getD, List.getElem?_map, List.getElem?_range hi]
        rfl))
      go_wp2_with fail
      refine (hsim _).mono ?_
      rintro e w' ⟨rfl, rfl⟩
      go_wp2_with fail
      go_ret
      exact ⟨rfl, HB4.out.trans (hb.out.mono HB4.out.size)⟩

theorem cln {α : Type} {f : α → Value} {d : α} {xs : List α} {w : World} {e : Ending} {w' : World} (h : Cloned f d xs w e w') {n : Nat} (en : n = xs.length) : Cln f d xs n w e w' := by
  subst en
  exact h

/-- The walk of the law: it answers true. -/
theorem fnProductOfPlainNumbersFoldsToOneNumber_walk (a0 : Option Addr) (cap0 : Nat) (xs : List Nat) (a1 : Option Addr) (cap1 : Nat) (fs : List Bool) (W : World) (h0 : Slc fl 0 W a0 xs) (l0 : xs.length ≤ 9223372036854775807)
    (h1 : Slc Value.bool false W a1 fs) (l1 : fs.length ≤ 9223372036854775807) :
    Calls Tryz.prog 4 #[.slice a0 xs.length cap0, .slice a1 fs.length cap1] W fun e w' => e = .returned (.bool true) ∧ Below W.heap.size W w' := by
  obtain ⟨n, en⟩ : ∃ n, n = xs.length := ⟨_, rfl⟩
  obtain ⟨m, em⟩ : ∃ m, m = fs.length := ⟨_, rfl⟩
  have h16 := zz16_any a0 a1 n m cap0 cap1 W (by omega) (by omega)
  have h8 := fun h1 h2 => bytes_nil a0 a1 n m cap0 cap1 W h1 h2
  have h11 := fun (h : n ≤ 1048576) => clone_floats a0 cap0 xs W h0 (by omega)
  have h12 := fun (h : m ≤ 1048576) V (hb : Below W.heap.size W V) => clone_bools a1 cap1 fs V (h1.below hb) (by omega)
  rw [← en] at h11 ⊢
  rw [← em] at h12 ⊢
  refine law4 a0 a1 cap0 cap1 n m xs fs W en.symm em.symm h16 h8 (fun h => (h11 h).mono fun _ _ q => cln q en) (fun h V hb => (h12 h V hb).mono fun _ _ q => cln q em) (fun hn hmn V b0 b1 d0 d1 k0 k1 => ?_)
  have hb : Below V.heap.size V (V.alloc (.cells (madeCells #[.string ⟨#[]⟩] n) 9)) := (Below.refl _ _).alloc (Nat.le_refl _) _
  have hs := simp_any (some ⟨V.heap.size, 0, none⟩) b0 b1 n d0 d1 (List.replicate n ⟨#[]⟩) xs fs n n n _ (empties V n) (k0.below hb) (k1.below hb) (by omega) (by simp; omega) en (by omega) (by omega)
    (fun i hi => by
      rw [List.getD_eq_getElem?_getD, List.getElem?_replicate, if_pos (by omega)]
      exact ⟨fun _ => by omega, fun _ => rfl⟩)
    (fun i hi _ => by
      rw [List.getD_eq_getElem?_getD, List.getElem?_replicate, if_pos (by omega)]
      rfl)
  rw [← en] at hs
  exact hs
end Go.Proofs.YtnoghiefpdbpbaaGreatFmt
