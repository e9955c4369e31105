/-
  The two collecting passes, walked: the making of a run's operands.
-/
import Derived.Test.YthbfppnegodpoaaGreatDoorV
namespace Go.Proofs.YthbfppnegodpoaaGreatDoor
open Go.RowKit Go.Deep Go.PlainAid

theorem assert_plain (x : Value) : ∀ w, (Instr.typeAssert (.iface 54 x) 70 54 false).run Tryz.prog w = .ok x w := fun w => by
  simp [Instr.typeAssert, run_underlying Tryz.underlying54]

theorem Rep.form {W : World} {D : Nat → Prop} {v : Value} {t : CT} (h : Rep W D v t) : ∃ u b, v = .iface u (.pointer (some ⟨b, 0, none⟩)) := by
  cases h <;> exact ⟨_, _, rfl⟩

/-- A round of the making: one operand more. -/
theorem build_fin {W w W3 : World} {D : Nat → Prop} {T M P n c j : Nat} {ts rs : List CT} {v : Value} {k : Int} {t : CT} (hrow : Row w D T n ts) (hnew : Row w D M c rs) (hj : rs.length = j) (hjc : j < c)
    (hP : w.cell? ⟨P, 0, none⟩ = some (.slice (some ⟨M, 0, none⟩) c c)) (hTM : T < M) (hMP : M < P) (hB : Below M W w) (hb : Below w.heap.size w W3) (hr : Rep W3 D v t) :
    Row ((W3.setCell ⟨M, j * 2, none⟩ v).setCell ⟨M, j * 2 + 1, none⟩ (.int .i32 k)) D T n ts ∧
    Row ((W3.setCell ⟨M, j * 2, none⟩ v).setCell ⟨M, j * 2 + 1, none⟩ (.int .i32 k)) D M c (rs ++ [t]) ∧
    ((W3.setCell ⟨M, j * 2, none⟩ v).setCell ⟨M, j * 2 + 1, none⟩ (.int .i32 k)).cell? ⟨P, 0, none⟩ = some (.slice (some ⟨M, 0, none⟩) c c) ∧
    Below M W ((W3.setCell ⟨M, j * 2, none⟩ v).setCell ⟨M, j * 2 + 1, none⟩ (.int .i32 k)) := by
  subst hj
  have hMl := hnew.lt
  refine ⟨((hrow.below hb).keep ?_ (Keeps.setCell _ _ _ _ _ hnew.out)).keep ?_ (Keeps.setCell _ _ _ _ _ hnew.out), ((hnew.below hb).push hr hjc).setLoc _ _, ?_, ((hB.trans (hb.mono (Nat.le_of_lt hMl))).setCell (Nat.le_refl _) _).setCell (Nat.le_refl _) _⟩
  · exact Below.heap_setCell _ _ _ _ (by show T ≠ M; omega)
  · exact Below.heap_setCell _ _ _ _ (by show T ≠ M; omega)
  · rw [World.cell?_of_block (Below.heap_setCell _ _ _ _ (by show P ≠ M; omega)), World.cell?_of_block (Below.heap_setCell _ _ _ _ (by show P ≠ M; omega))]
    exact cell_later hb hP

set_option maxHeartbeats 4000000 in
set_option maxRecDepth 100000 in
theorem mul_build_wp {d : Code} (hcode : Tryz.f30.body.bind (fb 6) = some (.block 6 d)) (Q : Exit → Act → World → Prop) (a : Act) (W : World) (T M P n f l m c : Nat) (ts : List CT) (D : Nat → Prop)
    (hfr : Fr a) (e3 : a.tmps[3]? = some (.slice (some ⟨T, 0, none⟩) ts.length n)) (e13 : a.tmps[13]? = some (.int .i64 f)) (e16 : a.tmps[16]? = some (.int .i64 l)) (e19 : a.tmps[19]? = some (.pointer (some ⟨P, 0, none⟩)))
    (elen : a.tmps[313]? = some (.int .i64 c)) (ei : a.tmps[314]? = some (.int .i64 0))
    (hn : n ≤ 4096) (h1 : 1 ≤ f) (el : l = f + 2 * m) (ec : c = m + 2) (hl : l + 1 < ts.length) (hops : ∀ q, q ≤ m → mulOp (ts.getD (f + 2 * q) dT) = true) (hrow : Row W D T n ts) (hnew : Row W D M c []) (hP : W.cell? ⟨P, 0, none⟩ = some (.slice (some ⟨M, 0, none⟩) c c))
    (hTM : T < M) (hMP : M < P) (hD : ∀ b, M < b → D b)
    (hQ : ∀ a' W', Fr a' → a'.tmps[3]? = some (.slice (some ⟨T, 0, none⟩) ts.length n) → a'.tmps[13]? = some (.int .i64 f) → a'.tmps[16]? = some (.int .i64 (l : Int)) → a'.tmps[19]? = some (.pointer (some ⟨P, 0, none⟩)) →
      Row W' D T n ts → Row W' D M c ((List.range c).map (opnd isDiv .inv ts f)) → W'.cell? ⟨P, 0, none⟩ = some (.slice (some ⟨M, 0, none⟩) c c) → Below M W W' → Q .normal a' W') :
    Code.wp Tryz.prog (.block 6 d) Q a W := by
  have key : ∀ {D : Code}, Tryz.f30.body.bind (fb 6) = some (.block 6 D) → Code.wp Tryz.prog (.block 6 D) Q a W → Code.wp Tryz.prog (.block 6 d) Q a W := fun e h => by
    rw [e] at hcode
    cases hcode
    exact h
  refine key rfl ?_
  clear key hcode
  have hle := hrow.le
  refine wp_block ?_
  refine wp_loop (fun a w => Fr a ∧ ∃ j, j ≤ c ∧ a.tmps[3]? = some (.slice (some ⟨T, 0, none⟩) ts.length n) ∧ a.tmps[13]? = some (.int .i64 f) ∧ a.tmps[16]? = some (.int .i64 (l : Int)) ∧ a.tmps[19]? = some (.pointer (some ⟨P, 0, none⟩)) ∧
      a.tmps[313]? = some (.int .i64 c) ∧ a.tmps[314]? = some (.int .i64 j) ∧ Row w D T n ts ∧ Row w D M c ((List.range j).map (opnd isDiv .inv ts f)) ∧ w.cell? ⟨P, 0, none⟩ = some (.slice (some ⟨M, 0, none⟩) c c) ∧ Below M W w) (fun a _ => c - intAt a 314)
    ⟨hfr, 0, Nat.zero_le _, e3, e13, e16, e19, elen, ei, hrow, hnew, hP, Below.refl _ _⟩ ?_
  clear hfr e3 e13 e16 e19 elen ei a hrow hnew hP
  rintro a w ⟨hfr, j, hj, e3, e13, e16, e19, elen, ei, hrow, hnew, hP, hbel⟩
  obtain ⟨xs, rfl, hx⟩ := hfr.lit
  have x3 := hx 3 _ (by omega) e3
  have x13 := hx 13 _ (by omega) e13
  have x16 := hx 16 _ (by omega) e16
  have x19 := hx 19 _ (by omega) e19
  have xl := hx 313 _ (by omega) elen
  have xi := hx 314 _ (by omega) ei
  clear hx e3 e13 e16 e19 elen ei hfr
  simp only [fr, x3, x13, x16, x19, xl, xi]
  clear x3 x13 x16 x19 xl xi
  have HQ := Lib.hid hQ
  have HO := Lib.hid hops
  have HL := Lib.hid el
  have HC := Lib.hid ec
  have HB := Lib.hid hbel
  have HDD := Lib.hid hD
  clear hQ hops hbel hD
  have hTl := hrow.lt
  have hMl := hnew.lt
  have hPl : P < w.heap.size := World.block_lt_of_cell? _ _ hP
  have hc4 : c ≤ 4096 := by omega
  by_cases hjc : j < c
  · have hji : (j : Int) < (c : Int) := by omega
    obtain ⟨q, hq⟩ : ∃ q, f + j * 2 = q + 1 := ⟨f + j * 2 - 1, by omega⟩
    have hql : q < ts.length := by omega
    have hqi : (f : Int) + (j : Int) * 2 - 1 = (q : Int) := by omega
    have HQQ := Lib.hid hq
    clear hq el ec
    obtain ⟨v, k, c0, c1, hv⟩ := hrow.cell q hql
    obtain ⟨vt, vb, rfl⟩ := hv.form
    obtain ⟨y0, m0⟩ := hnew.isCell (j * 2) (by omega)
    obtain ⟨y1, m1⟩ := hnew.isCell (j * 2 + 1) (by omega)
    have mf0 := hnew.fz (j * 2)
    have mf1 := hnew.fz (j * 2 + 1)
    have hmn : ∀ x, (⟨w.heap.size, x, none⟩ : Addr) ≠ ⟨M, j * 2, none⟩ := fun x e => by injection e; omega
    by_cases hj0 : j = 0
    · have eo : opnd isDiv .inv ts f j = ts.getD q dT := by
        unfold opnd
        rw [if_neg (by omega), show f + j * 2 - 1 = q by have := HQQ.out; omega]
      have HE := Lib.hid eo
      subst hj0
      have hq0 : q = f - 1 := by have := HQQ.out; omega
      subst hq0
      rw [Nat.zero_mul] at m0 m1 mf0 mf1
      rw [Nat.zero_add] at m1 mf1
      go_upto_region 55 with fail
      obtain ⟨W3, eW⟩ : ∃ W3, W3 = w.alloc (.cells #[.iface vt (.pointer (some ⟨vb, 0, none⟩)), .int .i32 k] 92) := ⟨_, rfl⟩
      have hb : Below w.heap.size w W3 := by rw [eW]; exact (Below.refl _ _).alloc (Nat.le_refl _) _
      have t0 : W3.cell? ⟨w.heap.size, 0, none⟩ = some (.iface vt (.pointer (some ⟨vb, 0, none⟩))) := by rw [eW]; simp [go_sem]
      have t1 : W3.cell? ⟨w.heap.size, 1, none⟩ = some (.int .i32 k) := by rw [eW]; simp [go_sem]
      have hf := build_fin (k := k) hrow hnew (by simp) hjc hP hTM hMP HB.out hb (hv.keep (Keeps.below hb))
      rw [Nat.zero_mul, Nat.zero_add] at hf
      have HFI := Lib.hid hf
      rw [← eW]
      have n0 := cell_later hb m0
      have n1 := cell_later hb m1
      have nf0 := (hb.frozen (p := ⟨M, 0, none⟩) hMl).trans mf0
      have nf1 := (hb.frozen (p := ⟨M, 1, none⟩) hMl).trans mf1
      have nP := cell_later hb hP
      clear eW hb hf eo c0 c1 m0 m1 mf0 mf1 hP
      go_wp2_with fail
      refine ⟨⟨⟨rfl, rfl⟩, 1, by omega, rfl, rfl, rfl, rfl, rfl, rfl, HFI.out.1, ?_, HFI.out.2.2.1, HFI.out.2.2.2⟩, ?_⟩
      · show Row _ D M c ((List.range (0 + 1)).map (opnd isDiv .inv ts f))
        rw [run_snoc 0, HE.out]
        exact HFI.out.2.1
      · show c - 1 < c - 0
        omega
    · have hj0i : (0 : Int) < (j : Int) := by omega
      obtain ⟨p, hp⟩ : ∃ p, q = p + 1 := ⟨q - 1, by have := HQQ.out; omega⟩
      have hpi : (f : Int) + (j : Int) * 2 - 2 = (p : Int) := by have := HQQ.out; omega
      have HPP := Lib.hid hp
      obtain ⟨g, hg⟩ : ∃ g, j = g + 1 := ⟨j - 1, by omega⟩
      have hop := HO.out g (by have := HC.out; omega)
      rw [show f + 2 * g = p by have := HQQ.out; omega] at hop
      obtain ⟨v2, k2, d0, d1, hv2⟩ := hrow.cell p (by omega)
      clear hp hg
      have eo : opnd isDiv .inv ts f j = if isDiv (ts.getD p dT) = true then .inv (ts.getD q dT) else ts.getD q dT := by
        unfold opnd
        rw [show f + j * 2 - 1 = q by have := HQQ.out; omega, show f + j * 2 - 2 = p by have := HQQ.out; have := HPP.out; omega]
        by_cases hs : isDiv (ts.getD p dT) = true
        · rw [if_pos ⟨by omega, hs⟩, if_pos hs]
        · rw [if_neg (fun h => hs h.2), if_neg hs]
      generalize ht : ts.getD p dT = t2 at hv2 hop eo
      clear ht
      cases hv2 with
      | val b kd s ws bad pp hbD q0 q1 q2 q3 q4 q5 q6 q7 =>
        have ha := assert_plain (.pointer (some ⟨b, 0, none⟩))
        clear hop
        have hbl : b < w.heap.size := World.block_lt_of_cell? _ _ q0
        by_cases h24 : kd = 24
        · subst h24
          rw [if_pos (show isDiv (.val 24 s ws bad) = true from rfl)] at eo
          have HE := Lib.hid eo
          clear eo
          go_upto_region 55 with fail
          obtain ⟨W3, eW⟩ : ∃ W3, W3 = ((w.alloc (.cells #[.iface 95 (.pointer (some ⟨w.heap.size + 1 + 1, 0, none⟩)), .int .i32 0] 92)).alloc (.cells #[.pointer pp, .string s, .int .i32 0, .int .u32 0, .int .u16 0, .int .u8 24, .int .u8 ws] 32)).alloc
            (.cells #[.iface vt (.pointer (some ⟨vb, 0, none⟩)), .int .i32 0] 97) := ⟨_, rfl⟩
          have hb : Below w.heap.size w W3 := by
            rw [eW]
            exact (((Below.refl _ _).alloc (Nat.le_refl _) _).alloc (by rw [World.size_alloc]; omega) _).alloc (by rw [World.size_alloc, World.size_alloc]; omega) _
          have t0 : W3.cell? ⟨w.heap.size, 0, none⟩ = some (.iface 95 (.pointer (some ⟨w.heap.size + 1 + 1, 0, none⟩))) := by rw [eW]; simp [go_sem]
          have t1 : W3.cell? ⟨w.heap.size, 1, none⟩ = some (.int .i32 0) := by rw [eW]; simp [go_sem]
          have t2 : W3.cell? ⟨w.heap.size + 1 + 1, 0, none⟩ = some (.iface vt (.pointer (some ⟨vb, 0, none⟩))) := by rw [eW]; simp [go_sem]
          have hf := build_fin (k := 0) hrow hnew (by simp) hjc hP hTM hMP HB.out hb (Rep.inv (w.heap.size + 1 + 1) _ _ (HDD.out _ (by omega)) t2 (hv.keep (Keeps.below hb)))
          have HFI := Lib.hid hf
          rw [← eW]
          have n0 := cell_later hb m0
          have n1 := cell_later hb m1
          have nf0 := (hb.frozen (p := ⟨M, j * 2, none⟩) hMl).trans mf0
          have nf1 := (hb.frozen (p := ⟨M, j * 2 + 1, none⟩) hMl).trans mf1
          have nP := cell_later hb hP
          clear eW hb hf c0 c1 d0 d1 q0 q1 q2 q3 q4 q5 q6 q7 m0 m1 mf0 mf1 hP t2
          go_wp2_with fail
          refine ⟨⟨⟨rfl, rfl⟩, j + 1, by omega, rfl, rfl, rfl, rfl, rfl, rfl, HFI.out.1, ?_, HFI.out.2.2.1, HFI.out.2.2.2⟩, ?_⟩
          · rw [run_snoc j, HE.out]
            exact HFI.out.2.1
          · show c - (j + 1) < c - j
            omega
        · have h24b : (kd == 24) = false := by simpa using h24
          rw [if_neg (by show ¬ (kd == 24) = true; rw [h24b]; exact Bool.false_ne_true)] at eo
          have HE := Lib.hid eo
          clear eo
          go_upto_region 55 with fail
          obtain ⟨W3, eW⟩ : ∃ W3, W3 = (w.alloc (.cells #[.iface vt (.pointer (some ⟨vb, 0, none⟩)), .int .i32 0] 92)).alloc (.cells #[.pointer pp, .string s, .int .i32 0, .int .u32 0, .int .u16 0, .int .u8 kd, .int .u8 ws] 32) := ⟨_, rfl⟩
          have hb : Below w.heap.size w W3 := by
            rw [eW]
            exact ((Below.refl _ _).alloc (Nat.le_refl _) _).alloc (by rw [World.size_alloc]; omega) _
          have t0 : W3.cell? ⟨w.heap.size, 0, none⟩ = some (.iface vt (.pointer (some ⟨vb, 0, none⟩))) := by rw [eW]; simp [go_sem]
          have t1 : W3.cell? ⟨w.heap.size, 1, none⟩ = some (.int .i32 0) := by rw [eW]; simp [go_sem]
          have hf := build_fin (k := 0) hrow hnew (by simp) hjc hP hTM hMP HB.out hb (hv.keep (Keeps.below hb))
          have HFI := Lib.hid hf
          rw [← eW]
          have n0 := cell_later hb m0
          have n1 := cell_later hb m1
          have nf0 := (hb.frozen (p := ⟨M, j * 2, none⟩) hMl).trans mf0
          have nf1 := (hb.frozen (p := ⟨M, j * 2 + 1, none⟩) hMl).trans mf1
          have nP := cell_later hb hP
          clear eW hb hf c0 c1 d0 d1 q0 q1 q2 q3 q4 q5 q6 q7 m0 m1 mf0 mf1 hP
          go_wp2_with fail
          refine ⟨⟨⟨rfl, rfl⟩, j + 1, by omega, rfl, rfl, rfl, rfl, rfl, rfl, HFI.out.1, ?_, HFI.out.2.2.1, HFI.out.2.2.2⟩, ?_⟩
          · rw [run_snoc j, HE.out]
            exact HFI.out.2.1
          · show c - (j + 1) < c - j
            omega
      | num => cases hop
      | sum => cases hop
      | prod => cases hop
      | neg => cases hop
      | inv => cases hop
  · obtain rfl : j = c := by omega
    go_wp2_with fail
    exact HQ.out _ _ ⟨rfl, rfl⟩ rfl rfl rfl rfl hrow hnew hP HB.out

set_option maxHeartbeats 4000000 in
set_option maxRecDepth 100000 in
theorem add_build_wp {d : Code} (hcode : Tryz.f30.body.bind (fb 12) = some (.block 12 d)) (Q : Exit → Act → World → Prop) (a : Act) (W : World) (T M P n f l m c : Nat) (ts : List CT) (D : Nat → Prop)
    (hfr : Fr a) (e3 : a.tmps[3]? = some (.slice (some ⟨T, 0, none⟩) ts.length n)) (e13 : a.tmps[13]? = some (.int .i64 f)) (e16 : a.tmps[25]? = some (.int .i64 l)) (e19 : a.tmps[28]? = some (.pointer (some ⟨P, 0, none⟩)))
    (elen : a.tmps[462]? = some (.int .i64 c)) (ei : a.tmps[463]? = some (.int .i64 0))
    (hn : n ≤ 4096) (h1 : 1 ≤ f) (el : l = f + 2 * m) (ec : c = m + 2) (hl : l + 1 < ts.length) (hops : ∀ q, q ≤ m → addOp (ts.getD (f + 2 * q) dT) = true) (hrow : Row W D T n ts) (hnew : Row W D M c []) (hP : W.cell? ⟨P, 0, none⟩ = some (.slice (some ⟨M, 0, none⟩) c c))
    (hTM : T < M) (hMP : M < P) (hD : ∀ b, M < b → D b)
    (hQ : ∀ a' W', Fr a' → a'.tmps[3]? = some (.slice (some ⟨T, 0, none⟩) ts.length n) → a'.tmps[13]? = some (.int .i64 f) → a'.tmps[25]? = some (.int .i64 (l : Int)) → a'.tmps[28]? = some (.pointer (some ⟨P, 0, none⟩)) →
      Row W' D T n ts → Row W' D M c ((List.range c).map (opnd isSub .neg ts f)) → W'.cell? ⟨P, 0, none⟩ = some (.slice (some ⟨M, 0, none⟩) c c) → Below M W W' → Q .normal a' W') :
    Code.wp Tryz.prog (.block 12 d) Q a W := by
  have key : ∀ {D : Code}, Tryz.f30.body.bind (fb 12) = some (.block 12 D) → Code.wp Tryz.prog (.block 12 D) Q a W → Code.wp Tryz.prog (.block 12 d) Q a W := fun e h => by
    rw [e] at hcode
    cases hcode
    exact h
  refine key rfl ?_
  clear key hcode
  have hle := hrow.le
  refine wp_block ?_
  refine wp_loop (fun a w => Fr a ∧ ∃ j, j ≤ c ∧ a.tmps[3]? = some (.slice (some ⟨T, 0, none⟩) ts.length n) ∧ a.tmps[13]? = some (.int .i64 f) ∧ a.tmps[25]? = some (.int .i64 (l : Int)) ∧ a.tmps[28]? = some (.pointer (some ⟨P, 0, none⟩)) ∧
      a.tmps[462]? = some (.int .i64 c) ∧ a.tmps[463]? = some (.int .i64 j) ∧ Row w D T n ts ∧ Row w D M c ((List.range j).map (opnd isSub .neg ts f)) ∧ w.cell? ⟨P, 0, none⟩ = some (.slice (some ⟨M, 0, none⟩) c c) ∧ Below M W w) (fun a _ => c - intAt a 463)
    ⟨hfr, 0, Nat.zero_le _, e3, e13, e16, e19, elen, ei, hrow, hnew, hP, Below.refl _ _⟩ ?_
  clear hfr e3 e13 e16 e19 elen ei a hrow hnew hP
  rintro a w ⟨hfr, j, hj, e3, e13, e16, e19, elen, ei, hrow, hnew, hP, hbel⟩
  obtain ⟨xs, rfl, hx⟩ := hfr.lit
  have x3 := hx 3 _ (by omega) e3
  have x13 := hx 13 _ (by omega) e13
  have x16 := hx 25 _ (by omega) e16
  have x19 := hx 28 _ (by omega) e19
  have xl := hx 462 _ (by omega) elen
  have xi := hx 463 _ (by omega) ei
  clear hx e3 e13 e16 e19 elen ei hfr
  simp only [fr, x3, x13, x16, x19, xl, xi]
  clear x3 x13 x16 x19 xl xi
  have HQ := Lib.hid hQ
  have HO := Lib.hid hops
  have HL := Lib.hid el
  have HC := Lib.hid ec
  have HB := Lib.hid hbel
  have HDD := Lib.hid hD
  clear hQ hops hbel hD
  have hTl := hrow.lt
  have hMl := hnew.lt
  have hPl : P < w.heap.size := World.block_lt_of_cell? _ _ hP
  have hc4 : c ≤ 4096 := by omega
  by_cases hjc : j < c
  · have hji : (j : Int) < (c : Int) := by omega
    obtain ⟨q, hq⟩ : ∃ q, f + j * 2 = q + 1 := ⟨f + j * 2 - 1, by omega⟩
    have hql : q < ts.length := by omega
    have hqi : (f : Int) + (j : Int) * 2 - 1 = (q : Int) := by omega
    have HQQ := Lib.hid hq
    clear hq el ec
    obtain ⟨v, k, c0, c1, hv⟩ := hrow.cell q hql
    obtain ⟨vt, vb, rfl⟩ := hv.form
    obtain ⟨y0, m0⟩ := hnew.isCell (j * 2) (by omega)
    obtain ⟨y1, m1⟩ := hnew.isCell (j * 2 + 1) (by omega)
    have mf0 := hnew.fz (j * 2)
    have mf1 := hnew.fz (j * 2 + 1)
    have hmn : ∀ x, (⟨w.heap.size, x, none⟩ : Addr) ≠ ⟨M, j * 2, none⟩ := fun x e => by injection e; omega
    by_cases hj0 : j = 0
    · have eo : opnd isSub .neg ts f j = ts.getD q dT := by
        unfold opnd
        rw [if_neg (by omega), show f + j * 2 - 1 = q by have := HQQ.out; omega]
      have HE := Lib.hid eo
      subst hj0
      have hq0 : q = f - 1 := by have := HQQ.out; omega
      subst hq0
      rw [Nat.zero_mul] at m0 m1 mf0 mf1
      rw [Nat.zero_add] at m1 mf1
      go_upto_region 79 with fail
      obtain ⟨W3, eW⟩ : ∃ W3, W3 = w.alloc (.cells #[.iface vt (.pointer (some ⟨vb, 0, none⟩)), .int .i32 k] 92) := ⟨_, rfl⟩
      have hb : Below w.heap.size w W3 := by rw [eW]; exact (Below.refl _ _).alloc (Nat.le_refl _) _
      have t0 : W3.cell? ⟨w.heap.size, 0, none⟩ = some (.iface vt (.pointer (some ⟨vb, 0, none⟩))) := by rw [eW]; simp [go_sem]
      have t1 : W3.cell? ⟨w.heap.size, 1, none⟩ = some (.int .i32 k) := by rw [eW]; simp [go_sem]
      have hf := build_fin (k := k) hrow hnew (by simp) hjc hP hTM hMP HB.out hb (hv.keep (Keeps.below hb))
      rw [Nat.zero_mul, Nat.zero_add] at hf
      have HFI := Lib.hid hf
      rw [← eW]
      have n0 := cell_later hb m0
      have n1 := cell_later hb m1
      have nf0 := (hb.frozen (p := ⟨M, 0, none⟩) hMl).trans mf0
      have nf1 := (hb.frozen (p := ⟨M, 1, none⟩) hMl).trans mf1
      have nP := cell_later hb hP
      clear eW hb hf eo c0 c1 m0 m1 mf0 mf1 hP
      go_wp2_with fail
      refine ⟨⟨⟨rfl, rfl⟩, 1, by omega, rfl, rfl, rfl, rfl, rfl, rfl, HFI.out.1, ?_, HFI.out.2.2.1, HFI.out.2.2.2⟩, ?_⟩
      · show Row _ D M c ((List.range (0 + 1)).map (opnd isSub .neg ts f))
        rw [run_snoc 0, HE.out]
        exact HFI.out.2.1
      · show c - 1 < c - 0
        omega
    · have hj0i : (0 : Int) < (j : Int) := by omega
      obtain ⟨p, hp⟩ : ∃ p, q = p + 1 := ⟨q - 1, by have := HQQ.out; omega⟩
      have hpi : (f : Int) + (j : Int) * 2 - 2 = (p : Int) := by have := HQQ.out; omega
      have HPP := Lib.hid hp
      obtain ⟨g, hg⟩ : ∃ g, j = g + 1 := ⟨j - 1, by omega⟩
      have hop := HO.out g (by have := HC.out; omega)
      rw [show f + 2 * g = p by have := HQQ.out; omega] at hop
      obtain ⟨v2, k2, d0, d1, hv2⟩ := hrow.cell p (by omega)
      clear hp hg
      have eo : opnd isSub .neg ts f j = if isSub (ts.getD p dT) = true then .neg (ts.getD q dT) else ts.getD q dT := by
        unfold opnd
        rw [show f + j * 2 - 1 = q by have := HQQ.out; omega, show f + j * 2 - 2 = p by have := HQQ.out; have := HPP.out; omega]
        by_cases hs : isSub (ts.getD p dT) = true
        · rw [if_pos ⟨by omega, hs⟩, if_pos hs]
        · rw [if_neg (fun h => hs h.2), if_neg hs]
      generalize ht : ts.getD p dT = t2 at hv2 hop eo
      clear ht
      cases hv2 with
      | val b kd s ws bad pp hbD q0 q1 q2 q3 q4 q5 q6 q7 =>
        have ha := assert_plain (.pointer (some ⟨b, 0, none⟩))
        clear hop
        have hbl : b < w.heap.size := World.block_lt_of_cell? _ _ q0
        by_cases h24 : kd = 22
        · subst h24
          rw [if_pos (show isSub (.val 22 s ws bad) = true from rfl)] at eo
          have HE := Lib.hid eo
          clear eo
          go_upto_region 79 with fail
          obtain ⟨W3, eW⟩ : ∃ W3, W3 = ((w.alloc (.cells #[.iface 100 (.pointer (some ⟨w.heap.size + 1 + 1, 0, none⟩)), .int .i32 0] 92)).alloc (.cells #[.pointer pp, .string s, .int .i32 0, .int .u32 0, .int .u16 0, .int .u8 22, .int .u8 ws] 32)).alloc
            (.cells #[.iface vt (.pointer (some ⟨vb, 0, none⟩)), .int .i32 0] 101) := ⟨_, rfl⟩
          have hb : Below w.heap.size w W3 := by
            rw [eW]
            exact (((Below.refl _ _).alloc (Nat.le_refl _) _).alloc (by rw [World.size_alloc]; omega) _).alloc (by rw [World.size_alloc, World.size_alloc]; omega) _
          have t0 : W3.cell? ⟨w.heap.size, 0, none⟩ = some (.iface 100 (.pointer (some ⟨w.heap.size + 1 + 1, 0, none⟩))) := by rw [eW]; simp [go_sem]
          have t1 : W3.cell? ⟨w.heap.size, 1, none⟩ = some (.int .i32 0) := by rw [eW]; simp [go_sem]
          have t2 : W3.cell? ⟨w.heap.size + 1 + 1, 0, none⟩ = some (.iface vt (.pointer (some ⟨vb, 0, none⟩))) := by rw [eW]; simp [go_sem]
          have hf := build_fin (k := 0) hrow hnew (by simp) hjc hP hTM hMP HB.out hb (Rep.neg (w.heap.size + 1 + 1) _ _ (HDD.out _ (by omega)) t2 (hv.keep (Keeps.below hb)))
          have HFI := Lib.hid hf
          rw [← eW]
          have n0 := cell_later hb m0
          have n1 := cell_later hb m1
          have nf0 := (hb.frozen (p := ⟨M, j * 2, none⟩) hMl).trans mf0
          have nf1 := (hb.frozen (p := ⟨M, j * 2 + 1, none⟩) hMl).trans mf1
          have nP := cell_later hb hP
          clear eW hb hf c0 c1 d0 d1 q0 q1 q2 q3 q4 q5 q6 q7 m0 m1 mf0 mf1 hP t2
          go_wp2_with fail
          refine ⟨⟨⟨rfl, rfl⟩, j + 1, by omega, rfl, rfl, rfl, rfl, rfl, rfl, HFI.out.1, ?_, HFI.out.2.2.1, HFI.out.2.2.2⟩, ?_⟩
          · rw [run_snoc j, HE.out]
            exact HFI.out.2.1
          · show c - (j + 1) < c - j
            omega
        · have h24b : (kd == 22) = false := by simpa using h24
          rw [if_neg (by show ¬ (kd == 22) = true; rw [h24b]; exact Bool.false_ne_true)] at eo
          have HE := Lib.hid eo
          clear eo
          go_upto_region 79 with fail
          obtain ⟨W3, eW⟩ : ∃ W3, W3 = (w.alloc (.cells #[.iface vt (.pointer (some ⟨vb, 0, none⟩)), .int .i32 0] 92)).alloc (.cells #[.pointer pp, .string s, .int .i32 0, .int .u32 0, .int .u16 0, .int .u8 kd, .int .u8 ws] 32) := ⟨_, rfl⟩
          have hb : Below w.heap.size w W3 := by
            rw [eW]
            exact ((Below.refl _ _).alloc (Nat.le_refl _) _).alloc (by rw [World.size_alloc]; omega) _
          have t0 : W3.cell? ⟨w.heap.size, 0, none⟩ = some (.iface vt (.pointer (some ⟨vb, 0, none⟩))) := by rw [eW]; simp [go_sem]
          have t1 : W3.cell? ⟨w.heap.size, 1, none⟩ = some (.int .i32 0) := by rw [eW]; simp [go_sem]
          have hf := build_fin (k := 0) hrow hnew (by simp) hjc hP hTM hMP HB.out hb (hv.keep (Keeps.below hb))
          have HFI := Lib.hid hf
          rw [← eW]
          have n0 := cell_later hb m0
          have n1 := cell_later hb m1
          have nf0 := (hb.frozen (p := ⟨M, j * 2, none⟩) hMl).trans mf0
          have nf1 := (hb.frozen (p := ⟨M, j * 2 + 1, none⟩) hMl).trans mf1
          have nP := cell_later hb hP
          clear eW hb hf c0 c1 d0 d1 q0 q1 q2 q3 q4 q5 q6 q7 m0 m1 mf0 mf1 hP
          go_wp2_with fail
          refine ⟨⟨⟨rfl, rfl⟩, j + 1, by omega, rfl, rfl, rfl, rfl, rfl, rfl, HFI.out.1, ?_, HFI.out.2.2.1, HFI.out.2.2.2⟩, ?_⟩
          · rw [run_snoc j, HE.out]
            exact HFI.out.2.1
          · show c - (j + 1) < c - j
            omega
      | num => cases hop
      | sum => cases hop
      | prod => cases hop
      | neg => cases hop
      | inv => cases hop
  · obtain rfl : j = c := by omega
    go_wp2_with fail
    exact HQ.out _ _ ⟨rfl, rfl⟩ rfl rfl rfl rfl hrow hnew hP HB.out
end Go.Proofs.YthbfppnegodpoaaGreatDoor
