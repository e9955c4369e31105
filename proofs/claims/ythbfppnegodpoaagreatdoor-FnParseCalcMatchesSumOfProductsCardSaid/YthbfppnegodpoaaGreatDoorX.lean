/-
  The two collecting passes, walked.
-/
import Derived.Test.YthbfppnegodpoaaGreatDoorW
namespace Go.Proofs.YthbfppnegodpoaaGreatDoor
open Go.RowKit Go.Deep Go.PlainAid

def lenAt (a : Act) (i : Nat) : Nat := match a.tmps.getD i undef with
  | .slice _ n _ => n
  | _ => 0

theorem make_terms (c : Nat) (hc : c ≤ 8192) (W : World) : (Instr.makeSlice 84 (.int .i64 (c : Int)) (.int .i64 (c : Int))).run Tryz.prog W = .ok (.slice (some ⟨W.heap.size, 0, none⟩) c c) (W.alloc (.cells (madeCells #[.nilIface, .int .i32 0] (c * 2)) 92)) := by
  have h := make_row (P := Tryz.prog) 84 92 (.agg #[.nilIface, .int .i32 0]) 2 24 Tryz.underlying84 info92 .i64 .i64 c (by omega) (by omega) W
  exact h

theorem Row.made (W : World) (c : Nat) (D : Nat → Prop) (hD : ¬ D W.heap.size) : Row (W.alloc (.cells (madeCells #[.nilIface, .int .i32 0] (c * 2)) 92)) D W.heap.size c [] := by
  refine ⟨hD, Nat.zero_le _, fun i => if i % 2 = 0 then .nilIface else .int .i32 0, ?_, fun j hj => absurd hj (Nat.not_lt_zero _), fun j hj => ⟨0, if_neg (by omega)⟩⟩
  have h := World.rowIs_alloc W (madeCells #[.nilIface, .int .i32 0] (c * 2)) 92 (fun i => if i % 2 = 0 then .nilIface else .int .i32 0) (fun i hi => by
    rw [size_madeCells] at hi
    rcases Nat.mod_two_eq_zero_or_one i with h | h <;> simp [madeCells, hi, h])
  rw [size_madeCells] at h
  exact h

theorem Row.kids {W : World} {D : Nat → Prop} {T n : Nat} {ts : List CT} (h : Row W D T n ts) : ∃ vs : Nat → Value, ∀ i, i < ts.length → W.cell? ⟨T, i * 2, none⟩ = some (vs i) ∧ Rep W D (vs i) (ts.getD i dT) := by
  obtain ⟨_, hle, f, h1, h2, _⟩ := h
  exact ⟨fun i => f (i * 2), fun i hi => ⟨h1.cell (by omega), h2 i hi⟩⟩

/-- What holds where the block is left behind its last statement; no other way out. -/
def OnNormal (post : Act → World → Prop) : Exit → Act → World → Prop
  | .normal, a, w => post a w
  | _, _, _ => False

theorem inf92 : ∃ i, Tryz.prog.info? 92 = some i ∧ i.size = 2 := by
  obtain ⟨i, hi, h⟩ := Option.map_eq_some_iff.1 info92
  simp only [Prod.mk.injEq] at h
  exact ⟨i, hi, h.2.1⟩

theorem two_keep {W : World} {D : Nat → Prop} {T n : Nat} {ts : List CT} (h : Row W D T n ts) (o1 o2 : Obj) : Row ((W.alloc o1).alloc o2) D T n ts :=
  h.below (((Below.refl _ _).alloc (Nat.le_refl _) _).alloc (by rw [World.size_alloc]; omega) _)

set_option maxHeartbeats 4000000 in
set_option maxRecDepth 100000 in
theorem mul_wp {d : Code} (hcode : Tryz.f30.body.bind (fb 2) = some (.block 2 d)) (a : Act) (W : World) (T n : Nat) (ts : List CT)
    (hfr : Fr a) (e3 : a.tmps[3]? = some (.slice (some ⟨T, 0, none⟩) ts.length n)) (e13 : a.tmps[13]? = some (.int .i64 1))
    (hn : n ≤ 4096) (hrow : Row W (T < ·) T n ts) :
    Code.wp Tryz.prog (.block 2 d) (OnNormal fun a' W' => Fr a' ∧ a'.tmps[3]? = some (.slice (some ⟨T, 0, none⟩) (mulPass 1 (Nat.le_refl 1) ts).length n) ∧ Row W' (T < ·) T n (mulPass 1 (Nat.le_refl 1) ts) ∧ Below T W W') a W := by
  obtain ⟨Q, eQ⟩ : ∃ Q, Q = fun a' W' => Fr a' ∧ a'.tmps[3]? = some (.slice (some ⟨T, 0, none⟩) (mulPass 1 (Nat.le_refl 1) ts).length n) ∧ Row W' (T < ·) T n (mulPass 1 (Nat.le_refl 1) ts) ∧ Below T W W' := ⟨_, rfl⟩
  have HQ := Lib.hid eQ
  rw [← eQ]
  clear eQ
  have key : ∀ {D : Code}, Tryz.f30.body.bind (fb 2) = some (.block 2 D) → Code.wp Tryz.prog (.block 2 D) (OnNormal Q) a W → Code.wp Tryz.prog (.block 2 d) (OnNormal Q) a W := fun e h => by
    rw [e] at hcode
    cases hcode
    exact h
  refine key rfl ?_
  clear key hcode
  refine wp_block ?_
  refine wp_loop (fun a w => Fr a ∧ ∃ f us, f ≤ n + 1 ∧ a.tmps[3]? = some (.slice (some ⟨T, 0, none⟩) us.length n) ∧ a.tmps[13]? = some (.int .i64 (f : Int)) ∧ (∃ h : 1 ≤ f, mulPass f h us = mulPass 1 (Nat.le_refl 1) ts) ∧ Row w (T < ·) T n us ∧ Below T W w) (fun a _ => lenAt a 3 - intAt a 13)
    ⟨hfr, 1, ts, by omega, e3, e13, ⟨Nat.le_refl 1, rfl⟩, hrow, Below.refl _ _⟩ ?_
  clear hfr e3 e13 hrow a
  rintro a w ⟨hfr, f, us, hfn, e3, e13, ⟨h1, hps⟩, hrow, hbel⟩
  obtain ⟨xs, rfl, hx⟩ := hfr.lit
  have x3 := hx 3 _ (by omega) e3
  have x13 := hx 13 _ (by omega) e13
  clear hx e3 e13 hfr
  simp only [fr, x3, x13]
  clear x3 x13
  have HPS := Lib.hid hps
  have HB := Lib.hid hbel
  clear hps hbel
  have hTl := hrow.lt
  have hle := hrow.le
  by_cases hlt : f + 1 < us.length
  · have hlti : (f : Int) + 1 < (us.length : Int) := by omega
    obtain ⟨v, k, c0, c1, hv⟩ := hrow.cell f (by omega)
    have hno := pass_no (op := mulOp) (second := isDiv) (wrap := .inv) (mk := .prod) h1 hlt
    have hyes := pass_yes (op := mulOp) (second := isDiv) (wrap := .inv) (mk := .prod) h1 hlt
    by_cases hop : mulOp (us.getD f dT) = true
    · have hop2 := hop
      generalize ht : us.getD f dT = t at hv hop
      cases hv with
      | val b kd s ws bad p hbD q0 q1 q2 q3 q4 q5 q6 q7 =>
        have ha := run_assert_same (P := Tryz.prog) (.pointer (some ⟨b, 0, none⟩)) 70 54 80 Tryz.underlying54
        have hk : kd = 13 ∨ kd = 24 := by simpa [mulOp] using hop
        have HOP := Lib.hid hop2
        have HY := Lib.hid (HPS.out.symm.trans (hyes hop2))
        clear hop hop2 hyes hno ht
        rcases hk with rfl | rfl
        all_goals
          go_upto_block 4 with fail
          refine mul_scan_wp rfl _ _ _ T n f us (T < ·) ⟨rfl, rfl⟩ rfl rfl rfl hn hlt HOP.out hrow ?_
          intro a' l m el hfr e3 e13 e16 hsc hl hops
          obtain ⟨xs, rfl, hx⟩ := hfr.lit
          have x3 := hx 3 _ (by omega) e3
          have x13 := hx 13 _ (by omega) e13
          have x16 := hx 16 _ (by omega) e16
          clear hx e3 e13 e16 hfr
          simp only [fr, x3, x13, x16]
          clear x3 x13 x16
          have hmk := make_terms (m + 2) (by omega)
          have ecm : ((m + 2 : Nat) : Int) = (m : Int) + 2 := by omega
          rw [ecm] at hmk
          have htd : ((l : Int) - (f : Int)).tdiv 2 = (m : Int) := by
            rw [show (l : Int) - (f : Int) = (m : Int) * 2 by omega]
            exact Int.mul_tdiv_cancel _ (by omega)
          have hm4 : m ≤ 4096 := by omega
          have HEL := Lib.hid el
          have HSC := Lib.hid hsc
          have HL := Lib.hid hl
          have HOS := Lib.hid hops
          clear el ecm hsc hops
          go_upto_block 6 with fail
          obtain ⟨W3, eW⟩ : ∃ W3, W3 = (w.alloc (.cells (madeCells #[.nilIface, .int .i32 0] ((m + 2) * 2)) 92)).alloc (.cells #[.slice (some ⟨w.heap.size, 0, none⟩) (m + 2) (m + 2)] 94) := ⟨_, rfl⟩
          obtain ⟨M, eM⟩ : ∃ M, M = w.heap.size := ⟨_, rfl⟩
          have hb3 : Below w.heap.size w W3 := by rw [eW]; exact ((Below.refl _ _).alloc (Nat.le_refl _) _).alloc (by rw [World.size_alloc]; omega) _
          have hr3 : Row W3 (fun b => T < b ∧ b ≠ M) T n us := (hrow.weaken (fun b hb hD => ⟨hD, by omega⟩) (fun h => Nat.lt_irrefl _ h.1)).below hb3
          have hn3 : Row W3 (fun b => T < b ∧ b ≠ M) M (m + 2) [] := by
            rw [eW, eM]
            exact (Row.made w (m + 2) _ (fun h => h.2 rfl)).below ((Below.refl _ _).alloc (Nat.le_refl _) _)
          have hP3 : W3.cell? ⟨M + 1, 0, none⟩ = some (.slice (some ⟨M, 0, none⟩) (m + 2) (m + 2)) := by rw [eW, eM]; simp [go_sem]
          rw [← eW, ← eM]
          have HB3 := Lib.hid (show Below T w W3 from hb3.mono (by omega))
          have hTM : T < M := by omega
          clear eM eW hb3 c0 c1 q0 q1 q2 q3 q4 q5 q6 q7 hmk htd ha
          refine mul_build_wp rfl _ _ _ T M (M + 1) n f l m (m + 2) us _ ⟨rfl, rfl⟩ rfl rfl rfl rfl rfl rfl hn h1 HEL.out rfl HL.out HOS.out hr3 hn3 hP3 hTM (by omega) (fun b hb => ⟨by omega, by omega⟩) ?_
          clear hr3 hn3 hP3
          intro a' W4 hfr e3 e13 e16 e19 hr4 hn4 hP4 hb4
          obtain ⟨xs, rfl, hx⟩ := hfr.lit
          have x3 := hx 3 _ (by omega) e3
          have x13 := hx 13 _ (by omega) e13
          have x16 := hx 16 _ (by omega) e16
          have x19 := hx 19 _ (by omega) e19
          clear hx e3 e13 e16 e19 hfr
          simp only [fr, x3, x13, x16, x19]
          clear x3 x13 x16 x19
          obtain ⟨y0, m0⟩ := hr4.isCell ((f - 1) * 2) (by omega)
          have mf0 := hr4.fz ((f - 1) * 2)
          obtain ⟨vs, hvs⟩ := hn4.kids
          have hlen : ((List.range (m + 2)).map (opnd isDiv .inv us f)).length = m + 2 := by simp
          have hprod : Rep W4 (T < ·) (.iface 98 (.pointer (some ⟨M + 1, 0, none⟩))) (.prod ((List.range (m + 2)).map (opnd isDiv .inv us f))) :=
            Rep.prod (M + 1) M _ vs ⟨by rw [hlen]; omega, by rw [hlen]; omega⟩ (by omega) hTM (by rw [hlen]; exact hP4) (fun i hi => (hvs i hi).1) (fun i hi => ((hvs i hi).2).weaken (fun b _ h => h.1))
          have hr5 := (hr4.weaken (D' := (T < ·)) (fun b _ h => h.1) (Nat.lt_irrefl _)).put (f - 1) (by omega) hprod
          obtain ⟨W5, eW⟩ : ∃ W5, W5 = W4.setCell ⟨T, (f - 1) * 2, none⟩ (.iface 98 (.pointer (some ⟨M + 1, 0, none⟩))) := ⟨_, rfl⟩
          rw [← eW] at hr5
          have HB5 : Hid (Below T w W5) := by
            refine Lib.hid (HB3.out.trans ?_)
            rw [eW]
            exact (hb4.mono (Nat.le_of_lt hTM)).setCell (Nat.le_refl _) _
          obtain ⟨news, hn1, hn2, hn3, hn4⟩ := (hr5.keep (W' := W5.drew) rfl (fun _ _ _ _ h => h)).tail (l + 2)
          have hlen5 : (us.set (f - 1) (.prod ((List.range (m + 2)).map (opnd isDiv .inv us f)))).length = us.length := List.length_set
          rw [hlen5] at hn1 hn4
          obtain ⟨ad, had⟩ : ∃ ad : Addr, (if n = l + 2 then (some ⟨T, 0, none⟩ : Option Addr) else some ⟨T, (l + 2) * 2, none⟩) = some ad := by
            by_cases h : n = l + 2
            · exact ⟨_, if_pos h⟩
            · exact ⟨_, if_neg h⟩
          have hnews : ∀ j u, news[j]? = some u → W5.cell? (ad.add j) = some u := fun j u hj => by
            by_cases h : n = l + 2
            · have : news.length = 0 := by rw [hn1]; have := hr4.le; omega
              rw [List.eq_nil_of_length_eq_zero this] at hj
              cases hj
            · rw [if_neg h, Option.some.injEq] at had
              subst had
              rw [Addr.add_lit]
              exact hn2 j u hj
          have hR6 := hn4 f (by have := HEL.out; omega) (by omega)
          have hld : (loadCellsFrom ad 0 ((us.length - (l + 2)) * 2) #[]).run Tryz.prog W5.drew = .ok news.toArray W5.drew := by
            rw [← hn1]
            exact run_loadCells_list W5.drew ad news hnews
          have hst : (storeCells ⟨T, f * 2, none⟩ news).run Tryz.prog W5.drew = .ok () (W5.drew.setCells T (f * 2) news) := by
            have h := run_storeCells_cells (P := Tryz.prog) T (f * 2) news 0 W5.drew (fun j hj => by
              obtain ⟨y, hy⟩ := hr5.isCell (f * 2 + 0 + j) (by rw [hn1] at hj; have := hr4.le; have := HEL.out; omega)
              show (W5.cell? _).isSome = true
              rw [hy]; rfl) (fun j hj => hr5.fz _) hn3
            exact h
          have hwr : IntKind.i64.wrap ((l : Int) + 2) = (l : Int) + 2 := by rw [IntKind.wrap_i64]; omega
          have hw0 : (0 : Int) ≤ (l : Int) + 2 := by omega
          have hwt : ((l : Int) + 2).toNat = l + 2 := by omega
          have hli : (l : Int) + 2 ≤ (us.length : Int) := by omega
          have hfi : (f : Int) ≤ (n : Int) := by omega
          have hl7 := repl_len isDiv .inv .prod us f l h1 (by have := HEL.out; omega) HL.out
          have hR7 : Row (W5.drew.setCells T (f * 2) news) (T < ·) T n (repl isDiv .inv .prod us f l) := by
            have e6 := repl_eq (second := isDiv) (wrap := .inv) (mk := .prod) (ts := us) m h1 (by have := HEL.out; have := HL.out; omega)
            rw [← HEL.out] at e6
            rw [← e6]
            exact hR6
          have HR7 := Lib.hid hR7
          have HL7 := Lib.hid hl7
          clear hR7 hl7
          have hroom : f + (us.length - (l + 2)) ≤ n := by have := hr4.le; have := HEL.out; omega
          clear hr5 hprod hn2 hR6 hvs hn4 hr4 hP4 hb4
          go_upto_region 58 with fail
          rw [← eW]
          clear eW m0 mf0
          go_region
          go_wp2_with fail
          refine ⟨⟨⟨rfl, rfl⟩, f, repl isDiv .inv .prod us f l, hfn, ?_, rfl, ⟨h1, ?_⟩, HR7.out, HB.out.trans (below_setCells (Nat.le_refl _) _ _ (HB5.out.drew))⟩, ?_⟩
          · rw [HL7.out]
            rfl
          · rw [HY.out, HSC.out]
            rfl
          · show f + (us.length - (l + 2)) - f < us.length - f
            have := HEL.out
            omega
      | num => cases hop
      | sum => cases hop
      | prod => cases hop
      | neg => cases hop
      | inv => cases hop
    · have hop : mulOp (us.getD f dT) = false := by simpa using hop
      have HY := Lib.hid (HPS.out.symm.trans (hno hop))
      clear hyes hno
      generalize ht : us.getD f dT = t at hv hop
      clear ht
      cases hv with
      | val b kd s ws bad p hbD q0 q1 q2 q3 q4 q5 q6 q7 =>
        have ha := run_assert_same (P := Tryz.prog) (.pointer (some ⟨b, 0, none⟩)) 70 54 80 Tryz.underlying54
        have hk : (kd == 13) = false ∧ (kd == 24) = false := by simpa [mulOp] using hop
        obtain ⟨k1, k2⟩ := hk
        clear hop
        go_wp2_with fail
        refine ⟨⟨⟨rfl, rfl⟩, f + 1, us, by omega, rfl, rfl, ⟨by omega, HY.out.symm⟩, hrow, HB.out⟩, ?_⟩
        show us.length - (f + 1) < us.length - f
        omega
      | num b _ _ hbD q0 q1 =>
        have ha := other34 b
        go_wp2_with fail
        refine ⟨⟨⟨rfl, rfl⟩, f + 1, us, by omega, rfl, rfl, ⟨by omega, HY.out.symm⟩, hrow, HB.out⟩, ?_⟩
        show us.length - (f + 1) < us.length - f
        omega
      | sum b _ _ _ _ hbD _ q0 _ _ =>
        have ha := other102 b
        go_wp2_with fail
        refine ⟨⟨⟨rfl, rfl⟩, f + 1, us, by omega, rfl, rfl, ⟨by omega, HY.out.symm⟩, hrow, HB.out⟩, ?_⟩
        show us.length - (f + 1) < us.length - f
        omega
      | prod b _ _ _ _ hbD _ q0 _ _ =>
        have ha := other98 b
        go_wp2_with fail
        refine ⟨⟨⟨rfl, rfl⟩, f + 1, us, by omega, rfl, rfl, ⟨by omega, HY.out.symm⟩, hrow, HB.out⟩, ?_⟩
        show us.length - (f + 1) < us.length - f
        omega
      | neg b _ _ hbD q0 _ =>
        have ha := other100 b
        go_wp2_with fail
        refine ⟨⟨⟨rfl, rfl⟩, f + 1, us, by omega, rfl, rfl, ⟨by omega, HY.out.symm⟩, hrow, HB.out⟩, ?_⟩
        show us.length - (f + 1) < us.length - f
        omega
      | inv b _ _ hbD q0 _ =>
        have ha := other95 b
        go_wp2_with fail
        refine ⟨⟨⟨rfl, rfl⟩, f + 1, us, by omega, rfl, rfl, ⟨by omega, HY.out.symm⟩, hrow, HB.out⟩, ?_⟩
        show us.length - (f + 1) < us.length - f
        omega
  · have hlti : ¬ (f : Int) + 1 < (us.length : Int) := by omega
    have e := HPS.out.symm.trans (pass_end h1 hlt)
    have HE := Lib.hid e
    clear e
    go_wp2_with fail
    show Q _ _
    rw [HQ.out]
    dsimp only
    rw [HE.out]
    exact ⟨⟨rfl, rfl⟩, rfl, hrow, HB.out⟩

set_option maxHeartbeats 4000000 in
set_option maxRecDepth 100000 in
theorem add_wp {d : Code} (hcode : Tryz.f30.body.bind (fb 8) = some (.block 8 d)) (a : Act) (W : World) (T n : Nat) (ts : List CT)
    (hfr : Fr a) (e3 : a.tmps[3]? = some (.slice (some ⟨T, 0, none⟩) ts.length n)) (e13 : a.tmps[13]? = some (.int .i64 1))
    (hn : n ≤ 4096) (hrow : Row W (T < ·) T n ts) :
    Code.wp Tryz.prog (.block 8 d) (OnNormal fun a' W' => Fr a' ∧ a'.tmps[3]? = some (.slice (some ⟨T, 0, none⟩) (addPass 1 (Nat.le_refl 1) ts).length n) ∧ Row W' (T < ·) T n (addPass 1 (Nat.le_refl 1) ts) ∧ Below T W W') a W := by
  obtain ⟨Q, eQ⟩ : ∃ Q, Q = fun a' W' => Fr a' ∧ a'.tmps[3]? = some (.slice (some ⟨T, 0, none⟩) (addPass 1 (Nat.le_refl 1) ts).length n) ∧ Row W' (T < ·) T n (addPass 1 (Nat.le_refl 1) ts) ∧ Below T W W' := ⟨_, rfl⟩
  have HQ := Lib.hid eQ
  rw [← eQ]
  clear eQ
  have key : ∀ {D : Code}, Tryz.f30.body.bind (fb 8) = some (.block 8 D) → Code.wp Tryz.prog (.block 8 D) (OnNormal Q) a W → Code.wp Tryz.prog (.block 8 d) (OnNormal Q) a W := fun e h => by
    rw [e] at hcode
    cases hcode
    exact h
  refine key rfl ?_
  clear key hcode
  refine wp_block ?_
  refine wp_loop (fun a w => Fr a ∧ ∃ f us, f ≤ n + 1 ∧ a.tmps[3]? = some (.slice (some ⟨T, 0, none⟩) us.length n) ∧ a.tmps[13]? = some (.int .i64 (f : Int)) ∧ (∃ h : 1 ≤ f, addPass f h us = addPass 1 (Nat.le_refl 1) ts) ∧ Row w (T < ·) T n us ∧ Below T W w) (fun a _ => lenAt a 3 - intAt a 13)
    ⟨hfr, 1, ts, by omega, e3, e13, ⟨Nat.le_refl 1, rfl⟩, hrow, Below.refl _ _⟩ ?_
  clear hfr e3 e13 hrow a
  rintro a w ⟨hfr, f, us, hfn, e3, e13, ⟨h1, hps⟩, hrow, hbel⟩
  obtain ⟨xs, rfl, hx⟩ := hfr.lit
  have x3 := hx 3 _ (by omega) e3
  have x13 := hx 13 _ (by omega) e13
  clear hx e3 e13 hfr
  simp only [fr, x3, x13]
  clear x3 x13
  have HPS := Lib.hid hps
  have HB := Lib.hid hbel
  clear hps hbel
  have hTl := hrow.lt
  have hle := hrow.le
  by_cases hlt : f + 1 < us.length
  · have hlti : (f : Int) + 1 < (us.length : Int) := by omega
    obtain ⟨v, k, c0, c1, hv⟩ := hrow.cell f (by omega)
    have hno := pass_no (op := addOp) (second := isSub) (wrap := .neg) (mk := .sum) h1 hlt
    have hyes := pass_yes (op := addOp) (second := isSub) (wrap := .neg) (mk := .sum) h1 hlt
    by_cases hop : addOp (us.getD f dT) = true
    · have hop2 := hop
      generalize ht : us.getD f dT = t at hv hop
      cases hv with
      | val b kd s ws bad p hbD q0 q1 q2 q3 q4 q5 q6 q7 =>
        have ha := run_assert_same (P := Tryz.prog) (.pointer (some ⟨b, 0, none⟩)) 70 54 80 Tryz.underlying54
        have hk0 : bad = false ∧ (kd = 23 ∨ kd = 22) := by simpa [addOp] using hop
        obtain ⟨rfl, hk⟩ := hk0
        have HOP := Lib.hid hop2
        have HY := Lib.hid (HPS.out.symm.trans (hyes hop2))
        clear hop hop2 hyes hno ht
        rcases hk with rfl | rfl
        all_goals
          go_upto_block 10 with fail
          refine add_scan_wp rfl _ _ _ T n f us (T < ·) ⟨rfl, rfl⟩ rfl rfl rfl hn hlt HOP.out hrow ?_
          intro a' l m el hfr e3 e13 e16 hsc hl hops
          obtain ⟨xs, rfl, hx⟩ := hfr.lit
          have x3 := hx 3 _ (by omega) e3
          have x13 := hx 13 _ (by omega) e13
          have x16 := hx 25 _ (by omega) e16
          clear hx e3 e13 e16 hfr
          simp only [fr, x3, x13, x16]
          clear x3 x13 x16
          have hmk := make_terms (m + 2) (by omega)
          have ecm : ((m + 2 : Nat) : Int) = (m : Int) + 2 := by omega
          rw [ecm] at hmk
          have htd : ((l : Int) - (f : Int)).tdiv 2 = (m : Int) := by
            rw [show (l : Int) - (f : Int) = (m : Int) * 2 by omega]
            exact Int.mul_tdiv_cancel _ (by omega)
          have hm4 : m ≤ 4096 := by omega
          have HEL := Lib.hid el
          have HSC := Lib.hid hsc
          have HL := Lib.hid hl
          have HOS := Lib.hid hops
          clear el ecm hsc hops
          go_upto_block 12 with fail
          obtain ⟨W3, eW⟩ : ∃ W3, W3 = (w.alloc (.cells (madeCells #[.nilIface, .int .i32 0] ((m + 2) * 2)) 92)).alloc (.cells #[.slice (some ⟨w.heap.size, 0, none⟩) (m + 2) (m + 2)] 99) := ⟨_, rfl⟩
          obtain ⟨M, eM⟩ : ∃ M, M = w.heap.size := ⟨_, rfl⟩
          have hb3 : Below w.heap.size w W3 := by rw [eW]; exact ((Below.refl _ _).alloc (Nat.le_refl _) _).alloc (by rw [World.size_alloc]; omega) _
          have hr3 : Row W3 (fun b => T < b ∧ b ≠ M) T n us := (hrow.weaken (fun b hb hD => ⟨hD, by omega⟩) (fun h => Nat.lt_irrefl _ h.1)).below hb3
          have hn3 : Row W3 (fun b => T < b ∧ b ≠ M) M (m + 2) [] := by
            rw [eW, eM]
            exact (Row.made w (m + 2) _ (fun h => h.2 rfl)).below ((Below.refl _ _).alloc (Nat.le_refl _) _)
          have hP3 : W3.cell? ⟨M + 1, 0, none⟩ = some (.slice (some ⟨M, 0, none⟩) (m + 2) (m + 2)) := by rw [eW, eM]; simp [go_sem]
          rw [← eW, ← eM]
          have HB3 := Lib.hid (show Below T w W3 from hb3.mono (by omega))
          have hTM : T < M := by omega
          clear eM eW hb3 c0 c1 q0 q1 q2 q3 q4 q5 q6 q7 hmk htd ha
          refine add_build_wp rfl _ _ _ T M (M + 1) n f l m (m + 2) us _ ⟨rfl, rfl⟩ rfl rfl rfl rfl rfl rfl hn h1 HEL.out rfl HL.out HOS.out hr3 hn3 hP3 hTM (by omega) (fun b hb => ⟨by omega, by omega⟩) ?_
          clear hr3 hn3 hP3
          intro a' W4 hfr e3 e13 e16 e19 hr4 hn4 hP4 hb4
          obtain ⟨xs, rfl, hx⟩ := hfr.lit
          have x3 := hx 3 _ (by omega) e3
          have x13 := hx 13 _ (by omega) e13
          have x16 := hx 25 _ (by omega) e16
          have x19 := hx 28 _ (by omega) e19
          clear hx e3 e13 e16 e19 hfr
          simp only [fr, x3, x13, x16, x19]
          clear x3 x13 x16 x19
          obtain ⟨y0, m0⟩ := hr4.isCell ((f - 1) * 2) (by omega)
          have mf0 := hr4.fz ((f - 1) * 2)
          obtain ⟨vs, hvs⟩ := hn4.kids
          have hlen : ((List.range (m + 2)).map (opnd isSub .neg us f)).length = m + 2 := by simp
          have hprod : Rep W4 (T < ·) (.iface 102 (.pointer (some ⟨M + 1, 0, none⟩))) (.sum ((List.range (m + 2)).map (opnd isSub .neg us f))) :=
            Rep.sum (M + 1) M _ vs ⟨by rw [hlen]; omega, by rw [hlen]; omega⟩ (by omega) hTM (by rw [hlen]; exact hP4) (fun i hi => (hvs i hi).1) (fun i hi => ((hvs i hi).2).weaken (fun b _ h => h.1))
          have hr5 := (hr4.weaken (D' := (T < ·)) (fun b _ h => h.1) (Nat.lt_irrefl _)).put (f - 1) (by omega) hprod
          obtain ⟨W5, eW⟩ : ∃ W5, W5 = W4.setCell ⟨T, (f - 1) * 2, none⟩ (.iface 102 (.pointer (some ⟨M + 1, 0, none⟩))) := ⟨_, rfl⟩
          rw [← eW] at hr5
          have HB5 : Hid (Below T w W5) := by
            refine Lib.hid (HB3.out.trans ?_)
            rw [eW]
            exact (hb4.mono (Nat.le_of_lt hTM)).setCell (Nat.le_refl _) _
          obtain ⟨news, hn1, hn2, hn3, hn4⟩ := (hr5.keep (W' := W5.drew) rfl (fun _ _ _ _ h => h)).tail (l + 2)
          have hlen5 : (us.set (f - 1) (.sum ((List.range (m + 2)).map (opnd isSub .neg us f)))).length = us.length := List.length_set
          rw [hlen5] at hn1 hn4
          obtain ⟨ad, had⟩ : ∃ ad : Addr, (if n = l + 2 then (some ⟨T, 0, none⟩ : Option Addr) else some ⟨T, (l + 2) * 2, none⟩) = some ad := by
            by_cases h : n = l + 2
            · exact ⟨_, if_pos h⟩
            · exact ⟨_, if_neg h⟩
          have hnews : ∀ j u, news[j]? = some u → W5.cell? (ad.add j) = some u := fun j u hj => by
            by_cases h : n = l + 2
            · have : news.length = 0 := by rw [hn1]; have := hr4.le; omega
              rw [List.eq_nil_of_length_eq_zero this] at hj
              cases hj
            · rw [if_neg h, Option.some.injEq] at had
              subst had
              rw [Addr.add_lit]
              exact hn2 j u hj
          have hR6 := hn4 f (by have := HEL.out; omega) (by omega)
          have hld : (loadCellsFrom ad 0 ((us.length - (l + 2)) * 2) #[]).run Tryz.prog W5.drew = .ok news.toArray W5.drew := by
            rw [← hn1]
            exact run_loadCells_list W5.drew ad news hnews
          have hst : (storeCells ⟨T, f * 2, none⟩ news).run Tryz.prog W5.drew = .ok () (W5.drew.setCells T (f * 2) news) := by
            have h := run_storeCells_cells (P := Tryz.prog) T (f * 2) news 0 W5.drew (fun j hj => by
              obtain ⟨y, hy⟩ := hr5.isCell (f * 2 + 0 + j) (by rw [hn1] at hj; have := hr4.le; have := HEL.out; omega)
              show (W5.cell? _).isSome = true
              rw [hy]; rfl) (fun j hj => hr5.fz _) hn3
            exact h
          have hwr : IntKind.i64.wrap ((l : Int) + 2) = (l : Int) + 2 := by rw [IntKind.wrap_i64]; omega
          have hw0 : (0 : Int) ≤ (l : Int) + 2 := by omega
          have hwt : ((l : Int) + 2).toNat = l + 2 := by omega
          have hli : (l : Int) + 2 ≤ (us.length : Int) := by omega
          have hfi : (f : Int) ≤ (n : Int) := by omega
          have hl7 := repl_len isSub .neg .sum us f l h1 (by have := HEL.out; omega) HL.out
          have hR7 : Row (W5.drew.setCells T (f * 2) news) (T < ·) T n (repl isSub .neg .sum us f l) := by
            have e6 := repl_eq (second := isSub) (wrap := .neg) (mk := .sum) (ts := us) m h1 (by have := HEL.out; have := HL.out; omega)
            rw [← HEL.out] at e6
            rw [← e6]
            exact hR6
          have HR7 := Lib.hid hR7
          have HL7 := Lib.hid hl7
          clear hR7 hl7
          have hroom : f + (us.length - (l + 2)) ≤ n := by have := hr4.le; have := HEL.out; omega
          clear hr5 hprod hn2 hR6 hvs hn4 hr4 hP4 hb4
          go_upto_region 82 with fail
          rw [← eW]
          clear eW m0 mf0
          go_region
          go_wp2_with fail
          refine ⟨⟨⟨rfl, rfl⟩, f, repl isSub .neg .sum us f l, hfn, ?_, rfl, ⟨h1, ?_⟩, HR7.out, HB.out.trans (below_setCells (Nat.le_refl _) _ _ (HB5.out.drew))⟩, ?_⟩
          · rw [HL7.out]
            rfl
          · rw [HY.out, HSC.out]
            rfl
          · show f + (us.length - (l + 2)) - f < us.length - f
            have := HEL.out
            omega
      | num => cases hop
      | sum => cases hop
      | prod => cases hop
      | neg => cases hop
      | inv => cases hop
    · have hop : addOp (us.getD f dT) = false := by simpa using hop
      have HY := Lib.hid (HPS.out.symm.trans (hno hop))
      clear hyes hno
      generalize ht : us.getD f dT = t at hv hop
      clear ht
      cases hv with
      | val b kd s ws bad p hbD q0 q1 q2 q3 q4 q5 q6 q7 =>
        have ha := run_assert_same (P := Tryz.prog) (.pointer (some ⟨b, 0, none⟩)) 70 54 80 Tryz.underlying54
        cases bad
        · have hk : (kd == 23) = false ∧ (kd == 22) = false := by simpa [addOp] using hop
          obtain ⟨k1, k2⟩ := hk
          clear hop
          go_wp2_with fail
          refine ⟨⟨⟨rfl, rfl⟩, f + 1, us, by omega, rfl, rfl, ⟨by omega, HY.out.symm⟩, hrow, HB.out⟩, ?_⟩
          show us.length - (f + 1) < us.length - f
          omega
        · clear hop
          go_wp2_with fail
          refine ⟨⟨⟨rfl, rfl⟩, f + 1, us, by omega, rfl, rfl, ⟨by omega, HY.out.symm⟩, hrow, HB.out⟩, ?_⟩
          show us.length - (f + 1) < us.length - f
          omega
      | num b _ _ hbD q0 q1 =>
        have ha := other34 b
        go_wp2_with fail
        refine ⟨⟨⟨rfl, rfl⟩, f + 1, us, by omega, rfl, rfl, ⟨by omega, HY.out.symm⟩, hrow, HB.out⟩, ?_⟩
        show us.length - (f + 1) < us.length - f
        omega
      | sum b _ _ _ _ hbD _ q0 _ _ =>
        have ha := other102 b
        go_wp2_with fail
        refine ⟨⟨⟨rfl, rfl⟩, f + 1, us, by omega, rfl, rfl, ⟨by omega, HY.out.symm⟩, hrow, HB.out⟩, ?_⟩
        show us.length - (f + 1) < us.length - f
        omega
      | prod b _ _ _ _ hbD _ q0 _ _ =>
        have ha := other98 b
        go_wp2_with fail
        refine ⟨⟨⟨rfl, rfl⟩, f + 1, us, by omega, rfl, rfl, ⟨by omega, HY.out.symm⟩, hrow, HB.out⟩, ?_⟩
        show us.length - (f + 1) < us.length - f
        omega
      | neg b _ _ hbD q0 _ =>
        have ha := other100 b
        go_wp2_with fail
        refine ⟨⟨⟨rfl, rfl⟩, f + 1, us, by omega, rfl, rfl, ⟨by omega, HY.out.symm⟩, hrow, HB.out⟩, ?_⟩
        show us.length - (f + 1) < us.length - f
        omega
      | inv b _ _ hbD q0 _ =>
        have ha := other95 b
        go_wp2_with fail
        refine ⟨⟨⟨rfl, rfl⟩, f + 1, us, by omega, rfl, rfl, ⟨by omega, HY.out.symm⟩, hrow, HB.out⟩, ?_⟩
        show us.length - (f + 1) < us.length - f
        omega
  · have hlti : ¬ (f : Int) + 1 < (us.length : Int) := by omega
    have e := HPS.out.symm.trans (pass_end h1 hlt)
    have HE := Lib.hid e
    clear e
    go_wp2_with fail
    show Q _ _
    rw [HQ.out]
    dsimp only
    rw [HE.out]
    exact ⟨⟨rfl, rfl⟩, rfl, hrow, HB.out⟩

end Go.Proofs.YthbfppnegodpoaaGreatDoor
