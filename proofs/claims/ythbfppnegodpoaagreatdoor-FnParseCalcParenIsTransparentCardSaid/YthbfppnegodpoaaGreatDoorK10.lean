/-
  The law FnParseCalcParenIsTransparent, walked: the law itself.
-/
import Derived.Test.YthbfppnegodpoaaGreatDoorK5
import Derived.Test.YthbfppnegodpoaaGreatDoorK9
import Derived.OpenShut
namespace Go.Proofs.YthbfppnegodpoaaGreatDoor
open Go.RowKit Go.Deep Go.PlainAid

def txOpen : ByteArray := ⟨#[40]⟩

/-- A node, somewhere above. -/
def Tree0 (w : World) (o : Option CT) (e : Ending) (w' : World) : Prop := ∃ (m : MV) (D : Nat → Prop), e = .returned m.val ∧ Below w.heap.size w w' ∧ MirO w' D m o

/-- The loop's step. -/
theorem paren_step {w w2 : World} {T n : Nat} {zs : List Int} {i : Nat} {z : Int} (h : Filled w T n zs i) (hi : i < n) (hb : Below w.heap.size w w2) (ez : z = zs.getD i 0) (ch : Option Addr)
    (hin : kOf z = 8 ∨ kOf z = 9 ∨ kOf z = 10 → InnerAt w2 w.heap.size ch (z / 64)) : Filled (put7 w2 T (i * 7) (anyTok z ch)) T n zs (i + 1) := by
  subst ez
  exact h.step hi hb ch hin

set_option maxHeartbeats 8000000 in
set_option maxRecDepth 100000 in
theorem fnParseCalcParenIsTransparent_walk (a : Option Addr) (cap : Nat) (zs : List Int) (ub : Bool) (c : Int) (W : World) (hz : Ints16 W a zs) (hw : (Lit.int .u8 c).wf = true) (hE : Env W) :
    Calls Tryz.prog 4 #[.slice a zs.length cap, .bool ub, .int .u8 c] W fun e w' => e = .returned (.bool true) ∧ Below W.heap.size W w' := by
  obtain ⟨hc0, hc1⟩ := bounds_u8 hw
  clear hw
  obtain ⟨n, en⟩ : ∃ n, n = zs.length := ⟨_, rfl⟩
  rw [← en]
  by_cases hn : n ≤ 4096
  · have hmk := make_toks n (by omega)
    have h1 : ¬ (1048576 : Int) < (n : Int) := by omega
    have h2 : ¬ (4096 : Int) < (n : Int) := by omega
    have HZ := Lib.hid hz
    have HE := Lib.hid hE
    have HN := Lib.hid en
    have HNM := Lib.hid (fun w => name_any c w hc0 hc1)
    clear hz hE en hc0 hc1
    go_enter Tryz.func4, Tryz.ntmps4
    go_wp2
    go_loopw [9] (fun i wr => ∃ j : Nat, j ≤ n ∧ i = .int .i64 j ∧ Hid (Filled wr W.heap.size n zs j) ∧ Hid (Below W.heap.size W wr) ∧ Hid (wr.cell? ⟨W.heap.size + 1, 0, none⟩ = some (.slice (some ⟨W.heap.size, 0, none⟩) n n))) (fun i _ => n - (intOf i).toNat)
    case atStart =>
      refine ⟨0, Nat.zero_le _, rfl, (filled_made W n zs).below ((Below.refl _ _).alloc (Nat.le_refl _) _), ((Below.refl _ _).alloc (Nat.le_refl _) _).alloc (by rw [World.size_alloc]; omega) _, Lib.hid (by simp [go_sem])⟩
    case round =>
      obtain ⟨j, hj, rfl, hf, hb, hcc⟩ := hrel
      have cC := hcc.out
      by_cases hlt : j < n
      · have hji : (j : Int) < (n : Int) := by omega
        obtain ⟨b, off, ea, hc, hc0, hc1⟩ := HZ.out j (by rw [← HN.out]; exact hlt)
        subst ea
        have c0 := cell_later hb.out hc
        have hbW : b < W.heap.size := World.block_lt_of_cell? _ _ hc
        obtain ⟨z, ez⟩ : ∃ z, z = zs.getD j 0 := ⟨_, rfl⟩
        rw [← ez] at hc c0 hc0 hc1
        have HCZ := Lib.hid ez
        clear ez hc
        have HAny := Lib.hid (fun w => any_any z w hc0 hc1)
        clear hc0 hc1
        have hbz := hb.out.size
        have hCl : W.heap.size + 1 < wr.heap.size := World.block_lt_of_cell? _ _ cC
        have hne : b ≠ W.heap.size := fun e => by omega
        go_wp2_with fail
        go_region_with (go_at_call 15; refine (HAny.out _).mono ?_; rintro e w2 ⟨ch, rfl, hb2', hin⟩; have hb2 := (show Below wr.heap.size wr w2 from (Below.refl _ _).drew.trans hb2'); have HST := Lib.hid (paren_step hf.out hlt hb2 HCZ.out ch hin); have HB2 := Lib.hid (put7_below (hb.out.trans (hb2.mono hbz)) W.heap.size (j * 7) (anyTok z ch) (Nat.le_refl _)); have hf2 := hf.out.below hb2; obtain ⟨y0, p0⟩ := hf2.isCell (j * 7) (by omega); obtain ⟨y1, p1⟩ := hf2.isCell (j * 7 + 1) (by omega); obtain ⟨y2, p2⟩ := hf2.isCell (j * 7 + 2) (by omega); obtain ⟨y3, p3⟩ := hf2.isCell (j * 7 + 3) (by omega); obtain ⟨y4, p4⟩ := hf2.isCell (j * 7 + 4) (by omega); obtain ⟨y5, p5⟩ := hf2.isCell (j * 7 + 5) (by omega); obtain ⟨y6, p6⟩ := hf2.isCell (j * 7 + 6) (by omega); have f0 := hf2.fz (j * 7); have f1 := hf2.fz (j * 7 + 1); have f2 := hf2.fz (j * 7 + 2); have f3 := hf2.fz (j * 7 + 3); have f4 := hf2.fz (j * 7 + 4); have f5 := hf2.fz (j * 7 + 5); have f6 := hf2.fz (j * 7 + 6); have c2 := cell_later hb2 c0; have cC2 := cell_later hb2 cC; have HCC2 := Lib.hid (put7_keeps w2 W.heap.size (j * 7) (anyTok z ch) (· = W.heap.size + 1) (by omega) _ _ _ rfl cC2); have hvs : (anyTok z ch).vals = #[.pointer (anyTok z ch).ch, .string (anyTok z ch).s, .int .i32 0, .int .u32 0, .int .u16 0, .int .u8 (anyTok z ch).kd, .int .u8 (anyTok z ch).ws] := rfl; clear hb2' hb2 hin hf2)
        all_goals (try go_wp2_with fail)
        all_goals
          refine ⟨⟨j + 1, by omega, by go_num, HST.out, HB2.out, HCC2.out⟩, ?_⟩
          simp [intOf]; omega
      · obtain rfl : j = n := by omega
        clear hlt hmk
        have hbz := hb.out.size
        have hCl : W.heap.size + 1 < wr.heap.size := World.block_lt_of_cell? _ _ cC
        obtain ⟨chs, ht, hin⟩ := hf.out.toks
        have hz : ∀ i, i < j → 0 ≤ zs.getD i 0 ∧ zs.getD i 0 ≤ 65535 := fun i hi => by
          obtain ⟨_, _, _, _, h⟩ := HZ.out i (by rw [← HN.out]; exact hi)
          exact h
        have hEr := HE.out.below hb.out
        have hcall := call_of (cap := j) hEr hn hz ht hin
        obtain ⟨o, ho⟩ : ∃ o, o = parseOf j (lfOf zs chs j) := ⟨_, rfl⟩
        rw [← ho] at hcall
        have HP := Lib.hid hcall
        have HF := Lib.hid hEr.fold
        clear hcall ht hin hz hEr ho HZ HE HN hf hcc
        have hT : ∀ (W4 : World) (X : Nat) (tk : TK), Below wr.heap.size wr W4 → TokAt W4 X 0 tk → tk.ch = some ⟨W.heap.size + 1, 0, none⟩ → (tk.kd = 33 ∨ (tk.kd = 27 ∧ ∀ W', Fold W' → EF W' tk.s wVar false ∧ EF W' tk.s wCalc true)) →
            Calls Tryz.prog 17 #[.slice (some ⟨X, 0, none⟩) 1 1] W4 (Tree0 wr o) := fun W4 X tk hb4 ht hch hk => by
          have hF4 := HF.out.below hb4
          refine (pct_all W4 _ o (wrap_call ht hch (cell_later hb4 cC) ?_ (fun W' h => HP.out W' (hb4.trans (h.mono hb4.size))))).mono ?_
          · rcases hk with hk | ⟨hk, h⟩
            · exact .inl hk
            · exact .inr ⟨hk, h W4 hF4⟩
          · rintro e w5 ⟨m, he, hb5, hm⟩
            exact ⟨m, _, he, hb4.trans (hb5.mono hb4.size), hm⟩
        have HT := Lib.hid hT
        have HP2 : Hid (∀ W', Below wr.heap.size wr W' → Calls Tryz.prog 17 #[.slice (some ⟨W.heap.size, 0, none⟩) j j] W' (Tree0 W' o)) := Lib.hid fun W' hb' => (pct_all W' _ o (fun W'' h => HP.out W'' (hb'.trans (h.mono hb'.size)))).mono fun e w5 ⟨m, he, hb5, hm⟩ => ⟨m, _, he, hb5, hm⟩
        clear hT HP HF
        cases ub with
        | false =>
          go_wp2_with fail
          refine (HT.out _ _ ⟨some ⟨W.heap.size + 1, 0, none⟩, txOpen, 33, 0⟩ ?_ ?_ rfl (.inl rfl)).mono ?_
          · exact ((Below.refl _ _).alloc (Nat.le_refl _) _).alloc (by rw [World.size_alloc]; omega) _
          · exact ⟨by simp [go_sem], by simp [go_sem, txOpen], by simp [go_sem], by simp [go_sem], by simp [go_sem], by simp [go_sem], by simp [go_sem]⟩
          clear HT
          rintro e w5 ⟨m, D, rfl, hb5, hm⟩
          obtain ⟨ka, kn, kc, ek⟩ := hm.kids
          obtain ⟨tag, un, nm, kd, tx, ws, bad, kids⟩ := m
          simp only at ek
          subst ek
          have cC5 := cell_later hb5 cC
          have hC5 : W.heap.size + 1 < w5.heap.size := World.block_lt_of_cell? _ _ cC5
          have hz5 := hb5.size
          have HB5 := Lib.hid hb5
          have HM := Lib.hid hm
          have hmv : (MV.val ⟨tag, un, nm, kd, tx, ws, bad, .slice ka kn kc⟩) = .agg #[.int .i64 tag, .string un, .float .f64 nm, .int .u8 kd, .string tx, .int .u8 ws, .bool bad, .slice ka kn kc] := rfl
          clear hb5 hm
          go_wp2_with fail
          refine (HP2.out _ (HB5.out.alloc hz5 _)).mono ?_
          rintro e w6 ⟨m', D', rfl, hb6, hm'⟩
          obtain ⟨ka', kn', kc', ek'⟩ := hm'.kids
          obtain ⟨tag', un', nm', kd', tx', ws', bad', kids'⟩ := m'
          simp only at ek'
          subst ek'
          have hmv' : (MV.val ⟨tag', un', nm', kd', tx', ws', bad', .slice ka' kn' kc'⟩) = .agg #[.int .i64 tag', .string un', .float .f64 nm', .int .u8 kd', .string tx', .int .u8 ws', .bool bad', .slice ka' kn' kc'] := rfl
          have r0 : w6.cell? ⟨w5.heap.size, 0, none⟩ = some (.int .i64 tag) := cell_later hb6 (by simp [go_sem])
          have r1 : w6.cell? ⟨w5.heap.size, 1, none⟩ = some (.string un) := cell_later hb6 (by simp [go_sem])
          have r2 : w6.cell? ⟨w5.heap.size, 2, none⟩ = some (.float .f64 nm) := cell_later hb6 (by simp [go_sem])
          have r3 : w6.cell? ⟨w5.heap.size, 3, none⟩ = some (.int .u8 kd) := cell_later hb6 (by simp [go_sem])
          have r4 : w6.cell? ⟨w5.heap.size, 4, none⟩ = some (.string tx) := cell_later hb6 (by simp [go_sem])
          have r5 : w6.cell? ⟨w5.heap.size, 5, none⟩ = some (.int .u8 ws) := cell_later hb6 (by simp [go_sem])
          have r6 : w6.cell? ⟨w5.heap.size, 6, none⟩ = some (.bool bad) := cell_later hb6 (by simp [go_sem])
          have r7 : w6.cell? ⟨w5.heap.size, 7, none⟩ = some (.slice ka kn kc) := cell_later hb6 (by simp [go_sem])
          have hA6 : w5.heap.size < w6.heap.size := World.block_lt_of_cell? _ _ r0
          have hm6 : MirO w6 D ⟨tag, un, nm, kd, tx, ws, bad, .slice ka kn kc⟩ o := (HM.out.keep (Keeps.below ((Below.refl _ _).alloc (Nat.le_refl _) _))).keep (Keeps.below hb6)
          have HB6 := Lib.hid ((HB5.out.alloc hz5 _).trans (hb6.mono (by rw [World.size_alloc]; omega)))
          have HS := Lib.hid (fun W' (h : Below w6.heap.size w6 W') => same_o W' (hm6.keep (Keeps.below h)) (hm'.keep (Keeps.below h)))
          have hz6 := HB6.out.size
          clear hb6 hm' hm6
          go_wp2_with fail
          refine (HS.out _ ((Below.refl _ _).alloc (Nat.le_refl _) _)).mono ?_
          rintro e w7 ⟨rfl, hb7⟩
          have HB7 := Lib.hid ((HB6.out.alloc hz6 _).trans (hb7.mono (by rw [World.size_alloc]; omega)))
          clear hb7
          go_wp2_with fail
          go_ret
          exact ⟨rfl, hb.out.trans (HB7.out.mono hbz)⟩
        | true =>
          go_wp2_with fail
          refine (HNM.out _).mono ?_
          rintro e w4 ⟨x, rfl, hx, hb4⟩
          have HX : Hid (∀ W', Fold W' → EF W' (strOfNums [x 0, x 1, x 2, x 3]) wVar false ∧ EF W' (strOfNums [x 0, x 1, x 2, x 3]) wCalc true) := Lib.hid fun W' hF =>
            ⟨ef_of hF _ wVar (show 4 < _ by decide) word_var false ⟨fun h => absurd h (by decide), fun h => absurd h (name_var wVar rfl)⟩, ef_of hF _ wCalc (show 4 < _ by decide) word_calc true ⟨fun _ => name_calc hx, fun _ => rfl⟩⟩
          have q0 : w4.cell? ⟨wr.heap.size, 0, none⟩ = some (.pointer (some ⟨W.heap.size + 1, 0, none⟩)) := cell_later hb4 (by simp [go_sem])
          have q1 : w4.cell? ⟨wr.heap.size, 1, none⟩ = some (.string ⟨#[40]⟩) := cell_later hb4 (by simp [go_sem])
          have q2 : w4.cell? ⟨wr.heap.size, 2, none⟩ = some (.int .i32 0) := cell_later hb4 (by simp [go_sem])
          have q3 : w4.cell? ⟨wr.heap.size, 3, none⟩ = some (.int .u32 0) := cell_later hb4 (by simp [go_sem])
          have q4 : w4.cell? ⟨wr.heap.size, 4, none⟩ = some (.int .u16 0) := cell_later hb4 (by simp [go_sem])
          have q5 : w4.cell? ⟨wr.heap.size, 5, none⟩ = some (.int .u8 33) := cell_later hb4 (by simp [go_sem])
          have q6 : w4.cell? ⟨wr.heap.size, 6, none⟩ = some (.int .u8 0) := cell_later hb4 (by simp [go_sem])
          have hO4 : wr.heap.size < w4.heap.size := World.block_lt_of_cell? _ _ q0
          have qf : ∀ i, w4.frozen? ⟨wr.heap.size, i, none⟩ = false := fun i => (Below.frozen hb4 (p := ⟨wr.heap.size, i, none⟩) (by rw [World.size_alloc]; show wr.heap.size < _; omega)).trans (by simp [go_sem])
          have qf0 := qf 0
          have qf1 := qf 1
          have qf2 := qf 2
          have qf3 := qf 3
          have qf4 := qf 4
          have qf5 := qf 5
          have qf6 := qf 6
          have HB4 := Lib.hid (((Below.refl wr.heap.size wr).alloc (Nat.le_refl _) _).trans (hb4.mono (by rw [World.size_alloc]; omega)))
          clear hb4 qf hx
          go_wp2_with fail
          refine (HT.out _ _ ⟨some ⟨W.heap.size + 1, 0, none⟩, strOfNums [x 0, x 1, x 2, x 3], 27, 0⟩ ?_ ?_ rfl (.inr ⟨rfl, HX.out⟩)).mono ?_
          · exact (((((((HB4.out.setCell (Nat.le_refl _) _).setCell (Nat.le_refl _) _).setCell (Nat.le_refl _) _).setCell (Nat.le_refl _) _).setCell (Nat.le_refl _) _).setCell (Nat.le_refl _) _).setCell (Nat.le_refl _) _).alloc (by simp only [World.size_setCell]; omega) _
          · exact ⟨by simp [go_sem], by simp [go_sem], by simp [go_sem], by simp [go_sem], by simp [go_sem], by simp [go_sem], by simp [go_sem]⟩
          clear HT HX
          rintro e w5 ⟨m, D, rfl, hb5, hm⟩
          obtain ⟨ka, kn, kc, ek⟩ := hm.kids
          obtain ⟨tag, un, nm, kd, tx, ws, bad, kids⟩ := m
          simp only at ek
          subst ek
          have cC5 := cell_later hb5 cC
          have hC5 : W.heap.size + 1 < w5.heap.size := World.block_lt_of_cell? _ _ cC5
          have hz5 := hb5.size
          have HB5 := Lib.hid hb5
          have HM := Lib.hid hm
          have hmv : (MV.val ⟨tag, un, nm, kd, tx, ws, bad, .slice ka kn kc⟩) = .agg #[.int .i64 tag, .string un, .float .f64 nm, .int .u8 kd, .string tx, .int .u8 ws, .bool bad, .slice ka kn kc] := rfl
          clear hb5 hm
          go_wp2_with fail
          refine (HP2.out _ (HB5.out.alloc hz5 _)).mono ?_
          rintro e w6 ⟨m', D', rfl, hb6, hm'⟩
          obtain ⟨ka', kn', kc', ek'⟩ := hm'.kids
          obtain ⟨tag', un', nm', kd', tx', ws', bad', kids'⟩ := m'
          simp only at ek'
          subst ek'
          have hmv' : (MV.val ⟨tag', un', nm', kd', tx', ws', bad', .slice ka' kn' kc'⟩) = .agg #[.int .i64 tag', .string un', .float .f64 nm', .int .u8 kd', .string tx', .int .u8 ws', .bool bad', .slice ka' kn' kc'] := rfl
          have r0 : w6.cell? ⟨w5.heap.size, 0, none⟩ = some (.int .i64 tag) := cell_later hb6 (by simp [go_sem])
          have r1 : w6.cell? ⟨w5.heap.size, 1, none⟩ = some (.string un) := cell_later hb6 (by simp [go_sem])
          have r2 : w6.cell? ⟨w5.heap.size, 2, none⟩ = some (.float .f64 nm) := cell_later hb6 (by simp [go_sem])
          have r3 : w6.cell? ⟨w5.heap.size, 3, none⟩ = some (.int .u8 kd) := cell_later hb6 (by simp [go_sem])
          have r4 : w6.cell? ⟨w5.heap.size, 4, none⟩ = some (.string tx) := cell_later hb6 (by simp [go_sem])
          have r5 : w6.cell? ⟨w5.heap.size, 5, none⟩ = some (.int .u8 ws) := cell_later hb6 (by simp [go_sem])
          have r6 : w6.cell? ⟨w5.heap.size, 6, none⟩ = some (.bool bad) := cell_later hb6 (by simp [go_sem])
          have r7 : w6.cell? ⟨w5.heap.size, 7, none⟩ = some (.slice ka kn kc) := cell_later hb6 (by simp [go_sem])
          have hA6 : w5.heap.size < w6.heap.size := World.block_lt_of_cell? _ _ r0
          have hm6 : MirO w6 D ⟨tag, un, nm, kd, tx, ws, bad, .slice ka kn kc⟩ o := (HM.out.keep (Keeps.below ((Below.refl _ _).alloc (Nat.le_refl _) _))).keep (Keeps.below hb6)
          have HB6 := Lib.hid ((HB5.out.alloc hz5 _).trans (hb6.mono (by rw [World.size_alloc]; omega)))
          have HS := Lib.hid (fun W' (h : Below w6.heap.size w6 W') => same_o W' (hm6.keep (Keeps.below h)) (hm'.keep (Keeps.below h)))
          have hz6 := HB6.out.size
          clear hb6 hm' hm6
          go_wp2_with fail
          refine (HS.out _ ((Below.refl _ _).alloc (Nat.le_refl _) _)).mono ?_
          rintro e w7 ⟨rfl, hb7⟩
          have HB7 := Lib.hid ((HB6.out.alloc hz6 _).trans (hb7.mono (by rw [World.size_alloc]; omega)))
          clear hb7
          go_wp2_with fail
          go_ret
          exact ⟨rfl, hb.out.trans (HB7.out.mono hbz)⟩
  · have h2 : (4096 : Int) < (n : Int) := by omega
    clear hz hE en
    by_cases hn1 : n ≤ 1048576
    · have h1 : ¬ (1048576 : Int) < (n : Int) := by omega
      go_enter Tryz.func4, Tryz.ntmps4
      go_wp2
      go_ret
      exact ⟨rfl, Below.refl _ _⟩
    · have h1 : (1048576 : Int) < (n : Int) := by omega
      go_enter Tryz.func4, Tryz.ntmps4
      go_wp2
      go_ret
      exact ⟨rfl, Below.refl _ _⟩
end Go.Proofs.YthbfppnegodpoaaGreatDoor
