/-
  tryToParseCalcTerm's first loop, walked: one token's term.
-/
import Derived.Test.YthbfppnegodpoaaGreatDoorY3
import Derived.Test.YthbfppnegodpoaaGreatDoorZ
namespace Go.Proofs.YthbfppnegodpoaaGreatDoor
open Go.RowKit Go.Deep Go.PlainAid

set_option maxHeartbeats 8000000 in
set_option maxRecDepth 100000 in
theorem leaf_other {d : Code} (hcode : Tryz.f30.body.bind (fb 1) = some (.block 1 d)) (p r : Act → World → Prop) (a : Act) (W : World) (b n cap i T : Nat) (tk : Nat → TK) (ts : List CT)
    (hfr : Fr a) (e0 : a.tmps[0]? = some (.slice (some ⟨b, 0, none⟩) n cap)) (e3 : a.tmps[3]? = some (.slice (some ⟨T, 0, none⟩) n n)) (e35 : a.tmps[35]? = some (.slice (some ⟨b, 0, none⟩) n cap)) (e36 : a.tmps[36]? = some (.int .i64 n)) (e37 : a.tmps[37]? = some (.int .i64 i))
    (hn : n ≤ 4096) (hi : i < n) (htk : Toks W b n tk) (hrow : Row W (T < ·) T n ts) (hlen : ts.length = i)
    (ch : Option Addr) (s : ByteArray) (kd ws : Int) (hti : tk i = ⟨ch, s, kd, ws⟩)
    (k27 : (kd == 27) = false) (k33 : (kd == 33) = false) (k30 : (kd == 30) = false) (k34 : (kd == 34) = false) (k26 : (kd == 26) = false) (k29 : (kd == 29) = false)
    (hQ : ∀ a' W', Fr a' → a'.tmps[0]? = some (.slice (some ⟨b, 0, none⟩) n cap) → a'.tmps[3]? = some (.slice (some ⟨T, 0, none⟩) n n) → a'.tmps[35]? = some (.slice (some ⟨b, 0, none⟩) n cap) → a'.tmps[36]? = some (.int .i64 n) → a'.tmps[37]? = some (.int .i64 i) → Row W' (T < ·) T n (ts ++ [.val kd s ws (badAt tk n i)]) → Below T W W' → p a' W') :
    Code.wp Tryz.prog (.block 1 d) (OnNR p r) a W := by
  obtain ⟨xs, rfl, hx⟩ := hfr.lit
  have x0 := hx 0 _ (by omega) e0
  have x3 := hx 3 _ (by omega) e3
  have x35 := hx 35 _ (by omega) e35
  have x36 := hx 36 _ (by omega) e36
  have x37 := hx 37 _ (by omega) e37
  clear hx e0 e3 e35 e36 e37 hfr
  have key : ∀ {D : Code}, Tryz.f30.body.bind (fb 1) = some (.block 1 D) → Code.wp Tryz.prog (.block 1 D) (OnNR p r) (fr xs) W → Code.wp Tryz.prog (.block 1 d) (OnNR p r) (fr xs) W := fun e h => by
    rw [e] at hcode
    cases hcode
    exact h
  refine key rfl ?_
  clear key hcode
  have HQ := Lib.hid hQ
  clear hQ
  simp only [fr, x0, x3, x35, x36, x37]
  clear x0 x3 x35 x36 x37
  have htc := htk i hi
  rw [hti] at htc
  obtain ⟨c0, c1, c2, c3, c4, c5, c6⟩ := htc
  simp only at c0 c1 c5 c6
  have hTl := hrow.lt
  have hbl : b < W.heap.size := World.block_lt_of_cell? _ _ c0
  have hii : (i : Int) < (n : Int) := by omega
  obtain ⟨W2, eW⟩ : ∃ W2, W2 = W.alloc (.cells #[.pointer ch, .string s, .int .i32 0, .int .u32 0, .int .u16 0, .int .u8 kd, .int .u8 ws] 32) := ⟨_, rfl⟩
  have hb2 : Below W.heap.size W W2 := by rw [eW]; exact (Below.refl _ _).alloc (Nat.le_refl _) _
  have ht2 : TokAt W2 W.heap.size 0 ⟨ch, s, kd, ws⟩ := by
    rw [eW]
    exact ⟨by simp [go_sem], by simp [go_sem], by simp [go_sem], by simp [go_sem], by simp [go_sem], by simp [go_sem], by simp [go_sem]⟩
  have hP2 : W.heap.size < W2.heap.size := by rw [eW, World.size_alloc]; omega
  have d1 : W2.cell? ⟨W.heap.size, 1, none⟩ = some (.string s) := ht2.c1
  have d5 : W2.cell? ⟨W.heap.size, 5, none⟩ = some (.int .u8 kd) := ht2.c5
  go_upto_region 6 with fail
  rw [← eW]
  clear eW c0 c1 c2 c3 c4 c5 c6
  go_wp2_with fail
  refine wp_mono (reg33_wp rfl _ W2 b n cap i T W.heap.size tk ⟨rfl, rfl⟩ rfl rfl rfl rfl rfl rfl rfl hn hi (htk.below hb2) (by rw [hti]; exact ht2) (Nat.lt_of_lt_of_le hTl hb2.size)) ?_
  intro e a' W9 h
  cases e with
  | normal =>
    obtain ⟨hfr, e0, e3, e4, e35, e36, e37, e6, hrep, hb9⟩ := h
    have hb := hb2.trans (hb9.mono hb2.size)
    rw [hti] at hrep
    obtain ⟨y0, p0⟩ := (hrow.below hb).isCell (i * 2) (by omega)
    have pf := (hrow.below hb).fz (i * 2)
    obtain ⟨f1, f2⟩ := leaf_fin hrow hlen hi hb hrep
    obtain ⟨xs, rfl, hx⟩ := hfr.lit
    have x0 := hx 0 _ (by omega) e0
    have x3 := hx 3 _ (by omega) e3
    have x4 := hx 4 _ (by omega) e4
    have x6 := hx 6 _ (by omega) e6
    have x35 := hx 35 _ (by omega) e35
    have x36 := hx 36 _ (by omega) e36
    have x37 := hx 37 _ (by omega) e37
    clear hx e0 e3 e4 e6 e35 e36 e37 hfr hrep
    simp only [fr, x0, x3, x4, x6, x35, x36, x37]
    clear x0 x3 x4 x6 x35 x36 x37
    have HF1 := Lib.hid f1
    have HF2 := Lib.hid f2
    clear f1 f2
    go_wp2_with fail
    exact HQ.out _ _ ⟨rfl, rfl⟩ rfl rfl rfl rfl rfl HF1.out HF2.out
  | _ => exact h.elim

set_option maxHeartbeats 8000000 in
set_option maxRecDepth 100000 in
theorem leaf_fn {d : Code} (hcode : Tryz.f30.body.bind (fb 1) = some (.block 1 d)) (p r : Act → World → Prop) (a : Act) (W : World) (b n cap i T : Nat) (tk : Nat → TK) (ts : List CT)
    (hfr : Fr a) (e0 : a.tmps[0]? = some (.slice (some ⟨b, 0, none⟩) n cap)) (e3 : a.tmps[3]? = some (.slice (some ⟨T, 0, none⟩) n n)) (e35 : a.tmps[35]? = some (.slice (some ⟨b, 0, none⟩) n cap)) (e36 : a.tmps[36]? = some (.int .i64 n)) (e37 : a.tmps[37]? = some (.int .i64 i))
    (hn : n ≤ 4096) (hi : i < n) (htk : Toks W b n tk) (hrow : Row W (T < ·) T n ts) (hlen : ts.length = i)
    (ch : Option Addr) (s : ByteArray) (kd ws : Int) (hti : tk i = ⟨ch, s, kd, ws⟩)
    (k27 : kd = 27) (h1 : EF W s wVar false) (h2 : EF W s wCalc false)
    (hQ : ∀ a' W', Fr a' → a'.tmps[0]? = some (.slice (some ⟨b, 0, none⟩) n cap) → a'.tmps[3]? = some (.slice (some ⟨T, 0, none⟩) n n) → a'.tmps[35]? = some (.slice (some ⟨b, 0, none⟩) n cap) → a'.tmps[36]? = some (.int .i64 n) → a'.tmps[37]? = some (.int .i64 i) → Row W' (T < ·) T n (ts ++ [.val kd s ws (badAt tk n i)]) → Below T W W' → p a' W') :
    Code.wp Tryz.prog (.block 1 d) (OnNR p r) a W := by
  obtain ⟨xs, rfl, hx⟩ := hfr.lit
  have x0 := hx 0 _ (by omega) e0
  have x3 := hx 3 _ (by omega) e3
  have x35 := hx 35 _ (by omega) e35
  have x36 := hx 36 _ (by omega) e36
  have x37 := hx 37 _ (by omega) e37
  clear hx e0 e3 e35 e36 e37 hfr
  have key : ∀ {D : Code}, Tryz.f30.body.bind (fb 1) = some (.block 1 D) → Code.wp Tryz.prog (.block 1 D) (OnNR p r) (fr xs) W → Code.wp Tryz.prog (.block 1 d) (OnNR p r) (fr xs) W := fun e h => by
    rw [e] at hcode
    cases hcode
    exact h
  refine key rfl ?_
  clear key hcode
  subst k27
  have HQ := Lib.hid hQ
  clear hQ
  have H1 := Lib.hid h1
  clear h1
  have H2 := Lib.hid h2
  clear h2
  simp only [fr, x0, x3, x35, x36, x37]
  clear x0 x3 x35 x36 x37
  have htc := htk i hi
  rw [hti] at htc
  obtain ⟨c0, c1, c2, c3, c4, c5, c6⟩ := htc
  simp only at c0 c1 c5 c6
  have hTl := hrow.lt
  have hbl : b < W.heap.size := World.block_lt_of_cell? _ _ c0
  have hii : (i : Int) < (n : Int) := by omega
  obtain ⟨W2, eW⟩ : ∃ W2, W2 = W.alloc (.cells #[.pointer ch, .string s, .int .i32 0, .int .u32 0, .int .u16 0, .int .u8 27, .int .u8 ws] 32) := ⟨_, rfl⟩
  have hb2 : Below W.heap.size W W2 := by rw [eW]; exact (Below.refl _ _).alloc (Nat.le_refl _) _
  have ht2 : TokAt W2 W.heap.size 0 ⟨ch, s, 27, ws⟩ := by
    rw [eW]
    exact ⟨by simp [go_sem], by simp [go_sem], by simp [go_sem], by simp [go_sem], by simp [go_sem], by simp [go_sem], by simp [go_sem]⟩
  have hP2 : W.heap.size < W2.heap.size := by rw [eW, World.size_alloc]; omega
  have d1 : W2.cell? ⟨W.heap.size, 1, none⟩ = some (.string s) := ht2.c1
  have d5 : W2.cell? ⟨W.heap.size, 5, none⟩ = some (.int .u8 27) := ht2.c5
  go_upto_region 6 with fail
  rw [← eW]
  clear eW c0 c1 c2 c3 c4 c5 c6
  go_wp2_with fail
  refine (H1.out W2 (hb2)).mono ?_
  rintro e W3 ⟨rfl, hc3⟩
  have hb3 := hb2.trans (hc3.mono hb2.size)
  have ht3 := ht2.below hc3
  have hP3 : W.heap.size < W3.heap.size := Nat.lt_of_lt_of_le hP2 hc3.size
  clear d1 d5
  have d1 : W3.cell? ⟨W.heap.size, 1, none⟩ = some (.string s) := ht3.c1
  have d5 : W3.cell? ⟨W.heap.size, 5, none⟩ = some (.int .u8 27) := ht3.c5
  go_wp2_with fail
  refine (H2.out W3 (hb3)).mono ?_
  rintro e W4 ⟨rfl, hc4⟩
  have hb4 := hb3.trans (hc4.mono hb3.size)
  have ht4 := ht3.below hc4
  have hP4 : W.heap.size < W4.heap.size := Nat.lt_of_lt_of_le hP3 hc4.size
  clear d1 d5
  have d1 : W4.cell? ⟨W.heap.size, 1, none⟩ = some (.string s) := ht4.c1
  have d5 : W4.cell? ⟨W.heap.size, 5, none⟩ = some (.int .u8 27) := ht4.c5
  go_wp2_with fail
  refine wp_mono (reg33_wp rfl _ W4 b n cap i T W.heap.size tk ⟨rfl, rfl⟩ rfl rfl rfl rfl rfl rfl rfl hn hi (htk.below hb4) (by rw [hti]; exact ht4) (Nat.lt_of_lt_of_le hTl hb4.size)) ?_
  intro e a' W9 h
  cases e with
  | normal =>
    obtain ⟨hfr, e0, e3, e4, e35, e36, e37, e6, hrep, hb9⟩ := h
    have hb := hb4.trans (hb9.mono hb4.size)
    rw [hti] at hrep
    obtain ⟨y0, p0⟩ := (hrow.below hb).isCell (i * 2) (by omega)
    have pf := (hrow.below hb).fz (i * 2)
    obtain ⟨f1, f2⟩ := leaf_fin hrow hlen hi hb hrep
    obtain ⟨xs, rfl, hx⟩ := hfr.lit
    have x0 := hx 0 _ (by omega) e0
    have x3 := hx 3 _ (by omega) e3
    have x4 := hx 4 _ (by omega) e4
    have x6 := hx 6 _ (by omega) e6
    have x35 := hx 35 _ (by omega) e35
    have x36 := hx 36 _ (by omega) e36
    have x37 := hx 37 _ (by omega) e37
    clear hx e0 e3 e4 e6 e35 e36 e37 hfr hrep
    simp only [fr, x0, x3, x4, x6, x35, x36, x37]
    clear x0 x3 x4 x6 x35 x36 x37
    have HF1 := Lib.hid f1
    have HF2 := Lib.hid f2
    clear f1 f2
    go_wp2_with fail
    exact HQ.out _ _ ⟨rfl, rfl⟩ rfl rfl rfl rfl rfl HF1.out HF2.out
  | _ => exact h.elim

set_option maxHeartbeats 8000000 in
set_option maxRecDepth 100000 in
theorem leaf_var {d : Code} (hcode : Tryz.f30.body.bind (fb 1) = some (.block 1 d)) (p r : Act → World → Prop) (a : Act) (W : World) (b n cap i T : Nat) (tk : Nat → TK) (ts : List CT)
    (hfr : Fr a) (e0 : a.tmps[0]? = some (.slice (some ⟨b, 0, none⟩) n cap)) (e3 : a.tmps[3]? = some (.slice (some ⟨T, 0, none⟩) n n)) (e35 : a.tmps[35]? = some (.slice (some ⟨b, 0, none⟩) n cap)) (e36 : a.tmps[36]? = some (.int .i64 n)) (e37 : a.tmps[37]? = some (.int .i64 i))
    (_hn : n ≤ 4096) (hi : i < n) (htk : Toks W b n tk) (hrow : Row W (T < ·) T n ts) (hlen : ts.length = i)
    (ch : Option Addr) (s : ByteArray) (kd ws : Int) (hti : tk i = ⟨ch, s, kd, ws⟩)
    (k27 : kd = 27) (h1 : EF W s wVar true)
    (hR : ∀ a' W', Fr a' → a'.tmps[2]? = some .nilIface → Below T W W' → r a' W') :
    Code.wp Tryz.prog (.block 1 d) (OnNR p r) a W := by
  obtain ⟨xs, rfl, hx⟩ := hfr.lit
  have x0 := hx 0 _ (by omega) e0
  have x3 := hx 3 _ (by omega) e3
  have x35 := hx 35 _ (by omega) e35
  have x36 := hx 36 _ (by omega) e36
  have x37 := hx 37 _ (by omega) e37
  clear hx e0 e3 e35 e36 e37 hfr
  have key : ∀ {D : Code}, Tryz.f30.body.bind (fb 1) = some (.block 1 D) → Code.wp Tryz.prog (.block 1 D) (OnNR p r) (fr xs) W → Code.wp Tryz.prog (.block 1 d) (OnNR p r) (fr xs) W := fun e h => by
    rw [e] at hcode
    cases hcode
    exact h
  refine key rfl ?_
  clear key hcode
  subst k27
  have HR := Lib.hid hR
  clear hR
  have H1 := Lib.hid h1
  clear h1
  simp only [fr, x0, x3, x35, x36, x37]
  clear x0 x3 x35 x36 x37
  have htc := htk i hi
  rw [hti] at htc
  obtain ⟨c0, c1, c2, c3, c4, c5, c6⟩ := htc
  simp only at c0 c1 c5 c6
  have hTl := hrow.lt
  have hbl : b < W.heap.size := World.block_lt_of_cell? _ _ c0
  have hii : (i : Int) < (n : Int) := by omega
  obtain ⟨W2, eW⟩ : ∃ W2, W2 = W.alloc (.cells #[.pointer ch, .string s, .int .i32 0, .int .u32 0, .int .u16 0, .int .u8 27, .int .u8 ws] 32) := ⟨_, rfl⟩
  have hb2 : Below W.heap.size W W2 := by rw [eW]; exact (Below.refl _ _).alloc (Nat.le_refl _) _
  have ht2 : TokAt W2 W.heap.size 0 ⟨ch, s, 27, ws⟩ := by
    rw [eW]
    exact ⟨by simp [go_sem], by simp [go_sem], by simp [go_sem], by simp [go_sem], by simp [go_sem], by simp [go_sem], by simp [go_sem]⟩
  have hP2 : W.heap.size < W2.heap.size := by rw [eW, World.size_alloc]; omega
  have d1 : W2.cell? ⟨W.heap.size, 1, none⟩ = some (.string s) := ht2.c1
  have d5 : W2.cell? ⟨W.heap.size, 5, none⟩ = some (.int .u8 27) := ht2.c5
  go_upto_region 6 with fail
  rw [← eW]
  clear eW c0 c1 c2 c3 c4 c5 c6
  go_wp2_with fail
  refine (H1.out W2 (hb2)).mono ?_
  rintro e W3 ⟨rfl, hc3⟩
  have hb3 := hb2.trans (hc3.mono hb2.size)
  have ht3 := ht2.below hc3
  have hP3 : W.heap.size < W3.heap.size := Nat.lt_of_lt_of_le hP2 hc3.size
  clear d1 d5
  have d1 : W3.cell? ⟨W.heap.size, 1, none⟩ = some (.string s) := ht3.c1
  have d5 : W3.cell? ⟨W.heap.size, 5, none⟩ = some (.int .u8 27) := ht3.c5
  go_wp2_with fail
  exact HR.out _ _ ⟨rfl, rfl⟩ rfl (hb3.mono (Nat.le_of_lt hTl))
end Go.Proofs.YthbfppnegodpoaaGreatDoor
