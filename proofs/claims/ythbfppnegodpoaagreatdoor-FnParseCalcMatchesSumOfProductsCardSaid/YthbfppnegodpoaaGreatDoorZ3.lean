/-
  tryToParseCalcTerm's first loop, walked: one token's term.
-/
import Derived.Test.YthbfppnegodpoaaGreatDoorY3
import Derived.Test.YthbfppnegodpoaaGreatDoorZ
namespace Go.Proofs.YthbfppnegodpoaaGreatDoor
open Go.RowKit Go.Deep Go.PlainAid

set_option maxHeartbeats 8000000 in
set_option maxRecDepth 100000 in
theorem leaf_inf2 {d : Code} (hcode : Tryz.f30.body.bind (fb 1) = some (.block 1 d)) (p r : Act → World → Prop) (a : Act) (W : World) (b n cap i T : Nat) (tk : Nat → TK) (ts : List CT)
    (hfr : Fr a) (e0 : a.tmps[0]? = some (.slice (some ⟨b, 0, none⟩) n cap)) (e3 : a.tmps[3]? = some (.slice (some ⟨T, 0, none⟩) n n)) (e35 : a.tmps[35]? = some (.slice (some ⟨b, 0, none⟩) n cap)) (e36 : a.tmps[36]? = some (.int .i64 n)) (e37 : a.tmps[37]? = some (.int .i64 i))
    (_hn : n ≤ 4096) (hi : i < n) (htk : Toks W b n tk) (hrow : Row W (T < ·) T n ts) (hlen : ts.length = i)
    (ch : Option Addr) (s : ByteArray) (kd ws : Int) (hti : tk i = ⟨ch, s, kd, ws⟩)
    (k29 : kd = 29) (h1 : EF W s wInf false) (h2 : EF W s wNeg true)
    (hQ : ∀ a' W', Fr a' → a'.tmps[0]? = some (.slice (some ⟨b, 0, none⟩) n cap) → a'.tmps[3]? = some (.slice (some ⟨T, 0, none⟩) n n) → a'.tmps[35]? = some (.slice (some ⟨b, 0, none⟩) n cap) → a'.tmps[36]? = some (.int .i64 n) → a'.tmps[37]? = some (.int .i64 i) → Row W' (T < ·) T n (ts ++ [.num ⟨#[]⟩ fNeg]) → Below T W W' → p a' W') :
    Code.wp Tryz.prog (.block 1 d) (OnNR p r) a W := by
  obtain ⟨xs, rfl, hx⟩ := hfr.lit
  have x0 := hx 0 _ (by omega) e0
  have x3 := hx 3 _ (by omega) e3
  have x35 := hx 35 _ (by omega) e35
  have x36 := hx 36 _ (by omega) e36
  have x37 := hx 37 _ (by omega) e37
  clear hx e0 e3 e35 e36 e37 hfr
  have key : ∀ {D : Code}, Tryz.f30.body.bind (fb 1) = some (.block 1 D) → Code.wp Tryz.prog (.block 1 D) (OnNR p r) (fr xs) W → Code.wp Tryz.prog (.block 1 d) (OnNR p r) (fr xs) W := fun e h => by
    rw [e] at hcode
    cases hcode
    exact h
  refine key rfl ?_
  clear key hcode
  subst k29
  have HQ := Lib.hid hQ
  clear hQ
  have H1 := Lib.hid h1
  clear h1
  have H2 := Lib.hid h2
  clear h2
  simp only [fr, x0, x3, x35, x36, x37]
  clear x0 x3 x35 x36 x37
  have htc := htk i hi
  rw [hti] at htc
  obtain ⟨c0, c1, c2, c3, c4, c5, c6⟩ := htc
  simp only at c0 c1 c5 c6
  have hTl := hrow.lt
  have hbl : b < W.heap.size := World.block_lt_of_cell? _ _ c0
  have hii : (i : Int) < (n : Int) := by omega
  obtain ⟨W2, eW⟩ : ∃ W2, W2 = W.alloc (.cells #[.pointer ch, .string s, .int .i32 0, .int .u32 0, .int .u16 0, .int .u8 29, .int .u8 ws] 32) := ⟨_, rfl⟩
  have hb2 : Below W.heap.size W W2 := by rw [eW]; exact (Below.refl _ _).alloc (Nat.le_refl _) _
  have ht2 : TokAt W2 W.heap.size 0 ⟨ch, s, 29, ws⟩ := by
    rw [eW]
    exact ⟨by simp [go_sem], by simp [go_sem], by simp [go_sem], by simp [go_sem], by simp [go_sem], by simp [go_sem], by simp [go_sem]⟩
  have hP2 : W.heap.size < W2.heap.size := by rw [eW, World.size_alloc]; omega
  have d1 : W2.cell? ⟨W.heap.size, 1, none⟩ = some (.string s) := ht2.c1
  have d5 : W2.cell? ⟨W.heap.size, 5, none⟩ = some (.int .u8 29) := ht2.c5
  go_upto_region 6 with fail
  rw [← eW]
  clear eW c0 c1 c2 c3 c4 c5 c6
  go_wp2_with fail
  refine (H1.out W2 (hb2)).mono ?_
  rintro e W3 ⟨rfl, hc3⟩
  have hb3 := hb2.trans (hc3.mono hb2.size)
  have ht3 := ht2.below hc3
  have hP3 : W.heap.size < W3.heap.size := Nat.lt_of_lt_of_le hP2 hc3.size
  clear d1 d5
  have d1 : W3.cell? ⟨W.heap.size, 1, none⟩ = some (.string s) := ht3.c1
  have d5 : W3.cell? ⟨W.heap.size, 5, none⟩ = some (.int .u8 29) := ht3.c5
  go_wp2_with fail
  refine (H2.out W3 (hb3)).mono ?_
  rintro e W4 ⟨rfl, hc4⟩
  have hb4 := hb3.trans (hc4.mono hb3.size)
  have ht4 := ht3.below hc4
  have hP4 : W.heap.size < W4.heap.size := Nat.lt_of_lt_of_le hP3 hc4.size
  clear d1 d5
  have d1 : W4.cell? ⟨W.heap.size, 1, none⟩ = some (.string s) := ht4.c1
  have d5 : W4.cell? ⟨W.heap.size, 5, none⟩ = some (.int .u8 29) := ht4.c5
  have d2 : W4.cell? ⟨W.heap.size, 2, none⟩ = some (.int .i32 0) := ht4.c2
  obtain ⟨y0, p0⟩ := (hrow.below hb4).isCell (i * 2) (by omega)
  have pf := (hrow.below hb4).fz (i * 2)
  have hTj : T < W4.heap.size := Nat.lt_of_lt_of_le hTl hb4.size
  obtain ⟨W9, eW⟩ : ∃ W9, W9 = (W4.alloc (.cells #[.string ⟨#[]⟩, .float .f64 fNeg, .int .i32 0] 73)).drew := ⟨_, rfl⟩
  have hb9 : Below W4.heap.size W4 W9 := by rw [eW]; exact ((Below.refl _ _).alloc (Nat.le_refl _) _).drew
  have hrep : Rep W9 (T < ·) (.iface 34 (.pointer (some ⟨W4.heap.size, 0, none⟩))) (.num ⟨#[]⟩ fNeg) := by
    rw [eW]
    exact .num W4.heap.size _ _ (Nat.lt_of_lt_of_le hTl hb4.size) (by simp [go_sem]) (by simp [go_sem])
  have hb := hb4.trans (hb9.mono hb4.size)
  obtain ⟨f1, f2⟩ := leaf_fin hrow hlen hi hb hrep
  have ew : W9.setCell ⟨T, i * 2, none⟩ (.iface 34 (.pointer (some ⟨W4.heap.size, 0, none⟩))) = ((W4.setCell ⟨T, i * 2, none⟩ (.iface 34 (.pointer (some ⟨W4.heap.size, 0, none⟩)))).alloc (.cells #[.string ⟨#[]⟩, .float .f64 fNeg, .int .i32 0] 73)).drew := by
    rw [eW]
    simp [go_sem, hTj]
  rw [ew] at f1 f2
  have HF1 := Lib.hid f1
  have HF2 := Lib.hid f2
  clear f1 f2 hrep eW hb9 ew hb
  clear W9
  go_wp2_with fail
  go_region_with (go_at_call 45; refine (inf_neg _).mono ?_; rintro e w' ⟨rfl, rfl⟩)
  all_goals (try go_wp2_with fail)
  all_goals exact HQ.out _ _ ⟨rfl, rfl⟩ rfl rfl rfl rfl rfl HF1.out HF2.out

set_option maxHeartbeats 8000000 in
set_option maxRecDepth 100000 in
theorem leaf_nan {d : Code} (hcode : Tryz.f30.body.bind (fb 1) = some (.block 1 d)) (p r : Act → World → Prop) (a : Act) (W : World) (b n cap i T : Nat) (tk : Nat → TK) (ts : List CT)
    (hfr : Fr a) (e0 : a.tmps[0]? = some (.slice (some ⟨b, 0, none⟩) n cap)) (e3 : a.tmps[3]? = some (.slice (some ⟨T, 0, none⟩) n n)) (e35 : a.tmps[35]? = some (.slice (some ⟨b, 0, none⟩) n cap)) (e36 : a.tmps[36]? = some (.int .i64 n)) (e37 : a.tmps[37]? = some (.int .i64 i))
    (_hn : n ≤ 4096) (hi : i < n) (htk : Toks W b n tk) (hrow : Row W (T < ·) T n ts) (hlen : ts.length = i)
    (ch : Option Addr) (s : ByteArray) (kd ws : Int) (hti : tk i = ⟨ch, s, kd, ws⟩)
    (k29 : kd = 29) (h1 : EF W s wInf false) (h2 : EF W s wNeg false) (h3 : EF W s wNaN true)
    (hQ : ∀ a' W', Fr a' → a'.tmps[0]? = some (.slice (some ⟨b, 0, none⟩) n cap) → a'.tmps[3]? = some (.slice (some ⟨T, 0, none⟩) n n) → a'.tmps[35]? = some (.slice (some ⟨b, 0, none⟩) n cap) → a'.tmps[36]? = some (.int .i64 n) → a'.tmps[37]? = some (.int .i64 i) → Row W' (T < ·) T n (ts ++ [.num ⟨#[]⟩ fNaN]) → Below T W W' → p a' W') :
    Code.wp Tryz.prog (.block 1 d) (OnNR p r) a W := by
  obtain ⟨xs, rfl, hx⟩ := hfr.lit
  have x0 := hx 0 _ (by omega) e0
  have x3 := hx 3 _ (by omega) e3
  have x35 := hx 35 _ (by omega) e35
  have x36 := hx 36 _ (by omega) e36
  have x37 := hx 37 _ (by omega) e37
  clear hx e0 e3 e35 e36 e37 hfr
  have key : ∀ {D : Code}, Tryz.f30.body.bind (fb 1) = some (.block 1 D) → Code.wp Tryz.prog (.block 1 D) (OnNR p r) (fr xs) W → Code.wp Tryz.prog (.block 1 d) (OnNR p r) (fr xs) W := fun e h => by
    rw [e] at hcode
    cases hcode
    exact h
  refine key rfl ?_
  clear key hcode
  subst k29
  have HQ := Lib.hid hQ
  clear hQ
  have H1 := Lib.hid h1
  clear h1
  have H2 := Lib.hid h2
  clear h2
  have H3 := Lib.hid h3
  clear h3
  simp only [fr, x0, x3, x35, x36, x37]
  clear x0 x3 x35 x36 x37
  have htc := htk i hi
  rw [hti] at htc
  obtain ⟨c0, c1, c2, c3, c4, c5, c6⟩ := htc
  simp only at c0 c1 c5 c6
  have hTl := hrow.lt
  have hbl : b < W.heap.size := World.block_lt_of_cell? _ _ c0
  have hii : (i : Int) < (n : Int) := by omega
  obtain ⟨W2, eW⟩ : ∃ W2, W2 = W.alloc (.cells #[.pointer ch, .string s, .int .i32 0, .int .u32 0, .int .u16 0, .int .u8 29, .int .u8 ws] 32) := ⟨_, rfl⟩
  have hb2 : Below W.heap.size W W2 := by rw [eW]; exact (Below.refl _ _).alloc (Nat.le_refl _) _
  have ht2 : TokAt W2 W.heap.size 0 ⟨ch, s, 29, ws⟩ := by
    rw [eW]
    exact ⟨by simp [go_sem], by simp [go_sem], by simp [go_sem], by simp [go_sem], by simp [go_sem], by simp [go_sem], by simp [go_sem]⟩
  have hP2 : W.heap.size < W2.heap.size := by rw [eW, World.size_alloc]; omega
  have d1 : W2.cell? ⟨W.heap.size, 1, none⟩ = some (.string s) := ht2.c1
  have d5 : W2.cell? ⟨W.heap.size, 5, none⟩ = some (.int .u8 29) := ht2.c5
  go_upto_region 6 with fail
  rw [← eW]
  clear eW c0 c1 c2 c3 c4 c5 c6
  go_wp2_with fail
  refine (H1.out W2 (hb2)).mono ?_
  rintro e W3 ⟨rfl, hc3⟩
  have hb3 := hb2.trans (hc3.mono hb2.size)
  have ht3 := ht2.below hc3
  have hP3 : W.heap.size < W3.heap.size := Nat.lt_of_lt_of_le hP2 hc3.size
  clear d1 d5
  have d1 : W3.cell? ⟨W.heap.size, 1, none⟩ = some (.string s) := ht3.c1
  have d5 : W3.cell? ⟨W.heap.size, 5, none⟩ = some (.int .u8 29) := ht3.c5
  go_wp2_with fail
  refine (H2.out W3 (hb3)).mono ?_
  rintro e W4 ⟨rfl, hc4⟩
  have hb4 := hb3.trans (hc4.mono hb3.size)
  have ht4 := ht3.below hc4
  have hP4 : W.heap.size < W4.heap.size := Nat.lt_of_lt_of_le hP3 hc4.size
  clear d1 d5
  have d1 : W4.cell? ⟨W.heap.size, 1, none⟩ = some (.string s) := ht4.c1
  have d5 : W4.cell? ⟨W.heap.size, 5, none⟩ = some (.int .u8 29) := ht4.c5
  go_wp2_with fail
  refine (H3.out W4 (hb4)).mono ?_
  rintro e W5 ⟨rfl, hc5⟩
  have hb5 := hb4.trans (hc5.mono hb4.size)
  have ht5 := ht4.below hc5
  have hP5 : W.heap.size < W5.heap.size := Nat.lt_of_lt_of_le hP4 hc5.size
  clear d1 d5
  have d1 : W5.cell? ⟨W.heap.size, 1, none⟩ = some (.string s) := ht5.c1
  have d5 : W5.cell? ⟨W.heap.size, 5, none⟩ = some (.int .u8 29) := ht5.c5
  have d2 : W5.cell? ⟨W.heap.size, 2, none⟩ = some (.int .i32 0) := ht5.c2
  obtain ⟨y0, p0⟩ := (hrow.below hb5).isCell (i * 2) (by omega)
  have pf := (hrow.below hb5).fz (i * 2)
  have hTj : T < W5.heap.size := Nat.lt_of_lt_of_le hTl hb5.size
  obtain ⟨W9, eW⟩ : ∃ W9, W9 = (W5.alloc (.cells #[.string ⟨#[]⟩, .float .f64 fNaN, .int .i32 0] 73)).drew := ⟨_, rfl⟩
  have hb9 : Below W5.heap.size W5 W9 := by rw [eW]; exact ((Below.refl _ _).alloc (Nat.le_refl _) _).drew
  have hrep : Rep W9 (T < ·) (.iface 34 (.pointer (some ⟨W5.heap.size, 0, none⟩))) (.num ⟨#[]⟩ fNaN) := by
    rw [eW]
    exact .num W5.heap.size _ _ (Nat.lt_of_lt_of_le hTl hb5.size) (by simp [go_sem]) (by simp [go_sem])
  have hb := hb5.trans (hb9.mono hb5.size)
  obtain ⟨f1, f2⟩ := leaf_fin hrow hlen hi hb hrep
  have ew : W9.setCell ⟨T, i * 2, none⟩ (.iface 34 (.pointer (some ⟨W5.heap.size, 0, none⟩))) = ((W5.setCell ⟨T, i * 2, none⟩ (.iface 34 (.pointer (some ⟨W5.heap.size, 0, none⟩)))).alloc (.cells #[.string ⟨#[]⟩, .float .f64 fNaN, .int .i32 0] 73)).drew := by
    rw [eW]
    simp [go_sem, hTj]
  rw [ew] at f1 f2
  have HF1 := Lib.hid f1
  have HF2 := Lib.hid f2
  clear f1 f2 hrep eW hb9 ew hb
  clear W9
  go_wp2_with fail
  go_region_with (go_at_call 46; refine (nan_any _).mono ?_; rintro e w' ⟨rfl, rfl⟩)
  all_goals (try go_wp2_with fail)
  all_goals exact HQ.out _ _ ⟨rfl, rfl⟩ rfl rfl rfl rfl rfl HF1.out HF2.out

set_option maxHeartbeats 8000000 in
set_option maxRecDepth 100000 in
theorem leaf_num {d : Code} (hcode : Tryz.f30.body.bind (fb 1) = some (.block 1 d)) (p r : Act → World → Prop) (a : Act) (W : World) (b n cap i T : Nat) (tk : Nat → TK) (ts : List CT)
    (hfr : Fr a) (e0 : a.tmps[0]? = some (.slice (some ⟨b, 0, none⟩) n cap)) (e3 : a.tmps[3]? = some (.slice (some ⟨T, 0, none⟩) n n)) (e35 : a.tmps[35]? = some (.slice (some ⟨b, 0, none⟩) n cap)) (e36 : a.tmps[36]? = some (.int .i64 n)) (e37 : a.tmps[37]? = some (.int .i64 i))
    (_hn : n ≤ 4096) (hi : i < n) (htk : Toks W b n tk) (hrow : Row W (T < ·) T n ts) (hlen : ts.length = i)
    (ch : Option Addr) (s : ByteArray) (kd ws : Int) (hti : tk i = ⟨ch, s, kd, ws⟩)
    (k30 : kd = 30) (x : Nat) (h41 : ∀ W', Below W.heap.size W W' → Calls Tryz.prog 41 #[.string s, .int .i64 64] W' fun e w' => e = .returned (.tuple #[.float .f64 x, .nilIface]) ∧ W' = w')
    (hQ : ∀ a' W', Fr a' → a'.tmps[0]? = some (.slice (some ⟨b, 0, none⟩) n cap) → a'.tmps[3]? = some (.slice (some ⟨T, 0, none⟩) n n) → a'.tmps[35]? = some (.slice (some ⟨b, 0, none⟩) n cap) → a'.tmps[36]? = some (.int .i64 n) → a'.tmps[37]? = some (.int .i64 i) → Row W' (T < ·) T n (ts ++ [.num ⟨#[]⟩ x]) → Below T W W' → p a' W') :
    Code.wp Tryz.prog (.block 1 d) (OnNR p r) a W := by
  obtain ⟨xs, rfl, hx⟩ := hfr.lit
  have x0 := hx 0 _ (by omega) e0
  have x3 := hx 3 _ (by omega) e3
  have x35 := hx 35 _ (by omega) e35
  have x36 := hx 36 _ (by omega) e36
  have x37 := hx 37 _ (by omega) e37
  clear hx e0 e3 e35 e36 e37 hfr
  have key : ∀ {D : Code}, Tryz.f30.body.bind (fb 1) = some (.block 1 D) → Code.wp Tryz.prog (.block 1 D) (OnNR p r) (fr xs) W → Code.wp Tryz.prog (.block 1 d) (OnNR p r) (fr xs) W := fun e h => by
    rw [e] at hcode
    cases hcode
    exact h
  refine key rfl ?_
  clear key hcode
  subst k30
  have HQ := Lib.hid hQ
  clear hQ
  have H41 := Lib.hid h41
  clear h41
  simp only [fr, x0, x3, x35, x36, x37]
  clear x0 x3 x35 x36 x37
  have htc := htk i hi
  rw [hti] at htc
  obtain ⟨c0, c1, c2, c3, c4, c5, c6⟩ := htc
  simp only at c0 c1 c5 c6
  have hTl := hrow.lt
  have hbl : b < W.heap.size := World.block_lt_of_cell? _ _ c0
  have hii : (i : Int) < (n : Int) := by omega
  obtain ⟨W2, eW⟩ : ∃ W2, W2 = W.alloc (.cells #[.pointer ch, .string s, .int .i32 0, .int .u32 0, .int .u16 0, .int .u8 30, .int .u8 ws] 32) := ⟨_, rfl⟩
  have hb2 : Below W.heap.size W W2 := by rw [eW]; exact (Below.refl _ _).alloc (Nat.le_refl _) _
  have ht2 : TokAt W2 W.heap.size 0 ⟨ch, s, 30, ws⟩ := by
    rw [eW]
    exact ⟨by simp [go_sem], by simp [go_sem], by simp [go_sem], by simp [go_sem], by simp [go_sem], by simp [go_sem], by simp [go_sem]⟩
  have hP2 : W.heap.size < W2.heap.size := by rw [eW, World.size_alloc]; omega
  have d1 : W2.cell? ⟨W.heap.size, 1, none⟩ = some (.string s) := ht2.c1
  have d5 : W2.cell? ⟨W.heap.size, 5, none⟩ = some (.int .u8 30) := ht2.c5
  go_upto_region 6 with fail
  rw [← eW]
  clear eW c0 c1 c2 c3 c4 c5 c6
  have d2 : W2.cell? ⟨W.heap.size, 2, none⟩ = some (.int .i32 0) := ht2.c2
  go_wp2_with fail
  refine (H41.out W2 hb2).mono ?_
  rintro e w' ⟨rfl, rfl⟩
  go_upto_region 34 with fail
  obtain ⟨W9, eW⟩ : ∃ W9, W9 = W2.alloc (.cells #[.string ⟨#[]⟩, .float .f64 x, .int .i32 0] 73) := ⟨_, rfl⟩
  have hb9 : Below W2.heap.size W2 W9 := by rw [eW]; exact ((Below.refl _ _).alloc (Nat.le_refl _) _)
  have hrep : Rep W9 (T < ·) (.iface 34 (.pointer (some ⟨W2.heap.size, 0, none⟩))) (.num ⟨#[]⟩ x) := by
    rw [eW]
    exact .num W2.heap.size _ _ (Nat.lt_of_lt_of_le hTl hb2.size) (by simp [go_sem]) (by simp [go_sem])
  rw [← eW]
  clear eW d1 d2 d5
  have hb := hb2.trans (hb9.mono hb2.size)
  obtain ⟨y0, p0⟩ := (hrow.below hb).isCell (i * 2) (by omega)
  have pf := (hrow.below hb).fz (i * 2)
  obtain ⟨f1, f2⟩ := leaf_fin hrow hlen hi hb hrep
  have HF1 := Lib.hid f1
  have HF2 := Lib.hid f2
  clear f1 f2 hrep
  go_wp2_with fail
  exact HQ.out _ _ ⟨rfl, rfl⟩ rfl rfl rfl rfl rfl HF1.out HF2.out
end Go.Proofs.YthbfppnegodpoaaGreatDoor
