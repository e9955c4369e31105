/-
  tryToParseCalcTerm's first loop, walked: one token's term.
-/
import Derived.Test.YthbfppnegodpoaaGreatDoorY3
import Derived.Test.YthbfppnegodpoaaGreatDoorZ
namespace Go.Proofs.YthbfppnegodpoaaGreatDoor
open Go.RowKit Go.Deep Go.PlainAid

set_option maxHeartbeats 8000000 in
set_option maxRecDepth 100000 in
theorem leaf_nonum {d : Code} (hcode : Tryz.f30.body.bind (fb 1) = some (.block 1 d)) (p r : Act → World → Prop) (a : Act) (W : World) (b n cap i T : Nat) (tk : Nat → TK) (ts : List CT)
    (hfr : Fr a) (e0 : a.tmps[0]? = some (.slice (some ⟨b, 0, none⟩) n cap)) (e3 : a.tmps[3]? = some (.slice (some ⟨T, 0, none⟩) n n)) (e35 : a.tmps[35]? = some (.slice (some ⟨b, 0, none⟩) n cap)) (e36 : a.tmps[36]? = some (.int .i64 n)) (e37 : a.tmps[37]? = some (.int .i64 i))
    (_hn : n ≤ 4096) (hi : i < n) (htk : Toks W b n tk) (hrow : Row W (T < ·) T n ts) (hlen : ts.length = i)
    (ch : Option Addr) (s : ByteArray) (kd ws : Int) (hti : tk i = ⟨ch, s, kd, ws⟩)
    (k30 : kd = 30) (h41 : ∀ W', Below W.heap.size W W' → Calls Tryz.prog 41 #[.string s, .int .i64 64] W' fun e w' => ∃ x u y, e = .returned (.tuple #[.float .f64 x, .iface u y]) ∧ Below W'.heap.size W' w')
    (hQ : ∀ a' W', Fr a' → a'.tmps[0]? = some (.slice (some ⟨b, 0, none⟩) n cap) → a'.tmps[3]? = some (.slice (some ⟨T, 0, none⟩) n n) → a'.tmps[35]? = some (.slice (some ⟨b, 0, none⟩) n cap) → a'.tmps[36]? = some (.int .i64 n) → a'.tmps[37]? = some (.int .i64 i) → Row W' (T < ·) T n (ts ++ [.val 30 s ws false]) → Below T W W' → p a' W') :
    Code.wp Tryz.prog (.block 1 d) (OnNR p r) a W := by
  obtain ⟨xs, rfl, hx⟩ := hfr.lit
  have x0 := hx 0 _ (by omega) e0
  have x3 := hx 3 _ (by omega) e3
  have x35 := hx 35 _ (by omega) e35
  have x36 := hx 36 _ (by omega) e36
  have x37 := hx 37 _ (by omega) e37
  clear hx e0 e3 e35 e36 e37 hfr
  have key : ∀ {D : Code}, Tryz.f30.body.bind (fb 1) = some (.block 1 D) → Code.wp Tryz.prog (.block 1 D) (OnNR p r) (fr xs) W → Code.wp Tryz.prog (.block 1 d) (OnNR p r) (fr xs) W := fun e h => by
    rw [e] at hcode
    cases hcode
    exact h
  refine key rfl ?_
  clear key hcode
  subst k30
  have HQ := Lib.hid hQ
  clear hQ
  have H41 := Lib.hid h41
  clear h41
  simp only [fr, x0, x3, x35, x36, x37]
  clear x0 x3 x35 x36 x37
  have htc := htk i hi
  rw [hti] at htc
  obtain ⟨c0, c1, c2, c3, c4, c5, c6⟩ := htc
  simp only at c0 c1 c5 c6
  have hTl := hrow.lt
  have hbl : b < W.heap.size := World.block_lt_of_cell? _ _ c0
  have hii : (i : Int) < (n : Int) := by omega
  obtain ⟨W2, eW⟩ : ∃ W2, W2 = W.alloc (.cells #[.pointer ch, .string s, .int .i32 0, .int .u32 0, .int .u16 0, .int .u8 30, .int .u8 ws] 32) := ⟨_, rfl⟩
  have hb2 : Below W.heap.size W W2 := by rw [eW]; exact (Below.refl _ _).alloc (Nat.le_refl _) _
  have ht2 : TokAt W2 W.heap.size 0 ⟨ch, s, 30, ws⟩ := by
    rw [eW]
    exact ⟨by simp [go_sem], by simp [go_sem], by simp [go_sem], by simp [go_sem], by simp [go_sem], by simp [go_sem], by simp [go_sem]⟩
  have hP2 : W.heap.size < W2.heap.size := by rw [eW, World.size_alloc]; omega
  have d1 : W2.cell? ⟨W.heap.size, 1, none⟩ = some (.string s) := ht2.c1
  have d5 : W2.cell? ⟨W.heap.size, 5, none⟩ = some (.int .u8 30) := ht2.c5
  go_upto_region 6 with fail
  rw [← eW]
  clear eW c0 c1 c2 c3 c4 c5 c6
  go_wp2_with fail
  refine (H41.out W2 hb2).mono ?_
  rintro e W3 ⟨x, u, y, rfl, hc3⟩
  have hb3 := hb2.trans (hc3.mono hb2.size)
  have ht3 := ht2.below hc3
  have hPl3 : W.heap.size < W3.heap.size := Nat.lt_of_lt_of_le hP2 hc3.size
  clear d1 d5
  obtain ⟨d0, d1, d2, d3, d4, d5, d6⟩ := ht3
  simp only [Nat.zero_add] at d0 d1 d2 d3 d4 d5 d6
  go_upto_region 34 with fail
  obtain ⟨W9, eW⟩ : ∃ W9, W9 = W3.alloc (.cells #[.pointer ch, .string s, .int .i32 0, .int .u32 0, .int .u16 0, .int .u8 30, .int .u8 ws, .bool false] 80) := ⟨_, rfl⟩
  have hb9 : Below W3.heap.size W3 W9 := by rw [eW]; exact ((Below.refl _ _).alloc (Nat.le_refl _) _)
  have hrep : Rep W9 (T < ·) (.iface 54 (.pointer (some ⟨W3.heap.size, 0, none⟩))) (.val 30 s ws false) := by
    rw [eW]
    exact .val W3.heap.size _ _ _ _ ch (Nat.lt_of_lt_of_le hTl hb3.size) (by simp [go_sem]) (by simp [go_sem]) (by simp [go_sem]) (by simp [go_sem]) (by simp [go_sem]) (by simp [go_sem]) (by simp [go_sem]) (by simp [go_sem])
  rw [← eW]
  clear eW d0 d1 d2 d3 d4 d5 d6
  have hb := hb3.trans (hb9.mono hb3.size)
  obtain ⟨y0, p0⟩ := (hrow.below hb).isCell (i * 2) (by omega)
  have pf := (hrow.below hb).fz (i * 2)
  obtain ⟨f1, f2⟩ := leaf_fin hrow hlen hi hb hrep
  have HF1 := Lib.hid f1
  have HF2 := Lib.hid f2
  clear f1 f2 hrep
  go_wp2_with fail
  exact HQ.out _ _ ⟨rfl, rfl⟩ rfl rfl rfl rfl rfl HF1.out HF2.out

set_option maxHeartbeats 8000000 in
set_option maxRecDepth 100000 in
theorem leaf_paren {d : Code} (hcode : Tryz.f30.body.bind (fb 1) = some (.block 1 d)) (p r : Act → World → Prop) (a : Act) (W : World) (b n cap i T : Nat) (tk : Nat → TK) (ts : List CT)
    (hfr : Fr a) (e0 : a.tmps[0]? = some (.slice (some ⟨b, 0, none⟩) n cap)) (e3 : a.tmps[3]? = some (.slice (some ⟨T, 0, none⟩) n n)) (e35 : a.tmps[35]? = some (.slice (some ⟨b, 0, none⟩) n cap)) (e36 : a.tmps[36]? = some (.int .i64 n)) (e37 : a.tmps[37]? = some (.int .i64 i))
    (_hn : n ≤ 4096) (hi : i < n) (htk : Toks W b n tk) (hrow : Row W (T < ·) T n ts) (hlen : ts.length = i)
    (ch : Option Addr) (s : ByteArray) (kd ws : Int) (hti : tk i = ⟨ch, s, kd, ws⟩)
    (k33 : kd = 33) (cb : Nat) (sa : Option Addr) (m cap' : Nat) (o : Option CT) (hch : ch = some ⟨cb, 0, none⟩) (hcc : W.cell? ⟨cb, 0, none⟩ = some (.slice sa m cap')) (h30 : ∀ W', Below W.heap.size W W' → Calls Tryz.prog 30 #[.slice sa m cap'] W' (Ans W' o))
    (hQ : ∀ t, o = some t → ∀ a' W', Fr a' → a'.tmps[0]? = some (.slice (some ⟨b, 0, none⟩) n cap) → a'.tmps[3]? = some (.slice (some ⟨T, 0, none⟩) n n) → a'.tmps[35]? = some (.slice (some ⟨b, 0, none⟩) n cap) → a'.tmps[36]? = some (.int .i64 n) → a'.tmps[37]? = some (.int .i64 i) → Row W' (T < ·) T n (ts ++ [t]) → Below T W W' → p a' W')
    (hR : o = none → ∀ a' W', Fr a' → a'.tmps[2]? = some .nilIface → Below T W W' → r a' W') :
    Code.wp Tryz.prog (.block 1 d) (OnNR p r) a W := by
  subst hch
  obtain ⟨xs, rfl, hx⟩ := hfr.lit
  have x0 := hx 0 _ (by omega) e0
  have x3 := hx 3 _ (by omega) e3
  have x35 := hx 35 _ (by omega) e35
  have x36 := hx 36 _ (by omega) e36
  have x37 := hx 37 _ (by omega) e37
  clear hx e0 e3 e35 e36 e37 hfr
  have key : ∀ {D : Code}, Tryz.f30.body.bind (fb 1) = some (.block 1 D) → Code.wp Tryz.prog (.block 1 D) (OnNR p r) (fr xs) W → Code.wp Tryz.prog (.block 1 d) (OnNR p r) (fr xs) W := fun e h => by
    rw [e] at hcode
    cases hcode
    exact h
  refine key rfl ?_
  clear key hcode
  subst k33
  have HQ := Lib.hid hQ
  clear hQ
  have HR := Lib.hid hR
  clear hR
  have H30 := Lib.hid h30
  clear h30
  simp only [fr, x0, x3, x35, x36, x37]
  clear x0 x3 x35 x36 x37
  have htc := htk i hi
  rw [hti] at htc
  obtain ⟨c0, c1, c2, c3, c4, c5, c6⟩ := htc
  simp only at c0 c1 c5 c6
  have hTl := hrow.lt
  have hbl : b < W.heap.size := World.block_lt_of_cell? _ _ c0
  have hii : (i : Int) < (n : Int) := by omega
  obtain ⟨W2, eW⟩ : ∃ W2, W2 = W.alloc (.cells #[.pointer (some ⟨cb, 0, none⟩), .string s, .int .i32 0, .int .u32 0, .int .u16 0, .int .u8 33, .int .u8 ws] 32) := ⟨_, rfl⟩
  have hb2 : Below W.heap.size W W2 := by rw [eW]; exact (Below.refl _ _).alloc (Nat.le_refl _) _
  have ht2 : TokAt W2 W.heap.size 0 ⟨some ⟨cb, 0, none⟩, s, 33, ws⟩ := by
    rw [eW]
    exact ⟨by simp [go_sem], by simp [go_sem], by simp [go_sem], by simp [go_sem], by simp [go_sem], by simp [go_sem], by simp [go_sem]⟩
  have hP2 : W.heap.size < W2.heap.size := by rw [eW, World.size_alloc]; omega
  have d1 : W2.cell? ⟨W.heap.size, 1, none⟩ = some (.string s) := ht2.c1
  have d5 : W2.cell? ⟨W.heap.size, 5, none⟩ = some (.int .u8 33) := ht2.c5
  go_upto_region 6 with fail
  rw [← eW]
  clear eW c0 c1 c2 c3 c4 c5 c6
  have d0 : W2.cell? ⟨W.heap.size, 0, none⟩ = some (.pointer (some ⟨cb, 0, none⟩)) := ht2.c0
  have g0 := cell_later hb2 hcc
  clear hcc
  go_wp2_with fail
  refine (H30.out W2 hb2).mono ?_
  rintro e W3 ⟨v, rfl, hc3, hv⟩
  have hb3 := hb2.trans (hc3.mono hb2.size)
  cases o with
  | none =>
    subst hv
    go_wp2_with fail
    exact HR.out (by first | rfl | trivial) _ _ ⟨rfl, rfl⟩ rfl (hb3.mono (Nat.le_of_lt hTl))
  | some t =>
    have hrep : Rep W3 (T < ·) v t := hv.weaken (fun b _ h => Nat.lt_of_lt_of_le (Nat.lt_of_lt_of_le hTl hb2.size) h)
    obtain ⟨vt, vb, rfl⟩ := hrep.form
    clear hv
    obtain ⟨y0, p0⟩ := (hrow.below hb3).isCell (i * 2) (by omega)
    have pf := (hrow.below hb3).fz (i * 2)
    obtain ⟨f1, f2⟩ := leaf_fin hrow hlen hi hb3 hrep
    have HF1 := Lib.hid f1
    have HF2 := Lib.hid f2
    clear f1 f2 hrep
    go_wp2_with fail
    exact HQ.out t rfl _ _ ⟨rfl, rfl⟩ rfl rfl rfl rfl rfl HF1.out HF2.out

set_option maxHeartbeats 8000000 in
set_option maxRecDepth 100000 in
theorem leaf_calc {d : Code} (hcode : Tryz.f30.body.bind (fb 1) = some (.block 1 d)) (p r : Act → World → Prop) (a : Act) (W : World) (b n cap i T : Nat) (tk : Nat → TK) (ts : List CT)
    (hfr : Fr a) (e0 : a.tmps[0]? = some (.slice (some ⟨b, 0, none⟩) n cap)) (e3 : a.tmps[3]? = some (.slice (some ⟨T, 0, none⟩) n n)) (e35 : a.tmps[35]? = some (.slice (some ⟨b, 0, none⟩) n cap)) (e36 : a.tmps[36]? = some (.int .i64 n)) (e37 : a.tmps[37]? = some (.int .i64 i))
    (_hn : n ≤ 4096) (hi : i < n) (htk : Toks W b n tk) (hrow : Row W (T < ·) T n ts) (hlen : ts.length = i)
    (ch : Option Addr) (s : ByteArray) (kd ws : Int) (hti : tk i = ⟨ch, s, kd, ws⟩)
    (k27 : kd = 27) (h1 : EF W s wVar false) (h2 : EF W s wCalc true) (cb : Nat) (sa : Option Addr) (m cap' : Nat) (o : Option CT) (hch : ch = some ⟨cb, 0, none⟩) (hcc : W.cell? ⟨cb, 0, none⟩ = some (.slice sa m cap')) (h30 : ∀ W', Below W.heap.size W W' → Calls Tryz.prog 30 #[.slice sa m cap'] W' (Ans W' o))
    (hQ : ∀ t, o = some t → ∀ a' W', Fr a' → a'.tmps[0]? = some (.slice (some ⟨b, 0, none⟩) n cap) → a'.tmps[3]? = some (.slice (some ⟨T, 0, none⟩) n n) → a'.tmps[35]? = some (.slice (some ⟨b, 0, none⟩) n cap) → a'.tmps[36]? = some (.int .i64 n) → a'.tmps[37]? = some (.int .i64 i) → Row W' (T < ·) T n (ts ++ [t]) → Below T W W' → p a' W')
    (hR : o = none → ∀ a' W', Fr a' → a'.tmps[2]? = some .nilIface → Below T W W' → r a' W') :
    Code.wp Tryz.prog (.block 1 d) (OnNR p r) a W := by
  subst hch
  obtain ⟨xs, rfl, hx⟩ := hfr.lit
  have x0 := hx 0 _ (by omega) e0
  have x3 := hx 3 _ (by omega) e3
  have x35 := hx 35 _ (by omega) e35
  have x36 := hx 36 _ (by omega) e36
  have x37 := hx 37 _ (by omega) e37
  clear hx e0 e3 e35 e36 e37 hfr
  have key : ∀ {D : Code}, Tryz.f30.body.bind (fb 1) = some (.block 1 D) → Code.wp Tryz.prog (.block 1 D) (OnNR p r) (fr xs) W → Code.wp Tryz.prog (.block 1 d) (OnNR p r) (fr xs) W := fun e h => by
    rw [e] at hcode
    cases hcode
    exact h
  refine key rfl ?_
  clear key hcode
  subst k27
  have HQ := Lib.hid hQ
  clear hQ
  have HR := Lib.hid hR
  clear hR
  have H1 := Lib.hid h1
  clear h1
  have H2 := Lib.hid h2
  clear h2
  have H30 := Lib.hid h30
  clear h30
  simp only [fr, x0, x3, x35, x36, x37]
  clear x0 x3 x35 x36 x37
  have htc := htk i hi
  rw [hti] at htc
  obtain ⟨c0, c1, c2, c3, c4, c5, c6⟩ := htc
  simp only at c0 c1 c5 c6
  have hTl := hrow.lt
  have hbl : b < W.heap.size := World.block_lt_of_cell? _ _ c0
  have hii : (i : Int) < (n : Int) := by omega
  obtain ⟨W2, eW⟩ : ∃ W2, W2 = W.alloc (.cells #[.pointer (some ⟨cb, 0, none⟩), .string s, .int .i32 0, .int .u32 0, .int .u16 0, .int .u8 27, .int .u8 ws] 32) := ⟨_, rfl⟩
  have hb2 : Below W.heap.size W W2 := by rw [eW]; exact (Below.refl _ _).alloc (Nat.le_refl _) _
  have ht2 : TokAt W2 W.heap.size 0 ⟨some ⟨cb, 0, none⟩, s, 27, ws⟩ := by
    rw [eW]
    exact ⟨by simp [go_sem], by simp [go_sem], by simp [go_sem], by simp [go_sem], by simp [go_sem], by simp [go_sem], by simp [go_sem]⟩
  have hP2 : W.heap.size < W2.heap.size := by rw [eW, World.size_alloc]; omega
  have d1 : W2.cell? ⟨W.heap.size, 1, none⟩ = some (.string s) := ht2.c1
  have d5 : W2.cell? ⟨W.heap.size, 5, none⟩ = some (.int .u8 27) := ht2.c5
  go_upto_region 6 with fail
  rw [← eW]
  clear eW c0 c1 c2 c3 c4 c5 c6
  go_wp2_with fail
  refine (H1.out W2 (hb2)).mono ?_
  rintro e W3 ⟨rfl, hc3⟩
  have hb3 := hb2.trans (hc3.mono hb2.size)
  have ht3 := ht2.below hc3
  have hP3 : W.heap.size < W3.heap.size := Nat.lt_of_lt_of_le hP2 hc3.size
  clear d1 d5
  have d1 : W3.cell? ⟨W.heap.size, 1, none⟩ = some (.string s) := ht3.c1
  have d5 : W3.cell? ⟨W.heap.size, 5, none⟩ = some (.int .u8 27) := ht3.c5
  go_wp2_with fail
  refine (H2.out W3 (hb3)).mono ?_
  rintro e W4 ⟨rfl, hc4⟩
  have hb4 := hb3.trans (hc4.mono hb3.size)
  have ht4 := ht3.below hc4
  have hP4 : W.heap.size < W4.heap.size := Nat.lt_of_lt_of_le hP3 hc4.size
  clear d1 d5
  have d1 : W4.cell? ⟨W.heap.size, 1, none⟩ = some (.string s) := ht4.c1
  have d5 : W4.cell? ⟨W.heap.size, 5, none⟩ = some (.int .u8 27) := ht4.c5
  have d0 : W4.cell? ⟨W.heap.size, 0, none⟩ = some (.pointer (some ⟨cb, 0, none⟩)) := ht4.c0
  have g0 := cell_later hb4 hcc
  clear hcc
  go_wp2_with fail
  refine (H30.out W4 hb4).mono ?_
  rintro e W5 ⟨v, rfl, hc5, hv⟩
  have hb5 := hb4.trans (hc5.mono hb4.size)
  cases o with
  | none =>
    subst hv
    go_wp2_with fail
    exact HR.out (by first | rfl | trivial) _ _ ⟨rfl, rfl⟩ rfl (hb5.mono (Nat.le_of_lt hTl))
  | some t =>
    have hrep : Rep W5 (T < ·) v t := hv.weaken (fun b _ h => Nat.lt_of_lt_of_le (Nat.lt_of_lt_of_le hTl hb4.size) h)
    obtain ⟨vt, vb, rfl⟩ := hrep.form
    clear hv
    obtain ⟨y0, p0⟩ := (hrow.below hb5).isCell (i * 2) (by omega)
    have pf := (hrow.below hb5).fz (i * 2)
    obtain ⟨f1, f2⟩ := leaf_fin hrow hlen hi hb5 hrep
    have HF1 := Lib.hid f1
    have HF2 := Lib.hid f2
    clear f1 f2 hrep
    go_wp2_with fail
    exact HQ.out t rfl _ _ ⟨rfl, rfl⟩ rfl rfl rfl rfl rfl HF1.out HF2.out
end Go.Proofs.YthbfppnegodpoaaGreatDoor
