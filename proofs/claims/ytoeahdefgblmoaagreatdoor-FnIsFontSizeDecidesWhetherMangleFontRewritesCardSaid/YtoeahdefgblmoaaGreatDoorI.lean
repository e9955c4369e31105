/-
  One word of mangleFont's first loop, walked.
-/
import Derived.Test.YtoeahdefgblmoaaGreatDoorU
import Derived.Test.YtoeahdefgblmoaaGreatDoorH
namespace Go.Proofs.YtoeahdefgblmoaaGreatDoor
open Go.RowKit Go.Deep Go.PlainAid Go.Maps Go.Sort

/-- A frame of this function. -/
def Fr (a : Act) : Prop := a.tmps.size = 224 ∧ a.defers = []
theorem Fr.lit {a : Act} (h : Fr a) : ∃ xs, a = fr xs ∧ ∀ i v, i < 224 → a.tmps[i]? = some v → xs i = v := act_fr a h.1 h.2

/-- What stands at the call of mangleFont. -/
structure Env (w0 : World) (T capT : Nat) (L : List TK) : Prop where
  row : RowAt w0 T capT L
  kw : MapAt w0 0 KW
  gf : MapAt w0 1 GF
  tabs : Tabs w0

/-- What the loop's block is entered with. -/
structure Ent (a : Act) (W w0 : World) (p : Value) (T n cap k : Nat) (l : List TK) (a5 : Option Addr) (c5 : Nat) : Prop where
  fr : Fr a
  e0 : a.tmps[0]? = some p
  e1 : a.tmps[1]? = some (.slice (some ⟨T, 0, none⟩) n cap)
  e5 : a.tmps[5]? = some (.slice a5 l.length c5)
  e6 : a.tmps[6]? = some (.int .i64 (k : Int))
  own : W.ownsRow w0.heap.size 31 7 (.slice a5 l.length c5) l.length (rowT l)
  bel : Below w0.heap.size w0 W


set_option maxHeartbeats 4000000 in
set_option maxRecDepth 100000 in
theorem italic_wp {d : Code} (hcode : Tryz.f17.body.bind (fb 1) = some (.block 1 d)) (Q : Exit → Act → World → Prop) (a : Act) (W w0 : World) (p : Value) (T capT n cap k : Nat) (L l : List TK) (a5 : Option Addr) (c5 : Nat) (s lw : ByteArray) (ws : Int)
    (hE : Env w0 T capT L) (ha : Ent a W w0 p T n cap k l a5 c5) (hn : n = L.length) (hk : k < n) (hkt : L[k]? = some ⟨29, s, ws⟩) (hL : Low s lw) (hz : isSz 29 lw = false) (hl : l.length ≤ 10000) (hx : lw.toList = [105, 116, 97, 108, 105, 99])
    (hQ : ∀ a' W' a5' c5', Ent a' W' w0 p T n cap k (l ++ [⟨29, s, ws⟩]) a5' c5' → Q .normal a' W') : Code.wp Tryz.prog (.block 1 d) Q a W := by
  have key : ∀ {D : Code}, Tryz.f17.body.bind (fb 1) = some (.block 1 D) → Code.wp Tryz.prog (.block 1 D) Q a W → Code.wp Tryz.prog (.block 1 d) Q a W := fun e h => by
    rw [e] at hcode
    cases hcode
    exact h
  refine key rfl ?_
  clear key hcode
  obtain ⟨hfr, e0, e1, e5, e6, hown, hbel⟩ := ha
  obtain ⟨xs, rfl, hxs⟩ := hfr.lit
  have x0 := hxs 0 _ (by omega) e0
  have x1 := hxs 1 _ (by omega) e1
  have x5 := hxs 5 _ (by omega) e5
  have x6 := hxs 6 _ (by omega) e6
  clear hxs e0 e1 e5 e6 hfr
  simp only [fr, x0, x1, x5, x6]
  clear x0 x1 x5 x6
  have HQ := Lib.hid hQ
  have HE := Lib.hid hE
  have HO := Lib.hid hown
  have HB := Lib.hid hbel
  have HL := Lib.hid hL
  have HN := Lib.hid hn
  obtain ⟨hkl, hke⟩ := List.getElem?_eq_some_iff.1 hkt
  obtain ⟨p0, p1, p2, p3, p4, p5, p6⟩ := (hE.row.below hbel hE.row.lt).cells k hkl
  rw [hke] at p1 p5 p6
  dsimp only at p1 p5 p6
  have hkn : (k : Int) < (n : Int) := by omega
  have hbs := hbel.size
  have hTl := hE.row.lt
  clear hQ hE hown hbel hL hn hke hkl hkt
  go_upto_region 6 with fail
  obtain ⟨W2, eW⟩ : ∃ W2, W2 = W.alloc (.cells #[.pointer none, .string s, .int .i32 0, .int .u32 0, .int .u16 0, .int .u8 29, .int .u8 ws] 31) := ⟨_, rfl⟩
  have hA : Box W2 W.heap.size ⟨29, s, ws⟩ := by rw [eW]; exact Box.made W ⟨29, s, ws⟩
  have hB2 : Below W.heap.size W W2 := by rw [eW]; exact (Below.refl _ _).alloc (Nat.le_refl _) _
  rw [← eW]
  clear eW p0 p1 p2 p3 p4 p5 p6
  have HA := Lib.hid hA
  have HB2 := Lib.hid hB2
  obtain ⟨t0, t1, t2, t3, t4, t5, t6, tf⟩ := hA
  dsimp only at t1 t5 t6
  clear hB2
  go_wp2_with fail
  refine (fontsize_any ⟨29, s, ws⟩ lw (fun _ => HL.out) W2 (HE.out.kw.below (HB.out.trans (HB2.out.mono hbs)))).mono ?_
  rintro e w1 ⟨rfl, hb1⟩
  rw [hz]
  have HA1 := Lib.hid (HA.out.later hb1)
  have HB1 := Lib.hid (HB2.out.trans (hb1.mono HB2.out.size))
  clear hb1 t0 t1 t2 t3 t4 t5 t6 tf HA HB2
  obtain ⟨t0, t1, t2, t3, t4, t5, t6, tf⟩ := HA1.out
  dsimp only at t1 t5 t6
  go_wp2_with fail
  refine (low_any HL.out _).mono ?_
  rintro e w2 ⟨rfl, hb2⟩
  have HA2 := Lib.hid (HA1.out.later hb2)
  have HB2 := Lib.hid (HB1.out.trans (hb2.mono HB1.out.size))
  clear hb2 t0 t1 t2 t3 t4 t5 t6 tf HA1 HB1
  obtain ⟨t0, t1, t2, t3, t4, t5, t6, tf⟩ := HA2.out
  dsimp only at t1 t5 t6
  have hs2 := HB2.out.size
  have HO2 := Lib.hid (own_later HO.out HB2.out)
  have HBB := Lib.hid (HB.out.trans (HB2.out.mono hbs))
  clear HO HB
  go_wp2_with (first
    | (refine wpList_append_tok w2 rfl (.tmp 84) (.tmp 86) rfl w0.heap.size (.slice a5 l.length c5) l ⟨29, s, ws⟩ rfl HO2.out rfl (by omega) (by omega) ?_
       intro a' c' w9 hown9 hgr9
       have HO9 := Lib.hid hown9
       have HG9 := Lib.hid hgr9
       clear hown9 hgr9)
    | fail)
  have el : (l ++ [(⟨29, s, ws⟩ : TK)]).length = l.length + 1 := by rw [List.length_append]; rfl
  refine HQ.out _ w9 a' c' ⟨⟨rfl, rfl⟩, rfl, rfl, by rw [el]; rfl, rfl, ?_, ?_⟩
  · have h := HO9.out
    rw [el] at h ⊢
    exact h
  · exact HBB.out.trans (below_grown (w := w2) ((Below.refl _ _).alloc (by omega) _) HG9.out HO2.out (by omega))

set_option maxHeartbeats 4000000 in
set_option maxRecDepth 100000 in
theorem caps_wp {d : Code} (hcode : Tryz.f17.body.bind (fb 1) = some (.block 1 d)) (Q : Exit → Act → World → Prop) (a : Act) (W w0 : World) (p : Value) (T capT n cap k : Nat) (L l : List TK) (a5 : Option Addr) (c5 : Nat) (s lw : ByteArray) (ws : Int)
    (hE : Env w0 T capT L) (ha : Ent a W w0 p T n cap k l a5 c5) (hn : n = L.length) (hk : k < n) (hkt : L[k]? = some ⟨29, s, ws⟩) (hL : Low s lw) (hz : isSz 29 lw = false) (hl : l.length ≤ 10000) (hx : lw.toList = [115, 109, 97, 108, 108, 45, 99, 97, 112, 115])
    (hQ : ∀ a' W' a5' c5', Ent a' W' w0 p T n cap k (l ++ [⟨29, s, ws⟩]) a5' c5' → Q .normal a' W') : Code.wp Tryz.prog (.block 1 d) Q a W := by
  have key : ∀ {D : Code}, Tryz.f17.body.bind (fb 1) = some (.block 1 D) → Code.wp Tryz.prog (.block 1 D) Q a W → Code.wp Tryz.prog (.block 1 d) Q a W := fun e h => by
    rw [e] at hcode
    cases hcode
    exact h
  refine key rfl ?_
  clear key hcode
  obtain ⟨hfr, e0, e1, e5, e6, hown, hbel⟩ := ha
  obtain ⟨xs, rfl, hxs⟩ := hfr.lit
  have x0 := hxs 0 _ (by omega) e0
  have x1 := hxs 1 _ (by omega) e1
  have x5 := hxs 5 _ (by omega) e5
  have x6 := hxs 6 _ (by omega) e6
  clear hxs e0 e1 e5 e6 hfr
  simp only [fr, x0, x1, x5, x6]
  clear x0 x1 x5 x6
  have HQ := Lib.hid hQ
  have HE := Lib.hid hE
  have HO := Lib.hid hown
  have HB := Lib.hid hbel
  have HL := Lib.hid hL
  have HN := Lib.hid hn
  obtain ⟨hkl, hke⟩ := List.getElem?_eq_some_iff.1 hkt
  obtain ⟨p0, p1, p2, p3, p4, p5, p6⟩ := (hE.row.below hbel hE.row.lt).cells k hkl
  rw [hke] at p1 p5 p6
  dsimp only at p1 p5 p6
  have hkn : (k : Int) < (n : Int) := by omega
  have hbs := hbel.size
  have hTl := hE.row.lt
  clear hQ hE hown hbel hL hn hke hkl hkt
  go_upto_region 6 with fail
  obtain ⟨W2, eW⟩ : ∃ W2, W2 = W.alloc (.cells #[.pointer none, .string s, .int .i32 0, .int .u32 0, .int .u16 0, .int .u8 29, .int .u8 ws] 31) := ⟨_, rfl⟩
  have hA : Box W2 W.heap.size ⟨29, s, ws⟩ := by rw [eW]; exact Box.made W ⟨29, s, ws⟩
  have hB2 : Below W.heap.size W W2 := by rw [eW]; exact (Below.refl _ _).alloc (Nat.le_refl _) _
  rw [← eW]
  clear eW p0 p1 p2 p3 p4 p5 p6
  have HA := Lib.hid hA
  have HB2 := Lib.hid hB2
  obtain ⟨t0, t1, t2, t3, t4, t5, t6, tf⟩ := hA
  dsimp only at t1 t5 t6
  clear hB2
  go_wp2_with fail
  refine (fontsize_any ⟨29, s, ws⟩ lw (fun _ => HL.out) W2 (HE.out.kw.below (HB.out.trans (HB2.out.mono hbs)))).mono ?_
  rintro e w1 ⟨rfl, hb1⟩
  rw [hz]
  have HA1 := Lib.hid (HA.out.later hb1)
  have HB1 := Lib.hid (HB2.out.trans (hb1.mono HB2.out.size))
  clear hb1 t0 t1 t2 t3 t4 t5 t6 tf HA HB2
  obtain ⟨t0, t1, t2, t3, t4, t5, t6, tf⟩ := HA1.out
  dsimp only at t1 t5 t6
  go_wp2_with fail
  refine (low_any HL.out _).mono ?_
  rintro e w2 ⟨rfl, hb2⟩
  have HA2 := Lib.hid (HA1.out.later hb2)
  have HB2 := Lib.hid (HB1.out.trans (hb2.mono HB1.out.size))
  clear hb2 t0 t1 t2 t3 t4 t5 t6 tf HA1 HB1
  obtain ⟨t0, t1, t2, t3, t4, t5, t6, tf⟩ := HA2.out
  dsimp only at t1 t5 t6
  have hs2 := HB2.out.size
  have HO2 := Lib.hid (own_later HO.out HB2.out)
  have HBB := Lib.hid (HB.out.trans (HB2.out.mono hbs))
  clear HO HB
  go_wp2_with (first
    | (refine wpList_append_tok w2 rfl (.tmp 84) (.tmp 86) rfl w0.heap.size (.slice a5 l.length c5) l ⟨29, s, ws⟩ rfl HO2.out rfl (by omega) (by omega) ?_
       intro a' c' w9 hown9 hgr9
       have HO9 := Lib.hid hown9
       have HG9 := Lib.hid hgr9
       clear hown9 hgr9)
    | fail)
  have el : (l ++ [(⟨29, s, ws⟩ : TK)]).length = l.length + 1 := by rw [List.length_append]; rfl
  refine HQ.out _ w9 a' c' ⟨⟨rfl, rfl⟩, rfl, rfl, by rw [el]; rfl, rfl, ?_, ?_⟩
  · have h := HO9.out
    rw [el] at h ⊢
    exact h
  · exact HBB.out.trans (below_grown (w := w2) ((Below.refl _ _).alloc (by omega) _) HG9.out HO2.out (by omega))

set_option maxHeartbeats 4000000 in
set_option maxRecDepth 100000 in
theorem condensed_wp {d : Code} (hcode : Tryz.f17.body.bind (fb 1) = some (.block 1 d)) (Q : Exit → Act → World → Prop) (a : Act) (W w0 : World) (p : Value) (T capT n cap k : Nat) (L l : List TK) (a5 : Option Addr) (c5 : Nat) (s lw : ByteArray) (ws : Int)
    (hE : Env w0 T capT L) (ha : Ent a W w0 p T n cap k l a5 c5) (hn : n = L.length) (hk : k < n) (hkt : L[k]? = some ⟨29, s, ws⟩) (hL : Low s lw) (hz : isSz 29 lw = false) (hl : l.length ≤ 10000) (hx : lw.toList = [99, 111, 110, 100, 101, 110, 115, 101, 100])
    (hQ : ∀ a' W' a5' c5', Ent a' W' w0 p T n cap k (l ++ [⟨29, s, ws⟩]) a5' c5' → Q .normal a' W') : Code.wp Tryz.prog (.block 1 d) Q a W := by
  have key : ∀ {D : Code}, Tryz.f17.body.bind (fb 1) = some (.block 1 D) → Code.wp Tryz.prog (.block 1 D) Q a W → Code.wp Tryz.prog (.block 1 d) Q a W := fun e h => by
    rw [e] at hcode
    cases hcode
    exact h
  refine key rfl ?_
  clear key hcode
  obtain ⟨hfr, e0, e1, e5, e6, hown, hbel⟩ := ha
  obtain ⟨xs, rfl, hxs⟩ := hfr.lit
  have x0 := hxs 0 _ (by omega) e0
  have x1 := hxs 1 _ (by omega) e1
  have x5 := hxs 5 _ (by omega) e5
  have x6 := hxs 6 _ (by omega) e6
  clear hxs e0 e1 e5 e6 hfr
  simp only [fr, x0, x1, x5, x6]
  clear x0 x1 x5 x6
  have HQ := Lib.hid hQ
  have HE := Lib.hid hE
  have HO := Lib.hid hown
  have HB := Lib.hid hbel
  have HL := Lib.hid hL
  have HN := Lib.hid hn
  obtain ⟨hkl, hke⟩ := List.getElem?_eq_some_iff.1 hkt
  obtain ⟨p0, p1, p2, p3, p4, p5, p6⟩ := (hE.row.below hbel hE.row.lt).cells k hkl
  rw [hke] at p1 p5 p6
  dsimp only at p1 p5 p6
  have hkn : (k : Int) < (n : Int) := by omega
  have hbs := hbel.size
  have hTl := hE.row.lt
  clear hQ hE hown hbel hL hn hke hkl hkt
  go_upto_region 6 with fail
  obtain ⟨W2, eW⟩ : ∃ W2, W2 = W.alloc (.cells #[.pointer none, .string s, .int .i32 0, .int .u32 0, .int .u16 0, .int .u8 29, .int .u8 ws] 31) := ⟨_, rfl⟩
  have hA : Box W2 W.heap.size ⟨29, s, ws⟩ := by rw [eW]; exact Box.made W ⟨29, s, ws⟩
  have hB2 : Below W.heap.size W W2 := by rw [eW]; exact (Below.refl _ _).alloc (Nat.le_refl _) _
  rw [← eW]
  clear eW p0 p1 p2 p3 p4 p5 p6
  have HA := Lib.hid hA
  have HB2 := Lib.hid hB2
  obtain ⟨t0, t1, t2, t3, t4, t5, t6, tf⟩ := hA
  dsimp only at t1 t5 t6
  clear hB2
  go_wp2_with fail
  refine (fontsize_any ⟨29, s, ws⟩ lw (fun _ => HL.out) W2 (HE.out.kw.below (HB.out.trans (HB2.out.mono hbs)))).mono ?_
  rintro e w1 ⟨rfl, hb1⟩
  rw [hz]
  have HA1 := Lib.hid (HA.out.later hb1)
  have HB1 := Lib.hid (HB2.out.trans (hb1.mono HB2.out.size))
  clear hb1 t0 t1 t2 t3 t4 t5 t6 tf HA HB2
  obtain ⟨t0, t1, t2, t3, t4, t5, t6, tf⟩ := HA1.out
  dsimp only at t1 t5 t6
  go_wp2_with fail
  refine (low_any HL.out _).mono ?_
  rintro e w2 ⟨rfl, hb2⟩
  have HA2 := Lib.hid (HA1.out.later hb2)
  have HB2 := Lib.hid (HB1.out.trans (hb2.mono HB1.out.size))
  clear hb2 t0 t1 t2 t3 t4 t5 t6 tf HA1 HB1
  obtain ⟨t0, t1, t2, t3, t4, t5, t6, tf⟩ := HA2.out
  dsimp only at t1 t5 t6
  have hs2 := HB2.out.size
  have HO2 := Lib.hid (own_later HO.out HB2.out)
  have HBB := Lib.hid (HB.out.trans (HB2.out.mono hbs))
  clear HO HB
  go_wp2_with (first
    | (refine wpList_append_tok w2 rfl (.tmp 84) (.tmp 86) rfl w0.heap.size (.slice a5 l.length c5) l ⟨29, s, ws⟩ rfl HO2.out rfl (by omega) (by omega) ?_
       intro a' c' w9 hown9 hgr9
       have HO9 := Lib.hid hown9
       have HG9 := Lib.hid hgr9
       clear hown9 hgr9)
    | fail)
  have el : (l ++ [(⟨29, s, ws⟩ : TK)]).length = l.length + 1 := by rw [List.length_append]; rfl
  refine HQ.out _ w9 a' c' ⟨⟨rfl, rfl⟩, rfl, rfl, by rw [el]; rfl, rfl, ?_, ?_⟩
  · have h := HO9.out
    rw [el] at h ⊢
    exact h
  · exact HBB.out.trans (below_grown (w := w2) ((Below.refl _ _).alloc (by omega) _) HG9.out HO2.out (by omega))

set_option maxHeartbeats 4000000 in
set_option maxRecDepth 100000 in
theorem ultra_wp {d : Code} (hcode : Tryz.f17.body.bind (fb 1) = some (.block 1 d)) (Q : Exit → Act → World → Prop) (a : Act) (W w0 : World) (p : Value) (T capT n cap k : Nat) (L l : List TK) (a5 : Option Addr) (c5 : Nat) (s lw : ByteArray) (ws : Int)
    (hE : Env w0 T capT L) (ha : Ent a W w0 p T n cap k l a5 c5) (hn : n = L.length) (hk : k < n) (hkt : L[k]? = some ⟨29, s, ws⟩) (hL : Low s lw) (hz : isSz 29 lw = false) (hl : l.length ≤ 10000) (hx : lw.toList = [117, 108, 116, 114, 97, 45, 101, 120, 112, 97, 110, 100, 101, 100])
    (hQ : ∀ a' W' a5' c5', Ent a' W' w0 p T n cap k (l ++ [⟨29, s, ws⟩]) a5' c5' → Q .normal a' W') : Code.wp Tryz.prog (.block 1 d) Q a W := by
  have key : ∀ {D : Code}, Tryz.f17.body.bind (fb 1) = some (.block 1 D) → Code.wp Tryz.prog (.block 1 D) Q a W → Code.wp Tryz.prog (.block 1 d) Q a W := fun e h => by
    rw [e] at hcode
    cases hcode
    exact h
  refine key rfl ?_
  clear key hcode
  obtain ⟨hfr, e0, e1, e5, e6, hown, hbel⟩ := ha
  obtain ⟨xs, rfl, hxs⟩ := hfr.lit
  have x0 := hxs 0 _ (by omega) e0
  have x1 := hxs 1 _ (by omega) e1
  have x5 := hxs 5 _ (by omega) e5
  have x6 := hxs 6 _ (by omega) e6
  clear hxs e0 e1 e5 e6 hfr
  simp only [fr, x0, x1, x5, x6]
  clear x0 x1 x5 x6
  have HQ := Lib.hid hQ
  have HE := Lib.hid hE
  have HO := Lib.hid hown
  have HB := Lib.hid hbel
  have HL := Lib.hid hL
  have HN := Lib.hid hn
  obtain ⟨hkl, hke⟩ := List.getElem?_eq_some_iff.1 hkt
  obtain ⟨p0, p1, p2, p3, p4, p5, p6⟩ := (hE.row.below hbel hE.row.lt).cells k hkl
  rw [hke] at p1 p5 p6
  dsimp only at p1 p5 p6
  have hkn : (k : Int) < (n : Int) := by omega
  have hbs := hbel.size
  have hTl := hE.row.lt
  clear hQ hE hown hbel hL hn hke hkl hkt
  go_upto_region 6 with fail
  obtain ⟨W2, eW⟩ : ∃ W2, W2 = W.alloc (.cells #[.pointer none, .string s, .int .i32 0, .int .u32 0, .int .u16 0, .int .u8 29, .int .u8 ws] 31) := ⟨_, rfl⟩
  have hA : Box W2 W.heap.size ⟨29, s, ws⟩ := by rw [eW]; exact Box.made W ⟨29, s, ws⟩
  have hB2 : Below W.heap.size W W2 := by rw [eW]; exact (Below.refl _ _).alloc (Nat.le_refl _) _
  rw [← eW]
  clear eW p0 p1 p2 p3 p4 p5 p6
  have HA := Lib.hid hA
  have HB2 := Lib.hid hB2
  obtain ⟨t0, t1, t2, t3, t4, t5, t6, tf⟩ := hA
  dsimp only at t1 t5 t6
  clear hB2
  go_wp2_with fail
  refine (fontsize_any ⟨29, s, ws⟩ lw (fun _ => HL.out) W2 (HE.out.kw.below (HB.out.trans (HB2.out.mono hbs)))).mono ?_
  rintro e w1 ⟨rfl, hb1⟩
  rw [hz]
  have HA1 := Lib.hid (HA.out.later hb1)
  have HB1 := Lib.hid (HB2.out.trans (hb1.mono HB2.out.size))
  clear hb1 t0 t1 t2 t3 t4 t5 t6 tf HA HB2
  obtain ⟨t0, t1, t2, t3, t4, t5, t6, tf⟩ := HA1.out
  dsimp only at t1 t5 t6
  go_wp2_with fail
  refine (low_any HL.out _).mono ?_
  rintro e w2 ⟨rfl, hb2⟩
  have HA2 := Lib.hid (HA1.out.later hb2)
  have HB2 := Lib.hid (HB1.out.trans (hb2.mono HB1.out.size))
  clear hb2 t0 t1 t2 t3 t4 t5 t6 tf HA1 HB1
  obtain ⟨t0, t1, t2, t3, t4, t5, t6, tf⟩ := HA2.out
  dsimp only at t1 t5 t6
  have hs2 := HB2.out.size
  have HO2 := Lib.hid (own_later HO.out HB2.out)
  have HBB := Lib.hid (HB.out.trans (HB2.out.mono hbs))
  clear HO HB
  go_wp2_with (first
    | (refine wpList_append_tok w2 rfl (.tmp 84) (.tmp 86) rfl w0.heap.size (.slice a5 l.length c5) l ⟨29, s, ws⟩ rfl HO2.out rfl (by omega) (by omega) ?_
       intro a' c' w9 hown9 hgr9
       have HO9 := Lib.hid hown9
       have HG9 := Lib.hid hgr9
       clear hown9 hgr9)
    | fail)
  have el : (l ++ [(⟨29, s, ws⟩ : TK)]).length = l.length + 1 := by rw [List.length_append]; rfl
  refine HQ.out _ w9 a' c' ⟨⟨rfl, rfl⟩, rfl, rfl, by rw [el]; rfl, rfl, ?_, ?_⟩
  · have h := HO9.out
    rw [el] at h ⊢
    exact h
  · exact HBB.out.trans (below_grown (w := w2) ((Below.refl _ _).alloc (by omega) _) HG9.out HO2.out (by omega))

set_option maxHeartbeats 4000000 in
set_option maxRecDepth 100000 in
theorem normal_wp {d : Code} (hcode : Tryz.f17.body.bind (fb 1) = some (.block 1 d)) (Q : Exit → Act → World → Prop) (a : Act) (W w0 : World) (p : Value) (T capT n cap k : Nat) (L l : List TK) (a5 : Option Addr) (c5 : Nat) (s lw : ByteArray) (ws : Int)
    (hE : Env w0 T capT L) (ha : Ent a W w0 p T n cap k l a5 c5) (hn : n = L.length) (hk : k < n) (hkt : L[k]? = some ⟨29, s, ws⟩) (hL : Low s lw) (hz : isSz 29 lw = false) (hx : lw.toList = [110, 111, 114, 109, 97, 108])
    (hQ : ∀ a' W' a5' c5', Ent a' W' w0 p T n cap k (l ++ []) a5' c5' → Q .normal a' W') : Code.wp Tryz.prog (.block 1 d) Q a W := by
  have key : ∀ {D : Code}, Tryz.f17.body.bind (fb 1) = some (.block 1 D) → Code.wp Tryz.prog (.block 1 D) Q a W → Code.wp Tryz.prog (.block 1 d) Q a W := fun e h => by
    rw [e] at hcode
    cases hcode
    exact h
  refine key rfl ?_
  clear key hcode
  obtain ⟨hfr, e0, e1, e5, e6, hown, hbel⟩ := ha
  obtain ⟨xs, rfl, hxs⟩ := hfr.lit
  have x0 := hxs 0 _ (by omega) e0
  have x1 := hxs 1 _ (by omega) e1
  have x5 := hxs 5 _ (by omega) e5
  have x6 := hxs 6 _ (by omega) e6
  clear hxs e0 e1 e5 e6 hfr
  simp only [fr, x0, x1, x5, x6]
  clear x0 x1 x5 x6
  have HQ := Lib.hid hQ
  have HE := Lib.hid hE
  have HO := Lib.hid hown
  have HB := Lib.hid hbel
  have HL := Lib.hid hL
  have HN := Lib.hid hn
  obtain ⟨hkl, hke⟩ := List.getElem?_eq_some_iff.1 hkt
  obtain ⟨p0, p1, p2, p3, p4, p5, p6⟩ := (hE.row.below hbel hE.row.lt).cells k hkl
  rw [hke] at p1 p5 p6
  dsimp only at p1 p5 p6
  have hkn : (k : Int) < (n : Int) := by omega
  have hbs := hbel.size
  have hTl := hE.row.lt
  clear hQ hE hown hbel hL hn hke hkl hkt
  go_upto_region 6 with fail
  obtain ⟨W2, eW⟩ : ∃ W2, W2 = W.alloc (.cells #[.pointer none, .string s, .int .i32 0, .int .u32 0, .int .u16 0, .int .u8 29, .int .u8 ws] 31) := ⟨_, rfl⟩
  have hA : Box W2 W.heap.size ⟨29, s, ws⟩ := by rw [eW]; exact Box.made W ⟨29, s, ws⟩
  have hB2 : Below W.heap.size W W2 := by rw [eW]; exact (Below.refl _ _).alloc (Nat.le_refl _) _
  rw [← eW]
  clear eW p0 p1 p2 p3 p4 p5 p6
  have HA := Lib.hid hA
  have HB2 := Lib.hid hB2
  obtain ⟨t0, t1, t2, t3, t4, t5, t6, tf⟩ := hA
  dsimp only at t1 t5 t6
  clear hB2
  go_wp2_with fail
  refine (fontsize_any ⟨29, s, ws⟩ lw (fun _ => HL.out) W2 (HE.out.kw.below (HB.out.trans (HB2.out.mono hbs)))).mono ?_
  rintro e w1 ⟨rfl, hb1⟩
  rw [hz]
  have HA1 := Lib.hid (HA.out.later hb1)
  have HB1 := Lib.hid (HB2.out.trans (hb1.mono HB2.out.size))
  clear hb1 t0 t1 t2 t3 t4 t5 t6 tf HA HB2
  obtain ⟨t0, t1, t2, t3, t4, t5, t6, tf⟩ := HA1.out
  dsimp only at t1 t5 t6
  go_wp2_with fail
  refine (low_any HL.out _).mono ?_
  rintro e w2 ⟨rfl, hb2⟩
  have HA2 := Lib.hid (HA1.out.later hb2)
  have HB2 := Lib.hid (HB1.out.trans (hb2.mono HB1.out.size))
  clear hb2 t0 t1 t2 t3 t4 t5 t6 tf HA1 HB1
  obtain ⟨t0, t1, t2, t3, t4, t5, t6, tf⟩ := HA2.out
  dsimp only at t1 t5 t6
  have hs2 := HB2.out.size
  have HO2 := Lib.hid (own_later HO.out HB2.out)
  have HBB := Lib.hid (HB.out.trans (HB2.out.mono hbs))
  clear HO HB
  go_wp2_with fail
  refine HQ.out _ w2 a5 c5 ⟨⟨rfl, rfl⟩, rfl, rfl, by rw [List.append_nil]; rfl, rfl, ?_, HBB.out⟩
  rw [List.append_nil]
  exact HO2.out

set_option maxHeartbeats 4000000 in
set_option maxRecDepth 100000 in
theorem bold_wp {d : Code} (hcode : Tryz.f17.body.bind (fb 1) = some (.block 1 d)) (Q : Exit → Act → World → Prop) (a : Act) (W w0 : World) (p : Value) (T capT n cap k : Nat) (L l : List TK) (a5 : Option Addr) (c5 : Nat) (s lw : ByteArray) (ws : Int)
    (hE : Env w0 T capT L) (ha : Ent a W w0 p T n cap k l a5 c5) (hn : n = L.length) (hk : k < n) (hkt : L[k]? = some ⟨29, s, ws⟩) (hL : Low s lw) (hz : isSz 29 lw = false) (hl : l.length ≤ 10000) (hx : lw.toList = [98, 111, 108, 100])
    (hQ : ∀ a' W' a5' c5', Ent a' W' w0 p T n cap k (l ++ [wtT lw ⟨29, s, ws⟩]) a5' c5' → Q .normal a' W') : Code.wp Tryz.prog (.block 1 d) Q a W := by
  have key : ∀ {D : Code}, Tryz.f17.body.bind (fb 1) = some (.block 1 D) → Code.wp Tryz.prog (.block 1 D) Q a W → Code.wp Tryz.prog (.block 1 d) Q a W := fun e h => by
    rw [e] at hcode
    cases hcode
    exact h
  refine key rfl ?_
  clear key hcode
  obtain ⟨hfr, e0, e1, e5, e6, hown, hbel⟩ := ha
  obtain ⟨xs, rfl, hxs⟩ := hfr.lit
  have x0 := hxs 0 _ (by omega) e0
  have x1 := hxs 1 _ (by omega) e1
  have x5 := hxs 5 _ (by omega) e5
  have x6 := hxs 6 _ (by omega) e6
  clear hxs e0 e1 e5 e6 hfr
  simp only [fr, x0, x1, x5, x6]
  clear x0 x1 x5 x6
  have HQ := Lib.hid hQ
  have HE := Lib.hid hE
  have HO := Lib.hid hown
  have HB := Lib.hid hbel
  have HL := Lib.hid hL
  have HN := Lib.hid hn
  obtain ⟨hkl, hke⟩ := List.getElem?_eq_some_iff.1 hkt
  obtain ⟨p0, p1, p2, p3, p4, p5, p6⟩ := (hE.row.below hbel hE.row.lt).cells k hkl
  rw [hke] at p1 p5 p6
  dsimp only at p1 p5 p6
  have hkn : (k : Int) < (n : Int) := by omega
  have hbs := hbel.size
  have hTl := hE.row.lt
  clear hQ hE hown hbel hL hn hke hkl hkt
  go_upto_region 6 with fail
  obtain ⟨W2, eW⟩ : ∃ W2, W2 = W.alloc (.cells #[.pointer none, .string s, .int .i32 0, .int .u32 0, .int .u16 0, .int .u8 29, .int .u8 ws] 31) := ⟨_, rfl⟩
  have hA : Box W2 W.heap.size ⟨29, s, ws⟩ := by rw [eW]; exact Box.made W ⟨29, s, ws⟩
  have hB2 : Below W.heap.size W W2 := by rw [eW]; exact (Below.refl _ _).alloc (Nat.le_refl _) _
  rw [← eW]
  clear eW p0 p1 p2 p3 p4 p5 p6
  have HA := Lib.hid hA
  have HB2 := Lib.hid hB2
  obtain ⟨t0, t1, t2, t3, t4, t5, t6, tf⟩ := hA
  dsimp only at t1 t5 t6
  clear hB2
  go_wp2_with fail
  refine (fontsize_any ⟨29, s, ws⟩ lw (fun _ => HL.out) W2 (HE.out.kw.below (HB.out.trans (HB2.out.mono hbs)))).mono ?_
  rintro e w1 ⟨rfl, hb1⟩
  rw [hz]
  have HA1 := Lib.hid (HA.out.later hb1)
  have HB1 := Lib.hid (HB2.out.trans (hb1.mono HB2.out.size))
  clear hb1 t0 t1 t2 t3 t4 t5 t6 tf HA HB2
  obtain ⟨t0, t1, t2, t3, t4, t5, t6, tf⟩ := HA1.out
  dsimp only at t1 t5 t6
  go_wp2_with fail
  refine (low_any HL.out _).mono ?_
  rintro e w2 ⟨rfl, hb2⟩
  have HA2 := Lib.hid (HA1.out.later hb2)
  have HB2 := Lib.hid (HB1.out.trans (hb2.mono HB1.out.size))
  clear hb2 t0 t1 t2 t3 t4 t5 t6 tf HA1 HB1
  obtain ⟨t0, t1, t2, t3, t4, t5, t6, tf⟩ := HA2.out
  dsimp only at t1 t5 t6
  have hs2 := HB2.out.size
  have HO2 := Lib.hid (own_later HO.out HB2.out)
  have HBB := Lib.hid (HB.out.trans (HB2.out.mono hbs))
  clear HO HB
  have HNW := Lib.hid (show lw.toList ≠ [110, 111, 114, 109, 97, 108] by rw [hx]; decide)
  go_wp2_with fail
  refine (weight_any p s lw ws HL.out HNW.out w2).mono ?_
  rintro e w3 ⟨rfl, hb3⟩
  obtain ⟨tk, etk⟩ : ∃ tk, tk = wtT lw ⟨29, s, ws⟩ := ⟨_, rfl⟩
  rw [← etk]
  have HTK := Lib.hid etk
  have HO3 := Lib.hid (own_later HO2.out hb3)
  have HB3 := Lib.hid (HBB.out.trans (hb3.mono HBB.out.size))
  have hs3 := HB3.out.size
  clear hb3 t0 t1 t2 t3 t4 t5 t6 tf HA2 etk
  go_wp2_with (first
    | (refine wpList_append_tok w3 rfl (.tmp 69) (.tmp 73) rfl w0.heap.size (.slice a5 l.length c5) l tk rfl HO3.out rfl (by omega) (by omega) ?_
       intro a' c' w9 hown9 hgr9
       have HO9 := Lib.hid hown9
       have HG9 := Lib.hid hgr9
       clear hown9 hgr9)
    | fail)
  rw [← HTK.out] at HQ
  have el : (l ++ [(tk : TK)]).length = l.length + 1 := by rw [List.length_append]; rfl
  refine HQ.out _ w9 a' c' ⟨⟨rfl, rfl⟩, rfl, rfl, by rw [el]; rfl, rfl, ?_, ?_⟩
  · have h := HO9.out
    rw [el] at h ⊢
    exact h
  · exact HB3.out.trans (below_grown (w := w3) ((Below.refl _ _).alloc (by omega) _) HG9.out HO3.out (by omega))

set_option maxHeartbeats 4000000 in
set_option maxRecDepth 100000 in
theorem bolder_wp {d : Code} (hcode : Tryz.f17.body.bind (fb 1) = some (.block 1 d)) (Q : Exit → Act → World → Prop) (a : Act) (W w0 : World) (p : Value) (T capT n cap k : Nat) (L l : List TK) (a5 : Option Addr) (c5 : Nat) (s lw : ByteArray) (ws : Int)
    (hE : Env w0 T capT L) (ha : Ent a W w0 p T n cap k l a5 c5) (hn : n = L.length) (hk : k < n) (hkt : L[k]? = some ⟨29, s, ws⟩) (hL : Low s lw) (hz : isSz 29 lw = false) (hl : l.length ≤ 10000) (hx : lw.toList = [98, 111, 108, 100, 101, 114])
    (hQ : ∀ a' W' a5' c5', Ent a' W' w0 p T n cap k (l ++ [wtT lw ⟨29, s, ws⟩]) a5' c5' → Q .normal a' W') : Code.wp Tryz.prog (.block 1 d) Q a W := by
  have key : ∀ {D : Code}, Tryz.f17.body.bind (fb 1) = some (.block 1 D) → Code.wp Tryz.prog (.block 1 D) Q a W → Code.wp Tryz.prog (.block 1 d) Q a W := fun e h => by
    rw [e] at hcode
    cases hcode
    exact h
  refine key rfl ?_
  clear key hcode
  obtain ⟨hfr, e0, e1, e5, e6, hown, hbel⟩ := ha
  obtain ⟨xs, rfl, hxs⟩ := hfr.lit
  have x0 := hxs 0 _ (by omega) e0
  have x1 := hxs 1 _ (by omega) e1
  have x5 := hxs 5 _ (by omega) e5
  have x6 := hxs 6 _ (by omega) e6
  clear hxs e0 e1 e5 e6 hfr
  simp only [fr, x0, x1, x5, x6]
  clear x0 x1 x5 x6
  have HQ := Lib.hid hQ
  have HE := Lib.hid hE
  have HO := Lib.hid hown
  have HB := Lib.hid hbel
  have HL := Lib.hid hL
  have HN := Lib.hid hn
  obtain ⟨hkl, hke⟩ := List.getElem?_eq_some_iff.1 hkt
  obtain ⟨p0, p1, p2, p3, p4, p5, p6⟩ := (hE.row.below hbel hE.row.lt).cells k hkl
  rw [hke] at p1 p5 p6
  dsimp only at p1 p5 p6
  have hkn : (k : Int) < (n : Int) := by omega
  have hbs := hbel.size
  have hTl := hE.row.lt
  clear hQ hE hown hbel hL hn hke hkl hkt
  go_upto_region 6 with fail
  obtain ⟨W2, eW⟩ : ∃ W2, W2 = W.alloc (.cells #[.pointer none, .string s, .int .i32 0, .int .u32 0, .int .u16 0, .int .u8 29, .int .u8 ws] 31) := ⟨_, rfl⟩
  have hA : Box W2 W.heap.size ⟨29, s, ws⟩ := by rw [eW]; exact Box.made W ⟨29, s, ws⟩
  have hB2 : Below W.heap.size W W2 := by rw [eW]; exact (Below.refl _ _).alloc (Nat.le_refl _) _
  rw [← eW]
  clear eW p0 p1 p2 p3 p4 p5 p6
  have HA := Lib.hid hA
  have HB2 := Lib.hid hB2
  obtain ⟨t0, t1, t2, t3, t4, t5, t6, tf⟩ := hA
  dsimp only at t1 t5 t6
  clear hB2
  go_wp2_with fail
  refine (fontsize_any ⟨29, s, ws⟩ lw (fun _ => HL.out) W2 (HE.out.kw.below (HB.out.trans (HB2.out.mono hbs)))).mono ?_
  rintro e w1 ⟨rfl, hb1⟩
  rw [hz]
  have HA1 := Lib.hid (HA.out.later hb1)
  have HB1 := Lib.hid (HB2.out.trans (hb1.mono HB2.out.size))
  clear hb1 t0 t1 t2 t3 t4 t5 t6 tf HA HB2
  obtain ⟨t0, t1, t2, t3, t4, t5, t6, tf⟩ := HA1.out
  dsimp only at t1 t5 t6
  go_wp2_with fail
  refine (low_any HL.out _).mono ?_
  rintro e w2 ⟨rfl, hb2⟩
  have HA2 := Lib.hid (HA1.out.later hb2)
  have HB2 := Lib.hid (HB1.out.trans (hb2.mono HB1.out.size))
  clear hb2 t0 t1 t2 t3 t4 t5 t6 tf HA1 HB1
  obtain ⟨t0, t1, t2, t3, t4, t5, t6, tf⟩ := HA2.out
  dsimp only at t1 t5 t6
  have hs2 := HB2.out.size
  have HO2 := Lib.hid (own_later HO.out HB2.out)
  have HBB := Lib.hid (HB.out.trans (HB2.out.mono hbs))
  clear HO HB
  have HNW := Lib.hid (show lw.toList ≠ [110, 111, 114, 109, 97, 108] by rw [hx]; decide)
  go_wp2_with fail
  refine (weight_any p s lw ws HL.out HNW.out w2).mono ?_
  rintro e w3 ⟨rfl, hb3⟩
  obtain ⟨tk, etk⟩ : ∃ tk, tk = wtT lw ⟨29, s, ws⟩ := ⟨_, rfl⟩
  rw [← etk]
  have HTK := Lib.hid etk
  have HO3 := Lib.hid (own_later HO2.out hb3)
  have HB3 := Lib.hid (HBB.out.trans (hb3.mono HBB.out.size))
  have hs3 := HB3.out.size
  clear hb3 t0 t1 t2 t3 t4 t5 t6 tf HA2 etk
  go_wp2_with (first
    | (refine wpList_append_tok w3 rfl (.tmp 69) (.tmp 73) rfl w0.heap.size (.slice a5 l.length c5) l tk rfl HO3.out rfl (by omega) (by omega) ?_
       intro a' c' w9 hown9 hgr9
       have HO9 := Lib.hid hown9
       have HG9 := Lib.hid hgr9
       clear hown9 hgr9)
    | fail)
  rw [← HTK.out] at HQ
  have el : (l ++ [(tk : TK)]).length = l.length + 1 := by rw [List.length_append]; rfl
  refine HQ.out _ w9 a' c' ⟨⟨rfl, rfl⟩, rfl, rfl, by rw [el]; rfl, rfl, ?_, ?_⟩
  · have h := HO9.out
    rw [el] at h ⊢
    exact h
  · exact HB3.out.trans (below_grown (w := w3) ((Below.refl _ _).alloc (by omega) _) HG9.out HO3.out (by omega))

set_option maxHeartbeats 4000000 in
set_option maxRecDepth 100000 in
theorem lighter_wp {d : Code} (hcode : Tryz.f17.body.bind (fb 1) = some (.block 1 d)) (Q : Exit → Act → World → Prop) (a : Act) (W w0 : World) (p : Value) (T capT n cap k : Nat) (L l : List TK) (a5 : Option Addr) (c5 : Nat) (s lw : ByteArray) (ws : Int)
    (hE : Env w0 T capT L) (ha : Ent a W w0 p T n cap k l a5 c5) (hn : n = L.length) (hk : k < n) (hkt : L[k]? = some ⟨29, s, ws⟩) (hL : Low s lw) (hz : isSz 29 lw = false) (hl : l.length ≤ 10000) (hx : lw.toList = [108, 105, 103, 104, 116, 101, 114])
    (hQ : ∀ a' W' a5' c5', Ent a' W' w0 p T n cap k (l ++ [wtT lw ⟨29, s, ws⟩]) a5' c5' → Q .normal a' W') : Code.wp Tryz.prog (.block 1 d) Q a W := by
  have key : ∀ {D : Code}, Tryz.f17.body.bind (fb 1) = some (.block 1 D) → Code.wp Tryz.prog (.block 1 D) Q a W → Code.wp Tryz.prog (.block 1 d) Q a W := fun e h => by
    rw [e] at hcode
    cases hcode
    exact h
  refine key rfl ?_
  clear key hcode
  obtain ⟨hfr, e0, e1, e5, e6, hown, hbel⟩ := ha
  obtain ⟨xs, rfl, hxs⟩ := hfr.lit
  have x0 := hxs 0 _ (by omega) e0
  have x1 := hxs 1 _ (by omega) e1
  have x5 := hxs 5 _ (by omega) e5
  have x6 := hxs 6 _ (by omega) e6
  clear hxs e0 e1 e5 e6 hfr
  simp only [fr, x0, x1, x5, x6]
  clear x0 x1 x5 x6
  have HQ := Lib.hid hQ
  have HE := Lib.hid hE
  have HO := Lib.hid hown
  have HB := Lib.hid hbel
  have HL := Lib.hid hL
  have HN := Lib.hid hn
  obtain ⟨hkl, hke⟩ := List.getElem?_eq_some_iff.1 hkt
  obtain ⟨p0, p1, p2, p3, p4, p5, p6⟩ := (hE.row.below hbel hE.row.lt).cells k hkl
  rw [hke] at p1 p5 p6
  dsimp only at p1 p5 p6
  have hkn : (k : Int) < (n : Int) := by omega
  have hbs := hbel.size
  have hTl := hE.row.lt
  clear hQ hE hown hbel hL hn hke hkl hkt
  go_upto_region 6 with fail
  obtain ⟨W2, eW⟩ : ∃ W2, W2 = W.alloc (.cells #[.pointer none, .string s, .int .i32 0, .int .u32 0, .int .u16 0, .int .u8 29, .int .u8 ws] 31) := ⟨_, rfl⟩
  have hA : Box W2 W.heap.size ⟨29, s, ws⟩ := by rw [eW]; exact Box.made W ⟨29, s, ws⟩
  have hB2 : Below W.heap.size W W2 := by rw [eW]; exact (Below.refl _ _).alloc (Nat.le_refl _) _
  rw [← eW]
  clear eW p0 p1 p2 p3 p4 p5 p6
  have HA := Lib.hid hA
  have HB2 := Lib.hid hB2
  obtain ⟨t0, t1, t2, t3, t4, t5, t6, tf⟩ := hA
  dsimp only at t1 t5 t6
  clear hB2
  go_wp2_with fail
  refine (fontsize_any ⟨29, s, ws⟩ lw (fun _ => HL.out) W2 (HE.out.kw.below (HB.out.trans (HB2.out.mono hbs)))).mono ?_
  rintro e w1 ⟨rfl, hb1⟩
  rw [hz]
  have HA1 := Lib.hid (HA.out.later hb1)
  have HB1 := Lib.hid (HB2.out.trans (hb1.mono HB2.out.size))
  clear hb1 t0 t1 t2 t3 t4 t5 t6 tf HA HB2
  obtain ⟨t0, t1, t2, t3, t4, t5, t6, tf⟩ := HA1.out
  dsimp only at t1 t5 t6
  go_wp2_with fail
  refine (low_any HL.out _).mono ?_
  rintro e w2 ⟨rfl, hb2⟩
  have HA2 := Lib.hid (HA1.out.later hb2)
  have HB2 := Lib.hid (HB1.out.trans (hb2.mono HB1.out.size))
  clear hb2 t0 t1 t2 t3 t4 t5 t6 tf HA1 HB1
  obtain ⟨t0, t1, t2, t3, t4, t5, t6, tf⟩ := HA2.out
  dsimp only at t1 t5 t6
  have hs2 := HB2.out.size
  have HO2 := Lib.hid (own_later HO.out HB2.out)
  have HBB := Lib.hid (HB.out.trans (HB2.out.mono hbs))
  clear HO HB
  have HNW := Lib.hid (show lw.toList ≠ [110, 111, 114, 109, 97, 108] by rw [hx]; decide)
  go_wp2_with fail
  refine (weight_any p s lw ws HL.out HNW.out w2).mono ?_
  rintro e w3 ⟨rfl, hb3⟩
  obtain ⟨tk, etk⟩ : ∃ tk, tk = wtT lw ⟨29, s, ws⟩ := ⟨_, rfl⟩
  rw [← etk]
  have HTK := Lib.hid etk
  have HO3 := Lib.hid (own_later HO2.out hb3)
  have HB3 := Lib.hid (HBB.out.trans (hb3.mono HBB.out.size))
  have hs3 := HB3.out.size
  clear hb3 t0 t1 t2 t3 t4 t5 t6 tf HA2 etk
  go_wp2_with (first
    | (refine wpList_append_tok w3 rfl (.tmp 69) (.tmp 73) rfl w0.heap.size (.slice a5 l.length c5) l tk rfl HO3.out rfl (by omega) (by omega) ?_
       intro a' c' w9 hown9 hgr9
       have HO9 := Lib.hid hown9
       have HG9 := Lib.hid hgr9
       clear hown9 hgr9)
    | fail)
  rw [← HTK.out] at HQ
  have el : (l ++ [(tk : TK)]).length = l.length + 1 := by rw [List.length_append]; rfl
  refine HQ.out _ w9 a' c' ⟨⟨rfl, rfl⟩, rfl, rfl, by rw [el]; rfl, rfl, ?_, ?_⟩
  · have h := HO9.out
    rw [el] at h ⊢
    exact h
  · exact HB3.out.trans (below_grown (w := w3) ((Below.refl _ _).alloc (by omega) _) HG9.out HO3.out (by omega))

set_option maxHeartbeats 4000000 in
set_option maxRecDepth 100000 in
theorem number_wp {d : Code} (hcode : Tryz.f17.body.bind (fb 1) = some (.block 1 d)) (Q : Exit → Act → World → Prop) (a : Act) (W w0 : World) (p : Value) (T capT n cap k : Nat) (L l : List TK) (a5 : Option Addr) (c5 : Nat) (s : ByteArray) (ws : Int)
    (hE : Env w0 T capT L) (ha : Ent a W w0 p T n cap k l a5 c5) (hn : n = L.length) (hk : k < n) (hkt : L[k]? = some ⟨30, s, ws⟩) (hl : l.length ≤ 10000) (hok : ∀ w, Tabs w → Okay s w)
    (hQ : ∀ a' W' a5' c5', Ent a' W' w0 p T n cap k (l ++ [⟨30, s, ws⟩]) a5' c5' → Q .normal a' W') : Code.wp Tryz.prog (.block 1 d) Q a W := by
  have key : ∀ {D : Code}, Tryz.f17.body.bind (fb 1) = some (.block 1 D) → Code.wp Tryz.prog (.block 1 D) Q a W → Code.wp Tryz.prog (.block 1 d) Q a W := fun e h => by
    rw [e] at hcode
    cases hcode
    exact h
  refine key rfl ?_
  clear key hcode
  obtain ⟨hfr, e0, e1, e5, e6, hown, hbel⟩ := ha
  obtain ⟨xs, rfl, hxs⟩ := hfr.lit
  have x0 := hxs 0 _ (by omega) e0
  have x1 := hxs 1 _ (by omega) e1
  have x5 := hxs 5 _ (by omega) e5
  have x6 := hxs 6 _ (by omega) e6
  clear hxs e0 e1 e5 e6 hfr
  simp only [fr, x0, x1, x5, x6]
  clear x0 x1 x5 x6
  have HQ := Lib.hid hQ
  have HE := Lib.hid hE
  have HO := Lib.hid hown
  have HB := Lib.hid hbel

  have HN := Lib.hid hn
  obtain ⟨hkl, hke⟩ := List.getElem?_eq_some_iff.1 hkt
  obtain ⟨p0, p1, p2, p3, p4, p5, p6⟩ := (hE.row.below hbel hE.row.lt).cells k hkl
  rw [hke] at p1 p5 p6
  dsimp only at p1 p5 p6
  have hkn : (k : Int) < (n : Int) := by omega
  have hbs := hbel.size
  have hTl := hE.row.lt
  have HK := Lib.hid hok
  clear hok hQ hE hown hbel hn hke hkl hkt
  go_upto_region 6 with fail
  obtain ⟨W2, eW⟩ : ∃ W2, W2 = W.alloc (.cells #[.pointer none, .string s, .int .i32 0, .int .u32 0, .int .u16 0, .int .u8 30, .int .u8 ws] 31) := ⟨_, rfl⟩
  have hA : Box W2 W.heap.size ⟨30, s, ws⟩ := by rw [eW]; exact Box.made W ⟨30, s, ws⟩
  have hB2 : Below W.heap.size W W2 := by rw [eW]; exact (Below.refl _ _).alloc (Nat.le_refl _) _
  rw [← eW]
  clear eW p0 p1 p2 p3 p4 p5 p6
  have HA := Lib.hid hA
  have HB2 := Lib.hid hB2
  obtain ⟨t0, t1, t2, t3, t4, t5, t6, tf⟩ := hA
  dsimp only at t1 t5 t6
  clear hB2
  go_wp2_with fail
  refine (fontsize_any ⟨30, s, ws⟩ s (fun h => absurd (show (30 : Int) = 29 from h) (by decide)) W2 (HE.out.kw.below (HB.out.trans (HB2.out.mono hbs)))).mono ?_
  rintro e w1 ⟨rfl, hb1⟩
  rw [show isSz (TK.mk 30 s ws).kd s = false from rfl]
  have HA1 := Lib.hid (HA.out.later hb1)
  have HB1 := Lib.hid (HB2.out.trans (hb1.mono HB2.out.size))
  clear hb1 t0 t1 t2 t3 t4 t5 t6 tf HA HB2
  obtain ⟨t0, t1, t2, t3, t4, t5, t6, tf⟩ := HA1.out
  dsimp only at t1 t5 t6
  go_wp2_with fail
  obtain ⟨x, o1, o2, hc⟩ := HK.out w1 (HE.out.tabs.below (HB.out.trans (HB1.out.mono hbs)))
  refine hc.mono ?_
  rintro e w' ⟨rfl, rfl⟩
  have hs2 := HB1.out.size
  have HO2 := Lib.hid (own_later HO.out HB1.out)
  have HBB := Lib.hid (HB.out.trans (HB1.out.mono hbs))
  clear HO HB hc
  go_wp2_with (first
    | (refine wpList_append_tok w1 rfl (.tmp 107) (.tmp 109) rfl w0.heap.size (.slice a5 l.length c5) l ⟨30, s, ws⟩ rfl HO2.out rfl (by omega) (by omega) ?_
       intro a' c' w9 hown9 hgr9
       have HO9 := Lib.hid hown9
       have HG9 := Lib.hid hgr9
       clear hown9 hgr9)
    | fail)
  have el : (l ++ [(⟨30, s, ws⟩ : TK)]).length = l.length + 1 := by rw [List.length_append]; rfl
  refine HQ.out _ w9 a' c' ⟨⟨rfl, rfl⟩, rfl, rfl, by rw [el]; rfl, rfl, ?_, ?_⟩
  · have h := HO9.out
    rw [el] at h ⊢
    exact h
  · exact HBB.out.trans (below_grown (w := w1) ((Below.refl _ _).alloc (by omega) _) HG9.out HO2.out (by omega))
end Go.Proofs.YtoeahdefgblmoaaGreatDoor
