/-
  The law's small functions: ZZmangleFont, ZZisFontSize, the bytes.
-/
import Derived.Test.YtoeahdefgblmoaaGreatDoorL8
import Derived.Test.YtoeahdefgblmoaaGreatDoorF
namespace Go.Proofs.YtoeahdefgblmoaaGreatDoor
open Go.RowKit Go.Deep Go.PlainAid Go.Maps Go.Sort

/-- What ZZmangleFont answers: a row of these tokens, new or old. -/
def ZPost2 (w0 : World) (out : List TK) (e : Ending) (w' : World) : Prop := ∃ T' c', e = .returned (.slice (some ⟨T', 0, none⟩) out.length c') ∧ RowAt w' T' c' out ∧ Below w0.heap.size w0 w'

set_option maxHeartbeats 4000000 in
set_option maxRecDepth 100000 in
theorem zz2_any (w0 : World) (v : Value) (mn : Bool) (out : List TK)
    (hcall : ∀ W p0, Below w0.heap.size w0 W → Calls Tryz.prog 17 #[.pointer (some ⟨p0, 0, none⟩), v] W (ZPost2 W out)) :
    Calls Tryz.prog 6 #[v, .bool mn] w0 (ZPost2 w0 out) := by
  have HC := Lib.hid hcall
  clear hcall
  go_enter Tryz.func6, Tryz.ntmps6
  go_wp2_with fail
  refine Calls.mono (HC.out _ _ ?hb) ?hp
  case hb => exact (Below.refl _ _).alloc (Nat.le_refl _) _
  rintro e w' ⟨T', c', rfl, h2, h3⟩
  have h5 : Below w0.heap.size w0 w' := ((Below.refl _ _).alloc (Nat.le_refl _) _).trans (h3.mono (by rw [World.size_alloc]; omega))
  clear h3
  have HH := Lib.hid (And.intro h2 h5)
  clear h2 h5
  go_wp2_with fail
  go_ret
  exact ⟨T', c', rfl, HH.out⟩

set_option maxHeartbeats 1000000 in
theorem zsize_any (t : TK) (w : World) (hs : t.s.size ≤ 1048576) (hU : Uni w) (hM : MapAt w 0 KW) :
    Calls Tryz.prog 7 #[.agg #[.pointer none, .string t.s, .int .i32 0, .int .u32 0, .int .u16 0, .int .u8 t.kd, .int .u8 t.ws]] w fun e w' => e = .returned (.bool (isSz t.kd (lowT t.s))) ∧ Below w.heap.size w w' := by
  have H := Lib.hid (fun W (h : Below w.heap.size w W) => fontsize_uni t W hs (hU.below h) (hM.below h))
  clear hU hM hs
  go_enter Tryz.func7, Tryz.ntmps7
  go_wp2_with fail
  have hb : Below w.heap.size w (w.alloc (.cells #[.pointer none, .string t.s, .int .i32 0, .int .u32 0, .int .u16 0, .int .u8 t.kd, .int .u8 t.ws] 31)) := (Below.refl _ _).alloc (Nat.le_refl _) _
  refine (H.out _ hb).mono ?_
  rintro e w' ⟨rfl, hb2⟩
  have HB := Lib.hid (hb.trans (hb2.mono hb.size))
  clear hb hb2
  go_wp2_with fail
  go_ret
  exact ⟨rfl, HB.out⟩

theorem bytes5_small (k ws : Int) (s : ByteArray) (b : Bool) (w : World) (hs : s.size ≤ 1048576) :
    Calls Tryz.prog 5 #[.int .u8 k, .string s, .int .u8 ws, .bool b] w fun e w' => e = .returned (.bool true) ∧ w' = w := by
  have h1 : ¬ (1048576 : Int) < (s.size : Int) := by omega
  have h2 : ¬ (1048576 : Int) < 0 + (s.size : Int) := by omega
  go_enter Tryz.func5, Tryz.ntmps5
  go_wp2
  go_ret
  exact ⟨rfl, rfl⟩
theorem bytes5_great (k ws : Int) (s : ByteArray) (b : Bool) (w : World) (hs : 1048576 < s.size) :
    Calls Tryz.prog 5 #[.int .u8 k, .string s, .int .u8 ws, .bool b] w fun e w' => e = .returned (.bool false) ∧ w' = w := by
  have h1 : (1048576 : Int) < (s.size : Int) := by omega
  go_enter Tryz.func5, Tryz.ntmps5
  go_wp2
  go_ret
  exact ⟨rfl, rfl⟩

/-- A row of two. -/
theorem row_two (w : World) (a b : TK) : RowAt (w.alloc (.cells #[.pointer none, .string a.s, .int .i32 0, .int .u32 0, .int .u16 0, .int .u8 a.kd, .int .u8 a.ws, .pointer none, .string b.s, .int .i32 0, .int .u32 0, .int .u16 0, .int .u8 b.kd, .int .u8 b.ws] 31)) w.heap.size 2 [a, b] :=
  ⟨_, heap_alloc_new w _, rfl, rfl, by show 2 ≤ 2; omega⟩

theorem law_great (k ws : Int) (s : ByteArray) (b : Bool) (w : World) (hs : 1048576 < s.size) :
    Calls Tryz.prog 3 #[.int .u8 k, .string s, .int .u8 ws, .bool b] w fun e w' => e = .returned (.bool true) ∧ Below w.heap.size w w' := by
  have H := Lib.hid hs
  clear hs
  go_enter Tryz.func3, Tryz.ntmps3
  go_wp2_with fail
  refine (bytes5_great k ws s b _ H.out).mono ?_
  rintro e w' ⟨rfl, rfl⟩
  go_wp2_with fail
  go_ret
  exact ⟨rfl, Below.refl _ _⟩
set_option maxHeartbeats 4000000 in
set_option maxRecDepth 100000 in
theorem law_size (k ws : Int) (s : ByteArray) (b : Bool) (w : World) (hs : s.size ≤ 1048576) (hE : ∀ T capT L W, Below w.heap.size w W → RowAt W T capT L → Env1 W T capT L) (hgf : MapAt w 1 GF) (hz : isSz k (lowT s) = true) :
    Calls Tryz.prog 3 #[.int .u8 k, .string s, .int .u8 ws, .bool b] w fun e w' => e = .returned (.bool true) ∧ Below w.heap.size w w' := by
  have h1 : ¬ (1048576 : Int) < (s.size : Int) := by omega
  have H := Lib.hid (And.intro hs (And.intro hE (And.intro hgf hz)))
  clear hs hE hgf hz
  go_enter Tryz.func3, Tryz.ntmps3
  go_wp2_with fail
  refine (bytes5_small k ws s b _ H.out.1).mono ?_
  rintro e w' ⟨rfl, hw'⟩
  obtain rfl := hw'.symm
  clear hw'
  go_wp2_with fail
  have hA : Box (w.alloc (.cells #[.pointer none, .string s, .int .i32 0, .int .u32 0, .int .u16 0, .int .u8 k, .int .u8 ws] 31)) w.heap.size ⟨k, s, ws⟩ := Box.made w ⟨k, s, ws⟩
  have hB := Box.made (w.alloc (.cells #[.pointer none, .string s, .int .i32 0, .int .u32 0, .int .u16 0, .int .u8 k, .int .u8 ws] 31)) (sf 0)
  rw [World.size_alloc] at hB
  have hR := row_two ((w.alloc (.cells #[.pointer none, .string s, .int .i32 0, .int .u32 0, .int .u16 0, .int .u8 k, .int .u8 ws] 31)).alloc (.cells #[.pointer none, .string sfS, .int .i32 0, .int .u32 0, .int .u16 0, .int .u8 29, .int .u8 0] 31)) ⟨k, s, ws⟩ (sf 0)
  rw [World.size_alloc, World.size_alloc] at hR
  have hW : Below w.heap.size w (((w.alloc (.cells #[.pointer none, .string s, .int .i32 0, .int .u32 0, .int .u16 0, .int .u8 k, .int .u8 ws] 31)).alloc (.cells #[.pointer none, .string sfS, .int .i32 0, .int .u32 0, .int .u16 0, .int .u8 29, .int .u8 0] 31)).alloc (.cells #[.pointer none, .string s, .int .i32 0, .int .u32 0, .int .u16 0, .int .u8 k, .int .u8 ws, .pointer none, .string sfS, .int .i32 0, .int .u32 0, .int .u16 0, .int .u8 29, .int .u8 0] 31)) :=
    (((Below.refl _ _).alloc (Nat.le_refl _) _).alloc (by rw [World.size_alloc]; omega) _).alloc (by rw [World.size_alloc, World.size_alloc]; omega) _
  have hA3 := (hA.alloc (.cells #[.pointer none, .string sfS, .int .i32 0, .int .u32 0, .int .u16 0, .int .u8 29, .int .u8 0] 31)).alloc (.cells #[.pointer none, .string s, .int .i32 0, .int .u32 0, .int .u16 0, .int .u8 k, .int .u8 ws, .pointer none, .string sfS, .int .i32 0, .int .u32 0, .int .u16 0, .int .u8 29, .int .u8 0] 31)
  have hB3 := hB.alloc (.cells #[.pointer none, .string s, .int .i32 0, .int .u32 0, .int .u16 0, .int .u8 k, .int .u8 ws, .pointer none, .string sfS, .int .i32 0, .int .u32 0, .int .u16 0, .int .u8 29, .int .u8 0] 31)
  simp only [sf, sfS] at hB hR hW hA3 hB3
  clear hA hB
  obtain ⟨W3, eW⟩ : ∃ W3, W3 = ((w.alloc (.cells #[.pointer none, .string s, .int .i32 0, .int .u32 0, .int .u16 0, .int .u8 k, .int .u8 ws] 31)).alloc (.cells #[.pointer none, .string ⟨#[115, 101, 114, 105, 102]⟩, .int .i32 0, .int .u32 0, .int .u16 0, .int .u8 29, .int .u8 0] 31)).alloc (.cells #[.pointer none, .string s, .int .i32 0, .int .u32 0, .int .u16 0, .int .u8 k, .int .u8 ws, .pointer none, .string ⟨#[115, 101, 114, 105, 102]⟩, .int .i32 0, .int .u32 0, .int .u16 0, .int .u8 29, .int .u8 0] 31) := ⟨_, rfl⟩
  rw [← eW] at hR hW hA3 hB3 ⊢
  clear eW
  have HA := Lib.hid hA3
  have HB := Lib.hid hB3
  have HR : Hid (RowAt W3 (w.heap.size + 1 + 1) 2 [⟨k, s, ws⟩, sf 0]) := Lib.hid hR
  have HW := Lib.hid hW
  clear hR hW hA3 hB3
  refine (zz2_any W3 _ b [⟨k, s, ws⟩, sf 1] (fun W p0 hW => (mangle_size p0 (w.heap.size + 1 + 1) 2 ⟨k, s, ws⟩ W (HR.out.later hW) (H.out.2.1 _ _ _ W (HW.out.trans (hW.mono HW.out.size)) (HR.out.later hW)).kw (H.out.2.2.1.below (HW.out.trans (hW.mono HW.out.size))) (H.out.2.1 _ _ _ W (HW.out.trans (hW.mono HW.out.size)) (HR.out.later hW)).un H.out.1 H.out.2.2.2).mono (fun e w' ⟨T', c', h1, _, _, h4, h5⟩ => ⟨T', c', h1, h4, h5⟩))).mono ?_
  rintro e w4 ⟨T', c', rfl, hR4, hb4⟩
  have HA4 := Lib.hid (HA.out.later hb4)
  have HB4 := Lib.hid (HB.out.later hb4)
  have HR4 := Lib.hid hR4
  have HW4 := Lib.hid (HW.out.trans (hb4.mono HW.out.size))
  clear hR4 hb4 HA HB HR HW
  obtain ⟨t0, t1, t2, t3, t4, t5, t6, tf⟩ := HA4.out
  dsimp only at t1 t5 t6
  go_wp2_with fail
  have hE4 := H.out.2.1 T' c' _ w4 HW4.out HR4.out
  refine (zsize_any ⟨k, s, ws⟩ w4 H.out.1 hE4.un hE4.kw).mono ?_
  rintro e w5 ⟨rfl, hb5⟩
  rw [show isSz (TK.mk k s ws).kd (lowT (TK.mk k s ws).s) = true from H.out.2.2.2]
  have HA5 := Lib.hid (HA4.out.later hb5)
  have HB5 := Lib.hid (HB4.out.later hb5)
  have HR5 := Lib.hid (HR4.out.later hb5)
  have HW5 := Lib.hid (HW4.out.trans (hb5.mono HW4.out.size))
  clear hb5 hE4 t0 t1 t2 t3 t4 t5 t6 tf HA4 HB4 HR4 HW4
  obtain ⟨t0, t1, t2, t3, t4, t5, t6, tf⟩ := HA5.out
  dsimp only at t1 t5 t6
  have ht6 := HA5.out.lt
  go_wp2_with fail
  have hR6 := row_two (w5.alloc (.cells #[.pointer none, .string sfS, .int .i32 0, .int .u32 0, .int .u16 0, .int .u8 29, .int .u8 1] 31)) ⟨k, s, ws⟩ (sf 1)
  rw [World.size_alloc] at hR6
  have hb6 : Below w5.heap.size w5 (w5.alloc (.cells #[.pointer none, .string sfS, .int .i32 0, .int .u32 0, .int .u16 0, .int .u8 29, .int .u8 1] 31)) := (Below.refl _ _).alloc (Nat.le_refl _) _
  have hR7 := ((HR5.out.later hb6).alloc (.cells #[.pointer none, .string s, .int .i32 0, .int .u32 0, .int .u16 0, .int .u8 k, .int .u8 ws, .pointer none, .string sfS, .int .i32 0, .int .u32 0, .int .u16 0, .int .u8 29, .int .u8 1] 31))
  have hb7 := hb6.alloc hb6.size (.cells #[.pointer none, .string s, .int .i32 0, .int .u32 0, .int .u16 0, .int .u8 k, .int .u8 ws, .pointer none, .string sfS, .int .i32 0, .int .u32 0, .int .u16 0, .int .u8 29, .int .u8 1] 31)
  refine (same_any T' (w5.heap.size + 1) c' 2 2 [⟨k, s, ws⟩, sf 1] _ rfl (by omega) hR7 hR6).mono ?_
  rintro e w8 ⟨rfl, hb8⟩
  have HW8 := Lib.hid (HW5.out.trans ((hb7.trans (hb8.mono hb7.size)).mono HW5.out.size))
  clear hb6 hb7 hb8 hR6 hR7
  go_wp2_with fail
  go_ret
  exact ⟨rfl, HW8.out⟩
set_option maxHeartbeats 4000000 in
set_option maxRecDepth 100000 in
theorem law_none (k ws : Int) (s : ByteArray) (b : Bool) (w : World) (hs : s.size ≤ 1048576) (hE : ∀ T capT L W, Below w.heap.size w W → RowAt W T capT L → Env1 W T capT L) (hgf : MapAt w 1 GF) (hz : isSz k (lowT s) = false) :
    Calls Tryz.prog 3 #[.int .u8 k, .string s, .int .u8 ws, .bool b] w fun e w' => e = .returned (.bool true) ∧ Below w.heap.size w w' := by
  have h1 : ¬ (1048576 : Int) < (s.size : Int) := by omega
  have H := Lib.hid (And.intro hs (And.intro hE (And.intro hgf hz)))
  clear hs hE hgf hz
  go_enter Tryz.func3, Tryz.ntmps3
  go_wp2_with fail
  refine (bytes5_small k ws s b _ H.out.1).mono ?_
  rintro e w' ⟨rfl, hw'⟩
  obtain rfl := hw'.symm
  clear hw'
  go_wp2_with fail
  have hA : Box (w.alloc (.cells #[.pointer none, .string s, .int .i32 0, .int .u32 0, .int .u16 0, .int .u8 k, .int .u8 ws] 31)) w.heap.size ⟨k, s, ws⟩ := Box.made w ⟨k, s, ws⟩
  have hB := Box.made (w.alloc (.cells #[.pointer none, .string s, .int .i32 0, .int .u32 0, .int .u16 0, .int .u8 k, .int .u8 ws] 31)) (sf 0)
  rw [World.size_alloc] at hB
  have hR := row_two ((w.alloc (.cells #[.pointer none, .string s, .int .i32 0, .int .u32 0, .int .u16 0, .int .u8 k, .int .u8 ws] 31)).alloc (.cells #[.pointer none, .string sfS, .int .i32 0, .int .u32 0, .int .u16 0, .int .u8 29, .int .u8 0] 31)) ⟨k, s, ws⟩ (sf 0)
  rw [World.size_alloc, World.size_alloc] at hR
  have hW : Below w.heap.size w (((w.alloc (.cells #[.pointer none, .string s, .int .i32 0, .int .u32 0, .int .u16 0, .int .u8 k, .int .u8 ws] 31)).alloc (.cells #[.pointer none, .string sfS, .int .i32 0, .int .u32 0, .int .u16 0, .int .u8 29, .int .u8 0] 31)).alloc (.cells #[.pointer none, .string s, .int .i32 0, .int .u32 0, .int .u16 0, .int .u8 k, .int .u8 ws, .pointer none, .string sfS, .int .i32 0, .int .u32 0, .int .u16 0, .int .u8 29, .int .u8 0] 31)) :=
    (((Below.refl _ _).alloc (Nat.le_refl _) _).alloc (by rw [World.size_alloc]; omega) _).alloc (by rw [World.size_alloc, World.size_alloc]; omega) _
  have hA3 := (hA.alloc (.cells #[.pointer none, .string sfS, .int .i32 0, .int .u32 0, .int .u16 0, .int .u8 29, .int .u8 0] 31)).alloc (.cells #[.pointer none, .string s, .int .i32 0, .int .u32 0, .int .u16 0, .int .u8 k, .int .u8 ws, .pointer none, .string sfS, .int .i32 0, .int .u32 0, .int .u16 0, .int .u8 29, .int .u8 0] 31)
  have hB3 := hB.alloc (.cells #[.pointer none, .string s, .int .i32 0, .int .u32 0, .int .u16 0, .int .u8 k, .int .u8 ws, .pointer none, .string sfS, .int .i32 0, .int .u32 0, .int .u16 0, .int .u8 29, .int .u8 0] 31)
  simp only [sf, sfS] at hB hR hW hA3 hB3
  clear hA hB
  obtain ⟨W3, eW⟩ : ∃ W3, W3 = ((w.alloc (.cells #[.pointer none, .string s, .int .i32 0, .int .u32 0, .int .u16 0, .int .u8 k, .int .u8 ws] 31)).alloc (.cells #[.pointer none, .string ⟨#[115, 101, 114, 105, 102]⟩, .int .i32 0, .int .u32 0, .int .u16 0, .int .u8 29, .int .u8 0] 31)).alloc (.cells #[.pointer none, .string s, .int .i32 0, .int .u32 0, .int .u16 0, .int .u8 k, .int .u8 ws, .pointer none, .string ⟨#[115, 101, 114, 105, 102]⟩, .int .i32 0, .int .u32 0, .int .u16 0, .int .u8 29, .int .u8 0] 31) := ⟨_, rfl⟩
  rw [← eW] at hR hW hA3 hB3 ⊢
  clear eW
  have HA := Lib.hid hA3
  have HB := Lib.hid hB3
  have HR : Hid (RowAt W3 (w.heap.size + 1 + 1) 2 [⟨k, s, ws⟩, sf 0]) := Lib.hid hR
  have HW := Lib.hid hW
  clear hR hW hA3 hB3
  refine (zz2_any W3 _ b [⟨k, s, ws⟩, sf 0] (fun W p0 hW => (mangle_none p0 (w.heap.size + 1 + 1) 2 ⟨k, s, ws⟩ W (H.out.2.1 _ _ _ W (HW.out.trans (hW.mono HW.out.size)) (HR.out.later hW)) H.out.1 H.out.2.2.2).mono (fun e w' h => ⟨w.heap.size + 1 + 1, 2, h.1, (HR.out.later hW).later h.2, h.2⟩))).mono ?_
  rintro e w4 ⟨T', c', rfl, hR4, hb4⟩
  have HA4 := Lib.hid (HA.out.later hb4)
  have HB4 := Lib.hid (HB.out.later hb4)
  have HR4 := Lib.hid hR4
  have HW4 := Lib.hid (HW.out.trans (hb4.mono HW.out.size))
  clear hR4 hb4 HA HB HR HW
  obtain ⟨t0, t1, t2, t3, t4, t5, t6, tf⟩ := HA4.out
  dsimp only at t1 t5 t6
  go_wp2_with fail
  have hE4 := H.out.2.1 T' c' _ w4 HW4.out HR4.out
  refine (zsize_any ⟨k, s, ws⟩ w4 H.out.1 hE4.un hE4.kw).mono ?_
  rintro e w5 ⟨rfl, hb5⟩
  rw [show isSz (TK.mk k s ws).kd (lowT (TK.mk k s ws).s) = false from H.out.2.2.2]
  have HA5 := Lib.hid (HA4.out.later hb5)
  have HB5 := Lib.hid (HB4.out.later hb5)
  have HR5 := Lib.hid (HR4.out.later hb5)
  have HW5 := Lib.hid (HW4.out.trans (hb5.mono HW4.out.size))
  clear hb5 hE4 t0 t1 t2 t3 t4 t5 t6 tf HA4 HB4 HR4 HW4
  obtain ⟨t0, t1, t2, t3, t4, t5, t6, tf⟩ := HA5.out
  dsimp only at t1 t5 t6
  obtain ⟨s0, s1, s2, s3, s4, s5, s6, sf'⟩ := HB5.out
  dsimp only at s1 s5 s6
  go_wp2_with fail
  have hR6 := row_two w5 ⟨k, s, ws⟩ (sf 0)
  have hR7 := HR5.out.alloc (.cells #[.pointer none, .string s, .int .i32 0, .int .u32 0, .int .u16 0, .int .u8 k, .int .u8 ws, .pointer none, .string sfS, .int .i32 0, .int .u32 0, .int .u16 0, .int .u8 29, .int .u8 0] 31)
  have hb7 : Below w5.heap.size w5 (w5.alloc (.cells #[.pointer none, .string s, .int .i32 0, .int .u32 0, .int .u16 0, .int .u8 k, .int .u8 ws, .pointer none, .string sfS, .int .i32 0, .int .u32 0, .int .u16 0, .int .u8 29, .int .u8 0] 31)) := (Below.refl _ _).alloc (Nat.le_refl _) _
  refine (same_any T' w5.heap.size c' 2 2 [⟨k, s, ws⟩, sf 0] _ rfl (by omega) hR7 hR6).mono ?_
  rintro e w8 ⟨rfl, hb8⟩
  have HW8 := Lib.hid (HW5.out.trans ((hb7.trans (hb8.mono hb7.size)).mono HW5.out.size))
  clear hb7 hb8 hR6 hR7
  go_wp2_with fail
  go_ret
  exact ⟨rfl, HW8.out⟩
end Go.Proofs.YtoeahdefgblmoaaGreatDoor
