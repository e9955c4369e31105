/-
  isFontSize and mangleFontWeight on any text.
-/
import Derived.Test.YtoeahdefgblmoaaGreatDoorD
import Derived.Test.YtoeahdefgblmoaaGreatDoorSH
namespace Go.Proofs.YtoeahdefgblmoaaGreatDoor
open Go.RowKit Go.Deep Go.PlainAid Go.Maps Go.Sort

/-- The text in small letters. -/
def lowT (s : ByteArray) : ByteArray := ⟨(Lib.toLowerD s.data.toList).toArray⟩
theorem enc_len (r : Int) : (Lib.encodeRune r).length ≤ 4 := by
  unfold Lib.encodeRune
  rw [List.length_map]
  exact (Lib.encodeRuneZ_length r).2
theorem mapD_len (f : Int → Int) : ∀ n l, (Lib.mapGoD f n l).length ≤ 4 * n
  | 0, _ => by simp [Lib.mapGoD]
  | n + 1, l => by
    unfold Lib.mapGoD
    split
    · simp
    · have h1 := mapD_len f n (l.drop (Lib.decodeL l).2)
      have h2 := enc_len (f (Lib.decodeL l).1)
      rw [List.length_append]
      split
      · omega
      · simp; omega
theorem lowT_size (s : ByteArray) : (lowT s).size ≤ 4 * s.size := by
  have h := mapD_len Lib.toLowerU s.data.toList.length s.data.toList
  show (Lib.toLowerD s.data.toList).toArray.size ≤ _
  rw [List.size_toArray]
  have e : s.data.toList.length = s.size := by rw [Array.length_toList]; rfl
  rw [e] at h
  exact h

/-- The tables of unicode. -/
structure Uni (w : World) : Prop where
  cs : Lib.CaseVar 2 Lib.caseA w
  u8 : Lib.Utf8Tabs 7 8 w
theorem Uni.below {w w' : World} (h : Uni w) (hb : Below w.heap.size w w') : Uni w' := ⟨Lib.CaseVar_below h.cs hb, Utf8Tabs_below h.u8 hb⟩
theorem low_uni (s : ByteArray) (w : World) (hs : s.size ≤ 1048576) (hU : Uni w) : Calls Tryz.prog 19 #[.string s] w fun e w' => e = .returned (.string (lowT s)) ∧ Below w.heap.size w w' :=
  Tryz.strings_ToLower_any s w (by omega) hU.cs hU.u8

set_option maxHeartbeats 1000000 in
set_option maxRecDepth 100000 in
theorem fontsize_uni (t : TK) (w : World) (hs : t.s.size ≤ 1048576) (hU : Uni w) (hM : MapAt w 0 KW) :
    Calls Tryz.prog 18 #[.agg #[.pointer none, .string t.s, .int .i32 0, .int .u32 0, .int .u16 0, .int .u8 t.kd, .int .u8 t.ws]] w fun e w' => e = .returned (.bool (isSz t.kd (lowT t.s))) ∧ Below w.heap.size w w' := by
  obtain ⟨kd, s, ws⟩ := t
  dsimp only at hs ⊢
  obtain ⟨l, el⟩ : ∃ l, l = lowT s := ⟨_, rfl⟩
  have hls : l.size ≤ 4194304 := by rw [el]; have := lowT_size s; omega
  rw [← el]
  by_cases h26 : kd = 26
  · subst h26
    go_enter Tryz.func18, Tryz.ntmps18
    go_wp2
    go_ret
    exact ⟨rfl, (Below.refl _ _).alloc (Nat.le_refl _) _⟩
  by_cases h34 : kd = 34
  · subst h34
    go_enter Tryz.func18, Tryz.ntmps18
    go_wp2
    go_ret
    exact ⟨rfl, (Below.refl _ _).alloc (Nat.le_refl _) _⟩
  by_cases h29 : kd = 29
  · subst h29
    obtain ⟨b, v, g0, g1, _, _⟩ := hM.look l (by unfold maxLen; omega)
    have hw := fun W (h : Below w.heap.size w W) => (el ▸ low_uni s W hs (hU.below h) : Calls Tryz.prog 19 #[.string s] W fun e w' => e = .returned (.string l) ∧ Below W.heap.size W w')
    obtain ⟨r, er⟩ : ∃ r, r = Maps.has KW (.string l.data.toList) := ⟨_, rfl⟩
    have hr : isSz 29 l = r := by unfold isSz; rw [← er]; rfl
    rw [hr]
    rw [← er] at g1
    have HW := Lib.hid hw
    have HG := Lib.hid g1
    clear hw g1 er hr hU el hls hs h26 h34
    go_enter Tryz.func18, Tryz.ntmps18
    go_wp2_with fail
    obtain ⟨W2, eW⟩ : ∃ W2, W2 = w.alloc (.cells #[.pointer none, .string s, .int .i32 0, .int .u32 0, .int .u16 0, .int .u8 29, .int .u8 ws] 31) := ⟨_, rfl⟩
    have c1 : W2.cell? ⟨w.heap.size, 1, none⟩ = some (.string s) := by rw [eW]; simp [go_sem]
    have hB : Below w.heap.size w W2 := by rw [eW]; exact (Below.refl _ _).alloc (Nat.le_refl _) _
    have g2 := cell_later hB g0
    rw [← eW]
    clear eW
    have HB := Lib.hid hB
    clear hB hM g0
    have r0 := fun d os => cell_regrown g2 d os
    have r1 := fun d os => cell_regrown c1 d os
    clear g2 c1
    refine wp_region_quiet_below (by kernel_rfl) (by kernel_rfl) ?_
    repeat (first
      | (refine quiet_lookup rfl _ _ _ true rfl rfl rfl (fun w' hw' => by obtain ⟨⟨d, os⟩, rfl⟩ := hw'; exact HG.out _ (HB.out.trans ((below_regrown W2 d os).mono HB.out.size))) ?_)
      | (quiet_step (first | (go_at_call 19; exact Calls.regrown_of (HW.out _ (HB.out.trans ((below_regrown W2 _ _).mono HB.out.size)))))))
    refine wpQuiet_nil ?_
    intro _ hw'
    obtain ⟨⟨dq, osq⟩, hw''⟩ := hw'
    subst hw''
    have hB5 := HB.out.trans ((below_regrown W2 dq osq).mono HB.out.size)
    generalize grow (redrawn W2 dq) osq = W5 at hB5 ⊢
    have HB5 := Lib.hid hB5
    clear hB5 r0 r1
    go_wp2_with fail
    go_ret
    exact ⟨rfl, HB5.out⟩
  · have hr : isSz kd l = false := by
      unfold isSz
      simp [h26, h34, h29]
    rw [hr]
    have e1 : (kd == 26) = false := by simpa using h26
    have e2 : (kd == 34) = false := by simpa using h34
    have e3 : (kd == 29) = false := by simpa using h29
    clear hr hU el hls hs
    go_enter Tryz.func18, Tryz.ntmps18
    go_wp2
    go_ret
    exact ⟨rfl, (Below.refl _ _).alloc (Nat.le_refl _) _⟩
set_option maxHeartbeats 1000000 in
set_option maxRecDepth 100000 in
theorem weight_uni (r : Bool) (p : Value) (s l : ByteArray) (ws : Int) (hs : s.size ≤ 1048576) (el : l = lowT s) (n1 : (l.toList == [110, 111, 114, 109, 97, 108]) = false) (n2 : (l.toList == [98, 111, 108, 100]) = r) (w : World) (hU : Uni w) :
    Calls Tryz.prog 21 #[p, .agg #[.pointer none, .string s, .int .i32 0, .int .u32 0, .int .u16 0, .int .u8 29, .int .u8 ws]] w fun e w' =>
      e = .returned (.agg #[.pointer none, .string (if r then ⟨#[55, 48, 48]⟩ else s), .int .i32 0, .int .u32 0, .int .u16 0, .int .u8 (if r then 30 else 29), .int .u8 ws]) ∧ Below w.heap.size w w' := by
  have HW := Lib.hid (fun W (h : Below w.heap.size w W) => (el ▸ low_uni s W hs (hU.below h) : Calls Tryz.prog 19 #[.string s] W fun e w' => e = .returned (.string l) ∧ Below W.heap.size W w'))
  clear el hU hs
  cases r
  all_goals
    go_enter Tryz.func21, Tryz.ntmps21
    go_wp2_with fail
    obtain ⟨W2, eW⟩ : ∃ W2, W2 = (w.alloc (.cells #[.pointer none, .string s, .int .i32 0, .int .u32 0, .int .u16 0, .int .u8 29, .int .u8 ws] 31)).alloc (.cells #[.pointer none, .string ⟨#[]⟩, .int .i32 0, .int .u32 0, .int .u16 0, .int .u8 0, .int .u8 0] 31) := ⟨_, rfl⟩
    have hA : Box W2 w.heap.size ⟨29, s, ws⟩ := by rw [eW]; exact (Box.made w ⟨29, s, ws⟩).alloc _
    have hZ : Box W2 (w.heap.size + 1) ⟨0, ⟨#[]⟩, 0⟩ := by
      rw [eW]
      have := Box.made (w.alloc (.cells #[.pointer none, .string s, .int .i32 0, .int .u32 0, .int .u16 0, .int .u8 29, .int .u8 ws] 31)) ⟨0, ⟨#[]⟩, 0⟩
      rw [World.size_alloc] at this
      exact this
    have hB : Below w.heap.size w W2 := by rw [eW]; exact ((Below.refl _ _).alloc (Nat.le_refl _) _).alloc (by rw [World.size_alloc]; omega) _
    rw [← eW]
    clear eW
    refine (HW.out _ hB).mono ?_
    rintro e w' ⟨rfl, hb⟩
    obtain ⟨a0, a1, a2, a3, a4, a5, a6, af⟩ := hA.later hb
    obtain ⟨z0, z1, z2, z3, z4, z5, z6, zf⟩ := hZ.later hb
    dsimp only at a1 a5 a6 z1 z5 z6
    have hsz := hb.size
    have hsz2 := hZ.lt
    have HB := Lib.hid (hB.trans (hb.mono hB.size))
    clear hA hZ hB hb
    have ff0 := af 0
    have ff1 := af 1
    have ff5 := af 5
    have fz0 := zf 0
    have fz1 := zf 1
    have fz2 := zf 2
    have fz3 := zf 3
    have fz4 := zf 4
    have fz5 := zf 5
    have fz6 := zf 6
    go_wp2_with fail
  · refine bodyPost_ret (v := .agg #[.pointer none, .string s, .int .i32 0, .int .u32 0, .int .u16 0, .int .u8 29, .int .u8 ws]) (by simp [results, Tryz.results21, go_sem, z0, z1, z2, z3, z4, z5, z6]) rfl ⟨rfl, ?_⟩
    iterate 7 refine bset ?_ _ _ _ (by omega)
    exact HB.out
  · refine bodyPost_ret (v := .agg #[.pointer none, .string ⟨#[55, 48, 48]⟩, .int .i32 0, .int .u32 0, .int .u16 0, .int .u8 30, .int .u8 ws]) (by simp [results, Tryz.results21, go_sem, z0, z1, z2, z3, z4, z5, z6]) rfl ⟨rfl, ?_⟩
    iterate 9 refine bset ?_ _ _ _ (by omega)
    exact HB.out

end Go.Proofs.YtoeahdefgblmoaaGreatDoor
