/-
  The law's small functions: the words, the whitespace flags, the tokens; IsAngle.
-/
import Derived.Test.YtoeahdefgblmoaaGreatDoorD
namespace Go.Proofs.YtoeahdefgblmoaaGreatDoor
open Go.RowKit Go.Deep Go.PlainAid Go.Maps Go.Sort

theorem md (m k : Nat) : ((m : Int)).tmod ((k : Nat) : Int) = ((m % k : Nat) : Int) := by
  rw [Int.tmod_eq_emod_of_nonneg (by omega)]; omega

set_option maxHeartbeats 1000000 in
theorem word_any (m : Nat) (w : World) : Calls Tryz.prog 11 #[.int .u8 (m : Int)] w fun e w' => e = .returned (.tuple #[.int .u8 (pwT (m % 15)).1, .string (pwT (m % 15)).2.1, .bool (pwT (m % 15)).2.2.1, .int .u8 (pwT (m % 15)).2.2.2.1, .string (pwT (m % 15)).2.2.2.2]) ∧ w' = w := by
  have hc : ((m : Int)).tmod 15 = ((m % 15 : Nat) : Int) := md m 15
  have h15 : m % 15 < 15 := Nat.mod_lt _ (by omega)
  obtain ⟨c, ec⟩ : ∃ c, c = m % 15 := ⟨_, rfl⟩
  rw [← ec] at hc h15 ⊢
  clear ec
  match c, h15 with
  | 0, _ =>
    have hd : ((m : Int)).tmod 15 = 0 := hc
    clear hc
    go_enter Tryz.func11, Tryz.ntmps11
    go_wp2
    refine bodyPost_ret (v := .tuple #[_, _, _, _, _]) (by simp [results, Tryz.results11, go_sem]; exact ⟨rfl, rfl, rfl, rfl, rfl⟩) rfl ⟨rfl, rfl⟩
  | 1, _ =>
    have hd : ((m : Int)).tmod 15 = 1 := hc
    clear hc
    go_enter Tryz.func11, Tryz.ntmps11
    go_wp2
    refine bodyPost_ret (v := .tuple #[_, _, _, _, _]) (by simp [results, Tryz.results11, go_sem]; exact ⟨rfl, rfl, rfl, rfl, rfl⟩) rfl ⟨rfl, rfl⟩
  | 2, _ =>
    have hd : ((m : Int)).tmod 15 = 2 := hc
    clear hc
    go_enter Tryz.func11, Tryz.ntmps11
    go_wp2
    refine bodyPost_ret (v := .tuple #[_, _, _, _, _]) (by simp [results, Tryz.results11, go_sem]; exact ⟨rfl, rfl, rfl, rfl, rfl⟩) rfl ⟨rfl, rfl⟩
  | 3, _ =>
    have hd : ((m : Int)).tmod 15 = 3 := hc
    clear hc
    go_enter Tryz.func11, Tryz.ntmps11
    go_wp2
    refine bodyPost_ret (v := .tuple #[_, _, _, _, _]) (by simp [results, Tryz.results11, go_sem]; exact ⟨rfl, rfl, rfl, rfl, rfl⟩) rfl ⟨rfl, rfl⟩
  | 4, _ =>
    have hd : ((m : Int)).tmod 15 = 4 := hc
    clear hc
    go_enter Tryz.func11, Tryz.ntmps11
    go_wp2
    refine bodyPost_ret (v := .tuple #[_, _, _, _, _]) (by simp [results, Tryz.results11, go_sem]; exact ⟨rfl, rfl, rfl, rfl, rfl⟩) rfl ⟨rfl, rfl⟩
  | 5, _ =>
    have hd : ((m : Int)).tmod 15 = 5 := hc
    clear hc
    go_enter Tryz.func11, Tryz.ntmps11
    go_wp2
    refine bodyPost_ret (v := .tuple #[_, _, _, _, _]) (by simp [results, Tryz.results11, go_sem]; exact ⟨rfl, rfl, rfl, rfl, rfl⟩) rfl ⟨rfl, rfl⟩
  | 6, _ =>
    have hd : ((m : Int)).tmod 15 = 6 := hc
    clear hc
    go_enter Tryz.func11, Tryz.ntmps11
    go_wp2
    refine bodyPost_ret (v := .tuple #[_, _, _, _, _]) (by simp [results, Tryz.results11, go_sem]; exact ⟨rfl, rfl, rfl, rfl, rfl⟩) rfl ⟨rfl, rfl⟩
  | 7, _ =>
    have hd : ((m : Int)).tmod 15 = 7 := hc
    clear hc
    go_enter Tryz.func11, Tryz.ntmps11
    go_wp2
    refine bodyPost_ret (v := .tuple #[_, _, _, _, _]) (by simp [results, Tryz.results11, go_sem]; exact ⟨rfl, rfl, rfl, rfl, rfl⟩) rfl ⟨rfl, rfl⟩
  | 8, _ =>
    have hd : ((m : Int)).tmod 15 = 8 := hc
    clear hc
    go_enter Tryz.func11, Tryz.ntmps11
    go_wp2
    refine bodyPost_ret (v := .tuple #[_, _, _, _, _]) (by simp [results, Tryz.results11, go_sem]; exact ⟨rfl, rfl, rfl, rfl, rfl⟩) rfl ⟨rfl, rfl⟩
  | 9, _ =>
    have hd : ((m : Int)).tmod 15 = 9 := hc
    clear hc
    go_enter Tryz.func11, Tryz.ntmps11
    go_wp2
    refine bodyPost_ret (v := .tuple #[_, _, _, _, _]) (by simp [results, Tryz.results11, go_sem]; exact ⟨rfl, rfl, rfl, rfl, rfl⟩) rfl ⟨rfl, rfl⟩
  | 10, _ =>
    have hd : ((m : Int)).tmod 15 = 10 := hc
    clear hc
    go_enter Tryz.func11, Tryz.ntmps11
    go_wp2
    refine bodyPost_ret (v := .tuple #[_, _, _, _, _]) (by simp [results, Tryz.results11, go_sem]; exact ⟨rfl, rfl, rfl, rfl, rfl⟩) rfl ⟨rfl, rfl⟩
  | 11, _ =>
    have hd : ((m : Int)).tmod 15 = 11 := hc
    clear hc
    go_enter Tryz.func11, Tryz.ntmps11
    go_wp2
    refine bodyPost_ret (v := .tuple #[_, _, _, _, _]) (by simp [results, Tryz.results11, go_sem]; exact ⟨rfl, rfl, rfl, rfl, rfl⟩) rfl ⟨rfl, rfl⟩
  | 12, _ =>
    have hd : ((m : Int)).tmod 15 = 12 := hc
    clear hc
    go_enter Tryz.func11, Tryz.ntmps11
    go_wp2
    refine bodyPost_ret (v := .tuple #[_, _, _, _, _]) (by simp [results, Tryz.results11, go_sem]; exact ⟨rfl, rfl, rfl, rfl, rfl⟩) rfl ⟨rfl, rfl⟩
  | 13, _ =>
    have hd : ((m : Int)).tmod 15 = 13 := hc
    clear hc
    go_enter Tryz.func11, Tryz.ntmps11
    go_wp2
    refine bodyPost_ret (v := .tuple #[_, _, _, _, _]) (by simp [results, Tryz.results11, go_sem]; exact ⟨rfl, rfl, rfl, rfl, rfl⟩) rfl ⟨rfl, rfl⟩
  | 14, _ =>
    have hd : ((m : Int)).tmod 15 = 14 := hc
    clear hc
    go_enter Tryz.func11, Tryz.ntmps11
    go_wp2
    refine bodyPost_ret (v := .tuple #[_, _, _, _, _]) (by simp [results, Tryz.results11, go_sem]; exact ⟨rfl, rfl, rfl, rfl, rfl⟩) rfl ⟨rfl, rfl⟩
set_option maxHeartbeats 1000000 in
theorem size_any (m : Nat) (w : World) : Calls Tryz.prog 14 #[.int .u8 (m : Int)] w fun e w' => e = .returned (.tuple #[.int .u8 (swT (m % 6)).1, .string (swT (m % 6)).2]) ∧ w' = w := by
  have hc : ((m : Int)).tmod 6 = ((m % 6 : Nat) : Int) := md m 6
  have h15 : m % 6 < 6 := Nat.mod_lt _ (by omega)
  obtain ⟨c, ec⟩ : ∃ c, c = m % 6 := ⟨_, rfl⟩
  rw [← ec] at hc h15 ⊢
  clear ec
  match c, h15 with
  | 0, _ =>
    have hd : ((m : Int)).tmod 6 = 0 := hc
    clear hc
    go_enter Tryz.func14, Tryz.ntmps14
    go_wp2
    refine bodyPost_ret (v := .tuple #[_, _]) (by simp [results, Tryz.results14, go_sem]; exact ⟨rfl, rfl⟩) rfl ⟨rfl, rfl⟩
  | 1, _ =>
    have hd : ((m : Int)).tmod 6 = 1 := hc
    clear hc
    go_enter Tryz.func14, Tryz.ntmps14
    go_wp2
    refine bodyPost_ret (v := .tuple #[_, _]) (by simp [results, Tryz.results14, go_sem]; exact ⟨rfl, rfl⟩) rfl ⟨rfl, rfl⟩
  | 2, _ =>
    have hd : ((m : Int)).tmod 6 = 2 := hc
    clear hc
    go_enter Tryz.func14, Tryz.ntmps14
    go_wp2
    refine bodyPost_ret (v := .tuple #[_, _]) (by simp [results, Tryz.results14, go_sem]; exact ⟨rfl, rfl⟩) rfl ⟨rfl, rfl⟩
  | 3, _ =>
    have hd : ((m : Int)).tmod 6 = 3 := hc
    clear hc
    go_enter Tryz.func14, Tryz.ntmps14
    go_wp2
    refine bodyPost_ret (v := .tuple #[_, _]) (by simp [results, Tryz.results14, go_sem]; exact ⟨rfl, rfl⟩) rfl ⟨rfl, rfl⟩
  | 4, _ =>
    have hd : ((m : Int)).tmod 6 = 4 := hc
    clear hc
    go_enter Tryz.func14, Tryz.ntmps14
    go_wp2
    refine bodyPost_ret (v := .tuple #[_, _]) (by simp [results, Tryz.results14, go_sem]; exact ⟨rfl, rfl⟩) rfl ⟨rfl, rfl⟩
  | 5, _ =>
    have hd : ((m : Int)).tmod 6 = 5 := hc
    clear hc
    go_enter Tryz.func14, Tryz.ntmps14
    go_wp2
    refine bodyPost_ret (v := .tuple #[_, _]) (by simp [results, Tryz.results14, go_sem]; exact ⟨rfl, rfl⟩) rfl ⟨rfl, rfl⟩
set_option maxHeartbeats 1000000 in
theorem line_any (m : Nat) (w : World) : Calls Tryz.prog 15 #[.int .u8 (m : Int)] w fun e w' => e = .returned (.tuple #[.int .u8 (lwT (m % 4)).1, .string (lwT (m % 4)).2]) ∧ w' = w := by
  have hc : ((m : Int)).tmod 4 = ((m % 4 : Nat) : Int) := md m 4
  have h15 : m % 4 < 4 := Nat.mod_lt _ (by omega)
  obtain ⟨c, ec⟩ : ∃ c, c = m % 4 := ⟨_, rfl⟩
  rw [← ec] at hc h15 ⊢
  clear ec
  match c, h15 with
  | 0, _ =>
    have hd : ((m : Int)).tmod 4 = 0 := hc
    clear hc
    go_enter Tryz.func15, Tryz.ntmps15
    go_wp2
    refine bodyPost_ret (v := .tuple #[_, _]) (by simp [results, Tryz.results15, go_sem]; exact ⟨rfl, rfl⟩) rfl ⟨rfl, rfl⟩
  | 1, _ =>
    have hd : ((m : Int)).tmod 4 = 1 := hc
    clear hc
    go_enter Tryz.func15, Tryz.ntmps15
    go_wp2
    refine bodyPost_ret (v := .tuple #[_, _]) (by simp [results, Tryz.results15, go_sem]; exact ⟨rfl, rfl⟩) rfl ⟨rfl, rfl⟩
  | 2, _ =>
    have hd : ((m : Int)).tmod 4 = 2 := hc
    clear hc
    go_enter Tryz.func15, Tryz.ntmps15
    go_wp2
    refine bodyPost_ret (v := .tuple #[_, _]) (by simp [results, Tryz.results15, go_sem]; exact ⟨rfl, rfl⟩) rfl ⟨rfl, rfl⟩
  | 3, _ =>
    have hd : ((m : Int)).tmod 4 = 3 := hc
    clear hc
    go_enter Tryz.func15, Tryz.ntmps15
    go_wp2
    refine bodyPost_ret (v := .tuple #[_, _]) (by simp [results, Tryz.results15, go_sem]; exact ⟨rfl, rfl⟩) rfl ⟨rfl, rfl⟩
set_option maxHeartbeats 1000000 in
theorem fam_any (m : Nat) (w : World) : Calls Tryz.prog 16 #[.int .u8 (m : Int)] w fun e w' => e = .returned (.string (fwT (m % 4))) ∧ w' = w := by
  have hc : ((m : Int)).tmod 4 = ((m % 4 : Nat) : Int) := md m 4
  have h15 : m % 4 < 4 := Nat.mod_lt _ (by omega)
  obtain ⟨c, ec⟩ : ∃ c, c = m % 4 := ⟨_, rfl⟩
  rw [← ec] at hc h15 ⊢
  clear ec
  match c, h15 with
  | 0, _ =>
    have hd : ((m : Int)).tmod 4 = 0 := hc
    clear hc
    go_enter Tryz.func16, Tryz.ntmps16
    go_wp2
    go_ret
    exact ⟨rfl, rfl⟩
  | 1, _ =>
    have hd : ((m : Int)).tmod 4 = 1 := hc
    clear hc
    go_enter Tryz.func16, Tryz.ntmps16
    go_wp2
    go_ret
    exact ⟨rfl, rfl⟩
  | 2, _ =>
    have hd : ((m : Int)).tmod 4 = 2 := hc
    clear hc
    go_enter Tryz.func16, Tryz.ntmps16
    go_wp2
    go_ret
    exact ⟨rfl, rfl⟩
  | 3, _ =>
    have hd : ((m : Int)).tmod 4 = 3 := hc
    clear hc
    go_enter Tryz.func16, Tryz.ntmps16
    go_wp2
    go_ret
    exact ⟨rfl, rfl⟩
set_option maxHeartbeats 1000000 in
theorem tok_any (kd : Int) (s : ByteArray) (ws : Int) (w : World) : Calls Tryz.prog 13 #[.int .u8 kd, .string s, .int .u8 ws] w fun e w' =>
    e = .returned (.agg #[.pointer none, .string s, .int .i32 0, .int .u32 0, .int .u16 0, .int .u8 kd, .int .u8 ws]) ∧ Below w.heap.size w w' := by
  go_enter Tryz.func13, Tryz.ntmps13
  go_wp2
  refine bodyPost_ret (v := .agg #[.pointer none, .string s, .int .i32 0, .int .u32 0, .int .u16 0, .int .u8 kd, .int .u8 ws]) (by simp [results, Tryz.results13, go_sem]) rfl ⟨rfl, ?_⟩
  exact (Below.refl _ _).alloc (Nat.le_refl _) _

/-- Bytes of a slice. -/
def U8s (W : World) (a : Option Addr) (zs : List Int) : Prop := ∀ i, i < zs.length → ∃ b off, a = some ⟨b, off, none⟩ ∧ W.cell? ⟨b, off + i, none⟩ = some (.int .u8 (zs.getD i 0)) ∧ 0 ≤ zs.getD i 0 ∧ zs.getD i 0 ≤ 255
theorem U8s.below {W W' : World} {a : Option Addr} {zs : List Int} (h : U8s W a zs) (hb : Below W.heap.size W W') : U8s W' a zs := fun i hi => by
  obtain ⟨b, off, h1, h2, h3⟩ := h i hi
  exact ⟨b, off, h1, cell_later hb h2, h3⟩

/-- The whitespace of the i-th token. -/
def wsAt (zs : List Int) (i : Nat) : Int := zs.getD i 0

set_option maxHeartbeats 1000000 in
theorem ws_any (a : Option Addr) (cap n : Nat) (zs : List Int) (i : Nat) (w : World) (hn : n = zs.length) (hz : U8s w a zs) : Calls Tryz.prog 12 #[.slice a n cap, .int .i64 (i : Int)] w fun e w' =>
    e = .returned (.int .u8 (wsAt zs i)) ∧ w' = w := by
  by_cases h : i < n
  · obtain ⟨b, off, rfl, hc, h0, h1⟩ := hz i (by omega)
    have hlt : (i : Int) < (n : Int) := by omega
    show Calls Tryz.prog 12 _ w fun e w' => e = .returned (.int .u8 (zs.getD i 0)) ∧ w' = w
    obtain ⟨z, ez⟩ : ∃ z, z = zs.getD i 0 := ⟨_, rfl⟩
    rw [← ez] at hc h0 h1 ⊢
    clear ez hz hn
    go_enter Tryz.func12, Tryz.ntmps12
    go_wp2
    go_ret
    exact ⟨rfl, rfl⟩
  · have hlt : ¬ (i : Int) < (n : Int) := by omega
    have e0 : wsAt zs i = 0 := by unfold wsAt; rw [List.getD_eq_getElem?_getD, List.getElem?_eq_none (by omega)]; rfl
    rw [e0]
    clear hz hn e0
    go_enter Tryz.func12, Tryz.ntmps12
    go_wp2
    go_ret
    exact ⟨rfl, rfl⟩

/-- Is the token an angle? (None of the law's is.) -/
def noAngle (l : ByteArray) : Prop := (l.toList == [100, 101, 103]) = false ∧ (l.toList == [103, 114, 97, 100]) = false ∧ (l.toList == [114, 97, 100]) = false ∧ (l.toList == [116, 117, 114, 110]) = false

set_option maxHeartbeats 1000000 in
theorem unit_any (t : TK) (w : World) : Calls Tryz.prog 30 #[.agg #[.pointer none, .string t.s, .int .i32 0, .int .u32 0, .int .u16 0, .int .u8 t.kd, .int .u8 t.ws]] w fun e w' => e = .returned (.string t.s) ∧ Below w.heap.size w w' := by
  obtain ⟨kd, s, ws⟩ := t
  dsimp only
  go_enter Tryz.func30, Tryz.ntmps30
  go_wp2
  go_ret
  exact ⟨rfl, (Below.refl _ _).alloc (Nat.le_refl _) _⟩

set_option maxHeartbeats 1000000 in
set_option maxRecDepth 100000 in
theorem angle_any (t : TK) (l : ByteArray) (hl : t.kd = 26 → Low t.s l ∧ noAngle l) (w : World) :
    Calls Tryz.prog 20 #[.agg #[.pointer none, .string t.s, .int .i32 0, .int .u32 0, .int .u16 0, .int .u8 t.kd, .int .u8 t.ws]] w fun e w' => e = .returned (.bool false) ∧ Below w.heap.size w w' := by
  obtain ⟨kd, s, ws⟩ := t
  dsimp only at hl ⊢
  by_cases h26 : kd = 26
  · subst h26
    obtain ⟨hL, n1, n2, n3, n4⟩ := hl rfl
    have HW := Lib.hid (fun W => low_any hL W)
    have HU := Lib.hid (fun W => unit_any ⟨26, s, ws⟩ W)
    clear hl hL
    go_enter Tryz.func20, Tryz.ntmps20
    go_wp2_with fail
    refine (HU.out _).mono ?_
    rintro e w1 ⟨rfl, hb1⟩
    have HB1 := Lib.hid (((Below.refl w.heap.size w).alloc (Nat.le_refl _) _).trans (hb1.mono (by rw [World.size_alloc]; omega)))
    clear hb1
    go_wp2_with fail
    refine (HW.out _).mono ?_
    rintro e w2 ⟨rfl, hb2⟩
    have HB2 := Lib.hid (HB1.out.trans (hb2.mono HB1.out.size))
    clear hb2
    go_wp2_with fail
    go_ret
    exact ⟨rfl, HB2.out⟩
  · have e1 : (kd == 26) = false := by simpa using h26
    clear hl
    go_enter Tryz.func20, Tryz.ntmps20
    go_wp2
    go_ret
    exact ⟨rfl, (Below.refl _ _).alloc (Nat.le_refl _) _⟩
end Go.Proofs.YtoeahdefgblmoaaGreatDoor

