/-
  The walk of the law FnSumSimplifyGroupsByUnit.
-/
import Derived.Test.YtnoghiefpdbpbaaGreatFmtR
import Derived.Test.YtnoghiefpdbpbaaGreatFmtS
import Derived.Test.YtnoghiefpdbpbaaGreatFmtI
namespace Go.Proofs.YtnoghiefpdbpbaaGreatFmt
open Go.RowKit Go.Deep Go.PlainAid

set_option maxHeartbeats 400000 in
theorem clone_strings (a : Option Addr) (cap : Nat) (xs : List ByteArray) (w : World) (hs : Slc Value.string ByteArray.empty w a xs) (hl : xs.length ≤ 1048576) :
    Calls Tryz.prog 10 #[.slice a xs.length cap] w (Cloned Value.string ByteArray.empty xs w) := by
  rcases a with _ | ad
  · have h0 : xs = [] := by
      cases xs with
      | nil => rfl
      | cons x l => obtain ⟨b, off, e, _⟩ := hs 0 (by simp); cases e
    subst h0
    have q := fun (W : World) (n c : Nat) => Lib.run_eql_slice_nil (P := Tryz.prog) W 22 9 none n c 0 0 Tryz.underlying22
    go_enter Tryz.func10, Tryz.ntmps10
    go_wp2
    go_ret
    exact ⟨none, 0, rfl, (fun i h => by cases h), Below.refl _ _⟩
  · have HS := Lib.hid hs
    clear hs
    obtain ⟨len, hlen⟩ : ∃ len, len = xs.length := ⟨_, rfl⟩
    rw [← hlen] at hl ⊢
    have HL := Lib.hid hlen
    clear hlen
    have q := fun (W : World) (n c : Nat) => Lib.run_eql_slice_nil (P := Tryz.prog) W 22 9 (some ad) n c 0 0 Tryz.underlying22
    have hmk := fun W => run_make_row' (P := Tryz.prog) 22 9 (Value.string ⟨#[]⟩) 16 Tryz.underlying22 info9 rfl .i64 .i64 len (by omega) (by omega) W
    go_enter Tryz.func10, Tryz.ntmps10
    go_wp2
    go_loopw [4] (fun i wr => ∃ k : Nat, k ≤ len ∧ i = .int .i64 k ∧ Hid (wr.rowIs w.heap.size 9 len (fun j => if j < k then Value.string (xs.getD j ByteArray.empty) else Value.string ⟨#[]⟩)) ∧ Hid (Below w.heap.size w wr)) (fun i _ => len - (intOf i).toNat)
    case atStart => exact ⟨0, by omega, rfl, (World.rowIs_made _ _ _ _).congr (fun i _ => by simp), (Below.refl _ _).alloc (Nat.le_refl _) _⟩
    case round =>
      obtain ⟨k, hk, rfl, hr, hb⟩ := hrel
      by_cases hlt : k < len
      · obtain ⟨b, off, e, hc⟩ := HS.out k (by rw [← HL.out]; exact hlt)
        injection e with e
        subst e
        obtain ⟨x, hsk⟩ : ∃ s, s = xs.getD k ByteArray.empty := ⟨_, rfl⟩
        rw [← hsk] at hc
        have HX := Lib.hid hsk
        clear hsk
        have hcx : wr.cell? ⟨b, off + k, none⟩ = some (Value.string x) := cell_later hb.out hc
        have hrow : wr.cell? ⟨w.heap.size, k, none⟩ = some (Value.string ⟨#[]⟩) := by rw [hr.out.cell hlt]; simp
        have hfz : wr.frozen? ⟨w.heap.size, k, none⟩ = false := hr.out.frozen k
        go_wp2
        go_roundw
        case rel => exact ⟨k + 1, by omega, by go_num, (hr.out.set k (Value.string x)).congr (fun j hj => by
          by_cases hjk : j = k
          · subst hjk; rw [if_pos rfl, if_pos (by omega), HX.out]
          · rw [if_neg hjk]
            by_cases h2 : j < k
            · rw [if_pos h2, if_pos (by omega)]
            · rw [if_neg h2, if_neg (by omega)]), hb.out.setCell (Nat.le_refl _) _⟩
        case measure => simp [intOf]; omega
      · obtain rfl : k = len := by omega
        go_wp2
        go_ret
        exact ⟨some ⟨w.heap.size, 0, none⟩, k, by rw [← HL.out]; rfl, fun i hi => ⟨w.heap.size, 0, rfl, by
          rw [Nat.zero_add, hr.out.cell (by rw [HL.out]; exact hi), if_pos (by rw [HL.out]; exact hi)]⟩, hb.out⟩


theorem row_later {w w' : World} {T n : Nat} {t : TypeId} {f : Nat → Value} (h : w.rowIs T t n f) (hb : Below w.heap.size w w') : w'.rowIs T t n f := by
  obtain ⟨cur, h1, h2, h3⟩ := h
  exact ⟨cur, (hb.block T (Array.getElem?_eq_some_iff.1 h1).1).trans h1, h2, h3⟩

/-- What the law has gathered of the first k terms: the groups' first spellings and their sums. -/
structure Got (us : List ByteArray) (κ : Nat → List Int) (zs gv : Nat → Nat) (U F n k m : Nat) (W : World) : Prop where
  len : (grp κ (List.range k)).length = m
  rowU : W.rowIs U 9 n (fun q => .string (if q < m then us.getD (hd (grp κ (List.range k)) q) ByteArray.empty else ⟨#[]⟩))
  rowF : W.rowIs F 33 n (fun q => fl (if q < m then gv q else 0))
  sum : ∀ q, q < m → Sums (((grp κ (List.range k)).getD q []).map zs) (gv q)


theorem hd_set {G : List (List Nat)} {g : List Nat} {a : Nat} (ha : a < G.length) (hg : g.headD 0 = hd G a) (q : Nat) : hd (G.set a g) q = hd G q := by
  by_cases e : q = a
  · subst e
    rw [← hg]
    unfold hd
    rw [List.getD_eq_getElem?_getD, List.getElem?_set_self ha]
    rfl
  · unfold hd
    rw [List.getD_eq_getElem?_getD, List.getElem?_set_ne (Ne.symm e), ← List.getD_eq_getElem?_getD]

theorem Got.found {us : List ByteArray} {κ : Nat → List Int} {zs gv : Nat → Nat} {U F n k m jn : Nat} {W W' W0 : World} (h : Got us κ zs gv U F n k m W) (hj : jn < m) (he : κ (hd (grp κ (List.range k)) jn) = κ k)
    (hn : ∀ q, q < jn → κ (hd (grp κ (List.range k)) q) ≠ κ k) (rU : W'.rowIs U 9 n (fun q => .string (if q < m then us.getD (hd (grp κ (List.range k)) q) ByteArray.empty else ⟨#[]⟩)))
    (rF : W'.rowIs F 33 n (fun q => if q = jn then fl (fR .add (gv jn) (zs k) W0) else fl (if q < m then gv q else 0))) :
    Got us κ zs (fun q => if q = jn then fR .add (gv jn) (zs k) W0 else gv q) U F n (k + 1) m W' := by
  have hl := h.len
  have hg : grp κ (List.range (k + 1)) = (grp κ (List.range k)).set jn ((grp κ (List.range k)).getD jn [] ++ [k]) := by
    rw [List.range_succ]
    exact grp_found κ k k _ (by simp) jn (by omega) he hn
  have hne : (grp κ (List.range k)).getD jn [] ≠ [] := by
    rw [List.getD_eq_getElem?_getD, List.getElem?_eq_getElem (by omega)]
    exact grp_pos κ k _ (by simp) _ (List.getElem_mem _)
  have hhd : ((grp κ (List.range k)).getD jn [] ++ [k]).headD 0 = hd (grp κ (List.range k)) jn := by
    unfold hd
    cases hc : (grp κ (List.range k)).getD jn [] with
    | nil => exact absurd hc hne
    | cons y l => rfl
  refine ⟨by rw [hg, List.length_set]; exact hl, rU.congr (fun q _ => ?_), rF.congr (fun q _ => ?_), fun q hq => ?_⟩
  · rw [hg, hd_set (by omega) hhd]
  · by_cases e : q = jn
    · subst e; rw [if_pos rfl, if_pos hj, if_pos rfl]
    · rw [if_neg e]
      by_cases h2 : q < m
      · rw [if_pos h2, if_pos h2, if_neg e]
      · rw [if_neg h2, if_neg h2]
  · rw [hg]
    by_cases e : q = jn
    · subst e
      rw [List.getD_eq_getElem?_getD, List.getElem?_set_self (by omega)]
      simp only [if_pos, Option.getD_some, List.map_append]
      exact Sums.snoc _ (zs k) _ W0 (h.sum q hq)
    · rw [List.getD_eq_getElem?_getD, List.getElem?_set_ne (Ne.symm e), ← List.getD_eq_getElem?_getD]
      simp only [if_neg e]
      exact h.sum q hq

theorem Got.fresh {us : List ByteArray} {κ : Nat → List Int} {zs gv : Nat → Nat} {U F n k m : Nat} {W W' : World} (h : Got us κ zs gv U F n k m W)
    (hn : ∀ q, q < m → κ (hd (grp κ (List.range k)) q) ≠ κ k) (rU : W'.rowIs U 9 n (fun q => if q = m then .string (us.getD k ByteArray.empty) else .string (if q < m then us.getD (hd (grp κ (List.range k)) q) ByteArray.empty else ⟨#[]⟩)))
    (rF : W'.rowIs F 33 n (fun q => if q = m then fl (zs k) else fl (if q < m then gv q else 0))) :
    Got us κ zs (fun q => if q = m then zs k else gv q) U F n (k + 1) (m + 1) W' := by
  have hl := h.len
  have hg : grp κ (List.range (k + 1)) = grp κ (List.range k) ++ [[k]] := by
    rw [List.range_succ]
    exact grp_new κ k k _ (by simp) (fun b hb => hn b (by omega))
  refine ⟨by rw [hg, List.length_append]; simp; exact hl, rU.congr (fun q _ => ?_), rF.congr (fun q _ => ?_), fun q hq => ?_⟩
  · rw [hg, hd_snoc, hl]
    by_cases e : q = m
    · subst e; rw [if_pos rfl, if_pos (by omega), if_neg (by omega), if_pos rfl]; rfl
    · rw [if_neg e]
      by_cases h2 : q < m
      · rw [if_pos h2, if_pos (by omega), if_pos h2]
      · rw [if_neg h2, if_neg (by omega)]
  · by_cases e : q = m
    · subst e; rw [if_pos rfl, if_pos (by omega), if_pos rfl]
    · rw [if_neg e]
      by_cases h2 : q < m
      · rw [if_pos h2, if_pos (by omega), if_neg e]
      · rw [if_neg h2, if_neg (by omega)]
  · rw [hg, getD_snoc, hl]
    by_cases e : q = m
    · subst e
      simp only [if_pos, Nat.lt_irrefl, if_false]
      exact Sums.one _
    · rw [if_pos (by omega)]
      simp only [if_neg e]
      exact h.sum q (by omega)

theorem Got.drewN {us : List ByteArray} {κ : Nat → List Int} {zs gv : Nat → Nat} {U F n k m : Nat} {W : World} (h : Got us κ zs gv U F n k m W) (q : Nat) : Got us κ zs gv U F n k m (W.drewN q) := ⟨h.len, h.rowU, h.rowF, h.sum⟩

theorem mk0 (t e : TypeId) (z : Value) (b : Nat) (hu : Tryz.prog.underlying t = some (.slice e)) (hi : (Tryz.prog.info? e).map (fun i => (i.zero, i.size, i.bytes)) = some (some z, 1, b)) (n : Nat) (h1 : b * n ≤ 281474976710656) (h2 : n ≤ 9223372036854775807) (W : World) :
    (Instr.makeSlice t (.int .i64 0) (.int .i64 (n : Int))).run Tryz.prog W = .ok (.slice (some ⟨W.heap.size, 0, none⟩) 0 n) (W.alloc (.cells (madeCells z.cells n) e)) := by
  have h := make0 W t e z 1 b hu hi n h1 h2
  rw [Nat.mul_one] at h
  exact h

set_option maxHeartbeats 4000000 in
set_option maxRecDepth 100000 in
/-- The law's walk, over lengths that are letters. -/
theorem law3 (a0 a1 a2 : Option Addr) (cap0 cap1 cap2 n0 n1 n2 : Nat) (us : List ByteArray) (xs : List Nat) (fs : List Bool) (W : World) (κ : Nat → List Int) (hul : us.length = n0) (hxl : xs.length = n1) (hfl : fs.length = n2) (hU0 : Slc Value.string ByteArray.empty W a0 us)
    (h7 : Calls Tryz.prog 7 #[.slice a0 n0 cap0, .slice a1 n1 cap1, .slice a2 n2 cap2] W (SomeBool (fun b => b = true → n0 ≤ 1048576 ∧ n1 ≤ 1048576 ∧ n2 ≤ 1048576 ∧ ∀ i, i < n0 → (us.getD i ByteArray.empty).size ≤ 1048576) W))
    (h8 : n0 ≤ 1048576 → n1 ≤ 1048576 → n2 ≤ 1048576 → (∀ i, i < n0 → (us.getD i ByteArray.empty).size ≤ 1048576) → Calls Tryz.prog 8 #[.slice a0 n0 cap0, .slice a1 n1 cap1, .slice a2 n2 cap2] W (SomeInt (fun _ => True) W))
    (h9 : ∀ i, (us.getD i ByteArray.empty).size ≤ 1048576 → ∀ V, Calls Tryz.prog 9 #[.string (us.getD i ByteArray.empty)] V (SomeBool (fun b => b = true → Asc (us.getD i ByteArray.empty)) V))
    (h10 : n0 ≤ 1048576 → Calls Tryz.prog 10 #[.slice a0 n0 cap0] W (Cln Value.string ByteArray.empty us n0 W))
    (h11 : n1 ≤ 1048576 → ∀ V, Below W.heap.size W V → Calls Tryz.prog 11 #[.slice a1 n1 cap1] V (Cln fl 0 xs n1 V))
    (h12 : n2 ≤ 1048576 → ∀ V, Below W.heap.size W V → Calls Tryz.prog 12 #[.slice a2 n2 cap2] V (Cln Value.bool false fs n2 V))
    (h13 : n0 ≤ 1048576 → n1 = n0 → n2 = n0 → (∀ i, i < n0 → Asc (us.getD i ByteArray.empty) ∧ (us.getD i ByteArray.empty).size ≤ 1048576) → ∀ V b0 b1 b2 d0 d1 d2, Slc Value.string ByteArray.empty V b0 us → Slc fl 0 V b1 xs → Slc Value.bool false V b2 fs →
      Calls Tryz.prog 13 #[.slice b0 n0 d0, .slice b1 n0 d1, .slice b2 n0 d2, .int .i64 (-1)] V (SumOut κ us (mz xs fs n0) n0 V))
    (h14 : ∀ i j, (us.getD i ByteArray.empty).size ≤ 1048576 → ∀ V, Calls Tryz.prog 14 #[.string (us.getD i ByteArray.empty), .string (us.getD j ByteArray.empty)] V (Drew (κ i == κ j) V)) :
    Calls Tryz.prog 3 #[.slice a0 n0 cap0, .slice a1 n1 cap1, .slice a2 n2 cap2] W fun e w' => e = .returned (.bool true) ∧ Below W.heap.size W w' := by
  have H7 := Lib.hid h7
  have H8 := Lib.hid h8
  have H9 := Lib.hid h9
  have H10 := Lib.hid h10
  have H11 := Lib.hid h11
  have H12 := Lib.hid h12
  have H13 := Lib.hid h13
  have H14 := Lib.hid h14
  have HU0 := Lib.hid hU0
  have HL := Lib.hid (And.intro hul (And.intro hxl hfl))
  clear h7 h8 h9 h10 h11 h12 h13 h14 hU0 hul hxl hfl
  go_enter Tryz.func3, Tryz.ntmps3
  go_wp2_with fail
  refine H7.out.mono ?_
  rintro e w' ⟨b, hb, rfl, rfl⟩
  cases b
  · go_wp2_with fail
    go_ret
    exact ⟨rfl, Below.refl _ _⟩
  obtain ⟨l0, l1, l2, ls⟩ := hb rfl
  have HS := Lib.hid ls
  clear hb ls
  go_wp2_with fail
  refine (H8.out l0 l1 l2 HS.out).mono ?_
  rintro e w' ⟨b8, _, rfl, rfl⟩
  by_cases hbig : (1048576 : Int) < b8
  · go_wp2_with fail
    go_ret
    exact ⟨rfl, Below.refl _ _⟩
  by_cases h40 : (4096 : Int) < (n0 : Int)
  · go_wp2_with fail
    go_ret
    exact ⟨rfl, Below.refl _ _⟩
  by_cases h41 : (4096 : Int) < (n1 : Int)
  · go_wp2_with fail
    go_ret
    exact ⟨rfl, Below.refl _ _⟩
  by_cases h42 : (4096 : Int) < (n2 : Int)
  · go_wp2_with fail
    go_ret
    exact ⟨rfl, Below.refl _ _⟩
  by_cases hne1 : n1 = n0
  rotate_left
  · have hne' : ((n0 : Int) != (n1 : Int)) = true := by simp; omega
    go_wp2_with fail
    go_ret
    exact ⟨rfl, Below.refl _ _⟩
  subst hne1
  by_cases hne2 : n2 = n1
  rotate_left
  · have hne' : ((n2 : Int) != (n1 : Int)) = true := by simp; omega
    go_wp2_with fail
    go_ret
    exact ⟨rfl, Below.refl _ _⟩
  subst hne2
  go_wp2_with fail
  go_loop [7] (fun i => ∃ k : Nat, k ≤ n2 ∧ i = .int .i64 k ∧ Hid (∀ j, j < k → Asc (us.getD j ByteArray.empty))) (fun i => n2 - (intOf i).toNat)
  case atStart => exact ⟨0, Nat.zero_le _, rfl, fun j hj => absurd hj (Nat.not_lt_zero _)⟩
  case round =>
    obtain ⟨k, hk, rfl, hA⟩ := hrel
    by_cases hlt : k < n2
    · obtain ⟨b, o, e, hc⟩ := HU0.out k (by rw [HL.out.1]; exact hlt)
      subst e
      have h9 := H9.out k (HS.out k hlt)
      obtain ⟨u, eu⟩ : ∃ u, u = us.getD k ByteArray.empty := ⟨_, rfl⟩
      rw [← eu] at hc h9
      have H9k := Lib.hid h9
      have HE := Lib.hid eu
      clear h9 eu
      have k1 : (k : Int) < (n2 : Int) := by omega
      go_wp2_with fail
      refine (H9k.out _).mono ?_
      rintro e w' ⟨b, hb, rfl, rfl⟩
      cases b
      · go_wp2_with fail
        go_ret
        exact ⟨rfl, Below.refl _ _⟩
      · have HB := Lib.hid (hb rfl)
        clear hb
        go_wp2_with fail
        go_round
        case rel => exact ⟨k + 1, by omega, by go_num, fun j hj => by
          rcases Nat.lt_or_ge j k with h | h
          · exact hA.out j h
          · obtain rfl : j = k := by omega
            rw [← HE.out]; exact HB.out⟩
        case measure => simp [intOf]; omega
    · obtain rfl : k = n2 := by omega
      have HAS := Lib.hid (fun i hi => And.intro (hA.out i hi) (HS.out i hi))
      go_wp2_with fail
      refine (H10.out l0).mono ?_
      rintro e w1 ⟨b0, d0, rfl, hX1, hB1⟩
      have HU1 := Lib.hid hX1
      have HB1 := Lib.hid hB1
      clear hX1 hB1
      go_wp2_with fail
      refine (H11.out l1 _ HB1.out).mono ?_
      rintro e w2 ⟨b1, d1, rfl, hX2, hB2⟩
      have HX2 := Lib.hid hX2
      have HU2 := Lib.hid (HU1.out.below hB2)
      have HB2 := Lib.hid (HB1.out.trans (hB2.mono HB1.out.size))
      clear hX2 hB2 HU1 HB1
      go_wp2_with fail
      refine (H12.out l2 _ HB2.out).mono ?_
      rintro e w3 ⟨b2, d2, rfl, hF3, hB3⟩
      have HF3 := Lib.hid hF3
      have HX3 := Lib.hid (HX2.out.below hB3)
      have HU3 := Lib.hid (HU2.out.below hB3)
      have HB3 := Lib.hid (HB2.out.trans (hB3.mono HB2.out.size))
      clear hF3 hB3 HU2 HX2 HB2
      obtain ⟨n, en⟩ : ∃ n, n = k := ⟨_, rfl⟩
      subst en
      have h13 := H13.out l0 trivial trivial HAS.out w3 b0 b1 b2 d0 d1 d2 HU3.out HX3.out HF3.out
      have HZ : ∀ i, (us.getD i ByteArray.empty).size ≤ 1048576 := fun i => by
        by_cases h : i < n
        · exact HS.out i h
        · rw [List.getD_eq_getElem?_getD, List.getElem?_eq_none (by rw [HL.out.1]; omega)]
          exact Nat.zero_le _
      have H14 := Lib.hid (fun i j => H14.out i j (HZ i))
      have H13' := Lib.hid h13
      clear HZ h13 H13 H7 H8 H9 H10 H11 H12 HU0 hA HAS
      go_wp2_with fail
      refine H13'.out.mono ?_
      intro e w4 hsum
      unfold SumOut at hsum
      obtain ⟨g, eg⟩ : ∃ g, g = (grp κ (List.range n)).length := ⟨_, rfl⟩
      rw [← eg] at hsum
      obtain ⟨hB4, U4, F4, vs, rfl, hc4⟩ := hsum
      obtain ⟨kd, ekd⟩ : ∃ kd : Int, kd = if g = 1 then 1 else 2 := ⟨_, rfl⟩
      rw [← ekd]
      have HK := Lib.hid ekd
      have HG := Lib.hid eg
      have HC4 := Lib.hid hc4
      have HU4 := Lib.hid (HU3.out.below hB4)
      have HX4 := Lib.hid (HX3.out.below hB4)
      have HF4 := Lib.hid (HF3.out.below hB4)
      have HB4 := Lib.hid (HB3.out.trans (hB4.mono HB3.out.size))
      clear ekd eg hc4 hB4 HU3 HX3 HF3 HB3 H13'
      have hm1 := mk0 22 9 (.string ⟨#[]⟩) 16 Tryz.underlying22 info9 n (by omega) (by omega)
      have hm2 := mk0 23 33 (.float .f64 0) 8 Tryz.underlying23 info33 n (by omega) (by omega)
      go_wp2_with fail
      clear hm1 hm2
      go_loopw [11, 12, 13] (fun gu gn i wr => ∃ (k m : Nat) (gv : Nat → Nat), k ≤ n ∧ m ≤ k ∧ i = .int .i64 k ∧ gu = .slice (some ⟨w4.heap.size, 0, none⟩) m n ∧ gn = .slice (some ⟨w4.heap.size + 1, 0, none⟩) m n ∧
        Hid (Got us κ (mz xs fs n) gv w4.heap.size (w4.heap.size + 1) n k m wr) ∧ Hid (Below w4.heap.size w4 wr)) (fun _ _ i _ => n - (intOf i).toNat)
      case atStart =>
        refine ⟨0, 0, fun _ => 0, by omega, by omega, rfl, rfl, rfl, ⟨rfl, ?_, ?_, fun q hq => absurd hq (Nat.not_lt_zero _)⟩, ((Below.refl _ _).alloc (Nat.le_refl _) _).alloc (by rw [World.size_alloc]; omega) _⟩
        · exact ((World.rowIs_made w4 (.string ⟨#[]⟩) n 9).alloc _).congr (fun i _ => by rw [if_neg (by omega)])
        · have h := World.rowIs_made (w4.alloc (.cells (madeCells #[.string ⟨#[]⟩] n) 9)) (.float .f64 0) n 33
          rw [World.size_alloc] at h
          exact h.congr (fun i _ => by rw [if_neg (by omega)])
      case round =>
        obtain ⟨k, m, gv, hk, hmk, rfl, rfl, rfl, hGot, hb⟩ := hrel
        have hbz := hb.out.size
        by_cases hlt : k < n
        · obtain ⟨bx, ox, e, hcx⟩ := (HX4.out.below hb.out) k (by rw [HL.out.2.1]; exact hlt)
          subst e
          obtain ⟨bf, of, e, hcf⟩ := (HF4.out.below hb.out) k (by rw [HL.out.2.2]; exact hlt)
          subst e
          obtain ⟨bu, ou, e, hcu⟩ := HU4.out k (by rw [HL.out.1]; exact hlt)
          subst e
          obtain ⟨x, ex⟩ : ∃ x, x = xs.getD k 0 := ⟨_, rfl⟩
          obtain ⟨f, ef⟩ : ∃ f, f = fs.getD k false := ⟨_, rfl⟩
          obtain ⟨u, eu⟩ : ∃ u, u = us.getD k ByteArray.empty := ⟨_, rfl⟩
          rw [← ex] at hcx
          rw [← ef] at hcf
          rw [← eu] at hcu
          have HXk := Lib.hid hcx
          have HFk := Lib.hid hcf
          have HCU := Lib.hid hcu
          have h14 := fun i => H14.out i k
          rw [← eu] at h14
          have H14k := Lib.hid h14
          have HE := Lib.hid (And.intro ex (And.intro ef eu))
          have hkn : (k : Int) < (n : Int) := by omega
          have hneg := fun (W : World) => run_neg_float (P := Tryz.prog) x W
          clear ex ef eu h14 hcu
          obtain ⟨z, ez⟩ : ∃ z, z = ng x f := ⟨_, rfl⟩
          have HZ := Lib.hid (show mz xs fs n k = z by unfold mz; rw [if_pos hlt, ← HE.out.1, ← HE.out.2.1, ez])
          cases f
          all_goals unfold ng at ez
          all_goals first
            | (rw [if_neg Bool.false_ne_true] at ez; subst ez)
            | (rw [if_pos rfl] at ez; rw [← ez] at hneg)
          all_goals
            clear hcx hcf
            have hcx := HXk.out
            have hcf := HFk.out
            go_wp2_with fail
            try rw [← ez]
            try clear ez
            obtain ⟨Wa, eWa⟩ : ∃ Wa, Wa = wr := ⟨_, rfl⟩
            subst eWa
            go_loopw [15, 16] (fun fo j wr => ∃ jn : Nat, jn ≤ m ∧ fo = .int .i64 (-1) ∧ j = .int .i64 jn ∧ Hid (∀ q, q < jn → κ (hd (grp κ (List.range k)) q) ≠ κ k) ∧
              Hid (Got us κ (mz xs fs n) gv w4.heap.size (w4.heap.size + 1) n k m wr) ∧ Hid (Below w4.heap.size w4 wr)) (fun _ j _ => m - (intOf j).toNat)
            case atStart => exact ⟨0, Nat.zero_le _, rfl, rfl, fun q hq => absurd hq (Nat.not_lt_zero _), hGot.out, hb.out⟩
            case round =>
              clear hcx hcf
              obtain ⟨jn, hj, rfl, rfl, hN, hGot2, hb2⟩ := hrel
              have hbz2 := hb2.out.size
              have hcu : wr.cell? ⟨bu, ou + k, none⟩ = some (.string u) := cell_later hb2.out HCU.out
              have hbu : bu < w4.heap.size := World.block_lt_of_cell? _ _ HCU.out
              by_cases hjm : jn < m
              · have cg := hGot2.out.rowU.cell (i := jn) (by omega)
                rw [if_pos hjm] at cg
                obtain ⟨hh, ehh⟩ : ∃ h, h = hd (grp κ (List.range k)) jn := ⟨_, rfl⟩
                rw [← ehh] at cg
                have h14 := H14k.out hh
                obtain ⟨ug, eug⟩ : ∃ ug, ug = us.getD hh ByteArray.empty := ⟨_, rfl⟩
                rw [← eug] at cg h14
                have hjmi : (jn : Int) < (m : Int) := by omega
                have HHH := Lib.hid ehh
                clear ehh eug
                cases hkk : (κ hh == κ k)
                · rw [hkk] at h14
                  have H14j := Lib.hid h14
                  clear h14
                  go_wp2_with fail
                  go_quiet (first | (go_at_call 14; exact (H14j.out _).mono fun _ _ h => ⟨h.1, by obtain ⟨m, e⟩ := h.2; exact ⟨_, e.trans (World.drewN_drewN _ _ _)⟩⟩))
                  go_wp2_with fail
                  go_roundw
                  case rel => exact ⟨jn + 1, by omega, rfl, by go_num, fun q hq => by
                    rcases Nat.lt_or_ge q jn with h | h
                    · exact hN.out q h
                    · obtain rfl : q = jn := by omega
                      rw [← HHH.out]
                      simpa using hkk, hGot2.out.drewN _, below_drewN hb2.out _⟩
                  case measure => simp [intOf]; omega
                · rw [hkk] at h14
                  have H14j := Lib.hid h14
                  clear h14
                  have cf := hGot2.out.rowF.cell (i := jn) (by omega)
                  rw [if_pos hjm] at cf
                  obtain ⟨gj, egj⟩ : ∃ gj, gj = gv jn := ⟨_, rfl⟩
                  rw [← egj] at cf
                  have fF := hGot2.out.rowF.frozen jn
                  have hadd := fun (W : World) => run_fop (P := Tryz.prog) (Or.inr (Or.inr rfl)) 33 gj z W
                  have EG := Lib.hid egj
                  clear egj
                  go_wp2_with fail
                  go_quiet (first | (go_at_call 14; exact (H14j.out _).mono fun _ _ h => ⟨h.1, by obtain ⟨m, e⟩ := h.2; exact ⟨_, e.trans (World.drewN_drewN _ _ _)⟩⟩))
                  go_wp2_with fail
                  go_roundw
                  case rel =>
                    refine ⟨k + 1, m, fun q => if q = jn then fR .add (gv jn) (mz xs fs n k) (wr.drewN nq) else gv q, by omega, by omega, by go_num, rfl, rfl, ?_, (below_drewN hb2.out _).setCell (by show w4.heap.size ≤ w4.heap.size + 1; omega) _⟩
                    refine Got.found (W0 := wr.drewN nq) hGot2.out hjm (by rw [← HHH.out]; simpa using hkk) hN.out (row_other (hGot2.out.drewN _).rowU (show w4.heap.size ≠ w4.heap.size + 1 by omega)) ?_
                    rw [HZ.out, ← EG.out]
                    exact (hGot2.out.drewN _).rowF.set jn _
                  case measure => simp [intOf]; omega
              · obtain rfl : jn = m := by omega
                have cg := hGot2.out.rowU.cell (i := jn) (by omega)
                rw [if_neg (by omega)] at cg
                have cf := hGot2.out.rowF.cell (i := jn) (by omega)
                rw [if_neg (by omega)] at cf
                have fU := hGot2.out.rowU.frozen jn
                have fF := hGot2.out.rowF.frozen jn
                have lU := World.block_lt_of_cell? _ _ cg
                have lF := World.block_lt_of_cell? _ _ cf
                simp only at lU lF
                have n1 : ∀ i j, (⟨w4.heap.size, i, none⟩ : Addr) ≠ ⟨w4.heap.size + 1, j, none⟩ := fun i j e => by injection e; omega
                have n2 : ∀ i j, (⟨w4.heap.size, i, none⟩ : Addr) ≠ ⟨bu, j, none⟩ := fun i j e => by injection e; omega
                have hlu : bu < wr.heap.size := by omega
                have hjni : (jn : Int) < (n : Int) := by omega
                go_wp2_with fail
                go_roundw
                case rel =>
                  have z4 : ((wr.setCell ⟨w4.heap.size, jn, none⟩ (.string u)).setCell ⟨w4.heap.size + 1, jn, none⟩ (.float .f64 z)).heap.size = wr.heap.size := by rw [World.size_setCell, World.size_setCell]
                  refine ⟨k + 1, jn + 1, fun q => if q = jn then mz xs fs n k else gv q, by omega, by omega, by go_num, rfl, rfl, ?_,
                    (((hb2.out.setCell (Nat.le_refl _) _).setCell (by show w4.heap.size ≤ w4.heap.size + 1; omega) _).alloc (by rw [z4]; omega) _).alloc (by rw [World.size_alloc, z4]; omega) _⟩
                  refine Got.fresh hGot2.out hN.out ?_ ?_
                  · rw [← HE.out.2.2]
                    exact ((row_other (hGot2.out.rowU.set jn (.string u)) (show w4.heap.size ≠ w4.heap.size + 1 by omega)).alloc _).alloc _
                  · rw [HZ.out]
                    exact (((row_other hGot2.out.rowF (show w4.heap.size + 1 ≠ w4.heap.size by omega)).set jn (fl z)).alloc _).alloc _
                case measure => simp [intOf]; omega
        · obtain ⟨kn, ekn⟩ : ∃ kn, kn = n := ⟨_, rfl⟩
          subst ekn
          obtain rfl : k = kn := by omega
          have hml := hGot.out.len
          have hmg : m = g := by rw [HG.out]; exact hml.symm
          subst hmg
          have HGot := hGot
          have HBF := Lib.hid (HB4.out.trans (hb.out.mono HB4.out.size))
          have HC5 := Lib.hid (fun q hq => And.intro (cell_later hb.out (HC4.out q hq).1) (And.intro (cell_later hb.out (HC4.out q hq).2.1) (HC4.out q hq).2.2))
          clear hml hGot HC4
          by_cases hm1 : m = 1
          · subst hm1
            have hk1 : kd = 1 := by rw [HK.out, if_pos rfl]
            subst hk1
            obtain ⟨o0, o1, o2⟩ := HC5.out 0 (by omega)
            have q0 := HGot.out.rowU.cell (i := 0) (by omega)
            have q1 := HGot.out.rowF.cell (i := 0) (by omega)
            rw [if_pos (by omega)] at q0 q1
            have hsim := same_any (vs 0) (gv 0) (sums_sim o2 (gv 0) (HGot.out.sum 0 (by omega)))
            obtain ⟨u0, eu0⟩ : ∃ u0, u0 = us.getD (hd (grp κ (List.range k)) 0) ByteArray.empty := ⟨_, rfl⟩
            obtain ⟨v0, ev0⟩ : ∃ v0, v0 = vs 0 := ⟨_, rfl⟩
            obtain ⟨g0, eg0⟩ : ∃ g0, g0 = gv 0 := ⟨_, rfl⟩
            rw [← eu0] at o0 q0
            rw [← ev0] at o1 hsim
            rw [← eg0] at q1 hsim
            have HSM := Lib.hid hsim
            clear eu0 ev0 eg0 o2 hsim
            go_wp2_with fail
            go_quiet (first | (go_at_call 15; exact Calls.quiet_of_same ((HSM.out _).mono fun _ _ h => ⟨h.1, h.2.symm⟩)))
            go_wp2_with fail
            go_ret
            exact ⟨rfl, below_drewN HBF.out _⟩
          · have hk2 : kd = 2 := by rw [HK.out, if_neg hm1]
            subst hk2
            have hm1' : ((m : Int) == 1) = false := by simp; omega
            go_wp2_with fail
            obtain ⟨Wa, eWa⟩ : ∃ Wa, Wa = wr := ⟨_, rfl⟩
            subst eWa
            go_loopw [17] (fun i wr => ∃ q : Nat, q ≤ m ∧ i = .int .i64 q ∧ Hid (Below Wa.heap.size Wa wr)) (fun i _ => m - (intOf i).toNat)
            case atStart => exact ⟨0, by omega, rfl, Below.refl _ _⟩
            case round =>
              obtain ⟨q, hq, rfl, hb3⟩ := hrel
              by_cases hqm : q < m
              · obtain ⟨o0, o1, o2⟩ := HC5.out q hqm
                have q0 := HGot.out.rowU.cell (i := q) (by omega)
                have q1 := HGot.out.rowF.cell (i := q) (by omega)
                rw [if_pos hqm] at q0 q1
                have p0 := cell_later hb3.out o0
                have p1 := cell_later hb3.out o1
                have p2 := cell_later hb3.out q0
                have p3 := cell_later hb3.out q1
                have hsim := same_any (vs q) (gv q) (sums_sim o2 (gv q) (HGot.out.sum q hqm))
                obtain ⟨u0, eu0⟩ : ∃ u0, u0 = us.getD (hd (grp κ (List.range k)) q) ByteArray.empty := ⟨_, rfl⟩
                obtain ⟨v0, ev0⟩ : ∃ v0, v0 = vs q := ⟨_, rfl⟩
                obtain ⟨g0, eg0⟩ : ∃ g0, g0 = gv q := ⟨_, rfl⟩
                rw [← eu0] at p0 p2
                rw [← ev0] at p1 hsim
                rw [← eg0] at p3 hsim
                have HSM := Lib.hid hsim
                have hqmi : (q : Int) < (m : Int) := by omega
                clear eu0 ev0 eg0 o0 o1 o2 q0 q1 hsim
                go_wp2_with fail
                go_quiet (first | (go_at_call 15; exact Calls.quiet_of_same ((HSM.out _).mono fun _ _ h => ⟨h.1, h.2.symm⟩)))
                go_wp2_with fail
                go_roundw
                case rel => exact ⟨q + 1, by omega, by go_num, below_drewN hb3.out _⟩
                case measure => simp [intOf]; omega
              · obtain rfl : q = m := by omega
                go_wp2_with fail
                go_ret
                exact ⟨rfl, HBF.out.trans (hb3.out.mono HBF.out.size)⟩
end Go.Proofs.YtnoghiefpdbpbaaGreatFmt
