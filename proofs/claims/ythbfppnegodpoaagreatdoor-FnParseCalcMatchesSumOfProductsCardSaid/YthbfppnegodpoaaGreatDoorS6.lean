/-
  append of one node to a row of nodes that has room; zzProductModel, walked.
-/
import Derived.Test.YthbfppnegodpoaaGreatDoorK6
import Derived.Laws.AppendOwn
import Derived.Test.YthbfppnegodpoaaGreatDoorK7
namespace Go.Proofs.YthbfppnegodpoaaGreatDoor
open Go.RowKit Go.Deep Go.PlainAid

theorem info48 : (Tryz.prog.info? 48).map (fun i => (i.zero, i.size, i.bytes)) = some (some (.agg zero48), 8, 88) := by kernel_rfl

def MV.list (m : MV) : List Value := [.int .i64 m.tag, .string m.unit, .float .f64 m.num, .int .u8 m.kind, .string m.text, .int .u8 m.ws, .bool m.inv, m.kids]

theorem append_node {w : World} {T n k A cap : Nat} {ts : Nat → CT} {m : MV} {a : Option Addr} {kn kc : Nat} (h : Kids w T n ts k) (hk : k < n) (hA : MVAt w A 0 m) (em : m.kids = .slice a kn kc) (hm : Mir w (T < ·) m (ts k)) (ty : TypeId) :
    ∃ w', (Builtin.append_ #[46, 46] ty #[.slice (some ⟨T, 0, none⟩) k n, .slice (some ⟨A, 0, none⟩) 1 cap]).run Tryz.prog w = .ok (.slice (some ⟨T, 0, none⟩) (k + 1) n) w' ∧ Kids w' T n ts (k + 1) ∧ w'.heap.size = w.heap.size ∧ Below T w w' := by
  obtain ⟨i, hi, hzz⟩ := Option.map_eq_some_iff.1 info48
  simp only [Prod.mk.injEq] at hzz
  obtain ⟨hz, hs, hb⟩ := hzz
  obtain ⟨f, ms, ⟨cur, hg, hsz, hat⟩, h2⟩ := h
  have hcell : ∀ j u, m.list[j]? = some u → w.cell? ((⟨A, 0, none⟩ : Addr).add j) = some u := fun j u hj => by
    match j, hj with
    | 0, hj => cases hj; exact hA.c0
    | 1, hj => cases hj; exact hA.c1
    | 2, hj => cases hj; exact hA.c2
    | 3, hj => cases hj; exact hA.c3
    | 4, hj => cases hj; exact hA.c4
    | 5, hj => cases hj; exact hA.c5
    | 6, hj => cases hj; exact hA.c6
    | 7, hj => cases hj; exact hA.c7
  have hone : ∀ u ∈ m.list, u.oneCell' = true := fun u hu => by
    unfold MV.list at hu
    simp only [List.mem_cons, List.not_mem_nil, or_false] at hu
    rcases hu with rfl | rfl | rfl | rfl | rfl | rfl | rfl | rfl
    all_goals first | rfl | (rw [em]; rfl)
  have hll : m.list.length = 8 := rfl
  have hr := run_append_room (P := Tryz.prog) w 46 ty 48 i Tryz.underlying46 hi T k n cur hg ⟨A, 0, none⟩ 1 cap m.list (by rw [hs]; rfl) hcell hone (by omega) (by rw [hs, hsz, hll]; omega)
  have hkeep : Keeps (T < ·) w (w.setRow T (cur.toList.take (k * i.size) ++ m.list ++ cur.toList.drop (k * i.size + m.list.length)).toArray) := fun b o x hb hx => by
    unfold World.cell? at hx ⊢
    rw [setRow_other w T b _ (Nat.ne_of_gt hb)]
    exact hx
  refine ⟨_, hr, ⟨fun j => if k * 8 ≤ j ∧ j < k * 8 + 8 then m.list.getD (j - k * 8) .nilIface else f j, fun j => if j = k then m else ms j, ⟨_, setRow_heap w T cur _ 48 _ hg, ?_, ?_⟩, fun j hj => ?_⟩, ?_, ⟨rfl, rfl, rfl, ?_, fun b hb => setRow_other w T b _ (Nat.ne_of_lt hb)⟩⟩
  · rw [hs]
    simp only [List.size_toArray, List.length_append, List.length_take, List.length_drop, Array.length_toList, hll]
    omega
  · intro j hj
    rw [hs, List.getElem?_toArray]
    show _ = some (if k * 8 ≤ j ∧ j < k * 8 + 8 then m.list.getD (j - k * 8) .nilIface else f j)
    have hl1 : (cur.toList.take (k * 8)).length = k * 8 := by rw [List.length_take, Array.length_toList]; omega
    by_cases h1 : j < k * 8
    · rw [List.append_assoc, List.getElem?_append_left (by omega), List.getElem?_take_of_lt h1, Array.getElem?_toList, hat j hj, if_neg (by omega)]
    · rw [List.append_assoc, List.getElem?_append_right (by omega), hl1]
      by_cases e0 : j < k * 8 + 8
      · rw [if_pos ⟨by omega, e0⟩, List.getElem?_append_left (by omega), List.getD_eq_getElem?_getD, List.getElem?_eq_getElem (by omega), Option.getD_some]
      · rw [if_neg (fun h => e0 h.2), List.getElem?_append_right (by omega), List.getElem?_drop, Array.getElem?_toList, hll, show k * 8 + 8 + (j - k * 8 - 8) = j by omega, hat j hj]
  · by_cases e : j = k
    · subst e
      have ei : (if j = j then m else ms j) = m := if_pos rfl
      dsimp only
      rw [ei]
      have hc : ∀ q, q < 8 → (if j * 8 ≤ j * 8 + q ∧ j * 8 + q < j * 8 + 8 then m.list.getD (j * 8 + q - j * 8) .nilIface else f (j * 8 + q)) = m.list.getD q .nilIface := fun q hq => by
        rw [if_pos ⟨by omega, by omega⟩, Nat.add_sub_cancel_left]
      exact ⟨hc 0 (by omega), hc 1 (by omega), hc 2 (by omega), hc 3 (by omega), hc 4 (by omega), hc 5 (by omega), hc 6 (by omega), hc 7 (by omega), hm.keep hkeep⟩
    · have ei : (if j = k then m else ms j) = ms j := if_neg e
      dsimp only
      rw [ei]
      obtain ⟨a0, a1, a2, a3, a4, a5, a6, a7, a8⟩ := h2 j (by omega)
      have hc : ∀ q, q < 8 → (if k * 8 ≤ j * 8 + q ∧ j * 8 + q < k * 8 + 8 then m.list.getD (j * 8 + q - k * 8) .nilIface else f (j * 8 + q)) = f (j * 8 + q) := fun q hq => if_neg (by omega)
      exact ⟨(hc 0 (by omega)).trans a0, (hc 1 (by omega)).trans a1, (hc 2 (by omega)).trans a2, (hc 3 (by omega)).trans a3, (hc 4 (by omega)).trans a4, (hc 5 (by omega)).trans a5, (hc 6 (by omega)).trans a6, (hc 7 (by omega)).trans a7, a8.keep hkeep⟩
  · simp [World.setRow]
  · simp [World.setRow]

/-- A row of nodes with room, none made. -/
theorem make_room (n : Nat) (hn : n ≤ 16384) (w : World) : (Instr.makeSlice 46 (.int .i64 0) (.int .i64 (n : Int))).run Tryz.prog w = .ok (.slice (some ⟨w.heap.size, 0, none⟩) 0 n) (w.alloc (.cells (madeCells zero48 (n * 8)) 48)) := by
  obtain ⟨i, hi, hzz⟩ := Option.map_eq_some_iff.1 info48
  simp only [Prod.mk.injEq] at hzz
  obtain ⟨hz, hs, hb⟩ := hzz
  have hbb : (i.bytes : Int) * (n : Int) ≤ 281474976710656 := by rw [hb]; omega
  have hr := run_make (P := Tryz.prog) w 46 48 i (.agg zero48) Tryz.underlying46 hi hz .i64 .i64 0 n (by omega) (by omega) hbb (by omega)
  rw [hs, Int.toNat_natCast] at hr
  exact hr

theorem put8_alloc (w : World) (o : Obj) (T k : Nat) (m : MV) (h : T < w.heap.size) : put8 (w.alloc o) T k m = (put8 w T k m).alloc o := by
  unfold put8
  rw [World.setCell_alloc_past _ _ _ _ h, World.setCell_alloc_past _ _ _ _ (by simpa only [World.size_setCell] using h), World.setCell_alloc_past _ _ _ _ (by simpa only [World.size_setCell] using h), World.setCell_alloc_past _ _ _ _ (by simpa only [World.size_setCell] using h),
    World.setCell_alloc_past _ _ _ _ (by simpa only [World.size_setCell] using h), World.setCell_alloc_past _ _ _ _ (by simpa only [World.size_setCell] using h), World.setCell_alloc_past _ _ _ _ (by simpa only [World.size_setCell] using h), World.setCell_alloc_past _ _ _ _ (by simpa only [World.size_setCell] using h)]

/-- The i-th factor of the product that begins at s. -/
def fac (t : Nat → CT) (op : Nat → Int) (s i : Nat) : CT := if i = 0 then t s else if op (s + 2 * i - 1) = 4 then .inv (t (s + 2 * i)) else t (s + 2 * i)

set_option maxHeartbeats 4000000 in
set_option maxRecDepth 100000 in
theorem prodm_one (W : World) (L n s : Nat) (ro : Option Addr) (mf : Nat → MV) (t : Nat → CT) (hs : s < n) (hl : MVAt W L (s * 8) (mf s)) (hm : ∀ W D, Mir W D (mf s) (t s)) :
    Calls Tryz.prog 39 #[.slice (some ⟨L, 0, none⟩) n n, .slice ro n n, .int .i64 s, .int .i64 s] W (Conv (t s) W) := by
  obtain ⟨ka, kn, kc, ek⟩ := (hm W (fun _ => True)).kids
  generalize mf s = m at hl hm ek
  obtain ⟨tag, un, nm, kd, tx, ws, bad, kids⟩ := m
  simp only at ek
  subst ek
  obtain ⟨p0, p1, p2, p3, p4, p5, p6, p7⟩ := hl
  simp only at p0 p1 p2 p3 p4 p5 p6 p7
  have hL : L < W.heap.size := World.block_lt_of_cell? _ _ p0
  have hsn : (s : Int) < (n : Int) := by omega
  have HM := Lib.hid hm
  clear hm
  go_enter Tryz.func39, Tryz.ntmps39
  go_wp2_with fail
  refine bodyPost_ret (v := MV.val ⟨tag, un, nm, kd, tx, ws, bad, .slice ka kn kc⟩) (by simp [results, Tryz.results39, go_sem, MV.val, *]) rfl ⟨_, rfl, (Below.refl _ _).alloc (Nat.le_refl _) _, HM.out _ _⟩

set_option maxHeartbeats 4000000 in
set_option maxRecDepth 100000 in
theorem prodm_many (W : World) (L R n s e : Nat) (mf : Nat → MV) (t : Nat → CT) (op : Nat → Int) (hn : n ≤ 4096) (h0 : 0 < e) (hs : s + 2 * e < n) (hl : ∀ i, i ≤ e → MVAt W L ((s + 2 * i) * 8) (mf (s + 2 * i))) (hm : ∀ i, i ≤ e → ∀ W D, Mir W D (mf (s + 2 * i)) (t (s + 2 * i)))
    (ho : ∀ i, i < n → W.cell? ⟨R, i, none⟩ = some (.int .i64 (op i))) :
    Calls Tryz.prog 39 #[.slice (some ⟨L, 0, none⟩) n n, .slice (some ⟨R, 0, none⟩) n n, .int .i64 s, .int .i64 ((s + 2 * e : Nat) : Int)] W (Conv (.prod ((List.range (e + 1)).map (fac t op s))) W) := by
  have HL := Lib.hid hl
  have HM := Lib.hid hm
  have HO := Lib.hid ho
  obtain ⟨z, ez⟩ : ∃ z, z = s + 2 * e := ⟨_, rfl⟩
  obtain ⟨N, eN⟩ : ∃ N, N = e + 1 := ⟨_, rfl⟩
  rw [← ez, ← eN]
  have hmk := make_room N (by omega)
  have hne : ((s : Int) == (z : Int)) = false := by rw [beq_eq_false_iff_ne]; omega
  have hd : ((z : Int) - (s : Int)) / 2 + 1 = (N : Int) := by omega
  have EZ := Lib.hid (And.intro ez eN)
  have hzn : z < n := by omega
  have hsz : s < z := by omega
  have hN1 : 1 < N := by omega
  have hN2 : N ≤ 4096 := by omega
  have hsn : (s : Int) < (n : Int) := by omega
  obtain ⟨ka, kn, kc, ek⟩ := (hm 0 (Nat.zero_le _) W (fun _ => True)).kids
  have hl0 := hl 0 (Nat.zero_le _)
  rw [Nat.mul_zero, Nat.add_zero] at hl0 ek
  clear hl hm ho ez eN hs h0
  obtain ⟨m, em⟩ : ∃ m, m = mf s := ⟨_, rfl⟩
  rw [← em] at hl0 ek
  have EM := Lib.hid em
  clear em
  obtain ⟨tag, un, nm, kd, tx, ws, bad, kids⟩ := m
  simp only at ek
  subst ek
  obtain ⟨p0, p1, p2, p3, p4, p5, p6, p7⟩ := hl0
  simp only at p0 p1 p2 p3 p4 p5 p6 p7
  have hL : L < W.heap.size := World.block_lt_of_cell? _ _ p0
  have hk1 := (kids_made (W.alloc (.cells zero48 48)) N (fac t op s)).below ((Below.refl _ _).alloc (Nat.le_refl _) (.cells #[.int .i64 tag, .string un, .float .f64 nm, .int .u8 kd, .string tx, .int .u8 ws, .bool bad, .slice ka kn kc] 48))
  have hm0 : ∀ D, Mir ((((W.alloc (.cells zero48 48)).alloc (.cells (madeCells zero48 (N * 8)) 48))).alloc (.cells #[.int .i64 tag, .string un, .float .f64 nm, .int .u8 kd, .string tx, .int .u8 ws, .bool bad, .slice ka kn kc] 48)) D ⟨tag, un, nm, kd, tx, ws, bad, .slice ka kn kc⟩ (fac t op s 0) := fun D => by
    have h := HM.out 0 (Nat.zero_le _) ((((W.alloc (.cells zero48 48)).alloc (.cells (madeCells zero48 (N * 8)) 48))).alloc (.cells #[.int .i64 tag, .string un, .float .f64 nm, .int .u8 kd, .string tx, .int .u8 ws, .bool bad, .slice ka kn kc] 48)) D
    rw [Nat.mul_zero, Nat.add_zero, ← EM.out] at h
    exact h
  have HK1 := Lib.hid (And.intro hk1 hm0)
  have hmz : ∀ q, q < 8 → ∃ y, (madeCells zero48 (N * 8))[q]? = some y := fun q hq => ⟨_, Array.getElem?_eq_getElem (by rw [size_madeCells]; omega)⟩
  obtain ⟨y0, q0⟩ := hmz 0 (by omega)
  obtain ⟨y1, q1⟩ := hmz 1 (by omega)
  obtain ⟨y2, q2⟩ := hmz 2 (by omega)
  obtain ⟨y3, q3⟩ := hmz 3 (by omega)
  obtain ⟨y4, q4⟩ := hmz 4 (by omega)
  obtain ⟨y5, q5⟩ := hmz 5 (by omega)
  obtain ⟨y6, q6⟩ := hmz 6 (by omega)
  obtain ⟨y7, q7⟩ := hmz 7 (by omega)
  unfold zero48 at q0 q1 q2 q3 q4 q5 q6 q7
  clear hk1 hm0 hmz
  unfold zero48 at hmk
  go_enter Tryz.func39, Tryz.ntmps39
  go_wp2_with fail
  have hst := HK1.out.1.step (m := ⟨tag, un, nm, kd, tx, ws, bad, .slice ka kn kc⟩) (Below.refl _ _) (HK1.out.2 _)
  unfold put8 at hst
  unfold zero48 at hst
  simp [go_sem] at hst
  have HST := Lib.hid hst
  clear hst
  go_loopw [9, 10] (fun kv jv wr => ∃ i q : Nat, 1 ≤ i ∧ i ≤ N ∧ kv = .slice (some ⟨W.heap.size + 1, 0, none⟩) i N ∧ jv = .int .i64 q ∧ Hid (q = s + 2 * i) ∧ Hid (Kids wr (W.heap.size + 1) N (fac t op s) i) ∧ Hid (Below (W.heap.size + 1) (W.alloc (.cells zero48 48)) wr)) (fun _ j _ => z + 2 - (intOf j).toNat)
  case atStart =>
    refine ⟨1, s + 2, Nat.le_refl 1, by omega, rfl, by go_num, Lib.hid (by omega), HST, Lib.hid ?_⟩
    exact ((Below.refl _ _).alloc (by simp only [World.size_alloc]; omega) _).alloc (by simp only [World.size_alloc]; omega) _
  case round =>
    obtain ⟨i, q, hi1, hi, rfl, rfl, hq, hk, hc⟩ := hrel
    have hb : Hid (Below W.heap.size W wr) := Lib.hid (((Below.refl _ _).alloc (Nat.le_refl _) _).trans (hc.out.mono (Nat.le_succ _)))
    have hbz := hb.out.size
    have hK := hk.out.lt
    by_cases hlt : i < N
    · have hqz : (q : Int) ≤ (z : Int) := by have h1 := hq.out; have h2 := EZ.out; omega
      obtain ⟨p, ep⟩ : ∃ p, q = p + 1 := ⟨q - 1, by have h1 := hq.out; omega⟩
      have hpn : (p : Int) < (n : Int) := by omega
      have hqn : (q : Int) < (n : Int) := by omega
      have co := cell_later hb.out (HO.out p (by omega))
      have hqp : (q : Int) - 1 = (p : Int) := by omega
      have hie : i ≤ e := by have h2 := EZ.out; omega
      have hlv := HL.out i hie
      have hmv := HM.out i hie
      rw [← hq.out] at hlv hmv
      obtain ⟨ka2, kn2, kc2, ek2⟩ := (hmv W (fun _ => True)).kids
      have eo : fac t op s i = if op p = 4 then .inv (t q) else t q := by
        unfold fac
        rw [if_neg (by omega), ← hq.out, show q - 1 = p by omega]
      clear ep
      generalize mf q = m2 at hlv hmv ek2
      obtain ⟨tag2, un2, nm2, kd2, tx2, ws2, bad2, kids2⟩ := m2
      simp only at ek2
      subst ek2
      obtain ⟨l0, l1, l2, l3, l4, l5, l6, l7⟩ := hlv.keep (D := fun _ => True) trivial (Keeps.below hb.out)
      simp only at l0 l1 l2 l3 l4 l5 l6 l7
      obtain ⟨x0, k0⟩ := hk.out.isCell (i * 8) (by omega)
      have z0 := hk.out.fz (i * 8)
      obtain ⟨x1, k1⟩ := hk.out.isCell (i * 8 + 1) (by omega)
      have z1 := hk.out.fz (i * 8 + 1)
      obtain ⟨x2, k2⟩ := hk.out.isCell (i * 8 + 2) (by omega)
      have z2 := hk.out.fz (i * 8 + 2)
      obtain ⟨x3, k3⟩ := hk.out.isCell (i * 8 + 3) (by omega)
      have z3 := hk.out.fz (i * 8 + 3)
      obtain ⟨x4, k4⟩ := hk.out.isCell (i * 8 + 4) (by omega)
      have z4 := hk.out.fz (i * 8 + 4)
      obtain ⟨x5, k5⟩ := hk.out.isCell (i * 8 + 5) (by omega)
      have z5 := hk.out.fz (i * 8 + 5)
      obtain ⟨x6, k6⟩ := hk.out.isCell (i * 8 + 6) (by omega)
      have z6 := hk.out.fz (i * 8 + 6)
      obtain ⟨x7, k7⟩ := hk.out.isCell (i * 8 + 7) (by omega)
      have z7 := hk.out.fz (i * 8 + 7)
      by_cases h4 : op p = 4
      · rw [if_pos h4] at eo
        rw [h4] at co
        have hK1 : W.heap.size < wr.heap.size := by omega
        have hK2 : W.heap.size + 1 < wr.heap.size + 1 := by omega
        have EO := Lib.hid eo
        have HMV := Lib.hid hmv
        clear eo hmv h4
        go_wp2_with fail
        refine ⟨⟨i + 1, q + 2, by omega, by omega, rfl, by go_num, Lib.hid (by have := hq.out; omega), Lib.hid ?_, Lib.hid ?_⟩, ?_⟩
        · have h1 : Below wr.heap.size wr ((wr.alloc (.cells #[.int .i64 tag2, .string un2, .float .f64 nm2, .int .u8 kd2, .string tx2, .int .u8 ws2, .bool bad2, .slice ka2 kn2 kc2] 48)).alloc (.cells #[.int .i64 6, .string ⟨#[]⟩, .float .f64 0, .int .u8 0, .string ⟨#[]⟩, .int .u8 0, .bool false, .slice (some ⟨wr.heap.size, 0, none⟩) 1 1] 48)) := ((Below.refl _ _).alloc (Nat.le_refl _) _).alloc (by rw [World.size_alloc]; omega) _
          have hmi : Mir ((wr.alloc (.cells #[.int .i64 tag2, .string un2, .float .f64 nm2, .int .u8 kd2, .string tx2, .int .u8 ws2, .bool bad2, .slice ka2 kn2 kc2] 48)).alloc (.cells #[.int .i64 6, .string ⟨#[]⟩, .float .f64 0, .int .u8 0, .string ⟨#[]⟩, .int .u8 0, .bool false, .slice (some ⟨wr.heap.size, 0, none⟩) 1 1] 48)) (wr.heap.size ≤ ·) ⟨6, ⟨#[]⟩, 0, 0, ⟨#[]⟩, 0, false, .slice (some ⟨wr.heap.size, 0, none⟩) 1 1⟩ (fac t op s i) := by
            rw [EO.out]
            refine .inv wr.heap.size 1 ⟨tag2, un2, nm2, kd2, tx2, ws2, bad2, .slice ka2 kn2 kc2⟩ _ (Nat.le_refl _) ?_ (HMV.out _ _)
            exact ⟨by simp [go_sem], by simp [go_sem], by simp [go_sem], by simp [go_sem], by simp [go_sem], by simp [go_sem], by simp [go_sem], by simp [go_sem]⟩
          have h2 := hk.out.step h1 hmi
          rw [put8_alloc _ _ _ _ _ (by rw [World.size_alloc]; omega), put8_alloc _ _ _ _ _ hK] at h2
          exact h2
        · have hp := put8_below hc.out (W.heap.size + 1) (i * 8) ⟨6, ⟨#[]⟩, 0, 0, ⟨#[]⟩, 0, false, .slice (some ⟨wr.heap.size, 0, none⟩) 1 1⟩ (Nat.le_refl _)
          have hz := hp.size
          rw [World.size_alloc] at hz
          exact (hp.alloc hz _).alloc (by rw [World.size_alloc]; omega) _
        · simp [intOf]; omega
      · have h4b : (op p == 4) = false := beq_eq_false_iff_ne.2 h4
        rw [if_neg h4] at eo
        have EO := Lib.hid eo
        have HMV := Lib.hid hmv
        clear eo hmv h4
        go_wp2_with fail
        refine ⟨⟨i + 1, q + 2, by omega, by omega, rfl, by go_num, Lib.hid (by have := hq.out; omega), Lib.hid ?_, Lib.hid ?_⟩, ?_⟩
        · exact (hk.out.step (m := ⟨tag2, un2, nm2, kd2, tx2, ws2, bad2, .slice ka2 kn2 kc2⟩) (Below.refl _ _) (by rw [EO.out]; exact HMV.out _ _)).below ((Below.refl _ _).alloc (Nat.le_refl _) _)
        · have hp := put8_below hc.out (W.heap.size + 1) (i * 8) ⟨tag2, un2, nm2, kd2, tx2, ws2, bad2, .slice ka2 kn2 kc2⟩ (Nat.le_refl _)
          have hz := hp.size
          rw [World.size_alloc] at hz
          exact hp.alloc hz _
        · simp [intOf]; omega
    · obtain rfl : i = N := by omega
      clear hlt hmk HO HL
      obtain ⟨ms, hms⟩ := hk.out.at (Nat.le_refl _)
      obtain ⟨l, el⟩ : ∃ l, l = (List.range i).map (fac t op s) := ⟨_, rfl⟩
      have hlen : l.length = i := by rw [el]; simp
      rw [← el]
      have hm : Mir wr (W.heap.size < ·) ⟨4, ⟨#[]⟩, 0, 0, ⟨#[]⟩, 0, false, .slice (some ⟨W.heap.size + 1, 0, none⟩) i i⟩ (.prod l) := by
        have h := Mir.prod (W := wr) (D := (W.heap.size < ·)) (W.heap.size + 1) i l ms (by omega) (Nat.lt_succ_self _) (fun j hj => (hms j (by omega)).1) (fun j hj => by
          have e : l.getD j dT = fac t op s j := by rw [el, List.getD_eq_getElem?_getD, List.getElem?_eq_getElem (by simp; omega)]; simp
          rw [e]
          exact (hms j (by omega)).2.weaken (fun b _ h => by omega))
        rw [hlen] at h
        exact h
      have hf := conv_fin hb.out hm
      unfold put8 at hf
      simp only [Nat.zero_add] at hf
      have HF := Lib.hid hf
      have hcz : Below (W.alloc (.cells zero48 48)).heap.size (W.alloc (.cells zero48 48)) wr := by rw [World.size_alloc]; exact hc.out
      unfold zero48 at hcz
      have r0 : wr.cell? ⟨W.heap.size, 0, none⟩ = some (.int .i64 0) := cell_later hcz (by simp [go_sem])
      have r1 : wr.cell? ⟨W.heap.size, 1, none⟩ = some (.string ⟨#[]⟩) := cell_later hcz (by simp [go_sem])
      have r2 : wr.cell? ⟨W.heap.size, 2, none⟩ = some (.float .f64 0) := cell_later hcz (by simp [go_sem])
      have r3 : wr.cell? ⟨W.heap.size, 3, none⟩ = some (.int .u8 0) := cell_later hcz (by simp [go_sem])
      have r4 : wr.cell? ⟨W.heap.size, 4, none⟩ = some (.string ⟨#[]⟩) := cell_later hcz (by simp [go_sem])
      have r5 : wr.cell? ⟨W.heap.size, 5, none⟩ = some (.int .u8 0) := cell_later hcz (by simp [go_sem])
      have r6 : wr.cell? ⟨W.heap.size, 6, none⟩ = some (.bool false) := cell_later hcz (by simp [go_sem])
      have r7 : wr.cell? ⟨W.heap.size, 7, none⟩ = some (.slice none 0 0) := cell_later hcz (by simp [go_sem])
      have rf : ∀ i, wr.frozen? ⟨W.heap.size, i, none⟩ = false := fun i => (Below.frozen hcz (p := ⟨W.heap.size, i, none⟩) (by rw [World.size_alloc]; show W.heap.size < _; omega)).trans (by simp [go_sem])
      have rf0 := rf 0
      have rf1 := rf 1
      have rf2 := rf 2
      have rf3 := rf 3
      have rf4 := rf 4
      have rf5 := rf 5
      have rf6 := rf 6
      have rf7 := rf 7
      have hzq : (z : Int) < (q : Int) := by have h1 := hq.out; have h2 := EZ.out; omega
      have EL := Lib.hid el
      clear rf hcz hb hms hm hf hk hc hq el
      go_wp2_with fail
      refine bodyPost_ret (v := MV.val ⟨4, ⟨#[]⟩, 0, 0, ⟨#[]⟩, 0, false, .slice (some ⟨W.heap.size + 1, 0, none⟩) i i⟩) (by simp [results, Tryz.results39, go_sem, MV.val, *]) rfl ⟨_, rfl, HF.out.2, by rw [← EL.out]; exact HF.out.1⟩
end Go.Proofs.YthbfppnegodpoaaGreatDoor
