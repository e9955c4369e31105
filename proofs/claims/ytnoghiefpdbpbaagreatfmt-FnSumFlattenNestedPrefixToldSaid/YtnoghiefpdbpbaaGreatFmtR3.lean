/-
  ZZSimplifySum, nested.
-/
import Derived.Test.YtnoghiefpdbpbaaGreatFmtR2
namespace Go.Proofs.YtnoghiefpdbpbaaGreatFmt
open Go.RowKit Go.Deep

theorem heads_nodup (ρ : Nat → Nat → Bool) : ∀ n l, l.length ≤ n → l.Nodup → (heads (grp ρ l)).Nodup
  | _, [], _, _ => List.nodup_nil
  | 0, a :: l, h, _ => absurd h (by simp)
  | n + 1, a :: l, h, hn => by
    rw [grp_cons]
    have hl : (l.filter (fun x => !ρ x a)).length ≤ n := Nat.le_trans (List.length_filter_le _ _) (by simpa using h)
    have h2 := List.nodup_cons.1 hn
    refine List.nodup_cons.2 ⟨fun hm => ?_, heads_nodup ρ n _ hl (List.Pairwise.filter _ h2.2)⟩
    exact h2.1 (List.mem_filter.1 (heads_mem ρ n _ hl _ hm)).1

/-- The numbers before the outer sum's terms are added up. -/
def Zn (ρ : Nat → Nat → Bool) (xs : List Nat) (fs : List Bool) (n k r : Nat) (z : Nat → Nat) : Prop :=
  ∃ z1 ws : Nat → Nat, (∀ i, z1 i = if i < k then zl xs fs i else xs.getD i 0) ∧ (∀ i, i < n → ¬ i < k → ws i = z1 i) ∧
    (∀ q, q < (grp ρ (List.range k)).length → Sums (((grp ρ (List.range k)).getD q []).map z1) (ws (hd (grp ρ (List.range k)) q))) ∧
    ∀ i, z i = if k ≤ i ∧ i < k + r then ng (ws i) (fs.getD i false) else ws i

/-- The outer sum: its first term the inner sum, then r leaves. -/
theorem sum_nested (ρ : Nat → Nat → Bool) (us : List ByteArray) (xs : List Nat) (fs : List Bool) (N : Nat → Nat) (n B bd c1 c L k r : Nat) (ad : Option Addr) (cap : Nat) (w : World) (hk : k + r = n) (hn : n ≤ 1048576)
    (hI : SumIn us fs N n B bd [c1] c L (1 + r) 1 c1 ad cap (fun j => k + (j - 1)) (fun i => xs.getD i 0) w)
    (hsum : ∀ W, Below w.heap.size w W → Calls Tryz.prog 23 #[.pointer (some ⟨c1, 0, none⟩)] W (SumsTo ρ us fs N n B bd [] (List.range k) (fun z => ∀ i, z i = if i < k then zl xs fs i else xs.getD i 0) c1 W))
    (hE : ∀ i j, i < n → j < n → ∀ W, Below B w W → Calls Tryz.prog 27 #[.string (us.getD i ByteArray.empty), .string (us.getD j ByteArray.empty)] W (Ret (.bool (ρ i j)) W)) :
    Calls Tryz.prog 23 #[.pointer (some ⟨c, 0, none⟩)] w (SumsTo ρ us fs N n B bd [c1] (heads (grp ρ (List.range k)) ++ (List.range r).map (k + ·)) (Zn ρ xs fs n k r) c w) := by
  have hgl := grp_len ρ k (List.range k) (by rw [List.length_range]; exact Nat.le_refl _)
  rw [List.length_range] at hgl
  have e1 : ∀ j, (List.range (j + 1)).map (k + ·) = (List.range j).map (k + ·) ++ [k + j] := fun j => by rw [List.range_succ, List.map_append]; rfl
  have h := sum_any2 ρ us fs N n B bd [c1] c L (1 + r) 1 c1 ad cap (fun j => k + (j - 1)) (fun i => xs.getD i 0) w (by omega) hI (List.range k) (fun z => ∀ i, z i = if i < k then zl xs fs i else xs.getD i 0) (by rw [List.length_range]; omega) (fun _ => hsum)
    (fun j => if j = 0 then [] else heads (grp ρ (List.range k)) ++ (List.range (j - 1)).map (k + ·)) (by simp) (fun _ => by simp)
    (fun j h1 _ => by
      obtain ⟨i, rfl⟩ : ∃ i, j = i + 1 := ⟨j - 1, by omega⟩
      rw [if_neg (by omega), if_neg (by omega), Nat.add_sub_cancel, Nat.add_sub_cancel, e1, List.append_assoc])
    (fun j hj => by
      split
      · simp
      · rw [List.length_append, heads_len, List.length_map, List.length_range]; omega)
    (fun j z => if j = 0 then (∀ i, z i = xs.getD i 0) else Zn ρ xs fs n k (j - 1) z) (by simp)
    (fun _ z ws hz hr hs => by
      rw [if_neg (by omega)]
      refine ⟨z, ws, hz, fun i hi hk => hr i hi (fun hm => hk (List.mem_range.1 hm)), hs, fun i => ?_⟩
      rw [if_neg (by omega)])
    (fun j z h1 h2 hz => by
      obtain ⟨i, rfl⟩ : ∃ i, j = i + 1 := ⟨j - 1, by omega⟩
      rw [if_neg (by omega)] at hz
      rw [if_neg (by omega)]
      rw [Nat.add_sub_cancel] at hz ⊢
      obtain ⟨z1, ws, a1, a2, a3, a4⟩ := hz
      refine ⟨z1, ws, a1, a2, a3, fun m => ?_⟩
      dsimp only
      rw [Nat.add_sub_cancel]
      by_cases e : m = k + i
      · subst e
        rw [if_pos rfl, if_pos (by omega), a4, if_neg (by omega)]
      · rw [if_neg e, a4]
        by_cases h3 : k ≤ m ∧ m < k + i
        · rw [if_pos h3, if_pos (by omega)]
        · rw [if_neg h3, if_neg (by omega)])
    (by
      rw [if_neg (by omega), show 1 + r - 1 = r by omega]
      refine List.nodup_append.2 ⟨heads_nodup ρ _ _ (Nat.le_refl _) List.nodup_range, ?_, fun x hx y hy e => ?_⟩
      · refine List.Pairwise.map _ ?_ (List.nodup_range (n := r))
        intro a b hab e
        exact hab (by omega)
      · have h1 := List.mem_range.1 (heads_mem ρ _ _ (Nat.le_refl _) x hx)
        obtain ⟨p, _, hp⟩ := List.mem_map.1 hy
        omega)
    (by
      rw [if_neg (by omega), show 1 + r - 1 = r by omega]
      intro m hm
      rcases List.mem_append.1 hm with hm | hm
      · have h1 := List.mem_range.1 (heads_mem ρ _ _ (Nat.le_refl _) m hm)
        omega
      · obtain ⟨p, hp, hp2⟩ := List.mem_map.1 hm
        have := List.mem_range.1 hp
        omega) hE
  simp only [show (1 + r = 0) = False from eq_false (by omega), if_false, show 1 + r - 1 = r by omega] at h
  exact h

theorem row3 {v : Value} (fs : List Bool) (N : Nat → Nat) (k r p : Nat) (hp : p < r) :
    ([] ++ [v, .int .i32 0] ++ rowL fs N ((List.range r).map (k + ·)))[(p + 1) * 2]? = some (leafV false (fs.getD (k + p) false) (N (k + p))) ∧
      ([] ++ [v, .int .i32 0] ++ rowL fs N ((List.range r).map (k + ·)))[(p + 1) * 2 + 1]? = some (.int .i32 0) := by
  have h := rowL_at fs N ((List.range r).map (k + ·)) p (by rw [List.length_map, List.length_range]; exact hp)
  rw [show ((List.range r).map (k + ·)).getD p 0 = k + p by rw [List.getD_eq_getElem?_getD, List.getElem?_map, List.getElem?_range hp]; rfl] at h
  rw [show (p + 1) * 2 = p * 2 + 1 + 1 by omega]
  exact h
theorem row1 (fs : List Bool) (N : Nat → Nat) (k p : Nat) (hp : p < k) :
    ([] ++ rowL fs N ((List.range k).map (0 + ·)))[p * 2]? = some (leafV false (fs.getD p false) (N p)) ∧ ([] ++ rowL fs N ((List.range k).map (0 + ·)))[p * 2 + 1]? = some (.int .i32 0) := by
  have h := rowL_at fs N ((List.range k).map (0 + ·)) p (by rw [List.length_map, List.length_range]; exact hp)
  rw [show ((List.range k).map (0 + ·)).getD p 0 = p by rw [List.getD_eq_getElem?_getD, List.getElem?_map, List.getElem?_range hp]; exact Nat.zero_add p] at h
  exact h

set_option maxHeartbeats 8000000 in
set_option maxRecDepth 100000 in
/-- A sum whose first k terms are a sum of their own. -/
theorem simpnest_any (ρ : Nat → Nat → Bool) (au af ab : Option Addr) (cu cf cb : Nat) (us : List ByteArray) (xs : List Nat) (fs : List Bool) (nu nb k : Nat) (w : World)
    (hu : Slc Value.string ByteArray.empty w au us) (hx : Slc fl 0 w af xs) (hf : Slc Value.bool false w ab fs) (hl : xs.length ≤ 1048576) (hlu : us.length = xs.length) (hnu : nu = xs.length) (hlf : nb = fs.length) (hlb : fs.length = xs.length) (hk : k ≤ xs.length)
    (hE : ∀ i j, i < xs.length → j < xs.length → ∀ W, Below w.heap.size w W → Calls Tryz.prog 27 #[.string (us.getD i ByteArray.empty), .string (us.getD j ByteArray.empty)] W (Ret (.bool (ρ i j)) W)) :
    Calls Tryz.prog 13 #[.slice au nu cu, .slice af xs.length cf, .slice ab nb cb, .int .i64 k] w (SumOut2 ρ us (zl xs fs) xs.length w) := by
  subst hnu
  have HL := Lib.hid (leaves_any false au af ab cu cf cb us xs fs nb w hu hx hf (by omega) hlu hlf hlb)
  have HE := Lib.hid hE
  obtain ⟨n, en⟩ : ∃ n, n = xs.length := ⟨_, rfl⟩
  rw [← en] at HL HE hl hk ⊢
  obtain ⟨r, er⟩ : ∃ r, r = n - k := ⟨_, rfl⟩
  have hrz : (n : Int) - (k : Int) = (r : Int) := by omega
  obtain ⟨r1, er1⟩ : ∃ r1, r1 = r + 1 := ⟨_, rfl⟩
  have hrz1 : (r : Int) + 1 = (r1 : Int) := by omega
  have ER := Lib.hid er
  have ER1 := Lib.hid er1
  have hmk := fun W => make0 W 41 53 (.agg #[.nilIface, .int .i32 0]) 2 24 Tryz.underlying41 info53 r1 (by omega) (by omega)
  obtain ⟨i0, hi0, hzz⟩ := Option.map_eq_some_iff.1 info53
  simp only [Prod.mk.injEq] at hzz
  obtain ⟨hz0, hz1, hz2'⟩ := hzz
  have hk0 : ¬ (k : Int) < 0 := by omega
  have hkn : ¬ (n : Int) < (k : Int) := by omega
  have hkn2 : (k : Int) ≤ (n : Int) := by omega
  clear hu hx hf hlu hlf hlb hE en er er1
  go_enter Tryz.func13, Tryz.ntmps13
  go_wp2_with fail
  refine HL.out.mono ?_
  rintro e w1 ⟨L, N, rfl, hN, hB⟩
  have HN := Lib.hid hN
  have HB := Lib.hid hB
  have hLz := hN.hiL
  clear hN hB
  have hh1 := fun (ops : Array Oper) (rest : List Oper) (o : Oper) (a : Act) (Q : Exit → Act → World → Prop) (hgd : o.guard = none) (ho : o.op = .call { callee := .builtin .append, args := #[.const (.slice none 0 0), .tmp 36], argTypes := #[41, 41] }) (hx : a.eval (.tmp 36) = .slice (some ⟨L, 0 * 2, none⟩) k n) (h : _) =>
    wpList_append_own (P := Tryz.prog) (ops := ops) (rest := rest) (o := o) (a := a) (Q := Q) w1 hgd (.const (.slice none 0 0)) (.tmp 36) 41 ho w1.heap.size 53 i0 _ 2 24 Tryz.underlying41 hi0 hz0 hz1 hz2' rfl (by decide) (.slice none 0 0) 0 [] rfl (World.ownsRow_nil _ _ _ _) ⟨L, 0 * 2, none⟩ k n (rowL fs N ((List.range k).map (0 + ·))) hx (by rw [rowL_len, List.length_map, List.length_range]) (leaf_cells HN.out rfl 0 k (by omega)) (rowL_one _ _ _) (by unfold maxLen; omega) (by omega) (Nat.le_refl _) h
  have HH1 := Lib.hid hh1
  clear hh1
  go_upto_region 5 with (first | (refine HH1.out _ _ _ _ _ rfl rfl rfl ?_; intro v1 w2 hown1 hgrow1 hnil1; obtain ⟨ad1, g1, cap1, rfl, had1⟩ := own_ad hown1; have HOWN1 := Lib.hid (And.intro hown1 (And.intro hgrow1 had1)); clear hown1 hgrow1 hnil1 had1) | fail)
  clear HH1
  have hb12 : Below w1.heap.size w1 w2 := by
    have hg := HOWN1.out.2.1
    exact ⟨hg.os, hg.tape, hg.output, hg.size, fun b hb => hg.block b hb (by simp [Value.ownBlock])⟩
  obtain ⟨c1, ec1⟩ : ∃ c1, c1 = w2.heap.size := ⟨_, rfl⟩
  obtain ⟨W3, eW3⟩ : ∃ W3, W3 = w2.alloc (.cells #[.slice ad1 k cap1] 48) := ⟨_, rfl⟩
  have hb23 : Below w2.heap.size w2 W3 := by rw [eW3]; exact (Below.refl _ _).alloc (Nat.le_refl _) _
  have hz3 : W3.heap.size = c1 + 1 := by rw [eW3, World.size_alloc, ec1]
  have k0 : W3.cell? ⟨c1, 0, none⟩ = some (.slice ad1 k cap1) := by rw [eW3, ec1, World.cell?_alloc_new]; rfl
  have kf : W3.frozen? ⟨c1, 0, none⟩ = false := by rw [eW3, ec1, World.frozen?_alloc_new]
  have hz12 := hb12.size
  have hown0 : (W3.alloc (.cells (madeCells #[.nilIface, .int .i32 0] (r1 * 2)) 53)).ownsRow W3.heap.size 53 2 (.slice (some ⟨W3.heap.size, 0, none⟩) 0 r1) 0 [] :=
    World.ownsRow_made W3 _ r1 (Nat.le_refl _) (by unfold maxLen; have := ER.out; have := ER1.out; omega) (by rw [size_madeCells])
  have HO0 := Lib.hid hown0
  have HB13 := Lib.hid (hb12.trans (hb23.mono hz12))
  have HK1 := Lib.hid (And.intro k0 (And.intro kf (And.intro hz3 (And.intro ec1 hb23))))
  have hrn : r ≤ 1048576 := by have := ER.out; omega
  have hrn1 : r1 ≤ 1048577 ∧ 1 ≤ r1 := by have := ER1.out; omega
  rw [← ec1, ← eW3]
  clear hown0 hb12 hb23 k0 kf ec1 eW3 hz3
  go_upto_region 6 with fail
  clear hmk
  have hh2 := fun (ops : Array Oper) (rest : List Oper) (o : Oper) (a : Act) (Q : Exit → Act → World → Prop) (hgd : o.guard = none) (ho : o.op = .call { callee := .builtin .append, args := #[.tmp 46, .tmp 50], argTypes := #[41, 41] }) (hs : a.eval (.tmp 46) = .slice (some ⟨W3.heap.size, 0, none⟩) 0 r1) (hx : a.eval (.tmp 50) = .slice (some ⟨W3.heap.size + 1, 0, none⟩) 1 1) (h : _) =>
    wpList_append_own (P := Tryz.prog) (ops := ops) (rest := rest) (o := o) (a := a) (Q := Q) ((W3.alloc (.cells (madeCells #[.nilIface, .int .i32 0] (r1 * 2)) 53)).alloc (.cells #[.iface 46 (.pointer (some ⟨c1, 0, none⟩)), .int .i32 0] 53)) hgd (.tmp 46) (.tmp 50) 41 ho W3.heap.size 53 i0 _ 2 24 Tryz.underlying41 hi0 hz0 hz1 hz2' rfl (by decide)
      (.slice (some ⟨W3.heap.size, 0, none⟩) 0 r1) 0 [] hs (HO0.out.alloc _) ⟨W3.heap.size + 1, 0, none⟩ 1 1 [.iface 46 (.pointer (some ⟨c1, 0, none⟩)), .int .i32 0] hx rfl (fun q u hq => by
        match q, hq with
        | 0, hq => cases hq; simp [go_sem]
        | 1, hq => cases hq; simp [go_sem]) (fun u hu => by
        simp only [List.mem_cons, List.not_mem_nil, or_false] at hu
        rcases hu with rfl | rfl <;> rfl) (by unfold maxLen; omega) (by omega) (by rw [World.size_alloc, World.size_alloc]; omega) h
  have HH2 := Lib.hid hh2
  clear hh2
  go_upto_region 7 with (first | (refine HH2.out _ _ _ _ _ rfl rfl rfl rfl ?_; intro v2 w4 hown2 hgrow2 hnil2; obtain ⟨ad2, g2, cap2, rfl, had2⟩ := own_ad hown2; have HOWN2 := Lib.hid (And.intro hown2 (And.intro hgrow2 had2)); clear hown2 hgrow2 hnil2 had2) | fail)
  clear HH2
  have hbw4 : w4.heap[L]? = w1.heap[L]? := by
    rw [HOWN2.out.2.1.block L (by rw [World.size_alloc, World.size_alloc]; have := HB13.out.size; omega) (fun e => by
      have e2 : L = W3.heap.size := Option.some.inj e
      have := HB13.out.size; omega)]
    rw [heap_alloc_old _ _ (by rw [World.size_alloc]; have := HB13.out.size; omega), heap_alloc_old _ _ (by have := HB13.out.size; omega)]
    exact HB13.out.block L hLz
  have hkr : k + r = n := by have := ER.out; omega
  obtain ⟨x5, hx5, hc5⟩ : ∃ x : Addr, (if n = k then some (⟨L, 0, none⟩ : Addr) else some ⟨L, k * 2, none⟩) = some x ∧ ∀ q u, (rowL fs N ((List.range (n - k)).map (k + ·)))[q]? = some u → w4.cell? (x.add q) = some u := by
    by_cases e : n = k
    · refine ⟨⟨L, 0, none⟩, if_pos e, fun q u hq => ?_⟩
      rw [show n - k = 0 by omega] at hq
      exact absurd hq (by simp [rowL])
    · exact ⟨⟨L, k * 2, none⟩, if_neg e, leaf_cells HN.out hbw4 k (n - k) (by omega)⟩
  have hh3 := fun (ops : Array Oper) (rest : List Oper) (o : Oper) (a : Act) (Q : Exit → Act → World → Prop) (hgd : o.guard = none) (ho : o.op = .call { callee := .builtin .append, args := #[.tmp 52, .tmp 55], argTypes := #[41, 41] }) (hs : a.eval (.tmp 52) = .slice ad2 1 cap2) (hx : a.eval (.tmp 55) = .slice (if n = k then some (⟨L, 0, none⟩ : Addr) else some ⟨L, k * 2, none⟩) (n - k) (n - k)) (h : _) =>
    wpList_append_own (P := Tryz.prog) (ops := ops) (rest := rest) (o := o) (a := a) (Q := Q) w4 hgd (.tmp 52) (.tmp 55) 41 ho W3.heap.size 53 i0 _ 2 24 Tryz.underlying41 hi0 hz0 hz1 hz2' rfl (by decide)
      (.slice ad2 1 cap2) 1 _ hs HOWN2.out.1 x5 (n - k) (n - k) (rowL fs N ((List.range (n - k)).map (k + ·))) (hx.trans (by rw [hx5])) (by rw [rowL_len, List.length_map, List.length_range]) hc5 (rowL_one _ _ _) (by unfold maxLen; omega) (by omega) (by have := HOWN2.out.2.1.size; rw [World.size_alloc, World.size_alloc] at this; omega) h
  have HH3 := Lib.hid hh3
  clear hh3 hbw4 hx5 hc5
  go_upto_region 8 with (first | (refine HH3.out _ _ _ _ _ rfl rfl rfl rfl ?_; intro v3 w5 hown3 hgrow3 hnil3; rw [← ER.out] at hown3; obtain ⟨ad3, g3, cap3, rfl, had3⟩ := own_ad hown3; have HOWN3 := Lib.hid (And.intro hown3 (And.intro hgrow3 had3)); clear hown3 hgrow3 hnil3 had3) | fail)
  clear HH3
  go_wp2_with fail
  all_goals
    have hs45 := HOWN2.out.2.1.size
    rw [World.size_alloc, World.size_alloc] at hs45
    have hs56 := HOWN3.out.2.1.size
    have hs13 := HB13.out.size
    have hs01 := HB.out.size
    have hg3 := HOWN3.out.2.2 (by omega)
    have e3 : W3.heap.size = c1 + 1 := HK1.out.2.2.1
    have ec1 : c1 = w2.heap.size := HK1.out.2.2.2.1
    have hz5 : ∀ o, (w5.alloc o).heap.size = w5.heap.size + 1 := fun o => World.size_alloc _ _
    -- what lay in W3 lies in the world of the call
    have hb4 : Below W3.heap.size W3 w4 := by
      have h0 : Below W3.heap.size W3 ((W3.alloc (.cells (madeCells #[.nilIface, .int .i32 0] (r1 * 2)) 53)).alloc (.cells #[.iface 46 (.pointer (some ⟨c1, 0, none⟩)), .int .i32 0] 53)) :=
        ((Below.refl _ _).alloc (Nat.le_refl _) _).alloc (by rw [World.size_alloc]; omega) _
      have hg := HOWN2.out.2.1
      exact ⟨hg.os.trans h0.os, hg.tape.trans h0.tape, hg.output.trans h0.output, Nat.le_trans h0.size hg.size, fun b hb => (hg.block b (by rw [World.size_alloc, World.size_alloc]; omega) (fun e => by
        have e2 : b = W3.heap.size := Option.some.inj e
        omega)).trans (h0.block b hb)⟩
    have hb5 : Below W3.heap.size W3 w5 := by
      have hg := HOWN3.out.2.1
      exact ⟨hg.os.trans hb4.os, hg.tape.trans hb4.tape, hg.output.trans hb4.output, Nat.le_trans hb4.size hg.size, fun b hb => (hg.block b (by omega) (fun e => by
        have := HOWN2.out.1.lt b e.symm
        omega)).trans (hb4.block b hb)⟩
    have hb6 : Below W3.heap.size W3 (w5.alloc (.cells #[.slice ad3 (1 + r) cap3] 48)) := hb5.alloc hb5.size _
    have hb06 : Below w.heap.size w (w5.alloc (.cells #[.slice ad3 (1 + r) cap3] 48)) := HB.out.trans ((HB13.out.trans (hb6.mono hs13)).mono hs01)
    have hns6 : ∀ W, Below w1.heap.size w1 W → NS us fs N n w1.heap.size (fun i => xs.getD i 0) W := fun W hW =>
      (ns_of_nodes HN.out).keep (fun b i hb => World.cell?_of_block (a := ⟨b, i, none⟩) (hW.block b hb)) (fun b i hb => World.frozen?_of_block (a := ⟨b, i, none⟩) (hW.block b hb))
    have hb16 : Below w1.heap.size w1 (w5.alloc (.cells #[.slice ad3 (1 + r) cap3] 48)) := HB13.out.trans (hb6.mono hs13)
    have hnew : ∀ b, w1.heap.size ≤ b → ∀ i, i < n → b ≠ N i ∧ b ≠ N i + b2n (fs.getD i false) := fun b hb i hi => by
      have := HN.out.hiN i hi
      constructor <;> omega
    refine (sum_nested ρ us xs fs N n w.heap.size w1.heap.size c1 w5.heap.size g3 k r ad3 cap3 _ hkr hl ?_ (fun W hW => ?_) (fun i j hi hj W hW => HE.out i j hi hj W (hb06.trans hW))).mono ?_
    · refine ⟨hns6 _ hb16, by omega, by rw [hz5]; omega, fun i hi => by have := HN.out.lo; have := HN.out.loN i hi; omega, by omega, by rw [World.cell?_alloc_new]; rfl, by rw [World.frozen?_alloc_new], hnew _ (by omega), by simp; omega, fun _ => hg3.1, hnew _ (by omega), by simp; omega,
        fun j h1 h2 => ?_, fun j h1 h2 => by omega, fun _ => ⟨by omega, ?_, ?_, by simp, by rw [hz5]; omega⟩, by omega⟩
      · obtain ⟨p, rfl⟩ : ∃ p, j = p + 1 := ⟨j - 1, by omega⟩
        have hr := row3 (v := .iface 46 (.pointer (some ⟨c1, 0, none⟩))) fs N k r p (by omega)
        rw [cell_alloc_old hg3.2.2.1, cell_alloc_old hg3.2.2.1]
        exact ⟨hg3.2.2.2 _ _ hr.1, hg3.2.2.2 _ _ hr.2⟩
      · rw [cell_alloc_old hg3.2.2.1]
        exact hg3.2.2.2 0 _ rfl
      · rw [cell_alloc_old hg3.2.2.1]
        exact hg3.2.2.2 1 _ rfl
    · have hbW : Below W3.heap.size W3 W := hb6.trans (hW.mono (by rw [hz5]; omega))
      have hb1W : Below w1.heap.size w1 W := hb16.trans (hW.mono (by rw [hz5]; omega))
      have hszW := hbW.size
      obtain ⟨g, hg, hgl⟩ : ∃ g, (0 < k → ad1 = some ⟨g, 0, none⟩ ∧ ∀ q u, ([] ++ rowL fs N (List.map (fun x => 0 + x) (List.range k)))[q]? = some u → W.cell? ⟨g, q, none⟩ = some u) ∧ w1.heap.size ≤ g := by
        by_cases h0 : 0 < k
        · obtain ⟨q1, q2, q3, q4⟩ := HOWN1.out.2.2 (by omega)
          refine ⟨g1, fun _ => ⟨q1, fun q u hq => ?_⟩, q2⟩
          rw [World.cell?_of_block (a := ⟨g1, q, none⟩) ((hbW.block g1 (by omega)).trans (HK1.out.2.2.2.2.block g1 q3))]
          exact q4 q u hq
        · exact ⟨w1.heap.size, fun h => absurd h h0, Nat.le_refl _⟩
      refine sum_plain ρ us xs fs N n w.heap.size w1.heap.size c1 g k ad1 cap1 W (by omega) hk ?_ (fun i j hi hj W2 hW2 => HE.out i j hi hj W2 ((hb06.trans (hW.mono (by rw [hz5]; omega))).trans hW2))
      refine ⟨hns6 _ hb1W, by omega, by omega, fun i hi => by have := HN.out.lo; have := HN.out.loN i hi; omega, by omega, ?_, ?_, hnew _ (by omega), by simp, fun h => (hg h).1, hnew _ hgl, by simp, fun j _ hj => ?_, fun j _ hj => by omega, fun h => absurd h (by decide), by omega⟩
      · rw [World.cell?_of_block (a := ⟨c1, 0, none⟩) (hbW.block c1 (by omega))]
        exact HK1.out.1
      · rw [World.frozen?_of_block (a := ⟨c1, 0, none⟩) (hbW.block c1 (by omega))]
        exact HK1.out.2.1
      · have hr := row1 fs N k j hj
        exact ⟨(hg (by omega)).2 _ _ hr.1, (hg (by omega)).2 _ _ hr.2⟩
    rintro e w7 hsum
    have er : r = n - k := ER.out
    obtain ⟨l, el⟩ : ∃ l, l = heads (grp ρ (List.range k)) ++ (List.range r).map (k + ·) := ⟨_, rfl⟩
    rw [← el] at hsum
    have hgl := grp_len ρ k (List.range k) (by rw [List.length_range]; exact Nat.le_refl _)
    rw [List.length_range] at hgl
    obtain ⟨v, z, ws2, rfl, hB2, hz, hraw, hsums, ht⟩ := sumsTo_val hsum (by rw [el, List.length_append, heads_len, List.length_map, List.length_range]; omega) (fun m hm => by
      rw [el] at hm
      rcases List.mem_append.1 hm with hm | hm
      · have h1 := List.mem_range.1 (heads_mem ρ _ _ (Nat.le_refl _) m hm)
        omega
      · obtain ⟨p, hp, hp2⟩ := List.mem_map.1 hm
        have := List.mem_range.1 hp
        omega)
    obtain ⟨z1, ws, a1, a2, a3, a4⟩ := hz
    have hnest := nest_sums ρ k n hk (zl xs fs) z1 ws z ws2 (fun i hi => by rw [a1, if_pos hi]) a3 (fun i hi => by rw [a4, if_neg (by omega)])
      (fun i h1 h2 => by rw [a4, if_pos (by omega), a2 i h2 (by omega), a1, if_neg (by omega)]; rfl) (by rw [← er, ← el]; exact hsums)
    rw [← er, ← el] at hnest
    have HT := Lib.hid ht
    have HB2 := Lib.hid (hb06.trans hB2)
    have HS := Lib.hid hnest
    clear hsum hB2 hraw hsums ht hnest a1 a2 a3 a4 el er hgl hnew hb16 hns6 hb06 hb6 hb5 hb4 hz5 ec1 e3 hg3 hs01 hs13 hs56 hs45
    go_wp2_with fail
    refine HT.out.mono ?_
    rintro e w8 ⟨hB3, U, F, he, hc⟩
    obtain ⟨kd, ekd⟩ : ∃ kd : Int, (if (grp ρ l).length = 1 then (1 : Int) else 2) = kd := ⟨_, rfl⟩
    rw [ekd] at he
    subst he
    have EKD := Lib.hid ekd
    have HC := Lib.hid hc
    clear ekd hc
    go_wp2_with fail
    go_ret3
    refine ⟨HB2.out.trans (hB3.mono HB2.out.size), U, F, fun q => ws2 (hd (grp ρ (List.range n)) q), by rw [HS.out.1, EKD.out]; rfl, fun q hq => ?_⟩
    have hc := HC.out q (by rw [← HS.out.1]; exact hq)
    rw [← HS.out.2.1 q hq] at hc
    exact ⟨hc.1, hc.2, HS.out.2.2 q hq⟩
end Go.Proofs.YtnoghiefpdbpbaaGreatFmt
