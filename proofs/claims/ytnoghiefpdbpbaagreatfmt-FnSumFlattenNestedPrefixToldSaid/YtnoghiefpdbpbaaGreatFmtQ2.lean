/-
  The simplification of a sum, walked: its first term may be a sum itself.
-/
import Derived.Test.YtnoghiefpdbpbaaGreatFmtM2
import Derived.Test.YtnoghiefpdbpbaaGreatFmtZ2
import Derived.Lib.QuietBelow
namespace Go.Proofs.YtnoghiefpdbpbaaGreatFmt
open Go.RowKit Go.Deep Go.Sort

/-- A sum's terms before its simplification: b is 1 if the first one is a sum (c1), else 0. -/
structure SumIn (us : List ByteArray) (fs : List Bool) (N : Nat → Nat) (n B bd : Nat) (cs : List Nat) (c L len b c1 : Nat) (ad : Option Addr) (cap : Nat) (lf : Nat → Nat) (zin : Nat → Nat) (w : World) : Prop where
  ns : NS us fs N n bd zin w
  bc : bd ≤ c
  bd : bd < w.heap.size
  lo : ∀ i, i < n → B ≤ N i
  loc : B ≤ c
  c0 : w.cell? ⟨c, 0, none⟩ = some (.slice ad len cap)
  cf : w.frozen? ⟨c, 0, none⟩ = false
  cN : ∀ i, i < n → c ≠ N i ∧ c ≠ N i + b2n (fs.getD i false)
  cc : c ∉ cs
  ad : 0 < len → ad = some ⟨L, 0, none⟩
  LN : ∀ i, i < n → L ≠ N i ∧ L ≠ N i + b2n (fs.getD i false)
  Lc : L ∉ cs
  row : ∀ j, b ≤ j → j < len → w.cell? ⟨L, j * 2, none⟩ = some (leafV false (fs.getD (lf j) false) (N (lf j))) ∧ w.cell? ⟨L, j * 2 + 1, none⟩ = some (.int .i32 0)
  lf : ∀ j, b ≤ j → j < len → lf j < n
  first : b = 1 → 0 < len ∧ w.cell? ⟨L, 0, none⟩ = some (.iface 46 (.pointer (some ⟨c1, 0, none⟩))) ∧ w.cell? ⟨L, 1, none⟩ = some (.int .i32 0) ∧ c1 ∈ cs ∧ c1 < w.heap.size
  b1 : b ≤ 1

theorem heads_len (G : List (List Nat)) : (heads G).length = G.length := by unfold heads; simp
theorem heads_at (G : List (List Nat)) (q : Nat) : (heads G).getD q 0 = hd G q := by
  unfold heads hd
  rw [List.getD_eq_getElem?_getD, List.getElem?_map, List.getD_eq_getElem?_getD]
  cases G[q]? <;> rfl
theorem rowN_one (N : Nat → Nat) (A : List Nat) : ∀ u ∈ rowN N A, u.oneCell' = true := fun u hu => by
  unfold rowN at hu
  obtain ⟨a, _, h⟩ := List.mem_flatMap.1 hu
  simp only [List.mem_cons, List.not_mem_nil, or_false] at h
  rcases h with rfl | rfl <;> rfl
/-- What an append to the row of the terms leaves as it was. -/
theorem grown_keep {w W2 w1 : World} {tv : Value} {us : List ByteArray} {fs : List Bool} {N : Nat → Nat} {n bd B : Nat} {z : Nat → Nat} {cs : List Nat} (hg : W2.grownBy w1 tv.ownBlock) (hT : ∀ g, tv.ownBlock = some g → w.heap.size ≤ g) (hbd : bd ≤ w.heap.size) (hz : w.heap.size ≤ W2.heap.size)
    (hns : NS us fs N n bd z W2) (hb : Below B w W2) (hB : B ≤ w.heap.size) (hf : Fr N fs n cs w W2) : NS us fs N n bd z w1 ∧ Below B w w1 ∧ Fr N fs n cs w w1 := by
  have hk : ∀ b, b < w.heap.size → w1.heap[b]? = W2.heap[b]? := fun b h => hg.block b (by omega) (fun e => by have := hT b e.symm; omega)
  exact ⟨hns.keep (fun b i h => World.cell?_of_block (a := ⟨b, i, none⟩) (hk b (by omega))) (fun b i h => World.frozen?_of_block (a := ⟨b, i, none⟩) (hk b (by omega))),
    ⟨hg.os.trans hb.os, hg.tape.trans hb.tape, hg.output.trans hb.output, Nat.le_trans hb.size hg.size, fun b h => (hk b (by omega)).trans (hb.block b h)⟩, hf.on (fun b h _ _ => hk b h)⟩
theorem own_low {W : World} {base : Nat} {e : TypeId} {size : Nat} {v : Value} {m : Nat} {xs : List Value} (h : W.ownsRow base e size v m xs) : ∀ g, v.ownBlock = some g → base ≤ g := fun g hg => (h.lt g hg).1

theorem TR.blk {T n e : Nat} {N : Nat → Nat} {A S : List Nat} {W W' : World} (h : TR T n e N A S W) (hb : W'.heap[T]? = W.heap[T]?) : TR T n e N A S W' := by
  obtain ⟨h1, h2, f, h3, h4⟩ := h
  exact ⟨h1, h2, f, h3.of_block hb, h4⟩
theorem TR.head {T n e : Nat} {N : Nat → Nat} {A S : List Nat} {W : World} (h : TR T n e N A S W) {q : Nat} (hq : q < A.length) :
    W.cell? ⟨T, q * 2, none⟩ = some (.iface 57 (.pointer (some ⟨N (A.getD q 0), 0, none⟩))) ∧ W.cell? ⟨T, q * 2 + 1, none⟩ = some (.int .i32 0) := by
  obtain ⟨h1, h2, f, h3, h4, _⟩ := h
  rw [h3.cell (by omega), h3.cell (by omega), (h4 q hq).1, (h4 q hq).2]
  exact ⟨rfl, rfl⟩
theorem TR.tail {T n e : Nat} {N : Nat → Nat} {A S : List Nat} {s : Nat} {W : World} (h : TR T n e N A (s :: S) W) {j : Nat} (hj : j + (S.length + 1) = e) :
    W.cell? ⟨T, j * 2, none⟩ = some (.iface 57 (.pointer (some ⟨N s, 0, none⟩))) ∧ W.cell? ⟨T, j * 2 + 1, none⟩ = some (.int .i32 0) := by
  obtain ⟨h1, h2, f, h3, _, h5⟩ := h
  have h6 := h5 0 (by simp)
  rw [List.length_cons] at h1
  rw [List.length_cons, show e - (S.length + 1) + 0 = j by omega] at h6
  rw [h3.cell (by omega), h3.cell (by omega), h6.1, h6.2]
  exact ⟨rfl, rfl⟩
theorem TR.fzn {T n e : Nat} {N : Nat → Nat} {A S : List Nat} {W : World} (h : TR T n e N A S W) (i : Nat) : W.frozen? ⟨T, i, none⟩ = false := by
  obtain ⟨_, _, f, h3, _⟩ := h
  exact h3.frozen i
theorem TR.some {T n e : Nat} {N : Nat → Nat} {A S : List Nat} {W : World} (h : TR T n e N A S W) (i : Nat) (hi : i < n * 2) : ∃ v, W.cell? ⟨T, i, none⟩ = some v := by
  obtain ⟨_, _, f, h3, _⟩ := h
  exact ⟨_, h3.cell hi⟩
theorem NS.set {us : List ByteArray} {fs : List Bool} {N zs : Nat → Nat} {n T i0 v : Nat} {W : World} (h : NS us fs N n T zs W) (h0 : i0 < n) :
    NS us fs N n T (fun i => if i = i0 then v else zs i) (W.setCell ⟨N i0, 1, none⟩ (.float .f64 v)) where
  hi := h.hi
  mono := h.mono
  unit i hi := by
    rw [World.cell?_setCell_other _ _ _ _ (fun e => by injection e with e1 e2; omega)]
    exact h.unit i hi
  num i hi := by
    by_cases e : i = i0
    · subst e
      simp only [if_pos]
      exact World.cell?_setCell_same' _ _ _ (by rw [h.num i hi]; rfl)
    · simp only [if_neg e]
      rw [cell_set_other (h.inj i i0 hi h0 e).1]
      exact h.num i hi
  fz i hi := by rw [World.frozen?_setCell]; exact h.fz i hi
  inn i hi hf := by
    rw [World.cell?_setCell_other _ _ _ _ (fun e => by injection e with e1 e2; omega), World.frozen?_setCell]
    exact h.inn i hi hf
theorem NS.blk {us : List ByteArray} {fs : List Bool} {N zs : Nat → Nat} {n T : Nat} {W W' : World} (h : NS us fs N n T zs W) (hb : ∀ b, b < T → W'.heap[b]? = W.heap[b]?) : NS us fs N n T zs W' :=
  h.keep (fun b i hb' => World.cell?_of_block (a := ⟨b, i, none⟩) (hb b hb')) (fun b i hb' => World.frozen?_of_block (a := ⟨b, i, none⟩) (hb b hb'))

set_option maxHeartbeats 8000000 in
set_option maxRecDepth 100000 in
theorem sum_any2 (ρ : Nat → Nat → Bool) (us : List ByteArray) (fs : List Bool) (N : Nat → Nat) (n B bd : Nat) (cs : List Nat) (c L len b c1 : Nat) (ad : Option Addr) (cap0 : Nat) (lf : Nat → Nat) (zin : Nat → Nat) (w : World) (hlen : len ≤ 1048577)
    (hI : SumIn us fs N n B bd cs c L len b c1 ad cap0 lf zin w) (A1 : List Nat) (Z1 : (Nat → Nat) → Prop) (hl1 : A1.length ≤ 1048577)
    (hsum : b = 1 → ∀ W, Below w.heap.size w W → Calls Tryz.prog 23 #[.pointer (some ⟨c1, 0, none⟩)] W (SumsTo ρ us fs N n B bd [] A1 Z1 c1 W))
    (A : Nat → List Nat) (hA0 : A 0 = []) (hA1 : b = 1 → A 1 = heads (grp ρ A1)) (hAs : ∀ j, b ≤ j → j < len → A (j + 1) = A j ++ [lf j]) (hAl : ∀ j, j ≤ len → (A j).length ≤ 2097154)
    (Z : Nat → (Nat → Nat) → Prop) (hZ0 : Z 0 zin) (hZ1 : b = 1 → ∀ z ws, Z1 z → (∀ i, i < n → i ∉ A1 → ws i = z i) → (∀ q, q < (grp ρ A1).length → Sums (((grp ρ A1).getD q []).map z) (ws (hd (grp ρ A1) q))) → Z 1 ws)
    (hZs : ∀ j z, b ≤ j → j < len → Z j z → Z (j + 1) (fun i => if i = lf j then ng (z (lf j)) (fs.getD (lf j) false) else z i))
    (hnd : (A len).Nodup) (hAn : ∀ m, m ∈ A len → m < n)
    (hE : ∀ i j, i < n → j < n → ∀ W, Below B w W → Calls Tryz.prog 27 #[.string (us.getD i ByteArray.empty), .string (us.getD j ByteArray.empty)] W (Ret (.bool (ρ i j)) W)) :
    Calls Tryz.prog 23 #[.pointer (some ⟨c, 0, none⟩)] w (SumsTo ρ us fs N n B bd cs (A len) (Z len) c w) := by
  have hb5 := fun m => run_assert_other (P := Tryz.prog) (.pointer (some ⟨m, 0, none⟩)) 45 46 57 48 u46 (by decide) z46
  have ha5 := fun m => run_assert_same (P := Tryz.prog) (.pointer (some ⟨m, 0, none⟩)) 45 57 59 u57
  have ha6 := fun m => run_assert_same (P := Tryz.prog) (.pointer (some ⟨m, 0, none⟩)) 45 46 48 u46
  have HI := Lib.hid hI
  have HE := Lib.hid hE
  have hc := hI.c0
  have hcs : c < w.heap.size := World.block_lt_of_cell? _ _ hc
  have hmk := fun W => make0 W 41 53 (.agg #[.nilIface, .int .i32 0]) 2 24 Tryz.underlying41 info53 len (by omega) (by omega)
  have HA := Lib.hid (And.intro hA0 (And.intro hA1 (And.intro hAs hAl)))
  have HZ := Lib.hid (And.intro hZ0 (And.intro hZ1 hZs))
  have HS := Lib.hid hsum
  have HF := Lib.hid (And.intro hnd hAn)
  have hown0 : (w.alloc (.cells (madeCells #[.nilIface, .int .i32 0] (len * 2)) 53)).ownsRow w.heap.size 53 2 (.slice (some ⟨w.heap.size, 0, none⟩) 0 len) (A 0).length (rowN N (A 0)) := by
    rw [hA0]
    exact World.ownsRow_made w _ len (Nat.le_refl _) (by unfold maxLen; omega) (by rw [size_madeCells])
  have HO0 := Lib.hid hown0
  obtain ⟨i0, hi0, hzz⟩ := Option.map_eq_some_iff.1 info53
  simp only [Prod.mk.injEq] at hzz
  obtain ⟨hz0, hz1, hz2'⟩ := hzz
  clear hI hE hA0 hA1 hAs hAl hZ0 hZ1 hZs hsum hnd hAn hown0
  go_enter Tryz.func23, Tryz.ntmps23
  go_wp2_with fail
  go_loopw [3, 28] (fun t i wr => ∃ (j : Nat) (z : Nat → Nat), j ≤ len ∧ i = .int .i64 j ∧ t ≠ .slice none 0 0 ∧ Hid (wr.ownsRow w.heap.size 53 2 t (A j).length (rowN N (A j))) ∧ Hid (NS us fs N n bd z wr ∧ Z j z) ∧ Hid (Below B w wr) ∧ Hid (Fr N fs n cs w wr) ∧ Hid (j = 0 → Below w.heap.size w wr)) (fun _ i _ => len - (intOf i).toNat)
  case atStart =>
    refine ⟨0, zin, Nat.zero_le _, rfl, by simp, HO0, Lib.hid ⟨?_, HZ.out.1⟩, ?_, fun q hq _ _ => heap_alloc_old w _ hq, Lib.hid fun _ => (Below.refl _ _).alloc (Nat.le_refl _) _⟩
    · exact HI.out.ns.keep (fun b i hb => cell_alloc_old (by have := HI.out.bd; omega)) (fun b i hb => fz_alloc_old (by have := HI.out.bd; omega))
    · exact (Below.refl _ _).alloc (by have := HI.out.loc; omega) _
  case round =>
    obtain ⟨j, z, hj, rfl, htn, hown, hns, hb, hfr, hj0⟩ := hrel
    by_cases hlt : j < len
    · obtain rfl := HI.out.ad (by omega)
      have hji : (j : Int) < (len : Int) := by omega
      have hbz := hb.out.size
      by_cases hbj : b ≤ j
      · obtain ⟨k, ek⟩ : ∃ k, k = lf j := ⟨_, rfl⟩
        have hkn := HI.out.lf j hbj hlt
        obtain ⟨hr0, hr1⟩ := HI.out.row j hbj hlt
        rw [← ek] at hr0 hkn
        have r0 := hfr.out.cell hr0 HI.out.LN HI.out.Lc
        have r1 := hfr.out.cell hr1 HI.out.LN HI.out.Lc
        have hLs : L < wr.heap.size := World.block_lt_of_cell? _ _ r0
        have EK := Lib.hid ek
        obtain ⟨f, ef⟩ : ∃ f, f = fs.getD k false := ⟨_, rfl⟩
        rw [← ef] at r0
        have EF := Lib.hid ef
        clear ek ef hr0 hr1
        cases f
        · unfold leafV at r0
          rw [if_neg Bool.false_ne_true] at r0
          have hs := numsimp_any (N k)
          have hAj := HA.out.2.2.2 j hj
          go_wp2_with (first
            | (go_at_call 119; refine (hs _).mono ?_; rintro e w' ⟨rfl, rfl⟩)
            | (refine wpList_append_own (P := Tryz.prog) _ rfl (.tmp 49) (.tmp 51) 41 rfl w.heap.size 53 i0 _ 2 24 Tryz.underlying41 hi0 hz0 hz1 hz2' rfl (by decide) _ (A j).length (rowN N (A j)) rfl ?own ⟨wr.heap.size + 1, 0, none⟩ 1 1 [.iface 57 (.pointer (some ⟨N k, 0, none⟩)), .int .i32 0] rfl rfl ?cells ?one ?l1 ?l2 ?l3 ?_
               case own => exact own_blk hown.out (fun g h1 h2 => by rw [heap_alloc_old _ _ (by rw [World.size_alloc]; omega), heap_alloc_old _ _ h2])
               case cells =>
                 intro q u hq
                 match q, hq with
                 | 0, hq => cases hq; simp [go_sem]
                 | 1, hq => cases hq; simp [go_sem]
               case one =>
                 intro u hu
                 simp only [List.mem_cons, List.not_mem_nil, or_false] at hu
                 rcases hu with rfl | rfl <;> rfl
               case l1 => unfold maxLen; omega
               case l2 => omega
               case l3 => rw [World.size_alloc, World.size_alloc]; omega
               intro v' w1 hown1 hgrow1 hnil1)
            | fail)
          have hgk := grown_keep (cs := cs) hgrow1 (own_low hown.out) (Nat.le_of_lt HI.out.bd) (by rw [World.size_alloc, World.size_alloc]; omega)
            (hns.out.1.keep (fun b i hb => by rw [cell_alloc_old (by rw [World.size_alloc]; have := HI.out.bd; omega), cell_alloc_old (by have := HI.out.bd; omega)]) (fun b i hb => by rw [fz_alloc_old (by rw [World.size_alloc]; have := HI.out.bd; omega), fz_alloc_old (by have := HI.out.bd; omega)]))
            ((hb.out.alloc (by have := HI.out.loc; omega) _).alloc (by rw [World.size_alloc]; have := HI.out.loc; omega) _) (by have := HI.out.loc; omega)
            (hfr.out.on (fun b h _ _ => by rw [heap_alloc_old _ _ (by rw [World.size_alloc]; omega), heap_alloc_old _ _ (by omega)]))
          have hAs := HA.out.2.2.1 j hbj hlt
          rw [← EK.out] at hAs
          refine ⟨⟨j + 1, _, hlt, by go_num, fun e => htn (hnil1.1 e).1, Lib.hid ?_, Lib.hid ⟨hgk.1.congr (fun i hi => ?_), HZ.out.2.2 j z hbj hlt hns.out.2⟩, hgk.2.1, hgk.2.2, Lib.hid fun h => absurd h (Nat.succ_ne_zero _)⟩, ?_⟩
          · rw [hAs, List.length_append, rowN_append]
            exact hown1
          · rw [← EK.out, ← EF.out]
            by_cases e : i = k
            · subst e; rw [if_pos rfl]; rfl
            · rw [if_neg e]
          · simp [intOf]; omega
        · unfold leafV wrapT at r0
          rw [if_pos rfl, if_neg Bool.false_ne_true] at r0
          have hin := hns.out.1.inn k hkn EF.out.symm
          have hM1 := hns.out.1.hi k hkn
          rw [← EF.out] at hM1
          simp only [b2n, if_pos] at hM1
          have hbd := HI.out.bd
          have hNk : N k + 1 < wr.heap.size := by omega
          have hs := fun o => negsimp_any (N k) (z k) (wr.alloc o) (by rw [cell_alloc_old hNk]; exact hin.1) (by rw [fz_alloc_old hNk]; exact hin.2)
            (by rw [cell_alloc_old (by omega)]; exact hns.out.1.num k hkn) (by rw [fz_alloc_old (by omega)]; exact hns.out.1.fz k hkn)
          have HSN := Lib.hid hs
          have hAj := HA.out.2.2.2 j hj
          clear hin hs
          go_wp2_with (first
            | (go_at_call 123
               refine (HSN.out _).mono ?_
               rintro e w2 ⟨rfl, ht⟩
               have hz2 : w2.heap.size = wr.heap.size + 1 := by rw [ht.size, World.size_alloc]
               have k0 : w2.cell? ⟨wr.heap.size, 0, none⟩ = some (.iface 63 (.pointer (some ⟨N k + 1, 0, none⟩))) := by rw [ht.cells _ _ (by omega), World.cell?_alloc_new]; rfl
               have k1 : w2.cell? ⟨wr.heap.size, 1, none⟩ = some (.int .i32 0) := by rw [ht.cells _ _ (by omega), World.cell?_alloc_new]; rfl
               have kf : w2.frozen? ⟨wr.heap.size, 0, none⟩ = false := by rw [ht.fz, World.frozen?_alloc_new]
               have HT := Lib.hid ht
               clear ht)
            | (refine wpList_append_own (P := Tryz.prog) _ rfl (.tmp 49) (.tmp 51) 41 rfl w.heap.size 53 i0 _ 2 24 Tryz.underlying41 hi0 hz0 hz1 hz2' rfl (by decide) _ (A j).length (rowN N (A j)) rfl ?own ⟨_, 0, none⟩ 1 1 [.iface 57 (.pointer (some ⟨N k, 0, none⟩)), .int .i32 0] rfl rfl ?cells ?one ?l1 ?l2 ?l3 ?_
               case own => exact own_blk hown.out (fun g h1 h2 => by rw [heap_alloc_old _ _ (by rw [World.size_setCell, hz2]; omega), Below.heap_setCell _ _ _ _ (by show g ≠ wr.heap.size; omega), HT.out.blocks g (by omega) (by omega), heap_alloc_old _ _ h2])
               case cells =>
                 intro q u hq
                 match q, hq with
                 | 0, hq => cases hq; simp [go_sem, hz2]
                 | 1, hq => cases hq; simp [go_sem, hz2]
               case one =>
                 intro u hu
                 simp only [List.mem_cons, List.not_mem_nil, or_false] at hu
                 rcases hu with rfl | rfl <;> rfl
               case l1 => unfold maxLen; omega
               case l2 => omega
               case l3 => rw [World.size_alloc, World.size_setCell, hz2]; omega
               intro v' w1 hown1 hgrow1 hnil1)
            | fail)
          have hgk := grown_keep (cs := cs) hgrow1 (own_low hown.out) (Nat.le_of_lt HI.out.bd) (by rw [World.size_alloc, World.size_setCell, hz2]; omega)
            ((((hns.out.1.keep (W' := wr.alloc (.cells #[.iface 63 (.pointer (some ⟨N k + 1, 0, none⟩)), .int .i32 0] 53)) (fun b i hb => cell_alloc_old (by omega)) (fun b i hb => fz_alloc_old (by omega))).turn hkn HT.out).keep (fun b i hb => by rw [cell_alloc_old (by rw [World.size_setCell, hz2]; omega), cell_set_other (by show b ≠ wr.heap.size; omega)]) (fun b i hb => by rw [fz_alloc_old (by rw [World.size_setCell, hz2]; omega), fz_set_other (by show b ≠ wr.heap.size; omega)])))
            (((HT.out.below B w (hb.out.alloc (by have := HI.out.loc; omega) _) (HI.out.lo k hkn)).setCell (by show B ≤ wr.heap.size; have := HI.out.loc; omega) _).alloc (by rw [World.size_setCell, hz2]; have := HI.out.loc; omega) _) (by have := HI.out.loc; omega)
            (hfr.out.on (fun b h hbn _ => by rw [heap_alloc_old _ _ (by rw [World.size_setCell, hz2]; omega), Below.heap_setCell _ _ _ _ (by show b ≠ wr.heap.size; omega), HT.out.blocks b (hbn k hkn).1 (by have h9 := (hbn k hkn).2; rw [← EF.out] at h9; exact h9), heap_alloc_old _ _ (by omega)]))
          have hAs := HA.out.2.2.1 j hbj hlt
          rw [← EK.out] at hAs
          refine ⟨⟨j + 1, _, hlt, by go_num, fun e => htn (hnil1.1 e).1, Lib.hid ?_, Lib.hid ⟨hgk.1.congr (fun i hi => ?_), HZ.out.2.2 j z hbj hlt hns.out.2⟩, hgk.2.1, hgk.2.2, Lib.hid fun h => absurd h (Nat.succ_ne_zero _)⟩, ?_⟩
          · rw [hAs, List.length_append, rowN_append]
            exact hown1
          · rw [← EK.out, ← EF.out]
            rfl
          · simp [intOf]; omega
      · have hb1 : b = 1 := by have := HI.out.b1; omega
        obtain rfl : j = 0 := by omega
        obtain ⟨f0, f1, f2, f3, f4⟩ := HI.out.first hb1
        have hLn := HI.out.LN
        have r0 := hfr.out.cell f1 hLn HI.out.Lc
        have r1 := hfr.out.cell f2 hLn HI.out.Lc
        have hLs : L < wr.heap.size := World.block_lt_of_cell? _ _ r0
        have hbw0 := hj0.out rfl
        have hsc := fun o => HS.out hb1 (wr.alloc o) (hbw0.alloc hbz _)
        have HSC := Lib.hid hsc
        have F3 := Lib.hid (And.intro f3 f4)
        obtain ⟨G, eG⟩ : ∃ G, G = grp ρ A1 := ⟨_, rfl⟩
        have EG := Lib.hid eG
        have hA0 := HA.out.1
        have HAE := Lib.hid hA0
        have hbdn : ∀ i, i < n → N i + b2n (fs.getD i false) < w.heap.size := fun i hi => by have := hns.out.1.hi i hi; have := HI.out.bd; omega
        have HBN := Lib.hid hbdn
        clear f1 f2 f3 f4 hsc hLn eG hA0 hbdn hbj
        have hwr : w.heap.size < wr.heap.size := by
          have h1 := hown.out
          rcases h1.2 with ⟨h2, _⟩ | ⟨g, cap, cur, h2, h3, h4, _⟩
          · exact absurd h2 htn
          · have := (Array.getElem?_eq_some_iff.1 h4).1
            omega
        have hcne : ¬ c1 = wr.heap.size := by have := F3.out.2; omega
        have hAj := HA.out.2.2.2 0 hj
        have hgl := grp_len ρ _ A1 (Nat.le_refl _)
        by_cases hm1 : (grp ρ A1).length = 1
        · obtain ⟨h0, eh0⟩ : ∃ h0, h0 = hd (grp ρ A1) 0 := ⟨_, rfl⟩
          have EH0 := Lib.hid eh0
          have HM1 := Lib.hid hm1
          clear eh0 hm1 EG
          go_wp2_with (first
            | (go_at_call 23
               refine (HSC.out _).mono ?_
               rintro e w2 ⟨hB2, hF2, z1, ws, hz1', hns2, hraw, hsums, hone, hmany⟩
               have hz2 := hB2.size
               rw [World.size_alloc] at hz2
               have hnb : ∀ i, i < n → wr.heap.size ≠ N i ∧ wr.heap.size ≠ N i + b2n (fs.getD i false) := fun i hi => by have := HBN.out i hi; omega
               have hcb : wr.heap.size ∉ [c1] := by have := F3.out.2; simp only [List.mem_cons, List.not_mem_nil, or_false]; omega
               have k0 : w2.cell? ⟨wr.heap.size, 0, none⟩ = some (.iface 46 (.pointer (some ⟨c1, 0, none⟩))) := hF2.cell (by simp [go_sem]) hnb hcb
               have k1 : w2.cell? ⟨wr.heap.size, 1, none⟩ = some (.int .i32 0) := hF2.cell (by simp [go_sem]) hnb hcb
               have kf : w2.frozen? ⟨wr.heap.size, 0, none⟩ = false := (hF2.frozen (by rw [World.size_alloc]; omega) hnb hcb).trans (by simp [go_sem])
               have he := hone HM1.out
               rw [← EH0.out] at he
               subst he
               have HK := Lib.hid (And.intro hB2 (And.intro hF2 (And.intro hz1' (And.intro hns2 (And.intro hraw hsums)))))
               clear hB2 hF2 hz1' hns2 hraw hsums hone hmany hnb hcb)
            | (refine wpList_append_own (P := Tryz.prog) _ rfl (.tmp 49) (.tmp 51) 41 rfl w.heap.size 53 i0 _ 2 24 Tryz.underlying41 hi0 hz0 hz1 hz2' rfl (by decide) _ (A 0).length (rowN N (A 0)) rfl ?own ⟨_, 0, none⟩ 1 1 [.iface 57 (.pointer (some ⟨N h0, 0, none⟩)), .int .i32 0] rfl rfl ?cells ?one ?l1 ?l2 ?l3 ?_
               case own => exact own_blk hown.out (fun g h1 h2 => by rw [heap_alloc_old _ _ (by rw [World.size_setCell]; omega), Below.heap_setCell _ _ _ _ (by show g ≠ wr.heap.size; omega), HK.out.2.1 g (by rw [World.size_alloc]; omega) (fun i hi => by have := HBN.out i hi; omega) (by have := F3.out.2; simp only [List.mem_cons, List.not_mem_nil, or_false]; omega), heap_alloc_old _ _ h2])
               case cells =>
                 intro q u hq
                 match q, hq with
                 | 0, hq => cases hq; simp [go_sem]
                 | 1, hq => cases hq; simp [go_sem]
               case one =>
                 intro u hu
                 simp only [List.mem_cons, List.not_mem_nil, or_false] at hu
                 rcases hu with rfl | rfl <;> rfl
               case l1 => unfold maxLen; omega
               case l2 => omega
               case l3 => rw [World.size_alloc, World.size_setCell]; omega
               intro v' w1 hown1 hgrow1 hnil1)
            | fail)
          have hbdl := HI.out.bd
          have hgk := grown_keep (cs := cs) hgrow1 (own_low hown.out) (Nat.le_of_lt HI.out.bd) (by rw [World.size_alloc, World.size_setCell]; omega)
            (HK.out.2.2.2.1.keep (fun b i hb => by rw [cell_alloc_old (by rw [World.size_setCell]; omega), cell_set_other (by show b ≠ wr.heap.size; omega)]) (fun b i hb => by rw [fz_alloc_old (by rw [World.size_setCell]; omega), fz_set_other (by show b ≠ wr.heap.size; omega)]))
            ((((hb.out.alloc (by have := HI.out.loc; omega) _).trans HK.out.1).setCell (by show B ≤ wr.heap.size; have := HI.out.loc; omega) _).alloc (by rw [World.size_setCell]; have := HI.out.loc; omega) _) (by have := HI.out.loc; omega)
            (hfr.out.on (fun b h hbn hbc => by rw [heap_alloc_old _ _ (by rw [World.size_setCell]; omega), Below.heap_setCell _ _ _ _ (by show b ≠ wr.heap.size; omega), HK.out.2.1 b (by rw [World.size_alloc]; omega) hbn (by simp only [List.mem_cons, List.not_mem_nil, or_false]; intro e; exact hbc (e ▸ F3.out.1)), heap_alloc_old _ _ (by omega)]))
          refine ⟨⟨1, ws, hlt, rfl, fun e => htn (hnil1.1 e).1, Lib.hid ?_, Lib.hid ⟨hgk.1, HZ.out.2.1 hb1 z1 ws HK.out.2.2.1 HK.out.2.2.2.2.1 HK.out.2.2.2.2.2⟩, hgk.2.1, hgk.2.2, Lib.hid fun h => absurd h (by decide)⟩, ?_⟩
          · rw [HA.out.2.1 hb1, heads_len, HM1.out]
            have e1 : heads (grp ρ A1) = [h0] := by
              have h1 : (heads (grp ρ A1)).length = 1 := by rw [heads_len]; exact HM1.out
              obtain ⟨y, hy⟩ := List.length_eq_one_iff.1 h1
              have h2 := heads_at (grp ρ A1) 0
              rw [hy, ← EH0.out] at h2
              rw [hy, ← h2]
              rfl
            have h3 := hown1
            rw [HAE.out] at h3
            rw [e1]
            exact h3
          · simp [intOf]; omega
        · have HM1 := Lib.hid hm1
          clear hm1 EG
          go_wp2_with (first
            | (go_at_call 23
               refine (HSC.out _).mono ?_
               rintro e w2 ⟨hB2, hF2, z1, ws, hz1', hns2, hraw, hsums, hone, hmany⟩
               have hz2 := hB2.size
               rw [World.size_alloc] at hz2
               have hnb : ∀ i, i < n → wr.heap.size ≠ N i ∧ wr.heap.size ≠ N i + b2n (fs.getD i false) := fun i hi => by have := HBN.out i hi; omega
               have hcb : wr.heap.size ∉ [c1] := by have := F3.out.2; simp only [List.mem_cons, List.not_mem_nil, or_false]; omega
               have k0 : w2.cell? ⟨wr.heap.size, 0, none⟩ = some (.iface 46 (.pointer (some ⟨c1, 0, none⟩))) := hF2.cell (by simp [go_sem]) hnb hcb
               have k1 : w2.cell? ⟨wr.heap.size, 1, none⟩ = some (.int .i32 0) := hF2.cell (by simp [go_sem]) hnb hcb
               have kf : w2.frozen? ⟨wr.heap.size, 0, none⟩ = false := (hF2.frozen (by rw [World.size_alloc]; omega) hnb hcb).trans (by simp [go_sem])
               obtain ⟨he, T1, capT, hct, hcells⟩ := hmany HM1.out
               subst he
               have CELLS : Hid (∀ q u, (rowN N (heads (grp ρ A1)))[q]? = some u → ((w2.setCell ⟨wr.heap.size, 0, none⟩ (.iface 46 (.pointer (some ⟨c1, 0, none⟩))))).cell? ((⟨T1, 0, none⟩ : Addr).add q) = some u) := Lib.hid fun q u hq => by
                 have hq2 : q < (heads (grp ρ A1)).length * 2 := by rw [← rowN_len N]; exact (List.getElem?_eq_some_iff.1 hq).1
                 rw [heads_len] at hq2
                 have hT1 : T1 ≠ wr.heap.size := fun e => by
                   have h1 := (hcells 0 (by omega)).1
                   rw [e, Nat.zero_mul, k0] at h1
                   cases h1
                 rw [Addr.add_lit, Nat.zero_add, cell_set_other (by show T1 ≠ wr.heap.size; exact hT1)]
                 rcases Nat.mod_two_eq_zero_or_one q with h2 | h2
                 · obtain ⟨p, rfl⟩ : ∃ p, q = p * 2 := ⟨q / 2, by omega⟩
                   have h3 := (rowN_at N (heads (grp ρ A1)) p (by rw [heads_len]; omega)).1
                   rw [hq, heads_at] at h3
                   rw [Option.some.inj h3]
                   exact (hcells p (by omega)).1
                 · obtain ⟨p, rfl⟩ : ∃ p, q = p * 2 + 1 := ⟨q / 2, by omega⟩
                   have h3 := (rowN_at N (heads (grp ρ A1)) p (by rw [heads_len]; omega)).2
                   rw [hq] at h3
                   rw [Option.some.inj h3]
                   exact (hcells p (by omega)).2
               have HK := Lib.hid (And.intro hB2 (And.intro hF2 (And.intro hz1' (And.intro hns2 (And.intro hraw hsums)))))
               clear hB2 hF2 hz1' hns2 hraw hsums hone hmany hnb hcb hcells)
            | (refine wpList_append_own (P := Tryz.prog) _ rfl (.tmp 43) (.tmp 47) 41 rfl w.heap.size 53 i0 _ 2 24 Tryz.underlying41 hi0 hz0 hz1 hz2' rfl (by decide) _ (A 0).length (rowN N (A 0)) rfl ?own ⟨T1, 0, none⟩ (grp ρ A1).length capT (rowN N (heads (grp ρ A1))) rfl ?ln ?cells ?one ?l1 ?l2 ?l3 ?_
               case own => exact own_blk hown.out (fun g h1 h2 => by rw [Below.heap_setCell _ _ _ _ (by show g ≠ wr.heap.size; omega), HK.out.2.1 g (by rw [World.size_alloc]; omega) (fun i hi => by have := HBN.out i hi; omega) (by have := F3.out.2; simp only [List.mem_cons, List.not_mem_nil, or_false]; omega), heap_alloc_old _ _ h2])
               case ln => rw [rowN_len, heads_len]
               case cells => exact CELLS.out
               case one => exact rowN_one N _
               case l1 => unfold maxLen; omega
               case l2 => omega
               case l3 => rw [World.size_setCell]; omega
               intro v' w1 hown1 hgrow1 hnil1)
            | fail)
          have hbdl := HI.out.bd
          have hgk := grown_keep (cs := cs) hgrow1 (own_low hown.out) (Nat.le_of_lt HI.out.bd) (by rw [World.size_setCell]; omega)
            (HK.out.2.2.2.1.keep (fun b i hb => by rw [cell_set_other (by show b ≠ wr.heap.size; omega)]) (fun b i hb => by rw [fz_set_other (by show b ≠ wr.heap.size; omega)]))
            (((hb.out.alloc (by have := HI.out.loc; omega) _).trans HK.out.1).setCell (by show B ≤ wr.heap.size; have := HI.out.loc; omega) _) (by have := HI.out.loc; omega)
            (hfr.out.on (fun b h hbn hbc => by rw [Below.heap_setCell _ _ _ _ (by show b ≠ wr.heap.size; omega), HK.out.2.1 b (by rw [World.size_alloc]; omega) hbn (by simp only [List.mem_cons, List.not_mem_nil, or_false]; intro e; exact hbc (e ▸ F3.out.1)), heap_alloc_old _ _ (by omega)]))
          refine ⟨⟨1, ws, hlt, rfl, fun e => htn (hnil1.1 e).1, Lib.hid ?_, Lib.hid ⟨hgk.1, HZ.out.2.1 hb1 z1 ws HK.out.2.2.1 HK.out.2.2.2.2.1 HK.out.2.2.2.2.2⟩, hgk.2.1, hgk.2.2, Lib.hid fun h => absurd h (by decide)⟩, ?_⟩
          · rw [HA.out.2.1 hb1, heads_len]
            have h3 := hown1
            rw [HAE.out, List.length_nil, Nat.zero_add] at h3
            exact h3
          · simp [intOf]; omega
    · obtain rfl : j = len := by omega
      obtain ⟨T, cap, rfl, hwT, hTs, hcm, hTR⟩ := TR.of_own hown.out (by
        rcases hown.out.2 with ⟨h2, _⟩ | ⟨g, cap, cur, h2, _⟩
        · exact absurd h2 htn
        · rw [h2]; simp [Value.ownBlock])
      obtain ⟨A0, eA0⟩ : ∃ A0, A0 = A j := ⟨_, rfl⟩
      rw [← eA0] at hTR
      have hAl0 := HA.out.2.2.2 j (Nat.le_refl _)
      have hnd := HF.out.1
      have hAn := HF.out.2
      rw [← eA0] at hnd hAn hAl0
      have EA := Lib.hid eA0
      obtain ⟨e0, ee0⟩ : ∃ e0, e0 = A0.length := ⟨_, rfl⟩
      have hec : e0 ≤ cap := by rw [ee0]; exact hTR.2.1
      have HL0 := Lib.hid ee0
      have HN1 := Lib.hid hns.out.1
      have HZz := Lib.hid hns.out.2
      have HO1 := Lib.hid (Outer.start ρ A0 z n hnd hAn)
      have hTR1 : TR T cap e0 N ([] ++ A0) [] wr := by rw [ee0, List.nil_append]; exact hTR
      have HT1 := Lib.hid hTR1
      have hbdw := HI.out.bd
      have hBc := HI.out.loc
      have hAle : (A j).length = e0 := by rw [ee0, eA0]
      have hcapz : cap ≤ 9223372036854775807 := by unfold maxLen at hcm; omega
      rw [hAle]
      clear eA0 ee0 hTR hTR1 hnd hAn hAle hown hns hlt HA HS HF HZ htn hj0 hmk HO0 hi0 hz0 hz1 hz2' hcm
      go_wp2_with fail
      go_loopw [3, 8] (fun t i W => ∃ (q e : Nat) (GD : List (List Nat)) (D R : List Nat) (ws : Nat → Nat), Hid (D.length = q ∧ q + R.length = e) ∧ q ≤ e ∧ e ≤ cap ∧ i = .int .i64 q ∧ t = .slice (some ⟨T, 0, none⟩) e cap ∧ Hid (Outer ρ A0 z ws n GD D R) ∧
        Hid (TR T cap e N (D ++ R) [] W) ∧ Hid (NS us fs N n bd ws W) ∧ Hid (Below B w W) ∧ Hid (Fr N fs n cs w W) ∧ Hid (T < W.heap.size ∧ e ≤ 2097154 ∧ (∀ m, m ∈ D ++ R → m ∈ A0) ∧ ∀ i, i < n → i ∉ A0 → ws i = z i)) (fun _ i _ => cap - (intOf i).toNat)
      case atStart => exact ⟨0, e0, [], [], A0, z, Lib.hid ⟨rfl, by have := HL0.out; omega⟩, by omega, hec, rfl, rfl, HO1, HT1, HN1, hb, hfr, Lib.hid ⟨hTs, by have := HL0.out; omega, fun m hm => by simpa using hm, fun _ _ _ => rfl⟩⟩
      case round =>
        obtain ⟨q, e, GD, D, R, ws, hl, hqe, hek, rfl, rfl, hO, hT, hN, hb, hfr, hx⟩ := hrel
        have hTW := hx.out.1
        by_cases hlt : q < e
        · obtain ⟨a, R', rfl⟩ : ∃ a R', R = a :: R' := by
            have := hl.out.2
            cases R with
            | nil => simp at this; omega
            | cons a R' => exact ⟨a, R', rfl⟩
          have hl2 : q + (R'.length + 1) = e := by have := hl.out.2; rw [List.length_cons] at this; exact this
          have hca := hT.out.head (q := q) (by rw [List.length_append, List.length_cons, hl.out.1]; omega)
          have ega : (D ++ a :: R').getD q 0 = a := by rw [getD_append_right (by rw [hl.out.1]; exact Nat.le_refl _), hl.out.1, Nat.sub_self]; rfl
          rw [ega] at hca
          have g0 := hca.1
          have g1 := hca.2
          have ha : a < n := hO.out.lt a (by simp)
          have hRk : ∀ m, m ∈ R' → m < n ∧ m ≠ a := fun m hm => ⟨hO.out.lt m (by simp [hm]), fun em => by
            have := hO.out.nodup
            rw [List.nodup_append] at this
            subst em
            exact (List.nodup_cons.1 this.2.1).1 hm⟩
          have HRk := Lib.hid hRk
          have hqei : (q : Int) < (e : Int) := by omega
          have HL2 := Lib.hid hl2
          have hTR0 : TR T cap e N (D ++ [a]) R' wr := TR.split (by rw [List.append_assoc]; exact hT.out) (by rw [List.append_assoc, List.length_append]; simp; have := hl.out.1; omega)
          have HTR0 := Lib.hid hTR0
          have he2 := hx.out.2.1
          clear hca ega hRk hTR0
          go_wp2_with fail
          obtain ⟨Wa, eWa⟩ : ∃ Wa, Wa = wr := ⟨_, rfl⟩
          subst eWa
          have hbz := hb.out.size
          go_loopw [12, 13] (fun d j wr => ∃ (dn jn v : Nat) (P S A : List Nat), Hid (P ++ S = R') ∧ Hid (A = D ++ [a] ++ P.filter (fun x => !ρ x a) ∧ A.length = dn) ∧ Hid (jn + S.length = e) ∧ dn ≤ jn ∧ jn ≤ e ∧ d = .int .i64 dn ∧ j = .int .i64 jn ∧
            Hid (TR T cap e N A S wr) ∧ Hid (NS us fs N n bd (fun i => if i = a then v else ws i) wr) ∧ Hid (Sums ((a :: P.filter (fun x => ρ x a)).map z) v) ∧ Hid (Below B w wr) ∧ Hid (Fr N fs n cs w wr) ∧ Hid (T < wr.heap.size)) (fun _ j _ => cap - (intOf j).toNat)
          case atStart =>
            refine ⟨q + 1, q + 1, ws a, [], R', D ++ [a], rfl, ⟨by simp, by simp [hl.out.1]⟩, by show q + 1 + R'.length = e; omega, Nat.le_refl _, by omega, by go_num, by go_num, HTR0.out.alloc _, ?_, ?_, hb.out.alloc (by omega) _, hfr.out.on (fun b h _ _ => heap_alloc_old _ _ (by omega)), Lib.hid (by rw [World.size_alloc]; omega)⟩
            · refine (hN.out.blk (fun b h => heap_alloc_old _ _ (by omega))).congr (fun i hi => ?_)
              by_cases h1 : i = a
              · subst h1; rw [if_pos rfl]
              · rw [if_neg h1]
            · show Sums [z a] (ws a)
              rw [hO.out.raw a (by simp)]
              exact Sums.one _
          case round =>
            clear g0 g1
            obtain ⟨dn, jn, v, P, S, A2, hPS, hA, hjS, hdj, hje, rfl, rfl, hT2, hN2, hS2, hb2, hfr2, hTW2⟩ := hrel
            have hTz := hTW2.out
            have hbz2 := hb2.out.size
            by_cases hlt2 : jn < e
            · obtain ⟨s, S', rfl⟩ : ∃ s S', S = s :: S' := by
                have := hjS.out
                cases S with
                | nil => simp at this; omega
                | cons s S' => exact ⟨s, S', rfl⟩
              have hjS2 : jn + (S'.length + 1) = e := by have := hjS.out; rw [List.length_cons] at this; exact this
              obtain ⟨g0, g1⟩ := hT2.out.tail hjS2
              have hsR : s ∈ R' := by rw [← hPS.out]; simp
              obtain ⟨hsk, hsa⟩ := HRk.out s hsR
              have hNs := hN2.out.hi s hsk
              have hNa := hN2.out.hi a ha
              have hNs1 : N s < wr.heap.size := by omega
              have hNa1 : N a < wr.heap.size := by omega
              have hNe := (hN2.out.inj s a hsk ha hsa).1
              have m0 := hN2.out.unit s hsk
              have m1 := hN2.out.num s hsk
              have n0 := hN2.out.unit a ha
              have n1 := hN2.out.num a ha
              have nf := hN2.out.fz a ha
              simp only [if_pos, if_neg hsa] at m1 n1
              rw [hO.out.raw s (List.mem_cons_of_mem _ hsR)] at m1
              obtain ⟨us', eus⟩ : ∃ u, u = us.getD s ByteArray.empty := ⟨_, rfl⟩
              obtain ⟨ua', eua⟩ : ∃ u, u = us.getD a ByteArray.empty := ⟨_, rfl⟩
              obtain ⟨zz, ez⟩ : ∃ y, y = z s := ⟨_, rfl⟩
              rw [← eus] at m0
              rw [← eua] at n0
              rw [← ez] at m1
              have hef := HE.out s a hsk ha
              obtain ⟨bb, ebb⟩ : ∃ bb, bb = ρ s a := ⟨_, rfl⟩
              rw [← eus, ← eua, ← ebb] at hef
              have HBB := Lib.hid ebb
              have HEF := Lib.hid hef
              have HEZ := Lib.hid ez
              have hf := fun (t : TypeId) (W : World) => run_fop (P := Tryz.prog) (Or.inr (Or.inr rfl)) t v zz W
              have hjei : (jn : Int) < (e : Int) := by omega
              clear eus eua hef ez ebb
              have m0' := fun d os => cell_regrown (w := wr.alloc (.cells #[.iface 57 (.pointer (some ⟨N s, 0, none⟩)), .int .i32 0] 53)) (a := ⟨N s, 0, none⟩) (by rw [cell_alloc_old hNs1]; exact m0) d os
              have n0' := fun d os => cell_regrown (w := wr.alloc (.cells #[.iface 57 (.pointer (some ⟨N s, 0, none⟩)), .int .i32 0] 53)) (a := ⟨N a, 0, none⟩) (by rw [cell_alloc_old hNa1]; exact n0) d os
              have hBW : Below B w (wr.alloc (.cells #[.iface 57 (.pointer (some ⟨N s, 0, none⟩)), .int .i32 0] 53)) := hb2.out.alloc (by omega) _
              have HCL : Hid (∀ d os, Calls Tryz.prog 27 #[.string us', .string ua'] (grow (redrawn (wr.alloc (.cells #[.iface 57 (.pointer (some ⟨N s, 0, none⟩)), .int .i32 0] 53)) d) os) fun e w'' => e = .returned (.bool bb) ∧ ∃ p : Regrown, w'' = grow (redrawn (wr.alloc (.cells #[.iface 57 (.pointer (some ⟨N s, 0, none⟩)), .int .i32 0] 53)) p.d) p.os) := Lib.hid fun d os =>
                Calls.regrown_of (HEF.out _ (hBW.trans ((below_regrown _ d os).mono (by rw [World.size_alloc]; omega))))
              clear hBW
              go_wp2_with fail
              refine wp_region_quiet_below (by kernel_rfl) (by kernel_rfl) ?_
              repeat (quiet_step (first | (go_at_call 27; exact HCL.out _ _)))
              refine wpQuiet_nil ?_
              intro _ hw'
              obtain ⟨⟨dq, osq⟩, hw''⟩ := hw'
              subst hw''
              have hB5 := below_regrown (wr.alloc (.cells #[.iface 57 (.pointer (some ⟨N s, 0, none⟩)), .int .i32 0] 53)) dq osq
              generalize grow (redrawn (wr.alloc (.cells #[.iface 57 (.pointer (some ⟨N s, 0, none⟩)), .int .i32 0] 53)) dq) osq = W5 at hB5 ⊢
              have hbx : Go.RowKit.Below wr.heap.size wr W5 := ((Below.refl _ _).alloc (Nat.le_refl _) _).trans (hB5.mono (by rw [World.size_alloc]; omega))
              have k0 : W5.cell? ⟨wr.heap.size, 0, none⟩ = some (.iface 57 (.pointer (some ⟨N s, 0, none⟩))) := cell_later hB5 (by simp [go_sem])
              have k1 : W5.cell? ⟨wr.heap.size, 1, none⟩ = some (.int .i32 0) := cell_later hB5 (by simp [go_sem])
              have hz5 := hB5.size
              rw [World.size_alloc] at hz5
              have HBX := Lib.hid hbx
              have hT5 := hT2.out.blk (hbx.block T hTz)
              have HT5 := Lib.hid hT5
              have HN5 := Lib.hid (hN2.out.blk (fun b h => hbx.block b (by omega)))
              have HF5 := Lib.hid (hfr2.out.on (fun b h _ _ => hbx.block b (by omega)))
              have HB5 := Lib.hid (hb2.out.trans (hbx.mono (by omega)))
              have hT6 : T < W5.heap.size := by omega
              clear m0' n0' HCL hB5
              cases bb
              · obtain ⟨v0, hv0⟩ := hT5.some (dn * 2) (by omega)
                obtain ⟨v1, hv1⟩ := hT5.some (dn * 2 + 1) (by omega)
                have sf0 := hT5.fzn (dn * 2)
                have sf1 := hT5.fzn (dn * 2 + 1)
                have hdn : (dn : Int) < (e : Int) := by omega
                clear hT5 hbx
                go_wp2_with fail
                go_roundw
                case rel =>
                  have hk2 : ρ s a = false := HBB.out.symm
                  have e1 : [s].filter (fun x => !ρ x a) = [s] := by simp [hk2]
                  have e2 : [s].filter (fun x => ρ x a) = [] := by simp [hk2]
                  have hmv := HT5.out.move
                  rw [hA.out.2] at hmv
                  refine ⟨dn + 1, jn + 1, v, P ++ [s], S', A2 ++ [s], Lib.hid ?_, Lib.hid ⟨?_, ?_⟩, Lib.hid ?_, by omega, by omega, by go_num, by go_num, hmv,
                    Lib.hid (HN5.out.blk (fun b h => by rw [Below.heap_setCell _ _ _ _ (by show b ≠ T; omega), Below.heap_setCell _ _ _ _ (by show b ≠ T; omega)])), Lib.hid ?_,
                    (HB5.out.setCell (by show B ≤ T; omega) _).setCell (by show B ≤ T; omega) _,
                    HF5.out.on (fun b h _ _ => by rw [Below.heap_setCell _ _ _ _ (by show b ≠ T; omega), Below.heap_setCell _ _ _ _ (by show b ≠ T; omega)]), Lib.hid (by rw [World.size_setCell, World.size_setCell]; exact hT6)⟩
                  · rw [List.append_assoc]; exact hPS.out
                  · rw [hA.out.1, List.filter_append, e1, List.append_assoc, List.append_assoc]
                  · rw [List.length_append, hA.out.2]; rfl
                  · omega
                  · rw [List.filter_append, e2, List.append_nil]; exact hS2.out
                case measure => simp [intOf]; omega
              · have m2 := cell_later hbx m1
                have n2 := cell_later hbx n1
                have nf2 : W5.frozen? ⟨N a, 1, none⟩ = false := (Below.frozen hbx (p := ⟨N a, 1, none⟩) hNa1).trans nf
                have hNa5 : N a < W5.heap.size := by omega
                have hNs5 : N s < W5.heap.size := by omega
                clear hT5 hbx
                go_wp2_with fail
                go_region
                go_wp2_with fail
                go_roundw
                case rel =>
                  have hk2 : ρ s a = true := HBB.out.symm
                  have e1 : [s].filter (fun x => !ρ x a) = [] := by simp [hk2]
                  have e2 : [s].filter (fun x => ρ x a) = [s] := by simp [hk2]
                  have hBa := HI.out.lo a ha
                  refine ⟨dn, jn + 1, fR .add v zz W5.drew, P ++ [s], S', A2, Lib.hid ?_, Lib.hid ⟨?_, hA.out.2⟩, Lib.hid ?_, by omega, by omega, rfl, by go_num, Lib.hid ((HT5.out.skip.drewN _).other (by show T ≠ N a; omega)),
                    Lib.hid (((HN5.out.blk (W' := W5.drewN (1 + fN BinOp.add v zz)) (fun b h => rfl)).set ha).congr (fun i hi => ?_)), Lib.hid ?_,
                    (below_drewN HB5.out _).setCell hBa _, HF5.out.on (fun b h hbn _ => Below.heap_setCell _ _ _ _ (hbn a ha).1), Lib.hid (by rw [World.size_setCell]; exact hT6)⟩
                  · rw [List.append_assoc]; exact hPS.out
                  · rw [hA.out.1, List.filter_append, e1, List.append_nil]
                  · omega
                  · by_cases h1 : i = a
                    · simp [h1]
                    · simp [h1]
                  · rw [List.filter_append, e2, ← List.cons_append, List.map_append, HEZ.out]
                    exact Sums.snoc _ (z s) v _ hS2.out
                case measure => simp [intOf]; omega
            · have ejn : jn = e := by omega
              subst ejn
              have hS0 : S = [] := List.eq_nil_of_length_eq_zero (by have := hjS.out; omega)
              subst hS0
              have hdn2 : (dn : Int) ≤ (cap : Int) := by omega
              go_wp2_with fail
              go_roundw
              case rel =>
                have hP : P = R' := by have := hPS.out; rw [List.append_nil] at this; exact this
                subst hP
                have hs := hO.out.step hS2.out
                have hAl : q + 1 + (P.filter (fun x => !ρ x a)).length = dn := by
                  have := hA.out.2
                  rw [hA.out.1] at this
                  simp [hl.out.1] at this
                  omega
                have hcut := hT2.out.cut
                rw [hA.out.2, hA.out.1] at hcut
                refine ⟨q + 1, dn, _, D ++ [a], _, _, Lib.hid ⟨by simp [hl.out.1], hAl⟩, by omega, by omega, by go_num, rfl, hs, hcut, hN2.out, hb2.out, hfr2.out, Lib.hid ⟨hTz, by omega, fun m hm => ?_, fun i hi hia => ?_⟩⟩
                · refine hx.out.2.2.1 m ?_
                  rcases List.mem_append.1 hm with hm | hm
                  · rcases List.mem_append.1 hm with hm | hm
                    · exact List.mem_append_left _ hm
                    · exact List.mem_append_right _ (by simp at hm; simp [hm])
                  · exact List.mem_append_right _ (List.mem_cons_of_mem _ (List.mem_filter.1 hm).1)
                · have hia2 : i ≠ a := fun e => hia (e ▸ hx.out.2.2.1 a (by simp))
                  show (if i = a then v else ws i) = z i
                  rw [if_neg hia2]
                  exact hx.out.2.2.2 i hi hia
              case measure => simp [intOf]; omega
        · have eqe : q = e := by omega
          subst eqe
          have hR0 : R = [] := List.eq_nil_of_length_eq_zero (by have := hl.out.2; omega)
          subst hR0
          have hG : grp ρ A0 = GD := by rw [hO.out.grp, grp_nil, List.append_nil]
          have hgl : GD.length = D.length := hO.out.len.symm
          have hT0 : TR T cap q N D [] wr := by have := hT.out; rw [List.append_nil] at this; exact this
          have HG := Lib.hid (And.intro hG (And.intro hgl hT0))
          clear hG hgl
          by_cases h1 : q = 1
          · subst h1
            obtain ⟨g0, g1⟩ := hT0.head (q := 0) (by rw [hl.out.1]; omega)
            have hd0 := hO.out.head 0 (by rw [HG.out.2.1, hl.out.1]; omega)
            rw [hd0] at g0
            clear hT0 hd0
            go_wp2_with fail
            go_ret
            unfold SumsTo
            rw [← EA.out, HG.out.1]
            exact ⟨hb.out, hfr.out.more (fun b h => List.mem_cons_of_mem _ h), z, ws, HZz.out, hN.out, hx.out.2.2.2, hO.out.sum, fun _ => rfl, fun h => absurd (by rw [HG.out.2.1, hl.out.1]) h⟩
          · have hq1 : ((q : Int) == 1) = false := by simp; omega
            have c0 := hfr.out.cell HI.out.c0 HI.out.cN HI.out.cc
            have cf := (hfr.out.frozen hcs HI.out.cN HI.out.cc).trans HI.out.cf
            have hbc := HI.out.bc
            clear hT0
            go_wp2_with fail
            go_ret
            unfold SumsTo
            rw [← EA.out, HG.out.1]
            refine ⟨hb.out.setCell hBc _, (hfr.out.more (fun b h => List.mem_cons_of_mem _ h)).on (fun b h _ hbc' => Below.heap_setCell _ _ _ _ (fun e => hbc' (e ▸ List.mem_cons_self))), z, ws, HZz.out, hN.out.blk (fun b h => Below.heap_setCell _ _ _ _ (by show b ≠ c; omega)), hx.out.2.2.2, hO.out.sum, fun h => absurd (by rw [← hl.out.1, ← HG.out.2.1, h]) h1, fun _ => ⟨rfl, T, cap, ?_, fun x hxl => ?_⟩⟩
            · rw [World.cell?_setCell_same' _ _ _ (by rw [c0]; rfl), HG.out.2.1, hl.out.1]
            · rw [cell_set_other (by show T ≠ c; omega), cell_set_other (by show T ≠ c; omega), ← hO.out.head x hxl]
              exact HG.out.2.2.head (by rw [← HG.out.2.1]; exact hxl)
end Go.Proofs.YtnoghiefpdbpbaaGreatFmt
