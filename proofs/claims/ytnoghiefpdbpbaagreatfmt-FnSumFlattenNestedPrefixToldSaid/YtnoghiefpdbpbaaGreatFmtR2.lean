/-
  How a sum is described; ZZSimplifySum, flat and nested.
-/
import Derived.Test.YtnoghiefpdbpbaaGreatFmtQ2
import Derived.Test.YtnoghiefpdbpbaaGreatFmtN3
import Derived.Deep.CutBlock
namespace Go.Proofs.YtnoghiefpdbpbaaGreatFmt
open Go.RowKit Go.Deep

/-- The described terms: units and numbers. -/
def Terms (kind : Int) (u : Nat → ByteArray) (vs : Nat → Nat) (m : Nat) (w : World) (e : Ending) (w' : World) : Prop :=
  Below w.heap.size w w' ∧ ∃ U F : Nat, e = .returned (.tuple #[.int .i64 kind, .slice (some ⟨U, 0, none⟩) m m, .slice (some ⟨F, 0, none⟩) m m]) ∧
    ∀ q, q < m → w'.cell? ⟨U, q, none⟩ = some (.string (u q)) ∧ w'.cell? ⟨F, q, none⟩ = some (.float .f64 (vs q))

set_option maxHeartbeats 1000000 in
set_option maxRecDepth 100000 in
theorem terms_any (kind : Int) (T m cap : Nat) (M vs : Nat → Nat) (u : Nat → ByteArray) (w : World) (hm : m ≤ 1048577)
    (hT : ∀ q, q < m → w.cell? ⟨T, q * 2, none⟩ = some (.iface 57 (.pointer (some ⟨M q, 0, none⟩))) ∧ w.cell? ⟨T, q * 2 + 1, none⟩ = some (.int .i32 0))
    (hM : ∀ q, q < m → w.cell? ⟨M q, 0, none⟩ = some (.string (u q)) ∧ w.cell? ⟨M q, 1, none⟩ = some (.float .f64 (vs q))) :
    Calls Tryz.prog 26 #[.int .i64 kind, .slice (some ⟨T, 0, none⟩) m cap] w (Terms kind u vs m w) := by
  have hm1 : ∀ W, (Instr.makeSlice 22 (.int .i64 0) (.int .i64 (m : Int))).run Tryz.prog W = .ok (.slice (some ⟨W.heap.size, 0, none⟩) 0 m) (W.alloc (.cells (madeCells #[.string ⟨#[]⟩] m) 9)) := fun W => by
    have h := make0 W 22 9 (.string ⟨#[]⟩) 1 16 Tryz.underlying22 info9 m (by omega) (by omega)
    rw [Nat.mul_one] at h
    exact h
  have hm2 : ∀ W, (Instr.makeSlice 23 (.int .i64 0) (.int .i64 (m : Int))).run Tryz.prog W = .ok (.slice (some ⟨W.heap.size, 0, none⟩) 0 m) (W.alloc (.cells (madeCells #[.float .f64 0] m) 33)) := fun W => by
    have h := make0 W 23 33 (.float .f64 0) 1 8 Tryz.underlying23 info33 m (by omega) (by omega)
    rw [Nat.mul_one] at h
    exact h
  have ha := fun x => run_assert_same (P := Tryz.prog) (.pointer (some ⟨x, 0, none⟩)) 45 57 59 u57
  have HT := Lib.hid (And.intro hT hM)
  clear hT hM
  obtain ⟨U, eU⟩ : ∃ U, U = w.heap.size := ⟨_, rfl⟩
  go_enter Tryz.func26, Tryz.ntmps26
  go_wp2_with fail
  go_loopw [7, 8, 21] (fun a b i wr => ∃ k : Nat, k ≤ m ∧ i = .int .i64 k ∧ a = .slice (some ⟨w.heap.size, 0, none⟩) k m ∧ b = .slice (some ⟨w.heap.size + 1, 0, none⟩) k m ∧ Hid (wr.rowIs w.heap.size 9 m (fun i => .string (if i < k then u i else ⟨#[]⟩))) ∧
    Hid (wr.rowIs (w.heap.size + 1) 33 m (fun i => fl (if i < k then vs i else 0))) ∧ Hid (Below w.heap.size w wr)) (fun _ _ i _ => m - (intOf i).toNat)
  case atStart =>
    refine ⟨0, by omega, rfl, rfl, rfl, ?_, ?_, ((Below.refl _ _).alloc (Nat.le_refl _) _).alloc (by rw [World.size_alloc]; omega) _⟩
    · exact ((World.rowIs_made w (.string ⟨#[]⟩) m 9).alloc _).congr (fun i _ => by rw [if_neg (by omega)])
    · have h := World.rowIs_made (w.alloc (.cells (madeCells #[.string ⟨#[]⟩] m) 9)) (.float .f64 0) m 33
      rw [World.size_alloc] at h
      exact h.congr (fun i _ => by rw [if_neg (by omega)])
  case round =>
    obtain ⟨k, hk, rfl, rfl, rfl, rU, rF, hb⟩ := hrel
    by_cases hlt : k < m
    · obtain ⟨t0, t1⟩ := HT.out.1 k hlt
      obtain ⟨n0, n1⟩ := HT.out.2 k hlt
      have g0 := cell_later hb.out t0
      have g1 := cell_later hb.out t1
      have g2 := cell_later hb.out n0
      have g3 := cell_later hb.out n1
      have hz := hb.out.size
      have lT : T < w.heap.size := World.block_lt_of_cell? _ _ t0
      have lM : M k < w.heap.size := World.block_lt_of_cell? _ _ n0
      have lU := World.block_lt_of_cell? _ _ (rU.out.cell hlt)
      have lF := World.block_lt_of_cell? _ _ (rF.out.cell hlt)
      have cU : wr.cell? ⟨w.heap.size, k, none⟩ = some (.string ⟨#[]⟩) := by rw [rU.out.cell hlt, if_neg (by omega)]
      have cF : wr.cell? ⟨w.heap.size + 1, k, none⟩ = some (.float .f64 0) := by rw [rF.out.cell hlt, if_neg (by omega)]
      have fU := rU.out.frozen k
      have fF := rF.out.frozen k
      simp only at lU lF
      have hkm : (k : Int) < (m : Int) := by omega
      obtain ⟨uk, euk⟩ : ∃ x, x = u k := ⟨_, rfl⟩
      obtain ⟨vk, evk⟩ : ∃ x, x = vs k := ⟨_, rfl⟩
      rw [← euk] at g2
      rw [← evk] at g3
      have HUV := Lib.hid (And.intro euk evk)
      have lM' : M k < wr.heap.size := by omega
      have n1 : ∀ i j, (⟨w.heap.size, i, none⟩ : Addr) ≠ ⟨M k, j, none⟩ := fun i j e => by injection e; omega
      have n2 : ∀ i j, (⟨w.heap.size, i, none⟩ : Addr) ≠ ⟨w.heap.size + 1, j, none⟩ := fun i j e => by injection e; omega
      clear t0 t1 n0 euk evk
      go_wp2_with fail
      go_roundw
      case rel =>
        refine ⟨k + 1, by omega, by go_num, rfl, rfl, ?_, ?_, ?_⟩
        · refine ((((row_other (rU.out.set k (.string uk)) (show w.heap.size ≠ w.heap.size + 1 by omega)).alloc _).alloc _).alloc _).congr (fun i _ => ?_)
          by_cases e : i = k
          · subst e; rw [if_pos rfl, if_pos (by omega), HUV.out.1]
          · rw [if_neg e]
            by_cases h2 : i < k
            · rw [if_pos h2, if_pos (by omega)]
            · rw [if_neg h2, if_neg (by omega)]
        · refine (((((row_other rF.out (show w.heap.size + 1 ≠ w.heap.size by omega)).set k (.float .f64 vk)).alloc _).alloc _).alloc _).congr (fun i _ => ?_)
          by_cases e : i = k
          · subst e; rw [if_pos rfl, if_pos (by omega), HUV.out.2]
          · rw [if_neg e]
            by_cases h2 : i < k
            · rw [if_pos h2, if_pos (by omega)]
            · rw [if_neg h2, if_neg (by omega)]
        · have z : ((wr.setCell ⟨w.heap.size, k, none⟩ (.string uk)).setCell ⟨w.heap.size + 1, k, none⟩ (.float .f64 vk)).heap.size = wr.heap.size := by rw [World.size_setCell, World.size_setCell]
          exact ((((hb.out.setCell (Nat.le_refl _) _).setCell (by show w.heap.size ≤ w.heap.size + 1; omega) _).alloc (by rw [z]; omega) _).alloc (by rw [World.size_alloc, z]; omega) _).alloc (by rw [World.size_alloc, World.size_alloc, z]; omega) _
      case measure => simp [intOf]; omega
    · obtain rfl : k = m := by omega
      go_wp2_with fail
      go_ret3
      exact ⟨hb.out, _, _, rfl, fun q hq => ⟨by rw [rU.out.cell hq, if_pos hq], by rw [rF.out.cell hq, if_pos hq]⟩⟩

set_option maxRecDepth 100000 in
set_option maxHeartbeats 1000000 in
theorem describe_sum (c T m cap : Nat) (M vs : Nat → Nat) (u : Nat → ByteArray) (w : World) (hm : m ≤ 1048577) (c0 : w.cell? ⟨c, 0, none⟩ = some (.slice (some ⟨T, 0, none⟩) m cap))
    (hT : ∀ q, q < m → w.cell? ⟨T, q * 2, none⟩ = some (.iface 57 (.pointer (some ⟨M q, 0, none⟩))) ∧ w.cell? ⟨T, q * 2 + 1, none⟩ = some (.int .i32 0))
    (hM : ∀ q, q < m → w.cell? ⟨M q, 0, none⟩ = some (.string (u q)) ∧ w.cell? ⟨M q, 1, none⟩ = some (.float .f64 (vs q))) :
    Calls Tryz.prog 22 #[.iface 46 (.pointer (some ⟨c, 0, none⟩))] w (Terms 2 u vs m w) := by
  have ha := run_assert_same (P := Tryz.prog) (.pointer (some ⟨c, 0, none⟩)) 45 46 48 u46
  have hb := run_assert_other (P := Tryz.prog) (.pointer (some ⟨c, 0, none⟩)) 45 57 46 59 u57 (by decide) z57
  have ht := Lib.hid (terms_any 2 T m cap M vs u w hm hT hM)
  clear hT hM
  go_enter Tryz.func22, Tryz.ntmps22
  go_wp2_with fail
  refine ht.out.mono ?_
  rintro e w' ⟨hB, U, F, rfl, hc⟩
  go_wp2_with fail
  go_ret3
  exact ⟨hB, _, _, rfl, hc⟩

/-- The groups of A0, described. -/
def Told2 (ρ : Nat → Nat → Bool) (us : List ByteArray) (A0 : List Nat) (ws : Nat → Nat) (w : World) (e : Ending) (w' : World) : Prop :=
  Below w.heap.size w w' ∧ ∃ U F : Nat, e = .returned (.tuple #[.int .i64 (if (grp ρ A0).length = 1 then 1 else 2), .slice (some ⟨U, 0, none⟩) (grp ρ A0).length (grp ρ A0).length, .slice (some ⟨F, 0, none⟩) (grp ρ A0).length (grp ρ A0).length]) ∧
    ∀ q, q < (grp ρ A0).length → w'.cell? ⟨U, q, none⟩ = some (.string (us.getD (hd (grp ρ A0) q) ByteArray.empty)) ∧ w'.cell? ⟨F, q, none⟩ = some (.float .f64 (ws (hd (grp ρ A0) q)))

set_option maxRecDepth 100000 in
theorem told2_any {ρ : Nat → Nat → Bool} {us : List ByteArray} {fs : List Bool} {N : Nat → Nat} {n bd : Nat} {A0 : List Nat} {ws : Nat → Nat} {c : Nat} {w2 : World} {v : Value} (hn : A0.length ≤ 1048577) (hA : ∀ m, m ∈ A0 → m < n) (hN : NS us fs N n bd ws w2)
    (h1 : (grp ρ A0).length = 1 → v = .iface 57 (.pointer (some ⟨N (hd (grp ρ A0) 0), 0, none⟩)))
    (h2 : (grp ρ A0).length ≠ 1 → v = .iface 46 (.pointer (some ⟨c, 0, none⟩)) ∧ ∃ T cap, w2.cell? ⟨c, 0, none⟩ = some (.slice (some ⟨T, 0, none⟩) (grp ρ A0).length cap) ∧
      ∀ q, q < (grp ρ A0).length → w2.cell? ⟨T, q * 2, none⟩ = some (.iface 57 (.pointer (some ⟨N (hd (grp ρ A0) q), 0, none⟩))) ∧ w2.cell? ⟨T, q * 2 + 1, none⟩ = some (.int .i32 0)) :
    Calls Tryz.prog 22 #[v] w2 (Told2 ρ us A0 ws w2) := by
  have hgl := grp_len ρ _ A0 (Nat.le_refl _)
  have hh : ∀ q, q < (grp ρ A0).length → hd (grp ρ A0) q < n := fun q hq => hA _ (grp_mem ρ _ A0 (Nat.le_refl _) q _ (by rw [grp_ne ρ A0 q hq]; exact List.mem_cons_self))
  unfold Told2
  by_cases hm : (grp ρ A0).length = 1
  · rw [h1 hm, hm]
    refine (describe_num _ _ _ w2 (hN.unit _ (hh 0 (by omega))) (hN.num _ (hh 0 (by omega)))).mono ?_
    rintro e w3 ⟨b1, b2, rfl, d0, d1, hB3⟩
    exact ⟨hB3, b1, b2, rfl, fun q hq => by
      obtain rfl : q = 0 := by omega
      exact ⟨d0, d1⟩⟩
  · obtain ⟨rfl, T, cap, c0, hT⟩ := h2 hm
    refine (describe_sum c T _ cap (fun q => N (hd (grp ρ A0) q)) (fun q => ws (hd (grp ρ A0) q)) (fun q => us.getD (hd (grp ρ A0) q) ByteArray.empty) w2 (by omega) c0 hT (fun q hq => ⟨hN.unit _ (hh q hq), hN.num _ (hh q hq)⟩)).mono ?_
    rintro e w3 ⟨hB3, U, F, rfl, hc⟩
    exact ⟨hB3, U, F, by rw [if_neg hm], hc⟩

/-- What ZZSimplifySum answers: the groups of all the terms, each with its first unit and its sum. -/
def SumOut2 (ρ : Nat → Nat → Bool) (us : List ByteArray) (zl : Nat → Nat) (n : Nat) (w : World) (e : Ending) (w' : World) : Prop :=
  Below w.heap.size w w' ∧ ∃ (U F : Nat) (vs : Nat → Nat), e = .returned (.tuple #[.int .i64 (if (grp ρ (List.range n)).length = 1 then 1 else 2), .slice (some ⟨U, 0, none⟩) (grp ρ (List.range n)).length (grp ρ (List.range n)).length, .slice (some ⟨F, 0, none⟩) (grp ρ (List.range n)).length (grp ρ (List.range n)).length]) ∧
    ∀ q, q < (grp ρ (List.range n)).length → w'.cell? ⟨U, q, none⟩ = some (.string (us.getD (hd (grp ρ (List.range n)) q) ByteArray.empty)) ∧ w'.cell? ⟨F, q, none⟩ = some (.float .f64 (vs q)) ∧ Sums (((grp ρ (List.range n)).getD q []).map zl) (vs q)

def zl (xs : List Nat) (fs : List Bool) (i : Nat) : Nat := ng (xs.getD i 0) (fs.getD i false)

theorem ns_of_nodes {us : List ByteArray} {xs : List Nat} {fs : List Bool} {n B L : Nat} {N : Nat → Nat} {W : World} (h : Nodes false us xs fs n B L N W) : NS us fs N n W.heap.size (fun i => xs.getD i 0) W :=
  ⟨h.hiN, h.mono, h.unit, h.num, h.fz, h.inn⟩

/-- The sum of the first len leaves, wherever their row lies. -/
theorem sum_plain (ρ : Nat → Nat → Bool) (us : List ByteArray) (xs : List Nat) (fs : List Bool) (N : Nat → Nat) (n B bd c L len : Nat) (ad : Option Addr) (cap : Nat) (w : World) (hlen : len ≤ 1048577) (hle : len ≤ n)
    (hI : SumIn us fs N n B bd [] c L len 0 0 ad cap (fun j => j) (fun i => xs.getD i 0) w)
    (hE : ∀ i j, i < n → j < n → ∀ W, Below B w W → Calls Tryz.prog 27 #[.string (us.getD i ByteArray.empty), .string (us.getD j ByteArray.empty)] W (Ret (.bool (ρ i j)) W)) :
    Calls Tryz.prog 23 #[.pointer (some ⟨c, 0, none⟩)] w (SumsTo ρ us fs N n B bd [] (List.range len) (fun z => ∀ i, z i = if i < len then zl xs fs i else xs.getD i 0) c w) :=
  sum_any2 ρ us fs N n B bd [] c L len 0 0 ad cap (fun j => j) (fun i => xs.getD i 0) w hlen hI [] (fun _ => True) (by simp) (fun h => absurd h (by decide)) (fun j => List.range j) rfl (fun h => absurd h (by decide))
    (fun j _ _ => List.range_succ) (fun j hj => by rw [List.length_range]; omega) (fun j z => ∀ i, z i = if i < j then zl xs fs i else xs.getD i 0) (fun i => by rw [if_neg (Nat.not_lt_zero _)]) (fun h => absurd h (by decide))
    (fun j z _ _ hz i => by
      dsimp only
      by_cases e : i = j
      · subst e
        rw [if_pos rfl, if_pos (Nat.lt_succ_self _), hz i, if_neg (Nat.lt_irrefl _)]
        rfl
      · rw [if_neg e, hz i]
        by_cases h : i < j
        · rw [if_pos h, if_pos (by omega)]
        · rw [if_neg h, if_neg (by omega)])
    List.nodup_range (fun m hm => by have := List.mem_range.1 hm; omega) hE

theorem sumsTo_val {ρ : Nat → Nat → Bool} {us : List ByteArray} {fs : List Bool} {N : Nat → Nat} {n B bd : Nat} {cs A0 : List Nat} {Z : (Nat → Nat) → Prop} {c : Nat} {w w2 : World} {e : Ending} (h : SumsTo ρ us fs N n B bd cs A0 Z c w e w2) (hn : A0.length ≤ 1048577) (hA : ∀ m, m ∈ A0 → m < n) :
    ∃ v z ws, e = .returned v ∧ Below B w w2 ∧ Z z ∧ (∀ i, i < n → i ∉ A0 → ws i = z i) ∧ (∀ q, q < (grp ρ A0).length → Sums (((grp ρ A0).getD q []).map z) (ws (hd (grp ρ A0) q))) ∧ Calls Tryz.prog 22 #[v] w2 (Told2 ρ us A0 ws w2) := by
  obtain ⟨hB, hF, z, ws, hz, hns, hraw, hsums, h1, h2⟩ := h
  by_cases hm : (grp ρ A0).length = 1
  · exact ⟨_, z, ws, h1 hm, hB, hz, hraw, hsums, told2_any (c := c) hn hA hns (fun _ => rfl) (fun h => absurd hm h)⟩
  · exact ⟨_, z, ws, (h2 hm).1, hB, hz, hraw, hsums, told2_any hn hA hns (fun h => absurd h hm) (fun _ => ⟨rfl, (h2 hm).2⟩)⟩

set_option maxHeartbeats 4000000 in
set_option maxRecDepth 100000 in
/-- A flat sum. -/
theorem simpflat_any (ρ : Nat → Nat → Bool) (au af ab : Option Addr) (cu cf cb : Nat) (us : List ByteArray) (xs : List Nat) (fs : List Bool) (nu nb : Nat) (w : World)
    (hu : Slc Value.string ByteArray.empty w au us) (hx : Slc fl 0 w af xs) (hf : Slc Value.bool false w ab fs) (hl : xs.length ≤ 1048577) (hlu : us.length = xs.length) (hnu : nu = xs.length) (hlf : nb = fs.length) (hlb : fs.length = xs.length)
    (hE : ∀ i j, i < xs.length → j < xs.length → ∀ W, Below w.heap.size w W → Calls Tryz.prog 27 #[.string (us.getD i ByteArray.empty), .string (us.getD j ByteArray.empty)] W (Ret (.bool (ρ i j)) W)) :
    Calls Tryz.prog 13 #[.slice au nu cu, .slice af xs.length cf, .slice ab nb cb, .int .i64 (-1)] w (SumOut2 ρ us (zl xs fs) xs.length w) := by
  subst hnu
  have HL := Lib.hid (leaves_any false au af ab cu cf cb us xs fs nb w hu hx hf hl hlu hlf hlb)
  have HE := Lib.hid hE
  obtain ⟨n, en⟩ : ∃ n, n = xs.length := ⟨_, rfl⟩
  rw [← en] at HL HE hl ⊢
  clear hu hx hf hlu hlf hlb hE en
  go_enter Tryz.func13, Tryz.ntmps13
  go_wp2_with fail
  refine HL.out.mono ?_
  rintro e w1 ⟨L, N, rfl, hN, hB⟩
  have HN := Lib.hid hN
  have HB := Lib.hid hB
  clear hN hB
  go_wp2_with fail
  have hsz := HB.out.size
  have hz1 : ∀ o, (w1.alloc o).heap.size = w1.heap.size + 1 := fun o => World.size_alloc _ _
  have hb1 : Below w.heap.size w (w1.alloc (.cells #[.slice (some ⟨L, 0, none⟩) n n] 48)) := HB.out.alloc hsz _
  refine (sum_plain ρ us xs fs N n w.heap.size w1.heap.size w1.heap.size L n (some ⟨L, 0, none⟩) n _ hl (Nat.le_refl _) ?_ (fun i j hi hj W hW => HE.out i j hi hj W (hb1.trans hW))).mono ?_
  · have h := HN.out
    refine ⟨(ns_of_nodes h).keep (fun b i hb => cell_alloc_old hb) (fun b i hb => fz_alloc_old hb), Nat.le_refl _, by rw [hz1]; omega, fun i hi => by have := h.lo; have := h.loN i hi; omega, hsz, by rw [World.cell?_alloc_new]; rfl, by rw [World.frozen?_alloc_new], fun i hi => by have := h.hiN i hi; omega, by simp, fun _ => rfl,
      fun i hi => by have := h.loN i hi; omega, by simp, fun j _ hj => ⟨by rw [cell_alloc_old h.hiL]; exact h.row j hj, by rw [cell_alloc_old h.hiL]; exact h.loc j hj⟩, fun j _ hj => hj, fun h => absurd h (by decide), by omega⟩
  rintro e w2 hsum
  obtain ⟨v, z, ws, rfl, hB2, hz, hraw, hsums, ht⟩ := sumsTo_val hsum (by rw [List.length_range]; exact hl) (fun m hm => List.mem_range.1 hm)
  have HT := Lib.hid ht
  have HB2 := Lib.hid (hb1.trans hB2)
  have HS := Lib.hid (And.intro hz hsums)
  clear hsum hB2 hz hraw hsums ht hb1
  go_wp2_with fail
  refine HT.out.mono ?_
  rintro e w3 ⟨hB3, U, F, he, hc⟩
  obtain ⟨kd, ekd⟩ : ∃ kd : Int, (if (grp ρ (List.range n)).length = 1 then (1 : Int) else 2) = kd := ⟨_, rfl⟩
  rw [ekd] at he
  subst he
  have EKD := Lib.hid ekd
  clear ekd
  go_wp2_with fail
  go_ret3
  refine ⟨HB2.out.trans (hB3.mono HB2.out.size), U, F, fun q => ws (hd (grp ρ (List.range n)) q), by rw [EKD.out]; rfl, fun q hq => ⟨(hc q hq).1, (hc q hq).2, ?_⟩⟩
  have h := HS.out.2 q hq
  have e1 : ((grp ρ (List.range n)).getD q []).map (zl xs fs) = ((grp ρ (List.range n)).getD q []).map z := List.map_congr_left fun i hi => by
    have := List.mem_range.1 (grp_mem ρ _ (List.range n) (Nat.le_refl _) q i hi)
    rw [HS.out.1 i, if_pos this]
  rw [e1]
  exact h

/-- The cells of a row of leaves. -/
def rowL (fs : List Bool) (N : Nat → Nat) (A : List Nat) : List Value := A.flatMap fun i => [leafV false (fs.getD i false) (N i), .int .i32 0]
theorem rowL_len (fs : List Bool) (N : Nat → Nat) (A : List Nat) : (rowL fs N A).length = A.length * 2 := by
  unfold rowL
  induction A with
  | nil => rfl
  | cons a A ih => rw [List.flatMap_cons, List.length_append, ih, List.length_cons, List.length_cons, List.length_cons, List.length_nil]; omega
theorem rowL_at (fs : List Bool) (N : Nat → Nat) : ∀ (A : List Nat) (q : Nat), q < A.length → (rowL fs N A)[q * 2]? = some (leafV false (fs.getD (A.getD q 0) false) (N (A.getD q 0))) ∧ (rowL fs N A)[q * 2 + 1]? = some (.int .i32 0)
  | [], q, h => absurd h (Nat.not_lt_zero _)
  | a :: A, 0, _ => ⟨rfl, rfl⟩
  | a :: A, q + 1, h => by
    have ih := rowL_at fs N A q (by simpa using h)
    have e : rowL fs N (a :: A) = leafV false (fs.getD a false) (N a) :: .int .i32 0 :: rowL fs N A := rfl
    rw [e, show (q + 1) * 2 = q * 2 + 1 + 1 by omega, List.getElem?_cons_succ, List.getElem?_cons_succ, List.getElem?_cons_succ, List.getElem?_cons_succ]
    exact ih
theorem rowL_one (fs : List Bool) (N : Nat → Nat) (A : List Nat) : ∀ u ∈ rowL fs N A, u.oneCell' = true := fun u hu => by
  unfold rowL at hu
  obtain ⟨a, _, h⟩ := List.mem_flatMap.1 hu
  simp only [List.mem_cons, List.not_mem_nil, or_false] at h
  rcases h with rfl | rfl
  · unfold leafV wrapT
    split <;> rfl
  · rfl
/-- The leaves' rows from place lo on, as a list of cells. -/
theorem leaf_cells {us : List ByteArray} {xs : List Nat} {fs : List Bool} {n B L : Nat} {N : Nat → Nat} {w1 W : World} (h : Nodes false us xs fs n B L N w1) (hb : W.heap[L]? = w1.heap[L]?) (lo m : Nat) (hm : lo + m ≤ n) :
    ∀ q u, (rowL fs N ((List.range m).map (lo + ·)))[q]? = some u → W.cell? ((⟨L, lo * 2, none⟩ : Addr).add q) = some u := fun q u hq => by
  have hq2 : q < m * 2 := by
    have := (List.getElem?_eq_some_iff.1 hq).1
    rw [rowL_len, List.length_map, List.length_range] at this
    exact this
  have hg : ∀ p, p < m → ((List.range m).map (lo + ·)).getD p 0 = lo + p := fun p hp => by rw [List.getD_eq_getElem?_getD, List.getElem?_map, List.getElem?_range hp]; rfl
  rw [Addr.add_lit]
  rw [World.cell?_of_block (a := ⟨L, lo * 2 + q, none⟩) hb]
  rcases Nat.mod_two_eq_zero_or_one q with h2 | h2
  · obtain ⟨p, rfl⟩ : ∃ p, q = p * 2 := ⟨q / 2, by omega⟩
    have h3 := (rowL_at fs N ((List.range m).map (lo + ·)) p (by rw [List.length_map, List.length_range]; omega)).1
    rw [hq, hg p (by omega)] at h3
    rw [Option.some.inj h3, show lo * 2 + p * 2 = (lo + p) * 2 by omega]
    exact h.row (lo + p) (by omega)
  · obtain ⟨p, rfl⟩ : ∃ p, q = p * 2 + 1 := ⟨q / 2, by omega⟩
    have h3 := (rowL_at fs N ((List.range m).map (lo + ·)) p (by rw [List.length_map, List.length_range]; omega)).2
    rw [hq] at h3
    rw [Option.some.inj h3, show lo * 2 + (p * 2 + 1) = (lo + p) * 2 + 1 by omega]
    exact h.loc (lo + p) (by omega)
theorem own_ad {W : World} {base : Nat} {v : Value} {m : Nat} {xs : List Value} (h : W.ownsRow base 53 2 v m xs) :
    ∃ (ad : Option Addr) (g cap : Nat), v = .slice ad m cap ∧ (0 < m → ad = some ⟨g, 0, none⟩ ∧ base ≤ g ∧ g < W.heap.size ∧ ∀ q u, xs[q]? = some u → W.cell? ⟨g, q, none⟩ = some u) := by
  rcases h.2 with ⟨rfl, rfl⟩ | ⟨g, cap, cur, rfl, hb, hg, _⟩
  · exact ⟨none, 0, 0, rfl, fun h => absurd h (Nat.lt_irrefl _)⟩
  · refine ⟨some ⟨g, 0, none⟩, g, cap, rfl, fun _ => ⟨rfl, hb, (Array.getElem?_eq_some_iff.1 hg).1, fun q u hu => ?_⟩⟩
    have h1 := h.cells (g := g) rfl q u hu
    rw [Addr.add_lit, Nat.zero_add] at h1
    exact h1
end Go.Proofs.YtnoghiefpdbpbaaGreatFmt
