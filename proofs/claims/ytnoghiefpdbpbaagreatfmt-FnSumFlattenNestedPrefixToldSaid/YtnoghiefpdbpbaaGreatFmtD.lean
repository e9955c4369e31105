/-
  zzLeaves: the leaves are built.
-/
import Derived.Test.YtnoghiefpdbpbaaGreatFmtC
namespace Go.Proofs.YtnoghiefpdbpbaaGreatFmt
open Go.RowKit Go.Deep

/-- make of a row of several cells. -/
theorem make_row {P : Program} (t e : TypeId) (z : Value) (size bytes : Nat) (ht : P.underlying t = some (.slice e)) (hinfo : (P.info? e).map (fun i => (i.zero, i.size, i.bytes)) = some (some z, size, bytes))
    (kl kc : IntKind) (n : Nat) (hbytes : bytes * n ≤ 281474976710656) (h63 : n ≤ 9223372036854775807) (w : World) :
    (Instr.makeSlice t (.int kl (n : Int)) (.int kc (n : Int))).run P w = .ok (.slice (some ⟨w.heap.size, 0, none⟩) n n) (w.alloc (.cells (madeCells z.cells (n * size)) e)) := by
  obtain ⟨i, hi, hzz⟩ := Option.map_eq_some_iff.1 hinfo
  simp only [Prod.mk.injEq] at hzz
  obtain ⟨hz, rfl, rfl⟩ := hzz
  have hb : (i.bytes : Int) * (n : Int) ≤ 281474976710656 := by
    have h : ((i.bytes * n : Nat) : Int) ≤ 281474976710656 := by omega
    rwa [Int.natCast_mul] at h
  have hr := run_make (P := P) w t e i z ht hi hz kl kc n n (by omega) (Int.le_refl _) hb (by omega)
  simpa only [Int.toNat_natCast] using hr

theorem rowIs_made2 (w : World) (z : Array Value) (n : Nat) (t : TypeId) (s : Nat) (hs : z.size = s) : (w.alloc (.cells (madeCells z (n * s)) t)).rowIs w.heap.size t (n * s) (fun i => z[i % s]!) := by
  refine ⟨_, blk_alloc_new _ _, size_madeCells _ _, fun i hi => ?_⟩
  simp [madeCells, hi, hs]

/-- The rows of the slice, k of them set. -/
def rowV (inv : Bool) (fs : List Bool) (N : Nat → Nat) (k j : Nat) : Value := if j % 2 = 1 then .int .i32 0 else if j / 2 < k then leafV inv (fs.getD (j / 2) false) (N (j / 2)) else .nilIface

theorem rowV_set (inv : Bool) (fs : List Bool) (N : Nat → Nat) (k p j : Nat) : (if j = k * 2 then leafV inv (fs.getD k false) p else rowV inv fs N k j) = rowV inv fs (fun i => if i = k then p else N i) (k + 1) j := by
  unfold rowV
  by_cases hj : j = k * 2
  · subst hj
    rw [if_pos rfl, if_neg (by omega), if_pos (by omega), show k * 2 / 2 = k by omega]
    simp
  · rw [if_neg hj]
    by_cases ho : j % 2 = 1
    · rw [if_pos ho, if_pos ho]
    · rw [if_neg ho, if_neg ho]
      by_cases h2 : j / 2 < k
      · rw [if_pos h2, if_pos (by omega)]
        simp [show ¬ j / 2 = k by omega]
      · rw [if_neg h2, if_neg (by omega)]

/-- A plain leaf is laid. -/
theorem leaf_plain {inv : Bool} {us : List ByteArray} {xs : List Nat} {fs : List Bool} {k L len x : Nat} {u : ByteArray} {N : Nat → Nat} {wr : World} (hr : wr.rowIs L 53 (len * 2) (rowV inv fs N k)) (hB : Built us xs fs k L N wr)
    (hu : u = us.getD k ByteArray.empty) (hx : x = xs.getD k 0) (hf : false = fs.getD k false) :
    (((wr.setCell ⟨L, k * 2, none⟩ (.iface 57 (.pointer (some ⟨wr.heap.size, 0, none⟩)))).alloc (.cells #[.string u, .float .f64 x, .int .i32 0] 59)).drew).rowIs L 53 (len * 2) (rowV inv fs (fun i => if i = k then wr.heap.size else N i) (k + 1)) ∧
    Built us xs fs (k + 1) L (fun i => if i = k then wr.heap.size else N i) (((wr.setCell ⟨L, k * 2, none⟩ (.iface 57 (.pointer (some ⟨wr.heap.size, 0, none⟩)))).alloc (.cells #[.string u, .float .f64 x, .int .i32 0] 59)).drew) := by
  have h1 := (hr.set (k * 2) (.iface 57 (.pointer (some ⟨wr.heap.size, 0, none⟩)))).congr (g := rowV inv fs (fun i => if i = k then wr.heap.size else N i) (k + 1)) (fun j _ => by
    rw [← rowV_set, ← hf]; rfl)
  have sz : (wr.setCell ⟨L, k * 2, none⟩ (.iface 57 (.pointer (some ⟨wr.heap.size, 0, none⟩)))).heap.size = wr.heap.size := World.size_setCell _ _ _
  refine ⟨h1.alloc _, ?_⟩
  refine Built.snoc (hB.keep ?_ ?_ ?_) hB.hiN hB.hiL ?_ ?_ ?_ ?_ (fun h => by rw [← hf] at h; cases h)
  · show _ ≤ ((wr.setCell _ _).alloc _).heap.size
    rw [World.size_alloc, sz]; omega
  · intro b i h1 h2
    show ((wr.setCell _ _).alloc _).cell? _ = _
    rw [cell_alloc_old (by rw [sz]; exact h1), cell_set_other h2]
  · intro b i h1 h2
    show ((wr.setCell _ _).alloc _).frozen? _ = _
    rw [fz_alloc_old (by rw [sz]; exact h1), fz_set_other h2]
  · show _ < ((wr.setCell _ _).alloc _).heap.size
    rw [World.size_alloc, sz, ← hf]; simp [b2n]
  · rw [← hu]; show ((wr.setCell _ _).alloc _).cell? _ = _
    have := World.cell?_alloc_new (wr.setCell ⟨L, k * 2, none⟩ (.iface 57 (.pointer (some ⟨wr.heap.size, 0, none⟩)))) #[.string u, .float .f64 x, .int .i32 0] 59 0
    rw [sz] at this; rw [this]; rfl
  · rw [← hx]; show ((wr.setCell _ _).alloc _).cell? _ = _
    have := World.cell?_alloc_new (wr.setCell ⟨L, k * 2, none⟩ (.iface 57 (.pointer (some ⟨wr.heap.size, 0, none⟩)))) #[.string u, .float .f64 x, .int .i32 0] 59 1
    rw [sz] at this; rw [this]; rfl
  · show ((wr.setCell _ _).alloc _).frozen? _ = _
    have := World.frozen?_alloc_new (wr.setCell ⟨L, k * 2, none⟩ (.iface 57 (.pointer (some ⟨wr.heap.size, 0, none⟩)))) #[.string u, .float .f64 x, .int .i32 0] 59 1
    rw [sz] at this; exact this

/-- A wrapped leaf is laid. -/
theorem leaf_wrap {inv : Bool} {us : List ByteArray} {xs : List Nat} {fs : List Bool} {k L len x : Nat} {u : ByteArray} {N : Nat → Nat} {wr : World} {tb : TypeId} (hr : wr.rowIs L 53 (len * 2) (rowV inv fs N k)) (hB : Built us xs fs k L N wr)
    (hu : u = us.getD k ByteArray.empty) (hx : x = xs.getD k 0) (hf : true = fs.getD k false) :
    ((((wr.setCell ⟨L, k * 2, none⟩ (.iface (wrapT inv) (.pointer (some ⟨wr.heap.size + 1, 0, none⟩)))).alloc (.cells #[.string u, .float .f64 x, .int .i32 0] 59)).alloc (.cells #[.iface 57 (.pointer (some ⟨wr.heap.size, 0, none⟩)), .int .i32 0] tb)).drew).rowIs L 53 (len * 2) (rowV inv fs (fun i => if i = k then wr.heap.size else N i) (k + 1)) ∧
    Built us xs fs (k + 1) L (fun i => if i = k then wr.heap.size else N i) ((((wr.setCell ⟨L, k * 2, none⟩ (.iface (wrapT inv) (.pointer (some ⟨wr.heap.size + 1, 0, none⟩)))).alloc (.cells #[.string u, .float .f64 x, .int .i32 0] 59)).alloc (.cells #[.iface 57 (.pointer (some ⟨wr.heap.size, 0, none⟩)), .int .i32 0] tb)).drew) := by
  have h1 := (hr.set (k * 2) (.iface (wrapT inv) (.pointer (some ⟨wr.heap.size + 1, 0, none⟩)))).congr (g := rowV inv fs (fun i => if i = k then wr.heap.size else N i) (k + 1)) (fun j _ => by
    rw [← rowV_set, ← hf]; rfl)
  obtain ⟨W0, e0⟩ : ∃ W0, W0 = wr.setCell ⟨L, k * 2, none⟩ (.iface (wrapT inv) (.pointer (some ⟨wr.heap.size + 1, 0, none⟩))) := ⟨_, rfl⟩
  have sz : W0.heap.size = wr.heap.size := by rw [e0]; exact World.size_setCell _ _ _
  have o1 : ∀ b i, b < wr.heap.size → b ≠ L → W0.cell? ⟨b, i, none⟩ = wr.cell? ⟨b, i, none⟩ := fun b i _ h => by rw [e0]; exact cell_set_other h
  have o2 : ∀ b i, b < wr.heap.size → b ≠ L → W0.frozen? ⟨b, i, none⟩ = wr.frozen? ⟨b, i, none⟩ := fun b i _ h => by rw [e0]; exact fz_set_other h
  rw [← e0] at h1 ⊢
  clear e0
  refine ⟨(h1.alloc _).alloc _, ?_⟩
  have z1 : (W0.alloc (.cells #[.string u, .float .f64 x, .int .i32 0] 59)).heap.size = wr.heap.size + 1 := by rw [World.size_alloc, sz]
  refine Built.snoc (hB.keep ?_ ?_ ?_) hB.hiN hB.hiL ?_ ?_ ?_ ?_ (fun _ => ⟨?_, ?_⟩)
  · show _ ≤ ((W0.alloc _).alloc _).heap.size
    rw [World.size_alloc, z1]; omega
  · intro b i h1 h2
    show ((W0.alloc _).alloc _).cell? _ = _
    rw [cell_alloc_old (by rw [z1]; omega), cell_alloc_old (by rw [sz]; exact h1), o1 b i h1 h2]
  · intro b i h1 h2
    show ((W0.alloc _).alloc _).frozen? _ = _
    rw [fz_alloc_old (by rw [z1]; omega), fz_alloc_old (by rw [sz]; exact h1), o2 b i h1 h2]
  · show _ < ((W0.alloc _).alloc _).heap.size
    rw [World.size_alloc, z1, ← hf]; simp [b2n]
  · rw [← hu]; show ((W0.alloc _).alloc _).cell? _ = _
    rw [cell_alloc_old (by rw [z1]; omega)]
    have := World.cell?_alloc_new W0 #[.string u, .float .f64 x, .int .i32 0] 59 0
    rw [sz] at this; rw [this]; rfl
  · rw [← hx]; show ((W0.alloc _).alloc _).cell? _ = _
    rw [cell_alloc_old (by rw [z1]; omega)]
    have := World.cell?_alloc_new W0 #[.string u, .float .f64 x, .int .i32 0] 59 1
    rw [sz] at this; rw [this]; rfl
  · show ((W0.alloc _).alloc _).frozen? _ = _
    rw [fz_alloc_old (by rw [z1]; omega)]
    have := World.frozen?_alloc_new W0 #[.string u, .float .f64 x, .int .i32 0] 59 1
    rw [sz] at this; exact this
  · show ((W0.alloc _).alloc _).cell? _ = _
    have := World.cell?_alloc_new (W0.alloc (.cells #[.string u, .float .f64 x, .int .i32 0] 59)) #[.iface 57 (.pointer (some ⟨wr.heap.size, 0, none⟩)), .int .i32 0] tb 0
    rw [z1] at this; rw [this]; rfl
  · show ((W0.alloc _).alloc _).frozen? _ = _
    have := World.frozen?_alloc_new (W0.alloc (.cells #[.string u, .float .f64 x, .int .i32 0] 59)) #[.iface 57 (.pointer (some ⟨wr.heap.size, 0, none⟩)), .int .i32 0] tb 0
    rw [z1] at this; exact this

set_option maxHeartbeats 4000000 in
set_option maxRecDepth 100000 in
theorem leaves_any (inv : Bool) (au af ab : Option Addr) (cu cf cb : Nat) (us : List ByteArray) (xs : List Nat) (fs : List Bool) (nb : Nat) (w : World)
    (hu : Slc Value.string ByteArray.empty w au us) (hx : Slc fl 0 w af xs) (hf : Slc Value.bool false w ab fs) (hl : xs.length ≤ 1048577) (hlu : us.length = xs.length) (hlf : nb = fs.length) (hlb : fs.length = xs.length) :
    Calls Tryz.prog 21 #[.slice au xs.length cu, .slice af xs.length cf, .slice ab nb cb, .bool inv] w (Leaves inv us xs fs xs.length w) := by
  subst hlf
  rw [hlb]
  have HU := Lib.hid hu
  have HX := Lib.hid hx
  have HF := Lib.hid hf
  clear hu hx hf
  obtain ⟨len, hlen⟩ : ∃ len, len = xs.length := ⟨_, rfl⟩
  rw [← hlen] at hl hlu hlb ⊢
  have HL := Lib.hid (And.intro hlen (And.intro hlu hlb))
  clear hlen hlu hlb
  have hmk := fun W => make_row (P := Tryz.prog) 41 53 (.agg #[.nilIface, .int .i32 0]) 2 24 Tryz.underlying41 info53 .i64 .i64 len (by omega) (by omega) W
  go_enter Tryz.func21, Tryz.ntmps21
  go_wp2_with fail
  go_loopw [17] (fun i wr => ∃ (k : Nat) (N : Nat → Nat), k ≤ len ∧ i = .int .i64 k ∧ Hid (wr.rowIs w.heap.size 53 (len * 2) (rowV inv fs N k)) ∧ Hid (Built us xs fs k w.heap.size N wr) ∧ Hid (Below w.heap.size w wr)) (fun i _ => len - (intOf i).toNat)
  case atStart =>
    refine ⟨0, fun _ => 0, by omega, rfl, ?_, ?_, (Below.refl _ _).alloc (Nat.le_refl _) _⟩
    · have := rowIs_made2 w #[.nilIface, .int .i32 0] len 53 2 rfl
      refine this.congr (fun i hi => ?_)
      unfold rowV
      rcases Nat.mod_two_eq_zero_or_one i with h | h
      · rw [h, if_neg (by omega), if_neg (by omega)]; rfl
      · rw [h, if_pos rfl]; rfl
    · exact ⟨by rw [World.size_alloc]; omega, fun i h => by omega, fun i h => by omega, fun i j _ h => by omega, fun i h => by omega, fun i h => by omega, fun i h => by omega, fun i h => by omega⟩
  case round =>
    obtain ⟨k, N, hk, rfl, hr, hB, hb⟩ := hrel
    by_cases hlt : k < len
    · obtain ⟨bu, ou, e, hcu⟩ := HU.out k (by rw [HL.out.2.1]; exact hlt)
      subst e
      obtain ⟨bx, ox, e, hcx⟩ := HX.out k (by rw [← HL.out.1]; exact hlt)
      subst e
      obtain ⟨bf, of, e, hcf⟩ := HF.out k (by rw [HL.out.2.2]; exact hlt)
      subst e
      obtain ⟨u, eu⟩ : ∃ u, u = us.getD k ByteArray.empty := ⟨_, rfl⟩
      obtain ⟨x, ex⟩ : ∃ x, x = xs.getD k 0 := ⟨_, rfl⟩
      obtain ⟨f, ef⟩ : ∃ f, f = fs.getD k false := ⟨_, rfl⟩
      rw [← eu] at hcu
      rw [← ex] at hcx
      rw [← ef] at hcf
      have HE := Lib.hid (And.intro eu (And.intro ex ef))
      clear eu ex ef
      have kcu : wr.cell? ⟨bu, ou + k, none⟩ = some (.string u) := cell_later hb.out hcu
      have kcx : wr.cell? ⟨bx, ox + k, none⟩ = some (.float .f64 x) := cell_later hb.out hcx
      have kcf : wr.cell? ⟨bf, of + k, none⟩ = some (.bool f) := cell_later hb.out hcf
      have lf : bf < wr.heap.size := World.block_lt_of_cell? _ _ kcf
      have hrow : wr.cell? ⟨w.heap.size, k * 2, none⟩ = some .nilIface := by
        rw [hr.out.cell (by omega)]; unfold rowV
        rw [if_neg (by omega), if_neg (by omega)]
      have hfz : wr.frozen? ⟨w.heap.size, k * 2, none⟩ = false := hr.out.frozen _
      have lL : w.heap.size < wr.heap.size := hB.out.hiL
      clear hcu hcx hcf
      go_wp2_with fail
      go_region
      cases f
      · go_wp2_with fail
        obtain ⟨g1, g2⟩ := leaf_plain hr.out hB.out HE.out.1 HE.out.2.1 HE.out.2.2
        have zk := hB.out.hiL
        go_roundw
        case rel => exact ⟨k + 1, _, by omega, by go_num, g1, g2, ((hb.out.setCell (Nat.le_refl _) _).alloc (by rw [World.size_setCell]; omega) _).drew⟩
        case measure => simp [intOf]; omega
      · cases inv
        all_goals
          go_wp2_with fail
          have zk := hB.out.hiL
          go_roundw
          case rel =>
            have g := fun tb => leaf_wrap (tb := tb) hr.out hB.out HE.out.1 HE.out.2.1 HE.out.2.2
            exact ⟨k + 1, _, by omega, by go_num, (g _).1, (g _).2, (((hb.out.setCell (Nat.le_refl _) _).alloc (by rw [World.size_setCell]; omega) _).alloc (by rw [World.size_alloc, World.size_setCell]; omega) _).drew⟩
          case measure => simp [intOf]; omega
    · obtain rfl : k = len := by omega
      go_wp2_with fail
      go_ret
      refine ⟨_, N, rfl, ⟨Nat.le_refl _, hB.out.hiL, hB.out.loN, hB.out.hiN, hB.out.mono, fun i hi => ?_, fun i hi => ?_, hB.out.unit, hB.out.num, hB.out.fz, hB.out.inn⟩, hb.out⟩
      · rw [hr.out.cell (by omega)]
        unfold rowV
        rw [if_neg (by omega), if_pos (by omega), show i * 2 / 2 = i by omega]
      · rw [hr.out.cell (by omega)]
        unfold rowV
        rw [if_pos (by omega)]
end Go.Proofs.YtnoghiefpdbpbaaGreatFmt
