/-
  The new printer of the law's export, and its rules.
-/
import Derived.Test.YtiplakadjkimmabGreatFmtP
namespace Go.Proofs.YtiplakadjkimmabGreatFmt
open Go.RowKit Go.Deep

/-- A new printer's row. -/
def newP (mn : Bool) : Array Value := #[.pointer none, .slice none 0 0, .map none, .int .i64 0, .int .u32 0, .int .u16 64, .bool mn, .bool false, .int .u8 0, .bool false, .int .u8 0, .bool false, .int .u8 0, .slice none 0 0, .slice none 0 0, .slice none 0 0, .map none, .slice none 0 0, .slice none 0 0, .pointer none, .slice none 0 0, .slice none 0 0, .map none, .slice none 0 0, .string ⟨#[]⟩, .int .i64 0, .int .i64 0, .int .i64 0, .int .i64 0, .int .i64 0, .int .i64 0, .bool false, .int .i64 0, .int .i64 0, .int .i64 0, .int .i32 0, .int .u32 0, .bool false, .bool false, .bool false, .bool false, .int .i64 0, .int .i64 0]

theorem css_new (mn : Bool) (w : World) : Css w.heap.size mn 64 [] (w.alloc (.cells (newP mn) 85)) := by
  refine ⟨⟨⟨?_, ?_⟩, ⟨?_, ?_⟩, ?_, ?_⟩, .slice none 0 0, ?_, ⟨rfl, .inl ⟨rfl, rfl⟩⟩⟩
  · rw [World.cell?_alloc_new]; rfl
  · rw [World.cell?_alloc_new]; rfl
  · rw [World.cell?_alloc_new]; rfl
  · rw [World.cell?_alloc_new]; rfl
  · rw [World.cell?_alloc_new]; rfl
  · unfold World.frozen?
    rw [show ((w.alloc (.cells (newP mn) 85)).heap[(⟨w.heap.size, 15, none⟩ : Addr).block]?) = some (.cells (newP mn) 85) from blk_alloc_new w _]
    rfl
  · rw [World.cell?_alloc_new]; rfl

theorem Lay.set {R S Q : Nat} {t : ByteArray} {w : World} {a : Addr} {v : Value} (h : Lay R S Q t w) (hR : R ≠ a.block) (hS : S ≠ a.block) (hQ : Q ≠ a.block) : Lay R S Q t (w.setCell a v) :=
  ⟨⟨(cell_set_other hR).trans h.1.1, (cell_set_other hR).trans h.1.2⟩, (cell_set_other hS).trans h.2.1, (cell_set_other hQ).trans h.2.2⟩

theorem lay_new (wr : World) (u : ByteArray) : Lay (wr.heap.size + 2) (wr.heap.size + 1) wr.heap.size u
    (((wr.alloc (.cells #[.string u] 9)).alloc (.cells #[.slice (some ⟨wr.heap.size, 0, none⟩) 1 1] 25)).alloc (.cells #[.slice (some ⟨wr.heap.size + 1, 0, none⟩) 1 1, .slice none 0 0, .int .i32 0] 97)) := by
  have z1 : ∀ o, (wr.alloc o).heap.size = wr.heap.size + 1 := fun o => World.size_alloc _ _
  have z2 : ∀ o p, ((wr.alloc o).alloc p).heap.size = wr.heap.size + 2 := fun o p => by rw [World.size_alloc, z1]
  have n3 := fun (o p : Obj) (cs : Array Value) (e : TypeId) (i : Nat) => World.cell?_alloc_new ((wr.alloc o).alloc p) cs e i
  have n2 := fun (o : Obj) (cs : Array Value) (e : TypeId) (i : Nat) => World.cell?_alloc_new (wr.alloc o) cs e i
  simp only [z2] at n3
  simp only [z1] at n2
  refine ⟨⟨?_, ?_⟩, ?_, ?_⟩
  · rw [n3]; rfl
  · rw [n3]; rfl
  · rw [cell_alloc_old (by rw [z2]; omega), n2]; rfl
  · rw [cell_alloc_old (by rw [z2]; omega), cell_alloc_old (by rw [z1]; omega), World.cell?_alloc_new]; rfl

set_option maxRecDepth 100000 in
theorem new_any (mn : Bool) (w : World) : Calls Tryz.prog 24 #[.bool mn, .int .i64 0, .bool true, .slice none 0 0] w fun e w' => e = .returned (.pointer (some ⟨w.heap.size, 0, none⟩)) ∧ Hid (Css w.heap.size mn 64 [] w') ∧ Hid (Below w.heap.size w w') := by
  go_enter Tryz.func24, Tryz.ntmps24
  go_wp2_with fail
  go_ret
  exact ⟨rfl, css_new mn w, (Below.refl _ _).alloc (Nat.le_refl _) _⟩

theorem makeN (W : World) (t e : TypeId) (z : Value) (size bytes : Nat) (ht : Tryz.prog.underlying t = some (.slice e)) (hinfo : (Tryz.prog.info? e).map (fun i => (i.zero, i.size, i.bytes)) = some (some z, size, bytes)) (n : Nat)
    (hb : bytes * n ≤ 281474976710656) (h63 : n ≤ 9223372036854775807) :
    (Instr.makeSlice t (.int .i64 (n : Int)) (.int .i64 (n : Int))).run Tryz.prog W = .ok (.slice (some ⟨W.heap.size, 0, none⟩) n n) (W.alloc (.cells (madeCells z.cells (n * size)) e)) := by
  obtain ⟨i, hi, hzz⟩ := Option.map_eq_some_iff.1 hinfo
  simp only [Prod.mk.injEq] at hzz
  obtain ⟨hz, rfl, rfl⟩ := hzz
  have hb : (i.bytes : Int) * (n : Int) ≤ 281474976710656 := by
    have h : ((i.bytes * n : Nat) : Int) ≤ 281474976710656 := by omega
    rwa [Int.natCast_mul] at h
  have hr := run_make (P := Tryz.prog) W t e i z ht hi hz .i64 .i64 n n (by omega) (by omega) hb (by omega)
  simpa only [Int.toNat_natCast, Int.toNat_zero] using hr

/-- The printer's bytes are read as a slice. -/
theorem slc_of_owns8 {w : World} {B : Nat} {v : Value} {l : List UInt8} (h : w.ownsRow B 5 1 v l.length (bv l)) : ∃ sa sm, v = .slice sa l.length sm ∧ Slc bf 0 w sa l := by
  have hh := h
  rcases h.2 with ⟨hv, h0⟩ | ⟨g, cap, cur, hv, _⟩
  · exact ⟨none, 0, by rw [hv, h0], fun i hi => absurd hi (by omega)⟩
  · subst hv
    refine ⟨_, _, rfl, fun i hi => ⟨g, 0, rfl, ?_⟩⟩
    rw [Nat.zero_add, hh.cellAt i (by omega)]
    simp [bv, bf, List.getD_eq_getElem?_getD, hi]

set_option maxHeartbeats 8000000 in
set_option maxRecDepth 100000 in
theorem print_rules (mn : Bool) (a : Option Addr) (n cap : Nat) (us : List ByteArray) (z : Int) (w : World) (hn : n ≤ 131072) (hl : us.length = n) (ht : ∀ i, i < n → (us.getD i ByteArray.empty).size ≤ 1048576)
    (hz : -2147483648 ≤ z) (hz2 : z ≤ 65536) (hu : Slc Value.string ByteArray.empty w a us) :
    Calls Tryz.prog 14 #[.bool mn, .slice none 0 0, .slice a n cap, .int .i32 z] w fun e w' => ∃ sa m sm, e = .returned (.slice sa m sm) ∧ Hid (m = (blkR mn (z + 1).toNat z.toNat us).length) ∧ Hid (Slc bf 0 w' sa (blkR mn (z + 1).toNat z.toNat us)) ∧ Hid (Below w.heap.size w w') := by
  have HU := Lib.hid hu
  have HL := Lib.hid hl
  have HZ := Lib.hid ht
  clear hu hl ht
  have hmk := fun W => makeN W 40 93 (.agg #[.nilIface, .int .i32 0]) 2 24 Tryz.underlying40 info93 n (by omega) (by omega)
  go_enter Tryz.func14, Tryz.ntmps14
  go_wp2_with fail
  go_loopw [18] (fun i wr => ∃ (k : Nat) (R S Q : Nat → Nat), k ≤ n ∧ i = .int .i64 k ∧ Hid (wr.rowIs w.heap.size 93 (n * 2) (rowL R k)) ∧ Hid (Lays wr.heap.size us R S Q k wr ∧ ∀ i, i < k → w.heap.size < R i ∧ w.heap.size < S i ∧ w.heap.size < Q i) ∧ Hid (Below w.heap.size w wr)) (fun i _ => n - (intOf i).toNat)
  case atStart =>
    refine ⟨0, fun _ => 0, fun _ => 0, fun _ => 0, Nat.zero_le _, rfl, ?_, ⟨fun i hi => absurd hi (Nat.not_lt_zero _), fun i hi => absurd hi (Nat.not_lt_zero _)⟩, (Below.refl _ _).alloc (Nat.le_refl _) _⟩
    have h := rowIs_made2 w #[.nilIface, .int .i32 0] n 93 2 rfl
    refine h.congr (fun i hi => ?_)
    unfold rowL
    rcases Nat.mod_two_eq_zero_or_one i with h | h
    · rw [h, if_neg (by omega), if_neg (by omega)]; rfl
    · rw [h, if_pos rfl]; rfl
  case round =>
    obtain ⟨k, R, S, Q, hk, rfl, hr, hC, hb⟩ := hrel
    clear hmk
    by_cases hlt : k < n
    · obtain ⟨b, o, e, hc⟩ := (HU.out.below hb.out) k (by rw [HL.out]; exact hlt)
      subst e
      obtain ⟨u, eu⟩ : ∃ u, u = us.getD k ByteArray.empty := ⟨_, rfl⟩
      rw [← eu] at hc
      have HE := Lib.hid eu
      have t0 : wr.cell? ⟨w.heap.size, k * 2, none⟩ = some .nilIface := by
        rw [hr.out.cell (by omega)]; unfold rowL
        rw [if_neg (by omega), if_neg (by omega)]
      have t1 : wr.cell? ⟨w.heap.size, k * 2 + 1, none⟩ = some (.int .i32 0) := by
        rw [hr.out.cell (by omega)]; unfold rowL
        rw [if_pos (by omega)]
      have lT := World.block_lt_of_cell? _ _ t0
      simp only at lT
      have sz := fun (o1 : Obj) => World.size_alloc wr o1
      have tc0 := fun (o1 o2 o3 : Obj) => (cell_alloc_old (w := (wr.alloc o1).alloc o2) (o := o3) (b := w.heap.size) (i := k * 2) (by rw [World.size_alloc, World.size_alloc]; omega)).trans ((cell_alloc_old (w := wr.alloc o1) (o := o2) (b := w.heap.size) (i := k * 2) (by rw [World.size_alloc]; omega)).trans ((cell_alloc_old (w := wr) (o := o1) lT).trans t0))
      have tc1 := fun (o1 o2 o3 : Obj) => (cell_alloc_old (w := (wr.alloc o1).alloc o2) (o := o3) (b := w.heap.size) (i := k * 2 + 1) (by rw [World.size_alloc, World.size_alloc]; omega)).trans ((cell_alloc_old (w := wr.alloc o1) (o := o2) (b := w.heap.size) (i := k * 2 + 1) (by rw [World.size_alloc]; omega)).trans ((cell_alloc_old (w := wr) (o := o1) lT).trans t1))
      have tg := fun (o1 o2 o3 : Obj) (i : Nat) => (fz_alloc_old (w := (wr.alloc o1).alloc o2) (o := o3) (b := w.heap.size) (i := i) (by rw [World.size_alloc, World.size_alloc]; omega)).trans ((fz_alloc_old (w := wr.alloc o1) (o := o2) (b := w.heap.size) (i := i) (by rw [World.size_alloc]; omega)).trans ((fz_alloc_old (w := wr) (o := o1) lT).trans (hr.out.frozen i)))
      have hkn : (k : Int) < (n : Int) := by omega
      clear eu sz
      go_wp2_with fail
      go_roundw
      case rel =>
        have hbz := hb.out.size
        have zA : ∀ o, (wr.alloc o).heap.size = wr.heap.size + 1 := fun o => World.size_alloc _ _
        have zB : ∀ o p, ((wr.alloc o).alloc p).heap.size = wr.heap.size + 2 := fun o p => by rw [World.size_alloc, zA]
        have zC : ∀ o p q, (((wr.alloc o).alloc p).alloc q).heap.size = wr.heap.size + 3 := fun o p q => by rw [World.size_alloc, zB]
        refine ⟨k + 1, fun i => if i = k then wr.heap.size + 2 else R i, fun i => if i = k then wr.heap.size + 1 else S i, fun i => if i = k then wr.heap.size else Q i, by omega, by go_num, ?_, ⟨fun i hi => ?_, fun i hi => ?_⟩, ?_⟩
        · refine (((((hr.out.alloc _).alloc _).alloc _).set (k * 2) _).set (k * 2 + 1) _).congr (fun j _ => ?_)
          rw [← rowL_set]
          by_cases h0 : j = k * 2
          · subst h0; rw [if_neg (by omega), if_pos rfl, if_pos rfl]
          · by_cases h1 : j = k * 2 + 1
            · subst h1; rw [if_pos rfl, if_neg (by omega), if_pos rfl]
            · rw [if_neg h1, if_neg h0, if_neg h0, if_neg h1]
        · show ((if i = k then wr.heap.size + 2 else R i) < _ ∧ (if i = k then wr.heap.size + 1 else S i) < _ ∧ (if i = k then wr.heap.size else Q i) < _) ∧ Lay (if i = k then wr.heap.size + 2 else R i) (if i = k then wr.heap.size + 1 else S i) (if i = k then wr.heap.size else Q i) _ _
          rw [World.size_setCell, World.size_setCell, zC]
          by_cases e : i = k
          · subst e
            rw [if_pos rfl, if_pos rfl, if_pos rfl, ← HE.out]
            refine ⟨⟨by omega, by omega, by omega⟩, ?_⟩
            exact ((lay_new wr u).set (by show wr.heap.size + 2 ≠ w.heap.size; omega) (by show wr.heap.size + 1 ≠ w.heap.size; omega) (by show wr.heap.size ≠ w.heap.size; omega)).set (by show wr.heap.size + 2 ≠ w.heap.size; omega) (by show wr.heap.size + 1 ≠ w.heap.size; omega) (by show wr.heap.size ≠ w.heap.size; omega)
          · obtain ⟨⟨r1, r2, r3⟩, hlay⟩ := hC.out.1 i (by omega)
            obtain ⟨s1, s2, s3⟩ := hC.out.2 i (by omega)
            rw [if_neg e, if_neg e, if_neg e]
            refine ⟨⟨by omega, by omega, by omega⟩, ?_⟩
            have hb3 := fun o1 o2 o3 => (((Below.refl wr.heap.size wr).alloc (Nat.le_refl _) o1).alloc (by rw [zA]; omega) o2).alloc (by rw [zB]; omega) o3
            exact ((hlay.below (hb3 _ _ _) r1 r2 r3).set (by show R i ≠ w.heap.size; omega) (by show S i ≠ w.heap.size; omega) (by show Q i ≠ w.heap.size; omega)).set (by show R i ≠ w.heap.size; omega) (by show S i ≠ w.heap.size; omega) (by show Q i ≠ w.heap.size; omega)
        · show w.heap.size < (if i = k then wr.heap.size + 2 else R i) ∧ w.heap.size < (if i = k then wr.heap.size + 1 else S i) ∧ w.heap.size < (if i = k then wr.heap.size else Q i)
          by_cases e : i = k
          · rw [if_pos e, if_pos e, if_pos e]; omega
          · rw [if_neg e, if_neg e, if_neg e]; exact hC.out.2 i (by omega)
        · exact ((((hb.out.alloc hbz _).alloc (by rw [zA]; omega) _).alloc (by rw [zB]; omega) _).setCell (Nat.le_refl _) _).setCell (Nat.le_refl _) _
      case measure => simp [intOf]; omega
    · obtain rfl : k = n := by omega
      go_wp2_with fail
      refine (new_any mn wr).mono ?_
      rintro e W1 ⟨rfl, H1, B1⟩
      go_wp2_with fail
      have hTl : w.heap.size < wr.heap.size := by
        obtain ⟨cur, hh, _⟩ := hr.out
        exact (Array.getElem?_eq_some_iff.1 hh).1
      have hT1 : W1.rowIs w.heap.size 93 (k * 2) (rowL R k) := by
        obtain ⟨cur, hh, h2⟩ := hr.out
        exact ⟨cur, (B1.out.block _ hTl).trans hh, h2⟩
      have hC1 : Lays wr.heap.size us R S Q k W1 := fun i hi => by
        obtain ⟨⟨r1, r2, r3⟩, h⟩ := hC.out.1 i hi
        exact ⟨⟨r1, r2, r3⟩, h.below B1.out r1 r2 r3⟩
      refine (block_any wr.heap.size w.heap.size k R S Q mn 64 us z W1 hn HL.out HZ.out hz hz2 hTl hT1 hC1 H1.out).mono ?_
      rintro e W2 ⟨rfl, H2, B2⟩
      obtain ⟨_, v, hv15, hrow⟩ := H2.out
      obtain ⟨sa, sm, rfl, hsl⟩ := slc_of_owns8 hrow
      have HSl := Lib.hid hsl
      clear hsl hrow hT1 hC1
      go_wp2_with fail
      go_ret
      refine ⟨_, _, _, rfl, rfl, HSl, ?_⟩
      exact (hb.out.trans (B1.out.mono hb.out.size)).trans (B2.out.mono hb.out.size)
end Go.Proofs.YtiplakadjkimmabGreatFmt
