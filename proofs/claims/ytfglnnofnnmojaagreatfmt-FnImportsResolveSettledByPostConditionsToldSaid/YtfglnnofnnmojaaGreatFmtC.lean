/-
  Contracts, third part: the entry built of the keys; the look-up of a key among its entries.
-/
import Derived.Test.YtfglnnofnnmojaaGreatFmtB
namespace Go.Proofs.YtfglnnofnnmojaaGreatFmt
open Go.RowKit Go.Maps Go.Deep

/-- The ten cells of an entry that holds nothing. -/
def z62 : Array Value := #[.string ⟨#[]⟩, .string ⟨#[]⟩, .slice none 0 0, .slice none 0 0, .slice none 0 0, .int .i32 0, .int .i32 0, .int .u8 0, .int .i32 0, .int .i32 0]
theorem info62 : (Tryz.prog.info? 62).map (fun i => (i.zero, i.size, i.bytes)) = some (some (.agg z62), 10, 128) := by kernel_rfl

/-- make of a row of several cells. -/
theorem make_row {P : Program} (t e : TypeId) (z : Value) (size bytes : Nat) (ht : P.underlying t = some (.slice e)) (hinfo : (P.info? e).map (fun i => (i.zero, i.size, i.bytes)) = some (some z, size, bytes))
    (kl kc : IntKind) (n : Nat) (hbytes : bytes * n ≤ 281474976710656) (h63 : n ≤ 9223372036854775807) (w : World) :
    (Instr.makeSlice t (.int kl (n : Int)) (.int kc (n : Int))).run P w = .ok (.slice (some ⟨w.heap.size, 0, none⟩) n n) (w.alloc (.cells (madeCells z.cells (n * size)) e)) := by
  obtain ⟨i, hi, hzz⟩ := Option.map_eq_some_iff.1 hinfo
  simp only [Prod.mk.injEq] at hzz
  obtain ⟨hz, rfl, rfl⟩ := hzz
  have hb : (i.bytes : Int) * (n : Int) ≤ 281474976710656 := by
    have h : ((i.bytes * n : Nat) : Int) ≤ 281474976710656 := by omega
    rwa [Int.natCast_mul] at h
  have hr := run_make (P := P) w t e i z ht hi hz kl kc n n (by omega) (Int.le_refl _) hb (by omega)
  simpa only [Int.toNat_natCast] using hr

/-- The seven cells of an entry's value. -/
def z45 : Array Value := #[.string ⟨#[]⟩, .slice none 0 0, .slice none 0 0, .slice none 0 0, .int .i32 0, .int .i32 0, .int .u8 0]

theorem rowIs_made10 (w : World) (z : Array Value) (n : Nat) (t : TypeId) (s : Nat) (hs : z.size = s) : (w.alloc (.cells (madeCells z (n * s)) t)).rowIs w.heap.size t (n * s) (fun p => z[p % s]!) := by
  have h := World.rowIs_alloc w (madeCells z (n * s)) t (fun p => z[p % s]!) (fun i hi => by
    rw [size_madeCells] at hi
    subst hs
    simp [madeCells, hi])
  rwa [size_madeCells] at h

theorem cells45 {w : World} {b : Nat} {V : Array Value} (h : w.rowIs b 45 7 (fun j => V[j]!)) :
    (w.cell? ⟨b, 0, none⟩ = some V[0]! ∧ w.cell? ⟨b, 1, none⟩ = some V[1]! ∧ w.cell? ⟨b, 2, none⟩ = some V[2]! ∧ w.cell? ⟨b, 3, none⟩ = some V[3]! ∧ w.cell? ⟨b, 4, none⟩ = some V[4]! ∧ w.cell? ⟨b, 5, none⟩ = some V[5]! ∧ w.cell? ⟨b, 6, none⟩ = some V[6]!) ∧
    w.frozen? ⟨b, 0, none⟩ = false ∧ w.frozen? ⟨b, 1, none⟩ = false ∧ w.frozen? ⟨b, 2, none⟩ = false ∧ w.frozen? ⟨b, 3, none⟩ = false ∧ w.frozen? ⟨b, 4, none⟩ = false ∧ w.frozen? ⟨b, 5, none⟩ = false ∧ w.frozen? ⟨b, 6, none⟩ = false :=
  ⟨⟨h.cell (by omega), h.cell (by omega), h.cell (by omega), h.cell (by omega), h.cell (by omega), h.cell (by omega), h.cell (by omega)⟩,
    h.frozen _, h.frozen _, h.frozen _, h.frozen _, h.frozen _, h.frozen _, h.frozen _⟩

/-- What cell p of the row of entries holds when the first k keys are laid. -/
def rowV (ss : List ByteArray) (k p : Nat) : Value := if p % 10 = 0 ∧ p / 10 < k then .string (ss.getD (p / 10) ByteArray.empty) else z62[p % 10]!

theorem rowV_key (ss : List ByteArray) (n k : Nat) (h : k < n) : rowV ss n (k * 10) = .string (ss.getD k ByteArray.empty) := by
  unfold rowV
  rw [if_pos (by omega), show k * 10 / 10 = k by omega]
theorem rowV_rest (ss : List ByteArray) (n k j : Nat) (h0 : 0 < j) (h : j < 10) : rowV ss n (k * 10 + j) = z62[j]! := by
  unfold rowV
  rw [if_neg (by omega), show (k * 10 + j) % 10 = j by omega]

theorem cells62 {w : World} {g len k : Nat} {ss : List ByteArray} (h : w.rowIs g 62 (len * 10) (rowV ss len)) (hk : k < len) :
    w.cell? ⟨g, k * 10, none⟩ = some (.string (ss.getD k ByteArray.empty)) ∧ w.cell? ⟨g, k * 10 + 1, none⟩ = some (.string ⟨#[]⟩) ∧ w.cell? ⟨g, k * 10 + 2, none⟩ = some (.slice none 0 0) ∧ w.cell? ⟨g, k * 10 + 3, none⟩ = some (.slice none 0 0) ∧
    w.cell? ⟨g, k * 10 + 4, none⟩ = some (.slice none 0 0) ∧ w.cell? ⟨g, k * 10 + 5, none⟩ = some (.int .i32 0) ∧ w.cell? ⟨g, k * 10 + 6, none⟩ = some (.int .i32 0) ∧ w.cell? ⟨g, k * 10 + 7, none⟩ = some (.int .u8 0) ∧
    w.cell? ⟨g, k * 10 + 8, none⟩ = some (.int .i32 0) ∧ w.cell? ⟨g, k * 10 + 9, none⟩ = some (.int .i32 0) := by
  refine ⟨?_, ?_, ?_, ?_, ?_, ?_, ?_, ?_, ?_, ?_⟩
  · rw [h.cell (by omega), rowV_key _ _ _ hk]
  all_goals (rw [h.cell (by omega), rowV_rest _ _ _ _ (by omega) (by omega)]; rfl)

/-- The entries' slice. -/
def Ents (w : World) (am : Option Addr) (ss : List ByteArray) : Prop :=
  0 < ss.length → ∃ g, am = some ⟨g, 0, none⟩ ∧ g < w.heap.size ∧ w.rowIs g 62 (ss.length * 10) (rowV ss ss.length)

def MadeEntry (kd t1 t2 : Int) (ss : List ByteArray) (w : World) (e : Ending) (w' : World) : Prop :=
  ∃ am cm, e = .returned (.agg #[.string ⟨#[]⟩, .slice none 0 0, .slice am ss.length cm, .slice none 0 0, .int .i32 t1, .int .i32 t2, .int .u8 kd]) ∧ Ents w' am ss ∧ Below w.heap.size w w'

set_option maxHeartbeats 800000 in
theorem entry_any (kd t1 t2 : Int) (a : Option Addr) (cap : Nat) (ss : List ByteArray) (w : World) (hs : Strs w a ss) (hl : ss.length ≤ 1048576) :
    Calls Tryz.prog 14 #[.int .u8 kd, .slice a ss.length cap, .int .i32 t1, .int .i32 t2] w (MadeEntry kd t1 t2 ss w) := by
  rcases a with _ | ad
  · have h0 : ss = [] := by
      cases ss with
      | nil => rfl
      | cons x l => obtain ⟨b, off, e, _⟩ := hs 0 (by simp); cases e
    subst h0
    have q := fun (W : World) (n c : Nat) => run_neq_slice_nil_any (P := Tryz.prog) W 22 9 none n c 0 0 Tryz.underlying22
    go_enter Tryz.func14, Tryz.ntmps14
    go_wp2
    refine wp_loop_rounds 1 ?_
    rw [rounds_succ]
    go_wp2
    go_returns
    exact ⟨none, 0, rfl, (fun h => by cases h), by go_grown⟩
  · have HS := Lib.hid hs
    clear hs
    obtain ⟨len, hlen⟩ : ∃ len, len = ss.length := ⟨_, rfl⟩
    rw [← hlen] at hl ⊢
    have HL := Lib.hid hlen
    clear hlen
    have q := fun (W : World) (n c : Nat) => run_neq_slice_nil_any (P := Tryz.prog) W 22 9 (some ad) n c 0 0 Tryz.underlying22
    have hmk := fun W => make_row (P := Tryz.prog) 37 62 (.agg z62) 10 128 Tryz.underlying37 info62 .i64 .i64 len (by omega) (by omega) W
    go_enter Tryz.func14, Tryz.ntmps14
    go_wp2
    go_loopw [10] (fun i wr => ∃ k : Nat, k ≤ len ∧ i = .int .i64 k ∧ Hid (wr.rowIs (w.heap.size + 1) 62 (len * 10) (rowV ss k)) ∧ Hid (wr.rowIs w.heap.size 45 7 (fun j => z45[j]!)) ∧ Hid (Below w.heap.size w wr)) (fun i _ => len - (intOf i).toNat)
    case atStart =>
      refine ⟨0, by omega, rfl, ?_, ?_, ((Below.refl _ _).alloc (Nat.le_refl _) _).alloc (by simp) _⟩
      · have := rowIs_made10 (w.alloc (.cells z45 45)) z62 len 62 10 rfl
        simp only [World.size_alloc] at this
        exact this.congr (fun i _ => by simp [rowV])
      · exact (World.rowIs_alloc w z45 45 (fun j => z45[j]!) (fun i hi => by
          rw [Array.getElem?_eq_getElem hi, getElem!_pos z45 i hi])).alloc _
    case round =>
      obtain ⟨k, hk, rfl, hr, hz, hb⟩ := hrel
      by_cases hlt : k < len
      · obtain ⟨b, off, e, hc⟩ := HS.out k (by rw [← HL.out]; exact hlt)
        injection e with e
        subst e
        obtain ⟨x, hsk⟩ : ∃ s, s = ss.getD k ByteArray.empty := ⟨_, rfl⟩
        rw [← hsk] at hc
        have HX := Lib.hid hsk
        clear hsk
        have hcx : wr.cell? ⟨b, off + k, none⟩ = some (.string x) := cell_later hb.out hc
        have hrow : wr.cell? ⟨w.heap.size + 1, k * 10, none⟩ = some (.string ⟨#[]⟩) := by
          rw [hr.out.cell (by omega)]
          simp [rowV, z62]
        have hfz : wr.frozen? ⟨w.heap.size + 1, k * 10, none⟩ = false := hr.out.frozen _
        go_wp2
        go_roundw
        case rel => exact ⟨k + 1, by omega, by go_num, (hr.out.set (k * 10) (.string x)).congr (fun j hj => by
          unfold rowV
          by_cases hjk : j = k * 10
          · subst hjk
            rw [if_pos rfl, if_pos (by omega), show k * 10 / 10 = k by omega, HX.out]
          · rw [if_neg hjk]
            by_cases h2 : j % 10 = 0 ∧ j / 10 < k
            · rw [if_pos h2, if_pos (by omega)]
            · rw [if_neg h2, if_neg (by omega)]), hz.out.setOther (by show w.heap.size ≠ w.heap.size + 1; omega) _, hb.out.setCell (by show w.heap.size ≤ w.heap.size + 1; omega) _⟩
        case measure => simp [intOf]; omega
      · obtain rfl : k = len := by omega
        obtain ⟨⟨c0, c1, c2, c3, c4, c5, c6⟩, f0, f1, f2, f3, f4, f5, f6⟩ := cells45 hz.out
        go_wp2
        refine bodyPost_ret (v := .agg #[.string ⟨#[]⟩, .slice none 0 0, .slice (some ⟨w.heap.size + 1, 0, none⟩) k k, .slice none 0 0, .int .i32 t1, .int .i32 t2, .int .u8 kd]) (by simp [results, Tryz.results14, go_sem, c0, c1, c2, c3, c4, c5, c6]) rfl ?_
        refine ⟨_, _, by rw [← HL.out], fun _ => ⟨w.heap.size + 1, rfl, ?_, ?_⟩, ?_⟩
        · simpa using hr.out.lt
        · rw [← HL.out]
          refine (((((((hr.out.setOther ?_ _).setOther ?_ _).setOther ?_ _).setOther ?_ _).setOther ?_ _).setOther ?_ _).setOther ?_ _)
          all_goals (show w.heap.size + 1 ≠ w.heap.size; omega)
        · refine (((((((hb.out.setCell ?_ _).setCell ?_ _).setCell ?_ _).setCell ?_ _).setCell ?_ _).setCell ?_ _).setCell ?_ _)
          all_goals exact Nat.le_refl _

/-- The seven cells of an entry with these keys. -/
def entV (kd t1 t2 : Int) (am : Option Addr) (n cm : Nat) : Array Value := #[.string ⟨#[]⟩, .slice none 0 0, .slice am n cm, .slice none 0 0, .int .i32 t1, .int .i32 t2, .int .u8 kd]

/-- No key found. -/
def NotFound (w : World) (e : Ending) (w' : World) : Prop :=
  e = .returned (.tuple #[.agg z45, .bool false]) ∧ Below w.heap.size w w'

set_option maxHeartbeats 1000000 in
theorem value_any (s : ByteArray) (kd t1 t2 : Int) (am : Option Addr) (cm : Nat) (ss : List ByteArray) (w : World) (hs : Ents w am ss) (hl : ss.length ≤ 1048576)
    (hne : ∀ i, i < ss.length → ss.getD i ByteArray.empty ≠ s) :
    Calls Tryz.prog 26 #[.agg (entV kd t1 t2 am ss.length cm), .string s] w (NotFound w) := by
  have HS := Lib.hid hs
  have HN := Lib.hid hne
  clear hs hne
  obtain ⟨len, hlen⟩ : ∃ len, len = ss.length := ⟨_, rfl⟩
  rw [← hlen] at hl ⊢
  have HL := Lib.hid hlen
  clear hlen
  unfold entV
  go_enter Tryz.func26, Tryz.ntmps26
  go_wp2
  go_loopw [11] (fun i wr => ∃ k : Nat, k ≤ len ∧ i = .int .i64 k ∧ Hid (wr.rowIs (w.heap.size + 1) 45 7 (fun j => z45[j]!)) ∧ Hid (Below w.heap.size w wr)) (fun i _ => len - (intOf i).toNat)
  case atStart =>
    refine ⟨0, by omega, rfl, ?_, ((Below.refl _ _).alloc (Nat.le_refl _) _).alloc (by simp) _⟩
    have := World.rowIs_alloc (w.alloc (.cells (entV kd t1 t2 am len cm) 45)) z45 45 (fun j => z45[j]!) (fun i hi => by
          rw [Array.getElem?_eq_getElem hi, getElem!_pos z45 i hi])
    rw [World.size_alloc] at this
    exact this
  case round =>
    obtain ⟨k, hk, rfl, hz, hb⟩ := hrel
    by_cases hlt : k < len
    · obtain ⟨g, rfl, hg, hr⟩ := HS.out (by rw [← HL.out]; omega)
      have hr' : wr.rowIs g 62 (ss.length * 10) (rowV ss ss.length) := hr.of_block (hb.out.block _ hg)
      obtain ⟨x, hsk⟩ : ∃ s, s = ss.getD k ByteArray.empty := ⟨_, rfl⟩
      rw [← HL.out] at hr'
      obtain ⟨d0, d1, d2, d3, d4, d5, d6, d7, d8, d9⟩ := cells62 hr' hlt
      rw [← hsk] at d0
      have hx1 : (x.toList == s.toList) = false := str_ne (by rw [hsk]; exact HN.out k (by rw [← HL.out]; exact hlt))
      clear hsk hr hr'
      go_wp2
      go_roundw
      case rel =>
        refine ⟨k + 1, by omega, by go_num, ?_, ?_⟩
        · exact hz.out.alloc _
        · exact hb.out.alloc hb.out.size _
      case measure => simp [intOf]; omega
    · obtain rfl : k = len := by omega
      obtain ⟨⟨c0, c1, c2, c3, c4, c5, c6⟩, f0, f1, f2, f3, f4, f5, f6⟩ := cells45 hz.out
      go_wp2
      refine bodyPost_ret (v := .tuple #[.agg z45, .bool false]) (by simp [results, Tryz.results26, go_sem, c0, c1, c2, c3, c4, c5, c6, z45]) rfl ⟨rfl, ?_⟩
      refine (((((((hb.out.setCell ?_ _).setCell ?_ _).setCell ?_ _).setCell ?_ _).setCell ?_ _).setCell ?_ _).setCell ?_ _)
      all_goals exact Nat.le_succ _

end Go.Proofs.YtfglnnofnnmojaaGreatFmt
