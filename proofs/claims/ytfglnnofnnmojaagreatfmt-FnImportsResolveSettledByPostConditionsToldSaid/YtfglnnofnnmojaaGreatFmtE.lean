/-
  Contracts, fifth part: the imports' resolution where no key can match.
-/
import Derived.Test.YtfglnnofnnmojaaGreatFmtD
namespace Go.Proofs.YtfglnnofnnmojaaGreatFmt
open Go.RowKit Go.Maps Go.Deep

theorem bcell {W w1 : World} (hb : Below W.heap.size W w1) : (∀ b o, b < W.heap.size → w1.cell? ⟨b, o, none⟩ = W.cell? ⟨b, o, none⟩) ∧ (∀ b o, b < W.heap.size → w1.frozen? ⟨b, o, none⟩ = W.frozen? ⟨b, o, none⟩) :=
  ⟨fun b o h => hb.cell (p := ⟨b, o, none⟩) h, fun b o h => hb.frozen (p := ⟨b, o, none⟩) h⟩

theorem Ents.below {w w' : World} {am : Option Addr} {ss : List ByteArray} (h : Ents w am ss) (hb : Below w.heap.size w w') : Ents w' am ss := fun h0 => by
  obtain ⟨g, e, hg, hr⟩ := h h0
  exact ⟨g, e, Nat.lt_of_lt_of_le hg hb.size, hr.of_block (hb.block _ hg)⟩

theorem three_cells {w w1 : World} {A B C : Array Value} {ta tb tc : TypeId} (hb : Below (((w.alloc (.cells A ta)).alloc (.cells B tb)).alloc (.cells C tc)).heap.size (((w.alloc (.cells A ta)).alloc (.cells B tb)).alloc (.cells C tc)) w1) :
    (∀ o, w1.cell? ⟨w.heap.size, o, none⟩ = A[o]?) ∧ (∀ o, w1.cell? ⟨w.heap.size + 1, o, none⟩ = B[o]?) ∧ (∀ o, w1.cell? ⟨w.heap.size + 1 + 1, o, none⟩ = C[o]?) ∧ (∀ o, w1.frozen? ⟨w.heap.size + 1 + 1, o, none⟩ = false) := by
  obtain ⟨hc, hf⟩ := bcell hb
  refine ⟨fun o => ?_, fun o => ?_, fun o => ?_, fun o => ?_⟩
  · rw [hc _ _ (by simp; omega)]
    simp [go_sem]
  · rw [hc _ _ (by simp)]
    simp [go_sem]
  · rw [hc _ _ (by simp)]
    simp [go_sem]
  · rw [hf _ _ (by simp)]
    simp [go_sem]

/-- A debug value with this token. -/
def dbg (t1 t2 : Int) : Value := .agg #[.string ⟨#[]⟩, .slice none 0 0, .int .i32 t1, .int .i32 t2, .bool false]

/-- The answer where nothing matches. -/
def NoMatch (t1 t2 : Int) (w : World) (e : Ending) (w' : World) : Prop := e = .returned (.tuple #[.string ⟨#[]⟩, .int .u8 2, dbg t1 t2]) ∧ Below w.heap.size w w'

set_option maxHeartbeats 2000000 in
set_option maxRecDepth 100000 in
theorem match19 (s : ByteArray) (kd t1 t2 : Int) (am : Option Addr) (cm : Nat) (ss : List ByteArray) (r : Option Nat) (w : World) (hs : Ents w am ss) (hl : ss.length ≤ 1048576) (hz : s.size ≤ 1048576)
    (hne : expB s = true ∨ ∀ i, i < ss.length → ss.getD i ByteArray.empty ≠ s) :
    Calls Tryz.prog 19 #[.agg rq, .string s, .agg (entV kd t1 t2 am ss.length cm), .string ⟨#[47]⟩, .bool true, .map r] w (NoMatch t1 t2 w) := by
  have HS := Lib.hid hs
  have HN := Lib.hid hne
  clear hs hne
  obtain ⟨len, hlen⟩ : ∃ len, len = ss.length := ⟨_, rfl⟩
  rw [← hlen] at hl ⊢
  have HL := Lib.hid hlen
  clear hlen
  have hc24 := fun W => suffix24 s ⟨#[47]⟩ W (by omega)
  have hc25 := fun W => index25 s 42 W
  have e42 : (42 : Int).toNat.toUInt8 = 42 := rfl
  rw [e42] at hc25
  obtain ⟨sf, hsf⟩ : ∃ b, b = Lib.hasSuffix s.data.toList [47] := ⟨_, rfl⟩
  obtain ⟨ix, hix⟩ : ∃ i, i = Lib.indexByte s.data.toList 42 := ⟨_, rfl⟩
  have hE : expB s = (sf || decide (0 ≤ ix)) := by rw [hsf, hix]; rfl
  rw [← hsf] at hc24
  rw [← hix] at hc25
  have C24 := Lib.hid hc24
  have C25 := Lib.hid hc25
  have HE := Lib.hid hE
  clear hc24 hc25 hE hsf hix e42
  unfold rq entV
  go_enter Tryz.func19, Tryz.ntmps19
  go_wp2_with fail
  refine (C24.out _).mono ?_
  rintro e w' ⟨rfl, rfl⟩
  cases sf
  · go_wp2_with fail
    refine (C25.out _).mono ?_
    rintro e w' ⟨rfl, rfl⟩
    by_cases h0 : 0 ≤ ix
    · go_wp2_with fail
      refine wp_loop_rounds 1 ?_
      rw [rounds_succ]
      go_wp2_with fail
      go_region
      all_goals
        go_wp2_with fail
        refine bodyPost_ret (v := .tuple #[.string ⟨#[]⟩, .int .u8 2, dbg t1 t2]) (by simp [results, Tryz.results19, go_sem, dbg]) rfl ⟨rfl, ?_⟩
        go_grown
    · have hN : ∀ i, i < ss.length → ss.getD i ByteArray.empty ≠ s := by
        rcases HN.out with h | h
        · rw [HE.out] at h; simp at h; exact absurd h h0
        · exact h
      have hW : Below w.heap.size w (((w.alloc (.cells rq 57)).alloc (.cells (entV kd t1 t2 am len cm) 45)).alloc (.cells #[.string ⟨#[]⟩, .slice none 0 0, .int .i32 0, .int .i32 0, .bool false] 50)) := by go_grown
      have c26 := value_any s kd t1 t2 am cm ss _ (Ents.below HS.out hW) (by rw [← HL.out]; exact hl) hN
      rw [← HL.out] at c26
      have C26 := Lib.hid c26
      have HW := Lib.hid hW
      clear c26 hW hN
      go_wp2_with fail
      refine C26.out.mono ?_
      rintro e w1 ⟨he, hb1⟩
      unfold z45 at he
      subst he
      obtain ⟨k0, k1, k2, k3⟩ := three_cells hb1
      have q2 : w1.cell? ⟨w.heap.size, 2, none⟩ = some (.pointer none) := k0 2
      have e3 : w1.cell? ⟨w.heap.size + 1, 3, none⟩ = some (.slice none 0 0) := k1 3
      have e4 : w1.cell? ⟨w.heap.size + 1, 4, none⟩ = some (.int .i32 t1) := k1 4
      have e5 : w1.cell? ⟨w.heap.size + 1, 5, none⟩ = some (.int .i32 t2) := k1 5
      have r0 : w1.cell? ⟨w.heap.size + 1 + 1, 0, none⟩ = some (.string ⟨#[]⟩) := k2 0
      have r1 : w1.cell? ⟨w.heap.size + 1 + 1, 1, none⟩ = some (.slice none 0 0) := k2 1
      have r2 : w1.cell? ⟨w.heap.size + 1 + 1, 2, none⟩ = some (.int .i32 0) := k2 2
      have r3 : w1.cell? ⟨w.heap.size + 1 + 1, 3, none⟩ = some (.int .i32 0) := k2 3
      have r4 : w1.cell? ⟨w.heap.size + 1 + 1, 4, none⟩ = some (.bool false) := k2 4
      clear k0 k1 k2
      have hsz0 : w.heap.size < w1.heap.size := by have := hb1.size; simp at this; omega
      have hsz1 : w.heap.size + 1 < w1.heap.size := by have := hb1.size; simp at this; omega
      have hsz : w.heap.size + 1 + 1 < w1.heap.size := by have := hb1.size; simp at this; omega
      have HB := Lib.hid (HW.out.trans (hb1.mono (by simp; omega)))
      clear hb1
      go_wp2_with fail
      refine wp_loop_rounds 1 ?_
      rw [rounds_succ]
      go_wp2_with fail
      go_region
      all_goals
        go_wp2_with fail
        refine bodyPost_ret (v := .tuple #[.string ⟨#[]⟩, .int .u8 2, dbg t1 t2]) (by simp [results, Tryz.results19, go_sem, dbg, r0, r1, r2, r3, r4, hsz]) rfl ⟨rfl, ?_⟩
        exact (((((((HB.out.setCell (Nat.le_succ_of_le (Nat.le_succ _)) _).setCell (Nat.le_succ_of_le (Nat.le_succ _)) _).setCell (Nat.le_succ_of_le (Nat.le_succ _)) _).setCell (Nat.le_succ_of_le (Nat.le_succ _)) _).setCell (Nat.le_succ_of_le (Nat.le_succ _)) _).alloc (by simp; omega) _).drew)
  · go_wp2_with fail
    refine wp_loop_rounds 1 ?_
    rw [rounds_succ]
    go_wp2_with fail
    go_region
    all_goals
      go_wp2_with fail
      refine bodyPost_ret (v := .tuple #[.string ⟨#[]⟩, .int .u8 2, dbg t1 t2]) (by simp [results, Tryz.results19, go_sem, dbg]) rfl ⟨rfl, ?_⟩
      go_grown

/-- What the resolver answers: 'res' and 'st', the entry's token. -/
def Answers (res : ByteArray) (st t1 t2 : Int) (w : World) (e : Ending) (w' : World) : Prop := e = .returned (.tuple #[.string res, .int .u8 st, dbg t1 t2]) ∧ Below w.heap.size w w'

set_option maxHeartbeats 2000000 in
theorem res15_no (s : ByteArray) (kd t1 t2 : Int) (am : Option Addr) (n cm : Nat) (r : Option Nat) (w : World) (h3 : kd ≠ 3) :
    Calls Tryz.prog 15 #[.agg rq, .string s, .agg (entV kd t1 t2 am n cm), .map r] w (Answers ⟨#[]⟩ 8 t1 t2 w) := by
  have h3' : (kd != 3) = true := by simpa using h3
  have h3'' : (kd == 3) = false := by simpa using h3
  clear h3
  unfold rq entV
  go_enter Tryz.func15, Tryz.ntmps15
  go_wp2_with fail
  go_region
  all_goals
    go_wp2_with fail
    refine bodyPost_ret (v := .tuple #[.string ⟨#[]⟩, .int .u8 8, dbg t1 t2]) (by simp [results, Tryz.results15, go_sem, dbg]) rfl ⟨rfl, ?_⟩
    go_grown

set_option maxHeartbeats 2000000 in
set_option maxRecDepth 100000 in
theorem res15_yes (s : ByteArray) (t1 t2 : Int) (am : Option Addr) (cm : Nat) (ss : List ByteArray) (r : Option Nat) (w : World) (hs : Ents w am ss) (hl : ss.length ≤ 1048576) (hz : s.size ≤ 1048576)
    (hne : expB s = true ∨ ∀ i, i < ss.length → ss.getD i ByteArray.empty ≠ s) :
    Calls Tryz.prog 15 #[.agg rq, .string s, .agg (entV 3 t1 t2 am ss.length cm), .map r] w (Answers s 11 t1 t2 w) := by
  have hW : Below w.heap.size w (((w.alloc (.cells rq 57)).alloc (.cells (entV 3 t1 t2 am ss.length cm) 45)).alloc (.cells #[.string ⟨#[]⟩, .slice none 0 0, .int .i32 0, .int .i32 0, .bool false] 50)) := by go_grown
  have c19 := Lib.hid (match19 s 3 t1 t2 am cm ss r _ (Ents.below hs hW) hl hz hne)
  have HW := Lib.hid hW
  clear hs hne hW
  obtain ⟨len, hlen⟩ : ∃ len, len = ss.length := ⟨_, rfl⟩
  rw [← hlen] at hl c19 HW ⊢
  clear hlen
  unfold rq entV
  go_enter Tryz.func15, Tryz.ntmps15
  go_wp2_with fail
  refine c19.out.mono ?_
  rintro e w1 ⟨he, hb1⟩
  unfold dbg at he
  subst he
  obtain ⟨k0, k1, k2, k3⟩ := three_cells hb1
  have q2 : w1.cell? ⟨w.heap.size, 2, none⟩ = some (.pointer none) := k0 2
  have e4 : w1.cell? ⟨w.heap.size + 1, 4, none⟩ = some (.int .i32 t1) := k1 4
  have e5 : w1.cell? ⟨w.heap.size + 1, 5, none⟩ = some (.int .i32 t2) := k1 5
  have r0 : w1.cell? ⟨w.heap.size + 1 + 1, 0, none⟩ = some (.string ⟨#[]⟩) := k2 0
  have r1 : w1.cell? ⟨w.heap.size + 1 + 1, 1, none⟩ = some (.slice none 0 0) := k2 1
  have r2 : w1.cell? ⟨w.heap.size + 1 + 1, 2, none⟩ = some (.int .i32 0) := k2 2
  have r3 : w1.cell? ⟨w.heap.size + 1 + 1, 3, none⟩ = some (.int .i32 0) := k2 3
  have r4 : w1.cell? ⟨w.heap.size + 1 + 1, 4, none⟩ = some (.bool false) := k2 4
  clear k0 k1 k2
  have hsz0 : w.heap.size < w1.heap.size := by have := hb1.size; simp at this; omega
  have hsz1 : w.heap.size + 1 < w1.heap.size := by have := hb1.size; simp at this; omega
  have hsz : w.heap.size + 1 + 1 < w1.heap.size := by have := hb1.size; simp at this; omega
  have HB := Lib.hid (HW.out.trans (hb1.mono (by simp; omega)))
  clear hb1
  go_wp2_with fail
  go_region
  all_goals
    go_wp2_with fail
    refine bodyPost_ret (v := .tuple #[.string s, .int .u8 11, dbg t1 t2]) (by simp [results, Tryz.results15, go_sem, dbg, r0, r1, r2, r3, r4, hsz]) rfl ⟨rfl, ?_⟩
    exact (((((((HB.out.setCell (Nat.le_succ_of_le (Nat.le_succ _)) _).setCell (Nat.le_succ_of_le (Nat.le_succ _)) _).setCell (Nat.le_succ_of_le (Nat.le_succ _)) _).setCell (Nat.le_succ_of_le (Nat.le_succ _)) _).setCell (Nat.le_succ_of_le (Nat.le_succ _)) _).alloc (by simp; omega) _).drew)
end Go.Proofs.YtfglnnofnnmojaaGreatFmt
