/-
  zzInner and zzAny: the tokens that the laws' codes stand for.
-/
import Derived.Test.YthbfppnegodpoaaGreatDoorF2
import Derived.Test.YthbfppnegodpoaaGreatDoorJ
import Derived.Deep.RegionLawGrows
import Derived.Deep.AppendLies
namespace Go.Proofs.YthbfppnegodpoaaGreatDoor
open Go.RowKit Go.Deep Go.PlainAid

def txPlus : ByteArray := ⟨#[43]⟩

/-- The tokens of an inner list. -/
def inTok (v : Int) (i : Nat) : TK := if i = 0 then ⟨none, strOfNums (numZ v), 30, 3⟩ else ⟨none, txPlus, 23, 3⟩
def inLen (v : Int) : Nat := if v % 2 = 1 then 2 else 1

/-- The address leads to an inner list. -/
def InnerAt (W : World) (lo : Nat) (ch : Option Addr) (v : Int) : Prop :=
  ∃ cb rb cap, lo ≤ cb ∧ lo ≤ rb ∧ ch = some ⟨cb, 0, none⟩ ∧ W.cell? ⟨cb, 0, none⟩ = some (.slice (some ⟨rb, 0, none⟩) (inLen v) cap) ∧ Toks W rb (inLen v) (inTok v)
theorem TokAt.keep {W W' : World} {D : Nat → Prop} {b o : Nat} {t : TK} (h : TokAt W b o t) (hb : D b) (hk : Keeps D W W') : TokAt W' b o t :=
  ⟨hk _ _ _ hb h.c0, hk _ _ _ hb h.c1, hk _ _ _ hb h.c2, hk _ _ _ hb h.c3, hk _ _ _ hb h.c4, hk _ _ _ hb h.c5, hk _ _ _ hb h.c6⟩
theorem InnerAt.keep {W W' : World} {lo : Nat} {ch : Option Addr} {v : Int} (h : InnerAt W lo ch v) (hk : Keeps (lo ≤ ·) W W') : InnerAt W' lo ch v := by
  obtain ⟨cb, rb, cap, l1, l2, h1, h2, h3⟩ := h
  exact ⟨cb, rb, cap, l1, l2, h1, hk _ _ _ l1 h2, fun i hi => (h3 i hi).keep l2 hk⟩
theorem InnerAt.mono {W : World} {lo lo' : Nat} {ch : Option Addr} {v : Int} (h : InnerAt W lo ch v) (hl : lo' ≤ lo) : InnerAt W lo' ch v := by
  obtain ⟨cb, rb, cap, l1, l2, h1, h2, h3⟩ := h
  exact ⟨cb, rb, cap, Nat.le_trans hl l1, Nat.le_trans hl l2, h1, h2, h3⟩

theorem info32 : ∃ i z, Tryz.prog.info? 32 = some i ∧ i.zero = some z ∧ i.size = 7 ∧ i.bytes = 40 ∧ z.cells.size = 7 := by
  have h : (Tryz.prog.info? 32).map (fun i => (i.zero, i.size, i.bytes)) = some (some (.agg #[.pointer none, .string ⟨#[]⟩, .int .i32 0, .int .u32 0, .int .u16 0, .int .u8 0, .int .u8 0]), 7, 40) := by kernel_rfl
  obtain ⟨i, hi, hz⟩ := Option.map_eq_some_iff.1 h
  simp only [Prod.mk.injEq] at hz
  exact ⟨i, _, hi, hz.1, hz.2.1, hz.2.2, rfl⟩

theorem inner_fin {v : Int} {w' : World} {B g cap base lo : Nat} {olds news : List Value} (ho : v % 2 = 1)
    (eo : olds = [.pointer none, .string (strOfNums (numZ v)), .int .i32 0, .int .u32 0, .int .u16 0, .int .u8 30, .int .u8 (wsN true true)])
    (en : news = [.pointer none, .string ⟨#[43]⟩, .int .i32 0, .int .u32 0, .int .u16 0, .int .u8 23, .int .u8 (wsN true true)])
    (hown : w'.ownsRow base 32 7 (.slice (some ⟨g, 0, none⟩) 2 cap) 2 (olds ++ news)) (hne : g ≠ B + 1) {y : Value} (hy : w'.cell? ⟨B + 1, 0, none⟩ = some y) (l1 : lo ≤ B + 1) (l2 : lo ≤ g) :
    InnerAt (w'.setCell ⟨B + 1, 0, none⟩ (.slice (some ⟨g, 0, none⟩) 2 cap)) lo (some ⟨B + 1, 0, none⟩) v := by
  have hc : ∀ j, j < 14 → (w'.setCell ⟨B + 1, 0, none⟩ (.slice (some ⟨g, 0, none⟩) 2 cap)).cell? ⟨g, j, none⟩ = (olds ++ news)[j]? := fun j hj => by
    rw [World.cell?_of_block (Below.heap_setCell _ _ _ _ hne), hown.cellAt j (by omega)]
  subst eo
  subst en
  refine ⟨B + 1, g, cap, l1, l2, rfl, ?_, ?_⟩
  · rw [World.cell?_setCell_same' _ _ _ (by rw [hy]; rfl)]
    unfold inLen
    rw [if_pos ho]
  · intro i hi
    unfold inLen at hi
    rw [if_pos ho] at hi
    rcases Nat.lt_or_ge i 1 with h | h
    · obtain rfl : i = 0 := by omega
      exact ⟨hc 0 (by omega), hc 1 (by omega), hc 2 (by omega), hc 3 (by omega), hc 4 (by omega), hc 5 (by omega), hc 6 (by omega)⟩
    · obtain rfl : i = 1 := by omega
      exact ⟨hc 7 (by omega), hc 8 (by omega), hc 9 (by omega), hc 10 (by omega), hc 11 (by omega), hc 12 (by omega), hc 13 (by omega)⟩

set_option maxHeartbeats 4000000 in
set_option maxRecDepth 100000 in
theorem inner_any (v : Int) (w : World) (h0 : 0 ≤ v) (h1 : v ≤ 65535) :
    Calls Tryz.prog 32 #[.int .i64 v] w fun e w' => ∃ ch, e = .returned (.pointer ch) ∧ InnerAt w' w.heap.size ch v ∧ Below w.heap.size w w' := by
  have HI := Lib.hid (fun W => itoa_any v W (by omega) (by omega))
  have HW := Lib.hid (fun W => ws_any true true W)
  by_cases ho : v % 2 = 1
  · have ht : v.tmod 2 = 1 := by rw [Int.tmod_eq_emod_of_nonneg h0]; exact ho
    go_enter Tryz.func32, Tryz.ntmps32
    go_wp2_with fail
    refine (HI.out _).mono ?_
    rintro e w1 ⟨rfl, hb1⟩
    go_wp2_with fail
    refine (HW.out _).mono ?_
    rintro e w' ⟨rfl, rfl⟩
    go_upto_region 3 with fail
    obtain ⟨B, eB⟩ : ∃ B, B = w1.heap.size := ⟨_, rfl⟩
    obtain ⟨W2, eW⟩ : ∃ W2, W2 = (w1.alloc (.cells #[.pointer none, .string (strOfNums (numZ v)), .int .i32 0, .int .u32 0, .int .u16 0, .int .u8 30, .int .u8 (wsN true true)] 32)).alloc (.cells #[.slice (some ⟨w1.heap.size, 0, none⟩) 1 1] 33) := ⟨_, rfl⟩
    have hb2 : Below w.heap.size w W2 := by rw [eW]; exact (hb1.alloc hb1.size _).alloc (by rw [World.size_alloc]; have := hb1.size; omega) _
    have hz2 : W2.heap.size = B + 2 := by rw [eW, World.size_alloc, World.size_alloc, eB]
    have k0 : W2.cell? ⟨B + 1, 0, none⟩ = some (.slice (some ⟨B, 0, none⟩) 1 1) := by rw [eW, eB]; simp [go_sem]
    have kf : W2.frozen? ⟨B + 1, 0, none⟩ = false := by rw [eW, eB]; simp [go_sem]
    obtain ⟨olds, eo⟩ : ∃ olds : List Value, olds = [.pointer none, .string (strOfNums (numZ v)), .int .i32 0, .int .u32 0, .int .u16 0, .int .u8 30, .int .u8 (wsN true true)] := ⟨_, rfl⟩
    obtain ⟨news, en⟩ : ∃ news : List Value, news = [.pointer none, .string ⟨#[43]⟩, .int .i32 0, .int .u32 0, .int .u16 0, .int .u8 23, .int .u8 (wsN true true)] := ⟨_, rfl⟩
    have ho7 : olds.length = 1 * 7 := by rw [eo]; rfl
    have hn7 : news.length = 1 * 7 := by rw [en]; rfl
    have h1c : ∀ u ∈ news, u.oneCell' = true := by
      intro u hu
      rw [en] at hu
      simp only [List.mem_cons, List.not_mem_nil, or_false] at hu
      rcases hu with rfl | rfl | rfl | rfl | rfl | rfl | rfl <;> rfl
    have hold2 : ∀ j u, olds[j]? = some u → W2.cell? ⟨B, j, none⟩ = some u := by
      intro j u hj
      rw [eW, eB]
      have hb : (⟨w1.heap.size, j, none⟩ : Addr).block < (w1.alloc (.cells #[.pointer none, .string (strOfNums (numZ v)), .int .i32 0, .int .u32 0, .int .u16 0, .int .u8 30, .int .u8 (wsN true true)] 32)).heap.size := by rw [World.size_alloc]; show w1.heap.size < _; omega
      rw [World.cell?_of_block (Below.heap_alloc _ _ _ hb), World.cell?_alloc_new, ← hj, eo]
      simp
    have hold : ∀ o j u, olds[j]? = some u → ((W2.alloc o).drew).cell? ((⟨B, 0, none⟩ : Addr).add j) = some u := fun o j u hj => by
      rw [Addr.add_lit, Nat.zero_add]
      exact cell_later (((Below.refl _ _).alloc (Nat.le_refl _) o).drew) (hold2 j u hj)
    have hnew : ∀ j u, news[j]? = some u → ((W2.alloc (.cells #[.pointer none, .string ⟨#[43]⟩, .int .i32 0, .int .u32 0, .int .u16 0, .int .u8 23, .int .u8 (wsN true true)] 32)).drew).cell? ((⟨W2.heap.size, 0, none⟩ : Addr).add j) = some u := fun j u hj => by
      rw [Addr.add_lit, Nat.zero_add]
      show (W2.alloc _).cell? _ = _
      rw [World.cell?_alloc_new, ← hj, en]
      simp
    obtain ⟨i0, z0, hi, hz, hz1, hz3, hz4⟩ := info32
    have HB2 := Lib.hid hb2
    have HEO := Lib.hid eo
    have HEN := Lib.hid en
    have HZ2 := Lib.hid hz2
    have HWB := Lib.hid (show w.heap.size ≤ B + 1 by rw [eB]; have := hb1.size; omega)
    rw [← eW, ← eB]
    have hBW : B < W2.heap.size := by omega
    clear eW eB eo en hz2 hb2 hb1 hold2
    have m0' : ((W2.alloc (.cells #[.pointer none, .string ⟨#[43]⟩, .int .i32 0, .int .u32 0, .int .u16 0, .int .u8 23, .int .u8 (wsN true true)] 32)).drew).cell? ⟨B + 1, 0, none⟩ = some (.slice (some ⟨B, 0, none⟩) 1 1) := cell_later (((Below.refl _ _).alloc (Nat.le_refl _) _).drew) k0
    have hlt' : B + 1 < ((W2.alloc (.cells #[.pointer none, .string ⟨#[43]⟩, .int .i32 0, .int .u32 0, .int .u16 0, .int .u8 23, .int .u8 (wsN true true)] 32)).drew).heap.size := by show B + 1 < (W2.alloc _).heap.size; rw [World.size_alloc]; have := HZ2.out; omega
    have mf' : ((W2.alloc (.cells #[.pointer none, .string ⟨#[43]⟩, .int .i32 0, .int .u32 0, .int .u16 0, .int .u8 23, .int .u8 (wsN true true)] 32)).drew).frozen? ⟨B + 1, 0, none⟩ = false := by
      show (W2.alloc _).frozen? _ = _
      rw [World.frozen?_of_block (Below.heap_alloc _ _ _ (by have := HZ2.out; show B + 1 < W2.heap.size; omega))]
      exact kf
    have hbe : Below W2.heap.size W2 ((W2.alloc (.cells #[.pointer none, .string ⟨#[43]⟩, .int .i32 0, .int .u32 0, .int .u16 0, .int .u8 23, .int .u8 (wsN true true)] 32)).drew) := ((Below.refl _ _).alloc (Nat.le_refl _) _).drew
    have HBE := Lib.hid hbe
    clear hbe
    go_region_law (first
      | (refine step_append_grows rfl (.tmp 12) (.tmp 15) 33 rfl 32 i0 z0 7 40 Tryz.underlying33 hi hz hz1 hz3 hz4 (by decide) (some ⟨B, 0, none⟩) 1 1 olds rfl (fun h => by cases h) ho7 (fun b hb j u hj => by cases hb; exact hold _ j u hj) ⟨W2.heap.size, 0, none⟩ 1 1 news rfl hn7 hnew h1c (by decide) (by decide) (by decide) ?_; intro v' w' hown hgrow; obtain ⟨g, cap', ev, hg1, hg2⟩ := hown.form (by decide); subst ev; have m0 := hgrow.cell (a := ⟨B + 1, 0, none⟩) m0' (by simp); have mf := (hgrow.frozen_far ⟨B + 1, 0, none⟩ hlt' (by simp)).trans mf'; have HOWN := Lib.hid hown; have HGR := Lib.hid hgrow; clear hown hgrow)
      | (go_simp; go_at_call 9; refine (HW.out _).mono ?_; rintro e w' ⟨rfl, rfl⟩))
    all_goals (try go_wp2_with fail)
    all_goals go_ret
    all_goals
      have hz2 := HZ2.out
      have hsz : B + 2 < ((W2.alloc (.cells #[.pointer none, .string ⟨#[43]⟩, .int .i32 0, .int .u32 0, .int .u16 0, .int .u8 23, .int .u8 (wsN true true)] 32)).drew).heap.size := by
        show B + 2 < (W2.alloc _).heap.size
        rw [World.size_alloc]
        omega
      refine ⟨some ⟨B + 1, 0, none⟩, rfl, inner_fin ho HEO.out HEN.out HOWN.out (by omega) m0 HWB.out (by have := HWB.out; omega), ?_⟩
      have hb3 := (HB2.out.trans (HBE.out.mono HB2.out.size)).grown HGR.out (Nat.le_trans HB2.out.size HBE.out.size) (fun k h => by cases h)
      exact hb3.setCell (by show w.heap.size ≤ B + 1; exact HWB.out) _
  · have ht : v.tmod 2 = 0 := by rw [Int.tmod_eq_emod_of_nonneg h0]; omega
    go_enter Tryz.func32, Tryz.ntmps32
    go_wp2_with fail
    refine (HI.out _).mono ?_
    rintro e w1 ⟨rfl, hb1⟩
    go_wp2_with fail
    refine (HW.out _).mono ?_
    rintro e w' ⟨rfl, rfl⟩
    go_wp2_with fail
    go_ret
    refine ⟨some ⟨w1.heap.size + 1, 0, none⟩, rfl, ⟨w1.heap.size + 1, w1.heap.size, 1, by have := hb1.size; omega, hb1.size, rfl, ?_, ?_⟩, (hb1.alloc hb1.size _).alloc (by rw [World.size_alloc]; have := hb1.size; omega) _⟩
    · unfold inLen
      rw [if_neg ho]
      simp [go_sem]
    · intro i hi
      unfold inLen at hi
      rw [if_neg ho] at hi
      obtain rfl : i = 0 := by omega
      rw [Nat.zero_mul]
      exact ⟨by simp [go_sem, inTok], by simp [go_sem, inTok], by simp [go_sem], by simp [go_sem], by simp [go_sem], by simp [go_sem, inTok], by simp [go_sem, inTok, wsN]⟩
end Go.Proofs.YthbfppnegodpoaaGreatDoor
