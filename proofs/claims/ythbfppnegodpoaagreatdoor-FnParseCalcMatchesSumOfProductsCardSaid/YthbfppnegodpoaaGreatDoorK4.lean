/-
  The law FnParseCalcRefusesEvenLengthOrVar, walked.
-/
import Derived.Test.YthbfppnegodpoaaGreatDoorK3
namespace Go.Proofs.YthbfppnegodpoaaGreatDoor
open Go.RowKit Go.Deep Go.PlainAid

def hasv (zs : List Int) (j : Nat) : Bool := (List.range j).any fun k => kOf (zs.getD k 0) == 10
theorem hasv_succ (zs : List Int) (j : Nat) : hasv zs (j + 1) = (hasv zs j || kOf (zs.getD j 0) == 10) := by
  unfold hasv
  rw [List.range_succ, List.any_append]
  simp

theorem parse_even {n : Nat} {lf : Nat → Option CT} (h : n % 2 = 0) : parseOf n lf = none := by
  unfold parseOf
  split
  · exact parsed_even (by simpa using h)
  · rfl

/-- What the tokens of the codes parse to. -/
def lfOf (zs : List Int) (chs : Nat → Option Addr) (n i : Nat) : Option CT := lfAny (zs.getD i 0) (badAt (fun j => anyTok (zs.getD j 0) (chs j)) n i)

theorem call_of {w : World} {T n : Nat} {zs : List Int} {chs : Nat → Option Addr} (hE : Env w) (hn : n ≤ 4096) (hz : ∀ i, i < n → 0 ≤ zs.getD i 0 ∧ zs.getD i 0 ≤ 65535) (ht : Toks w T n (fun j => anyTok (zs.getD j 0) (chs j)))
    (hin : ∀ j, j < n → kOf (zs.getD j 0) = 8 ∨ kOf (zs.getD j 0) = 9 ∨ kOf (zs.getD j 0) = 10 → InnerAt w (T + 1) (chs j) (zs.getD j 0 / 64)) {cap : Nat} :
    ∀ W, Below w.heap.size w W → Calls Tryz.prog 30 #[.slice (some ⟨T, 0, none⟩) n cap] W (Ans W (parseOf n (lfOf zs chs n))) := fun W hb =>
  parse_any W T n cap _ _ hn (ht.below hb) (fun i hi => any_leaf (hE.below hb) _ (hz i hi).1 (hz i hi).2 _ _ (T + 1) (fun hk => (hin i hi hk).keep (Keeps.below hb)))

set_option maxHeartbeats 4000000 in
set_option maxRecDepth 100000 in
theorem fnParseCalcRefusesEvenLengthOrVar_walk (a : Option Addr) (cap : Nat) (zs : List Int) (W : World) (hz : Ints16 W a zs) (hE : Env W) :
    Calls Tryz.prog 5 #[.slice a zs.length cap] W fun e w' => e = .returned (.bool true) ∧ Below W.heap.size W w' := by
  obtain ⟨n, en⟩ : ∃ n, n = zs.length := ⟨_, rfl⟩
  rw [← en]
  by_cases hn : n ≤ 4096
  · have hmk := make_toks n (by omega)
    have h1 : ¬ (1048576 : Int) < (n : Int) := by omega
    have h2 : ¬ (4096 : Int) < (n : Int) := by omega
    have HZ := Lib.hid hz
    have HE := Lib.hid hE
    have HN := Lib.hid en
    clear hz hE en
    go_enter Tryz.func5, Tryz.ntmps5
    go_wp2
    go_loopw [5, 6] (fun hv i wr => ∃ j : Nat, j ≤ n ∧ i = .int .i64 j ∧ hv = .bool (hasv zs j) ∧ Hid (Filled wr W.heap.size n zs j) ∧ Hid (Below W.heap.size W wr)) (fun _ i _ => n - (intOf i).toNat)
    case atStart => exact ⟨0, Nat.zero_le _, rfl, rfl, filled_made W n zs, (Below.refl _ _).alloc (Nat.le_refl _) _⟩
    case round =>
      obtain ⟨j, hj, rfl, rfl, hf, hb⟩ := hrel
      by_cases hlt : j < n
      · have hji : (j : Int) < (n : Int) := by omega
        obtain ⟨b, off, ea, hc, hc0, hc1⟩ := HZ.out j (by rw [← HN.out]; exact hlt)
        subst ea
        have c0 := cell_later hb.out hc
        have hbW : b < W.heap.size := World.block_lt_of_cell? _ _ hc
        obtain ⟨z, ez⟩ : ∃ z, z = zs.getD j 0 := ⟨_, rfl⟩
        rw [← ez] at hc c0 hc0 hc1
        have HCZ := Lib.hid ez
        clear ez hc
        go_wp2_with fail
        refine (any_any z _ hc0 hc1).mono ?_
        rintro e w2 ⟨ch, rfl, hb2, hin⟩
        have hst : Filled (put7 w2 W.heap.size (j * 7) (anyTok z ch)) W.heap.size n zs (j + 1) := by
          have h := hf.out.step hlt hb2 ch (by rw [← HCZ.out]; exact hin)
          rw [← HCZ.out] at h
          exact h
        have HST := Lib.hid hst
        have HB2 := Lib.hid (put7_below (hb.out.trans (hb2.mono hb.out.size)) W.heap.size (j * 7) (anyTok z ch) (Nat.le_refl _))
        have hf2 := hf.out.below hb2
        obtain ⟨y0, p0⟩ := hf2.isCell (j * 7) (by omega)
        obtain ⟨y1, p1⟩ := hf2.isCell (j * 7 + 1) (by omega)
        obtain ⟨y2, p2⟩ := hf2.isCell (j * 7 + 2) (by omega)
        obtain ⟨y3, p3⟩ := hf2.isCell (j * 7 + 3) (by omega)
        obtain ⟨y4, p4⟩ := hf2.isCell (j * 7 + 4) (by omega)
        obtain ⟨y5, p5⟩ := hf2.isCell (j * 7 + 5) (by omega)
        obtain ⟨y6, p6⟩ := hf2.isCell (j * 7 + 6) (by omega)
        have f0 := hf2.fz (j * 7)
        have f1 := hf2.fz (j * 7 + 1)
        have f2 := hf2.fz (j * 7 + 2)
        have f3 := hf2.fz (j * 7 + 3)
        have f4 := hf2.fz (j * 7 + 4)
        have f5 := hf2.fz (j * 7 + 5)
        have f6 := hf2.fz (j * 7 + 6)
        have c2 := cell_later hb2 c0
        have hne : b ≠ W.heap.size := fun e => by omega
        have hvs : (anyTok z ch).vals = #[.pointer (anyTok z ch).ch, .string (anyTok z ch).s, .int .i32 0, .int .u32 0, .int .u16 0, .int .u8 (anyTok z ch).kd, .int .u8 (anyTok z ch).ws] := rfl
        clear hb2 hst hin hf2
        go_wp2_with fail
        all_goals
          refine ⟨⟨j + 1, by omega, by go_num, ?_, HST.out, HB2.out⟩, ?_⟩
          · rw [hasv_succ, ← HCZ.out]
            unfold kOf
            simp [*]
          · simp [intOf]; omega
      · obtain rfl : j = n := by omega
        by_cases hgo : j % 2 = 1 ∧ hasv zs j = false
        · obtain ⟨g1, g2⟩ := hgo
          have ht : ((j : Int)).tmod 2 = 1 := by rw [Int.tmod_eq_emod_of_nonneg (by omega)]; omega
          rw [g2]
          go_wp2_with fail
          go_ret
          exact ⟨rfl, hb.out⟩
        · have hnone : ∀ chs, parseOf j (lfOf zs chs j) = none := fun chs => by
            by_cases h2 : j % 2 = 0
            · exact parse_even h2
            · have hv : hasv zs j = true := by
                cases h : hasv zs j
                · exact absurd ⟨by omega, h⟩ hgo
                · rfl
              unfold hasv at hv
              obtain ⟨k, hk, h10⟩ := List.any_eq_true.1 hv
              refine parse_none (List.mem_range.1 hk) ?_
              have h10 : kOf (zs.getD k 0) = 10 := eq_of_beq h10
              unfold lfOf lfAny
              rw [h10]
              simp
          obtain ⟨chs, ht, hin⟩ := hf.out.toks
          have hz : ∀ i, i < j → 0 ≤ zs.getD i 0 ∧ zs.getD i 0 ≤ 65535 := fun i hi => by
            obtain ⟨_, _, _, _, h⟩ := HZ.out i (by rw [← HN.out]; exact hi)
            exact h
          have hcall := call_of (cap := j) (HE.out.below hb.out) hn hz ht hin
          rw [hnone chs] at hcall
          have HP := Lib.hid (pct_nil wr (.slice (some ⟨W.heap.size, 0, none⟩) j j) hcall)
          clear hcall ht hin
          by_cases g1 : j % 2 = 1
          · have g2 : hasv zs j = true := by
              cases h : hasv zs j
              · exact absurd ⟨g1, h⟩ hgo
              · rfl
            have ht : ((j : Int)).tmod 2 = 1 := by rw [Int.tmod_eq_emod_of_nonneg (by omega)]; omega
            rw [g2]
            clear hgo g2 hnone
            go_wp2_with fail
            refine HP.out.mono ?_
            rintro e w3 ⟨m, rfl, hb3, hm⟩
            rw [show m = mvNil from hm]
            have hmv : mvNil.val = .agg #[.int .i64 0, .string ⟨#[]⟩, .float .f64 0, .int .u8 0, .string ⟨#[]⟩, .int .u8 0, .bool false, .slice none 0 0] := rfl
            have hbz := hb.out.size
            have HB3 := Lib.hid (hb.out.trans (hb3.mono hbz))
            have hz3 := hb3.size
            clear hb3
            go_wp2_with fail
            go_ret
            exact ⟨rfl, HB3.out.alloc (by omega) _⟩
          · have ht : ((j : Int)).tmod 2 = 0 := by rw [Int.tmod_eq_emod_of_nonneg (by omega)]; omega
            clear hgo hnone
            go_wp2_with fail
            refine HP.out.mono ?_
            rintro e w3 ⟨m, rfl, hb3, hm⟩
            rw [show m = mvNil from hm]
            have hmv : mvNil.val = .agg #[.int .i64 0, .string ⟨#[]⟩, .float .f64 0, .int .u8 0, .string ⟨#[]⟩, .int .u8 0, .bool false, .slice none 0 0] := rfl
            have hbz := hb.out.size
            have HB3 := Lib.hid (hb.out.trans (hb3.mono hbz))
            have hz3 := hb3.size
            clear hb3
            go_wp2_with fail
            go_ret
            exact ⟨rfl, HB3.out.alloc (by omega) _⟩
  · have h2 : (4096 : Int) < (n : Int) := by omega
    clear hz hE en
    by_cases hn1 : n ≤ 1048576
    · have h1 : ¬ (1048576 : Int) < (n : Int) := by omega
      go_enter Tryz.func5, Tryz.ntmps5
      go_wp2
      go_ret
      exact ⟨rfl, Below.refl _ _⟩
    · have h1 : (1048576 : Int) < (n : Int) := by omega
      go_enter Tryz.func5, Tryz.ntmps5
      go_wp2
      go_ret
      exact ⟨rfl, Below.refl _ _⟩
end Go.Proofs.YthbfppnegodpoaaGreatDoor
