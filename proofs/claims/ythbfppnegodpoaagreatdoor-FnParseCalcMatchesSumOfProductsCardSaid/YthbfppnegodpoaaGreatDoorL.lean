/-
  Folding: the law's own zzFoldEq, unicode.SimpleFold on ASCII, strings.EqualFold against an ASCII word without k and s.
-/
import Derived.Test.YthbfppnegodpoaaGreatDoorB
import Derived.Laws.RangeAny
import Derived.Laws.BitsAllLaws
import Derived.ScopeJumps
import Derived.Shelf.RegionOpenPlain
namespace Go.Proofs.YthbfppnegodpoaaGreatDoor
open Go.RowKit Go.Deep Go.PlainAid

section
variable {P : Program} {a : Act} {w : World} {Q : Exit → Act → World → Prop} {l : Nat} {J : Act → World → Prop}
@[go_sem] theorem jump_normal : Exit.jump l J Q .normal a w = Q .normal a w := rfl
@[go_sem] theorem jump_exit (id : Nat) : Exit.jump l J Q (.exit id) a w = Q (.exit id) a w := rfl
@[go_sem] theorem jump_ret : Exit.jump l J Q .ret a w = Q .ret a w := rfl
@[go_sem] theorem jump_panic (ch : List PanicEntry) : Exit.jump l J Q (.panic ch) a w = Q (.panic ch) a w := rfl
@[go_sem] theorem jump_goto : Exit.jump l J Q (.goto l) a w = J a w := by simp [Exit.jump]

/-- A scope in which the run jumps forward, once: what stands behind the label is walked from where the jump came. -/
theorem wp_scope_forward {c rest : Code} (l : Nat) (hf : findLabel c l = some rest)
    (first : c.wp P (Exit.jump l (fun a w => rest.wp P (Exit.noGoto Q) a w) Q) a w) : (Code.scope c).wp P Q a w :=
  wp_scope_jumps l (fun a w => rest.wp P (Exit.noGoto Q) a w) (fun _ _ => 0) hf first fun a w h => wp_mono h fun e a' w' hq => by
    cases e with
    | goto l' => exact absurd hq (by simp [Exit.noGoto])
    | normal => exact hq
    | exit id => exact hq
    | ret => exact hq
    | panic ch => exact hq
    | outgrown => exact hq
end

def low (x : Int) : Int := if 65 ≤ x ∧ x ≤ 90 then x + 32 else x

/-- Alike but for the case of the letters (the second text is in lower case). -/
def LowEq (s t : ByteArray) : Prop := s.size = t.size ∧ ∀ i, i < s.size → low (bt s i) = bt t i

/-- The answer says whether F holds; the world is as it was. -/
def Says (F : Prop) (w : World) (e : Ending) (w' : World) : Prop := ∃ b, e = .returned (.bool b) ∧ (b = true ↔ F) ∧ w = w'

theorem bt_range (s : ByteArray) (i : Nat) : 0 ≤ bt s i ∧ bt s i ≤ 255 := by
  unfold bt
  split
  · have := (s[i]).toNat_lt
    omega
  · omega

set_option maxRecDepth 100000 in
theorem foldeq_any (s t : ByteArray) (w : World) (hs : s.size < 4611686018427387904) :
    Calls Tryz.prog 21 #[.string s, .string t] w (Says (LowEq s t) w) := by
  have hb := get_bt s
  have hc := get_bt t
  by_cases hst : s.size = t.size
  · have e1 : ((s.size : Int) != (t.size : Int)) = false := by simp [hst]
    have HT := Lib.hid hst
    have H0 := Lib.hid hs
    clear hst hs
    go_enter Tryz.func21, Tryz.ntmps21
    go_wp2_with fail
    go_loop [5] (fun i => ∃ k : Nat, k ≤ s.size ∧ i = .int .i64 (k : Int) ∧ ∀ j, j < k → low (bt s j) = bt t j) (fun i => s.size - (intOf i).toNat)
    case atStart => exact ⟨0, by omega, rfl, fun j hj => by omega⟩
    case round =>
      obtain ⟨k, hk, rfl, hpre⟩ := hrel
      have HP := Lib.hid hpre
      clear hpre
      have hs0 := H0.out
      have ht0 := HT.out
      have r1 := bt_range s k
      have r2 := bt_range t k
      rcases Nat.lt_or_ge k s.size with hl | hl
      · have hlt : (k : Int) < (s.size : Int) := by omega
        have hlt' : (k : Int) < (t.size : Int) := by omega
        go_wp2_with fail
        all_goals (try simp only [bne_iff_ne, bne_eq_false_iff_eq, ne_eq] at *)
        all_goals first
          | (go_round
             case rel => exact ⟨k + 1, by omega, by go_num, fun j hj => by
               rcases Nat.lt_or_ge j k with h | h
               · exact HP.out j h
               · obtain rfl : j = k := by omega
                 unfold low
                 split <;> omega⟩
             case measure => simp [intOf]; omega)
          | (go_ret
             refine ⟨false, rfl, ⟨(fun h => by cases h), fun h => ?_⟩, rfl⟩
             have := h.2 k hl
             unfold low at this
             split at this <;> omega)
      · obtain rfl : k = s.size := by omega
        go_wp2_with fail
        go_ret
        exact ⟨true, rfl, ⟨fun _ => ⟨ht0, HP.out⟩, fun _ => rfl⟩, rfl⟩
  · have e1 : ((s.size : Int) != (t.size : Int)) = true := by simp; omega
    go_enter Tryz.func21, Tryz.ntmps21
    go_wp2_with fail
    go_ret
    exact ⟨false, rfl, by simp [LowEq, hst], rfl⟩

/-- The other case of a letter. -/
def swap (x : Int) : Int := if 65 ≤ x ∧ x ≤ 90 then x + 32 else if 97 ≤ x ∧ x ≤ 122 then x - 32 else x

/-- What is known of unicode's table asciiFold: every byte but k and s. -/
def Fold (w : World) : Prop := ∀ c : Nat, c < 128 → low c ≠ 107 → low c ≠ 115 → w.cell? ⟨1, c, none⟩ = some (.int .u16 (swap c))

set_option maxRecDepth 100000 in
theorem simplefold_any (c : Nat) (w : World) (hF : Fold w) (h : c < 128) (h1 : low c ≠ 107) (h2 : low c ≠ 115) :
    Calls Tryz.prog 49 #[.int .i32 c] w fun e w' => e = .returned (.int .i32 (swap c)) ∧ w = w' := by
  have hc := hF c h h1 h2
  have e1 : (c : Int) < 128 := by omega
  have hs : 0 ≤ swap c ∧ swap c < 128 := by
    unfold swap
    split
    · omega
    · split <;> omega
  have h65 : swap c % 4294967296 = swap c := by omega
  clear h1 h2
  go_enter Tryz.func49, Tryz.ntmps49
  go_wp2_with fail
  go_ret
  exact ⟨rfl, rfl⟩

theorem ne_nil (u : ByteArray) (h : 0 < u.size) : u.toList.isEmpty = false := by
  rw [ByteArray.toList_eq]
  cases hu : u.data.toList with
  | nil =>
    have : u.data.toList.length = 0 := by rw [hu]; rfl
    have h2 : u.data.size = u.size := rfl
    rw [Array.length_toList] at this
    omega
  | cons _ _ => rfl

theorem bt_drop (s : ByteArray) (k i : Nat) : bt (s.extract k s.size) i = bt s (k + i) := by
  unfold bt
  by_cases h : k + i < s.size
  · rw [dif_pos h, dif_pos (by rw [ByteArray.size_extract]; omega)]
    congr 2
    exact ByteArray.getElem_extract ..
  · rw [dif_neg h, dif_neg (by rw [ByteArray.size_extract]; omega)]

set_option maxRecDepth 100000 in
theorem decoderune_any (u : ByteArray) (w : World) (h0 : 0 < u.size) (h1 : bt u 0 < 128) :
    Calls Tryz.prog 48 #[.string u] w fun e w' => e = .returned (.tuple #[.int .i32 (bt u 0), .int .i64 1]) ∧ w = w' := by
  have hb := get_bt u
  have r := bt_range u 0
  have hne := ne_nil u h0
  go_enter Tryz.func48, Tryz.ntmps48
  go_wp2_with fail
  go_ret2
  exact ⟨rfl, rfl⟩

theorem low_swap {c : Int} (h : 0 ≤ c) (h1 : c < 128) : low (swap c) = low c ∧ 0 ≤ swap c ∧ swap c < 128 ∧ swap (swap c) = c := by
  unfold low swap
  repeat' split
  all_goals omega

theorem Fold.below {w w' : World} (h : Fold w) (hb : Below w.heap.size w w') : Fold w' := fun c h1 h2 h3 => cell_later hb (h c h1 h2 h3)

/-- Alike but for the case of the ASCII letters. -/
def FoldEq (s t : ByteArray) : Prop := s.size = t.size ∧ ∀ i, i < s.size → low (bt s i) = low (bt t i)
/-- A word: ASCII, without k and s. -/
def Word (t : ByteArray) : Prop := ∀ i, i < t.size → bt t i < 128 ∧ low (bt t i) ≠ 107 ∧ low (bt t i) ≠ 115

/-- The answer says whether F holds; the world is as it was, but for what was made. -/
def SaysB (F : Prop) (w : World) (e : Ending) (w' : World) : Prop := ∃ b, e = .returned (.bool b) ∧ (b = true ↔ F) ∧ Below w.heap.size w w'

set_option maxHeartbeats 4000000 in
set_option maxRecDepth 100000 in
theorem equalfold_any (s t : ByteArray) (w : World) (hs : s.size < 4611686018427387904) (hW : Word t) (hF : Fold w) :
    Calls Tryz.prog 40 #[.string s, .string t] w (SaysB (FoldEq s t) w) := by
  have hb := get_bt s
  have hc := get_bt t
  have HW := Lib.hid hW
  have HF := Lib.hid hF
  have H0 := Lib.hid hs
  rcases Int.lt_or_le (t.size : Int) (s.size : Int) with hle | hle
  all_goals
    have HL := Lib.hid hle
    clear hs hF hW
    go_enter Tryz.func40, Tryz.ntmps40
    go_wp2_with fail
    refine wp_scope_forward 0 rfl ?_
    go_wp2_with fail
    go_loop [5] (fun i => ∃ k : Nat, k ≤ s.size ∧ k ≤ t.size ∧ i = .int .i64 (k : Int) ∧ ∀ j, j < k → low (bt s j) = low (bt t j)) (fun i => s.size - (intOf i).toNat)
    case atStart => exact ⟨0, by omega, by omega, rfl, fun j hj => by omega⟩
    case round =>
      obtain ⟨k, hks, hkt, rfl, hpre⟩ := hrel
      have HP := Lib.hid hpre
      have hs0 := H0.out
      clear hpre
      by_cases hk : k < s.size ∧ k < t.size
      · have k1 : (k : Int) < (s.size : Int) := by omega
        have k2 : (k : Int) < (t.size : Int) := by omega
        obtain ⟨q1, q2, q3⟩ := HW.out k hk.2
        have r1 := bt_range s k
        have r2 := bt_range t k
        obtain ⟨x, hx⟩ : ∃ x : Nat, bt s k = x := ⟨(bt s k).toNat, by omega⟩
        obtain ⟨y, hy⟩ : ∃ y : Nat, bt t k = y := ⟨(bt t k).toNat, by omega⟩
        have hor : bits .or .u8 (bt s k) (bt t k) = ((x ||| y : Nat) : Int) := by rw [hx, hy]; exact u8_or_nat _ _ (by omega) (by omega)
        have HK := Lib.hid hk
        have HQ := Lib.hid (And.intro q1 (And.intro q2 q3))
        have HXY := Lib.hid (And.intro hx hy)
        clear q2 q3
        by_cases hlow : x < 128
        · have hlt : ¬ (128 : Int) ≤ ((x ||| y : Nat) : Int) := by have := Nat.or_lt_two_pow (n := 7) (x := x) (y := y) (by omega) (by omega); omega
          clear hx hy
          go_wp2_with fail
          all_goals have hx := HXY.out.1
          all_goals have hy := HXY.out.2
          all_goals first
            | (go_round
               case rel => exact ⟨k + 1, by omega, by omega, by go_num, fun j hj => by
                 rcases Nat.lt_or_ge j k with h | h
                 · exact HP.out j h
                 · obtain rfl : j = k := by omega
                   simp only [beq_iff_eq, beq_eq_false_iff_ne, ne_eq] at *
                   unfold low
                   split <;> split <;> omega⟩
               case measure => simp [intOf]; omega)
            | (go_ret
               refine ⟨false, rfl, ⟨(fun h => by cases h), fun h => ?_⟩, Below.refl _ _⟩
               have hq := h.2 k HK.out.1
               clear h
               simp only [beq_eq_false_iff_ne, ne_eq] at *
               unfold low at hq
               split at hq <;> split at hq <;> omega)
        · have hlt : (128 : Int) ≤ ((x ||| y : Nat) : Int) := by have := Nat.left_le_or (n := x) (m := y); omega
          clear hx hy
          have hx := HXY.out.1
          have hy := HXY.out.2
          obtain ⟨s', es⟩ : ∃ s' : ByteArray, s' = s.extract k s.size := ⟨_, rfl⟩
          obtain ⟨t', et⟩ : ∃ t' : ByteArray, t' = t.extract k t.size := ⟨_, rfl⟩
          have zs : 0 < s'.size := by rw [es, ByteArray.size_extract]; omega
          have zt : 0 < t'.size := by rw [et, ByteArray.size_extract]; omega
          have b0 : bt t' 0 = y := by rw [et, bt_drop]; exact hy
          have a0 : (s'[0]'zs).toNat = x := by
            have h1 := get_bt s' 0 zs
            have h2 : bt s' 0 = x := by rw [es, bt_drop]; exact hx
            omega
          obtain ⟨d0, d1⟩ := decode_high s' 0 zs (by omega)
          have d2 := decode_le s' 0
          have hnext := fun ty => run_next_any (P := Tryz.prog) w s' 0 ty zs
          have hdec := fun W => decoderune_any t' W zt (by omega)
          have hbel : Below w.heap.size w (w.iter s' (Utf8.decode s' 0).2) := (Below.refl _ _).alloc (Nat.le_refl _) _
          have hF1 := HF.out.below hbel
          obtain ⟨W1, eW1⟩ : ∃ W1, w.iter s' (Utf8.decode s' 0).2 = W1 := ⟨_, rfl⟩
          obtain ⟨r, er⟩ : ∃ r, (Utf8.decode s' 0).1 = r := ⟨_, rfl⟩
          rw [eW1] at hbel hF1
          rw [er] at d0 d2
          rw [hy] at q1 
          have q4 := HQ.out.2.1
          have q5 := HQ.out.2.2
          rw [hy] at q4 q5
          obtain ⟨z, ez⟩ : ∃ z : Nat, swap (y : Int) = z := ⟨(swap (y : Int)).toNat, by have := (low_swap (c := (y : Int)) (by omega) (by omega)).2.1; omega⟩
          obtain ⟨l1, l2, l3, l4⟩ := low_swap (c := (y : Int)) (by omega) (by omega)
          rw [ez] at l1 l2 l3 l4
          have sf1 := simplefold_any y W1 hF1 (by omega) q4 q5
          have sf2 := simplefold_any z W1 hF1 (by omega) (by rw [l1]; exact q4) (by rw [l1]; exact q5)
          rw [ez] at sf1
          rw [l4] at sf2
          have g1 : ((y : Int) == (r : Int)) = false := beq_eq_false_iff_ne.2 (by omega)
          have g2 : ((r : Int) == (y : Int)) = false := beq_eq_false_iff_ne.2 (by omega)
          have g3 : ((r : Int) == (z : Int)) = false := beq_eq_false_iff_ne.2 (by omega)
          have g4 : (z : Int) < (r : Int) := by omega
          have g5 : (y : Int) < (r : Int) := by omega
          have g6 : ¬ (r : Int) < 128 := by omega
          have hneq : ¬ FoldEq s t := fun h => by
            have := h.2 k hk.1
            rw [hx, hy] at this
            unfold low at this
            split at this <;> split at this <;> omega
          have HN := Lib.hid hneq
          clear hneq q1 q4 q5 l1 l4 ez hF1
          have es2 := es.symm
          have et2 := et.symm
          clear es et
          clear hx hy
          go_wp2_with fail
          go_step3
          refine ⟨rfl, ?_⟩
          go_wp2_with fail
          refine wp_loop_rounds 1 ?_
          rw [rounds_succ]
          go_wp2_with fail
          refine (hdec _).mono ?_
          rintro e w' ⟨rfl, rfl⟩
          go_wp2_with fail
          refine sf1.mono ?_
          rintro e w' ⟨rfl, rfl⟩
          by_cases hzy : z = y
          · subst hzy
            have g7 : ((z : Int) != (z : Int)) = false := by simp
            go_wp2_with fail
            refine wp_loop_rounds 1 ?_
            rw [rounds_succ]
            go_wp2_with fail
            go_ret
            exact ⟨false, rfl, ⟨(fun h => by cases h), fun h => absurd h HN.out⟩, hbel⟩
          · have g7 : ((z : Int) != (y : Int)) = true := by simp; omega
            have g8 : ((y : Int) != (y : Int)) = false := by simp
            go_wp2_with fail
            refine wp_loop_rounds 2 ?_
            rw [rounds_succ]
            go_wp2_with fail
            refine sf2.mono ?_
            rintro e w' ⟨rfl, rfl⟩
            go_wp2_with fail
            rw [rounds_succ]
            go_wp2_with fail
            go_ret
            exact ⟨false, rfl, ⟨(fun h => by cases h), fun h => absurd h HN.out⟩, hbel⟩
      · have hz : (s.size = k ∧ t.size = k) ∨ ¬ s.size = t.size := by omega
        first
          | have hy : ¬ (k : Int) < (t.size : Int) := by omega
          | have hy : ¬ (k : Int) < (s.size : Int) := by omega
        rcases hz with ⟨h1, h2⟩ | hz
        · have hq : ((s.size : Int) == (t.size : Int)) = true := beq_iff_eq.2 (by omega)
          go_wp2_with fail
          go_ret
          exact ⟨true, rfl, ⟨fun _ => ⟨by omega, fun i hi => HP.out i (by omega)⟩, fun _ => rfl⟩, Below.refl _ _⟩
        · have hq : ((s.size : Int) == (t.size : Int)) = false := beq_eq_false_iff_ne.2 (by omega)
          go_wp2_with fail
          go_ret
          exact ⟨false, rfl, ⟨(fun h => by cases h), fun h => absurd h.1 hz⟩, Below.refl _ _⟩
end Go.Proofs.YthbfppnegodpoaaGreatDoor
