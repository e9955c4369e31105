/-
  The groups of a sum, told by its operators' numbers: plain law; zzSumModel on the refused lists, walked.
-/
import Derived.Test.YthbfppnegodpoaaGreatDoorS6
import Derived.Test.YthbfppnegodpoaaGreatDoorS2
import Derived.Test.YthbfppnegodpoaaGreatDoorS4
namespace Go.Proofs.YthbfppnegodpoaaGreatDoor

theorem terms_len (t0 : CT) (P : List (CT × CT)) (k : Nat) (hk : k ≤ P.length) : (terms t0 P k).length ≤ P.length + 1 - k := by
  induction hn : P.length - k using Nat.strongRecOn generalizing k with
  | _ n ih =>
    rw [terms, List.length_cons]
    by_cases h : k + runLen P k < P.length
    · rw [if_pos h]
      have := ih _ (by omega) (k + runLen P k + 1) (by omega) rfl
      omega
    · rw [if_neg h, List.length_nil]
      omega

theorem runLen_le (P : List (CT × CT)) (k : Nat) (hk : k ≤ P.length) : k + runLen P k ≤ P.length := by
  unfold runLen
  have h := List.IsPrefix.length_le (List.takeWhile_prefix (l := P.drop k) fun p => mulOp p.1)
  rw [List.length_drop] at h
  omega

theorem runLen_is (P : List (CT × CT)) (k q : Nat) (h1 : ∀ j, j < q → mulOp (P.getD (k + j) dP).1 = true) (h2 : k + q ≤ P.length) (h3 : k + q = P.length ∨ mulOp (P.getD (k + q) dP).1 = false) : runLen P k = q := by
  unfold runLen
  induction q generalizing k with
  | zero =>
    rcases Nat.lt_or_ge k P.length with h | h
    · have e : P.getD k dP = P[k] := by rw [List.getD_eq_getElem?_getD, List.getElem?_eq_getElem h]; rfl
      have h4 : mulOp (P[k]).1 = false := by
        rcases h3 with h3 | h3
        · omega
        · rw [Nat.add_zero, e] at h3
          exact h3
      rw [List.drop_eq_getElem_cons h, List.takeWhile_cons_of_neg (by rw [h4]; exact Bool.false_ne_true)]
      rfl
    · rw [List.drop_eq_nil_of_le h]
      rfl
  | succ q ih =>
    have h : k < P.length := by omega
    have e : P.getD k dP = P[k] := by rw [List.getD_eq_getElem?_getD, List.getElem?_eq_getElem h]; rfl
    have h4 : mulOp (P[k]).1 = true := by
      have := h1 0 (by omega)
      rw [Nat.add_zero, e] at this
      exact this
    have h5 := ih (k + 1) (fun j hj => by
      have := h1 (j + 1) (by omega)
      rw [show k + 1 + j = k + (j + 1) by omega]
      exact this) (by omega) (by
      rw [show k + 1 + q = k + (q + 1) by omega]
      exact h3)
    rw [List.drop_eq_getElem_cons h, List.takeWhile_cons_of_pos (by exact h4), List.length_cons, h5]

/-- The operators' numbers, the operands' terms. -/
structure Told (t0 : CT) (P : List (CT × CT)) (t : Nat → CT) (op : Nat → Int) : Prop where
  mul : ∀ j, j < P.length → mulOp (P.getD j dP).1 = decide (3 ≤ op (2 * j + 1))
  div : ∀ j, j < P.length → isDiv (P.getD j dP).1 = (op (2 * j + 1) == 4)
  sub : ∀ j, j < P.length → isSub (P.getD j dP).1 = (op (2 * j + 1) == 2)
  leaf : ∀ j, j ≤ P.length → t (2 * j) = leafOf t0 P j

theorem grp_fac {t0 : CT} {P : List (CT × CT)} {t : Nat → CT} {op : Nat → Int} (h : Told t0 P t op) (k e : Nat) (hk : k + e ≤ P.length) :
    (List.range (e + 1)).map (fac t op (2 * k)) = leafOf t0 P k :: ((P.drop k).take e).map (wr isDiv .inv) := by
  apply List.ext_getElem
  · simp only [List.length_map, List.length_range, List.length_cons, List.length_take, List.length_drop]
    omega
  · intro i h1 h2
    rw [List.getElem_map, List.getElem_range]
    simp only [List.length_map, List.length_range] at h1
    cases i with
    | zero =>
      rw [List.getElem_cons_zero]
      unfold fac
      rw [if_pos rfl, h.leaf k (by omega)]
    | succ i =>
      rw [List.getElem_cons_succ, List.getElem_map, List.getElem_take, List.getElem_drop]
      unfold fac wr
      have hl : k + i < P.length := by omega
      have hd := h.div (k + i) hl
      have e0 : P.getD (k + i) dP = P[k + i] := by rw [List.getD_eq_getElem?_getD, List.getElem?_eq_getElem hl]; rfl
      rw [e0] at hd
      have ht := h.leaf (k + i + 1) (by omega)
      have el : leafOf t0 P (k + i + 1) = (P[k + i]).2 := by
        unfold leafOf
        rw [if_neg (by omega), Nat.add_sub_cancel, e0]
      rw [if_neg (by omega), show 2 * k + 2 * (i + 1) - 1 = 2 * (k + i) + 1 by omega, show 2 * k + 2 * (i + 1) = 2 * (k + i + 1) by omega, ht, el, hd]
      by_cases h4 : op (2 * (k + i) + 1) = 4
      · rw [if_pos h4, if_pos (by simp [h4])]
      · rw [if_neg h4, if_neg (by simp [h4])]

/-- A group's factors, by their numbers. -/
def grpN (t : Nat → CT) (op : Nat → Int) (k e : Nat) : CT := if e = 0 then t (2 * k) else .prod ((List.range (e + 1)).map (fac t op (2 * k)))
def sgnN (op : Nat → Int) (k : Nat) (g : CT) : CT := if 0 < k ∧ op (2 * k - 1) = 2 then .neg g else g
theorem grpN_eq {t0 : CT} {P : List (CT × CT)} {t : Nat → CT} {op : Nat → Int} (h : Told t0 P t op) (k : Nat) (hk : k ≤ P.length) : grpN t op k (runLen P k) = grpT t0 P k := by
  unfold grpN grpT
  rw [grp_fac h k _ (runLen_le P k hk), h.leaf k hk]
theorem sgnN_eq {t0 : CT} {P : List (CT × CT)} {t : Nat → CT} {op : Nat → Int} (h : Told t0 P t op) (k : Nat) (hk : k ≤ P.length) (g : CT) : sgnN op k g = sgn P k g := by
  unfold sgnN sgn
  by_cases h0 : 0 < k
  · have hs := h.sub (k - 1) (by omega)
    rw [show 2 * (k - 1) + 1 = 2 * k - 1 by omega] at hs
    unfold opOf
    rw [hs]
    by_cases h2 : op (2 * k - 1) = 2
    · rw [if_pos ⟨h0, h2⟩, if_pos ⟨h0, by simp [h2]⟩]
    · rw [if_neg (fun h => h2 h.2), if_neg (fun h => h2 (by simpa using h.2))]
  · rw [if_neg (fun h => h0 h.1), if_neg (fun h => h0 h.1)]

/-- The terms behind place k. -/
def rest (t0 : CT) (P : List (CT × CT)) (k : Nat) : List CT := if k ≤ P.length then terms t0 P k else []
theorem rest_cons {t0 : CT} {P : List (CT × CT)} {t : Nat → CT} {op : Nat → Int} (h : Told t0 P t op) (k : Nat) (hk : k ≤ P.length) : rest t0 P k = sgnN op k (grpN t op k (runLen P k)) :: rest t0 P (k + runLen P k + 1) := by
  unfold rest
  rw [if_pos hk, terms, grpN_eq h k hk, sgnN_eq h k hk]
  rfl

open Go.RowKit Go.Deep Go.PlainAid

/-- zzProductModel on the group of k .. k + e. -/
theorem prodm_any (W : World) (L R n k e : Nat) (mf : Nat → MV) (t : Nat → CT) (op : Nat → Int) (hn : n ≤ 4096) (hs : 2 * k + 2 * e < n) (hl : ∀ j, 2 * j < n → MVAt W L (2 * j * 8) (mf (2 * j))) (hm : ∀ j, 2 * j < n → ∀ W D, Mir W D (mf (2 * j)) (t (2 * j)))
    (ho : ∀ i, i < n → W.cell? ⟨R, i, none⟩ = some (.int .i64 (op i))) (s z : Nat) (es : s = 2 * k) (ez : z = s + 2 * e) :
    Calls Tryz.prog 39 #[.slice (some ⟨L, 0, none⟩) n n, .slice (some ⟨R, 0, none⟩) n n, .int .i64 s, .int .i64 z] W (Conv (grpN t op k e) W) := by
  subst es ez
  unfold grpN
  by_cases h0 : e = 0
  · subst h0
    rw [if_pos rfl]
    exact prodm_one W L n (2 * k) _ mf t (by omega) (hl k (by omega)) (hm k (by omega))
  · rw [if_neg h0]
    refine prodm_many W L R n (2 * k) e mf t op hn (by omega) hs (fun i hi => ?_) (fun i hi => ?_) ho
    · rw [show 2 * k + 2 * i = 2 * (k + i) by omega]
      exact hl (k + i) (by omega)
    · rw [show 2 * k + 2 * i = 2 * (k + i) by omega]
      exact hm (k + i) (by omega)

set_option maxHeartbeats 4000000 in
set_option maxRecDepth 100000 in
theorem sum_even (W : World) (T n : Nat) (l r : Value) (hn : n ≤ 4096) (h : n % 2 = 0) : Calls Tryz.prog 29 #[.slice (some ⟨T, 0, none⟩) n n, l, r] W (Tree W none) := by
  have ht : ((n : Int)).tmod 2 = 0 := by rw [Int.tmod_eq_emod_of_nonneg (by omega)]; omega
  go_enter Tryz.func29, Tryz.ntmps29
  go_wp2_with fail
  refine bodyPost_ret (v := mvNil.val) (by simp [results, Tryz.results29, go_sem, MV.val, mvNil]) rfl ⟨_, rfl, ?_, rfl⟩
  exact (Below.refl _ _).alloc (Nat.le_refl _) _

def okAt (tk : Nat → TK) (op : Nat → Int) (j : Nat) : Prop := op (2 * j + 1) ≠ 0 ∧ (op (2 * j + 1) ≤ 2 → spaced tk (2 * j + 1) = true)

set_option maxHeartbeats 4000000 in
set_option maxRecDepth 100000 in
theorem sum_bad (W : World) (T R n m : Nat) (l : Value) (tk : Nat → TK) (op : Nat → Int) (hn : n ≤ 4096) (hm : n = 2 * m + 1) (ht : Toks W T n tk) (ho : ∀ i, i < n → W.cell? ⟨R, i, none⟩ = some (.int .i64 (op i)))
    (hbad : ∃ j, j < m ∧ ¬ okAt tk op j) : Calls Tryz.prog 29 #[.slice (some ⟨T, 0, none⟩) n n, l, .slice (some ⟨R, 0, none⟩) n n] W (Tree W none) := by
  have htm : ((n : Int)).tmod 2 = 1 := by rw [Int.tmod_eq_emod_of_nonneg (by omega)]; omega
  have HM := Lib.hid hm
  have HT := Lib.hid (ht.below ((Below.refl W.heap.size W).alloc (Nat.le_refl _) (.cells #[.int .i64 0, .string ⟨#[]⟩, .float .f64 0, .int .u8 0, .string ⟨#[]⟩, .int .u8 0, .bool false, .slice none 0 0] 48)))
  have HO := Lib.hid ho
  have HB := Lib.hid hbad
  clear ht ho hbad hm
  go_enter Tryz.func29, Tryz.ntmps29
  go_wp2_with fail
  go_loopw [8] (fun iv wr => ∃ j y : Nat, iv = .int .i64 y ∧ Hid (y = 2 * j + 1 ∧ j ≤ m ∧ ∀ i, i < j → okAt tk op i) ∧ wr = W.alloc (.cells #[.int .i64 0, .string ⟨#[]⟩, .float .f64 0, .int .u8 0, .string ⟨#[]⟩, .int .u8 0, .bool false, .slice none 0 0] 48)) (fun i _ => n + 2 - (intOf i).toNat)
  case atStart => exact ⟨0, 1, rfl, Lib.hid ⟨rfl, Nat.zero_le _, fun i hi => absurd hi (Nat.not_lt_zero _)⟩, rfl⟩
  case round =>
    obtain ⟨j, y, rfl, hj, rfl⟩ := hrel
    by_cases hjm : j < m
    · have hyn : (y : Int) < (n : Int) := by have h1 := hj.out.1; have h2 := HM.out; omega
      have hyn' : y + 1 < n := by have h1 := hj.out.1; have h2 := HM.out; omega
      have hy0 : 0 < y := by have h1 := hj.out.1; omega
      have co := HO.out y (by omega)
      have hR : R < W.heap.size := World.block_lt_of_cell? _ _ co
      have hsp := Lib.hid (spaced_any _ T n n y tk hn hy0 hyn' HT.out)
      obtain ⟨v, ev⟩ : ∃ v, v = op y := ⟨_, rfl⟩
      obtain ⟨b, eb⟩ : ∃ b, b = spaced tk y := ⟨_, rfl⟩
      rw [← ev] at co
      rw [← eb] at hsp
      have HV := Lib.hid (And.intro ev eb)
      clear ev eb
      by_cases hv0 : v = 0
      · subst hv0
        go_wp2_with fail
        refine bodyPost_ret (v := mvNil.val) (by simp [results, Tryz.results29, go_sem, MV.val, mvNil]) rfl ⟨_, rfl, ?_, rfl⟩
        exact (Below.refl _ _).alloc (Nat.le_refl _) _
      · have hv0' : (v == 0) = false := beq_eq_false_iff_ne.2 hv0
        by_cases hv2 : v ≤ 2
        · go_wp2_with fail
          refine hsp.out.mono ?_
          rintro e w' ⟨rfl, rfl⟩
          cases b with
          | false =>
            go_wp2_with fail
            refine bodyPost_ret (v := mvNil.val) (by simp [results, Tryz.results29, go_sem, MV.val, mvNil]) rfl ⟨_, rfl, ?_, rfl⟩
            exact (Below.refl _ _).alloc (Nat.le_refl _) _
          | true =>
            go_wp2_with fail
            go_roundw
            case rel => exact ⟨j + 1, y + 2, by go_num, Lib.hid ⟨by have := hj.out.1; omega, hjm, fun i hi => by
              rcases Nat.lt_or_ge i j with h | h
              · exact hj.out.2.2 i h
              · obtain rfl : i = j := by omega
                unfold okAt
                rw [← hj.out.1, ← HV.out.1, ← HV.out.2]
                exact ⟨hv0, fun _ => rfl⟩⟩, trivial⟩
            case measure => simp [intOf]; omega
        · go_wp2_with fail
          go_roundw
          case rel => exact ⟨j + 1, y + 2, by go_num, Lib.hid ⟨by have := hj.out.1; omega, hjm, fun i hi => by
            rcases Nat.lt_or_ge i j with h | h
            · exact hj.out.2.2 i h
            · obtain rfl : i = j := by omega
              unfold okAt
              rw [← hj.out.1, ← HV.out.1, ← HV.out.2]
              exact ⟨hv0, fun h => absurd h hv2⟩⟩, trivial⟩
          case measure => simp [intOf]; omega
    · exfalso
      obtain ⟨i, hi, hb⟩ := HB.out
      exact hb (hj.out.2.2 i (by omega))
end Go.Proofs.YthbfppnegodpoaaGreatDoor
