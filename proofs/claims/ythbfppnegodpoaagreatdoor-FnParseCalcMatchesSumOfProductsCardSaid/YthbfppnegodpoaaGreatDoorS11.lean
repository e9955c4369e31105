/-
  The rows that the law FnParseCalcMatchesSumOfProducts makes; the plain law; the law, walked.
-/
import Derived.Test.YthbfppnegodpoaaGreatDoorS9
import Derived.Test.YthbfppnegodpoaaGreatDoorK5
import Derived.OpenShut
namespace Go.Proofs.YthbfppnegodpoaaGreatDoor
open Go.RowKit Go.Deep Go.PlainAid

/-- The token of a place. -/
def sTok (zs : List Int) (i : Nat) : TK := if i % 2 = 0 then opdTok (zs.getD i 0) else oprTok (zs.getD i 0)
/-- The operator's number at a place. -/
def sOp (zs : List Int) (i : Nat) : Int := if i % 2 = 0 then 0 else oprN (zs.getD i 0)

def TRow (w : World) (T n : Nat) (tk : Nat → TK) (i : Nat) : Prop := ∃ f : Nat → Value, w.rowIs T 32 (n * 7) f ∧ ∀ j, j < i → ∀ k, k < 7 → f (j * 7 + k) = (tk j).vals.getD k .nilIface
theorem TRow.isCell {w : World} {T n : Nat} {tk : Nat → TK} {i : Nat} (h : TRow w T n tk i) (j : Nat) (hj : j < n * 7) : ∃ x, w.cell? ⟨T, j, none⟩ = some x := by
  obtain ⟨f, h1, _⟩ := h
  exact ⟨_, h1.cell hj⟩
theorem TRow.fz {w : World} {T n : Nat} {tk : Nat → TK} {i : Nat} (h : TRow w T n tk i) (j : Nat) : w.frozen? ⟨T, j, none⟩ = false := by
  obtain ⟨f, h1, _⟩ := h
  exact h1.frozen j
theorem TRow.lt {w : World} {T n : Nat} {tk : Nat → TK} {i : Nat} (h : TRow w T n tk i) : T < w.heap.size := by
  obtain ⟨f, h1, _⟩ := h
  exact h1.lt
theorem TRow.of_block {w w' : World} {T n : Nat} {tk : Nat → TK} {i : Nat} (h : TRow w T n tk i) (e : w'.heap[T]? = w.heap[T]?) : TRow w' T n tk i := by
  obtain ⟨f, h1, h2⟩ := h
  exact ⟨f, h1.of_block e, h2⟩
theorem TRow.step {w : World} {T n : Nat} {tk : Nat → TK} {i : Nat} (h : TRow w T n tk i) {t : TK} (et : t = tk i) : TRow (put7 w T (i * 7) t) T n tk (i + 1) := by
  subst et
  obtain ⟨f, h1, h2⟩ := h
  refine ⟨_, ((((((h1.set (i * 7) _).set (i * 7 + 1) _).set (i * 7 + 2) _).set (i * 7 + 3) _).set (i * 7 + 4) _).set (i * 7 + 5) _).set (i * 7 + 6) _, fun j hj k hk => ?_⟩
  by_cases e : j = i
  · subst e
    match k, hk with
    | 0, _ => simp [TK.vals]
    | 1, _ => simp [TK.vals]
    | 2, _ => simp [TK.vals]
    | 3, _ => simp [TK.vals]
    | 4, _ => simp [TK.vals]
    | 5, _ => simp [TK.vals]
    | 6, _ => simp [TK.vals]
  · rw [← h2 j (by omega) k hk]
    rw [if_neg (by omega), if_neg (by omega), if_neg (by omega), if_neg (by omega), if_neg (by omega), if_neg (by omega), if_neg (by omega)]
theorem TRow.toks {w : World} {T n : Nat} {tk : Nat → TK} (h : TRow w T n tk n) : Toks w T n tk := fun j hj => by
  obtain ⟨f, h1, h2⟩ := h
  have h3 := h2 j hj
  have hc : ∀ k, k < 7 → w.cell? ⟨T, j * 7 + k, none⟩ = some ((tk j).vals.getD k .nilIface) := fun k hk => by rw [h1.cell (by omega), h3 k hk]
  exact ⟨hc 0 (by omega), hc 1 (by omega), hc 2 (by omega), hc 3 (by omega), hc 4 (by omega), hc 5 (by omega), hc 6 (by omega)⟩
theorem TRow.made (W : World) (n : Nat) (tk : Nat → TK) : TRow (W.alloc (.cells (madeCells #[.pointer none, .string ⟨#[]⟩, .int .i32 0, .int .u32 0, .int .u16 0, .int .u8 0, .int .u8 0] (n * 7)) 32)) W.heap.size n tk 0 := by
  obtain ⟨f, chs, h1, _⟩ := filled_made W n []
  exact ⟨f, h1, fun j hj => absurd hj (Nat.not_lt_zero _)⟩

def NRow (w : World) (L n : Nat) (zs : List Int) (i : Nat) : Prop := ∃ (f : Nat → Value) (mf : Nat → MV), w.rowIs L 48 (n * 8) f ∧ ∀ j, j < i → j % 2 = 0 → (f (j * 8) = .int .i64 (mf j).tag ∧ f (j * 8 + 1) = .string (mf j).unit ∧ f (j * 8 + 2) = .float .f64 (mf j).num ∧ f (j * 8 + 3) = .int .u8 (mf j).kind ∧
    f (j * 8 + 4) = .string (mf j).text ∧ f (j * 8 + 5) = .int .u8 (mf j).ws ∧ f (j * 8 + 6) = .bool (mf j).inv ∧ f (j * 8 + 7) = (mf j).kids) ∧ ∀ W D, Mir W D (mf j) (opdT (zs.getD j 0))
theorem NRow.isCell {w : World} {L n : Nat} {zs : List Int} {i : Nat} (h : NRow w L n zs i) (j : Nat) (hj : j < n * 8) : ∃ x, w.cell? ⟨L, j, none⟩ = some x := by
  obtain ⟨f, _, h1, _⟩ := h
  exact ⟨_, h1.cell hj⟩
theorem NRow.fz {w : World} {L n : Nat} {zs : List Int} {i : Nat} (h : NRow w L n zs i) (j : Nat) : w.frozen? ⟨L, j, none⟩ = false := by
  obtain ⟨f, _, h1, _⟩ := h
  exact h1.frozen j
theorem NRow.lt {w : World} {L n : Nat} {zs : List Int} {i : Nat} (h : NRow w L n zs i) : L < w.heap.size := by
  obtain ⟨f, _, h1, _⟩ := h
  exact h1.lt
theorem NRow.of_block {w w' : World} {L n : Nat} {zs : List Int} {i : Nat} (h : NRow w L n zs i) (e : w'.heap[L]? = w.heap[L]?) : NRow w' L n zs i := by
  obtain ⟨f, mf, h1, h2⟩ := h
  exact ⟨f, mf, h1.of_block e, h2⟩
theorem NRow.odd {w : World} {L n : Nat} {zs : List Int} {i : Nat} (h : NRow w L n zs i) (hi : i % 2 = 1) : NRow w L n zs (i + 1) := by
  obtain ⟨f, mf, h1, h2⟩ := h
  exact ⟨f, mf, h1, fun j hj h0 => h2 j (by omega) h0⟩
theorem NRow.step {w : World} {L n : Nat} {zs : List Int} {i : Nat} (h : NRow w L n zs i) {m : MV} (hm : ∀ W D, Mir W D m (opdT (zs.getD i 0))) : NRow (put8 w L (i * 8) m) L n zs (i + 1) := by
  obtain ⟨f, mf, h1, h2⟩ := h
  refine ⟨_, fun j => if j = i then m else mf j, (((((((h1.set (i * 8) _).set (i * 8 + 1) _).set (i * 8 + 2) _).set (i * 8 + 3) _).set (i * 8 + 4) _).set (i * 8 + 5) _).set (i * 8 + 6) _).set (i * 8 + 7) _, fun j hj h0 => ?_⟩
  by_cases e : j = i
  · subst e
    dsimp only
    have em : (if j = j then m else mf j) = m := if_pos rfl
    rw [em]
    exact ⟨⟨by simp, by simp, by simp, by simp, by simp, by simp, by simp, by simp⟩, hm⟩
  · dsimp only
    rw [if_neg e]
    obtain ⟨⟨a0, a1, a2, a3, a4, a5, a6, a7⟩, a8⟩ := h2 j (by omega) h0
    refine ⟨⟨?_, ?_, ?_, ?_, ?_, ?_, ?_, ?_⟩, a8⟩
    · rw [if_neg (by omega), if_neg (by omega), if_neg (by omega), if_neg (by omega), if_neg (by omega), if_neg (by omega), if_neg (by omega), if_neg (by omega)]; exact a0
    · rw [if_neg (by omega), if_neg (by omega), if_neg (by omega), if_neg (by omega), if_neg (by omega), if_neg (by omega), if_neg (by omega), if_neg (by omega)]; exact a1
    · rw [if_neg (by omega), if_neg (by omega), if_neg (by omega), if_neg (by omega), if_neg (by omega), if_neg (by omega), if_neg (by omega), if_neg (by omega)]; exact a2
    · rw [if_neg (by omega), if_neg (by omega), if_neg (by omega), if_neg (by omega), if_neg (by omega), if_neg (by omega), if_neg (by omega), if_neg (by omega)]; exact a3
    · rw [if_neg (by omega), if_neg (by omega), if_neg (by omega), if_neg (by omega), if_neg (by omega), if_neg (by omega), if_neg (by omega), if_neg (by omega)]; exact a4
    · rw [if_neg (by omega), if_neg (by omega), if_neg (by omega), if_neg (by omega), if_neg (by omega), if_neg (by omega), if_neg (by omega), if_neg (by omega)]; exact a5
    · rw [if_neg (by omega), if_neg (by omega), if_neg (by omega), if_neg (by omega), if_neg (by omega), if_neg (by omega), if_neg (by omega), if_neg (by omega)]; exact a6
    · rw [if_neg (by omega), if_neg (by omega), if_neg (by omega), if_neg (by omega), if_neg (by omega), if_neg (by omega), if_neg (by omega), if_neg (by omega)]; exact a7
theorem NRow.at {w : World} {L n : Nat} {zs : List Int} (h : NRow w L n zs n) : ∃ mf : Nat → MV, ∀ j, 2 * j < n → MVAt w L (2 * j * 8) (mf (2 * j)) ∧ ∀ W D, Mir W D (mf (2 * j)) (opdT (zs.getD (2 * j) 0)) := by
  obtain ⟨f, mf, h1, h2⟩ := h
  refine ⟨mf, fun j hj => ?_⟩
  obtain ⟨⟨a0, a1, a2, a3, a4, a5, a6, a7⟩, a8⟩ := h2 (2 * j) hj (by omega)
  exact ⟨⟨by rw [h1.cell (by omega), a0], by rw [h1.cell (by omega), a1], by rw [h1.cell (by omega), a2], by rw [h1.cell (by omega), a3], by rw [h1.cell (by omega), a4], by rw [h1.cell (by omega), a5], by rw [h1.cell (by omega), a6], by rw [h1.cell (by omega), a7]⟩, a8⟩
theorem NRow.made (W : World) (n : Nat) (zs : List Int) : NRow (W.alloc (.cells (madeCells zero48 (n * 8)) 48)) W.heap.size n zs 0 := by
  obtain ⟨f, ms, h1, _⟩ := kids_made W n (fun _ => dT)
  exact ⟨f, ms, h1, fun j hj => absurd hj (Nat.not_lt_zero _)⟩

/-- The operators' numbers, the first i made. -/
def ORow (w : World) (R n : Nat) (zs : List Int) (i : Nat) : Prop := w.rowIs R 3 n (fun j => .int .i64 (if j < i then sOp zs j else 0))
theorem ORow.made (W : World) (n : Nat) (zs : List Int) : ORow (W.alloc (.cells (madeCells #[.int .i64 0] n) 3)) W.heap.size n zs 0 :=
  (World.rowIs_made W (.int .i64 0) n 3).congr (fun j _ => by rw [if_neg (Nat.not_lt_zero _)])
theorem ORow.even {w : World} {R n : Nat} {zs : List Int} {i : Nat} (h : ORow w R n zs i) (hi : i % 2 = 0) : ORow w R n zs (i + 1) := by
  refine h.congr (fun j _ => ?_)
  by_cases e : j = i
  · subst e
    rw [if_neg (Nat.lt_irrefl _), if_pos (Nat.lt_succ_self _)]
    unfold sOp
    rw [if_pos hi]
  · by_cases h1 : j < i
    · rw [if_pos h1, if_pos (by omega)]
    · rw [if_neg h1, if_neg (by omega)]
theorem ORow.step {w : World} {R n : Nat} {zs : List Int} {i : Nat} (h : ORow w R n zs i) (hi : i % 2 = 1) {v : Int} (hv : v = oprN (zs.getD i 0)) : ORow (w.setCell ⟨R, i, none⟩ (.int .i64 v)) R n zs (i + 1) := by
  subst hv
  refine (h.set i _).congr (fun j _ => ?_)
  by_cases e : j = i
  · subst e
    rw [if_pos rfl, if_pos (Nat.lt_succ_self _)]
    unfold sOp
    rw [if_neg (by omega)]
  · rw [if_neg e]
    by_cases h1 : j < i
    · rw [if_pos h1, if_pos (by omega)]
    · rw [if_neg h1, if_neg (by omega)]
theorem ORow.at {w : World} {R n : Nat} {zs : List Int} (h : ORow w R n zs n) : ∀ i, i < n → w.cell? ⟨R, i, none⟩ = some (.int .i64 (sOp zs i)) := fun i hi => by
  rw [h.cell hi, if_pos hi]
theorem make_ops (n : Nat) (hn : n ≤ 8192) (W : World) : (Instr.makeSlice 60 (.int .i64 (n : Int)) (.int .i64 (n : Int))).run Tryz.prog W = .ok (.slice (some ⟨W.heap.size, 0, none⟩) n n) (W.alloc (.cells (madeCells #[.int .i64 0] n) 3)) := by
  have hi : (Tryz.prog.info? 3).map (fun i => (i.zero, i.size, i.bytes)) = some (some (.int .i64 0), 1, 8) := by kernel_rfl
  have h := make_row (P := Tryz.prog) 60 3 _ 1 8 Tryz.underlying60 hi .i64 .i64 n (by omega) (by omega) W
  rw [Nat.mul_one] at h
  exact h

/-! The plain law: what the parse makes of these tokens. -/
/-- The pairs behind the first operand. -/
def sP (zs : List Int) (m : Nat) (bad : Nat → Bool) : List (CT × CT) := (List.range m).map fun j => (oprT (zs.getD (2 * j + 1) 0) (bad (2 * j + 1)), opdT (zs.getD (2 * j + 2) 0))
theorem sP_len (zs : List Int) (m : Nat) (bad : Nat → Bool) : (sP zs m bad).length = m := by unfold sP; simp
theorem sP_at (zs : List Int) (m : Nat) (bad : Nat → Bool) (j : Nat) (hj : j < m) : (sP zs m bad).getD j dP = (oprT (zs.getD (2 * j + 1) 0) (bad (2 * j + 1)), opdT (zs.getD (2 * j + 2) 0)) := by
  unfold sP
  rw [List.getD_eq_getElem?_getD, List.getElem?_map, List.getElem?_range hj]
  rfl
theorem opr_ops (c : Int) (bad : Bool) : mulOp (oprT c bad) = decide (3 ≤ oprN c) ∧ isDiv (oprT c bad) = (oprN c == 4) ∧ isSub (oprT c bad) = (oprN c == 2) ∧ addOp (oprT c bad) = (!bad && decide (1 ≤ oprN c ∧ oprN c ≤ 2)) ∧ (((oprTok c).kd == 23 || (oprTok c).kd == 22) = decide (1 ≤ oprN c ∧ oprN c ≤ 2)) ∧ (0 ≤ oprN c ∧ oprN c ≤ 4) := by
  have key : ∀ (kd v : Int) (x : ByteArray), oprTok c = ⟨none, x, kd, ws2 c⟩ → oprN c = v → (∀ bad, mulOp (.val kd x (ws2 c) bad) = decide (3 ≤ v) ∧ isDiv (.val kd x (ws2 c) bad) = (v == 4) ∧ isSub (.val kd x (ws2 c) bad) = (v == 2) ∧ addOp (.val kd x (ws2 c) bad) = (!bad && decide (1 ≤ v ∧ v ≤ 2)) ∧ ((kd == 23 || kd == 22) = decide (1 ≤ v ∧ v ≤ 2)) ∧ (0 ≤ v ∧ v ≤ 4)) →
      mulOp (oprT c bad) = decide (3 ≤ oprN c) ∧ isDiv (oprT c bad) = (oprN c == 4) ∧ isSub (oprT c bad) = (oprN c == 2) ∧ addOp (oprT c bad) = (!bad && decide (1 ≤ oprN c ∧ oprN c ≤ 2)) ∧ (((oprTok c).kd == 23 || (oprTok c).kd == 22) = decide (1 ≤ oprN c ∧ oprN c ≤ 2)) ∧ (0 ≤ oprN c ∧ oprN c ≤ 4) := fun kd v x e1 e2 h => by
    unfold oprT
    rw [e1, e2]
    exact h bad
  by_cases h0 : opdK c = 0
  · exact key 23 1 _ (by unfold oprTok; rw [if_pos h0]) (by unfold oprN; rw [if_pos h0]) (fun bad => by cases bad <;> exact ⟨rfl, rfl, rfl, rfl, rfl, by omega, by omega⟩)
  by_cases h1 : opdK c = 1
  · exact key 22 2 _ (by unfold oprTok; rw [if_neg h0, if_pos h1]) (by unfold oprN; rw [if_neg h0, if_pos h1]) (fun bad => by cases bad <;> exact ⟨rfl, rfl, rfl, rfl, rfl, by omega, by omega⟩)
  by_cases h2 : opdK c = 2
  · exact key 13 3 _ (by unfold oprTok; rw [if_neg h0, if_neg h1, if_pos h2]) (by unfold oprN; rw [if_neg h0, if_neg h1, if_pos h2]) (fun bad => by cases bad <;> exact ⟨rfl, rfl, rfl, rfl, rfl, by omega, by omega⟩)
  by_cases h3 : opdK c = 3
  · exact key 24 4 _ (by unfold oprTok; rw [if_neg h0, if_neg h1, if_neg h2, if_pos h3]) (by unfold oprN; rw [if_neg h0, if_neg h1, if_neg h2, if_pos h3]) (fun bad => by cases bad <;> exact ⟨rfl, rfl, rfl, rfl, rfl, by omega, by omega⟩)
  exact key 29 0 _ (by unfold oprTok; rw [if_neg h0, if_neg h1, if_neg h2, if_neg h3]) (by unfold oprN; rw [if_neg h0, if_neg h1, if_neg h2, if_neg h3]) (fun bad => by cases bad <;> exact ⟨rfl, rfl, rfl, rfl, rfl, by omega, by omega⟩)

theorem sP_told (zs : List Int) (m : Nat) (bad : Nat → Bool) : Told (opdT (zs.getD 0 0)) (sP zs m bad) (fun i => opdT (zs.getD i 0)) (sOp zs) := by
  have hop : ∀ j, sOp zs (2 * j + 1) = oprN (zs.getD (2 * j + 1) 0) := fun j => by unfold sOp; rw [if_neg (by omega)]
  refine ⟨fun j hj => ?_, fun j hj => ?_, fun j hj => ?_, fun j hj => ?_⟩
  · rw [sP_len] at hj
    rw [sP_at zs m bad j hj, hop]
    exact (opr_ops _ _).1
  · rw [sP_len] at hj
    rw [sP_at zs m bad j hj, hop]
    exact (opr_ops _ _).2.1
  · rw [sP_len] at hj
    rw [sP_at zs m bad j hj, hop]
    exact (opr_ops _ _).2.2.1
  · rw [sP_len] at hj
    unfold leafOf
    cases j with
    | zero => rfl
    | succ j =>
      rw [if_neg (by omega), Nat.add_sub_cancel, sP_at zs m bad j (by omega)]
      rfl

/-- The tree of a place. -/
def sLf (zs : List Int) (bad : Nat → Bool) (i : Nat) : Option CT := some (if i % 2 = 0 then opdT (zs.getD i 0) else oprT (zs.getD i 0) (bad i))

theorem flat_at (zs : List Int) (bad : Nat → Bool) (m i : Nat) (hi : i < 2 * m + 1) : sLf zs bad i = some ((opdT (zs.getD 0 0) :: flat (sP zs m bad)).getD i dT) := by
  unfold sLf
  congr 1
  rcases Nat.mod_two_eq_zero_or_one i with h | h
  · rw [if_pos h]
    obtain ⟨j, rfl⟩ : ∃ j, i = 2 * j := ⟨i / 2, by omega⟩
    cases j with
    | zero => rfl
    | succ j =>
      rw [show 2 * (j + 1) = (2 * j + 1) + 1 by omega, List.getD_cons_succ, flat_odd, sP_at zs m bad j (by omega)]
  · rw [if_neg (by omega)]
    obtain ⟨j, rfl⟩ : ∃ j, i = 2 * j + 1 := ⟨i / 2, by omega⟩
    rw [List.getD_cons_succ, flat_even, sP_at zs m bad j (by omega)]

/-- The plain law. -/
theorem parse_sum (zs : List Int) (m n : Nat) (hn : n = 2 * m + 1) (tk : Nat → TK) (htk : tk = sTok zs) :
    ((∀ j, j < m → okAt tk (sOp zs) j) → parseOf n (sLf zs (badAt tk n)) = some (sumOf (terms (opdT (zs.getD 0 0)) (sP zs m (badAt tk n)) 0))) ∧
    ((∃ j, j < m ∧ ¬ okAt tk (sOp zs) j) → parseOf n (sLf zs (badAt tk n)) = none) := by
  have hlen : (opdT (zs.getD 0 0) :: flat (sP zs m (badAt tk n))).length = n := by rw [List.length_cons, flat_len, sP_len]; omega
  rw [parse_all hlen (fun j hj => flat_at zs (badAt tk n) m j (by omega))]
  have hmem : ∀ p, p ∈ sP zs m (badAt tk n) ↔ ∃ j, j < m ∧ (oprT (zs.getD (2 * j + 1) 0) (badAt tk n (2 * j + 1)), opdT (zs.getD (2 * j + 2) 0)) = p := fun p => by
    unfold sP
    rw [List.mem_map]
    simp only [List.mem_range]
  have h := parsed_terms (opdT (zs.getD 0 0)) (sP zs m (badAt tk n)) (fun p hp => by
    obtain ⟨j, _, rfl⟩ := (hmem p).1 hp
    exact (opd_no _).1) (fun p hp => by
    obtain ⟨j, _, rfl⟩ := (hmem p).1 hp
    exact (opd_no _).2.1)
  have hok : ∀ j, j < m → (okAt tk (sOp zs) j ↔ (mulOp (oprT (zs.getD (2 * j + 1) 0) (badAt tk n (2 * j + 1))) = true ∨ addOp (oprT (zs.getD (2 * j + 1) 0) (badAt tk n (2 * j + 1))) = true)) := fun j hj => by
    obtain ⟨o1, o2, o3, o4, o5, o6⟩ := opr_ops (zs.getD (2 * j + 1) 0) (badAt tk n (2 * j + 1))
    have hop : sOp zs (2 * j + 1) = oprN (zs.getD (2 * j + 1) 0) := by unfold sOp; rw [if_neg (by omega)]
    have htj : tk (2 * j + 1) = oprTok (zs.getD (2 * j + 1) 0) := by rw [htk]; unfold sTok; rw [if_neg (by omega)]
    have hbad : badAt tk n (2 * j + 1) = (decide (1 ≤ oprN (zs.getD (2 * j + 1) 0) ∧ oprN (zs.getD (2 * j + 1) 0) ≤ 2) && !spaced tk (2 * j + 1)) := by
      unfold badAt spaced
      rw [htj, o5, show decide (0 < 2 * j + 1) = true by simp, show decide (2 * j + 1 + 1 < n) = true by simp; omega]
      simp only [bne, Bool.true_and]
      generalize (bits .and .u8 (oprTok (zs.getD (2 * j + 1) 0)).ws 1 == 0) = a
      generalize (bits .and .u8 (tk (2 * j + 1 - 1)).ws 2 == 0) = b
      generalize (bits .and .u8 (oprTok (zs.getD (2 * j + 1) 0)).ws 2 == 0) = c
      generalize (bits .and .u8 (tk (2 * j + 1 + 1)).ws 1 == 0) = d
      cases a <;> cases b <;> cases c <;> cases d <;> simp
    unfold okAt
    rw [o1, o4, hop, hbad]
    generalize spaced tk (2 * j + 1) = sp
    obtain ⟨p1, p2⟩ := o6
    generalize oprN (zs.getD (2 * j + 1) 0) = v at p1 p2
    by_cases h0 : v = 0
    · subst h0; simp
    · by_cases h3 : 3 ≤ v
      · have : ¬ v ≤ 2 := by omega
        simp [h0, h3, this]
      · have q1 : 1 ≤ v := by omega
        have q2 : v ≤ 2 := by omega
        cases sp <;> simp [h0, h3, q1, q2]
  constructor
  · intro ha
    exact h.1 (fun p hp => by
      obtain ⟨j, hj, rfl⟩ := (hmem p).1 hp
      exact (hok j hj).1 (ha j hj))
  · rintro ⟨j, hj, hn⟩
    exact h.2 (fun hall => hn ((hok j hj).2 (hall _ ((hmem _).2 ⟨j, hj, rfl⟩))))

theorem bad_even (zs : List Int) (n i : Nat) (h : i % 2 = 0) : badAt (sTok zs) n i = false := by
  have e : sTok zs i = opdTok (zs.getD i 0) := by unfold sTok; rw [if_pos h]
  unfold badAt
  rw [e, (opd_no _).2.2]
  simp

theorem sum_leaf {w : World} (hE : Env w) (zs : List Int) (n i : Nat) (hz : 0 ≤ zs.getD i 0 ∧ zs.getD i 0 ≤ 65535) : LeafOk w (sTok zs i) (badAt (sTok zs) n i) (sLf zs (badAt (sTok zs) n) i) := by
  rcases Nat.mod_two_eq_zero_or_one i with h | h
  · rw [bad_even zs n i h]
    unfold sTok sLf
    rw [if_pos h, if_pos h]
    exact opd_leaf hE _ hz.1 hz.2
  · unfold sLf
    have e : sTok zs i = oprTok (zs.getD i 0) := by unfold sTok; rw [if_neg (by omega)]
    rw [e, if_neg (by omega)]
    exact opr_leaf hE _ _

theorem put7_other (w : World) (T o : Nat) (t : TK) (b : Nat) (h : b ≠ T) : (put7 w T o t).heap[b]? = w.heap[b]? := by
  unfold put7
  rw [Below.heap_setCell _ _ _ _ h, Below.heap_setCell _ _ _ _ h, Below.heap_setCell _ _ _ _ h, Below.heap_setCell _ _ _ _ h, Below.heap_setCell _ _ _ _ h, Below.heap_setCell _ _ _ _ h, Below.heap_setCell _ _ _ _ h]

theorem ORow.ofBlock {w w' : World} {R n : Nat} {zs : List Int} {i : Nat} (h : ORow w R n zs i) (e : w'.heap[R]? = w.heap[R]?) : ORow w' R n zs i := World.rowIs.of_block h e
theorem even_step {W w2 W3 : World} {A n j : Nat} {zs : List Int} {z : Int} {m : MV} (hT : TRow w2 A n (sTok zs) j) (hN : NRow w2 (A + 1) n zs j) (hO : ORow w2 (A + 1 + 1) n zs j) (hb : Below A W w2) (h3 : Below w2.heap.size w2 W3) (hA : A ≤ w2.heap.size) (ez : z = zs.getD j 0) (hp : j % 2 = 0) (hm : ∀ W D, Mir W D m (opdT z)) :
    TRow (put8 (put7 W3 A (j * 7) (opdTok z)) (A + 1) (j * 8) m) A n (sTok zs) (j + 1) ∧ NRow (put8 (put7 W3 A (j * 7) (opdTok z)) (A + 1) (j * 8) m) (A + 1) n zs (j + 1) ∧ ORow (put8 (put7 W3 A (j * 7) (opdTok z)) (A + 1) (j * 8) m) (A + 1 + 1) n zs (j + 1) ∧ Below A W (put8 (put7 W3 A (j * 7) (opdTok z)) (A + 1) (j * 8) m) := by
  subst ez
  have e : opdTok (zs.getD j 0) = sTok zs j := by unfold sTok; rw [if_pos hp]
  refine ⟨((hT.of_block (h3.block A hT.lt)).step e).of_block (put8_other _ (A + 1) _ _ A (by omega)), ((hN.of_block (h3.block _ hN.lt)).of_block (put7_other _ A _ _ (A + 1) (by omega))).step hm,
    ((hO.ofBlock (h3.block _ hO.lt)).ofBlock ((put8_other _ (A + 1) _ _ (A + 1 + 1) (by omega)).trans (put7_other _ A _ _ (A + 1 + 1) (by omega)))).even hp, put8_below (put7_below (hb.trans (h3.mono hA)) _ _ _ (Nat.le_refl _)) _ _ _ (by omega)⟩

theorem odd_step {W w2 W3 : World} {A n j : Nat} {zs : List Int} {z : Int} (hT : TRow w2 A n (sTok zs) j) (hN : NRow w2 (A + 1) n zs j) (hO : ORow w2 (A + 1 + 1) n zs j) (hb : Below A W w2) (h3 : Below w2.heap.size w2 W3) (hA : A ≤ w2.heap.size) (ez : z = zs.getD j 0) (hp : j % 2 = 1) :
    TRow ((put7 W3 A (j * 7) (oprTok z)).setCell ⟨A + 1 + 1, j, none⟩ (.int .i64 (oprN z))) A n (sTok zs) (j + 1) ∧ NRow ((put7 W3 A (j * 7) (oprTok z)).setCell ⟨A + 1 + 1, j, none⟩ (.int .i64 (oprN z))) (A + 1) n zs (j + 1) ∧ ORow ((put7 W3 A (j * 7) (oprTok z)).setCell ⟨A + 1 + 1, j, none⟩ (.int .i64 (oprN z))) (A + 1 + 1) n zs (j + 1) ∧ Below A W ((put7 W3 A (j * 7) (oprTok z)).setCell ⟨A + 1 + 1, j, none⟩ (.int .i64 (oprN z))) := by
  subst ez
  have e : oprTok (zs.getD j 0) = sTok zs j := by unfold sTok; rw [if_neg (by omega)]
  refine ⟨((hT.of_block (h3.block A hT.lt)).step e).of_block (Below.heap_setCell _ _ _ _ (by show A ≠ A + 1 + 1; omega)), (((hN.of_block (h3.block _ hN.lt)).of_block (put7_other _ A _ _ (A + 1) (by omega))).odd hp).of_block (Below.heap_setCell _ _ _ _ (by show A + 1 ≠ A + 1 + 1; omega)),
    ((hO.ofBlock (h3.block _ hO.lt)).ofBlock (put7_other _ A _ _ (A + 1 + 1) (by omega))).step hp rfl, (put7_below (hb.trans (h3.mono hA)) _ _ _ (Nat.le_refl _)).setCell (by show A ≤ A + 1 + 1; omega) _⟩

theorem put7_alloc (w : World) (o : Obj) (T k : Nat) (m : TK) (h : T < w.heap.size) : put7 (w.alloc o) T k m = (put7 w T k m).alloc o := by
  unfold put7
  rw [World.setCell_alloc_past _ _ _ _ h, World.setCell_alloc_past _ _ _ _ (by simpa only [World.size_setCell] using h), World.setCell_alloc_past _ _ _ _ (by simpa only [World.size_setCell] using h), World.setCell_alloc_past _ _ _ _ (by simpa only [World.size_setCell] using h),
    World.setCell_alloc_past _ _ _ _ (by simpa only [World.size_setCell] using h), World.setCell_alloc_past _ _ _ _ (by simpa only [World.size_setCell] using h), World.setCell_alloc_past _ _ _ _ (by simpa only [World.size_setCell] using h)]

theorem even_alloc (w2 : World) (o1 o2 : Obj) (A j : Nat) (t : TK) (m : MV) (h1 : A + 1 < w2.heap.size) : put8 (put7 ((w2.alloc o1).alloc o2) A (j * 7) t) (A + 1) (j * 8) m = ((put8 (put7 w2 A (j * 7) t) (A + 1) (j * 8) m).alloc o1).alloc o2 := by
  rw [put7_alloc _ _ _ _ _ (by rw [World.size_alloc]; omega), put7_alloc _ _ _ _ _ (by omega), put8_alloc _ _ _ _ _ (by rw [World.size_alloc, put7_size]; omega), put8_alloc _ _ _ _ _ (by rw [put7_size]; omega)]
theorem odd_alloc (w2 : World) (o1 : Obj) (A j : Nat) (t : TK) (v : Value) (h1 : A + 1 + 1 < w2.heap.size) : (put7 (w2.alloc o1) A (j * 7) t).setCell ⟨A + 1 + 1, j, none⟩ v = ((put7 w2 A (j * 7) t).setCell ⟨A + 1 + 1, j, none⟩ v).alloc o1 := by
  rw [put7_alloc _ _ _ _ _ (by omega), World.setCell_alloc_past _ _ _ _ (by rw [put7_size]; exact h1)]

/-- Both answers. -/
theorem both_of {wr : World} {T L R n : Nat} {zs : List Int} (hn : n ≤ 4096) (hE : Env wr) (hz : ∀ i, i < n → 0 ≤ zs.getD i 0 ∧ zs.getD i 0 ≤ 65535) (hT : TRow wr T n (sTok zs) n) (hN : NRow wr L n zs n) (hO : ORow wr R n zs n) :
    ∃ o : Option CT, (∀ W', Below wr.heap.size wr W' → Calls Tryz.prog 17 #[.slice (some ⟨T, 0, none⟩) n n] W' (Tree W' o)) ∧
      ∀ W', Below wr.heap.size wr W' → Calls Tryz.prog 29 #[.slice (some ⟨T, 0, none⟩) n n, .slice (some ⟨L, 0, none⟩) n n, .slice (some ⟨R, 0, none⟩) n n] W' (Tree W' o) := by
  have ht := hT.toks
  obtain ⟨mf, hmf⟩ := hN.at
  have ho := hO.at
  refine ⟨parseOf n (sLf zs (badAt (sTok zs) n)), fun W' hb' => pct_all W' _ _ (fun W'' h => parse_any W'' T n n (sTok zs) _ hn (ht.below (hb'.trans (h.mono hb'.size))) (fun i hi => sum_leaf (hE.below (hb'.trans (h.mono hb'.size))) zs n i (hz i hi))), fun W' hb' => ?_⟩
  by_cases h2 : n % 2 = 0
  · rw [parse_even h2]
    exact sum_even W' T n _ _ hn h2
  · obtain ⟨m, hm⟩ : ∃ m, n = 2 * m + 1 := ⟨n / 2, by omega⟩
    have hp := parse_sum zs m n hm (sTok zs) rfl
    by_cases hok : ∀ j, j < m → okAt (sTok zs) (sOp zs) j
    · rw [hp.1 hok]
      exact sum_yes W' T L R n m (sTok zs) mf (fun i => opdT (zs.getD i 0)) (sOp zs) _ _ hn hm (sP_len _ _ _) (sP_told _ _ _) (ht.below hb')
        (fun j hj => (hmf j hj).1.keep (D := fun _ => True) trivial (Keeps.below hb')) (fun j hj => (hmf j hj).2) (fun i hi => cell_later hb' (ho i hi)) hok
    · have hbad : ∃ j, j < m ∧ ¬ okAt (sTok zs) (sOp zs) j := by
        obtain ⟨j, hj⟩ := Classical.not_forall.1 hok
        exact ⟨j, Classical.byContradiction fun h => hj fun h' => absurd h' h, fun h => hj fun _ => h⟩
      rw [hp.2 hbad]
      exact sum_bad W' T R n m _ (sTok zs) (sOp zs) hn hm (ht.below hb') (fun i hi => cell_later hb' (ho i hi)) hbad

set_option maxHeartbeats 8000000 in
set_option maxRecDepth 100000 in
theorem fnParseCalcMatchesSumOfProducts_walk (a : Option Addr) (cap : Nat) (zs : List Int) (W : World) (hz : Ints16 W a zs) (hE : Env W) :
    Calls Tryz.prog 7 #[.slice a zs.length cap] W fun e w' => e = .returned (.bool true) ∧ Below W.heap.size W w' := by
  obtain ⟨n, en⟩ : ∃ n, n = zs.length := ⟨_, rfl⟩
  rw [← en]
  by_cases hn : n ≤ 4096
  · have hmk := make_toks n (by omega)
    have hmk2 := make_kids n (by omega)
    have hmk3 := make_ops n (by omega)
    unfold zero48 at hmk2
    have h1 : ¬ (1048576 : Int) < (n : Int) := by omega
    have h2 : ¬ (4096 : Int) < (n : Int) := by omega
    have hT0 : TRow (((W.alloc (.cells (madeCells #[.pointer none, .string ⟨#[]⟩, .int .i32 0, .int .u32 0, .int .u16 0, .int .u8 0, .int .u8 0] (n * 7)) 32)).alloc (.cells (madeCells zero48 (n * 8)) 48)).alloc (.cells (madeCells #[.int .i64 0] n) 3)) W.heap.size n (sTok zs) 0 := by
      obtain ⟨f, g1, g2⟩ := TRow.made W n (sTok zs)
      exact ⟨f, (g1.alloc _).alloc _, g2⟩
    have hN0 : NRow (((W.alloc (.cells (madeCells #[.pointer none, .string ⟨#[]⟩, .int .i32 0, .int .u32 0, .int .u16 0, .int .u8 0, .int .u8 0] (n * 7)) 32)).alloc (.cells (madeCells zero48 (n * 8)) 48)).alloc (.cells (madeCells #[.int .i64 0] n) 3)) (W.heap.size + 1) n zs 0 := by
      obtain ⟨f, mf, g1, g2⟩ := NRow.made (W.alloc (.cells (madeCells #[.pointer none, .string ⟨#[]⟩, .int .i32 0, .int .u32 0, .int .u16 0, .int .u8 0, .int .u8 0] (n * 7)) 32)) n zs
      rw [World.size_alloc] at g1
      exact ⟨f, mf, g1.alloc _, g2⟩
    have hO0 : ORow (((W.alloc (.cells (madeCells #[.pointer none, .string ⟨#[]⟩, .int .i32 0, .int .u32 0, .int .u16 0, .int .u8 0, .int .u8 0] (n * 7)) 32)).alloc (.cells (madeCells zero48 (n * 8)) 48)).alloc (.cells (madeCells #[.int .i64 0] n) 3)) (W.heap.size + 1 + 1) n zs 0 := by
      have g1 := ORow.made ((W.alloc (.cells (madeCells #[.pointer none, .string ⟨#[]⟩, .int .i32 0, .int .u32 0, .int .u16 0, .int .u8 0, .int .u8 0] (n * 7)) 32)).alloc (.cells (madeCells zero48 (n * 8)) 48)) n zs
      rw [World.size_alloc, World.size_alloc] at g1
      exact g1
    have hB0 : Below W.heap.size W (((W.alloc (.cells (madeCells #[.pointer none, .string ⟨#[]⟩, .int .i32 0, .int .u32 0, .int .u16 0, .int .u8 0, .int .u8 0] (n * 7)) 32)).alloc (.cells (madeCells zero48 (n * 8)) 48)).alloc (.cells (madeCells #[.int .i64 0] n) 3)) :=
      (((Below.refl _ _).alloc (Nat.le_refl _) _).alloc (by rw [World.size_alloc]; omega) _).alloc (by rw [World.size_alloc, World.size_alloc]; omega) _
    unfold zero48 at hT0 hN0 hO0 hB0
    have H0 := Lib.hid (And.intro hT0 (And.intro hN0 (And.intro hO0 hB0)))
    clear hT0 hN0 hO0 hB0
    have HZ := Lib.hid hz
    have HE := Lib.hid hE
    have HN := Lib.hid en
    clear hz hE en
    go_enter Tryz.func7, Tryz.ntmps7
    go_wp2
    go_loopw [7] (fun i wr => ∃ j : Nat, j ≤ n ∧ i = .int .i64 j ∧ Hid (TRow wr W.heap.size n (sTok zs) j) ∧ Hid (NRow wr (W.heap.size + 1) n zs j) ∧ Hid (ORow wr (W.heap.size + 1 + 1) n zs j) ∧ Hid (Below W.heap.size W wr)) (fun i _ => n - (intOf i).toNat)
    case atStart => exact ⟨0, Nat.zero_le _, rfl, H0.out.1, H0.out.2.1, H0.out.2.2.1, H0.out.2.2.2⟩
    case round =>
      obtain ⟨j, hj, rfl, hT, hN, hO, hb⟩ := hrel
      clear hmk hmk2 hmk3 H0
      by_cases hlt : j < n
      · have hji : (j : Int) < (n : Int) := by omega
        obtain ⟨b, off, ea, hc, hc0, hc1⟩ := HZ.out j (by rw [← HN.out]; exact hlt)
        subst ea
        have c0 := cell_later hb.out hc
        have hbW : b < W.heap.size := World.block_lt_of_cell? _ _ hc
        obtain ⟨z, ez⟩ : ∃ z, z = zs.getD j 0 := ⟨_, rfl⟩
        rw [← ez] at hc c0 hc0 hc1
        have HCZ := Lib.hid ez
        clear ez hc
        have hne : b ≠ W.heap.size := fun e => by omega
        have hTl := hT.out.lt
        have hLl := hN.out.lt
        have hRl := hO.out.lt
        rcases Nat.mod_two_eq_zero_or_one j with hpar | hpar
        · have htm : ((j : Int)).tmod 2 = 0 := by rw [Int.tmod_eq_emod_of_nonneg (by omega)]; omega
          go_wp2_with fail
          refine (opd_any z _ hc0 hc1).mono ?_
          rintro e w2 ⟨m, rfl, hb2, hm⟩
          have HPAR := Lib.hid hpar
          obtain ⟨ka, kn, kc, ek⟩ := (hm w2 (fun _ => True)).kids
          obtain ⟨tag, un, nm, kd, tx, ws, bad, kids⟩ := m
          simp only at ek
          subst ek
          have hmv : (MV.val ⟨tag, un, nm, kd, tx, ws, bad, .slice ka kn kc⟩) = .agg #[.int .i64 tag, .string un, .float .f64 nm, .int .u8 kd, .string tx, .int .u8 ws, .bool bad, .slice ka kn kc] := rfl
          have hz2 := hb2.size
          have hT2 := hT.out.of_block (hb2.block W.heap.size hTl)
          have hN2 := hN.out.of_block (hb2.block (W.heap.size + 1) hLl)
          have hO2 : ORow w2 (W.heap.size + 1 + 1) n zs j := hO.out.of_block (hb2.block (W.heap.size + 1 + 1) hRl)
          obtain ⟨tv0, tc0⟩ := hT2.isCell (j * 7) (by omega)
          have tf0 := hT2.fz (j * 7)
          obtain ⟨tv1, tc1⟩ := hT2.isCell (j * 7 + 1) (by omega)
          have tf1 := hT2.fz (j * 7 + 1)
          obtain ⟨tv2, tc2⟩ := hT2.isCell (j * 7 + 2) (by omega)
          have tf2 := hT2.fz (j * 7 + 2)
          obtain ⟨tv3, tc3⟩ := hT2.isCell (j * 7 + 3) (by omega)
          have tf3 := hT2.fz (j * 7 + 3)
          obtain ⟨tv4, tc4⟩ := hT2.isCell (j * 7 + 4) (by omega)
          have tf4 := hT2.fz (j * 7 + 4)
          obtain ⟨tv5, tc5⟩ := hT2.isCell (j * 7 + 5) (by omega)
          have tf5 := hT2.fz (j * 7 + 5)
          obtain ⟨tv6, tc6⟩ := hT2.isCell (j * 7 + 6) (by omega)
          have tf6 := hT2.fz (j * 7 + 6)
          obtain ⟨lv0, lc0⟩ := hN2.isCell (j * 8) (by omega)
          have lf0 := hN2.fz (j * 8)
          obtain ⟨lv1, lc1⟩ := hN2.isCell (j * 8 + 1) (by omega)
          have lf1 := hN2.fz (j * 8 + 1)
          obtain ⟨lv2, lc2⟩ := hN2.isCell (j * 8 + 2) (by omega)
          have lf2 := hN2.fz (j * 8 + 2)
          obtain ⟨lv3, lc3⟩ := hN2.isCell (j * 8 + 3) (by omega)
          have lf3 := hN2.fz (j * 8 + 3)
          obtain ⟨lv4, lc4⟩ := hN2.isCell (j * 8 + 4) (by omega)
          have lf4 := hN2.fz (j * 8 + 4)
          obtain ⟨lv5, lc5⟩ := hN2.isCell (j * 8 + 5) (by omega)
          have lf5 := hN2.fz (j * 8 + 5)
          obtain ⟨lv6, lc6⟩ := hN2.isCell (j * 8 + 6) (by omega)
          have lf6 := hN2.fz (j * 8 + 6)
          obtain ⟨lv7, lc7⟩ := hN2.isCell (j * 8 + 7) (by omega)
          have lf7 := hN2.fz (j * 8 + 7)
          have b1 : W.heap.size < w2.heap.size := by omega
          have b2 : W.heap.size < w2.heap.size + 1 := by omega
          have b3 : W.heap.size + 1 < w2.heap.size := by omega
          have b4 : W.heap.size + 1 < w2.heap.size + 1 := by omega
          have hbb := hb.out.trans (hb2.mono hb.out.size)
          have HS := Lib.hid (fun (W3 : World) (h3 : Below w2.heap.size w2 W3) => even_step hT2 hN2 hO2 hbb h3 (by omega) HCZ.out HPAR.out hm)
          have hvs : (opdTok z).vals = #[.pointer (opdTok z).ch, .string (opdTok z).s, .int .i32 0, .int .u32 0, .int .u16 0, .int .u8 (opdTok z).kd, .int .u8 (opdTok z).ws] := rfl
          clear hb2 hT2 hN2 hO2 hm hbb hpar
          go_wp2_with fail
          have hfin := HS.out _ (((Below.refl w2.heap.size w2).alloc (Nat.le_refl _) (.cells #[.pointer (opdTok z).ch, .string (opdTok z).s, .int .i32 0, .int .u32 0, .int .u16 0, .int .u8 (opdTok z).kd, .int .u8 (opdTok z).ws] 32)).alloc (by rw [World.size_alloc]; omega) (.cells #[.int .i64 tag, .string un, .float .f64 nm, .int .u8 kd, .string tx, .int .u8 ws, .bool bad, .slice ka kn kc] 48))
          rw [even_alloc _ _ _ _ _ _ _ b3] at hfin
          refine ⟨⟨j + 1, by omega, by go_num, hfin.1, hfin.2.1, hfin.2.2.1, hfin.2.2.2⟩, ?_⟩
          simp [intOf]; omega
        · have htm : ((j : Int)).tmod 2 = 1 := by rw [Int.tmod_eq_emod_of_nonneg (by omega)]; omega
          go_wp2_with fail
          refine (opr_any z _).mono ?_
          rintro e w2 ⟨rfl, hb2⟩
          have HPAR := Lib.hid hpar
          have hz2 := hb2.size
          have hT2 := hT.out.of_block (hb2.block W.heap.size hTl)
          have hN2 := hN.out.of_block (hb2.block (W.heap.size + 1) hLl)
          have hO2 : ORow w2 (W.heap.size + 1 + 1) n zs j := hO.out.of_block (hb2.block (W.heap.size + 1 + 1) hRl)
          obtain ⟨tv0, tc0⟩ := hT2.isCell (j * 7) (by omega)
          have tf0 := hT2.fz (j * 7)
          obtain ⟨tv1, tc1⟩ := hT2.isCell (j * 7 + 1) (by omega)
          have tf1 := hT2.fz (j * 7 + 1)
          obtain ⟨tv2, tc2⟩ := hT2.isCell (j * 7 + 2) (by omega)
          have tf2 := hT2.fz (j * 7 + 2)
          obtain ⟨tv3, tc3⟩ := hT2.isCell (j * 7 + 3) (by omega)
          have tf3 := hT2.fz (j * 7 + 3)
          obtain ⟨tv4, tc4⟩ := hT2.isCell (j * 7 + 4) (by omega)
          have tf4 := hT2.fz (j * 7 + 4)
          obtain ⟨tv5, tc5⟩ := hT2.isCell (j * 7 + 5) (by omega)
          have tf5 := hT2.fz (j * 7 + 5)
          obtain ⟨tv6, tc6⟩ := hT2.isCell (j * 7 + 6) (by omega)
          have tf6 := hT2.fz (j * 7 + 6)
          have oc := hO2.cell hlt
          have of := hO2.frozen j
          rw [if_neg (Nat.lt_irrefl _)] at oc
          have b1 : W.heap.size < w2.heap.size := by omega
          have b3 : W.heap.size + 1 + 1 < w2.heap.size := by omega
          have hbb := hb.out.trans (hb2.mono hb.out.size)
          have HS := Lib.hid (fun (W3 : World) (h3 : Below w2.heap.size w2 W3) => odd_step hT2 hN2 hO2 hbb h3 (by omega) HCZ.out HPAR.out)
          have hvs : (oprTok z).vals = #[.pointer (oprTok z).ch, .string (oprTok z).s, .int .i32 0, .int .u32 0, .int .u16 0, .int .u8 (oprTok z).kd, .int .u8 (oprTok z).ws] := rfl
          clear hb2 hT2 hN2 hO2 hbb hpar
          go_wp2_with fail
          have hfin := HS.out _ ((Below.refl w2.heap.size w2).alloc (Nat.le_refl _) (.cells #[.pointer (oprTok z).ch, .string (oprTok z).s, .int .i32 0, .int .u32 0, .int .u16 0, .int .u8 (oprTok z).kd, .int .u8 (oprTok z).ws] 32))
          rw [odd_alloc _ _ _ _ _ _ b3] at hfin
          refine ⟨⟨j + 1, by omega, by go_num, hfin.1, hfin.2.1, hfin.2.2.1, hfin.2.2.2⟩, ?_⟩
          simp [intOf]; omega
      · obtain rfl : j = n := by omega
        clear hlt
        have hbz := hb.out.size
        have hz : ∀ i, i < j → 0 ≤ zs.getD i 0 ∧ zs.getD i 0 ≤ 65535 := fun i hi => by
          obtain ⟨_, _, _, _, h⟩ := HZ.out i (by rw [← HN.out]; exact hi)
          exact h
        obtain ⟨o, hp17, hp29⟩ := both_of hn (HE.out.below hb.out) hz hT.out hN.out hO.out
        have H17 := Lib.hid hp17
        have H29 := Lib.hid hp29
        clear hp17 hp29 hz hT hN hO HZ HE HN
        go_wp2_with fail
        refine (H17.out _ (Below.refl _ _)).mono ?_
        rintro e w5 ⟨m, rfl, hb5, hm⟩
        obtain ⟨ka, kn, kc, ek⟩ := hm.kids
        obtain ⟨tag, un, nm, kd, tx, ws, bad, kids⟩ := m
        simp only at ek
        subst ek
        have hz5 := hb5.size
        have HB5 := Lib.hid hb5
        have HM := Lib.hid hm
        have hmv : (MV.val ⟨tag, un, nm, kd, tx, ws, bad, .slice ka kn kc⟩) = .agg #[.int .i64 tag, .string un, .float .f64 nm, .int .u8 kd, .string tx, .int .u8 ws, .bool bad, .slice ka kn kc] := rfl
        clear hb5 hm
        go_wp2_with fail
        refine (H29.out _ (HB5.out.alloc hz5 _)).mono ?_
        rintro e w6 ⟨m', rfl, hb6, hm'⟩
        obtain ⟨ka', kn', kc', ek'⟩ := hm'.kids
        obtain ⟨tag', un', nm', kd', tx', ws', bad', kids'⟩ := m'
        simp only at ek'
        subst ek'
        have hmv' : (MV.val ⟨tag', un', nm', kd', tx', ws', bad', .slice ka' kn' kc'⟩) = .agg #[.int .i64 tag', .string un', .float .f64 nm', .int .u8 kd', .string tx', .int .u8 ws', .bool bad', .slice ka' kn' kc'] := rfl
        have r0 : w6.cell? ⟨w5.heap.size, 0, none⟩ = some (.int .i64 tag) := cell_later hb6 (by simp [go_sem])
        have r1 : w6.cell? ⟨w5.heap.size, 1, none⟩ = some (.string un) := cell_later hb6 (by simp [go_sem])
        have r2 : w6.cell? ⟨w5.heap.size, 2, none⟩ = some (.float .f64 nm) := cell_later hb6 (by simp [go_sem])
        have r3 : w6.cell? ⟨w5.heap.size, 3, none⟩ = some (.int .u8 kd) := cell_later hb6 (by simp [go_sem])
        have r4 : w6.cell? ⟨w5.heap.size, 4, none⟩ = some (.string tx) := cell_later hb6 (by simp [go_sem])
        have r5 : w6.cell? ⟨w5.heap.size, 5, none⟩ = some (.int .u8 ws) := cell_later hb6 (by simp [go_sem])
        have r6 : w6.cell? ⟨w5.heap.size, 6, none⟩ = some (.bool bad) := cell_later hb6 (by simp [go_sem])
        have r7 : w6.cell? ⟨w5.heap.size, 7, none⟩ = some (.slice ka kn kc) := cell_later hb6 (by simp [go_sem])
        have hA6 : w5.heap.size < w6.heap.size := World.block_lt_of_cell? _ _ r0
        have hm6 : MirO w6 (wr.heap.size ≤ ·) ⟨tag, un, nm, kd, tx, ws, bad, .slice ka kn kc⟩ o := (HM.out.keep (Keeps.below ((Below.refl _ _).alloc (Nat.le_refl _) _))).keep (Keeps.below hb6)
        have HB6 := Lib.hid ((HB5.out.alloc hz5 _).trans (hb6.mono (by rw [World.size_alloc]; omega)))
        have HS := Lib.hid (fun W' (h : Below w6.heap.size w6 W') => same_o W' (hm6.keep (Keeps.below h)) (hm'.keep (Keeps.below h)))
        have hz6 := HB6.out.size
        clear hb6 hm' hm6
        go_wp2_with fail
        refine (HS.out _ ((Below.refl _ _).alloc (Nat.le_refl _) _)).mono ?_
        rintro e w7 ⟨rfl, hb7⟩
        have HB7 := Lib.hid ((HB6.out.alloc hz6 _).trans (hb7.mono (by rw [World.size_alloc]; omega)))
        clear hb7
        go_wp2_with fail
        go_ret
        exact ⟨rfl, hb.out.trans (HB7.out.mono hbz)⟩
  · have h2 : (4096 : Int) < (n : Int) := by omega
    clear hz hE en
    by_cases hn1 : n ≤ 1048576
    · have h1 : ¬ (1048576 : Int) < (n : Int) := by omega
      go_enter Tryz.func7, Tryz.ntmps7
      go_wp2
      go_ret
      exact ⟨rfl, Below.refl _ _⟩
    · have h1 : (1048576 : Int) < (n : Int) := by omega
      go_enter Tryz.func7, Tryz.ntmps7
      go_wp2
      go_ret
      exact ⟨rfl, Below.refl _ _⟩
end Go.Proofs.YthbfppnegodpoaaGreatDoor
