/-
  Rows of tokens in memory: reading, storing, appending.
-/
import Derived.Test.YtoeahdefgblmoaaGreatDoorA
import Derived.PlainAid
import Derived.Deep.CutBlock
import Derived.Maps.AppendAt
namespace Go.Proofs.YtoeahdefgblmoaaGreatDoor
open Go.RowKit Go.Deep Go.PlainAid

theorem info31 : (Tryz.prog.info? 31).map (fun i => (i.zero, i.size, i.bytes)) = some (some (.agg #[.pointer none, .string ⟨#[]⟩, .int .i32 0, .int .u32 0, .int .u16 0, .int .u8 0, .int .u8 0]), 7, 40) := by kernel_rfl

/-- Block T is a row of tokens with room for cap; the first of them are l. -/
def RowAt (w : World) (T cap : Nat) (l : List TK) : Prop := ∃ cur : Array Value, w.heap[T]? = some (.cells cur 31 (0, 0)) ∧ cur.size = cap * 7 ∧ cur.toList.take (l.length * 7) = rowT l ∧ l.length ≤ cap

section
variable {w w' : World} {T cap : Nat} {l : List TK}
theorem RowAt.lt (h : RowAt w T cap l) : T < w.heap.size := by
  obtain ⟨cur, h1, _⟩ := h
  exact (Array.getElem?_eq_some_iff.1 h1).1
theorem RowAt.le (h : RowAt w T cap l) : l.length ≤ cap := by
  obtain ⟨cur, _, _, _, h1⟩ := h
  exact h1
theorem RowAt.keep (h : RowAt w T cap l) (e : w'.heap[T]? = w.heap[T]?) : RowAt w' T cap l := by
  obtain ⟨cur, h1, h2⟩ := h
  exact ⟨cur, e.trans h1, h2⟩
theorem RowAt.below {B : Nat} (h : RowAt w T cap l) (hb : Below B w w') (hT : T < B) : RowAt w' T cap l := h.keep (hb.block T hT)
theorem RowAt.later (h : RowAt w T cap l) (hb : Below w.heap.size w w') : RowAt w' T cap l := h.keep (hb.block T h.lt)
theorem RowAt.alloc (h : RowAt w T cap l) (o : Obj) : RowAt (w.alloc o) T cap l := h.keep (heap_alloc_old w o h.lt)
theorem RowAt.rowIs (h : RowAt w T cap l) : ∃ f, w.rowIs T 31 (cap * 7) f ∧ ∀ i k (hi : i < l.length), k < 7 → f (i * 7 + k) = (l[i]'hi).vals.getD k .nilIface := by
  obtain ⟨cur, h1, h2, h3, h4⟩ := h
  refine ⟨fun j => cur.getD j .nilIface, ⟨cur, h1, h2, fun j hj => by simp [Array.getD, h2, hj]⟩, fun i k hi hk => ?_⟩
  have e := rowT_at l i k hi hk
  rw [← h3, List.getElem?_take, if_pos (by omega), Array.getElem?_toList] at e
  have hs : i * 7 + k < cur.size := by omega
  rw [Array.getElem?_eq_getElem hs] at e
  simp only [Array.getD, hs, dif_pos]
  rw [List.getD_eq_getElem?_getD, ← e]
  rfl
theorem RowAt.cells (h : RowAt w T cap l) (i : Nat) (hi : i < l.length) : w.cell? ⟨T, i * 7, none⟩ = some (.pointer none) ∧ w.cell? ⟨T, i * 7 + 1, none⟩ = some (.string (l[i]'hi).s) ∧ w.cell? ⟨T, i * 7 + 2, none⟩ = some (.int .i32 0) ∧
    w.cell? ⟨T, i * 7 + 3, none⟩ = some (.int .u32 0) ∧ w.cell? ⟨T, i * 7 + 4, none⟩ = some (.int .u16 0) ∧ w.cell? ⟨T, i * 7 + 5, none⟩ = some (.int .u8 (l[i]'hi).kd) ∧ w.cell? ⟨T, i * 7 + 6, none⟩ = some (.int .u8 (l[i]'hi).ws) := by
  have hle := h.le
  obtain ⟨f, h1, h2⟩ := h.rowIs
  have hc : ∀ k, k < 7 → w.cell? ⟨T, i * 7 + k, none⟩ = some ((l[i]'hi).vals.getD k .nilIface) := fun k hk => by rw [h1.cell (by omega), h2 i k hi hk]
  exact ⟨hc 0 (by omega), hc 1 (by omega), hc 2 (by omega), hc 3 (by omega), hc 4 (by omega), hc 5 (by omega), hc 6 (by omega)⟩
theorem RowAt.fz (h : RowAt w T cap l) (j : Nat) : w.frozen? ⟨T, j, none⟩ = false := by
  obtain ⟨f, h1, _⟩ := h.rowIs
  exact h1.frozen j
theorem RowAt.own (h : RowAt w T cap l) {base : Nat} (hb : base ≤ T) (hc : cap ≤ maxLen) : w.ownsRow base 31 7 (.slice (some ⟨T, 0, none⟩) l.length cap) l.length (rowT l) := by
  obtain ⟨cur, h1, h2, h3, h4⟩ := h
  exact ⟨rowT_len l, .inr ⟨T, cap, cur, rfl, hb, h1, h4, hc, h2, h3⟩⟩
theorem RowAt.of_own {base : Nat} {v : Value} (h : w.ownsRow base 31 7 v l.length (rowT l)) (hl : 0 < l.length) : ∃ T cap, v = .slice (some ⟨T, 0, none⟩) l.length cap ∧ base ≤ T ∧ cap ≤ maxLen ∧ RowAt w T cap l := by
  rcases h.2 with ⟨_, h0⟩ | ⟨g, cap, cur, rfl, hb, hg, hc, hm, hz, ht⟩
  · omega
  · exact ⟨g, cap, rfl, hb, hm, cur, hg, hz, ht, hc⟩
theorem own_slice {base : Nat} {e : TypeId} {size : Nat} {v : Value} {n : Nat} {xs : List Value} (h : w.ownsRow base e size v n xs) : ∃ a m, v = .slice a n m := by
  rcases h.2 with ⟨hv, h0⟩ | ⟨g, cap, cur, hv, _⟩
  · exact ⟨none, 0, by rw [hv, h0]⟩
  · exact ⟨_, _, hv⟩
theorem own_blk {base : Nat} {e : TypeId} {size : Nat} {v : Value} {m : Nat} {xs : List Value} (h : w.ownsRow base e size v m xs) (hb : ∀ g, base ≤ g → g < w.heap.size → w'.heap[g]? = w.heap[g]?) : w'.ownsRow base e size v m xs := by
  obtain ⟨h1, h2⟩ := h
  refine ⟨h1, ?_⟩
  rcases h2 with h2 | ⟨g, cap, cur, hv, hg, hh, hr⟩
  · exact .inl h2
  · exact .inr ⟨g, cap, cur, hv, hg, by rw [hb g hg (Array.getElem?_eq_some_iff.1 hh).1]; exact hh, hr⟩
theorem own_later {base : Nat} {e : TypeId} {size : Nat} {v : Value} {m : Nat} {xs : List Value} (h : w.ownsRow base e size v m xs) (hb : Below w.heap.size w w') : w'.ownsRow base e size v m xs := own_blk h fun g _ hg => hb.block g hg

/-- Another whitespace at i. -/
theorem RowAt.setWs (h : RowAt w T cap l) (i : Nat) (hi : i < l.length) (x : Int) : RowAt (w.setCell ⟨T, i * 7 + 6, none⟩ (.int .u8 x)) T cap (l.set i ⟨(l[i]'hi).kd, (l[i]'hi).s, x⟩) := by
  have hle := h.le
  obtain ⟨f, h1, h2⟩ := h.rowIs
  obtain ⟨c, g1, g2, g3⟩ := h1.set (i * 7 + 6) (.int .u8 x)
  refine ⟨c, g1, g2, ?_, by rw [List.length_set]; exact hle⟩
  rw [List.length_set]
  apply List.ext_getElem?
  intro j
  by_cases hj : j < l.length * 7
  · have hq : j / 7 < l.length := by omega
    have e : j = j / 7 * 7 + j % 7 := by omega
    have hr : j % 7 < 7 := by omega
    rw [List.getElem?_take, if_pos hj, Array.getElem?_toList, g3 j (by omega)]
    have hq' : j / 7 < (l.set i ⟨(l[i]'hi).kd, (l[i]'hi).s, x⟩).length := by rw [List.length_set]; exact hq
    have e2 := rowT_at (l.set i ⟨(l[i]'hi).kd, (l[i]'hi).s, x⟩) (j / 7) (j % 7) hq' hr
    rw [← e] at e2
    rw [e2]
    obtain ⟨q, hq2⟩ : ∃ q, q = j / 7 := ⟨_, rfl⟩
    obtain ⟨r, hr2⟩ : ∃ r, r = j % 7 := ⟨_, rfl⟩
    have hf := h2 (j / 7) (j % 7) hq hr
    rw [← e] at hf
    show some (if j = i * 7 + 6 then Value.int .u8 x else f j) = _
    by_cases h6 : j = i * 7 + 6
    · have : j / 7 = i := by omega
      have h7 : j % 7 = 6 := by omega
      rw [if_pos h6, List.getElem_set]
      simp only [this, h7, if_pos]
      rfl
    · rw [if_neg h6, hf, List.getElem_set]
      by_cases hqi : j / 7 = i
      · rw [if_pos hqi.symm]
        have hne : j % 7 < 6 := by omega
        simp only [hqi]
        generalize j % 7 = r at hne
        match r, hne with
        | 0, _ => rfl
        | 1, _ => rfl
        | 2, _ => rfl
        | 3, _ => rfl
        | 4, _ => rfl
        | 5, _ => rfl
      · rw [if_neg (fun h => hqi h.symm)]
        rw [List.getD_eq_getElem?_getD]
        generalize j % 7 = r at hr
        match r, hr with
        | 0, _ => rfl
        | 1, _ => rfl
        | 2, _ => rfl
        | 3, _ => rfl
        | 4, _ => rfl
        | 5, _ => rfl
        | 6, _ => rfl
  · rw [List.getElem?_eq_none (by rw [List.length_take]; omega), List.getElem?_eq_none (by rw [rowT_len, List.length_set]; omega)]
end

theorem tok_cells (w : World) (t : TK) : ∀ j u, t.vals[j]? = some u → (w.alloc (.cells #[.pointer none, .string t.s, .int .i32 0, .int .u32 0, .int .u16 0, .int .u8 t.kd, .int .u8 t.ws] 31)).cell? ((⟨w.heap.size, 0, none⟩ : Addr).add j) = some u := by
  intro j u hj
  match j, hj with
  | 0, hj => cases hj; simp [go_sem]
  | 1, hj => cases hj; simp [go_sem]
  | 2, hj => cases hj; simp [go_sem]
  | 3, hj => cases hj; simp [go_sem]
  | 4, hj => cases hj; simp [go_sem]
  | 5, hj => cases hj; simp [go_sem]
  | 6, hj => cases hj; simp [go_sem]

/-- append of one token to a row of the call's own. -/
theorem wpList_append_tok {ops : Array Oper} {rest : List Oper} {o : Oper} {a : Act} {Q : Exit → Act → World → Prop} (w : World) (hgd : o.guard = none) (s x : Operand)
    (ho : o.op = .call { callee := .builtin .append, args := #[s, x], argTypes := #[32, 32] }) (base : Nat) (v : Value) (l : List TK) (t : TK) (hs : a.eval s = v) (hown : w.ownsRow base 31 7 v l.length (rowT l))
    (hx : a.eval x = .slice (some ⟨w.heap.size, 0, none⟩) 1 1) (hl : l.length ≤ 1000000) (hbase : base ≤ w.heap.size)
    (h : ∀ a' c' w', w'.ownsRow base 31 7 (.slice a' (l.length + 1) c') (l ++ [t]).length (rowT (l ++ [t])) → (w.alloc (.cells #[.pointer none, .string t.s, .int .i32 0, .int .u32 0, .int .u16 0, .int .u8 t.kd, .int .u8 t.ws] 31)).grownBy w' v.ownBlock →
      wpList Tryz.prog ops Q rest (a.put o.dst (.slice a' (l.length + 1) c')) w') :
    wpList Tryz.prog ops Q (o :: rest) a (w.alloc (.cells #[.pointer none, .string t.s, .int .i32 0, .int .u32 0, .int .u16 0, .int .u8 t.kd, .int .u8 t.ws] 31)) := by
  obtain ⟨i0, hi0, hzz⟩ := Option.map_eq_some_iff.1 info31
  simp only [Prod.mk.injEq] at hzz
  obtain ⟨hz0, hz1, hz2⟩ := hzz
  refine wpList_append_own (P := Tryz.prog) _ hgd s x 32 ho base 31 i0 _ 7 40 Tryz.underlying32 hi0 hz0 hz1 hz2 rfl (by decide) v l.length (rowT l) hs (hown.alloc _) ⟨w.heap.size, 0, none⟩ 1 1 t.vals hx rfl (tok_cells w t) (vals_one t) (by unfold maxLen; omega) (by omega) (by rw [World.size_alloc]; omega) ?_
  intro v' w' hown' hgr _
  obtain ⟨a', c', rfl⟩ := own_slice hown'
  refine h a' c' w' ?_ hgr
  rw [List.length_append, List.length_singleton, rowT_append, rowT_one]
  exact hown'

/-- append of one token to a row with room. -/
theorem wpList_append_room {ops : Array Oper} {rest : List Oper} {o : Oper} {a : Act} {Q : Exit → Act → World → Prop} (w : World) (hgd : o.guard = none) (s x : Operand)
    (ho : o.op = .call { callee := .builtin .append, args := #[s, x], argTypes := #[32, 32] }) (T cap n : Nat) (l : List TK) (t : TK) (hn : n = l.length) (hs : a.eval s = .slice (some ⟨T, 0, none⟩) n cap) (hrow : RowAt w T cap l)
    (hx : a.eval x = .slice (some ⟨w.heap.size, 0, none⟩) 1 1) (hl : n < cap)
    (h : ∀ w', RowAt w' T cap (l ++ [t]) → (w.alloc (.cells #[.pointer none, .string t.s, .int .i32 0, .int .u32 0, .int .u16 0, .int .u8 t.kd, .int .u8 t.ws] 31)).grownBy w' (some T) → w'.heap.size = w.heap.size + 1 →
      wpList Tryz.prog ops Q rest (a.put o.dst (.slice (some ⟨T, 0, none⟩) (n + 1) cap)) w') :
    wpList Tryz.prog ops Q (o :: rest) a (w.alloc (.cells #[.pointer none, .string t.s, .int .i32 0, .int .u32 0, .int .u16 0, .int .u8 t.kd, .int .u8 t.ws] 31)) := by
  subst hn
  obtain ⟨i0, hi0, hzz⟩ := Option.map_eq_some_iff.1 info31
  simp only [Prod.mk.injEq] at hzz
  obtain ⟨hz0, hz1, hz2⟩ := hzz
  have hrow' := hrow.alloc (.cells #[.pointer none, .string t.s, .int .i32 0, .int .u32 0, .int .u16 0, .int .u8 t.kd, .int .u8 t.ws] 31)
  obtain ⟨cur, h1, h2, h3, h4⟩ := hrow'
  have hr := run_append_room (P := Tryz.prog) (w.alloc (.cells #[.pointer none, .string t.s, .int .i32 0, .int .u32 0, .int .u16 0, .int .u8 t.kd, .int .u8 t.ws] 31)) 32 o.type 31 i0 Tryz.underlying32 hi0 T l.length cap cur h1 ⟨w.heap.size, 0, none⟩ 1 1 t.vals
    (by rw [hz1]; rfl) (tok_cells w t) (vals_one t) hl (by rw [hz1]; show _ + 7 ≤ _; omega)
  rw [hz1] at hr
  refine wpList_plain hgd fun K hK => ?_
  unfold Oper.wp execOp
  simp only [ho, resolve, invoke, builtin, Sem.run_bind, Sem.run_pure, Result.andThen_ok, List.map_toArray, List.map_cons, List.map_nil, hs, hx, hr]
  have hT := hrow.lt
  have hT' : T < (w.alloc (.cells #[.pointer none, .string t.s, .int .i32 0, .int .u32 0, .int .u16 0, .int .u8 t.kd, .int .u8 t.ws] 31)).heap.size := by rw [World.size_alloc]; omega
  refine hK _ _ (h _ ⟨_, setRow_heap _ T cur _ 31 _ h1, ?_, ?_, ?_⟩ ⟨rfl, rfl, rfl, by rw [setRow_size]; exact Nat.le_refl _, fun k _ hk => setRow_other _ T k _ (fun e => hk (by rw [e]))⟩ ?_)
  · simp only [List.size_toArray, List.length_append, List.length_take, List.length_drop, Array.length_toList]
    show min (l.length * 7) cur.size + 7 + (cur.size - (l.length * 7 + 7)) = _
    omega
  · rw [List.length_append, List.length_singleton, rowT_append, rowT_one, h3]
    have : ((l.length + 1) * 7) = (rowT l ++ t.vals).length := by rw [List.length_append, rowT_len]; show _ = _ + 7; omega
    rw [this]
    exact List.take_left
  · rw [List.length_append, List.length_singleton]
    exact hl
  · simp [World.setRow]
end Go.Proofs.YtoeahdefgblmoaaGreatDoor
