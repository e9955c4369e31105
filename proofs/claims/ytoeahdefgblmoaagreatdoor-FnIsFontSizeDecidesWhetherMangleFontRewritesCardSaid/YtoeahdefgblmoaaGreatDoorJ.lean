/-
  append of a whole row of tokens, and of two tokens inside a region that draws.
-/
import Derived.Test.YtoeahdefgblmoaaGreatDoorI2
namespace Go.Proofs.YtoeahdefgblmoaaGreatDoor
open Go.RowKit Go.Deep Go.PlainAid Go.Maps Go.Sort

theorem wpList_append_toks {ops : Array Oper} {rest : List Oper} {o : Oper} {a : Act} {Q : Exit → Act → World → Prop} (w : World) (hgd : o.guard = none) (s x : Operand)
    (ho : o.op = .call { callee := .builtin .append, args := #[s, x], argTypes := #[32, 32] }) (base : Nat) (v : Value) (l l2 : List TK) (T2 c2 n2 : Nat) (hn2 : n2 = l2.length) (hs : a.eval s = v) (hown : w.ownsRow base 31 7 v l.length (rowT l))
    (hx : a.eval x = .slice (some ⟨T2, 0, none⟩) n2 c2) (hrow : RowAt w T2 c2 l2) (hc2 : c2 ≤ maxLen) (hl : l.length ≤ 1000000) (hl2 : n2 ≤ 1000000) (hbase : base ≤ w.heap.size)
    (h : ∀ a' c' w', w'.ownsRow base 31 7 (.slice a' (l.length + n2) c') (l ++ l2).length (rowT (l ++ l2)) → w.grownBy w' v.ownBlock → wpList Tryz.prog ops Q rest (a.put o.dst (.slice a' (l.length + n2) c')) w') :
    wpList Tryz.prog ops Q (o :: rest) a w := by
  subst hn2
  obtain ⟨i0, hi0, hzz⟩ := Option.map_eq_some_iff.1 info31
  simp only [Prod.mk.injEq] at hzz
  obtain ⟨hz0, hz1, hz2⟩ := hzz
  refine wpList_append_own (P := Tryz.prog) w hgd s x 32 ho base 31 i0 _ 7 40 Tryz.underlying32 hi0 hz0 hz1 hz2 rfl (by decide) v l.length (rowT l) hs hown ⟨T2, 0, none⟩ l2.length c2 (rowT l2) hx (rowT_len l2) ((hrow.own (Nat.le_refl _) hc2).cells rfl) (rowT_ones l2) (by unfold maxLen; omega) (by omega) hbase ?_
  intro v' w' hown' hgr _
  obtain ⟨a', c', rfl⟩ := own_slice hown'
  refine h a' c' w' ?_ hgr
  rw [List.length_append, rowT_append]
  exact hown'

theorem two_cells (w : World) (t u : TK) : ∀ j x, (rowT [t, u])[j]? = some x → (w.alloc (.cells #[.pointer none, .string t.s, .int .i32 0, .int .u32 0, .int .u16 0, .int .u8 t.kd, .int .u8 t.ws, .pointer none, .string u.s, .int .i32 0, .int .u32 0, .int .u16 0, .int .u8 u.kd, .int .u8 u.ws] 31)).cell? ((⟨w.heap.size, 0, none⟩ : Addr).add j) = some x := by
  intro j x hj
  match j, hj with
  | 0, hj => cases hj; simp [go_sem]
  | 1, hj => cases hj; simp [go_sem]
  | 2, hj => cases hj; simp [go_sem]
  | 3, hj => cases hj; simp [go_sem]
  | 4, hj => cases hj; simp [go_sem]
  | 5, hj => cases hj; simp [go_sem]
  | 6, hj => cases hj; simp [go_sem]
  | 7, hj => cases hj; simp [go_sem]
  | 8, hj => cases hj; simp [go_sem]
  | 9, hj => cases hj; simp [go_sem]
  | 10, hj => cases hj; simp [go_sem]
  | 11, hj => cases hj; simp [go_sem]
  | 12, hj => cases hj; simp [go_sem]
  | 13, hj => cases hj; simp [go_sem]

theorem step_append_two {ops : Array Oper} {o : Oper} {a : Act} {K : Act → World → Prop} {Q : Exit → Act → World → Prop} {E : Prop} (w : World) (hgd : o.guard = none) (s x : Operand)
    (ho : o.op = .call { callee := .builtin .append, args := #[s, x], argTypes := #[32, 32] }) (base : Nat) (v : Value) (l : List TK) (t u : TK) (hs : a.eval s = v) (hown : w.ownsRow base 31 7 v l.length (rowT l))
    (hx : a.eval x = .slice (some ⟨w.heap.size, 0, none⟩) 2 2) (hl : l.length ≤ 1000000) (hbase : base ≤ w.heap.size)
    (h : ∀ a' c' w', w'.ownsRow base 31 7 (.slice a' (l.length + 2) c') (l ++ [t, u]).length (rowT (l ++ [t, u])) → (w.alloc (.cells #[.pointer none, .string t.s, .int .i32 0, .int .u32 0, .int .u16 0, .int .u8 t.kd, .int .u8 t.ws, .pointer none, .string u.s, .int .i32 0, .int .u32 0, .int .u16 0, .int .u8 u.kd, .int .u8 u.ws] 31)).grownBy w' v.ownBlock →
      K (a.put o.dst (.slice a' (l.length + 2) c')) w') :
    if Region.wanted o (yielded ops a.tmps) = true then Oper.wp Tryz.prog o a (w.alloc (.cells #[.pointer none, .string t.s, .int .i32 0, .int .u32 0, .int .u16 0, .int .u8 t.kd, .int .u8 t.ws, .pointer none, .string u.s, .int .i32 0, .int .u32 0, .int .u16 0, .int .u8 u.kd, .int .u8 u.ws] 31)) K Q else E := by
  obtain ⟨i0, hi0, hzz⟩ := Option.map_eq_some_iff.1 info31
  simp only [Prod.mk.injEq] at hzz
  obtain ⟨hz0, hz1, hz2⟩ := hzz
  rw [if_pos (by simp [Region.wanted, hgd])]
  refine wp_append_own (P := Tryz.prog) _ s x 32 ho base 31 i0 _ 7 40 Tryz.underlying32 hi0 hz0 hz1 hz2 rfl (by decide) v l.length (rowT l) hs (hown.alloc _) ⟨w.heap.size, 0, none⟩ 2 2 (rowT [t, u]) hx rfl (two_cells w t u) (rowT_ones _) (by unfold maxLen; omega) (by omega) (by rw [World.size_alloc]; omega) ?_
  intro v' w' hown' hgr _
  obtain ⟨a', c', rfl⟩ := own_slice hown'
  refine h a' c' w' ?_ hgr
  rw [List.length_append, rowT_append]
  exact hown'
end Go.Proofs.YtoeahdefgblmoaaGreatDoor
