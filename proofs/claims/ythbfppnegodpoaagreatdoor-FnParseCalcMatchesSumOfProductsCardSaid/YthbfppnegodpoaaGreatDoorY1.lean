/-
  tryToParseCalcTerm's first loop, walked: the node of a token that is no number.
-/
import Derived.Test.YthbfppnegodpoaaGreatDoorY
namespace Go.Proofs.YthbfppnegodpoaaGreatDoor
open Go.RowKit Go.Deep Go.PlainAid

set_option maxHeartbeats 16000000 in
set_option maxRecDepth 100000 in
theorem reg33_s23a {c : Code} (hcode : Tryz.f30.body.bind (frg 33) = some c) (a : Act) (W : World) (b n cap i T P0 : Nat) (tk : Nat → TK)
    (hfr : Fr a) (e0 : a.tmps[0]? = some (.slice (some ⟨b, 0, none⟩) n cap)) (e3 : a.tmps[3]? = some (.slice (some ⟨T, 0, none⟩) n n)) (e4 : a.tmps[4]? = some (.int .i64 i)) (e5 : a.tmps[5]? = some (.pointer (some ⟨P0, 0, none⟩))) (e35 : a.tmps[35]? = some (.slice (some ⟨b, 0, none⟩) n cap)) (e36 : a.tmps[36]? = some (.int .i64 n)) (e37 : a.tmps[37]? = some (.int .i64 i))
    (hn : n ≤ 4096) (_hi : i < n) (htk : Toks W b n tk) (htp : TokAt W P0 0 (tk i)) (hTW : T < W.heap.size) (h0 : 0 < i) (h1 : i + 1 < n) (hk : (tk i).kd = 23) (g0 : (bits .and .u8 (tk i).ws 1 == 0) = true) (g1 : (bits .and .u8 (tk (i - 1)).ws 2 == 0) = true) :
    Code.wp Tryz.prog c (OnNormal fun a' W' => Fr a' ∧ a'.tmps[0]? = some (.slice (some ⟨b, 0, none⟩) n cap) ∧ a'.tmps[3]? = some (.slice (some ⟨T, 0, none⟩) n n) ∧ a'.tmps[4]? = some (.int .i64 i) ∧ a'.tmps[35]? = some (.slice (some ⟨b, 0, none⟩) n cap) ∧ a'.tmps[36]? = some (.int .i64 n) ∧ a'.tmps[37]? = some (.int .i64 i) ∧
      a'.tmps[6]? = some (.iface 54 (.pointer (some ⟨W.heap.size, 0, none⟩))) ∧ Rep W' (T < ·) (.iface 54 (.pointer (some ⟨W.heap.size, 0, none⟩))) (.val (tk i).kd (tk i).s (tk i).ws (badAt tk n i)) ∧ Below W.heap.size W W') a W := by
  obtain ⟨xs, rfl, hx⟩ := hfr.lit
  have x0 := hx 0 _ (by omega) e0
  have x3 := hx 3 _ (by omega) e3
  have x4 := hx 4 _ (by omega) e4
  have x5 := hx 5 _ (by omega) e5
  have x35 := hx 35 _ (by omega) e35
  have x36 := hx 36 _ (by omega) e36
  have x37 := hx 37 _ (by omega) e37
  clear hx e0 e3 e4 e5 e35 e36 e37 hfr
  obtain ⟨Q, eQ⟩ : ∃ Q : Act → World → Prop, Q = fun a' W' => Fr a' ∧ a'.tmps[0]? = some (.slice (some ⟨b, 0, none⟩) n cap) ∧ a'.tmps[3]? = some (.slice (some ⟨T, 0, none⟩) n n) ∧ a'.tmps[4]? = some (.int .i64 i) ∧ a'.tmps[35]? = some (.slice (some ⟨b, 0, none⟩) n cap) ∧ a'.tmps[36]? = some (.int .i64 n) ∧ a'.tmps[37]? = some (.int .i64 i) ∧
      a'.tmps[6]? = some (.iface 54 (.pointer (some ⟨W.heap.size, 0, none⟩))) ∧ Rep W' (T < ·) (.iface 54 (.pointer (some ⟨W.heap.size, 0, none⟩))) (.val (tk i).kd (tk i).s (tk i).ws (badAt tk n i)) ∧ Below W.heap.size W W' := ⟨_, rfl⟩
  have HQ := Lib.hid eQ
  rw [← eQ]
  clear eQ
  have key : ∀ {C : Code}, Tryz.f30.body.bind (frg 33) = some C → Code.wp Tryz.prog C (OnNormal Q) (fr xs) W → Code.wp Tryz.prog c (OnNormal Q) (fr xs) W := fun e h => by
    rw [e] at hcode
    cases hcode
    exact h
  refine key rfl ?_
  clear key hcode
  simp only [fr, x0, x3, x4, x5, x35, x36, x37]
  clear x0 x3 x4 x5 x35 x36 x37
  have hPl : P0 < W.heap.size := World.block_lt_of_cell? _ _ htp.c0
  obtain ⟨d0, d1, d2, d3, d4, d5, d6⟩ := htp
  simp only [Nat.zero_add] at d1 d2 d3 d4 d5 d6
  have hrep : ∀ bad, bad = badAt tk n i → ∀ W', W' = (W.alloc (.cells #[.pointer (tk i).ch, .string (tk i).s, .int .i32 0, .int .u32 0, .int .u16 0, .int .u8 (tk i).kd, .int .u8 (tk i).ws, .bool bad] 80)).drew →
      Rep W' (T < ·) (.iface 54 (.pointer (some ⟨W.heap.size, 0, none⟩))) (.val (tk i).kd (tk i).s (tk i).ws (badAt tk n i)) ∧ Below W.heap.size W W' := fun bad hb W' hW => by
    subst hb
    subst hW
    exact ⟨.val W.heap.size _ _ _ _ (tk i).ch hTW (by simp [go_sem]) (by simp [go_sem]) (by simp [go_sem]) (by simp [go_sem]) (by simp [go_sem]) (by simp [go_sem]) (by simp [go_sem]) (by simp [go_sem]), ((Below.refl _ _).alloc (Nat.le_refl _) _).drew⟩
  have HREP := Lib.hid hrep
  clear hrep
  have eb : badAt tk n i = (decide (0 < i) && (decide (i + 1 < n) && (((tk i).kd == 23 || (tk i).kd == 22) && (((bits .and .u8 (tk i).ws 1 == 0) && (bits .and .u8 (tk (i - 1)).ws 2 == 0)) || ((bits .and .u8 (tk i).ws 2 == 0) && (bits .and .u8 (tk (i + 1)).ws 1 == 0)))))) := rfl
  have hpp := htk (i - 1) (by omega)
  have hqq := htk (i + 1) h1
  have p6 := hpp.c6
  have q6 := hqq.c6
  clear hpp hqq htk _hi
  generalize (tk (i - 1)).ws = wp at *
  generalize (tk (i + 1)).ws = wq at *
  generalize htki : tk i = t at *
  have HT := Lib.hid htki
  clear htki
  obtain ⟨ch, s, kd, ws⟩ := t
  simp only at *
  subst hk
  have hi0 : (0 : Int) < (i : Int) := by omega
  have hi1 : (i : Int) + 1 < (n : Int) := by omega
  have hbl : b < W.heap.size := World.block_lt_of_cell? _ _ p6
  rw [decide_eq_true h0, decide_eq_true h1, g0, g1] at eb
  have eb : badAt tk n i = true := eb.trans (by simp)
  have HEB := Lib.hid eb
  clear eb
  go_region
  show Q _ _
  rw [HQ.out]
  dsimp only
  obtain ⟨hr, hb⟩ := HREP.out _ HEB.out.symm _ rfl
  exact ⟨⟨rfl, rfl⟩, rfl, rfl, rfl, rfl, rfl, rfl, rfl, hr, hb⟩

set_option maxHeartbeats 16000000 in
set_option maxRecDepth 100000 in
theorem reg33_s23b {c : Code} (hcode : Tryz.f30.body.bind (frg 33) = some c) (a : Act) (W : World) (b n cap i T P0 : Nat) (tk : Nat → TK)
    (hfr : Fr a) (e0 : a.tmps[0]? = some (.slice (some ⟨b, 0, none⟩) n cap)) (e3 : a.tmps[3]? = some (.slice (some ⟨T, 0, none⟩) n n)) (e4 : a.tmps[4]? = some (.int .i64 i)) (e5 : a.tmps[5]? = some (.pointer (some ⟨P0, 0, none⟩))) (e35 : a.tmps[35]? = some (.slice (some ⟨b, 0, none⟩) n cap)) (e36 : a.tmps[36]? = some (.int .i64 n)) (e37 : a.tmps[37]? = some (.int .i64 i))
    (hn : n ≤ 4096) (_hi : i < n) (htk : Toks W b n tk) (htp : TokAt W P0 0 (tk i)) (hTW : T < W.heap.size) (h0 : 0 < i) (h1 : i + 1 < n) (hk : (tk i).kd = 23) (g0 : (bits .and .u8 (tk i).ws 1 == 0) = true) (g1 : (bits .and .u8 (tk (i - 1)).ws 2 == 0) = false) (g2 : (bits .and .u8 (tk i).ws 2 == 0) = true) :
    Code.wp Tryz.prog c (OnNormal fun a' W' => Fr a' ∧ a'.tmps[0]? = some (.slice (some ⟨b, 0, none⟩) n cap) ∧ a'.tmps[3]? = some (.slice (some ⟨T, 0, none⟩) n n) ∧ a'.tmps[4]? = some (.int .i64 i) ∧ a'.tmps[35]? = some (.slice (some ⟨b, 0, none⟩) n cap) ∧ a'.tmps[36]? = some (.int .i64 n) ∧ a'.tmps[37]? = some (.int .i64 i) ∧
      a'.tmps[6]? = some (.iface 54 (.pointer (some ⟨W.heap.size, 0, none⟩))) ∧ Rep W' (T < ·) (.iface 54 (.pointer (some ⟨W.heap.size, 0, none⟩))) (.val (tk i).kd (tk i).s (tk i).ws (badAt tk n i)) ∧ Below W.heap.size W W') a W := by
  obtain ⟨xs, rfl, hx⟩ := hfr.lit
  have x0 := hx 0 _ (by omega) e0
  have x3 := hx 3 _ (by omega) e3
  have x4 := hx 4 _ (by omega) e4
  have x5 := hx 5 _ (by omega) e5
  have x35 := hx 35 _ (by omega) e35
  have x36 := hx 36 _ (by omega) e36
  have x37 := hx 37 _ (by omega) e37
  clear hx e0 e3 e4 e5 e35 e36 e37 hfr
  obtain ⟨Q, eQ⟩ : ∃ Q : Act → World → Prop, Q = fun a' W' => Fr a' ∧ a'.tmps[0]? = some (.slice (some ⟨b, 0, none⟩) n cap) ∧ a'.tmps[3]? = some (.slice (some ⟨T, 0, none⟩) n n) ∧ a'.tmps[4]? = some (.int .i64 i) ∧ a'.tmps[35]? = some (.slice (some ⟨b, 0, none⟩) n cap) ∧ a'.tmps[36]? = some (.int .i64 n) ∧ a'.tmps[37]? = some (.int .i64 i) ∧
      a'.tmps[6]? = some (.iface 54 (.pointer (some ⟨W.heap.size, 0, none⟩))) ∧ Rep W' (T < ·) (.iface 54 (.pointer (some ⟨W.heap.size, 0, none⟩))) (.val (tk i).kd (tk i).s (tk i).ws (badAt tk n i)) ∧ Below W.heap.size W W' := ⟨_, rfl⟩
  have HQ := Lib.hid eQ
  rw [← eQ]
  clear eQ
  have key : ∀ {C : Code}, Tryz.f30.body.bind (frg 33) = some C → Code.wp Tryz.prog C (OnNormal Q) (fr xs) W → Code.wp Tryz.prog c (OnNormal Q) (fr xs) W := fun e h => by
    rw [e] at hcode
    cases hcode
    exact h
  refine key rfl ?_
  clear key hcode
  simp only [fr, x0, x3, x4, x5, x35, x36, x37]
  clear x0 x3 x4 x5 x35 x36 x37
  have hPl : P0 < W.heap.size := World.block_lt_of_cell? _ _ htp.c0
  obtain ⟨d0, d1, d2, d3, d4, d5, d6⟩ := htp
  simp only [Nat.zero_add] at d1 d2 d3 d4 d5 d6
  have hrep : ∀ bad, bad = badAt tk n i → ∀ W', W' = (W.alloc (.cells #[.pointer (tk i).ch, .string (tk i).s, .int .i32 0, .int .u32 0, .int .u16 0, .int .u8 (tk i).kd, .int .u8 (tk i).ws, .bool bad] 80)).drew →
      Rep W' (T < ·) (.iface 54 (.pointer (some ⟨W.heap.size, 0, none⟩))) (.val (tk i).kd (tk i).s (tk i).ws (badAt tk n i)) ∧ Below W.heap.size W W' := fun bad hb W' hW => by
    subst hb
    subst hW
    exact ⟨.val W.heap.size _ _ _ _ (tk i).ch hTW (by simp [go_sem]) (by simp [go_sem]) (by simp [go_sem]) (by simp [go_sem]) (by simp [go_sem]) (by simp [go_sem]) (by simp [go_sem]) (by simp [go_sem]), ((Below.refl _ _).alloc (Nat.le_refl _) _).drew⟩
  have HREP := Lib.hid hrep
  clear hrep
  have eb : badAt tk n i = (decide (0 < i) && (decide (i + 1 < n) && (((tk i).kd == 23 || (tk i).kd == 22) && (((bits .and .u8 (tk i).ws 1 == 0) && (bits .and .u8 (tk (i - 1)).ws 2 == 0)) || ((bits .and .u8 (tk i).ws 2 == 0) && (bits .and .u8 (tk (i + 1)).ws 1 == 0)))))) := rfl
  have hpp := htk (i - 1) (by omega)
  have hqq := htk (i + 1) h1
  have p6 := hpp.c6
  have q6 := hqq.c6
  clear hpp hqq htk _hi
  generalize (tk (i - 1)).ws = wp at *
  generalize (tk (i + 1)).ws = wq at *
  generalize htki : tk i = t at *
  have HT := Lib.hid htki
  clear htki
  obtain ⟨ch, s, kd, ws⟩ := t
  simp only at *
  subst hk
  have hi0 : (0 : Int) < (i : Int) := by omega
  have hi1 : (i : Int) + 1 < (n : Int) := by omega
  have hbl : b < W.heap.size := World.block_lt_of_cell? _ _ p6
  rw [decide_eq_true h0, decide_eq_true h1, g0, g1, g2] at eb
  have eb : badAt tk n i = (bits .and .u8 wq 1 == 0) := eb.trans (by simp)
  have HEB := Lib.hid eb
  clear eb
  go_region
  show Q _ _
  rw [HQ.out]
  dsimp only
  obtain ⟨hr, hb⟩ := HREP.out _ HEB.out.symm _ rfl
  exact ⟨⟨rfl, rfl⟩, rfl, rfl, rfl, rfl, rfl, rfl, rfl, hr, hb⟩

set_option maxHeartbeats 16000000 in
set_option maxRecDepth 100000 in
theorem reg33_s23c {c : Code} (hcode : Tryz.f30.body.bind (frg 33) = some c) (a : Act) (W : World) (b n cap i T P0 : Nat) (tk : Nat → TK)
    (hfr : Fr a) (e0 : a.tmps[0]? = some (.slice (some ⟨b, 0, none⟩) n cap)) (e3 : a.tmps[3]? = some (.slice (some ⟨T, 0, none⟩) n n)) (e4 : a.tmps[4]? = some (.int .i64 i)) (e5 : a.tmps[5]? = some (.pointer (some ⟨P0, 0, none⟩))) (e35 : a.tmps[35]? = some (.slice (some ⟨b, 0, none⟩) n cap)) (e36 : a.tmps[36]? = some (.int .i64 n)) (e37 : a.tmps[37]? = some (.int .i64 i))
    (hn : n ≤ 4096) (_hi : i < n) (htk : Toks W b n tk) (htp : TokAt W P0 0 (tk i)) (hTW : T < W.heap.size) (h0 : 0 < i) (h1 : i + 1 < n) (hk : (tk i).kd = 23) (g0 : (bits .and .u8 (tk i).ws 1 == 0) = true) (g1 : (bits .and .u8 (tk (i - 1)).ws 2 == 0) = false) (g2 : (bits .and .u8 (tk i).ws 2 == 0) = false) :
    Code.wp Tryz.prog c (OnNormal fun a' W' => Fr a' ∧ a'.tmps[0]? = some (.slice (some ⟨b, 0, none⟩) n cap) ∧ a'.tmps[3]? = some (.slice (some ⟨T, 0, none⟩) n n) ∧ a'.tmps[4]? = some (.int .i64 i) ∧ a'.tmps[35]? = some (.slice (some ⟨b, 0, none⟩) n cap) ∧ a'.tmps[36]? = some (.int .i64 n) ∧ a'.tmps[37]? = some (.int .i64 i) ∧
      a'.tmps[6]? = some (.iface 54 (.pointer (some ⟨W.heap.size, 0, none⟩))) ∧ Rep W' (T < ·) (.iface 54 (.pointer (some ⟨W.heap.size, 0, none⟩))) (.val (tk i).kd (tk i).s (tk i).ws (badAt tk n i)) ∧ Below W.heap.size W W') a W := by
  obtain ⟨xs, rfl, hx⟩ := hfr.lit
  have x0 := hx 0 _ (by omega) e0
  have x3 := hx 3 _ (by omega) e3
  have x4 := hx 4 _ (by omega) e4
  have x5 := hx 5 _ (by omega) e5
  have x35 := hx 35 _ (by omega) e35
  have x36 := hx 36 _ (by omega) e36
  have x37 := hx 37 _ (by omega) e37
  clear hx e0 e3 e4 e5 e35 e36 e37 hfr
  obtain ⟨Q, eQ⟩ : ∃ Q : Act → World → Prop, Q = fun a' W' => Fr a' ∧ a'.tmps[0]? = some (.slice (some ⟨b, 0, none⟩) n cap) ∧ a'.tmps[3]? = some (.slice (some ⟨T, 0, none⟩) n n) ∧ a'.tmps[4]? = some (.int .i64 i) ∧ a'.tmps[35]? = some (.slice (some ⟨b, 0, none⟩) n cap) ∧ a'.tmps[36]? = some (.int .i64 n) ∧ a'.tmps[37]? = some (.int .i64 i) ∧
      a'.tmps[6]? = some (.iface 54 (.pointer (some ⟨W.heap.size, 0, none⟩))) ∧ Rep W' (T < ·) (.iface 54 (.pointer (some ⟨W.heap.size, 0, none⟩))) (.val (tk i).kd (tk i).s (tk i).ws (badAt tk n i)) ∧ Below W.heap.size W W' := ⟨_, rfl⟩
  have HQ := Lib.hid eQ
  rw [← eQ]
  clear eQ
  have key : ∀ {C : Code}, Tryz.f30.body.bind (frg 33) = some C → Code.wp Tryz.prog C (OnNormal Q) (fr xs) W → Code.wp Tryz.prog c (OnNormal Q) (fr xs) W := fun e h => by
    rw [e] at hcode
    cases hcode
    exact h
  refine key rfl ?_
  clear key hcode
  simp only [fr, x0, x3, x4, x5, x35, x36, x37]
  clear x0 x3 x4 x5 x35 x36 x37
  have hPl : P0 < W.heap.size := World.block_lt_of_cell? _ _ htp.c0
  obtain ⟨d0, d1, d2, d3, d4, d5, d6⟩ := htp
  simp only [Nat.zero_add] at d1 d2 d3 d4 d5 d6
  have hrep : ∀ bad, bad = badAt tk n i → ∀ W', W' = (W.alloc (.cells #[.pointer (tk i).ch, .string (tk i).s, .int .i32 0, .int .u32 0, .int .u16 0, .int .u8 (tk i).kd, .int .u8 (tk i).ws, .bool bad] 80)).drew →
      Rep W' (T < ·) (.iface 54 (.pointer (some ⟨W.heap.size, 0, none⟩))) (.val (tk i).kd (tk i).s (tk i).ws (badAt tk n i)) ∧ Below W.heap.size W W' := fun bad hb W' hW => by
    subst hb
    subst hW
    exact ⟨.val W.heap.size _ _ _ _ (tk i).ch hTW (by simp [go_sem]) (by simp [go_sem]) (by simp [go_sem]) (by simp [go_sem]) (by simp [go_sem]) (by simp [go_sem]) (by simp [go_sem]) (by simp [go_sem]), ((Below.refl _ _).alloc (Nat.le_refl _) _).drew⟩
  have HREP := Lib.hid hrep
  clear hrep
  have eb : badAt tk n i = (decide (0 < i) && (decide (i + 1 < n) && (((tk i).kd == 23 || (tk i).kd == 22) && (((bits .and .u8 (tk i).ws 1 == 0) && (bits .and .u8 (tk (i - 1)).ws 2 == 0)) || ((bits .and .u8 (tk i).ws 2 == 0) && (bits .and .u8 (tk (i + 1)).ws 1 == 0)))))) := rfl
  have hpp := htk (i - 1) (by omega)
  have hqq := htk (i + 1) h1
  have p6 := hpp.c6
  have q6 := hqq.c6
  clear hpp hqq htk _hi
  generalize (tk (i - 1)).ws = wp at *
  generalize (tk (i + 1)).ws = wq at *
  generalize htki : tk i = t at *
  have HT := Lib.hid htki
  clear htki
  obtain ⟨ch, s, kd, ws⟩ := t
  simp only at *
  subst hk
  have hi0 : (0 : Int) < (i : Int) := by omega
  have hi1 : (i : Int) + 1 < (n : Int) := by omega
  have hbl : b < W.heap.size := World.block_lt_of_cell? _ _ p6
  rw [decide_eq_true h0, decide_eq_true h1, g0, g1, g2] at eb
  have eb : badAt tk n i = false := eb.trans (by simp)
  have HEB := Lib.hid eb
  clear eb
  go_region
  show Q _ _
  rw [HQ.out]
  dsimp only
  obtain ⟨hr, hb⟩ := HREP.out _ HEB.out.symm _ rfl
  exact ⟨⟨rfl, rfl⟩, rfl, rfl, rfl, rfl, rfl, rfl, rfl, hr, hb⟩

set_option maxHeartbeats 16000000 in
set_option maxRecDepth 100000 in
theorem reg33_s23d {c : Code} (hcode : Tryz.f30.body.bind (frg 33) = some c) (a : Act) (W : World) (b n cap i T P0 : Nat) (tk : Nat → TK)
    (hfr : Fr a) (e0 : a.tmps[0]? = some (.slice (some ⟨b, 0, none⟩) n cap)) (e3 : a.tmps[3]? = some (.slice (some ⟨T, 0, none⟩) n n)) (e4 : a.tmps[4]? = some (.int .i64 i)) (e5 : a.tmps[5]? = some (.pointer (some ⟨P0, 0, none⟩))) (e35 : a.tmps[35]? = some (.slice (some ⟨b, 0, none⟩) n cap)) (e36 : a.tmps[36]? = some (.int .i64 n)) (e37 : a.tmps[37]? = some (.int .i64 i))
    (hn : n ≤ 4096) (_hi : i < n) (htk : Toks W b n tk) (htp : TokAt W P0 0 (tk i)) (hTW : T < W.heap.size) (h0 : 0 < i) (h1 : i + 1 < n) (hk : (tk i).kd = 23) (g0 : (bits .and .u8 (tk i).ws 1 == 0) = false) (g2 : (bits .and .u8 (tk i).ws 2 == 0) = true) :
    Code.wp Tryz.prog c (OnNormal fun a' W' => Fr a' ∧ a'.tmps[0]? = some (.slice (some ⟨b, 0, none⟩) n cap) ∧ a'.tmps[3]? = some (.slice (some ⟨T, 0, none⟩) n n) ∧ a'.tmps[4]? = some (.int .i64 i) ∧ a'.tmps[35]? = some (.slice (some ⟨b, 0, none⟩) n cap) ∧ a'.tmps[36]? = some (.int .i64 n) ∧ a'.tmps[37]? = some (.int .i64 i) ∧
      a'.tmps[6]? = some (.iface 54 (.pointer (some ⟨W.heap.size, 0, none⟩))) ∧ Rep W' (T < ·) (.iface 54 (.pointer (some ⟨W.heap.size, 0, none⟩))) (.val (tk i).kd (tk i).s (tk i).ws (badAt tk n i)) ∧ Below W.heap.size W W') a W := by
  obtain ⟨xs, rfl, hx⟩ := hfr.lit
  have x0 := hx 0 _ (by omega) e0
  have x3 := hx 3 _ (by omega) e3
  have x4 := hx 4 _ (by omega) e4
  have x5 := hx 5 _ (by omega) e5
  have x35 := hx 35 _ (by omega) e35
  have x36 := hx 36 _ (by omega) e36
  have x37 := hx 37 _ (by omega) e37
  clear hx e0 e3 e4 e5 e35 e36 e37 hfr
  obtain ⟨Q, eQ⟩ : ∃ Q : Act → World → Prop, Q = fun a' W' => Fr a' ∧ a'.tmps[0]? = some (.slice (some ⟨b, 0, none⟩) n cap) ∧ a'.tmps[3]? = some (.slice (some ⟨T, 0, none⟩) n n) ∧ a'.tmps[4]? = some (.int .i64 i) ∧ a'.tmps[35]? = some (.slice (some ⟨b, 0, none⟩) n cap) ∧ a'.tmps[36]? = some (.int .i64 n) ∧ a'.tmps[37]? = some (.int .i64 i) ∧
      a'.tmps[6]? = some (.iface 54 (.pointer (some ⟨W.heap.size, 0, none⟩))) ∧ Rep W' (T < ·) (.iface 54 (.pointer (some ⟨W.heap.size, 0, none⟩))) (.val (tk i).kd (tk i).s (tk i).ws (badAt tk n i)) ∧ Below W.heap.size W W' := ⟨_, rfl⟩
  have HQ := Lib.hid eQ
  rw [← eQ]
  clear eQ
  have key : ∀ {C : Code}, Tryz.f30.body.bind (frg 33) = some C → Code.wp Tryz.prog C (OnNormal Q) (fr xs) W → Code.wp Tryz.prog c (OnNormal Q) (fr xs) W := fun e h => by
    rw [e] at hcode
    cases hcode
    exact h
  refine key rfl ?_
  clear key hcode
  simp only [fr, x0, x3, x4, x5, x35, x36, x37]
  clear x0 x3 x4 x5 x35 x36 x37
  have hPl : P0 < W.heap.size := World.block_lt_of_cell? _ _ htp.c0
  obtain ⟨d0, d1, d2, d3, d4, d5, d6⟩ := htp
  simp only [Nat.zero_add] at d1 d2 d3 d4 d5 d6
  have hrep : ∀ bad, bad = badAt tk n i → ∀ W', W' = (W.alloc (.cells #[.pointer (tk i).ch, .string (tk i).s, .int .i32 0, .int .u32 0, .int .u16 0, .int .u8 (tk i).kd, .int .u8 (tk i).ws, .bool bad] 80)).drew →
      Rep W' (T < ·) (.iface 54 (.pointer (some ⟨W.heap.size, 0, none⟩))) (.val (tk i).kd (tk i).s (tk i).ws (badAt tk n i)) ∧ Below W.heap.size W W' := fun bad hb W' hW => by
    subst hb
    subst hW
    exact ⟨.val W.heap.size _ _ _ _ (tk i).ch hTW (by simp [go_sem]) (by simp [go_sem]) (by simp [go_sem]) (by simp [go_sem]) (by simp [go_sem]) (by simp [go_sem]) (by simp [go_sem]) (by simp [go_sem]), ((Below.refl _ _).alloc (Nat.le_refl _) _).drew⟩
  have HREP := Lib.hid hrep
  clear hrep
  have eb : badAt tk n i = (decide (0 < i) && (decide (i + 1 < n) && (((tk i).kd == 23 || (tk i).kd == 22) && (((bits .and .u8 (tk i).ws 1 == 0) && (bits .and .u8 (tk (i - 1)).ws 2 == 0)) || ((bits .and .u8 (tk i).ws 2 == 0) && (bits .and .u8 (tk (i + 1)).ws 1 == 0)))))) := rfl
  have hpp := htk (i - 1) (by omega)
  have hqq := htk (i + 1) h1
  have p6 := hpp.c6
  have q6 := hqq.c6
  clear hpp hqq htk _hi
  generalize (tk (i - 1)).ws = wp at *
  generalize (tk (i + 1)).ws = wq at *
  generalize htki : tk i = t at *
  have HT := Lib.hid htki
  clear htki
  obtain ⟨ch, s, kd, ws⟩ := t
  simp only at *
  subst hk
  have hi0 : (0 : Int) < (i : Int) := by omega
  have hi1 : (i : Int) + 1 < (n : Int) := by omega
  have hbl : b < W.heap.size := World.block_lt_of_cell? _ _ p6
  rw [decide_eq_true h0, decide_eq_true h1, g0, g2] at eb
  have eb : badAt tk n i = (bits .and .u8 wq 1 == 0) := eb.trans (by simp)
  have HEB := Lib.hid eb
  clear eb
  go_region
  show Q _ _
  rw [HQ.out]
  dsimp only
  obtain ⟨hr, hb⟩ := HREP.out _ HEB.out.symm _ rfl
  exact ⟨⟨rfl, rfl⟩, rfl, rfl, rfl, rfl, rfl, rfl, rfl, hr, hb⟩

set_option maxHeartbeats 16000000 in
set_option maxRecDepth 100000 in
theorem reg33_s23e {c : Code} (hcode : Tryz.f30.body.bind (frg 33) = some c) (a : Act) (W : World) (b n cap i T P0 : Nat) (tk : Nat → TK)
    (hfr : Fr a) (e0 : a.tmps[0]? = some (.slice (some ⟨b, 0, none⟩) n cap)) (e3 : a.tmps[3]? = some (.slice (some ⟨T, 0, none⟩) n n)) (e4 : a.tmps[4]? = some (.int .i64 i)) (e5 : a.tmps[5]? = some (.pointer (some ⟨P0, 0, none⟩))) (e35 : a.tmps[35]? = some (.slice (some ⟨b, 0, none⟩) n cap)) (e36 : a.tmps[36]? = some (.int .i64 n)) (e37 : a.tmps[37]? = some (.int .i64 i))
    (hn : n ≤ 4096) (_hi : i < n) (htk : Toks W b n tk) (htp : TokAt W P0 0 (tk i)) (hTW : T < W.heap.size) (h0 : 0 < i) (h1 : i + 1 < n) (hk : (tk i).kd = 23) (g0 : (bits .and .u8 (tk i).ws 1 == 0) = false) (g2 : (bits .and .u8 (tk i).ws 2 == 0) = false) :
    Code.wp Tryz.prog c (OnNormal fun a' W' => Fr a' ∧ a'.tmps[0]? = some (.slice (some ⟨b, 0, none⟩) n cap) ∧ a'.tmps[3]? = some (.slice (some ⟨T, 0, none⟩) n n) ∧ a'.tmps[4]? = some (.int .i64 i) ∧ a'.tmps[35]? = some (.slice (some ⟨b, 0, none⟩) n cap) ∧ a'.tmps[36]? = some (.int .i64 n) ∧ a'.tmps[37]? = some (.int .i64 i) ∧
      a'.tmps[6]? = some (.iface 54 (.pointer (some ⟨W.heap.size, 0, none⟩))) ∧ Rep W' (T < ·) (.iface 54 (.pointer (some ⟨W.heap.size, 0, none⟩))) (.val (tk i).kd (tk i).s (tk i).ws (badAt tk n i)) ∧ Below W.heap.size W W') a W := by
  obtain ⟨xs, rfl, hx⟩ := hfr.lit
  have x0 := hx 0 _ (by omega) e0
  have x3 := hx 3 _ (by omega) e3
  have x4 := hx 4 _ (by omega) e4
  have x5 := hx 5 _ (by omega) e5
  have x35 := hx 35 _ (by omega) e35
  have x36 := hx 36 _ (by omega) e36
  have x37 := hx 37 _ (by omega) e37
  clear hx e0 e3 e4 e5 e35 e36 e37 hfr
  obtain ⟨Q, eQ⟩ : ∃ Q : Act → World → Prop, Q = fun a' W' => Fr a' ∧ a'.tmps[0]? = some (.slice (some ⟨b, 0, none⟩) n cap) ∧ a'.tmps[3]? = some (.slice (some ⟨T, 0, none⟩) n n) ∧ a'.tmps[4]? = some (.int .i64 i) ∧ a'.tmps[35]? = some (.slice (some ⟨b, 0, none⟩) n cap) ∧ a'.tmps[36]? = some (.int .i64 n) ∧ a'.tmps[37]? = some (.int .i64 i) ∧
      a'.tmps[6]? = some (.iface 54 (.pointer (some ⟨W.heap.size, 0, none⟩))) ∧ Rep W' (T < ·) (.iface 54 (.pointer (some ⟨W.heap.size, 0, none⟩))) (.val (tk i).kd (tk i).s (tk i).ws (badAt tk n i)) ∧ Below W.heap.size W W' := ⟨_, rfl⟩
  have HQ := Lib.hid eQ
  rw [← eQ]
  clear eQ
  have key : ∀ {C : Code}, Tryz.f30.body.bind (frg 33) = some C → Code.wp Tryz.prog C (OnNormal Q) (fr xs) W → Code.wp Tryz.prog c (OnNormal Q) (fr xs) W := fun e h => by
    rw [e] at hcode
    cases hcode
    exact h
  refine key rfl ?_
  clear key hcode
  simp only [fr, x0, x3, x4, x5, x35, x36, x37]
  clear x0 x3 x4 x5 x35 x36 x37
  have hPl : P0 < W.heap.size := World.block_lt_of_cell? _ _ htp.c0
  obtain ⟨d0, d1, d2, d3, d4, d5, d6⟩ := htp
  simp only [Nat.zero_add] at d1 d2 d3 d4 d5 d6
  have hrep : ∀ bad, bad = badAt tk n i → ∀ W', W' = (W.alloc (.cells #[.pointer (tk i).ch, .string (tk i).s, .int .i32 0, .int .u32 0, .int .u16 0, .int .u8 (tk i).kd, .int .u8 (tk i).ws, .bool bad] 80)).drew →
      Rep W' (T < ·) (.iface 54 (.pointer (some ⟨W.heap.size, 0, none⟩))) (.val (tk i).kd (tk i).s (tk i).ws (badAt tk n i)) ∧ Below W.heap.size W W' := fun bad hb W' hW => by
    subst hb
    subst hW
    exact ⟨.val W.heap.size _ _ _ _ (tk i).ch hTW (by simp [go_sem]) (by simp [go_sem]) (by simp [go_sem]) (by simp [go_sem]) (by simp [go_sem]) (by simp [go_sem]) (by simp [go_sem]) (by simp [go_sem]), ((Below.refl _ _).alloc (Nat.le_refl _) _).drew⟩
  have HREP := Lib.hid hrep
  clear hrep
  have eb : badAt tk n i = (decide (0 < i) && (decide (i + 1 < n) && (((tk i).kd == 23 || (tk i).kd == 22) && (((bits .and .u8 (tk i).ws 1 == 0) && (bits .and .u8 (tk (i - 1)).ws 2 == 0)) || ((bits .and .u8 (tk i).ws 2 == 0) && (bits .and .u8 (tk (i + 1)).ws 1 == 0)))))) := rfl
  have hpp := htk (i - 1) (by omega)
  have hqq := htk (i + 1) h1
  have p6 := hpp.c6
  have q6 := hqq.c6
  clear hpp hqq htk _hi
  generalize (tk (i - 1)).ws = wp at *
  generalize (tk (i + 1)).ws = wq at *
  generalize htki : tk i = t at *
  have HT := Lib.hid htki
  clear htki
  obtain ⟨ch, s, kd, ws⟩ := t
  simp only at *
  subst hk
  have hi0 : (0 : Int) < (i : Int) := by omega
  have hi1 : (i : Int) + 1 < (n : Int) := by omega
  have hbl : b < W.heap.size := World.block_lt_of_cell? _ _ p6
  rw [decide_eq_true h0, decide_eq_true h1, g0, g2] at eb
  have eb : badAt tk n i = false := eb.trans (by simp)
  have HEB := Lib.hid eb
  clear eb
  go_region
  show Q _ _
  rw [HQ.out]
  dsimp only
  obtain ⟨hr, hb⟩ := HREP.out _ HEB.out.symm _ rfl
  exact ⟨⟨rfl, rfl⟩, rfl, rfl, rfl, rfl, rfl, rfl, rfl, hr, hb⟩
end Go.Proofs.YthbfppnegodpoaaGreatDoor
