/-
  tryToParseCalcTerm's first loop, walked: tokens; the node of a token that is no number.
-/
import Derived.Test.YthbfppnegodpoaaGreatDoorX
import Derived.Test.YthbfppnegodpoaaGreatDoorM
import Derived.Deep.RegionWith
namespace Go.Proofs.YthbfppnegodpoaaGreatDoor
open Go.RowKit Go.Deep Go.PlainAid

/-- A token: its children's address, its text, kind and whitespace. -/
structure TK where
  ch : Option Addr
  s : ByteArray
  kd : Int
  ws : Int

/-- The cells of one token. -/
structure TokAt (W : World) (b o : Nat) (t : TK) : Prop where
  c0 : W.cell? ⟨b, o, none⟩ = some (.pointer t.ch)
  c1 : W.cell? ⟨b, o + 1, none⟩ = some (.string t.s)
  c2 : W.cell? ⟨b, o + 2, none⟩ = some (.int .i32 0)
  c3 : W.cell? ⟨b, o + 3, none⟩ = some (.int .u32 0)
  c4 : W.cell? ⟨b, o + 4, none⟩ = some (.int .u16 0)
  c5 : W.cell? ⟨b, o + 5, none⟩ = some (.int .u8 t.kd)
  c6 : W.cell? ⟨b, o + 6, none⟩ = some (.int .u8 t.ws)
theorem TokAt.below {W W' : World} {b o : Nat} {t : TK} (h : TokAt W b o t) (hb : Below W.heap.size W W') : TokAt W' b o t :=
  ⟨cell_later hb h.c0, cell_later hb h.c1, cell_later hb h.c2, cell_later hb h.c3, cell_later hb h.c4, cell_later hb h.c5, cell_later hb h.c6⟩
def Toks (W : World) (b n : Nat) (tk : Nat → TK) : Prop := ∀ i, i < n → TokAt W b (i * 7) (tk i)
theorem Toks.below {W W' : World} {b n : Nat} {tk : Nat → TK} (h : Toks W b n tk) (hb : Below W.heap.size W W') : Toks W' b n tk := fun i hi => (h i hi).below hb

/-- Left behind its last statement, or left by a return. -/
def OnNR (p r : Act → World → Prop) : Exit → Act → World → Prop
  | .normal, a, w => p a w
  | .ret, a, w => r a w
  | _, _, _ => False

theorem leaf_fin {W W6 : World} {T n i : Nat} {ts : List CT} {t : CT} {v : Value} (hrow : Row W (T < ·) T n ts) (hlen : ts.length = i) (hi : i < n) (hb : Below W.heap.size W W6) (hr : Rep W6 (T < ·) v t) :
    Row (W6.setCell ⟨T, i * 2, none⟩ v) (T < ·) T n (ts ++ [t]) ∧ Below T W (W6.setCell ⟨T, i * 2, none⟩ v) := by
  subst hlen
  exact ⟨(hrow.below hb).push hr hi, (hb.mono (Nat.le_of_lt hrow.lt)).setCell (Nat.le_refl _) _⟩

/-- The fold's answer, wherever it is asked from here on. -/
def EF (W0 : World) (s t : ByteArray) (v : Bool) : Prop := ∀ W, Below W0.heap.size W0 W → Calls Tryz.prog 40 #[.string s, .string t] W fun e w' => e = .returned (.bool v) ∧ Below W.heap.size W w'
theorem EF.later {W0 W : World} {s t : ByteArray} {v : Bool} (h : EF W0 s t v) (hb : Below W0.heap.size W0 W) : EF W s t v := fun W' hW => h W' (hb.trans (hW.mono hb.size))

def wVar : ByteArray := ⟨#[118, 97, 114]⟩
def wCalc : ByteArray := ⟨#[99, 97, 108, 99]⟩

/-- The region n in the code. -/
def frg (n : Nat) : Code → Option Code
  | .seq a b => match frg n a with
    | some c => some c
    | none => frg n b
  | .cond _ a b => match frg n a with
    | some c => some c
    | none => frg n b
  | .block _ b => frg n b
  | .loop b => frg n b
  | .region i o m => if i = n then some (.region i o m) else none
  | _ => none

/-- A plus or minus without space on both sides. -/
def badAt (tk : Nat → TK) (n i : Nat) : Bool :=
  decide (0 < i) && (decide (i + 1 < n) && (((tk i).kd == 23 || (tk i).kd == 22) && (((bits .and .u8 (tk i).ws 1 == 0) && (bits .and .u8 (tk (i - 1)).ws 2 == 0)) || ((bits .and .u8 (tk i).ws 2 == 0) && (bits .and .u8 (tk (i + 1)).ws 1 == 0)))))

set_option maxHeartbeats 16000000 in
set_option maxRecDepth 100000 in
theorem reg33_edge {c : Code} (hcode : Tryz.f30.body.bind (frg 33) = some c) (a : Act) (W : World) (b n cap i T P0 : Nat) (tk : Nat → TK)
    (hfr : Fr a) (e0 : a.tmps[0]? = some (.slice (some ⟨b, 0, none⟩) n cap)) (e3 : a.tmps[3]? = some (.slice (some ⟨T, 0, none⟩) n n)) (e4 : a.tmps[4]? = some (.int .i64 i)) (e5 : a.tmps[5]? = some (.pointer (some ⟨P0, 0, none⟩))) (e35 : a.tmps[35]? = some (.slice (some ⟨b, 0, none⟩) n cap)) (e36 : a.tmps[36]? = some (.int .i64 n)) (e37 : a.tmps[37]? = some (.int .i64 i))
    (hn : n ≤ 4096) (hi : i < n) (_htk : Toks W b n tk) (htp : TokAt W P0 0 (tk i)) (hTW : T < W.heap.size) (hin : ¬ (0 < i ∧ i + 1 < n)) :
    Code.wp Tryz.prog c (OnNormal fun a' W' => Fr a' ∧ a'.tmps[0]? = some (.slice (some ⟨b, 0, none⟩) n cap) ∧ a'.tmps[3]? = some (.slice (some ⟨T, 0, none⟩) n n) ∧ a'.tmps[4]? = some (.int .i64 i) ∧ a'.tmps[35]? = some (.slice (some ⟨b, 0, none⟩) n cap) ∧ a'.tmps[36]? = some (.int .i64 n) ∧ a'.tmps[37]? = some (.int .i64 i) ∧
      a'.tmps[6]? = some (.iface 54 (.pointer (some ⟨W.heap.size, 0, none⟩))) ∧ Rep W' (T < ·) (.iface 54 (.pointer (some ⟨W.heap.size, 0, none⟩))) (.val (tk i).kd (tk i).s (tk i).ws (badAt tk n i)) ∧ Below W.heap.size W W') a W := by
  obtain ⟨xs, rfl, hx⟩ := hfr.lit
  have x0 := hx 0 _ (by omega) e0
  have x3 := hx 3 _ (by omega) e3
  have x4 := hx 4 _ (by omega) e4
  have x5 := hx 5 _ (by omega) e5
  have x35 := hx 35 _ (by omega) e35
  have x36 := hx 36 _ (by omega) e36
  have x37 := hx 37 _ (by omega) e37
  clear hx e0 e3 e4 e5 e35 e36 e37 hfr
  obtain ⟨Q, eQ⟩ : ∃ Q : Act → World → Prop, Q = fun a' W' => Fr a' ∧ a'.tmps[0]? = some (.slice (some ⟨b, 0, none⟩) n cap) ∧ a'.tmps[3]? = some (.slice (some ⟨T, 0, none⟩) n n) ∧ a'.tmps[4]? = some (.int .i64 i) ∧ a'.tmps[35]? = some (.slice (some ⟨b, 0, none⟩) n cap) ∧ a'.tmps[36]? = some (.int .i64 n) ∧ a'.tmps[37]? = some (.int .i64 i) ∧
      a'.tmps[6]? = some (.iface 54 (.pointer (some ⟨W.heap.size, 0, none⟩))) ∧ Rep W' (T < ·) (.iface 54 (.pointer (some ⟨W.heap.size, 0, none⟩))) (.val (tk i).kd (tk i).s (tk i).ws (badAt tk n i)) ∧ Below W.heap.size W W' := ⟨_, rfl⟩
  have HQ := Lib.hid eQ
  rw [← eQ]
  clear eQ
  have key : ∀ {C : Code}, Tryz.f30.body.bind (frg 33) = some C → Code.wp Tryz.prog C (OnNormal Q) (fr xs) W → Code.wp Tryz.prog c (OnNormal Q) (fr xs) W := fun e h => by
    rw [e] at hcode
    cases hcode
    exact h
  refine key rfl ?_
  clear key hcode
  simp only [fr, x0, x3, x4, x5, x35, x36, x37]
  clear x0 x3 x4 x5 x35 x36 x37
  have hPl : P0 < W.heap.size := World.block_lt_of_cell? _ _ htp.c0
  obtain ⟨d0, d1, d2, d3, d4, d5, d6⟩ := htp
  simp only [Nat.zero_add] at d1 d2 d3 d4 d5 d6
  have hrep : ∀ bad, bad = badAt tk n i → ∀ W', W' = (W.alloc (.cells #[.pointer (tk i).ch, .string (tk i).s, .int .i32 0, .int .u32 0, .int .u16 0, .int .u8 (tk i).kd, .int .u8 (tk i).ws, .bool bad] 80)).drew →
      Rep W' (T < ·) (.iface 54 (.pointer (some ⟨W.heap.size, 0, none⟩))) (.val (tk i).kd (tk i).s (tk i).ws (badAt tk n i)) ∧ Below W.heap.size W W' := fun bad hb W' hW => by
    subst hb
    subst hW
    exact ⟨.val W.heap.size _ _ _ _ (tk i).ch hTW (by simp [go_sem]) (by simp [go_sem]) (by simp [go_sem]) (by simp [go_sem]) (by simp [go_sem]) (by simp [go_sem]) (by simp [go_sem]) (by simp [go_sem]), ((Below.refl _ _).alloc (Nat.le_refl _) _).drew⟩
  have HREP := Lib.hid hrep
  clear hrep
  have eb : badAt tk n i = (decide (0 < i) && (decide (i + 1 < n) && (((tk i).kd == 23 || (tk i).kd == 22) && (((bits .and .u8 (tk i).ws 1 == 0) && (bits .and .u8 (tk (i - 1)).ws 2 == 0)) || ((bits .and .u8 (tk i).ws 2 == 0) && (bits .and .u8 (tk (i + 1)).ws 1 == 0)))))) := rfl
  generalize htki : tk i = t at *
  have HT := Lib.hid htki
  clear htki
  obtain ⟨ch, s, kd, ws⟩ := t
  simp only at *
  clear _htk
  by_cases h0 : i = 0
  · subst h0
    simp only [Nat.lt_irrefl, decide_false, Bool.false_and] at eb
    have HEB := Lib.hid eb
    clear eb
    go_region
    show Q _ _
    rw [HQ.out]
    dsimp only
    obtain ⟨hr, hb⟩ := HREP.out _ HEB.out.symm _ rfl
    exact ⟨⟨rfl, rfl⟩, rfl, rfl, rfl, rfl, rfl, rfl, rfl, hr, hb⟩
  · have h0n : 0 < i := by omega
    have hi0 : (0 : Int) < (i : Int) := by omega
    have hi1 : ¬ (i : Int) + 1 < (n : Int) := by omega
    clear hin
    have hd1 : decide ((i : Int) + 1 < (n : Int)) = false := decide_eq_false hi1
    rw [show decide (i + 1 < n) = false from decide_eq_false (by omega), Bool.false_and, Bool.and_false] at eb
    have HEB := Lib.hid eb
    clear eb
    go_region
    show Q _ _
    rw [HQ.out]
    dsimp only
    obtain ⟨hr, hb⟩ := HREP.out _ HEB.out.symm _ rfl
    exact ⟨⟨rfl, rfl⟩, rfl, rfl, rfl, rfl, rfl, rfl, rfl, hr, hb⟩

set_option maxHeartbeats 16000000 in
set_option maxRecDepth 100000 in
theorem reg33_plain {c : Code} (hcode : Tryz.f30.body.bind (frg 33) = some c) (a : Act) (W : World) (b n cap i T P0 : Nat) (tk : Nat → TK)
    (hfr : Fr a) (e0 : a.tmps[0]? = some (.slice (some ⟨b, 0, none⟩) n cap)) (e3 : a.tmps[3]? = some (.slice (some ⟨T, 0, none⟩) n n)) (e4 : a.tmps[4]? = some (.int .i64 i)) (e5 : a.tmps[5]? = some (.pointer (some ⟨P0, 0, none⟩))) (e35 : a.tmps[35]? = some (.slice (some ⟨b, 0, none⟩) n cap)) (e36 : a.tmps[36]? = some (.int .i64 n)) (e37 : a.tmps[37]? = some (.int .i64 i))
    (hn : n ≤ 4096) (_hi : i < n) (_htk : Toks W b n tk) (htp : TokAt W P0 0 (tk i)) (hTW : T < W.heap.size) (h0 : 0 < i) (h1 : i + 1 < n) (hk : ((tk i).kd == 23) = false ∧ ((tk i).kd == 22) = false) :
    Code.wp Tryz.prog c (OnNormal fun a' W' => Fr a' ∧ a'.tmps[0]? = some (.slice (some ⟨b, 0, none⟩) n cap) ∧ a'.tmps[3]? = some (.slice (some ⟨T, 0, none⟩) n n) ∧ a'.tmps[4]? = some (.int .i64 i) ∧ a'.tmps[35]? = some (.slice (some ⟨b, 0, none⟩) n cap) ∧ a'.tmps[36]? = some (.int .i64 n) ∧ a'.tmps[37]? = some (.int .i64 i) ∧
      a'.tmps[6]? = some (.iface 54 (.pointer (some ⟨W.heap.size, 0, none⟩))) ∧ Rep W' (T < ·) (.iface 54 (.pointer (some ⟨W.heap.size, 0, none⟩))) (.val (tk i).kd (tk i).s (tk i).ws (badAt tk n i)) ∧ Below W.heap.size W W') a W := by
  obtain ⟨xs, rfl, hx⟩ := hfr.lit
  have x0 := hx 0 _ (by omega) e0
  have x3 := hx 3 _ (by omega) e3
  have x4 := hx 4 _ (by omega) e4
  have x5 := hx 5 _ (by omega) e5
  have x35 := hx 35 _ (by omega) e35
  have x36 := hx 36 _ (by omega) e36
  have x37 := hx 37 _ (by omega) e37
  clear hx e0 e3 e4 e5 e35 e36 e37 hfr
  obtain ⟨Q, eQ⟩ : ∃ Q : Act → World → Prop, Q = fun a' W' => Fr a' ∧ a'.tmps[0]? = some (.slice (some ⟨b, 0, none⟩) n cap) ∧ a'.tmps[3]? = some (.slice (some ⟨T, 0, none⟩) n n) ∧ a'.tmps[4]? = some (.int .i64 i) ∧ a'.tmps[35]? = some (.slice (some ⟨b, 0, none⟩) n cap) ∧ a'.tmps[36]? = some (.int .i64 n) ∧ a'.tmps[37]? = some (.int .i64 i) ∧
      a'.tmps[6]? = some (.iface 54 (.pointer (some ⟨W.heap.size, 0, none⟩))) ∧ Rep W' (T < ·) (.iface 54 (.pointer (some ⟨W.heap.size, 0, none⟩))) (.val (tk i).kd (tk i).s (tk i).ws (badAt tk n i)) ∧ Below W.heap.size W W' := ⟨_, rfl⟩
  have HQ := Lib.hid eQ
  rw [← eQ]
  clear eQ
  have key : ∀ {C : Code}, Tryz.f30.body.bind (frg 33) = some C → Code.wp Tryz.prog C (OnNormal Q) (fr xs) W → Code.wp Tryz.prog c (OnNormal Q) (fr xs) W := fun e h => by
    rw [e] at hcode
    cases hcode
    exact h
  refine key rfl ?_
  clear key hcode
  simp only [fr, x0, x3, x4, x5, x35, x36, x37]
  clear x0 x3 x4 x5 x35 x36 x37
  have hPl : P0 < W.heap.size := World.block_lt_of_cell? _ _ htp.c0
  obtain ⟨d0, d1, d2, d3, d4, d5, d6⟩ := htp
  simp only [Nat.zero_add] at d1 d2 d3 d4 d5 d6
  have hrep : ∀ bad, bad = badAt tk n i → ∀ W', W' = (W.alloc (.cells #[.pointer (tk i).ch, .string (tk i).s, .int .i32 0, .int .u32 0, .int .u16 0, .int .u8 (tk i).kd, .int .u8 (tk i).ws, .bool bad] 80)).drew →
      Rep W' (T < ·) (.iface 54 (.pointer (some ⟨W.heap.size, 0, none⟩))) (.val (tk i).kd (tk i).s (tk i).ws (badAt tk n i)) ∧ Below W.heap.size W W' := fun bad hb W' hW => by
    subst hb
    subst hW
    exact ⟨.val W.heap.size _ _ _ _ (tk i).ch hTW (by simp [go_sem]) (by simp [go_sem]) (by simp [go_sem]) (by simp [go_sem]) (by simp [go_sem]) (by simp [go_sem]) (by simp [go_sem]) (by simp [go_sem]), ((Below.refl _ _).alloc (Nat.le_refl _) _).drew⟩
  have HREP := Lib.hid hrep
  clear hrep
  have eb : badAt tk n i = (decide (0 < i) && (decide (i + 1 < n) && (((tk i).kd == 23 || (tk i).kd == 22) && (((bits .and .u8 (tk i).ws 1 == 0) && (bits .and .u8 (tk (i - 1)).ws 2 == 0)) || ((bits .and .u8 (tk i).ws 2 == 0) && (bits .and .u8 (tk (i + 1)).ws 1 == 0)))))) := rfl
  generalize htki : tk i = t at *
  have HT := Lib.hid htki
  clear htki
  obtain ⟨ch, s, kd, ws⟩ := t
  simp only at *
  clear _htk _hi
  obtain ⟨k23, k22⟩ := hk
  have hi0 : (0 : Int) < (i : Int) := by omega
  have hi1 : (i : Int) + 1 < (n : Int) := by omega
  rw [k23, k22, Bool.or_false, Bool.false_and, Bool.and_false, Bool.and_false] at eb
  have HEB := Lib.hid eb
  clear eb
  go_region
  show Q _ _
  rw [HQ.out]
  dsimp only
  obtain ⟨hr, hb⟩ := HREP.out _ HEB.out.symm _ rfl
  exact ⟨⟨rfl, rfl⟩, rfl, rfl, rfl, rfl, rfl, rfl, rfl, hr, hb⟩
end Go.Proofs.YthbfppnegodpoaaGreatDoor
