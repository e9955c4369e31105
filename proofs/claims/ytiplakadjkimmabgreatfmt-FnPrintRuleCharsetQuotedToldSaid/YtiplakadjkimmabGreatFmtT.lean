/-
  The law FnPrintRuleCharsetQuoted: the escaped body, and zzQuoteModel.
-/
import Derived.Test.YtiplakadjkimmabGreatFmtS
import Derived.Test.YtiplakadjkimmabGreatFmtM
namespace Go.Proofs.YtiplakadjkimmabGreatFmt
open Go.RowKit Go.Deep Go.PlainAid

def by8 (s : ByteArray) (i : Nat) : UInt8 := s.data.toList.getD i 0
theorem bt_by (s : ByteArray) (i : Nat) : bt s i = ((by8 s i).toNat : Int) := by
  unfold bt by8
  by_cases h : i < s.size
  · rw [dif_pos h, List.getD_eq_getElem?_getD, List.getElem?_eq_getElem (by rw [bs_len]; exact h)]; rfl
  · rw [dif_neg h, List.getD_eq_getElem?_getD, List.getElem?_eq_none (by rw [bs_len]; omega)]; rfl

/-- Is the slash there the one of a closing style tag? -/
def hitS (s : ByteArray) (i : Nat) : Bool := decide (1 ≤ i) && (bt s (i - 1) == 60) && sty s (i + 1)
/-- Is the byte there escaped? -/
def escB (s : ByteArray) (i : Nat) : Bool := (bt s i == 92) || (bt s i == 34) || ((bt s i == 47) && hitS s i)
def escAt (s : ByteArray) (i : Nat) : List UInt8 := if escB s i then [92, by8 s i] else [by8 s i]
/-- The body of the first i bytes. -/
def bodyE (s : ByteArray) : Nat → List UInt8
  | 0 => []
  | i + 1 => bodyE s i ++ escAt s i

theorem esc_yes {s : ByteArray} {i : Nat} (h : escB s i = true) : bodyE s (i + 1) = bodyE s i ++ [92, by8 s i] := by
  show bodyE s i ++ escAt s i = _
  unfold escAt
  rw [if_pos h]
theorem esc_no {s : ByteArray} {i : Nat} (h : escB s i = false) : bodyE s (i + 1) = bodyE s i ++ [by8 s i] := by
  show bodyE s i ++ escAt s i = _
  unfold escAt
  rw [if_neg (by simp [h])]
theorem bodyE_len (s : ByteArray) (i : Nat) : (bodyE s i).length ≤ 2 * i := by
  induction i with
  | zero => exact Nat.zero_le _
  | succ i ih =>
    show (bodyE s i ++ escAt s i).length ≤ _
    rw [List.length_append]
    unfold escAt
    split
    · simp; omega
    · simp; omega

theorem row_app1 {w : World} {H N m : Nat} {out : List UInt8} {c : UInt8} {a : Int} (h : w.rowIs H 5 N (fun j => bf (out.getD j 0))) (hm : m = out.length) (ha : a = (c.toNat : Int)) : (w.setCell ⟨H, m, none⟩ (.int .u8 a)).rowIs H 5 N (fun j => bf ((out ++ [c]).getD j 0)) := by
  subst ha
  refine (h.set m (.int .u8 (c.toNat : Int))).congr (fun j hj => ?_)
  show _ = bf _
  rw [getD_snoc8, ← hm]
  by_cases e : j = m
  · rw [if_pos e, if_pos e]; rfl
  · rw [if_neg e, if_neg e]
theorem row_app2 {w : World} {H N m : Nat} {out : List UInt8} {c d : UInt8} {a b : Int} (h : w.rowIs H 5 N (fun j => bf (out.getD j 0))) (hm : m = out.length) (ha : a = (c.toNat : Int)) (hb : b = (d.toNat : Int)) : ((w.setCell ⟨H, m, none⟩ (.int .u8 a)).setCell ⟨H, m + 1, none⟩ (.int .u8 b)).rowIs H 5 N (fun j => bf ((out ++ [c, d]).getD j 0)) := by
  have h1 := row_app1 h hm ha
  have h2 := row_app1 (m := m + 1) h1 (by rw [List.length_append, ← hm]; rfl) hb
  rw [List.append_assoc] at h2
  exact h2

/-- string(b) of bytes that are known. -/
theorem conv_slc {w : World} {ad : Addr} {l : List UInt8} {m : Nat} (c : Nat) (h : Slc bf 0 w (some ad) l) (hm : m = l.length) : (convert 31 9 (.slice (some ad) m c)).run Tryz.prog w = .ok (.string ⟨l.toArray⟩) w := by
  subst hm
  refine run_convert_bytes_back w 31 9 5 ad c l Tryz.underlying31 Tryz.underlying5 Tryz.underlying9 (fun j hj => ?_)
  obtain ⟨b, off, e, hc⟩ := h j hj
  cases e
  rw [show (⟨b, off, none⟩ : Addr).add j = ⟨b, off + j, none⟩ by unfold Addr.add; split <;> simp_all, hc, List.getD_eq_getElem?_getD, List.getElem?_eq_getElem hj]
  rfl

theorem esc_47 {s : ByteArray} {k : Nat} (h : bt s k = 47) : escB s k = hitS s k := by
  unfold escB
  rw [h]
  rfl
theorem esc_other {s : ByteArray} {k : Nat} (h1 : bt s k ≠ 92) (h2 : bt s k ≠ 34) (h3 : bt s k ≠ 47) : escB s k = false := by
  unfold escB
  simp [h1, h2, h3]
theorem hit_first (s : ByteArray) : hitS s 0 = false := rfl
theorem hit_succ {s : ByteArray} {k : Nat} (h : bt s k = 60) : hitS s (k + 1) = sty s (k + 1 + 1) := by
  unfold hitS
  rw [show k + 1 - 1 = k by omega, h]
  simp
theorem hit_not {s : ByteArray} {k : Nat} (h : bt s k ≠ 60) : hitS s (k + 1) = false := by
  unfold hitS
  rw [show k + 1 - 1 = k by omega]
  simp [h]

set_option maxRecDepth 100000 in
set_option maxHeartbeats 8000000 in
theorem quote_any (s : ByteArray) (w : World) (hs : s.size ≤ 1048576) : Calls Tryz.prog 8 #[.string s] w fun e w' => e = .returned (.string ⟨(bodyE s s.size).toArray⟩) ∧ Hid (Below w.heap.size w w') := by
  have hmk : ∀ W, (Instr.makeSlice 31 (.int .i64 0) (.int .i64 (2 * (s.size : Int)))).run Tryz.prog W = .ok (.slice (some ⟨W.heap.size, 0, none⟩) 0 (2 * s.size)) (W.alloc (.cells (madeCells #[.int .u8 0] (2 * s.size)) 5)) := fun W => by
    have h := make0 W 31 5 (.int .u8 0) 1 1 Tryz.underlying31 info5 (2 * s.size) (by omega) (by omega)
    rw [Nat.mul_one] at h
    rw [show 2 * (s.size : Int) = ((2 * s.size : Nat) : Int) by omega]
    exact h
  have HG : Hid ((w.alloc (.cells (madeCells #[.int .u8 0] (2 * s.size)) 5)).rowIs w.heap.size 5 (2 * s.size) (fun j => bf (([] : List UInt8).getD j 0))) := by
    have h := rowIs_made2 w #[.int .u8 0] (2 * s.size) 5 1 rfl
    rw [Nat.mul_one] at h
    exact h.congr (g := fun j => bf (([] : List UInt8).getD j 0)) (fun i hi => by rw [Nat.mod_one]; rfl)
  have hb := get_bt s
  have HS := Lib.hid hs
  go_enter Tryz.func8, Tryz.ntmps8
  go_wp2_with fail
  clear hs
  go_loopw [3, 4] (fun wt i wr => ∃ k m : Nat, k ≤ s.size ∧ m ≤ 2 * k ∧ wt = .slice (some ⟨w.heap.size, 0, none⟩) m (2 * s.size) ∧ i = .int .i64 k ∧ Hid (m = (bodyE s k).length) ∧ Hid (wr.rowIs w.heap.size 5 (2 * s.size) (fun j => bf ((bodyE s k).getD j 0))) ∧ Hid (Below w.heap.size w wr)) (fun _ i _ => s.size - (intOf i).toNat)
  case atStart =>
    exact ⟨0, 0, Nat.zero_le _, Nat.le_refl _, rfl, rfl, rfl, HG.out, (Below.refl _ _).alloc (Nat.le_refl _) _⟩
  case round =>
    obtain ⟨k, m, hk, hm, rfl, rfl, hme, hr, hb2⟩ := hrel
    clear HG hmk
    have hs := HS.out
    by_cases hlt : k < s.size
    · have hk1 : (k : Int) < (s.size : Int) := by omega
      obtain ⟨x, hx⟩ : ∃ x : Int, bt s k = x := ⟨_, rfl⟩
      have r1 := bt_range s k
      rw [hx] at r1
      have HX := Lib.hid hx
      have HXY : Hid (x = ((by8 s k).toNat : Int)) := by show _ = _; rw [← hx]; exact bt_by s k
      have hroom : m + 2 ≤ 2 * s.size := by omega
      have lw : w.heap.size < wr.heap.size := by
        obtain ⟨cur, hh, _⟩ := hr.out
        exact (Array.getElem?_eq_some_iff.1 hh).1
      have tc := fun (o : Obj) => (cell_alloc_old (w := wr) (o := o) (b := w.heap.size) (i := m) lw).trans (hr.out.cell (i := m) (by omega))
      have td := fun (o : Obj) => (cell_alloc_old (w := wr) (o := o) (b := w.heap.size) (i := m + 1) lw).trans (hr.out.cell (i := m + 1) (by omega))
      have tf := fun (o : Obj) (i : Nat) => (fz_alloc_old (w := wr) (o := o) (b := w.heap.size) (i := i) lw).trans (hr.out.frozen i)
      have c0 := hr.out.cell (i := m) (by omega)
      have c1 := hr.out.cell (i := m + 1) (by omega)
      have f0 := hr.out.frozen m
      have f1 := hr.out.frozen (m + 1)
      simp only [bf_def] at tc td c0 c1
      have hbz := hb2.out.size
      have fin1 : ∀ (W : World) o, (∃ d, W = wr.drewN d) → escB s k = false → Hid (m + 1 = (bodyE s (k + 1)).length) ∧ Hid (((W.setCell ⟨w.heap.size, m, none⟩ (.int .u8 x)).alloc o).rowIs w.heap.size 5 (2 * s.size) (fun j => bf ((bodyE s (k + 1)).getD j 0))) ∧ Hid (Below w.heap.size w ((W.setCell ⟨w.heap.size, m, none⟩ (.int .u8 x)).alloc o)) := fun W o hd he => by
        obtain ⟨d, rfl⟩ := hd
        rw [esc_no he]
        refine ⟨?_, ?_, ?_⟩
        · show _ = _
          rw [List.length_append, ← hme.out]; rfl
        · have hr2 : (wr.drewN d).rowIs w.heap.size 5 (2 * s.size) (fun j => bf ((bodyE s k).getD j 0)) := by
            obtain ⟨cur, hh, h2⟩ := hr.out
            exact ⟨cur, hh, h2⟩
          exact (row_app1 hr2 hme.out HXY.out).alloc _
        · exact ((below_drewN' hb2.out d).setCell (Nat.le_refl _) _).alloc (by rw [World.size_setCell]; exact hbz) _
      have fin2 : ∀ (W : World) o, (∃ d, W = wr.drewN d) → escB s k = true → Hid (m + 2 = (bodyE s (k + 1)).length) ∧ Hid ((((W.setCell ⟨w.heap.size, m, none⟩ (.int .u8 92)).setCell ⟨w.heap.size, m + 1, none⟩ (.int .u8 x)).alloc o).rowIs w.heap.size 5 (2 * s.size) (fun j => bf ((bodyE s (k + 1)).getD j 0))) ∧ Hid (Below w.heap.size w (((W.setCell ⟨w.heap.size, m, none⟩ (.int .u8 92)).setCell ⟨w.heap.size, m + 1, none⟩ (.int .u8 x)).alloc o)) := fun W o hd he => by
        obtain ⟨d, rfl⟩ := hd
        rw [esc_yes he]
        refine ⟨?_, ?_, ?_⟩
        · show _ = _
          rw [List.length_append, ← hme.out]; rfl
        · have hr2 : (wr.drewN d).rowIs w.heap.size 5 (2 * s.size) (fun j => bf ((bodyE s k).getD j 0)) := by
            obtain ⟨cur, hh, h2⟩ := hr.out
            exact ⟨cur, hh, h2⟩
          exact (row_app2 (c := 92) hr2 hme.out rfl HXY.out).alloc _
        · exact (((below_drewN' hb2.out d).setCell (Nat.le_refl _) _).setCell (Nat.le_refl _) _).alloc (by rw [World.size_setCell, World.size_setCell]; exact hbz) _
      have FIN1 := Lib.hid fin1
      have FIN2 := Lib.hid fin2
      clear fin1 fin2
      have same : Hid (∃ d, wr = wr.drewN d) := ⟨0, rfl⟩
      by_cases h92 : x = 92
      · subst h92
        have he : escB s k = true := by unfold escB; rw [HX.out]; rfl
        go_wp2_with fail
        go_roundw
        case rel =>
          exact ⟨k + 1, m + 2, by omega, by omega, rfl, by go_num, (FIN2.out wr (.map #[] 0) same.out he).1, (FIN2.out wr _ same.out he).2.1, (FIN2.out wr _ same.out he).2.2⟩
        case measure => simp [intOf]; omega
      by_cases h34 : x = 34
      · subst h34
        have he : escB s k = true := by unfold escB; rw [HX.out]; rfl
        go_wp2_with fail
        go_roundw
        case rel =>
          exact ⟨k + 1, m + 2, by omega, by omega, rfl, by go_num, (FIN2.out wr (.map #[] 0) same.out he).1, (FIN2.out wr _ same.out he).2.1, (FIN2.out wr _ same.out he).2.2⟩
        case measure => simp [intOf]; omega
      have e92 : (x == 92) = false := by simpa using h92
      have e34 : (x == 34) = false := by simpa using h34
      by_cases h47 : x = 47
      · subst h47
        by_cases h0 : k = 0
        · have he : escB s k = false := by rw [esc_47 HX.out, h0]; rfl
          have k0 : ¬ (1 : Int) ≤ (k : Int) := by omega
          clear h0
          go_wp2_with fail
          go_roundw
          case rel =>
            exact ⟨k + 1, m + 1, by omega, by omega, rfl, by go_num, (FIN1.out wr (.map #[] 0) same.out he).1, (FIN1.out wr _ same.out he).2.1, (FIN1.out wr _ same.out he).2.2⟩
          case measure => simp [intOf]; omega
        have k0 : (1 : Int) ≤ (k : Int) := by omega
        obtain ⟨k', ek⟩ : ∃ k', k = k' + 1 := ⟨k - 1, by omega⟩
        have ci : ((k : Int) - 1).toNat = k' := by omega
        have cj : ((k : Int) - 1) < (s.size : Int) := by omega
        obtain ⟨y, hy⟩ : ∃ y : Int, bt s k' = y := ⟨_, rfl⟩
        have HY := Lib.hid hy
        have HK := Lib.hid ek
        clear ek h0
        by_cases h60 : y = 60
        · subst h60
          have hh : escB s k = sty s (k + 1) := by rw [esc_47 HX.out, HK.out, hit_succ HY.out]
          have HH := Lib.hid hh
          clear hh
          obtain ⟨z, hz⟩ : ∃ z, z = sty s (k + 1) := ⟨_, rfl⟩
          have hst : ∀ W, Calls Tryz.prog 23 #[.string s, .int .i64 ((k : Int) + 1)] W (Drew (sty s (k + 1)) W) := fun W => style_any s (k + 1) W hs (by omega)
          rw [← hz] at hst
          rw [← hz] at HH
          have HST := Lib.hid hst
          clear hst hz
          go_wp2_with fail
          refine (HST.out _).mono ?_
          rintro e W2 ⟨rfl, hd⟩
          have HD := Lib.hid hd
          have g0 : W2.cell? ⟨w.heap.size, m, none⟩ = some (.int .u8 ((bodyE s k).getD m 0).toNat) := by obtain ⟨d, rfl⟩ := hd; exact c0
          have g1 : W2.cell? ⟨w.heap.size, m + 1, none⟩ = some (.int .u8 ((bodyE s k).getD (m + 1) 0).toNat) := by obtain ⟨d, rfl⟩ := hd; exact c1
          have i0 : W2.frozen? ⟨w.heap.size, m, none⟩ = false := by obtain ⟨d, rfl⟩ := hd; exact f0
          have i1 : W2.frozen? ⟨w.heap.size, m + 1, none⟩ = false := by obtain ⟨d, rfl⟩ := hd; exact f1
          have l2 : w.heap.size < W2.heap.size := by obtain ⟨d, rfl⟩ := hd; exact lw
          have uc := fun (o : Obj) => (cell_alloc_old (w := W2) (o := o) (b := w.heap.size) (i := m) l2).trans g0
          have ud := fun (o : Obj) => (cell_alloc_old (w := W2) (o := o) (b := w.heap.size) (i := m + 1) l2).trans g1
          have uf := fun (o : Obj) => (fz_alloc_old (w := W2) (o := o) (b := w.heap.size) (i := m) l2).trans i0
          have ug := fun (o : Obj) => (fz_alloc_old (w := W2) (o := o) (b := w.heap.size) (i := m + 1) l2).trans i1
          clear hd
          cases z
          · go_wp2_with fail
            go_roundw
            case rel => exact ⟨k + 1, m + 1, by omega, by omega, rfl, by go_num, (FIN1.out W2 (.map #[] 0) HD.out HH.out).1, (FIN1.out W2 _ HD.out HH.out).2.1, (FIN1.out W2 _ HD.out HH.out).2.2⟩
            case measure => simp [intOf]; omega
          · go_wp2_with fail
            go_roundw
            case rel => exact ⟨k + 1, m + 2, by omega, by omega, rfl, by go_num, (FIN2.out W2 (.map #[] 0) HD.out HH.out).1, (FIN2.out W2 _ HD.out HH.out).2.1, (FIN2.out W2 _ HD.out HH.out).2.2⟩
            case measure => simp [intOf]; omega
        · have e60 : (y == 60) = false := by simpa using h60
          have he : escB s k = false := by rw [esc_47 HX.out, HK.out, hit_not (by rw [HY.out]; exact h60)]
          go_wp2_with fail
          go_roundw
          case rel =>
            exact ⟨k + 1, m + 1, by omega, by omega, rfl, by go_num, (FIN1.out wr (.map #[] 0) same.out he).1, (FIN1.out wr _ same.out he).2.1, (FIN1.out wr _ same.out he).2.2⟩
          case measure => simp [intOf]; omega
      · have e47 : (x == 47) = false := by simpa using h47
        have he : escB s k = false := esc_other (by rw [HX.out]; exact h92) (by rw [HX.out]; exact h34) (by rw [HX.out]; exact h47)
        go_wp2_with fail
        go_roundw
        case rel =>
          exact ⟨k + 1, m + 1, by omega, by omega, rfl, by go_num, (FIN1.out wr (.map #[] 0) same.out he).1, (FIN1.out wr _ same.out he).2.1, (FIN1.out wr _ same.out he).2.2⟩
        case measure => simp [intOf]; omega
    · obtain rfl : k = s.size := by omega
      have hconv := conv_slc (2 * s.size) (slc_of_row hr.out hme.out.symm (by omega)) hme.out
      go_wp2_with fail
      go_ret
      exact ⟨rfl, hb2⟩
end Go.Proofs.YtiplakadjkimmabGreatFmt
