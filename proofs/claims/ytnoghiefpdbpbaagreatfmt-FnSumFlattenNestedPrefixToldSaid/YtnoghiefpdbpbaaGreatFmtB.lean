/-
  Slices as rows of values; the law's clones of slices; the law's counts of bytes.
-/
import Derived.Test.YtnoghiefpdbpbaaGreatFmtA
import Derived.Lib.Slices
import Derived.Lib.Walk
namespace Go.Proofs.YtnoghiefpdbpbaaGreatFmt
open Go.RowKit Go.Deep

/-- A slice value's address and the values that it leads to. -/
def Slc {α : Type} (f : α → Value) (d : α) (w : World) (a : Option Addr) (xs : List α) : Prop :=
  ∀ i, i < xs.length → ∃ b off, a = some ⟨b, off, none⟩ ∧ w.cell? ⟨b, off + i, none⟩ = some (f (xs.getD i d))

theorem Slc.below {α : Type} {f : α → Value} {d : α} {w w' : World} {a : Option Addr} {xs : List α} (h : Slc f d w a xs) (hb : Below w.heap.size w w') : Slc f d w' a xs := fun i hi => by
  obtain ⟨b, off, e, hc⟩ := h i hi
  exact ⟨b, off, e, cell_later hb hc⟩

/-- The answer is a slice of the same values. -/
def Cloned {α : Type} (f : α → Value) (d : α) (xs : List α) (w : World) (e : Ending) (w' : World) : Prop :=
  ∃ a' c', e = .returned (.slice a' xs.length c') ∧ Slc f d w' a' xs ∧ Below w.heap.size w w'

abbrev fl : Nat → Value := Value.float .f64
theorem info33 : (Tryz.prog.info? 33).map (fun i => (i.zero, i.size, i.bytes)) = some (some (fl 0), 1, 8) := by kernel_rfl
theorem info4 : (Tryz.prog.info? 4).map (fun i => (i.zero, i.size, i.bytes)) = some (some (Value.bool false), 1, 1) := by kernel_rfl
theorem info9 : (Tryz.prog.info? 9).map (fun i => (i.zero, i.size, i.bytes)) = some (some (.string ⟨#[]⟩), 1, 16) := by kernel_rfl

set_option maxHeartbeats 400000 in
theorem clone_floats (a : Option Addr) (cap : Nat) (xs : List Nat) (w : World) (hs : Slc fl 0 w a xs) (hl : xs.length ≤ 1048576) :
    Calls Tryz.prog 11 #[.slice a xs.length cap] w (Cloned fl 0 xs w) := by
  rcases a with _ | ad
  · have h0 : xs = [] := by
      cases xs with
      | nil => rfl
      | cons x l => obtain ⟨b, off, e, _⟩ := hs 0 (by simp); cases e
    subst h0
    have q := fun (W : World) (n c : Nat) => Lib.run_eql_slice_nil (P := Tryz.prog) W 23 33 none n c 0 0 Tryz.underlying23
    go_enter Tryz.func11, Tryz.ntmps11
    go_wp2
    go_ret
    exact ⟨none, 0, rfl, (fun i h => by cases h), Below.refl _ _⟩
  · have HS := Lib.hid hs
    clear hs
    obtain ⟨len, hlen⟩ : ∃ len, len = xs.length := ⟨_, rfl⟩
    rw [← hlen] at hl ⊢
    have HL := Lib.hid hlen
    clear hlen
    have q := fun (W : World) (n c : Nat) => Lib.run_eql_slice_nil (P := Tryz.prog) W 23 33 (some ad) n c 0 0 Tryz.underlying23
    have hmk := fun W => run_make_row' (P := Tryz.prog) 23 33 (Value.float .f64 0) 8 Tryz.underlying23 info33 rfl .i64 .i64 len (by omega) (by omega) W
    go_enter Tryz.func11, Tryz.ntmps11
    go_wp2
    go_loopw [4] (fun i wr => ∃ k : Nat, k ≤ len ∧ i = .int .i64 k ∧ Hid (wr.rowIs w.heap.size 33 len (fun j => if j < k then Value.float .f64 (xs.getD j 0) else Value.float .f64 0)) ∧ Hid (Below w.heap.size w wr)) (fun i _ => len - (intOf i).toNat)
    case atStart => exact ⟨0, by omega, rfl, (World.rowIs_made _ _ _ _).congr (fun i _ => by simp), (Below.refl _ _).alloc (Nat.le_refl _) _⟩
    case round =>
      obtain ⟨k, hk, rfl, hr, hb⟩ := hrel
      by_cases hlt : k < len
      · obtain ⟨b, off, e, hc⟩ := HS.out k (by rw [← HL.out]; exact hlt)
        injection e with e
        subst e
        obtain ⟨x, hsk⟩ : ∃ s, s = xs.getD k 0 := ⟨_, rfl⟩
        rw [← hsk] at hc
        have HX := Lib.hid hsk
        clear hsk
        have hcx : wr.cell? ⟨b, off + k, none⟩ = some (Value.float .f64 x) := cell_later hb.out hc
        have hrow : wr.cell? ⟨w.heap.size, k, none⟩ = some (Value.float .f64 0) := by rw [hr.out.cell hlt]; simp
        have hfz : wr.frozen? ⟨w.heap.size, k, none⟩ = false := hr.out.frozen k
        go_wp2
        go_roundw
        case rel => exact ⟨k + 1, by omega, by go_num, (hr.out.set k (Value.float .f64 x)).congr (fun j hj => by
          by_cases hjk : j = k
          · subst hjk; rw [if_pos rfl, if_pos (by omega), HX.out]
          · rw [if_neg hjk]
            by_cases h2 : j < k
            · rw [if_pos h2, if_pos (by omega)]
            · rw [if_neg h2, if_neg (by omega)]), hb.out.setCell (Nat.le_refl _) _⟩
        case measure => simp [intOf]; omega
      · obtain rfl : k = len := by omega
        go_wp2
        go_ret
        exact ⟨some ⟨w.heap.size, 0, none⟩, k, by rw [← HL.out]; rfl, fun i hi => ⟨w.heap.size, 0, rfl, by
          rw [Nat.zero_add, hr.out.cell (by rw [HL.out]; exact hi), if_pos (by rw [HL.out]; exact hi)]⟩, hb.out⟩

set_option maxHeartbeats 400000 in
theorem clone_bools (a : Option Addr) (cap : Nat) (xs : List Bool) (w : World) (hs : Slc Value.bool false w a xs) (hl : xs.length ≤ 1048576) :
    Calls Tryz.prog 12 #[.slice a xs.length cap] w (Cloned Value.bool false xs w) := by
  rcases a with _ | ad
  · have h0 : xs = [] := by
      cases xs with
      | nil => rfl
      | cons x l => obtain ⟨b, off, e, _⟩ := hs 0 (by simp); cases e
    subst h0
    have q := fun (W : World) (n c : Nat) => Lib.run_eql_slice_nil (P := Tryz.prog) W 24 4 none n c 0 0 Tryz.underlying24
    go_enter Tryz.func12, Tryz.ntmps12
    go_wp2
    go_ret
    exact ⟨none, 0, rfl, (fun i h => by cases h), Below.refl _ _⟩
  · have HS := Lib.hid hs
    clear hs
    obtain ⟨len, hlen⟩ : ∃ len, len = xs.length := ⟨_, rfl⟩
    rw [← hlen] at hl ⊢
    have HL := Lib.hid hlen
    clear hlen
    have q := fun (W : World) (n c : Nat) => Lib.run_eql_slice_nil (P := Tryz.prog) W 24 4 (some ad) n c 0 0 Tryz.underlying24
    have hmk := fun W => run_make_row' (P := Tryz.prog) 24 4 (Value.bool false) 1 Tryz.underlying24 info4 rfl .i64 .i64 len (by omega) (by omega) W
    go_enter Tryz.func12, Tryz.ntmps12
    go_wp2
    go_loopw [4] (fun i wr => ∃ k : Nat, k ≤ len ∧ i = .int .i64 k ∧ Hid (wr.rowIs w.heap.size 4 len (fun j => if j < k then Value.bool (xs.getD j false) else Value.bool false)) ∧ Hid (Below w.heap.size w wr)) (fun i _ => len - (intOf i).toNat)
    case atStart => exact ⟨0, by omega, rfl, (World.rowIs_made _ _ _ _).congr (fun i _ => by simp), (Below.refl _ _).alloc (Nat.le_refl _) _⟩
    case round =>
      obtain ⟨k, hk, rfl, hr, hb⟩ := hrel
      by_cases hlt : k < len
      · obtain ⟨b, off, e, hc⟩ := HS.out k (by rw [← HL.out]; exact hlt)
        injection e with e
        subst e
        obtain ⟨x, hsk⟩ : ∃ s, s = xs.getD k false := ⟨_, rfl⟩
        rw [← hsk] at hc
        have HX := Lib.hid hsk
        clear hsk
        have hcx : wr.cell? ⟨b, off + k, none⟩ = some (Value.bool x) := cell_later hb.out hc
        have hrow : wr.cell? ⟨w.heap.size, k, none⟩ = some (Value.bool false) := by rw [hr.out.cell hlt]; simp
        have hfz : wr.frozen? ⟨w.heap.size, k, none⟩ = false := hr.out.frozen k
        go_wp2
        go_roundw
        case rel => exact ⟨k + 1, by omega, by go_num, (hr.out.set k (Value.bool x)).congr (fun j hj => by
          by_cases hjk : j = k
          · subst hjk; rw [if_pos rfl, if_pos (by omega), HX.out]
          · rw [if_neg hjk]
            by_cases h2 : j < k
            · rw [if_pos h2, if_pos (by omega)]
            · rw [if_neg h2, if_neg (by omega)]), hb.out.setCell (Nat.le_refl _) _⟩
        case measure => simp [intOf]; omega
      · obtain rfl : k = len := by omega
        go_wp2
        go_ret
        exact ⟨some ⟨w.heap.size, 0, none⟩, k, by rw [← HL.out]; rfl, fun i hi => ⟨w.heap.size, 0, rfl, by
          rw [Nat.zero_add, hr.out.cell (by rw [HL.out]; exact hi), if_pos (by rw [HL.out]; exact hi)]⟩, hb.out⟩

/-- An int with something said of it. -/
def SomeInt (P : Int → Prop) (w : World) (e : Ending) (w' : World) : Prop := ∃ n : Int, P n ∧ e = .returned (.int .i64 n) ∧ w = w'

/-- zzTermBytesB3 without units. -/
theorem bytes_nil (a1 a2 : Option Addr) (n1 n2 c1 c2 : Nat) (w : World) (h1 : n1 ≤ 1048576) (h2 : n2 ≤ 1048576) :
    Calls Tryz.prog 8 #[.slice none 0 0, .slice a1 n1 c1, .slice a2 n2 c2] w fun e w' => e = .returned (.int .i64 (8 * n1 + n2)) ∧ w = w' := by
  have k1 : ¬ (1048576 : Int) < (n1 : Int) := by omega
  have k2 : ¬ (1048576 : Int) < (n2 : Int) := by omega
  go_enter Tryz.func8, Tryz.ntmps8
  go_wp2
  refine wp_loop_rounds 1 ?_
  rw [rounds_succ]
  go_wp2
  go_ret
  exact ⟨by go_num, rfl⟩

/-- zzBytes_FnProductOfPlainNumbersFoldsToOneNumber: where it says yes, the slices are short. -/
def SomeBool (P : Bool → Prop) (w : World) (e : Ending) (w' : World) : Prop := ∃ b : Bool, P b ∧ e = .returned (.bool b) ∧ w = w'
theorem zz16_any (a1 a2 : Option Addr) (n1 n2 c1 c2 : Nat) (w : World) (h1 : n1 ≤ 9223372036854775807) (h2 : n2 ≤ 9223372036854775807) :
    Calls Tryz.prog 16 #[.slice a1 n1 c1, .slice a2 n2 c2] w (SomeBool (fun b => b = true → n1 ≤ 1048576 ∧ n2 ≤ 1048576) w) := by
  go_enter Tryz.func16, Tryz.ntmps16
  go_wp2
  all_goals
    go_ret
    exact ⟨_, fun h => by first | (cases h; done) | omega, rfl, rfl⟩
end Go.Proofs.YtnoghiefpdbpbaaGreatFmt
