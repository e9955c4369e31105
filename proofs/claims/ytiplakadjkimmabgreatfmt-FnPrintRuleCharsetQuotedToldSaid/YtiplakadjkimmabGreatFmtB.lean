/-
  Slices of texts; the law's clone of them; the law's counts of bytes.
-/
import Derived.Test.YtiplakadjkimmabGreatFmtProg
import Derived.WalkKit
import Derived.WalkLawsBesides
import Derived.WalkSpells
import Derived.Lib.Hide
import Derived.Lib.Slices
import Derived.Lib.Walk
import Derived.Deep.QuietTactic
import Derived.BigQuiet
import Derived.Deep.OwnRows
import Derived.Laws.BytesArg
import Derived.RegionTactic
import Derived.ChangeAlike
import Derived.Deep.DeepFit
import Derived.Handy
import Derived.Outline
import Derived.Deep.Draws
import Derived.PlainAid
import Derived.Maps.OwnSet
import Derived.Maps.AppendAt
namespace Go.Proofs.YtiplakadjkimmabGreatFmt
open Go.RowKit Go.Deep

/-- A slice value's address and the values that it leads to. -/
def Slc {α : Type} (f : α → Value) (d : α) (w : World) (a : Option Addr) (xs : List α) : Prop :=
  ∀ i, i < xs.length → ∃ b off, a = some ⟨b, off, none⟩ ∧ w.cell? ⟨b, off + i, none⟩ = some (f (xs.getD i d))

theorem Slc.below {α : Type} {f : α → Value} {d : α} {w w' : World} {a : Option Addr} {xs : List α} (h : Slc f d w a xs) (hb : Below w.heap.size w w') : Slc f d w' a xs := fun i hi => by
  obtain ⟨b, off, e, hc⟩ := h i hi
  exact ⟨b, off, e, cell_later hb hc⟩

/-- The answer is a slice of the same values. -/
def Cloned {α : Type} (f : α → Value) (d : α) (xs : List α) (w : World) (e : Ending) (w' : World) : Prop :=
  ∃ a' c', e = .returned (.slice a' xs.length c') ∧ Slc f d w' a' xs ∧ Below w.heap.size w w'


theorem info9 : (Tryz.prog.info? 9).map (fun i => (i.zero, i.size, i.bytes)) = some (some (.string ⟨#[]⟩), 1, 16) := by kernel_rfl

set_option maxHeartbeats 400000 in
theorem clone_strings (a : Option Addr) (cap : Nat) (xs : List ByteArray) (w : World) (hs : Slc Value.string ByteArray.empty w a xs) (hl : xs.length ≤ 1048576) :
    Calls Tryz.prog 19 #[.slice a xs.length cap] w (Cloned Value.string ByteArray.empty xs w) := by
  rcases a with _ | ad
  · have h0 : xs = [] := by
      cases xs with
      | nil => rfl
      | cons x l => obtain ⟨b, off, e, _⟩ := hs 0 (by simp); cases e
    subst h0
    have q := fun (W : World) (n c : Nat) => Lib.run_eql_slice_nil (P := Tryz.prog) W 25 9 none n c 0 0 Tryz.underlying25
    go_enter Tryz.func19, Tryz.ntmps19
    go_wp2
    go_ret
    exact ⟨none, 0, rfl, (fun i h => by cases h), Below.refl _ _⟩
  · have HS := Lib.hid hs
    clear hs
    obtain ⟨len, hlen⟩ : ∃ len, len = xs.length := ⟨_, rfl⟩
    rw [← hlen] at hl ⊢
    have HL := Lib.hid hlen
    clear hlen
    have q := fun (W : World) (n c : Nat) => Lib.run_eql_slice_nil (P := Tryz.prog) W 25 9 (some ad) n c 0 0 Tryz.underlying25
    have hmk := fun W => run_make_row' (P := Tryz.prog) 25 9 (Value.string ⟨#[]⟩) 16 Tryz.underlying25 info9 rfl .i64 .i64 len (by omega) (by omega) W
    go_enter Tryz.func19, Tryz.ntmps19
    go_wp2
    go_loopw [4] (fun i wr => ∃ k : Nat, k ≤ len ∧ i = .int .i64 k ∧ Hid (wr.rowIs w.heap.size 9 len (fun j => if j < k then Value.string (xs.getD j ByteArray.empty) else Value.string ⟨#[]⟩)) ∧ Hid (Below w.heap.size w wr)) (fun i _ => len - (intOf i).toNat)
    case atStart => exact ⟨0, by omega, rfl, (World.rowIs_made _ _ _ _).congr (fun i _ => by simp), (Below.refl _ _).alloc (Nat.le_refl _) _⟩
    case round =>
      obtain ⟨k, hk, rfl, hr, hb⟩ := hrel
      by_cases hlt : k < len
      · obtain ⟨b, off, e, hc⟩ := HS.out k (by rw [← HL.out]; exact hlt)
        injection e with e
        subst e
        obtain ⟨x, hsk⟩ : ∃ s, s = xs.getD k ByteArray.empty := ⟨_, rfl⟩
        rw [← hsk] at hc
        have HX := Lib.hid hsk
        clear hsk
        have hcx : wr.cell? ⟨b, off + k, none⟩ = some (Value.string x) := cell_later hb.out hc
        have hrow : wr.cell? ⟨w.heap.size, k, none⟩ = some (Value.string ⟨#[]⟩) := by rw [hr.out.cell hlt]; simp
        have hfz : wr.frozen? ⟨w.heap.size, k, none⟩ = false := hr.out.frozen k
        go_wp2
        go_roundw
        case rel => exact ⟨k + 1, by omega, by go_num, (hr.out.set k (Value.string x)).congr (fun j hj => by
          by_cases hjk : j = k
          · subst hjk; rw [if_pos rfl, if_pos (by omega), HX.out]
          · rw [if_neg hjk]
            by_cases h2 : j < k
            · rw [if_pos h2, if_pos (by omega)]
            · rw [if_neg h2, if_neg (by omega)]), hb.out.setCell (Nat.le_refl _) _⟩
        case measure => simp [intOf]; omega
      · obtain rfl : k = len := by omega
        go_wp2
        go_ret
        exact ⟨some ⟨w.heap.size, 0, none⟩, k, by rw [← HL.out]; rfl, fun i hi => ⟨w.heap.size, 0, rfl, by
          rw [Nat.zero_add, hr.out.cell (by rw [HL.out]; exact hi), if_pos (by rw [HL.out]; exact hi)]⟩, hb.out⟩



/-- An int with something said of it. -/
def SomeInt (P : Int → Prop) (w : World) (e : Ending) (w' : World) : Prop := ∃ n : Int, P n ∧ e = .returned (.int .i64 n) ∧ w = w'


def SomeBool (P : Bool → Prop) (w : World) (e : Ending) (w' : World) : Prop := ∃ b : Bool, P b ∧ e = .returned (.bool b) ∧ w = w'
theorem cell_alloc_old {w : World} {o : Obj} {b i : Nat} (h : b < w.heap.size) : (w.alloc o).cell? ⟨b, i, none⟩ = w.cell? ⟨b, i, none⟩ := World.cell?_of_block (Below.heap_alloc w o b h)
theorem cell_set_other {w : World} {a : Addr} {v : Value} {b i : Nat} (h : b ≠ a.block) : (w.setCell a v).cell? ⟨b, i, none⟩ = w.cell? ⟨b, i, none⟩ := World.cell?_of_block (Below.heap_setCell w a v b h)
theorem cell_set_off {w : World} {b i j : Nat} {v : Value} (h : i ≠ j) : (w.setCell ⟨b, j, none⟩ v).cell? ⟨b, i, none⟩ = w.cell? ⟨b, i, none⟩ := World.cell?_setCell_other _ _ _ _ (fun e => by injection e with e1 e2; exact h e2.symm)
theorem fz_alloc_old {w : World} {o : Obj} {b i : Nat} (h : b < w.heap.size) : (w.alloc o).frozen? ⟨b, i, none⟩ = w.frozen? ⟨b, i, none⟩ := World.frozen?_of_block (Below.heap_alloc w o b h)
theorem fz_set_other {w : World} {a : Addr} {v : Value} {b i : Nat} (h : b ≠ a.block) : (w.setCell a v).frozen? ⟨b, i, none⟩ = w.frozen? ⟨b, i, none⟩ := World.frozen?_of_block (Below.heap_setCell w a v b h)
theorem grown_set (w : World) (b i : Nat) (v : Value) : w.grownBy (w.setCell ⟨b, i, none⟩ v) (some b) :=
  ⟨rfl, rfl, rfl, by rw [World.size_setCell]; exact Nat.le_refl _, fun k _ hk => Below.heap_setCell _ _ _ _ (fun e => hk (by rw [e]))⟩

theorem below_drewN' {B : Nat} {a w : World} (h : Below B a w) (n : Nat) : Below B a (w.drewN n) := ⟨h.os, h.tape, h.output, h.size, h.block⟩

set_option maxRecDepth 100000 in
set_option maxHeartbeats 1000000 in
/-- zzBytes: where it says yes, the slice and the texts are short. -/
theorem zz17_any (a0 : Option Addr) (n0 c0 : Nat) (us : List ByteArray) (w : World) (h0 : n0 ≤ 9223372036854775807) (hl : us.length = n0) (hu : Slc Value.string ByteArray.empty w a0 us) :
    Calls Tryz.prog 17 #[.slice a0 n0 c0] w (SomeBool (fun b => b = true → n0 ≤ 1048576 ∧ ∀ i, i < n0 → (us.getD i ByteArray.empty).size ≤ 1048576) w) := by
  have HU := Lib.hid hu
  have HL := Lib.hid hl
  clear hu hl
  by_cases hn0 : (1048576 : Int) < (n0 : Int)
  · go_enter Tryz.func17, Tryz.ntmps17
    go_wp2_with fail
    go_ret
    exact ⟨false, (fun h => by cases h), rfl, rfl⟩
  go_enter Tryz.func17, Tryz.ntmps17
  go_wp2_with fail
  go_loop [3, 4] (fun z i => ∃ (k m : Nat), k ≤ n0 ∧ m ≤ 1048576 ∧ z = .int .i64 m ∧ i = .int .i64 (k : Int) ∧ ∀ j, j < k → (us.getD j ByteArray.empty).size ≤ 1048576) (fun _ i => n0 - (intOf i).toNat)
  case atStart => exact ⟨0, n0, by omega, by omega, rfl, rfl, fun j hj => by omega⟩
  case round =>
    obtain ⟨k, m, hk, hm, rfl, rfl, hpre⟩ := hrel
    have HP := Lib.hid hpre
    clear hpre
    by_cases hlk : k < n0
    · obtain ⟨b, o, e, hc⟩ := HU.out k (by rw [HL.out]; exact hlk)
      subst e
      obtain ⟨u, eu⟩ : ∃ u, u = us.getD k ByteArray.empty := ⟨_, rfl⟩
      rw [← eu] at hc
      have HE := Lib.hid eu
      clear eu
      have k1 : (k : Int) < (n0 : Int) := by omega
      by_cases hb : (1048576 : Int) < (u.size : Int)
      · go_wp2_with fail
        go_ret
        exact ⟨false, (fun h => by cases h), rfl, rfl⟩
      · by_cases hb2 : (1048576 : Int) < (m : Int) + (u.size : Int)
        · go_wp2_with fail
          go_ret
          exact ⟨false, (fun h => by cases h), rfl, rfl⟩
        · go_wp2_with fail
          go_round
          case rel => exact ⟨k + 1, m + u.size, by omega, by omega, by go_num, by go_num, fun j hj => by
            rcases Nat.lt_or_ge j k with h | h
            · exact HP.out j h
            · obtain rfl : j = k := by omega
              rw [← HE.out]; omega⟩
          case measure => simp [intOf]; omega
    · obtain rfl : k = n0 := by omega
      go_wp2_with fail
      all_goals
        go_ret
        exact ⟨_, fun h => by first | (cases h; done) | exact ⟨by omega, HP.out⟩, rfl, rfl⟩

set_option maxRecDepth 100000 in
set_option maxHeartbeats 1000000 in
/-- zzSumLen answers a number. -/
theorem sumlen_any (a0 : Option Addr) (n0 c0 : Nat) (us : List ByteArray) (w : World) (h0 : n0 ≤ 4096) (hl : us.length = n0) (hs : ∀ i, i < n0 → (us.getD i ByteArray.empty).size ≤ 1048576) (hu : Slc Value.string ByteArray.empty w a0 us) :
    Calls Tryz.prog 18 #[.slice a0 n0 c0] w (SomeInt (fun _ => True) w) := by
  have HU := Lib.hid hu
  have HL := Lib.hid hl
  have HS := Lib.hid hs
  clear hu hl hs
  go_enter Tryz.func18, Tryz.ntmps18
  go_wp2_with fail
  go_loop [3, 4] (fun z i => ∃ (k m : Nat), k ≤ n0 ∧ m ≤ 65536 + k * 1048576 ∧ z = .int .i64 m ∧ i = .int .i64 (k : Int)) (fun _ i => n0 - (intOf i).toNat)
  case atStart => exact ⟨0, n0 * 16, by omega, by omega, by go_num, rfl⟩
  case round =>
    obtain ⟨k, m, hk, hm, rfl, rfl⟩ := hrel
    by_cases hlk : k < n0
    · obtain ⟨b, o, e, hc⟩ := HU.out k (by rw [HL.out]; exact hlk)
      subst e
      have hsk := HS.out k hlk
      obtain ⟨u, eu⟩ : ∃ u, u = us.getD k ByteArray.empty := ⟨_, rfl⟩
      rw [← eu] at hc hsk
      clear eu
      have k3 : (k : Int) < (n0 : Int) := by omega
      have hk2 : k * 1048576 ≤ 4096 * 1048576 := by omega
      go_wp2_with fail
      go_round
      case rel => exact ⟨k + 1, m + u.size, by omega, by omega, by go_num, by go_num⟩
      case measure => simp [intOf]; omega
    · obtain rfl : k = n0 := by omega
      go_wp2_with fail
      go_ret
      exact ⟨_, trivial, rfl, rfl⟩

end Go.Proofs.YtiplakadjkimmabGreatFmt
