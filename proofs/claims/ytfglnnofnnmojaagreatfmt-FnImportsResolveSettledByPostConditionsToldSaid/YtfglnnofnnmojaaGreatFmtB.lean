/-
  Contracts, second part: the premise's tests, the clone of a slice of strings, the map of conditions.
-/
import Derived.Test.YtfglnnofnnmojaaGreatFmtA
import Derived.Maps.Own
import Derived.Deep.OwnRows
import Derived.Handy
namespace Go.Proofs.YtfglnnofnnmojaaGreatFmt
open Go.RowKit Go.Maps Go.Deep

set_option maxHeartbeats 400000 in
/-- zzDotConsistent: it answers. -/
theorem cons_any (a : Option Addr) (cap : Nat) (ss : List ByteArray) (w : World) (hs : Strs w a ss) (hl : ss.length ≤ 1048576) :
    Calls Tryz.prog 12 #[.slice a ss.length cap] w (SomeBool (fun _ => True) w) := by
  have HS := Lib.hid hs
  clear hs
  obtain ⟨len, hlen⟩ : ∃ len, len = ss.length := ⟨_, rfl⟩
  rw [← hlen] at hl ⊢
  have HL := Lib.hid hlen
  clear hlen
  by_cases h0 : 0 < len
  · obtain ⟨b, off, rfl, hc⟩ := HS.out 0 (by rw [← HL.out]; exact h0)
    obtain ⟨s, hsk⟩ : ∃ s, s = ss.getD 0 ByteArray.empty := ⟨_, rfl⟩
    rw [← hsk] at hc
    simp only [Nat.add_zero] at hc
    clear hsk
    have he : ((len : Int) == 0) = false := by simp; omega
    go_enter Tryz.func12, Tryz.ntmps12
    go_wp2_with fail
    refine (dot_any _ _).mono ?_
    rintro e w' ⟨b0, _, rfl, rfl⟩
    go_wp2_with fail
    go_loop [4] (fun i => ∃ k : Nat, 1 ≤ k ∧ k ≤ len ∧ i = .int .i64 k) (fun i => len - (intOf i).toNat)
    case atStart => exact ⟨1, by omega, by omega, rfl⟩
    case round =>
      obtain ⟨k, hk1, hk, rfl⟩ := hrel
      by_cases hlt : k < len
      · obtain ⟨b', off', e', hc'⟩ := HS.out k (by rw [← HL.out]; exact hlt)
        injection e' with e'
        injection e' with e1 e2
        subst e1
        subst e2
        obtain ⟨s', hsk⟩ : ∃ s, s = ss.getD k ByteArray.empty := ⟨_, rfl⟩
        rw [← hsk] at hc'
        clear hsk
        go_wp2_with fail
        refine (dot_any _ _).mono ?_
        rintro e w' ⟨b1, _, rfl, rfl⟩
        cases b0 <;> cases b1
        all_goals go_wp2_with fail
        all_goals first
          | (go_ret; exact ⟨_, trivial, rfl, rfl⟩)
          | (go_round
             case rel => exact ⟨k + 1, by omega, by omega, by go_num⟩
             case measure => simp [intOf]; omega)
      · go_wp2
        go_ret
        exact ⟨_, trivial, rfl, rfl⟩
  · obtain rfl : len = 0 := by omega
    go_enter Tryz.func12, Tryz.ntmps12
    go_wp2
    go_ret
    exact ⟨_, trivial, rfl, rfl⟩

theorem str_ne {x s : ByteArray} (h : x ≠ s) : (x.toList == s.toList) = false := by
  rw [beq_eq_false_iff_ne]
  intro e
  apply h
  rw [Lib.toList_data, Lib.toList_data] at e
  cases x
  cases s
  simp only [ByteArray.mk.injEq]
  exact Array.toList_inj.1 e

/-- What the premise says. -/
def Prem (s : ByteArray) (kd : Int) (ss : List ByteArray) : Prop :=
  kd ≤ 4 ∧ (kd ≠ 3 → ss.length = 0) ∧ (kd = 3 → expB s = true ∨ ∀ i, i < ss.length → ss.getD i ByteArray.empty ≠ s)

set_option maxHeartbeats 1000000 in
/-- zzImportsPremise. -/
theorem prem_any (s : ByteArray) (kd : Int) (a : Option Addr) (cap : Nat) (ss : List ByteArray) (w : World) (hs : Strs w a ss) (hb : Small ss) (hl : ss.length ≤ 1048576) (hz : s.size ≤ 1048576) :
    Calls Tryz.prog 6 #[.string s, .int .u8 kd, .slice a ss.length cap] w (SomeBool (fun b => b = true → Prem s kd ss) w) := by
  have HC := Lib.hid (cons_any a cap ss w hs hl)
  have HS := Lib.hid hs
  have HB := Lib.hid hb
  clear hs hb
  obtain ⟨len, hlen⟩ : ∃ len, len = ss.length := ⟨_, rfl⟩
  rw [← hlen] at hl HC ⊢
  have HL := Lib.hid hlen
  clear hlen
  by_cases h4 : 4 < kd
  · go_enter Tryz.func6, Tryz.ntmps6
    go_wp2_with fail
    go_ret
    exact ⟨_, (fun h => by cases h), rfl, rfl⟩
  · by_cases h3 : kd = 3
    · subst h3
      go_enter Tryz.func6, Tryz.ntmps6
      go_wp2_with fail
      refine HC.out.mono ?_
      rintro e w' ⟨b0, _, rfl, rfl⟩
      cases b0
      · go_wp2_with fail
        go_ret
        exact ⟨_, (fun h => by cases h), rfl, rfl⟩
      · go_wp2_with fail
        go_loop [7] (fun i => ∃ k : Nat, k ≤ len ∧ i = .int .i64 k) (fun i => len - (intOf i).toNat)
        case atStart => exact ⟨0, by omega, rfl⟩
        case round =>
          obtain ⟨k, hk, rfl⟩ := hrel
          by_cases hlt : k < len
          · obtain ⟨b', off', rfl, hc'⟩ := HS.out k (by rw [← HL.out]; exact hlt)
            have hsz := HB.out k (by rw [← HL.out]; exact hlt)
            obtain ⟨x, hsk⟩ : ∃ s, s = ss.getD k ByteArray.empty := ⟨_, rfl⟩
            rw [← hsk] at hc' hsz
            clear hsk
            go_wp2_with fail
            refine (exp_any _ _ hsz).mono ?_
            rintro e w' ⟨b1, _, rfl, rfl⟩
            cases b1
            · go_wp2_with fail
              go_round
              case rel => exact ⟨k + 1, by omega, by go_num⟩
              case measure => simp [intOf]; omega
            · go_wp2_with fail
              go_ret
              exact ⟨_, (fun h => by cases h), rfl, rfl⟩
          · go_wp2_with fail
            refine (exp_any _ _ hz).mono ?_
            rintro e w' ⟨b1, hb1, rfl, rfl⟩
            cases b1
            · go_wp2_with fail
              go_loop [8] (fun i => ∃ k : Nat, k ≤ len ∧ i = .int .i64 k ∧ Hid (∀ j, j < k → ss.getD j ByteArray.empty ≠ s)) (fun i => len - (intOf i).toNat)
              case atStart => exact ⟨0, by omega, rfl, fun j h => by omega⟩
              case round =>
                obtain ⟨k', hk', rfl, hne⟩ := hrel
                by_cases hlt' : k' < len
                · obtain ⟨b', off', rfl, hc'⟩ := HS.out k' (by rw [← HL.out]; exact hlt')
                  obtain ⟨x, hsk⟩ : ∃ s, s = ss.getD k' ByteArray.empty := ⟨_, rfl⟩
                  rw [← hsk] at hc'
                  have HX := Lib.hid hsk
                  clear hsk
                  by_cases hx : x = s
                  · subst hx
                    go_wp2_with fail
                    go_ret
                    exact ⟨_, (fun h => by cases h), rfl, rfl⟩
                  · have hx1 : (x.toList == s.toList) = false := str_ne hx
                    go_wp2_with fail
                    go_round
                    case rel => exact ⟨k' + 1, by omega, by go_num, fun j h => by
                      rcases Nat.lt_or_ge j k' with h' | h'
                      · exact hne.out j h'
                      · obtain rfl : j = k' := by omega
                        rw [← HX.out]; exact hx⟩
                    case measure => simp [intOf]; omega
                · obtain rfl : k' = len := by omega
                  go_wp2_with fail
                  go_ret
                  exact ⟨_, fun _ => ⟨by omega, fun h => absurd rfl h, fun _ => .inr fun i hi => hne.out i (by rw [HL.out]; exact hi)⟩, rfl, rfl⟩
            · go_wp2_with fail
              go_ret
              exact ⟨_, fun _ => ⟨by omega, fun h => absurd rfl h, fun _ => .inl (by simpa using hb1)⟩, rfl, rfl⟩
    · have hk3 : (kd == 3) = false := by simpa using h3
      have hk3' : (kd != 3) = true := by simpa using h3
      by_cases h0 : len = 0
      · have he : ((len : Int) == 0) = true := by simp; omega
        go_enter Tryz.func6, Tryz.ntmps6
        go_wp2_with fail
        go_ret
        exact ⟨_, fun _ => ⟨by omega, fun _ => by rw [← HL.out]; exact h0, fun h => absurd h h3⟩, rfl, rfl⟩
      · have he : ((len : Int) == 0) = false := by simp; omega
        go_enter Tryz.func6, Tryz.ntmps6
        go_wp2_with fail
        go_ret
        exact ⟨_, (fun h => by cases h), rfl, rfl⟩

/-- A slice of strings copied: the new one leads to the same strings; what was there is as it was. -/
def Cloned (ss : List ByteArray) (w : World) (e : Ending) (w' : World) : Prop :=
  ∃ a' c', e = .returned (.slice a' ss.length c') ∧ Strs w' a' ss ∧ Below w.heap.size w w'

theorem info9 : (Tryz.prog.info? 9).map (fun i => (i.zero, i.size, i.bytes)) = some (some (.string ⟨#[]⟩), 1, 16) := by kernel_rfl

set_option maxHeartbeats 400000 in
theorem clone_any (a : Option Addr) (cap : Nat) (ss : List ByteArray) (w : World) (hs : Strs w a ss) (hl : ss.length ≤ 1048576) :
    Calls Tryz.prog 7 #[.slice a ss.length cap] w (Cloned ss w) := by
  rcases a with _ | ad
  · have h0 : ss = [] := by
      cases ss with
      | nil => rfl
      | cons x l => obtain ⟨b, off, e, _⟩ := hs 0 (by simp); cases e
    subst h0
    have q := fun (W : World) (n c : Nat) => Lib.run_eql_slice_nil (P := Tryz.prog) W 22 9 none n c 0 0 Tryz.underlying22
    go_enter Tryz.func7, Tryz.ntmps7
    go_wp2
    go_ret
    exact ⟨none, 0, rfl, (fun i h => by cases h), Below.refl _ _⟩
  · have HS := Lib.hid hs
    clear hs
    obtain ⟨len, hlen⟩ : ∃ len, len = ss.length := ⟨_, rfl⟩
    rw [← hlen] at hl ⊢
    have HL := Lib.hid hlen
    clear hlen
    have q := fun (W : World) (n c : Nat) => Lib.run_eql_slice_nil (P := Tryz.prog) W 22 9 (some ad) n c 0 0 Tryz.underlying22
    have hmk := fun W => run_make_row' (P := Tryz.prog) 22 9 (.string ⟨#[]⟩) 16 Tryz.underlying22 info9 rfl .i64 .i64 len (by omega) (by omega) W
    go_enter Tryz.func7, Tryz.ntmps7
    go_wp2
    go_loopw [4] (fun i wr => ∃ k : Nat, k ≤ len ∧ i = .int .i64 k ∧ Hid (wr.rowIs w.heap.size 9 len (fun j => if j < k then .string (ss.getD j ByteArray.empty) else .string ⟨#[]⟩)) ∧ Hid (Below w.heap.size w wr)) (fun i _ => len - (intOf i).toNat)
    case atStart => exact ⟨0, by omega, rfl, (World.rowIs_made _ _ _ _).congr (fun i _ => by simp), (Below.refl _ _).alloc (Nat.le_refl _) _⟩
    case round =>
      obtain ⟨k, hk, rfl, hr, hb⟩ := hrel
      by_cases hlt : k < len
      · obtain ⟨b, off, e, hc⟩ := HS.out k (by rw [← HL.out]; exact hlt)
        injection e with e
        subst e
        obtain ⟨x, hsk⟩ : ∃ s, s = ss.getD k ByteArray.empty := ⟨_, rfl⟩
        rw [← hsk] at hc
        have HX := Lib.hid hsk
        clear hsk
        have hcx : wr.cell? ⟨b, off + k, none⟩ = some (.string x) := cell_later hb.out hc
        have hrow : wr.cell? ⟨w.heap.size, k, none⟩ = some (.string ⟨#[]⟩) := by rw [hr.out.cell hlt]; simp
        have hfz : wr.frozen? ⟨w.heap.size, k, none⟩ = false := hr.out.frozen k
        go_wp2
        go_roundw
        case rel => exact ⟨k + 1, by omega, by go_num, (hr.out.set k (.string x)).congr (fun j hj => by
          by_cases hjk : j = k
          · subst hjk; rw [if_pos rfl, if_pos (by omega), HX.out]
          · rw [if_neg hjk]
            by_cases h2 : j < k
            · rw [if_pos h2, if_pos (by omega)]
            · rw [if_neg h2, if_neg (by omega)]), hb.out.setCell (Nat.le_refl _) _⟩
        case measure => simp [intOf]; omega
      · obtain rfl : k = len := by omega
        go_wp2
        go_ret
        exact ⟨some ⟨w.heap.size, 0, none⟩, k, by rw [← HL.out]; rfl, fun i hi => ⟨w.heap.size, 0, rfl, by
          rw [Nat.zero_add, hr.out.cell (by rw [HL.out]; exact hi), if_pos (by rw [HL.out]; exact hi)]⟩, hb.out⟩

/-- A map made by the call. -/
def MadeMap (w : World) (e : Ending) (w' : World) : Prop := ∃ r, e = .returned (.map (some r)) ∧ Below w.heap.size w w'

set_option maxHeartbeats 400000 in
theorem cond_any (a : Option Addr) (cap : Nat) (ss : List ByteArray) (w : World) (hs : Strs w a ss) (hb : Small ss) (hl : ss.length ≤ 1048576) :
    Calls Tryz.prog 8 #[.slice a ss.length cap] w (MadeMap w) := by
  have HS := Lib.hid hs
  have HB := Lib.hid hb
  clear hs hb
  obtain ⟨len, hlen⟩ : ∃ len, len = ss.length := ⟨_, rfl⟩
  rw [← hlen] at hl ⊢
  have HL := Lib.hid hlen
  clear hlen
  have hmm := @run_makeMap Tryz.prog
  have LAW : Keyed Tryz.prog 9 := string_keyed Tryz.underlying9
  go_enter Tryz.func8, Tryz.ntmps8
  go_wp2
  go_loopw [4] (fun i wr => ∃ (k : Nat) (D : DataW Unit), k ≤ len ∧ i = .int .i64 k ∧ Hid (wr.ownsMap Tryz.prog 9 (plainElem Tryz.prog 4) w.heap.size k D) ∧ Hid (Below w.heap.size w wr)) (fun i _ => len - (intOf i).toNat)
  case atStart => exact ⟨0, _, by omega, rfl, World.ownsMap_made _ _ _ _, (Below.refl _ _).alloc (Nat.le_refl _) _⟩
  case round =>
    obtain ⟨k, D, hk, rfl, hm, hbl⟩ := hrel
    by_cases hlt : k < len
    · obtain ⟨b, off, rfl, hc⟩ := HS.out k (by rw [← HL.out]; exact hlt)
      have hsz := HB.out k (by rw [← HL.out]; exact hlt)
      obtain ⟨x, hsk⟩ : ∃ s, s = ss.getD k ByteArray.empty := ⟨_, rfl⟩
      rw [← hsk] at hc hsz
      clear hsk
      have hcx : wr.cell? ⟨b, off + k, none⟩ = some (.string x) := cell_later hbl.out hc
      go_wp2_with (at_mapUpdate; refine wpList_mapUpdate_own _ rfl _ _ _ 27 rfl 9 4 LAW Tryz.underlying27 (plainElem Tryz.prog 4) w.heap.size k D rfl hm.out (by unfold maxLen; omega) _ _ (.string x.data.toList) rfl rfl (WideMaps.keyOf_string_mk Tryz.underlying9 (by unfold maxLen; omega)) _ [] (plainElem_bool Tryz.underlying4 true) ?_; intro w1 hown1 hgrow1)
      go_roundw
      case rel => exact ⟨k + 1, _, by omega, by go_num, hown1, hbl.out.grown hgrow1 (hbl.out.size) (fun g hg => by injection hg with hg; omega)⟩
      case measure => simp [intOf]; omega
    · go_wp2
      go_ret
      exact ⟨_, rfl, hbl.out⟩

end Go.Proofs.YtfglnnofnnmojaaGreatFmt
