/-
  tryToParseCalcTerm, walked: the first loop over any row of tokens.
-/
import Derived.Test.YthbfppnegodpoaaGreatDoorZ1
import Derived.Test.YthbfppnegodpoaaGreatDoorZ2
import Derived.Test.YthbfppnegodpoaaGreatDoorZ3
import Derived.Test.YthbfppnegodpoaaGreatDoorZ4
namespace Go.Proofs.YthbfppnegodpoaaGreatDoor
open Go.RowKit Go.Deep Go.PlainAid

/-- What becomes of one token: nothing (the whole is refused), or a term. -/
inductive LeafOk (w : World) (t : TK) (bad : Bool) : Option CT → Prop
  | other (k27 : (t.kd == 27) = false) (k33 : (t.kd == 33) = false) (k30 : (t.kd == 30) = false) (k34 : (t.kd == 34) = false) (k26 : (t.kd == 26) = false) (k29 : (t.kd == 29) = false) : LeafOk w t bad (some (.val t.kd t.s t.ws bad))
  | fn (k27 : t.kd = 27) (h1 : EF w t.s wVar false) (h2 : EF w t.s wCalc false) : LeafOk w t bad (some (.val t.kd t.s t.ws bad))
  | ident (k29 : t.kd = 29) (h1 : EF w t.s wInf false) (h2 : EF w t.s wNeg false) (h3 : EF w t.s wNaN false) : LeafOk w t bad (some (.val t.kd t.s t.ws bad))
  | inf1 (k29 : t.kd = 29) (h1 : EF w t.s wInf true) : LeafOk w t bad (some (.num ⟨#[]⟩ fInf))
  | inf2 (k29 : t.kd = 29) (h1 : EF w t.s wInf false) (h2 : EF w t.s wNeg true) : LeafOk w t bad (some (.num ⟨#[]⟩ fNeg))
  | nan (k29 : t.kd = 29) (h1 : EF w t.s wInf false) (h2 : EF w t.s wNeg false) (h3 : EF w t.s wNaN true) : LeafOk w t bad (some (.num ⟨#[]⟩ fNaN))
  | num (k30 : t.kd = 30) (x : Nat) (h41 : ∀ W', Below w.heap.size w W' → Calls Tryz.prog 41 #[.string t.s, .int .i64 64] W' fun e w' => e = .returned (.tuple #[.float .f64 x, .nilIface]) ∧ W' = w') : LeafOk w t bad (some (.num ⟨#[]⟩ x))
  | nonum (k30 : t.kd = 30) (h41 : ∀ W', Below w.heap.size w W' → Calls Tryz.prog 41 #[.string t.s, .int .i64 64] W' fun e w' => ∃ x u y, e = .returned (.tuple #[.float .f64 x, .iface u y]) ∧ Below W'.heap.size W' w') : LeafOk w t bad (some (.val 30 t.s t.ws false))
  | var (k27 : t.kd = 27) (h1 : EF w t.s wVar true) : LeafOk w t bad none
  | paren (k33 : t.kd = 33) (cb : Nat) (sa : Option Addr) (m cap' : Nat) (o : Option CT) (hch : t.ch = some ⟨cb, 0, none⟩) (hcc : w.cell? ⟨cb, 0, none⟩ = some (.slice sa m cap')) (h30 : ∀ W', Below w.heap.size w W' → Calls Tryz.prog 30 #[.slice sa m cap'] W' (Ans W' o)) : LeafOk w t bad o
  | fcalc (k27 : t.kd = 27) (h1 : EF w t.s wVar false) (h2 : EF w t.s wCalc true) (cb : Nat) (sa : Option Addr) (m cap' : Nat) (o : Option CT) (hch : t.ch = some ⟨cb, 0, none⟩) (hcc : w.cell? ⟨cb, 0, none⟩ = some (.slice sa m cap')) (h30 : ∀ W', Below w.heap.size w W' → Calls Tryz.prog 30 #[.slice sa m cap'] W' (Ans W' o)) : LeafOk w t bad o

theorem LeafOk.later {w W : World} {t : TK} {bad : Bool} {o : Option CT} (h : LeafOk w t bad o) (hb : Below w.heap.size w W) : LeafOk W t bad o := by
  have hl : ∀ W', Below W.heap.size W W' → Below w.heap.size w W' := fun W' h => hb.trans (h.mono hb.size)
  cases h with
  | other k27 k33 k30 k34 k26 k29 => exact .other k27 k33 k30 k34 k26 k29
  | fn k h1 h2 => exact .fn k (h1.later hb) (h2.later hb)
  | ident k h1 h2 h3 => exact .ident k (h1.later hb) (h2.later hb) (h3.later hb)
  | inf1 k h1 => exact .inf1 k (h1.later hb)
  | inf2 k h1 h2 => exact .inf2 k (h1.later hb) (h2.later hb)
  | nan k h1 h2 h3 => exact .nan k (h1.later hb) (h2.later hb) (h3.later hb)
  | num k x h => exact .num k x (fun W' hW => h W' (hl W' hW))
  | nonum k h => exact .nonum k (fun W' hW => h W' (hl W' hW))
  | var k h1 => exact .var k (h1.later hb)
  | paren k cb sa m cap' _ hch hcc h30 => exact .paren k cb sa m cap' _ hch (cell_later hb hcc) (fun W' hW => h30 W' (hl W' hW))
  | fcalc k h1 h2 cb sa m cap' _ hch hcc h30 => exact .fcalc k (h1.later hb) (h2.later hb) cb sa m cap' _ hch (cell_later hb hcc) (fun W' hW => h30 W' (hl W' hW))

/-- One round. -/
theorem leaf_any {d : Code} (hcode : Tryz.f30.body.bind (fb 1) = some (.block 1 d)) (p r : Act → World → Prop) (a : Act) (W : World) (b n cap i T : Nat) (tk : Nat → TK) (ts : List CT)
    (hfr : Fr a) (e0 : a.tmps[0]? = some (.slice (some ⟨b, 0, none⟩) n cap)) (e3 : a.tmps[3]? = some (.slice (some ⟨T, 0, none⟩) n n)) (e35 : a.tmps[35]? = some (.slice (some ⟨b, 0, none⟩) n cap)) (e36 : a.tmps[36]? = some (.int .i64 n)) (e37 : a.tmps[37]? = some (.int .i64 i))
    (hn : n ≤ 4096) (hi : i < n) (htk : Toks W b n tk) (hrow : Row W (T < ·) T n ts) (hlen : ts.length = i) (o : Option CT) (hl : LeafOk W (tk i) (badAt tk n i) o)
    (hQ : ∀ t, o = some t → ∀ a' W', Fr a' → a'.tmps[0]? = some (.slice (some ⟨b, 0, none⟩) n cap) → a'.tmps[3]? = some (.slice (some ⟨T, 0, none⟩) n n) → a'.tmps[35]? = some (.slice (some ⟨b, 0, none⟩) n cap) → a'.tmps[36]? = some (.int .i64 n) → a'.tmps[37]? = some (.int .i64 i) → Row W' (T < ·) T n (ts ++ [t]) → Below T W W' → p a' W')
    (hR : o = none → ∀ a' W', Fr a' → a'.tmps[2]? = some .nilIface → Below T W W' → r a' W') :
    Code.wp Tryz.prog (.block 1 d) (OnNR p r) a W := by
  obtain ⟨t, et⟩ : ∃ t, tk i = t := ⟨_, rfl⟩
  rw [et] at hl
  obtain ⟨ch, s, kd, ws⟩ := t
  cases hl with
  | other k27 k33 k30 k34 k26 k29 => exact leaf_other hcode p r a W b n cap i T tk ts hfr e0 e3 e35 e36 e37 hn hi htk hrow hlen ch s kd ws et k27 k33 k30 k34 k26 k29 (hQ _ rfl)
  | fn k h1 h2 => exact leaf_fn hcode p r a W b n cap i T tk ts hfr e0 e3 e35 e36 e37 hn hi htk hrow hlen ch s kd ws et k h1 h2 (hQ _ rfl)
  | ident k h1 h2 h3 => exact leaf_ident hcode p r a W b n cap i T tk ts hfr e0 e3 e35 e36 e37 hn hi htk hrow hlen ch s kd ws et k h1 h2 h3 (hQ _ rfl)
  | inf1 k h1 => exact leaf_inf1 hcode p r a W b n cap i T tk ts hfr e0 e3 e35 e36 e37 hn hi htk hrow hlen ch s kd ws et k h1 (hQ _ rfl)
  | inf2 k h1 h2 => exact leaf_inf2 hcode p r a W b n cap i T tk ts hfr e0 e3 e35 e36 e37 hn hi htk hrow hlen ch s kd ws et k h1 h2 (hQ _ rfl)
  | nan k h1 h2 h3 => exact leaf_nan hcode p r a W b n cap i T tk ts hfr e0 e3 e35 e36 e37 hn hi htk hrow hlen ch s kd ws et k h1 h2 h3 (hQ _ rfl)
  | num k x h => exact leaf_num hcode p r a W b n cap i T tk ts hfr e0 e3 e35 e36 e37 hn hi htk hrow hlen ch s kd ws et k x h (hQ _ rfl)
  | nonum k h => exact leaf_nonum hcode p r a W b n cap i T tk ts hfr e0 e3 e35 e36 e37 hn hi htk hrow hlen ch s kd ws et k h (hQ _ rfl)
  | var k h1 => exact leaf_var hcode p r a W b n cap i T tk ts hfr e0 e3 e35 e36 e37 hn hi htk hrow hlen ch s kd ws et k h1 (hR rfl)
  | paren k cb sa m cap' _ hch hcc h30 => exact leaf_paren hcode p r a W b n cap i T tk ts hfr e0 e3 e35 e36 e37 hn hi htk hrow hlen ch s kd ws et k cb sa m cap' o hch hcc h30 hQ hR
  | fcalc k h1 h2 cb sa m cap' _ hch hcc h30 => exact leaf_calc hcode p r a W b n cap i T tk ts hfr e0 e3 e35 e36 e37 hn hi htk hrow hlen ch s kd ws et k h1 h2 cb sa m cap' o hch hcc h30 hQ hR
end Go.Proofs.YthbfppnegodpoaaGreatDoor
