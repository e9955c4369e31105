/-
  tryToParseCalcTerm's first loop, walked: the node of a token that is no number, whatever the token.
-/
import Derived.Test.YthbfppnegodpoaaGreatDoorY1
import Derived.Test.YthbfppnegodpoaaGreatDoorY2
namespace Go.Proofs.YthbfppnegodpoaaGreatDoor
open Go.RowKit Go.Deep Go.PlainAid

/-- What the parse of a list answers: nil, or a tree in new blocks. -/
def Ans (w : World) (o : Option CT) (e : Ending) (w' : World) : Prop := ∃ v, e = .returned v ∧ Below w.heap.size w w' ∧ (match o with | none => v = .nilIface | some t => Rep w' (w.heap.size ≤ ·) v t)

theorem reg33_wp {c : Code} (hcode : Tryz.f30.body.bind (frg 33) = some c) (a : Act) (W : World) (b n cap i T P0 : Nat) (tk : Nat → TK)
    (hfr : Fr a) (e0 : a.tmps[0]? = some (.slice (some ⟨b, 0, none⟩) n cap)) (e3 : a.tmps[3]? = some (.slice (some ⟨T, 0, none⟩) n n)) (e4 : a.tmps[4]? = some (.int .i64 i)) (e5 : a.tmps[5]? = some (.pointer (some ⟨P0, 0, none⟩))) (e35 : a.tmps[35]? = some (.slice (some ⟨b, 0, none⟩) n cap)) (e36 : a.tmps[36]? = some (.int .i64 n)) (e37 : a.tmps[37]? = some (.int .i64 i))
    (hn : n ≤ 4096) (hi : i < n) (htk : Toks W b n tk) (htp : TokAt W P0 0 (tk i)) (hTW : T < W.heap.size) :
    Code.wp Tryz.prog c (OnNormal fun a' W' => Fr a' ∧ a'.tmps[0]? = some (.slice (some ⟨b, 0, none⟩) n cap) ∧ a'.tmps[3]? = some (.slice (some ⟨T, 0, none⟩) n n) ∧ a'.tmps[4]? = some (.int .i64 i) ∧ a'.tmps[35]? = some (.slice (some ⟨b, 0, none⟩) n cap) ∧ a'.tmps[36]? = some (.int .i64 n) ∧ a'.tmps[37]? = some (.int .i64 i) ∧
      a'.tmps[6]? = some (.iface 54 (.pointer (some ⟨W.heap.size, 0, none⟩))) ∧ Rep W' (T < ·) (.iface 54 (.pointer (some ⟨W.heap.size, 0, none⟩))) (.val (tk i).kd (tk i).s (tk i).ws (badAt tk n i)) ∧ Below W.heap.size W W') a W := by
  by_cases hin : 0 < i ∧ i + 1 < n
  · obtain ⟨h0, h1⟩ := hin
    by_cases k23 : (tk i).kd = 23
    · cases g0 : (bits .and .u8 (tk i).ws 1 == 0)
      · cases g2 : (bits .and .u8 (tk i).ws 2 == 0)
        · exact reg33_s23e hcode a W b n cap i T P0 tk hfr e0 e3 e4 e5 e35 e36 e37 hn hi htk htp hTW h0 h1 k23 g0 g2
        · exact reg33_s23d hcode a W b n cap i T P0 tk hfr e0 e3 e4 e5 e35 e36 e37 hn hi htk htp hTW h0 h1 k23 g0 g2
      · cases g1 : (bits .and .u8 (tk (i - 1)).ws 2 == 0)
        · cases g2 : (bits .and .u8 (tk i).ws 2 == 0)
          · exact reg33_s23c hcode a W b n cap i T P0 tk hfr e0 e3 e4 e5 e35 e36 e37 hn hi htk htp hTW h0 h1 k23 g0 g1 g2
          · exact reg33_s23b hcode a W b n cap i T P0 tk hfr e0 e3 e4 e5 e35 e36 e37 hn hi htk htp hTW h0 h1 k23 g0 g1 g2
        · exact reg33_s23a hcode a W b n cap i T P0 tk hfr e0 e3 e4 e5 e35 e36 e37 hn hi htk htp hTW h0 h1 k23 g0 g1
    · by_cases k22 : (tk i).kd = 22
      · cases g0 : (bits .and .u8 (tk i).ws 1 == 0)
        · cases g2 : (bits .and .u8 (tk i).ws 2 == 0)
          · exact reg33_s22e hcode a W b n cap i T P0 tk hfr e0 e3 e4 e5 e35 e36 e37 hn hi htk htp hTW h0 h1 k22 g0 g2
          · exact reg33_s22d hcode a W b n cap i T P0 tk hfr e0 e3 e4 e5 e35 e36 e37 hn hi htk htp hTW h0 h1 k22 g0 g2
        · cases g1 : (bits .and .u8 (tk (i - 1)).ws 2 == 0)
          · cases g2 : (bits .and .u8 (tk i).ws 2 == 0)
            · exact reg33_s22c hcode a W b n cap i T P0 tk hfr e0 e3 e4 e5 e35 e36 e37 hn hi htk htp hTW h0 h1 k22 g0 g1 g2
            · exact reg33_s22b hcode a W b n cap i T P0 tk hfr e0 e3 e4 e5 e35 e36 e37 hn hi htk htp hTW h0 h1 k22 g0 g1 g2
          · exact reg33_s22a hcode a W b n cap i T P0 tk hfr e0 e3 e4 e5 e35 e36 e37 hn hi htk htp hTW h0 h1 k22 g0 g1
      · exact reg33_plain hcode a W b n cap i T P0 tk hfr e0 e3 e4 e5 e35 e36 e37 hn hi htk htp hTW h0 h1 ⟨by simpa using k23, by simpa using k22⟩
  · exact reg33_edge hcode a W b n cap i T P0 tk hfr e0 e3 e4 e5 e35 e36 e37 hn hi htk htp hTW hin
end Go.Proofs.YthbfppnegodpoaaGreatDoor
