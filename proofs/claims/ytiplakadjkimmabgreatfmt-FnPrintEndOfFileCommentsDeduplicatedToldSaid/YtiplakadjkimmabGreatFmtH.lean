/-
  The walk of the law FnPrintEndOfFileCommentsDeduplicated: put together.
-/
import Derived.Test.YtiplakadjkimmabGreatFmtG
namespace Go.Proofs.YtiplakadjkimmabGreatFmt
open Go.RowKit Go.Deep

/-- The walk of the law: it answers true. -/
theorem fnPrintEndOfFileCommentsDeduplicated_walk (a0 : Option Addr) (cap0 : Nat) (us : List ByteArray) (W : World) (h0 : Slc Value.string ByteArray.empty W a0 us) (l0 : us.length ≤ 9223372036854775807) :
    Calls Tryz.prog 5 #[.slice a0 us.length cap0] W fun e w' => e = .returned (.bool true) ∧ Below W.heap.size W w' := by
  obtain ⟨n, en⟩ : ∃ n, n = us.length := ⟨_, rfl⟩
  have h19 := fun (h : n ≤ 1048576) => clone_strings a0 cap0 us W h0 (by omega)
  rw [← en] at h19 ⊢
  exact law5 a0 n cap0 us W en.symm (zz17_any a0 n cap0 us W (by omega) en.symm h0) (fun hn hs => sumlen_any a0 n cap0 us W hn en.symm hs h0)
    (fun h => (h19 h).mono fun _ _ q => by
      obtain ⟨a', c', e, h1, h2⟩ := q
      exact ⟨a', c', by rw [en]; exact e, h1, h2⟩)
end Go.Proofs.YtiplakadjkimmabGreatFmt
