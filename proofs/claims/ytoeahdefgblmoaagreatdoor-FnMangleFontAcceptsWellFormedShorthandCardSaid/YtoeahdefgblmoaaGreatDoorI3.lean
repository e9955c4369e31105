/-
  One word of mangleFont's first loop, whichever it is.
-/
import Derived.Test.YtoeahdefgblmoaaGreatDoorI2
namespace Go.Proofs.YtoeahdefgblmoaaGreatDoor
open Go.RowKit Go.Deep Go.PlainAid Go.Maps Go.Sort

/-- A word as it stands in the input, and what becomes of it. -/
def inW (x : Nat × Int) : TK := ⟨(pwT x.1).1, (pwT x.1).2.1, x.2⟩
def outW (x : Nat × Int) : List TK := if (pwT x.1).2.2.1 then [] else [⟨(pwT x.1).2.2.2.1, (pwT x.1).2.2.2.2, x.2⟩]

set_option maxRecDepth 100000 in
theorem word_wp {d : Code} (hcode : Tryz.f17.body.bind (fb 1) = some (.block 1 d)) (Q : Exit → Act → World → Prop) (a : Act) (W w0 : World) (p : Value) (T capT n cap k : Nat) (L l : List TK) (a5 : Option Addr) (c5 c : Nat) (ws : Int)
    (hE : Env w0 T capT L) (ha : Ent a W w0 p T n cap k l a5 c5) (hn : n = L.length) (hk : k < n) (hkb : k ≤ 100000) (hc : c < 15) (hkt : L[k]? = some (inW (c, ws))) (hl : l.length ≤ 10000) (nt : TK) (ln : ByteArray) (hnt : L[k + 1]? = some nt) (hal : nt.kd = 26 → Low nt.s ln ∧ noAngle ln)
    (hQ : ∀ a' W' a5' c5', Ent a' W' w0 p T n cap k (l ++ outW (c, ws)) a5' c5' → Q .normal a' W') : Code.wp Tryz.prog (.block 1 d) Q a W := by
  match c, hc with
  | 0, _ => exact normal_wp hcode Q a W w0 p T capT n cap k L l a5 c5 ⟨#[110, 111, 114, 109, 97, 108]⟩ ⟨#[110, 111, 114, 109, 97, 108]⟩ ws hE ha hn hk hkt ⟨by decide, by decide, by kernel_rfl⟩ (by kernel_rfl) (by kernel_rfl) hQ
  | 1, _ => exact normal_wp hcode Q a W w0 p T capT n cap k L l a5 c5 ⟨#[78, 79, 82, 77, 65, 76]⟩ ⟨#[110, 111, 114, 109, 97, 108]⟩ ws hE ha hn hk hkt ⟨by decide, by decide, by kernel_rfl⟩ (by kernel_rfl) (by kernel_rfl) hQ
  | 2, _ => exact italic_wp hcode Q a W w0 p T capT n cap k L l a5 c5 ⟨#[105, 116, 97, 108, 105, 99]⟩ ⟨#[105, 116, 97, 108, 105, 99]⟩ ws hE ha hn hk hkt ⟨by decide, by decide, by kernel_rfl⟩ (by kernel_rfl) hl (by kernel_rfl) hQ
  | 3, _ => exact oblique_wp hcode Q a W w0 p T capT n cap k L l a5 c5 ⟨#[111, 98, 108, 105, 113, 117, 101]⟩ ⟨#[111, 98, 108, 105, 113, 117, 101]⟩ ws hE ha hn hk hkt ⟨by decide, by decide, by kernel_rfl⟩ (by kernel_rfl) hl (by kernel_rfl) hkb nt ln hnt hal hQ
  | 4, _ => exact caps_wp hcode Q a W w0 p T capT n cap k L l a5 c5 ⟨#[115, 109, 97, 108, 108, 45, 99, 97, 112, 115]⟩ ⟨#[115, 109, 97, 108, 108, 45, 99, 97, 112, 115]⟩ ws hE ha hn hk hkt ⟨by decide, by decide, by kernel_rfl⟩ (by kernel_rfl) hl (by kernel_rfl) hQ
  | 5, _ => exact bold_wp hcode Q a W w0 p T capT n cap k L l a5 c5 ⟨#[98, 111, 108, 100]⟩ ⟨#[98, 111, 108, 100]⟩ ws hE ha hn hk hkt ⟨by decide, by decide, by kernel_rfl⟩ (by kernel_rfl) hl (by kernel_rfl) (fun a' W' a5' c5' h => hQ a' W' a5' c5' (by rw [show wtT ⟨#[98, 111, 108, 100]⟩ ⟨29, ⟨#[98, 111, 108, 100]⟩, ws⟩ = ⟨30, ⟨#[55, 48, 48]⟩, ws⟩ from if_pos (by kernel_rfl)] at h; exact h))
  | 6, _ => exact bold_wp hcode Q a W w0 p T capT n cap k L l a5 c5 ⟨#[66, 111, 108, 100]⟩ ⟨#[98, 111, 108, 100]⟩ ws hE ha hn hk hkt ⟨by decide, by decide, by kernel_rfl⟩ (by kernel_rfl) hl (by kernel_rfl) (fun a' W' a5' c5' h => hQ a' W' a5' c5' (by rw [show wtT ⟨#[98, 111, 108, 100]⟩ ⟨29, ⟨#[66, 111, 108, 100]⟩, ws⟩ = ⟨30, ⟨#[55, 48, 48]⟩, ws⟩ from if_pos (by kernel_rfl)] at h; exact h))
  | 7, _ => exact bolder_wp hcode Q a W w0 p T capT n cap k L l a5 c5 ⟨#[98, 111, 108, 100, 101, 114]⟩ ⟨#[98, 111, 108, 100, 101, 114]⟩ ws hE ha hn hk hkt ⟨by decide, by decide, by kernel_rfl⟩ (by kernel_rfl) hl (by kernel_rfl) (fun a' W' a5' c5' h => hQ a' W' a5' c5' (by rw [show wtT ⟨#[98, 111, 108, 100, 101, 114]⟩ ⟨29, ⟨#[98, 111, 108, 100, 101, 114]⟩, ws⟩ = ⟨29, ⟨#[98, 111, 108, 100, 101, 114]⟩, ws⟩ from if_neg (by decide +kernel)] at h; exact h))
  | 8, _ => exact lighter_wp hcode Q a W w0 p T capT n cap k L l a5 c5 ⟨#[76, 73, 71, 72, 84, 69, 82]⟩ ⟨#[108, 105, 103, 104, 116, 101, 114]⟩ ws hE ha hn hk hkt ⟨by decide, by decide, by kernel_rfl⟩ (by kernel_rfl) hl (by kernel_rfl) (fun a' W' a5' c5' h => hQ a' W' a5' c5' (by rw [show wtT ⟨#[108, 105, 103, 104, 116, 101, 114]⟩ ⟨29, ⟨#[76, 73, 71, 72, 84, 69, 82]⟩, ws⟩ = ⟨29, ⟨#[76, 73, 71, 72, 84, 69, 82]⟩, ws⟩ from if_neg (by decide +kernel)] at h; exact h))
  | 9, _ => exact condensed_wp hcode Q a W w0 p T capT n cap k L l a5 c5 ⟨#[99, 111, 110, 100, 101, 110, 115, 101, 100]⟩ ⟨#[99, 111, 110, 100, 101, 110, 115, 101, 100]⟩ ws hE ha hn hk hkt ⟨by decide, by decide, by kernel_rfl⟩ (by kernel_rfl) hl (by kernel_rfl) hQ
  | 10, _ => exact ultra_wp hcode Q a W w0 p T capT n cap k L l a5 c5 ⟨#[85, 108, 116, 114, 97, 45, 69, 120, 112, 97, 110, 100, 101, 100]⟩ ⟨#[117, 108, 116, 114, 97, 45, 101, 120, 112, 97, 110, 100, 101, 100]⟩ ws hE ha hn hk hkt ⟨by decide, by decide, by kernel_rfl⟩ (by kernel_rfl) hl (by kernel_rfl) hQ
  | 11, _ => exact number_wp hcode Q a W w0 p T capT n cap k L l a5 c5 ⟨#[52, 48, 48]⟩ ws hE ha hn hk hkt hl (fun w h => okay_400 w h) hQ
  | 12, _ => exact number_wp hcode Q a W w0 p T capT n cap k L l a5 c5 ⟨#[49]⟩ ws hE ha hn hk hkt hl (fun w h => okay_1 w h) hQ
  | 13, _ => exact number_wp hcode Q a W w0 p T capT n cap k L l a5 c5 ⟨#[49, 48, 48, 48]⟩ ws hE ha hn hk hkt hl (fun w h => okay_1000 w h) hQ
  | 14, _ => exact number_wp hcode Q a W w0 p T capT n cap k L l a5 c5 ⟨#[53, 53, 48, 46, 53]⟩ ws hE ha hn hk hkt hl (fun w h => okay_dot w h) hQ
end Go.Proofs.YtoeahdefgblmoaaGreatDoor
