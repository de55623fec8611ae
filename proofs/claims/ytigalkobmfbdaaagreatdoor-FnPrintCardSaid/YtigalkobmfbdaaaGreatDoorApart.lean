/- Trees lie apart from a row of zeros. -/
import Derived.Test.YtigalkobmfbdaaaGreatDoorToTreeB
set_option linter.unusedVariables false
namespace Go.Proofs.YtigalkobmfbdaaaGreatDoor
open Go.RowKit
/-- The zero of a Whole. -/
abbrev zeros34 : Array Value := #[.string ⟨#[]⟩, .string ⟨#[]⟩, .slice none 0 0, .slice none 0 0, .string ⟨#[]⟩, .string ⟨#[]⟩, .slice none 0 0, .slice none 0 0, .slice none 0 0]
theorem zeros34_str {o : Nat} {s : ByteArray} (h : zeros34[o]? = some (.string s)) : s = ⟨#[]⟩ := by
  rcases o with _ | _ | _ | _ | _ | _ | _ | _ | _ | o
  all_goals simp [zeros34] at h
  all_goals exact h.symm
mutual
/-- No kind below is the empty text. -/
def kinds : Tree → Prop
  | .mk _ _ ks => kindsAll ks
def kindsAll : List Tree → Prop
  | [] => True
  | t :: ts => t.kind ≠ ⟨#[]⟩ ∧ kinds t ∧ kindsAll ts
end
mutual
theorem TreeIn.apart {X : Nat → Prop} {w : World} {g t34 : Nat} (hg : Blk w g zeros34 t34) : ∀ {a : Option Addr} {c : Nat} {t : Tree}, kinds t → TreeIn X w a c t → TreeIn (fun b => X b ∧ b ≠ g) w a c t
  | _, _, .mk _ _ _, hn, ⟨hs, hc, hk⟩ => ⟨hs, hc, KidsIn.apart hg hn hk⟩
theorem KidsIn.apart {X : Nat → Prop} {w : World} {g t34 : Nat} (hg : Blk w g zeros34 t34) : ∀ {a : Option Addr} {ts : List Tree}, kindsAll ts → KidsIn X w a ts → KidsIn (fun b => X b ∧ b ≠ g) w a ts
  | _, [], _, _ => trivial
  | _, t :: _, hn, ⟨b, o, a', c', ha, hb, h1, h2, h3, ht, hk⟩ => ⟨b, o, a', c', ha, ⟨hb, by rintro rfl; rw [hg.cell] at h1; exact hn.1 (zeros34_str h1)⟩, h1, h2, h3, TreeIn.apart hg hn.2.1 ht, KidsIn.apart hg hn.2.2 hk⟩
end
end Go.Proofs.YtigalkobmfbdaaaGreatDoor
