/- Places of a byte in a text; paths and titles; what a symbol's name stands for. -/
import Derived.Test.YtigalkobmfbdaaaGreatDoorSpec1Z1
import Derived.Test.YtigalkobmfbdaaaGreatDoorExt2Z1
set_option linter.unusedVariables false
set_option linter.unusedSimpArgs false
namespace Go.Proofs.YtigalkobmfbdaaaGreatDoor
open Go.RowKit
/-! ### Paths and titles -/
def pathB (c : UInt8) : Bool := (97 ≤ c && c ≤ 122) || c == 47
/-- A bool; if it is true, this holds. -/
def BoolRes (ok : Prop) (e : Ending) : Prop := ∃ b, e = .returned (.bool b) ∧ (b = true → ok)
/-- What is known of a path. -/
def PathOK (s : ByteArray) : Prop := s.toList.all pathB = true ∧ 1 ≤ s.size ∧ s.size ≤ 20 ∧ ∀ h : 0 < s.size, nameB s[0] = true
def PathTo (s : ByteArray) (j : Nat) (c : UInt8) : Prop := (s.toList.take j).all pathB = true ∧ (j = 0 → c = 47) ∧ (0 < j → ∀ h : 0 < s.size, nameB s[0] = true)
theorem PathTo.step {s : ByteArray} {j : Nat} {c : UInt8} (h : PathTo s j c) (hj : j < s.size) (hb : pathB s[j] = true) (h0 : j = 0 → nameB s[j] = true) : PathTo s (j + 1) s[j] := by
  have hlt' : j < s.toList.length := by rw [size_toList]; exact hj
  refine ⟨by rw [all_take_succ _ _ _ hlt', h.1, get_toList s j hj, hb]; rfl, by omega, fun _ hz => ?_⟩
  by_cases e : j = 0
  · subst e; exact h0 rfl
  · exact h.2.2 (by omega) hz
theorem PathTo.ok {s : ByteArray} {c : UInt8} (h : PathTo s s.size c) (hc : c ≠ 47) (hz : s.size ≤ 20) : PathOK s := by
  have h1 : 1 ≤ s.size := by
    rcases Nat.eq_zero_or_pos s.size with e | e
    · exact absurd (h.2.1 e) hc
    · exact e
  exact ⟨by rw [← take_size s]; exact h.1, h1, hz, h.2.2 h1⟩
end Go.Proofs.YtigalkobmfbdaaaGreatDoor
