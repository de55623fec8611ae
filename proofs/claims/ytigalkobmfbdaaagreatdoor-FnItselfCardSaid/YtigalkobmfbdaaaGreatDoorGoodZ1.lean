/- Good: whether a pattern (a tree) can stand where a letter is asked: the reference's function as a Lean function, and that the Go text computes it. -/
import Derived.Test.YtigalkobmfbdaaaGreatDoorSpec1Z1
set_option linter.unusedVariables false
set_option linter.unusedSimpArgs false
namespace Go.Proofs.YtigalkobmfbdaaaGreatDoor
open Go.RowKit
mutual
def binds : Tree → Bool
  | .mk k _ ks => bindsAny ks || k.toList == [66, 105, 110, 100, 105, 110, 103]
def bindsAny : List Tree → Bool
  | [] => false
  | t :: ts => binds t || bindsAny ts
end
def textLetter (c : Int) : Bool := c == 116 || c == 110
/-- May a tree be the tail of a list, by its own name? -/
def tailKind (t : Tree) : Bool := t.kind.toList == [76, 105, 115, 116] || t.kind.toList == [65, 110, 121] || (t.kind.toList == [66, 105, 110, 100, 105, 110, 103] && t.kids.length == 0)
mutual
def good : Tree → Int → Bool
  | .mk k x ks, c =>
    if k.toList == [65, 110, 121] || k.toList == [78, 105, 108] then x.toList == [] && ks.length == 0
    else if k.toList == [83, 116, 114, 105, 110, 103] then textLetter c && ks.length == 0 && ((c == 110 && word x.toList) || (c == 116 && sign x))
    else if k.toList == [76, 105, 115, 116] then
      !textLetter c && x.toList == [] && (match ks with
        | [] => true
        | [a, b] => good a 97 && (tailKind b && good b 108)
        | _ => false)
    else if k.toList == [66, 105, 110, 100, 105, 110, 103] then
      name x.toList && (match ks with
        | [] => true
        | [a] => !textLetter c && named a.kind && good a c
        | _ => false)
    else if k.toList == [79, 114] then goodAll ks c && x.toList == [] && decide (1 ≤ ks.length)
    else if k.toList == [78, 111, 116] then
      x.toList == [] && (match ks with
        | [a] => good a c && !(bindsAny [a])
        | _ => false)
    else !textLetter c && named k && x.toList == [] && ks.length == (args k).length && goodArgs ks (asked k).toList
def goodAll : List Tree → Int → Bool
  | [], _ => true
  | t :: ts, c => good t c && goodAll ts c
def goodArgs : List Tree → List UInt8 → Bool
  | [], _ => true
  | _ :: _, [] => false
  | t :: ts, c :: cs => good t c.toNat && goodArgs ts cs
end
theorem good_mk (k x : ByteArray) (ks : List Tree) (c : Int) : good (.mk k x ks) c = (
    if k.toList == [65, 110, 121] || k.toList == [78, 105, 108] then x.toList == [] && ks.length == 0
    else if k.toList == [83, 116, 114, 105, 110, 103] then textLetter c && ks.length == 0 && ((c == 110 && word x.toList) || (c == 116 && sign x))
    else if k.toList == [76, 105, 115, 116] then
      !textLetter c && x.toList == [] && (match ks with
        | [] => true
        | [a, b] => good a 97 && (tailKind b && good b 108)
        | _ => false)
    else if k.toList == [66, 105, 110, 100, 105, 110, 103] then
      name x.toList && (match ks with
        | [] => true
        | [a] => !textLetter c && named a.kind && good a c
        | _ => false)
    else if k.toList == [79, 114] then goodAll ks c && x.toList == [] && decide (1 ≤ ks.length)
    else if k.toList == [78, 111, 116] then
      x.toList == [] && (match ks with
        | [a] => good a c && !(bindsAny [a])
        | _ => false)
    else !textLetter c && named k && x.toList == [] && ks.length == (args k).length && goodArgs ks (asked k).toList) := by
  conv => lhs; unfold good
/-! The cases of Good, by the kind. -/
theorem len0 (n : Nat) : ((n : Int) == 0) = (n == 0) := by rw [Bool.eq_iff_iff, beq_iff_eq, beq_iff_eq]; omega
theorem goodAll_eq (ks : List Tree) (c : Int) : goodAll ks c = ks.all (fun t => good t c) := by
  induction ks with
  | nil => unfold goodAll; rfl
  | cons t ts ih => unfold goodAll; rw [ih]; rfl
theorem asked_le (k : ByteArray) : (asked k).size ≤ 5 := by
  rcases sw_cases k askedT ⟨#[]⟩ with ⟨h, _⟩ | ⟨x, hx, _, h⟩
  · unfold asked; rw [h]; decide
  · have : ∀ x ∈ askedT, x.2.size ≤ 5 := by decide +kernel
    unfold asked; rw [h]; exact this x hx
theorem args_asked (k : ByteArray) : (args k).length ≤ (asked k).toList.length := by
  rcases sw_cases k fieldsT [] with ⟨h, hn⟩ | ⟨x, hx, rfl, _⟩
  · have : args k = [] := by
      have hf : fields k = [] := h
      unfold args; rw [hf]; split
      · rfl
      · split <;> rfl
    rw [this]; exact Nat.zero_le _
  · have : ∀ x ∈ fieldsT, (args x.1).length ≤ (asked x.1).toList.length := by decide +kernel
    exact this x hx
end Go.Proofs.YtigalkobmfbdaaaGreatDoor
