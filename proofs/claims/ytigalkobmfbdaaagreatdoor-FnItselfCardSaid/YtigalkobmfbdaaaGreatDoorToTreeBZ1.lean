/- The thin package's treeOf, second half. -/
import Derived.Test.YtigalkobmfbdaaaGreatDoorToTreeZ1
set_option linter.unusedVariables false
set_option linter.unusedSimpArgs false
namespace Go.Proofs.YtigalkobmfbdaaaGreatDoor
open Go.RowKit
theorem NodeAt.nul {X : Nat → Prop} {w : World} {v : Value} {n : PN} (h : NodeAt X w v n) : (n.isNul = true ∧ v = .nilIface) ∨ (n.isNul = false ∧ ∃ t x, v = .iface t x) := by
  cases n <;> rw [NodeAt] at h
  all_goals first
    | (exact .inl ⟨rfl, h⟩)
    | (exact .inr ⟨rfl, _, _, h⟩)
    | (obtain ⟨a, c, e, -⟩ := h; exact .inr ⟨rfl, _, _, e⟩)
    | (obtain ⟨nv, e, -⟩ := h; exact .inr ⟨rfl, _, _, e⟩)
mutual
/-- Lists are empty, or have a head and a tail. -/
def okN : PN → Bool
  | .struct _ ks => okNs ks
  | .or ks => okNs ks
  | .list h t => (h.isNul && t.isNul) || (!h.isNul && !t.isNul && okN h && okN t)
  | .bind _ n _ => okN n
  | .and _ => false
  | .index _ _ _ => false
  | _ => true
def okNs : List PN → Bool
  | [] => true
  | n :: ns => okN n && okNs ns
end
end Go.Proofs.YtigalkobmfbdaaaGreatDoor
