/- The thin package's treeOf: a node as data. -/
import Derived.Test.YtigalkobmfbdaaaGreatDoorEntry1Z1
import Derived.Test.YtigalkobmfbdaaaGreatDoorRoot1Z1
import Derived.Deep.RegionHeld3
import Derived.Maps.AppendAt
set_option linter.unusedVariables false
set_option linter.unusedSimpArgs false
namespace Go.Proofs.YtigalkobmfbdaaaGreatDoor
open Go.RowKit
mutual
/-- The kids of a tree lie at 'a', all its data in blocks of X (nothing is said of how far the slice could grow). -/
def TreeIn (X : Nat → Prop) (w : World) : Option Addr → Nat → Tree → Prop
  | a, c, .mk k x ks => (k.size ≤ 140737488351232 ∧ x.size ≤ 140737488351232) ∧ ks.length ≤ c ∧ KidsIn X w a ks
def KidsIn (X : Nat → Prop) (w : World) : Option Addr → List Tree → Prop
  | _, [] => True
  | a, t :: ts => ∃ b o a' c', a = some ⟨b, o, none⟩ ∧ X b ∧ w.cell? ⟨b, o, none⟩ = some (.string t.kind) ∧ w.cell? ⟨b, o + 1, none⟩ = some (.string t.text) ∧ w.cell? ⟨b, o + 2, none⟩ = some (.slice a' t.kids.length c') ∧ TreeIn X w a' c' t ∧ KidsIn X w (some ⟨b, o + 3, none⟩) ts
end
mutual
theorem TreeIn.turn {X Y : Nat → Prop} {w w' : World} (h : ∀ b o v, X b → w.cell? ⟨b, o, none⟩ = some v → Y b ∧ w'.cell? ⟨b, o, none⟩ = some v) : ∀ {a : Option Addr} {c : Nat} {t : Tree}, TreeIn X w a c t → TreeIn Y w' a c t
  | _, _, .mk _ _ _, ⟨hs, hc, hk⟩ => ⟨hs, hc, KidsIn.turn h hk⟩
theorem KidsIn.turn {X Y : Nat → Prop} {w w' : World} (h : ∀ b o v, X b → w.cell? ⟨b, o, none⟩ = some v → Y b ∧ w'.cell? ⟨b, o, none⟩ = some v) : ∀ {a : Option Addr} {ts : List Tree}, KidsIn X w a ts → KidsIn Y w' a ts
  | _, [], _ => trivial
  | _, _ :: _, ⟨b, o, a', c', ha, hb, h1, h2, h3, ht, hk⟩ => ⟨b, o, a', c', ha, (h _ _ _ hb h1).1, (h _ _ _ hb h1).2, (h _ _ _ hb h2).2, (h _ _ _ hb h3).2, TreeIn.turn h ht, KidsIn.turn h hk⟩
end
theorem TreeIn.mono {X : Nat → Prop} {w w' : World} (h : Ext w w') {a : Option Addr} {c : Nat} {t : Tree} (ht : TreeIn X w a c t) : TreeIn X w' a c t := ht.turn fun _ _ _ hb hc => ⟨hb, h.keep hc⟩
theorem TreeIn.imp {X Y : Nat → Prop} {w : World} (h : ∀ b, X b → b < w.heap.size → Y b) {a : Option Addr} {c : Nat} {t : Tree} (ht : TreeIn X w a c t) : TreeIn Y w a c t := ht.turn fun b _ _ hb hc => ⟨h b hb (by simpa using cell_lt hc), hc⟩
theorem KidsIn.get {X : Nat → Prop} {w : World} : ∀ {ts : List Tree} {a : Option Addr} (_ : KidsIn X w a ts) (j : Nat) (hj : j < ts.length),
    ∃ b o a' c', a = some ⟨b, o, none⟩ ∧ b < w.heap.size ∧ X b ∧ w.cell? ⟨b, o + j * 3, none⟩ = some (.string ts[j].kind) ∧ w.cell? ⟨b, o + j * 3 + 1, none⟩ = some (.string ts[j].text) ∧ w.cell? ⟨b, o + j * 3 + 2, none⟩ = some (.slice a' ts[j].kids.length c') ∧ TreeIn X w a' c' ts[j]
  | t :: ts, a, ⟨b, o, a', c', ha, hb, h1, h2, h3, ht, hk⟩, 0, _ => ⟨b, o, a', c', ha, cell_lt h1, hb, by simpa using h1, by simpa using h2, by simpa using h3, ht⟩
  | t :: ts, a, ⟨b, o, _, _, ha, hb, h1, h2, h3, ht, hk⟩, j + 1, hj => by
    obtain ⟨b', o', a', c', ha', hlt, hb', h1', h2', h3', ht'⟩ := KidsIn.get hk j (by simpa using hj)
    obtain ⟨rfl, rfl⟩ : b = b' ∧ o + 3 = o' := by simpa using ha'
    have e : o + 3 + j * 3 = o + (j + 1) * 3 := by omega
    rw [e] at h1' h2' h3'
    exact ⟨b, o, a', c', ha, hlt, hb', h1', h2', h3', ht'⟩
theorem TreeIn.kids {X : Nat → Prop} {w : World} {a : Option Addr} {c : Nat} {t : Tree} (h : TreeIn X w a c t) : t.kids.length ≤ c ∧ KidsIn X w a t.kids := by cases t; exact h.2
theorem TreeIn.sizes {X : Nat → Prop} {w : World} {a : Option Addr} {c : Nat} {t : Tree} (h : TreeIn X w a c t) : t.kind.size ≤ 140737488351232 ∧ t.text.size ≤ 140737488351232 := by cases t; exact h.1
end Go.Proofs.YtigalkobmfbdaaaGreatDoor
