/- Words that all walks of this seat use: a world that only grows, trees (impl.Tree) in memory. Nothing here is about one function. -/
import Derived.Test.YtigalkobmfbdaaaGreatDoorRows
import Derived.WalkKit
import Derived.WalkSpells
import Derived.WalkLawsBesides
import Derived.Deep.QuietTactic
import Derived.BigQuiet
import Derived.Lib.Hide
import Derived.Outline
import Derived.StillTailTactics
import Derived.Deep.RegionHeld3
import Derived.Deep.RegionWith
import Derived.Deep.DeepCutAuto
namespace Go.Proofs.YtigalkobmfbdaaaGreatDoor
open Go.RowKit

/-- w' is w with new blocks: nothing that was there has turned. -/
def Ext (w w' : World) : Prop := Below w.heap.size w w'
theorem Ext.refl (w : World) : Ext w w := Below.refl _ _
theorem Ext.trans {a b c : World} (h : Ext a b) (k : Ext b c) : Ext a c := Below.trans h (Below.mono k h.size)
theorem Ext.size {a b : World} (h : Ext a b) : a.heap.size ≤ b.heap.size := Below.size h
theorem Ext.alloc (w : World) (o : Obj) : Ext w (w.alloc o) := (Below.refl _ _).alloc (Nat.le_refl _) o
theorem Ext.drew (w : World) : Ext w w.drew := (Below.refl _ _).drew
theorem Ext.drewN (w : World) (n : Nat) : Ext w (w.drewN n) := ⟨rfl, rfl, rfl, Nat.le_refl _, fun _ _ => rfl⟩
theorem Ext.of_alloc {w w' : World} {o : Obj} (h : Ext (w.alloc o) w') : Ext w w' := (Ext.alloc w o).trans h
theorem Ext.setCell {a b : World} (h : Ext a b) {p : Addr} (hp : a.heap.size ≤ p.block) (u : Value) : Ext a (b.setCell p u) := Below.setCell h hp u
theorem Ext.grown {a b c : World} (h : Ext a b) {row : Option Nat} (hg : b.grownBy c row) (hr : ∀ k, row = some k → a.heap.size ≤ k) : Ext a c := Below.grown h hg h.size hr
theorem Ext.block {a b : World} (h : Ext a b) {k : Nat} (hk : k < a.heap.size) : b.heap[k]? = a.heap[k]? := Below.block h k hk
theorem Ext.cell {a b : World} (h : Ext a b) {p : Addr} (hp : p.block < a.heap.size) : b.cell? p = a.cell? p := Below.cell h hp
theorem Ext.frozen {a b : World} (h : Ext a b) {p : Addr} (hp : p.block < a.heap.size) : b.frozen? p = a.frozen? p := Below.frozen h hp
theorem cell_lt {w : World} {a : Addr} {v : Value} (h : w.cell? a = some v) : a.block < w.heap.size := World.block_lt_of_cell? w _ h
theorem Ext.keep {a b : World} (h : Ext a b) {p : Addr} {v : Value} (hc : a.cell? p = some v) : b.cell? p = some v := (h.cell (cell_lt hc)).trans hc

/-- A result and its world. -/
theorem ret_bool {a b : Bool} (h : a = b) : Ending.returned (.bool a) = .returned (.bool b) := by rw [h]
theorem ret_int {k : IntKind} {a b : Int} (h : a = b) : Ending.returned (.int k a) = .returned (.int k b) := by rw [h]
/-! ### Trees -/
inductive Tree where
  | mk (kind text : ByteArray) (kids : List Tree)
def Tree.kind : Tree → ByteArray | .mk k _ _ => k
def Tree.text : Tree → ByteArray | .mk _ t _ => t
def Tree.kids : Tree → List Tree | .mk _ _ k => k
mutual
/-- The kids of a tree lie at 'a' (a slice of that capacity). -/
def TreeAt (w : World) : Option Addr → Nat → Tree → Prop
  | a, c, .mk k x ks => (k.size ≤ 140737488351232 ∧ x.size ≤ 140737488351232) ∧ ks.length ≤ c ∧ c ≤ 140737488351232 ∧ KidsAt w a ks
def KidsAt (w : World) : Option Addr → List Tree → Prop
  | _, [] => True
  | a, t :: ts => ∃ b o a' c', a = some ⟨b, o, none⟩ ∧ w.cell? ⟨b, o, none⟩ = some (.string t.kind) ∧ w.cell? ⟨b, o + 1, none⟩ = some (.string t.text) ∧ w.cell? ⟨b, o + 2, none⟩ = some (.slice a' t.kids.length c') ∧ TreeAt w a' c' t ∧ KidsAt w (some ⟨b, o + 3, none⟩) ts
end
mutual
theorem TreeAt.mono {w w' : World} (h : Ext w w') : ∀ {a : Option Addr} {c : Nat} {t : Tree}, TreeAt w a c t → TreeAt w' a c t
  | _, _, .mk _ _ _, ⟨hs, hc, hl, hk⟩ => ⟨hs, hc, hl, KidsAt.mono h hk⟩
theorem KidsAt.mono {w w' : World} (h : Ext w w') : ∀ {a : Option Addr} {ts : List Tree}, KidsAt w a ts → KidsAt w' a ts
  | _, [], _ => trivial
  | _, _ :: _, ⟨b, o, a', c', ha, h1, h2, h3, ht, hk⟩ => ⟨b, o, a', c', ha, h.keep h1, h.keep h2, h.keep h3, TreeAt.mono h ht, KidsAt.mono h hk⟩
end
theorem KidsAt.get {w : World} : ∀ {ts : List Tree} {a : Option Addr} (_ : KidsAt w a ts) (j : Nat) (hj : j < ts.length),
    ∃ b o a' c', a = some ⟨b, o, none⟩ ∧ b < w.heap.size ∧ w.cell? ⟨b, o + j * 3, none⟩ = some (.string ts[j].kind) ∧ w.cell? ⟨b, o + j * 3 + 1, none⟩ = some (.string ts[j].text) ∧ w.cell? ⟨b, o + j * 3 + 2, none⟩ = some (.slice a' ts[j].kids.length c') ∧ TreeAt w a' c' ts[j]
  | t :: ts, a, ⟨b, o, a', c', ha, h1, h2, h3, ht, hk⟩, 0, _ => ⟨b, o, a', c', ha, cell_lt h1, by simpa using h1, by simpa using h2, by simpa using h3, ht⟩
  | t :: ts, a, ⟨b, o, _, _, ha, h1, h2, h3, ht, hk⟩, j + 1, hj => by
    obtain ⟨b', o', a', c', ha', hlt, h1', h2', h3', ht'⟩ := KidsAt.get hk j (by simpa using hj)
    obtain ⟨rfl, rfl⟩ : b = b' ∧ o + 3 = o' := by simpa using ha'
    have e : o + 3 + j * 3 = o + (j + 1) * 3 := by omega
    rw [e] at h1' h2' h3'
    exact ⟨b, o, a', c', ha, hlt, h1', h2', h3', ht'⟩
theorem TreeAt.kids {w : World} {a : Option Addr} {c : Nat} {t : Tree} (h : TreeAt w a c t) : t.kids.length ≤ c ∧ c ≤ 140737488351232 ∧ KidsAt w a t.kids := by
  cases t; exact h.2
theorem TreeAt.sizes {w : World} {a : Option Addr} {c : Nat} {t : Tree} (h : TreeAt w a c t) : t.kind.size ≤ 140737488351232 ∧ t.text.size ≤ 140737488351232 := by
  cases t; exact h.1
/-- What a walk asks of kid number j. -/
theorem TreeAt.kid {w : World} {a : Option Addr} {c : Nat} {t : Tree} (h : TreeAt w a c t) (j : Nat) (hj : j < t.kids.length) :
    ∃ b o a' c', a = some ⟨b, o, none⟩ ∧ b < w.heap.size ∧ w.cell? ⟨b, o + j * 3, none⟩ = some (.string t.kids[j].kind) ∧ w.cell? ⟨b, o + j * 3 + 1, none⟩ = some (.string t.kids[j].text) ∧ w.cell? ⟨b, o + j * 3 + 2, none⟩ = some (.slice a' t.kids[j].kids.length c') ∧ TreeAt w a' c' t.kids[j] :=
  h.kids.2.2.get j hj
/-- Induction over trees, the kids by their places. -/
theorem Tree.ind {P : Tree → Prop} (h : ∀ t : Tree, (∀ (j : Nat) (hj : j < t.kids.length), P t.kids[j]) → P t) : ∀ t, P t := by
  intro t
  refine Tree.rec (motive_1 := P) (motive_2 := fun ts => ∀ (j : Nat) (hj : j < ts.length), P ts[j]) ?_ ?_ ?_ t
  · intro k x ks ih
    exact h (.mk k x ks) ih
  · intro j hj
    exact absurd hj (by simp)
  · intro t ts ht hts j hj
    cases j with
    | zero => exact ht
    | succ j => simpa using hts j (by simpa using hj)
end Go.Proofs.YtigalkobmfbdaaaGreatDoor
