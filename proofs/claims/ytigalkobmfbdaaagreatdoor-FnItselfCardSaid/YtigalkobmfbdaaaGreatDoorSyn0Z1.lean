/- Parts of a syntax (impl.Syn) in memory: given by value, the kids in a slice. -/
import Derived.Test.YtigalkobmfbdaaaGreatDoorTextZ1
set_option linter.unusedVariables false
set_option linter.unusedSimpArgs false
namespace Go.Proofs.YtigalkobmfbdaaaGreatDoor
open Go.RowKit
inductive Syn where
  | mk (kind : ByteArray) (null : Bool) (text : ByteArray) (num : Int) (kids : List Syn)
def Syn.kind : Syn → ByteArray | .mk k _ _ _ _ => k
def Syn.null : Syn → Bool | .mk _ b _ _ _ => b
def Syn.text : Syn → ByteArray | .mk _ _ x _ _ => x
def Syn.num : Syn → Int | .mk _ _ _ n _ => n
def Syn.kids : Syn → List Syn | .mk _ _ _ _ ks => ks
theorem skind_mk (k b x n ks) : (Syn.mk k b x n ks).kind = k := rfl
theorem snull_mk (k b x n ks) : (Syn.mk k b x n ks).null = b := rfl
theorem stext_mk (k b x n ks) : (Syn.mk k b x n ks).text = x := rfl
theorem snum_mk (k b x n ks) : (Syn.mk k b x n ks).num = n := rfl
theorem skids_mk (k b x n ks) : (Syn.mk k b x n ks).kids = ks := rfl
/-- A number of the kind int. -/
abbrev i64 (n : Int) : Prop := (Lit.int .i64 n).wf = true
mutual
/-- The kids of a part lie at 'a' (a slice of that capacity), all its data in blocks of X. -/
def SynIn (X : Nat → Prop) (w : World) : Option Addr → Nat → Syn → Prop
  | a, c, .mk k _ x n ks => (k.size ≤ 140737488351232 ∧ x.size ≤ 140737488351232 ∧ i64 n) ∧ ks.length ≤ c ∧ c ≤ 140737488351232 ∧ SynsIn X w a ks
def SynsIn (X : Nat → Prop) (w : World) : Option Addr → List Syn → Prop
  | _, [] => True
  | a, t :: ts => ∃ b o a' c', a = some ⟨b, o, none⟩ ∧ X b ∧ w.cell? ⟨b, o, none⟩ = some (.string t.kind) ∧ w.cell? ⟨b, o + 1, none⟩ = some (.bool t.null) ∧ w.cell? ⟨b, o + 2, none⟩ = some (.string t.text) ∧ w.cell? ⟨b, o + 3, none⟩ = some (.int .i64 t.num) ∧ w.cell? ⟨b, o + 4, none⟩ = some (.slice a' t.kids.length c') ∧ SynIn X w a' c' t ∧ SynsIn X w (some ⟨b, o + 5, none⟩) ts
end
/-- The value of a part whose kids lie at 'a'. -/
abbrev synV (t : Syn) (a : Option Addr) (c : Nat) : Value := .agg #[.string t.kind, .bool t.null, .string t.text, .int .i64 t.num, .slice a t.kids.length c]
mutual
theorem SynIn.turn {X Y : Nat → Prop} {w w' : World} (h : ∀ b o v, X b → w.cell? ⟨b, o, none⟩ = some v → Y b ∧ w'.cell? ⟨b, o, none⟩ = some v) : ∀ {a : Option Addr} {c : Nat} {t : Syn}, SynIn X w a c t → SynIn Y w' a c t
  | _, _, .mk _ _ _ _ _, ⟨hs, hc, hl, hk⟩ => ⟨hs, hc, hl, SynsIn.turn h hk⟩
theorem SynsIn.turn {X Y : Nat → Prop} {w w' : World} (h : ∀ b o v, X b → w.cell? ⟨b, o, none⟩ = some v → Y b ∧ w'.cell? ⟨b, o, none⟩ = some v) : ∀ {a : Option Addr} {ts : List Syn}, SynsIn X w a ts → SynsIn Y w' a ts
  | _, [], _ => trivial
  | _, _ :: _, ⟨b, o, a', c', ha, hb, h1, h2, h3, h4, h5, ht, hk⟩ => ⟨b, o, a', c', ha, (h _ _ _ hb h1).1, (h _ _ _ hb h1).2, (h _ _ _ hb h2).2, (h _ _ _ hb h3).2, (h _ _ _ hb h4).2, (h _ _ _ hb h5).2, SynIn.turn h ht, SynsIn.turn h hk⟩
end
theorem SynIn.mono {X : Nat → Prop} {w w' : World} (h : Ext w w') {a : Option Addr} {c : Nat} {t : Syn} (ht : SynIn X w a c t) : SynIn X w' a c t := ht.turn fun _ _ _ hb hc => ⟨hb, h.keep hc⟩
theorem SynIn.imp {X Y : Nat → Prop} {w : World} (h : ∀ b, X b → b < w.heap.size → Y b) {a : Option Addr} {c : Nat} {t : Syn} (ht : SynIn X w a c t) : SynIn Y w a c t := ht.turn fun b _ _ hb hc => ⟨h b hb (cell_lt hc), hc⟩
theorem SynsIn.get {X : Nat → Prop} {w : World} : ∀ {ts : List Syn} {a : Option Addr} (_ : SynsIn X w a ts) (j : Nat) (hj : j < ts.length),
    ∃ b o a' c', a = some ⟨b, o, none⟩ ∧ b < w.heap.size ∧ X b ∧ w.cell? ⟨b, o + j * 5, none⟩ = some (.string ts[j].kind) ∧ w.cell? ⟨b, o + j * 5 + 1, none⟩ = some (.bool ts[j].null) ∧ w.cell? ⟨b, o + j * 5 + 2, none⟩ = some (.string ts[j].text) ∧ w.cell? ⟨b, o + j * 5 + 3, none⟩ = some (.int .i64 ts[j].num) ∧ w.cell? ⟨b, o + j * 5 + 4, none⟩ = some (.slice a' ts[j].kids.length c') ∧ SynIn X w a' c' ts[j]
  | t :: ts, a, ⟨b, o, a', c', ha, hb, h1, h2, h3, h4, h5, ht, hk⟩, 0, _ => ⟨b, o, a', c', ha, cell_lt h1, hb, by simpa using h1, by simpa using h2, by simpa using h3, by simpa using h4, by simpa using h5, ht⟩
  | t :: ts, a, ⟨b, o, _, _, ha, hb, h1, h2, h3, h4, h5, ht, hk⟩, j + 1, hj => by
    obtain ⟨b', o', a', c', ha', hlt, hb', h1', h2', h3', h4', h5', ht'⟩ := SynsIn.get hk j (by simpa using hj)
    obtain ⟨rfl, rfl⟩ : b = b' ∧ o + 5 = o' := by simpa using ha'
    have e : o + 5 + j * 5 = o + (j + 1) * 5 := by omega
    rw [e] at h1' h2' h3' h4' h5'
    exact ⟨b, o, a', c', ha, hlt, hb', h1', h2', h3', h4', h5', ht'⟩
theorem SynIn.kids {X : Nat → Prop} {w : World} {a : Option Addr} {c : Nat} {t : Syn} (h : SynIn X w a c t) : t.kids.length ≤ c ∧ c ≤ 140737488351232 ∧ SynsIn X w a t.kids := by cases t; exact h.2
theorem SynIn.sizes {X : Nat → Prop} {w : World} {a : Option Addr} {c : Nat} {t : Syn} (h : SynIn X w a c t) : t.kind.size ≤ 140737488351232 ∧ t.text.size ≤ 140737488351232 ∧ i64 t.num := by cases t; exact h.1
/-- What a walk asks of kid number j. -/
theorem SynIn.kid {X : Nat → Prop} {w : World} {a : Option Addr} {c : Nat} {t : Syn} (h : SynIn X w a c t) (j : Nat) (hj : j < t.kids.length) :
    ∃ b o a' c', a = some ⟨b, o, none⟩ ∧ b < w.heap.size ∧ X b ∧ w.cell? ⟨b, o + j * 5, none⟩ = some (.string t.kids[j].kind) ∧ w.cell? ⟨b, o + j * 5 + 1, none⟩ = some (.bool t.kids[j].null) ∧ w.cell? ⟨b, o + j * 5 + 2, none⟩ = some (.string t.kids[j].text) ∧ w.cell? ⟨b, o + j * 5 + 3, none⟩ = some (.int .i64 t.kids[j].num) ∧ w.cell? ⟨b, o + j * 5 + 4, none⟩ = some (.slice a' t.kids[j].kids.length c') ∧ SynIn X w a' c' t.kids[j] :=
  h.kids.2.2.get j hj
/-- Induction over parts, the kids by their places. -/
theorem Syn.ind {P : Syn → Prop} (h : ∀ t : Syn, (∀ (j : Nat) (hj : j < t.kids.length), P t.kids[j]) → P t) : ∀ t, P t := by
  intro t
  refine Syn.rec (motive_1 := P) (motive_2 := fun ts => ∀ (j : Nat) (hj : j < ts.length), P ts[j]) ?_ ?_ ?_ t
  · intro k b x n ks ih
    exact h (.mk k b x n ks) ih
  · intro j hj
    exact absurd hj (by simp)
  · intro t ts ht hts j hj
    cases j with
    | zero => exact ht
    | succ j => simpa using hts j (by simpa using hj)
end Go.Proofs.YtigalkobmfbdaaaGreatDoor
