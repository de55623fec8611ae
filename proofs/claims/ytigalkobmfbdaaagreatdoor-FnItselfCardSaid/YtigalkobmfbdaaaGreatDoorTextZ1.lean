/- Text: a pattern (a tree) as text: the reference's function as a Lean function, and that the Go text computes it; whole, heavy, bracketed beside it. -/
import Derived.Test.YtigalkobmfbdaaaGreatDoorNodesZ1
import Derived.Laws.AppendOwn
import Derived.Deep.LoopGhost
set_option linter.unusedVariables false
set_option linter.unusedSimpArgs false
namespace Go.Proofs.YtigalkobmfbdaaaGreatDoor
open Go.RowKit
def heavy (t : Tree) : Bool := t.kind.toList == [78, 105, 108] || t.kind.toList == [76, 105, 115, 116]
def whole : Tree → Option (List Tree)
  | .mk k _ ks => if k.toList == [76, 105, 115, 116] then (match ks with
    | [] => some []
    | a :: b :: _ => (whole b).map (a :: ·)
    | [_] => none) else none
theorem whole_mk (k x : ByteArray) (ks : List Tree) : whole (.mk k x ks) = if k.toList == [76, 105, 115, 116] then (match ks with
    | [] => some []
    | a :: b :: _ => (whole b).map (a :: ·)
    | [_] => none) else none := by
  conv => lhs; unfold whole
mutual
/-- How many nodes a tree has. -/
def count : Tree → Nat
  | .mk _ _ ks => countAll ks + 1
def countAll : List Tree → Nat
  | [] => 0
  | t :: ts => count t + countAll ts
end
theorem count_pos (t : Tree) : 0 < count t := by cases t; simp [count]
mutual
/-- No list has a single kid, anywhere; and all words are short. -/
def tame : Tree → Bool
  | .mk k x ks => !(k.toList == [76, 105, 115, 116] && ks.length == 1) && decide (k.size ≤ 40) && decide (x.size ≤ 48) && tameAll ks
def tameAll : List Tree → Bool
  | [] => true
  | t :: ts => tame t && tameAll ts
end
theorem tameAll_get : ∀ {ts : List Tree} (_ : tameAll ts = true) (j : Nat) (hj : j < ts.length), tame ts[j] = true
  | t :: ts, h, 0, _ => by simp only [tameAll, Bool.and_eq_true] at h; exact h.1
  | t :: ts, h, j + 1, hj => by simp only [tameAll, Bool.and_eq_true] at h; simpa using tameAll_get h.2 j (by simpa using hj)
theorem tame_kid {t : Tree} (h : tame t = true) (j : Nat) (hj : j < t.kids.length) : tame t.kids[j] = true := by
  cases t; simp only [tame, Bool.and_eq_true] at h; exact tameAll_get h.2 j hj
theorem tame_one {t : Tree} (h : tame t = true) (hk : (t.kind.toList == [76, 105, 115, 116]) = true) : t.kids.length ≠ 1 := by
  cases t with | mk k x ks =>
  simp only [tame, Bool.and_eq_true, Tree.kind] at h hk
  rw [hk] at h
  intro he
  simp only [Tree.kids] at he
  rw [he] at h
  exact absurd h.1.1.1 (by decide)
theorem Blk.grown {w w' : World} {row : Option Nat} {b : Nat} {cs : Array Value} {t : TypeId} (h : Blk w b cs t) (hg : w.grownBy w' row) (hne : some b ≠ row) : Blk w' b cs t := (hg.block b h.lt hne).trans h
theorem count_two (u : Tree) (h2 : 2 ≤ u.kids.length) : count u.kids[0] + count u.kids[1] < count u := by
  obtain ⟨k, x, ks⟩ := u
  match ks, h2 with
  | a :: b :: l, _ => simp only [Tree.kids, count, countAll, List.getElem_cons_zero, List.getElem_cons_succ]; omega
/-- One element more. -/
theorem whole_step {u : Tree} (hk : (u.kind.toList == [76, 105, 115, 116]) = true) (h2 : 2 ≤ u.kids.length) : whole u = (whole u.kids[1]).map (u.kids[0] :: ·) := by
  obtain ⟨k, x, ks⟩ := u
  simp only [Tree.kind, Tree.kids] at hk h2 ⊢
  rw [whole_mk, if_pos hk]
  match ks, h2 with
  | a :: b :: l, _ => rfl
theorem whole_empty {u : Tree} (hk : (u.kind.toList == [76, 105, 115, 116]) = true) (h0 : u.kids.length = 0) : whole u = some [] := by
  obtain ⟨k, x, ks⟩ := u
  simp only [Tree.kind, Tree.kids] at hk h0 ⊢
  obtain rfl := List.eq_nil_of_length_eq_zero h0
  rw [whole_mk, if_pos hk]
theorem whole_none {u : Tree} (hk : (u.kind.toList == [76, 105, 115, 116]) = false) : whole u = none := by
  obtain ⟨k, x, ks⟩ := u
  rw [whole_mk, if_neg]
  intro h
  rw [show (Tree.mk k x ks).kind = k from rfl, h] at hk
  cases hk
/-- A world that w has grown to. -/
structure Exts (w : World) where
  val : World
  ext : Ext w val
instance exts_nonempty (w : World) : Nonempty (Exts w) := ⟨⟨w, Ext.refl w⟩⟩
/-- A region that draws its order, whose operations read or call functions that only make new memory: one walk. -/
theorem wp_region_ext {P : Program} {id : Nat} {Q : Exit → Act → World → Prop} {a : Act} {w : World} {l : List Oper} (hm : P.follows .mixedOrders = true) (hB : Region.lexB .any l.toArray = true)
    (h : wpQuiet P l.toArray (fun w' => ∃ e : Exts w, w' = e.val) (fun a' => ∀ e : Exts w, Q .normal a' e.val) l a) : (Code.region id l.toArray true).wp P Q a w := by
  refine wp_region_quiet (C := fun w' => ∃ e : Exts w, w' = e.val) hm hB ⟨⟨_, Ext.drew w⟩, rfl⟩ ?_
  have e : (fun a' => ∀ w', (∃ e : Exts w, w' = e.val) → Q .normal a' w') = (fun a' => ∀ e : Exts w, Q .normal a' e.val) := by
    funext a'
    exact propext ⟨fun h e => h _ ⟨e, rfl⟩, fun h w' ⟨e, he⟩ => he ▸ h e⟩
  rw [e]
  simpa using h
theorem Calls.ext_of {P : Program} {f : FuncId} {args : Array Value} {w : World} {e : Exts w} {v : Value}
    (h : Calls P f args e.val fun r w' => r = .returned v ∧ Ext e.val w') : Calls P f args e.val fun r w' => r = .returned v ∧ ∃ e2 : Exts w, w' = e2.val :=
  h.mono fun _ _ ⟨he, hx⟩ => ⟨he, ⟨_, e.ext.trans hx⟩, rfl⟩
theorem Exts.cell {w : World} {p : Addr} {v : Value} (h : w.cell? p = some v) : ∀ e : Exts w, e.val.cell? p = some v := fun e => e.ext.keep h
def bit (s m : Int) : Bool := bits BinOp.and .i64 s m != 0
def gapOf (s : Int) : ByteArray := if bit s 8 then ⟨#[32, 32, 10, 9]⟩ else ⟨#[32]⟩
mutual
def text (s : Int) : Tree → ByteArray
  | .mk k x ks =>
    if k.toList == [65, 110, 121] then (if bit s 1 then ⟨#[40, 65, 110, 121, 41]⟩ else ⟨#[95]⟩)
    else if k.toList == [78, 105, 108] then ⟨#[110, 105, 108]⟩
    else if k.toList == [83, 116, 114, 105, 110, 103] then ⟨#[34]⟩ ++ x ++ ⟨#[34]⟩
    else if k.toList == [76, 105, 115, 116] then (match ks with
      | [] => ⟨#[91, 93]⟩
      | a :: b :: _ =>
        if bit s 4 || (heavy a && (!(whole b).isSome || bit s 2)) then ⟨#[40, 76, 105, 115, 116]⟩ ++ gapOf s ++ text s a ++ gapOf s ++ text s b ++ ⟨#[41]⟩
        else if !(whole b).isSome || bit s 2 then text s a ++ ⟨#[58]⟩ ++ text s b
        else ⟨#[91]⟩ ++ (text s a ++ spine s b) ++ ⟨#[93]⟩
      | [_] => ⟨#[]⟩)
    else if k.toList == [66, 105, 110, 100, 105, 110, 103] then (match ks with
      | [] => x
      | a :: _ => x ++ ⟨#[64]⟩ ++ text s a)
    else ⟨#[40]⟩ ++ k ++ textAll s ks ++ ⟨#[41]⟩
def textAll (s : Int) : List Tree → ByteArray
  | [] => ⟨#[]⟩
  | t :: ts => gapOf s ++ text s t ++ textAll s ts
def spine (s : Int) : Tree → ByteArray
  | .mk _ _ ks => (match ks with
    | a :: b :: _ => gapOf s ++ text s a ++ spine s b
    | _ => ⟨#[]⟩)
end
theorem text_mk (s : Int) (k x : ByteArray) (ks : List Tree) : text s (.mk k x ks) = (
    if k.toList == [65, 110, 121] then (if bit s 1 then ⟨#[40, 65, 110, 121, 41]⟩ else ⟨#[95]⟩)
    else if k.toList == [78, 105, 108] then ⟨#[110, 105, 108]⟩
    else if k.toList == [83, 116, 114, 105, 110, 103] then ⟨#[34]⟩ ++ x ++ ⟨#[34]⟩
    else if k.toList == [76, 105, 115, 116] then (match ks with
      | [] => ⟨#[91, 93]⟩
      | a :: b :: _ =>
        if bit s 4 || (heavy a && (!(whole b).isSome || bit s 2)) then ⟨#[40, 76, 105, 115, 116]⟩ ++ gapOf s ++ text s a ++ gapOf s ++ text s b ++ ⟨#[41]⟩
        else if !(whole b).isSome || bit s 2 then text s a ++ ⟨#[58]⟩ ++ text s b
        else ⟨#[91]⟩ ++ (text s a ++ spine s b) ++ ⟨#[93]⟩
      | [_] => ⟨#[]⟩)
    else if k.toList == [66, 105, 110, 100, 105, 110, 103] then (match ks with
      | [] => x
      | a :: _ => x ++ ⟨#[64]⟩ ++ text s a)
    else ⟨#[40]⟩ ++ k ++ textAll s ks ++ ⟨#[41]⟩) := by
  conv => lhs; unfold text
theorem spine_eq (s : Int) (b : Tree) (l : List Tree) (h : whole b = some l) : spine s b = textAll s l := by
  induction l generalizing b with
  | nil =>
    obtain ⟨k, x, ks⟩ := b
    rw [whole_mk] at h
    split at h
    · split at h
      · simp [spine, textAll]
      · rename_i b' _
        cases hb : whole b' <;> rw [hb] at h <;> simp at h
      · cases h
    · cases h
  | cons t l ih =>
    obtain ⟨k, x, ks⟩ := b
    rw [whole_mk] at h
    split at h
    · split at h
      · cases h
      · rename_i a b' _
        cases hb : whole b' with
        | none => rw [hb] at h; simp at h
        | some l' =>
          rw [hb] at h
          simp at h
          obtain ⟨rfl, rfl⟩ := h
          simp [spine, textAll, ih b' hb]
      · cases h
    · cases h
theorem tame_parts {k x : ByteArray} {ks : List Tree} (h : tame (.mk k x ks) = true) : k.size ≤ 40 ∧ x.size ≤ 48 ∧ tameAll ks = true := by
  simp only [tame, Bool.and_eq_true, decide_eq_true_eq] at h; exact ⟨h.1.1.2, h.1.2, h.2⟩
theorem kids_mk (k x : ByteArray) (ks : List Tree) : (Tree.mk k x ks).kids = ks := rfl
theorem kind_mk (k x : ByteArray) (ks : List Tree) : (Tree.mk k x ks).kind = k := rfl
theorem whole_list (t : Tree) : ∀ l, whole t = some l → tame t = true → tameAll l = true ∧ countAll l < count t ∧ ∀ u ∈ l, count u < count t := by
  induction t using Tree.ind with | h t ih => ?_
  intro l h ht
  cases hk : (t.kind.toList == [76, 105, 115, 116])
  · rw [whole_none hk] at h; cases h
  · by_cases h0 : t.kids.length = 0
    · rw [whole_empty hk h0] at h; cases h; exact ⟨rfl, by have := count_pos t; simp [countAll]; omega, by simp⟩
    · have h2 : 2 ≤ t.kids.length := by have := tame_one ht hk; omega
      rw [whole_step hk h2] at h
      cases hw : whole t.kids[1] with
      | none => rw [hw] at h; cases h
      | some l' =>
        rw [hw] at h
        simp at h
        subst h
        obtain ⟨q1, q2, q3⟩ := ih 1 (by omega) l' hw (tame_kid ht 1 (by omega))
        have hc := count_two t h2
        refine ⟨by simp [tameAll, q1, tame_kid ht 0 (by omega)], by simp only [countAll]; omega, ?_⟩
        intro u hu
        rcases List.mem_cons.1 hu with rfl | hu
        · omega
        · have := q3 u hu; omega
end Go.Proofs.YtigalkobmfbdaaaGreatDoor
