/- The parser as a Lean function over items. -/
import Derived.Test.YtigalkobmfbdaaaGreatDoorPar3
set_option linter.unusedVariables false
set_option linter.unusedSimpArgs false
namespace Go.Proofs.YtigalkobmfbdaaaGreatDoor
open Go.RowKit
abbrev Names := List (List UInt8)
/-- none: not said (out of fuel, past the end, a node of the name Binding); some none: an error; else what is read, what is left, the names. -/
abbrev PRes (α : Type) := Option (Option (α × List Item × Names))
/-- What is read goes on. -/
def PRes.andThen {α β : Type} (r : PRes α) (k : α → List Item → Names → PRes β) : PRes β := match r with
  | none => none
  | some none => some none
  | some (some (a, S, nm)) => k a S nm
mutual
def nodeM (al : Bool) : Nat → List Item → Names → PRes PN
  | 0, _, _ => none
  | f + 1, S, nm => match S with
    | [] => none
    | x :: S1 => if x.typ == 1 then (match S1 with
      | [] => none
      | t :: S2 => if t.typ == 5 then (objsM al f 2 S2 nm).andThen fun ks S3 nm3 =>
          if said t.val ks then some ((populate al t.val ks).map fun n => (n, S3, nm3)) else none
        else some none) else some none
def objsM (al : Bool) : Nat → Int → List Item → Names → PRes (List PN)
  | 0, _, _, _ => none
  | f + 1, stop, S, nm => match S with
    | [] => none
    | x :: S1 => if x.typ == stop then some (some ([], S1, nm)) else
      (objectM al f (x :: S1) nm).andThen fun n S2 nm2 => (objsM al f stop S2 nm2).andThen fun ks S3 nm3 => some (some (n :: ks, S3, nm3))
def objectM (al : Bool) : Nat → List Item → Names → PRes PN
  | 0, _, _ => none
  | f + 1, S, nm => match S with
    | [] => none
    | x :: S1 =>
      if x.typ == 1 then (nodeM al f (x :: S1) nm).andThen fun n S2 nm2 => tailM al f n S2 nm2
      else if x.typ == 3 then arrayM al f (x :: S1) nm
      else if x.typ == 6 then
        if x.val.toList == [110, 105, 108] then some (some (.nil, S1, nm))
        else (match S1 with
          | [] => none
          | y :: S2 => if y.typ == 7 then (nodeM al f S2 nm).andThen fun o S3 nm3 => tailM al f (.bind x.val o (nm3.idxOf x.val.toList)) S3 (addName nm3 x.val.toList)
            else tailM al f (.bind x.val .nul (nm.idxOf x.val.toList)) (y :: S2) (addName nm x.val.toList))
      else if x.typ == 9 then tailM al f .any S1 nm
      else if x.typ == 10 then some (some (.str x.val, S1, nm))
      else some none
/-- A colon, and a tail. -/
def tailM (al : Bool) : Nat → PN → List Item → Names → PRes PN
  | 0, _, _, _ => none
  | f + 1, n, S, nm => match S with
    | [] => none
    | x :: S1 => if x.typ == 8 then (objectM al f S1 nm).andThen fun t S2 nm2 => some (some (.list n t, S2, nm2)) else some (some (n, x :: S1, nm))
def arrayM (al : Bool) : Nat → List Item → Names → PRes PN
  | 0, _, _ => none
  | f + 1, S, nm => match S with
    | [] => none
    | x :: S1 => if x.typ == 3 then (objsM al f 4 S1 nm).andThen fun ks S2 nm2 => some (some (ks.foldr PN.list (.list .nul .nul), S2, nm2)) else some none
end
/-- Each name takes an item. -/
def Less {α : Type} (S : List Item) (nm : Names) (r : PRes α) : Prop := ∀ a S' nm', r = some (some (a, S', nm')) → S'.length + nm'.length ≤ S.length + nm.length
theorem addName_len (nm : Names) (s : List UInt8) : (addName nm s).length ≤ nm.length + 1 := by unfold addName; split <;> simp
theorem Less.andThen {α β : Type} {S : List Item} {nm : Names} {r : PRes α} {k : α → List Item → Names → PRes β} (h : Less S nm r) (hk : ∀ a S' nm', S'.length + nm'.length ≤ S.length + nm.length → Less S nm (k a S' nm')) : Less S nm (r.andThen k) := by
  intro b S2 nm2 e
  unfold PRes.andThen at e
  split at e
  · cases e
  · cases e
  · exact hk _ _ _ (h _ _ _ rfl) _ _ _ e
theorem Less.mono {α : Type} {S S1 : List Item} {nm nm1 : Names} {r : PRes α} (h : Less S1 nm1 r) (hl : S1.length + nm1.length ≤ S.length + nm.length) : Less S nm r :=
  fun a S' nm' e => Nat.le_trans (h a S' nm' e) hl
theorem Less.no {α : Type} {S : List Item} {nm : Names} : Less (α := α) S nm Option.none := fun _ _ _ e => by cases e
theorem Less.err {α : Type} {S : List Item} {nm : Names} : Less (α := α) S nm (some Option.none) := fun _ _ _ e => by cases e
theorem Less.ret {α : Type} {S S1 : List Item} {nm nm1 : Names} {a : α} (hl : S1.length + nm1.length ≤ S.length + nm.length) : Less S nm (some (some (a, S1, nm1))) := fun _ _ _ e => by cases e; exact hl
theorem nodeM_cons (al : Bool) (f : Nat) (x : Item) (S1 : List Item) (nm : Names) : nodeM al (f + 1) (x :: S1) nm = (if x.typ == 1 then (match S1 with
      | [] => none
      | t :: S2 => if t.typ == 5 then (objsM al f 2 S2 nm).andThen fun ks S3 nm3 =>
          if said t.val ks then some ((populate al t.val ks).map fun n => (n, S3, nm3)) else none
        else some none) else some none) := by
  conv => lhs; unfold nodeM
theorem objectM_cons (al : Bool) (f : Nat) (x : Item) (S1 : List Item) (nm : Names) : objectM al (f + 1) (x :: S1) nm = (
      if x.typ == 1 then (nodeM al f (x :: S1) nm).andThen fun n S2 nm2 => tailM al f n S2 nm2
      else if x.typ == 3 then arrayM al f (x :: S1) nm
      else if x.typ == 6 then
        if x.val.toList == [110, 105, 108] then some (some (.nil, S1, nm))
        else (match S1 with
          | [] => none
          | y :: S2 => if y.typ == 7 then (nodeM al f S2 nm).andThen fun o S3 nm3 => tailM al f (.bind x.val o (nm3.idxOf x.val.toList)) S3 (addName nm3 x.val.toList)
            else tailM al f (.bind x.val .nul (nm.idxOf x.val.toList)) (y :: S2) (addName nm x.val.toList))
      else if x.typ == 9 then tailM al f .any S1 nm
      else if x.typ == 10 then some (some (.str x.val, S1, nm))
      else some none) := by
  conv => lhs; unfold objectM
theorem objsM_cons (al : Bool) (f : Nat) (stop : Int) (x : Item) (S1 : List Item) (nm : Names) : objsM al (f + 1) stop (x :: S1) nm = (if x.typ == stop then some (some ([], S1, nm)) else
      (objectM al f (x :: S1) nm).andThen fun n S2 nm2 => (objsM al f stop S2 nm2).andThen fun ks S3 nm3 => some (some (n :: ks, S3, nm3))) := by
  conv => lhs; unfold objsM
theorem tailM_cons (al : Bool) (f : Nat) (n : PN) (x : Item) (S1 : List Item) (nm : Names) : tailM al (f + 1) n (x :: S1) nm = (if x.typ == 8 then (objectM al f S1 nm).andThen fun t S2 nm2 => some (some (.list n t, S2, nm2)) else some (some (n, x :: S1, nm))) := by
  conv => lhs; unfold tailM
theorem arrayM_cons (al : Bool) (f : Nat) (x : Item) (S1 : List Item) (nm : Names) : arrayM al (f + 1) (x :: S1) nm = (if x.typ == 3 then (objsM al f 4 S1 nm).andThen fun ks S2 nm2 => some (some (ks.foldr PN.list (.list .nul .nul), S2, nm2)) else some none) := by
  conv => lhs; unfold arrayM
theorem model_len (al : Bool) : ∀ f : Nat, (∀ S nm, Less S nm (nodeM al f S nm)) ∧ (∀ st S nm, Less S nm (objsM al f st S nm)) ∧ (∀ S nm, Less S nm (objectM al f S nm)) ∧ (∀ n S nm, Less S nm (tailM al f n S nm)) ∧ (∀ S nm, Less S nm (arrayM al f S nm))
  | 0 => ⟨fun _ _ => by rw [nodeM]; exact Less.no, fun _ _ _ => by rw [objsM]; exact Less.no, fun _ _ => by rw [objectM]; exact Less.no, fun _ _ _ => by rw [tailM]; exact Less.no, fun _ _ => by rw [arrayM]; exact Less.no⟩
  | f + 1 => by
    obtain ⟨h1, h2, h3, h4, h5⟩ := model_len al f
    refine ⟨fun S nm => ?_, fun st S nm => ?_, fun S nm => ?_, fun n S nm => ?_, fun S nm => ?_⟩
    · cases S with
      | nil => rw [nodeM]; exact Less.no
      | cons x S1 =>
      rw [nodeM_cons]
      · split
        · split
          · exact Less.no
          · split
            · refine ((h2 2 _ nm).mono (by simp only [List.length_cons]; omega)).andThen fun ks S3 nm3 hl => ?_
              split
              · intro a S' nm' e
                simp only [Option.some.injEq, Option.map_eq_some_iff] at e
                obtain ⟨n, -, e⟩ := e
                cases e; exact hl
              · exact Less.no
            · exact Less.err
        · exact Less.err
    · cases S with
      | nil => rw [objsM]; exact Less.no
      | cons x S1 =>
      rw [objsM_cons]
      · split
        · exact Less.ret (by simp only [List.length_cons]; omega)
        · refine (h3 _ nm).andThen fun n S2 nm2 hl => ?_
          exact ((h2 st S2 nm2).mono hl).andThen fun ks S3 nm3 hl' => Less.ret hl'
    · cases S with
      | nil => rw [objectM]; exact Less.no
      | cons x S1 =>
      rw [objectM_cons]
      · split
        · exact (h1 _ nm).andThen fun n S2 nm2 hl => (h4 n S2 nm2).mono hl
        · split
          · exact h5 _ nm
          · split
            · split
              · exact Less.ret (by simp only [List.length_cons]; omega)
              · split
                · exact Less.no
                · rename_i y S2
                  split
                  · intro a S' nm' e
                    unfold PRes.andThen at e
                    split at e
                    · cases e
                    · cases e
                    · rename_i o S3 nm3 he
                      have q1 := h1 _ _ _ _ _ he
                      have q2 := h4 _ _ _ _ _ _ e
                      have q3 := addName_len nm3
                      have := q3 x.val.toList
                      simp at q1 q2 ⊢
                      omega
                  · refine (h4 _ _ _).mono ?_
                    have := addName_len nm
                    simp
                    have := this x.val.toList
                    omega
            · split
              · exact (h4 _ _ nm).mono (by simp only [List.length_cons]; omega)
              · split
                · exact Less.ret (by simp only [List.length_cons]; omega)
                · exact Less.err
    · cases S with
      | nil => rw [tailM]; exact Less.no
      | cons x S1 =>
      rw [tailM_cons]
      · split
        · exact ((h3 _ nm).mono (by simp only [List.length_cons]; omega)).andThen fun t S2 nm2 hl => Less.ret hl
        · exact Less.ret (Nat.le_refl _)
    · cases S with
      | nil => rw [arrayM]; exact Less.no
      | cons x S1 =>
      rw [arrayM_cons]
      · split
        · exact ((h2 4 _ nm).mono (by simp only [List.length_cons]; omega)).andThen fun ks S2 nm2 hl => Less.ret hl
        · exact Less.err
end Go.Proofs.YtigalkobmfbdaaaGreatDoor
