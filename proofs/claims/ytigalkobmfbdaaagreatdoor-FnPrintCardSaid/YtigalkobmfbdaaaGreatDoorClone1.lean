/- slices.Clone at texts in memory. -/
import Derived.Test.YtigalkobmfbdaaaGreatDoorParse3
set_option linter.unusedVariables false
set_option linter.unusedSimpArgs false
namespace Go.Proofs.YtigalkobmfbdaaaGreatDoor
open Go.RowKit Go.WideMaps Go.Sort
/-- The texts of a row that a call owns. -/
theorem bsAt_of_row {w : World} {base : Nat} {v : Value} {l : List (List UInt8)} (h : w.ownsRow base 9 1 v l.length (l.map encStr)) : ∃ a c, v = .slice a l.length c ∧ l.length ≤ c ∧ BsAt w a l ∧ ∀ b o, a = some ⟨b, o, none⟩ → base ≤ b ∧ ∃ cur, Blk w b cur 9 := by
  rcases h.2 with ⟨rfl, h0⟩ | ⟨g, cap, cur, rfl, hb, hh, h1, h2, h3, h4⟩
  · exact ⟨none, 0, by rw [h0], by omega, fun j hj => by omega, fun b o e => by cases e⟩
  · refine ⟨_, _, rfl, h1, fun j hj => ⟨g, 0, rfl, ?_⟩, fun b o e => by cases e; exact ⟨hb, cur, hh⟩⟩
    rw [Nat.zero_add, (show Blk w g cur 9 from hh).cell]
    have := congrArg (fun l => l[j]?) h4
    simp only [List.getElem?_take, List.getElem?_map, Nat.mul_one, hj, if_true] at this
    rw [List.getElem?_eq_getElem hj] at this
    simpa using this
theorem clone_calls {w : World} {a : Option Addr} {c : Nat} {l : List (List UInt8)} (hB : BsAt w a l) (hl : l.length ≤ 100000) :
    Calls Tryz.prog 57 #[.slice a l.length c] w fun e w' => (∃ a' c', e = .returned (.slice a' l.length c') ∧ l.length ≤ c' ∧ BsAt w' a' l ∧ ∀ b o, a' = some ⟨b, o, none⟩ → w.heap.size ≤ b ∧ ∃ cur, Blk w' b cur 9) ∧ Ext w w' := by
  cases l with
  | nil =>
    cases a with
    | none =>
      refine (Tryz.slices_Clone_string_nil 0 c w).mono ?_
      rintro e w' ⟨rfl, rfl⟩
      exact ⟨⟨none, 0, rfl, by simp, fun j hj => absurd hj (by simp), fun b o e => by cases e⟩, Ext.refl _⟩
    | some p =>
      refine (Tryz.slices_Clone_string_zero p c w).mono ?_
      rintro e w' ⟨v', rfl, hr, -, hb⟩
      obtain ⟨a', c', rfl, h1, h2, h3⟩ := bsAt_of_row (l := []) hr
      exact ⟨⟨a', c', rfl, h1, h2, h3⟩, hb⟩
  | cons x xs =>
    obtain ⟨b, o, rfl, -⟩ := hB 0 (by simp)
    refine (Tryz.slices_Clone_string b o (x :: xs).length c ((x :: xs).map fun s => (⟨s.toArray⟩ : ByteArray)) w (by simp) (by omega) ?_).mono ?_
    · intro j hj
      have hj2 : j < (x :: xs).length := by simpa using hj
      obtain ⟨b', o', e, hc⟩ := hB j hj2
      simp only [Option.some.injEq, Addr.mk.injEq] at e
      obtain ⟨rfl, rfl, -⟩ := e
      rw [hc, List.getD_eq_getElem?_getD, List.getElem?_map, List.getElem?_eq_getElem hj2]
      rfl
    · rintro e w' ⟨v', rfl, hr, -, hb⟩
      have e2 : List.map Value.string (List.take (x :: xs).length ((x :: xs).map fun s => (⟨s.toArray⟩ : ByteArray))) = (x :: xs).map encStr := by
        rw [List.take_of_length_le (by simp), List.map_map]
        rfl
      rw [e2] at hr
      obtain ⟨a', c', rfl, h1, h2, h3⟩ := bsAt_of_row hr
      exact ⟨⟨a', c', rfl, h1, h2, h3⟩, hb⟩
end Go.Proofs.YtigalkobmfbdaaaGreatDoor
