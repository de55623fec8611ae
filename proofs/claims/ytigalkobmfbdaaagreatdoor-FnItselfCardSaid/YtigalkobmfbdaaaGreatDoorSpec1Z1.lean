/- Small functions of the reference (package spec): words, names, signs, arguments of a kind. Texts are at most 2^47 bytes long. -/
import Derived.Test.YtigalkobmfbdaaaGreatDoorTabZ1
set_option linter.unusedVariables false
set_option linter.unusedSimpArgs false
namespace Go.Proofs.YtigalkobmfbdaaaGreatDoor
open Go.RowKit
def args (k : ByteArray) : List ByteArray :=
  if k.toList == [67, 111, 109, 112, 111, 115, 105, 116, 101, 76, 105, 116] || k.toList == [83, 108, 105, 99, 101, 69, 120, 112, 114] then (fields k).dropLast
  else if k.toList == [69, 109, 112, 116, 121, 83, 116, 109, 116] || k.toList == [80, 97, 114, 101, 110, 69, 120, 112, 114] || k.toList == [69, 120, 112, 114, 83, 116, 109, 116] || k.toList == [66, 108, 111, 99, 107, 83, 116, 109, 116] || k.toList == [76, 97, 98, 101, 108, 101, 100, 83, 116, 109, 116] then []
  else fields k
def named (k : ByteArray) : Bool := decide (0 < (args k).length) || k.toList == [69, 109, 112, 116, 121, 83, 116, 109, 116]
theorem toList_mk (l : List UInt8) : (⟨l.toArray⟩ : ByteArray).toList = l := by rw [ByteArray.toList_eq]
theorem beq_lit {k : ByteArray} {l : List UInt8} (h : (k.toList == l) = true) : k = ⟨l.toArray⟩ := toList_inj ((eq_of_beq h).trans (toList_mk l).symm)
theorem StrsAt.dropLast {w : World} {a : Option Addr} {l : List ByteArray} (h : StrsAt w a l) : StrsAt w a l.dropLast := fun j hj => by
  have hj' : j < l.length := by rw [List.length_dropLast] at hj; omega
  obtain ⟨b, o, ha, hb, hc⟩ := h j hj'
  exact ⟨b, o, ha, hb, by rw [hc, List.getElem_dropLast]⟩
theorem size_toList (s : ByteArray) : s.toList.length = s.size := by rw [ByteArray.toList_eq]; rfl
theorem get_toList (s : ByteArray) (j : Nat) (h : j < s.size) : s.toList[j]'(by rw [size_toList]; exact h) = s[j] := by
  simp only [ByteArray.toList_eq]; rfl

theorem all_take_succ {α : Type} (f : α → Bool) (l : List α) (j : Nat) (h : j < l.length) : (l.take (j + 1)).all f = ((l.take j).all f && f l[j]) := by
  rw [List.take_succ_eq_append_getElem h, List.all_append]; simp only [List.all_cons, List.all_nil, Bool.and_true]
theorem all_of_get {α : Type} (f : α → Bool) (l : List α) (j : Nat) (h : j < l.length) (hf : f l[j] = false) : l.all f = false := by
  rw [Bool.eq_false_iff]; intro h'; rw [List.all_eq_true.1 h' _ (List.getElem_mem h)] at hf; cases hf
def wordB (c : UInt8) : Bool := (97 ≤ c && c ≤ 122) || (48 ≤ c && c ≤ 57) || c == 95
def word (l : List UInt8) : Bool := l.all wordB && decide (1 ≤ l.length) && decide (l.length ≤ 10)
theorem wordB_iff (c : UInt8) : wordB c = true ↔ (97 ≤ c.toNat ∧ c.toNat ≤ 122) ∨ (48 ≤ c.toNat ∧ c.toNat ≤ 57) ∨ c.toNat = 95 := by
  unfold wordB
  rw [Bool.or_eq_true, Bool.or_eq_true, Bool.and_eq_true, Bool.and_eq_true, beq_iff_eq, decide_eq_true_eq, decide_eq_true_eq, decide_eq_true_eq, decide_eq_true_eq, UInt8.le_iff_toNat_le, UInt8.le_iff_toNat_le, UInt8.le_iff_toNat_le, UInt8.le_iff_toNat_le, ← UInt8.toNat_inj, or_assoc]
  rfl
theorem wordB_no {c : UInt8} (h : wordB c = false) : ((97 : Int) ≤ c.toNat ∧ (122 : Int) < c.toNat ∧ ((c.toNat : Int) == 95) = false) ∨ ((c.toNat : Int) < 97 ∧ (57 : Int) < c.toNat ∧ ((c.toNat : Int) == 95) = false) ∨ (c.toNat : Int) < 48 ∧ ((c.toNat : Int) == 95) = false := by
  have hb : ¬ _ := mt (wordB_iff c).2 (by rw [h]; decide)
  by_cases h1 : (97 : Int) ≤ c.toNat
  · exact .inl ⟨h1, by omega, beq_eq_false_iff_ne.2 (by omega)⟩
  · have h3 : ((c.toNat : Int) == 95) = false := beq_eq_false_iff_ne.2 (by omega)
    by_cases h2 : (c.toNat : Int) < 48
    · exact .inr (.inr ⟨h2, h3⟩)
    · exact .inr (.inl ⟨by omega, by omega, h3⟩)
theorem wordB_yes {c : UInt8} (h : wordB c = true) : ((97 : Int) ≤ c.toNat ∧ (c.toNat : Int) ≤ 122) ∨ ((c.toNat : Int) < 97 ∧ (48 : Int) ≤ c.toNat ∧ (c.toNat : Int) ≤ 57) ∨ ((c.toNat : Int) < 97 ∧ (57 : Int) < c.toNat ∧ ((c.toNat : Int) == 95) = true) := by
  rcases (wordB_iff c).1 h with h | h | h
  · exact .inl ⟨by omega, by omega⟩
  · exact .inr (.inl ⟨by omega, by omega, by omega⟩)
  · exact .inr (.inr ⟨by omega, by omega, beq_iff_eq.2 (by omega)⟩)
theorem take_size (s : ByteArray) : s.toList.take s.size = s.toList := List.take_of_length_le (by rw [size_toList]; exact Nat.le_refl _)
theorem any_take_succ {α : Type} (f : α → Bool) (l : List α) (j : Nat) (h : j < l.length) : (l.take (j + 1)).any f = ((l.take j).any f || f l[j]) := by
  rw [List.take_succ_eq_append_getElem h, List.any_append]; simp only [List.any_cons, List.any_nil, Bool.or_false]
theorem any_of_get {α : Type} (f : α → Bool) (l : List α) (j : Nat) (h : j < l.length) (hf : f l[j] = true) : l.any f = true :=
  List.any_eq_true.2 ⟨_, List.getElem_mem h, hf⟩
set_option maxRecDepth 100000 in
set_option maxHeartbeats 1000000 in
theorem among_calls (l : List ByteArray) (a : Option Addr) (c : Nat) (s : ByteArray) (w : World) (hs : StrsAt w a l) (hl : l.length ≤ 140737488351232) :
    Calls Tryz.prog 58 #[.slice a l.length c, .string s] w fun e w' => e = .returned (.bool (l.any fun x => x.toList == s.toList)) ∧ w = w' := by
  go_enter Tryz.func58, Tryz.ntmps58
  go_wp2_with fail
  go_loop [9] (fun i => ∃ j : Nat, i = .int .i64 j ∧ j ≤ l.length ∧ ((l.take j).any fun x => x.toList == s.toList) = false) (fun i => l.length - (intOf i).toNat)
  case atStart => exact ⟨0, rfl, Nat.zero_le _, rfl⟩
  case round =>
    obtain ⟨j, rfl, hj, ha⟩ := hrel
    have HA := Lib.hid ha
    clear ha
    by_cases hlt : j < l.length
    · obtain ⟨b, o, rfl, hb, hc⟩ := hs j hlt
      cases hwb : (l[j].toList == s.toList)
      · go_wp2_with fail
        have HB := Lib.hid hwb
        exact ⟨⟨j + 1, by go_num, by omega, by rw [any_take_succ _ _ _ hlt, HA.out, HB.out]; rfl⟩, by simp [intOf]; omega⟩
      · go_wp2_with fail
        go_ret
        exact ⟨ret_bool (by rw [any_of_get _ _ j hlt hwb]), rfl⟩
    · obtain rfl : j = l.length := by omega
      have HE := Lib.hid (List.take_of_length_le (Nat.le_refl l.length))
      go_wp2_with fail
      go_ret
      exact ⟨ret_bool (by rw [← HE.out, HA.out]), rfl⟩

set_option maxRecDepth 100000 in
set_option maxHeartbeats 1000000 in
theorem word_calls (s : ByteArray) (w : World) (hs : s.size ≤ 140737488351232) : Calls Tryz.prog 43 #[.string s] w fun e w' => e = .returned (.bool (word s.toList)) ∧ w = w' := by
  go_enter Tryz.func43, Tryz.ntmps43
  go_wp2_with fail
  go_loop [7] (fun i => ∃ j : Nat, i = .int .i64 j ∧ j ≤ s.size ∧ (s.toList.take j).all wordB = true) (fun i => s.size - (intOf i).toNat)
  case atStart => exact ⟨0, rfl, Nat.zero_le _, rfl⟩
  case round =>
    obtain ⟨j, rfl, hj, ha⟩ := hrel
    have HA := Lib.hid ha
    clear ha
    by_cases hlt : j < s.size
    · have hlt' : j < s.toList.length := by rw [size_toList]; exact hlt
      have hget := Lib.hid (get_toList s j hlt)
      cases hwb : wordB s[j]
      · have HB := Lib.hid hwb
        have hn := wordB_no hwb
        clear hwb
        rcases hn with ⟨h1, h2, h3⟩ | ⟨h1, h2, h3⟩ | ⟨h1, h3⟩
        all_goals
          go_wp2_with fail
          all_goals first
            | (go_ret; exact ⟨ret_bool (by unfold word; rw [all_of_get _ _ j hlt' (by rw [hget.out]; exact HB.out)]; rfl), rfl⟩)
            | (exfalso; rename_i hx; simp only [Bool.not_eq_eq_eq_not, Bool.not_false, decide_eq_true_eq] at hx; omega)
      · have HB := Lib.hid hwb
        have hn := wordB_yes hwb
        clear hwb
        rcases hn with ⟨h1, h2⟩ | ⟨h1, h2, h3⟩ | ⟨h1, h2, h3⟩
        all_goals
          go_wp2_with fail
          exact ⟨⟨j + 1, by go_num, by omega, by rw [all_take_succ _ _ _ hlt', HA.out, hget.out, HB.out]; rfl⟩, by simp [intOf]; omega⟩
    · obtain rfl : j = s.size := by omega
      have HE := Lib.hid (take_size s)
      by_cases h1 : 1 ≤ s.size
      all_goals
        go_wp2_with fail
        go_ret
        refine ⟨ret_bool ?_, rfl⟩
        unfold word
        rw [← HE.out, HA.out, HE.out, size_toList, Bool.eq_iff_iff]
        simp; try omega

def signKinds : List ByteArray := [⟨#[66, 97, 115, 105, 99, 76, 105, 116]⟩, ⟨#[66, 105, 110, 97, 114, 121, 69, 120, 112, 114]⟩, ⟨#[85, 110, 97, 114, 121, 69, 120, 112, 114]⟩, ⟨#[65, 115, 115, 105, 103, 110, 83, 116, 109, 116]⟩, ⟨#[73, 110, 99, 68, 101, 99, 83, 116, 109, 116]⟩]
def sign (s : ByteArray) : Bool := signKinds.any fun k => (tokens k).any fun x => x.toList == s.toList
theorem tokens_le (k : ByteArray) : (tokens k).length ≤ 10 := by
  rcases sw_cases k tokensT [] with ⟨h, _⟩ | ⟨x, hx, _, h⟩
  · simp [tokens, h]
  · have : ∀ x ∈ tokensT, x.2.length ≤ 10 := by decide
    unfold tokens; rw [h]; exact this x hx
def nameB (c : UInt8) : Bool := 97 ≤ c && c ≤ 122
def name (l : List UInt8) : Bool := l.all nameB && decide (1 ≤ l.length) && decide (l.length ≤ 6) && l != [110, 105, 108]
end Go.Proofs.YtigalkobmfbdaaaGreatDoor
