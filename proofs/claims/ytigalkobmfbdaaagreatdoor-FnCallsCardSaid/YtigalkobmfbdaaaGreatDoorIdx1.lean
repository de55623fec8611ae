/- Places of a byte in a text; paths and titles; what a symbol's name stands for. -/
import Derived.Test.YtigalkobmfbdaaaGreatDoorSpec1
import Derived.Test.YtigalkobmfbdaaaGreatDoorExt2
set_option linter.unusedVariables false
set_option linter.unusedSimpArgs false
namespace Go.Proofs.YtigalkobmfbdaaaGreatDoor
open Go.RowKit
theorem extract_one {s : ByteArray} {j : Nat} (h : j < s.toList.length) : (s.extract j (j + 1)).toList = [s.toList[j]] := by
  simp only [ByteArray.toList_eq] at h ⊢
  rw [ByteArray.data_extract, Array.toList_extract, List.extract_eq_take_drop, Nat.add_sub_cancel_left, List.drop_eq_getElem_cons h, List.take_one]
  rfl
theorem one_beq {s : ByteArray} {j : Nat} {d : UInt8} (h : j < s.toList.length) : ((s.extract j (j + 1)).toList == [d]) = (s.toList[j] == d) := by
  rw [extract_one h]; simp
theorem get_app_self {s u v : List UInt8} {d : UInt8} (hs : s = u ++ d :: v) (h : u.length < s.length) : s[u.length] = d := by
  subst hs; simp
theorem get_app_right {s u v : List UInt8} {d : UInt8} (hs : s = u ++ d :: v) (hv : d ∉ v) {j : Nat} (h1 : u.length < j) (h : j < s.length) : (s[j] == d) = false := by
  subst hs
  rw [beq_eq_false_iff_ne]
  intro e
  apply hv
  rw [← e]
  rw [List.getElem_append_right (by omega)]
  obtain ⟨k, hk⟩ : ∃ k, j - u.length = k + 1 := ⟨j - u.length - 1, by omega⟩
  simp only [hk, List.getElem_cons_succ]
  exact List.getElem_mem _
theorem get_app_left {s u v : List UInt8} {d : UInt8} (hs : s = u ++ d :: v) (hv : d ∉ u) {j : Nat} (h1 : j < u.length) (h : j < s.length) : (s[j] == d) = false := by
  subst hs
  rw [beq_eq_false_iff_ne]
  intro e
  apply hv
  rw [← e]
  rw [List.getElem_append_left h1]
  exact List.getElem_mem _
set_option maxRecDepth 100000 in
set_option maxHeartbeats 1000000 in
theorem lastIndex_calls {s : ByteArray} {u v : List UInt8} {d : UInt8} (hs : s.toList = u ++ d :: v) (hv : d ∉ v) (hz : s.size ≤ 100000) (w : World) :
    Calls Tryz.prog 144 #[.string s, .string ⟨#[d]⟩] w fun e w' => e = .returned (.int .i64 u.length) ∧ w = w' := by
  have hlen : s.size = u.length + (v.length + 1) := by rw [← size_toList, hs]; simp
  have HS := Lib.hid (And.intro hs hv)
  clear hs hv
  go_enter Tryz.func144, Tryz.ntmps144
  go_wp2_with fail
  go_loop [5] (fun i => ∃ j : Nat, i = .int .i64 j ∧ u.length ≤ j ∧ j < s.size) (fun i => (intOf i).toNat)
  case atStart => exact ⟨s.size - 1, by go_num, by omega, by omega⟩
  case round =>
    obtain ⟨j, rfl, h1, h2⟩ := hrel
    have hj : j < s.toList.length := by rw [size_toList]; exact h2
    by_cases he : j = u.length
    · subst he
      have hb : ((s.extract u.length (u.length + 1)).toList == [d]) = true := by rw [one_beq hj, get_app_self HS.out.1 hj, beq_self_eq_true]
      go_wp2_with fail
      go_ret
      exact ⟨rfl, rfl⟩
    · have hb : ((s.extract j (j + 1)).toList == [d]) = false := by rw [one_beq hj]; exact get_app_right HS.out.1 HS.out.2 (by omega) hj
      go_wp2_with fail
      exact ⟨⟨j - 1, by go_num, by omega, by omega⟩, by simp [intOf]; omega⟩
set_option maxRecDepth 100000 in
set_option maxHeartbeats 1000000 in
theorem index_calls {s : ByteArray} {u v : List UInt8} {d : UInt8} (hs : s.toList = u ++ d :: v) (hv : d ∉ u) (hz : s.size ≤ 100000) (w : World) :
    Calls Tryz.prog 142 #[.string s, .string ⟨#[d]⟩] w fun e w' => e = .returned (.int .i64 u.length) ∧ w = w' := by
  have hlen : s.size = u.length + (v.length + 1) := by rw [← size_toList, hs]; simp
  have HS := Lib.hid (And.intro hs hv)
  clear hs hv
  go_enter Tryz.func142, Tryz.ntmps142
  go_wp2_with fail
  go_loop [5] (fun i => ∃ j : Nat, i = .int .i64 j ∧ j ≤ u.length) (fun i => u.length - (intOf i).toNat)
  case atStart => exact ⟨0, rfl, by omega⟩
  case round =>
    obtain ⟨j, rfl, h1⟩ := hrel
    have h2 : j < s.size := by omega
    have hj : j < s.toList.length := by rw [size_toList]; exact h2
    by_cases he : j = u.length
    · subst he
      have hb : ((s.extract u.length (u.length + 1)).toList == [d]) = true := by rw [one_beq hj, get_app_self HS.out.1 hj, beq_self_eq_true]
      go_wp2_with fail
      go_ret
      exact ⟨rfl, rfl⟩
    · have hb : ((s.extract j (j + 1)).toList == [d]) = false := by rw [one_beq hj]; exact get_app_left HS.out.1 HS.out.2 (by omega) hj
      go_wp2_with fail
      exact ⟨⟨j + 1, by go_num, by omega⟩, by simp [intOf]; omega⟩
/-! ### Paths and titles -/
def pathB (c : UInt8) : Bool := (97 ≤ c && c ≤ 122) || c == 47
/-- A bool; if it is true, this holds. -/
def BoolRes (ok : Prop) (e : Ending) : Prop := ∃ b, e = .returned (.bool b) ∧ (b = true → ok)
/-- What is known of a path. -/
def PathOK (s : ByteArray) : Prop := s.toList.all pathB = true ∧ 1 ≤ s.size ∧ s.size ≤ 20 ∧ ∀ h : 0 < s.size, nameB s[0] = true
def PathTo (s : ByteArray) (j : Nat) (c : UInt8) : Prop := (s.toList.take j).all pathB = true ∧ (j = 0 → c = 47) ∧ (0 < j → ∀ h : 0 < s.size, nameB s[0] = true)
theorem PathTo.step {s : ByteArray} {j : Nat} {c : UInt8} (h : PathTo s j c) (hj : j < s.size) (hb : pathB s[j] = true) (h0 : j = 0 → nameB s[j] = true) : PathTo s (j + 1) s[j] := by
  have hlt' : j < s.toList.length := by rw [size_toList]; exact hj
  refine ⟨by rw [all_take_succ _ _ _ hlt', h.1, get_toList s j hj, hb]; rfl, by omega, fun _ hz => ?_⟩
  by_cases e : j = 0
  · subst e; exact h0 rfl
  · exact h.2.2 (by omega) hz
theorem PathTo.ok {s : ByteArray} {c : UInt8} (h : PathTo s s.size c) (hc : c ≠ 47) (hz : s.size ≤ 20) : PathOK s := by
  have h1 : 1 ≤ s.size := by
    rcases Nat.eq_zero_or_pos s.size with e | e
    · exact absurd (h.2.1 e) hc
    · exact e
  exact ⟨by rw [← take_size s]; exact h.1, h1, hz, h.2.2 h1⟩
theorem eq47 {c : UInt8} (h : ((c.toNat : Int) == 47) = true) : c = 47 := by
  rw [← UInt8.toNat_inj]
  have := eq_of_beq h
  show c.toNat = 47
  omega
theorem ne47 {c : UInt8} (h : ((c.toNat : Int) == 47) = false) : c ≠ 47 := by
  rintro rfl
  exact absurd h (by decide)
set_option maxRecDepth 100000 in
set_option maxHeartbeats 1000000 in
theorem path_calls (s : ByteArray) (hs : s.size ≤ 140737488351232) (w : World) :
    Calls Tryz.prog 20 #[.string s] w fun e w' => BoolRes (PathOK s) e ∧ w = w' := by
  go_enter Tryz.func20, Tryz.ntmps20
  go_wp2_with fail
  go_loop [8, 3] (fun i l => ∃ (j : Nat) (c : UInt8), i = .int .i64 j ∧ l = .int .u8 c.toNat ∧ j ≤ s.size ∧ PathTo s j c) (fun i _ => s.size - (intOf i).toNat)
  case atStart => exact ⟨0, 47, rfl, rfl, Nat.zero_le _, rfl, fun _ => rfl, fun h => absurd h (by omega)⟩
  case round =>
    obtain ⟨j, c, rfl, rfl, hj, ha⟩ := hrel
    have HA := Lib.hid ha
    clear ha
    by_cases hlt : j < s.size
    · cases hwb : nameB s[j]
      · have hn := nameB_no hwb
        have HB := Lib.hid hwb
        clear hwb
        cases h47 : ((s[j].toNat : Int) == 47)
        · have h47' : ((s[j].toNat : Int) != 47) = true := by rw [bne, h47]; rfl
          clear h47
          rcases hn with h1 | ⟨h1, h2⟩
          all_goals
            go_wp2_with fail
            all_goals first
              | (go_ret; exact ⟨⟨_, rfl, fun h => by cases h⟩, rfl⟩)
              | (exfalso; rename_i hx; simp at hx; omega)
        · have h47' : ((s[j].toNat : Int) != 47) = false := by rw [bne, h47]; rfl
          have h1 : (s[j].toNat : Int) < 97 := by have := eq_of_beq h47; omega
          have HC := Lib.hid (eq47 h47)
          clear h47 hn
          cases hc : ((c.toNat : Int) == 47)
          · have HN := Lib.hid (ne47 hc)
            go_wp2_with fail
            exact ⟨⟨j + 1, s[j], by go_num, rfl, by omega, HA.out.step hlt (by rw [HC.out]; decide) (fun e => absurd (HA.out.2.1 e) HN.out)⟩, by simp [intOf]; omega⟩
          · go_wp2_with fail
            go_ret
            exact ⟨⟨_, rfl, fun h => by cases h⟩, rfl⟩
      · obtain ⟨h1, h2⟩ := nameB_yes hwb
        have HB := Lib.hid hwb
        clear hwb
        go_wp2_with fail
        exact ⟨⟨j + 1, s[j], by go_num, rfl, by omega, HA.out.step hlt (by have := HB.out; unfold nameB at this; unfold pathB; rw [this]; rfl) (fun _ => HB.out)⟩, by simp [intOf]; omega⟩
    · obtain rfl : j = s.size := by omega
      cases hc : ((c.toNat : Int) == 47)
      · have HN := Lib.hid (ne47 hc)
        have hc' : ((c.toNat : Int) != 47) = true := by rw [bne, hc]; rfl
        clear hc
        by_cases hz : s.size ≤ 20
        · go_wp2_with fail
          go_ret
          exact ⟨⟨_, rfl, fun _ => HA.out.ok HN.out hz⟩, rfl⟩
        · go_wp2_with fail
          go_ret
          exact ⟨⟨_, rfl, fun h => absurd h (by simp; omega)⟩, rfl⟩
      · have hc' : ((c.toNat : Int) != 47) = false := by rw [bne, hc]; rfl
        clear hc
        go_wp2_with fail
        go_ret
        exact ⟨⟨_, rfl, fun h => by cases h⟩, rfl⟩
/-- What is known of a title. -/
def capLowB (c : UInt8) : Bool := (97 ≤ c && c ≤ 122) || (65 ≤ c && c ≤ 90)
def TitleOK (s : ByteArray) : Prop := s.toList.all capLowB = true ∧ 1 ≤ s.size ∧ s.size ≤ 10
def capLetterB (c : UInt8) : Bool := 65 ≤ c && c ≤ 90
theorem capLetterB_iff (c : UInt8) : capLetterB c = true ↔ 65 ≤ c.toNat ∧ c.toNat ≤ 90 := by
  unfold capLetterB
  rw [Bool.and_eq_true, decide_eq_true_eq, decide_eq_true_eq, UInt8.le_iff_toNat_le, UInt8.le_iff_toNat_le]
  rfl
theorem capLetterB_no {c : UInt8} (h : capLetterB c = false) : (c.toNat : Int) < 65 ∨ ((65 : Int) ≤ c.toNat ∧ (90 : Int) < c.toNat) := by
  have hb : ¬ _ := mt (capLetterB_iff c).2 (by rw [h]; decide)
  omega
theorem capLetterB_yes {c : UInt8} (h : capLetterB c = true) : ((65 : Int) ≤ c.toNat ∧ (c.toNat : Int) ≤ 90) := by
  have := (capLetterB_iff c).1 h; omega
set_option maxRecDepth 100000 in
set_option maxHeartbeats 1000000 in
theorem title_calls (s : ByteArray) (hs : s.size ≤ 140737488351232) (w : World) :
    Calls Tryz.prog 21 #[.string s] w fun e w' => BoolRes (TitleOK s) e ∧ w = w' := by
  go_enter Tryz.func21, Tryz.ntmps21
  go_wp2_with fail
  go_loop [7] (fun i => ∃ (j : Nat), i = .int .i64 j ∧ j ≤ s.size ∧ (s.toList.take j).all capLowB = true) (fun i => s.size - (intOf i).toNat)
  case atStart => exact ⟨0, rfl, Nat.zero_le _, rfl⟩
  case round =>
    obtain ⟨j, rfl, hj, ha⟩ := hrel
    have HA := Lib.hid ha
    clear ha
    by_cases hlt : j < s.size
    · have hlt' : j < s.toList.length := by rw [size_toList]; exact hlt
      have step : capLowB s[j] = true → (s.toList.take (j + 1)).all capLowB = true := fun h => by rw [all_take_succ _ _ _ hlt', HA.out, get_toList s j hlt, h]; rfl
      have HS := Lib.hid step
      clear step
      cases hwb : capLetterB s[j]
      · have hn := capLetterB_no hwb
        clear hwb
        by_cases h0 : j = 0
        · subst h0
          rcases hn with h1 | ⟨h1, h2⟩
          all_goals
            go_wp2_with fail
            all_goals first
              | (go_ret; exact ⟨⟨_, rfl, fun h => by cases h⟩, rfl⟩)
              | (exfalso; rename_i hx; simp at hx; omega)
        · have hz : (((j : Nat) : Int) == 0) = false := beq_eq_false_iff_ne.2 (by omega)
          cases hl : nameB s[j]
          · have hm := nameB_no hl
            clear hl
            rcases hn with h1 | ⟨h1, h2⟩ <;> rcases hm with h3 | ⟨h3, h4⟩
            all_goals
              go_wp2_with fail
              all_goals first
                | (go_ret; exact ⟨⟨_, rfl, fun h => by cases h⟩, rfl⟩)
                | (exfalso; rename_i hx; simp at hx; omega)
                | (exfalso; omega)
          · obtain ⟨h3, h4⟩ := nameB_yes hl
            have HL := Lib.hid hl
            clear hl
            rcases hn with h1 | ⟨h1, h2⟩
            · exfalso; omega
            · go_wp2_with fail
              exact ⟨⟨j + 1, by go_num, by omega, HS.out (by have := HL.out; unfold nameB at this; unfold capLowB; rw [this]; rfl)⟩, by simp [intOf]; omega⟩
      · obtain ⟨h1, h2⟩ := capLetterB_yes hwb
        have HB := Lib.hid hwb
        clear hwb
        go_wp2_with fail
        exact ⟨⟨j + 1, by go_num, by omega, HS.out (by have := HB.out; unfold capLetterB at this; unfold capLowB; rw [this, Bool.or_true])⟩, by simp [intOf]; omega⟩
    · obtain rfl : j = s.size := by omega
      have HE := Lib.hid (take_size s)
      by_cases h1 : 1 ≤ s.size
      · by_cases hz : s.size ≤ 10
        · go_wp2_with fail
          go_ret
          exact ⟨⟨_, rfl, fun _ => ⟨by rw [← HE.out]; exact HA.out, h1, hz⟩⟩, rfl⟩
        · go_wp2_with fail
          go_ret
          exact ⟨⟨_, rfl, fun h => absurd h (by simp; omega)⟩, rfl⟩
      · go_wp2_with fail
        go_ret
        exact ⟨⟨_, rfl, fun h => absurd h (by simp; try omega)⟩, rfl⟩
end Go.Proofs.YtigalkobmfbdaaaGreatDoor
