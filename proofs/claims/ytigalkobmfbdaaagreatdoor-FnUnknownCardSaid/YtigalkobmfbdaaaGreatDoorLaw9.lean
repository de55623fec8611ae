/- The law FnUnknown, walked: it answers true of every name and tree. -/
import Derived.Test.YtigalkobmfbdaaaGreatDoorLaw6
import Derived.Test.YtigalkobmfbdaaaGreatDoorImp3
set_option linter.unusedVariables false
set_option linter.unusedSimpArgs false
namespace Go.Proofs.YtigalkobmfbdaaaGreatDoor
open Go.RowKit Go.WideMaps Go.Sort
abbrev callAB : ByteArray := ⟨#[40, 67, 97, 108, 108, 69, 120, 112, 114, 32, 40, 83, 121, 109, 98, 111, 108, 32, 34, 97, 46, 98, 34, 41, 32, 95, 41]⟩
theorem lex_AB : (lexM callAB.toList .start) = some [(1, [40]), (5, [67, 97, 108, 108, 69, 120, 112, 114]), (1, [40]), (5, [83, 121, 109, 98, 111, 108]), (10, [97, 46, 98]), (2, [41]), (9, [95]), (2, [41]), (11, [])] := by
  rw [toList_mk]; decide +kernel
theorem text_AB : text 0 (callT ⟨#[97, 46, 98]⟩ (.mk ⟨#[65, 110, 121]⟩ noT [])) = callAB := by decide +kernel
theorem item_of {it : Item} {k : Int} {l : List UInt8} (h : tokOf it = (k, l)) (hk : k ≠ 0) : ∃ p, it = ⟨k, ⟨l.toArray⟩, p⟩ := by
  obtain ⟨t, v, p⟩ := it
  simp only [tokOf, Prod.mk.injEq] at h
  obtain ⟨rfl, h⟩ := h
  rw [if_neg hk] at h
  exact ⟨p, by rw [Item.mk.injEq]; exact ⟨rfl, toList_inj (by rw [h, toList_mk]), rfl⟩⟩
theorem one_item {S : List Item} {k : Int} {l : List UInt8} {R : List Tok} (h : S.map tokOf = (k, l) :: R) (hk : k ≠ 0) : ∃ p S2, S = ⟨k, ⟨l.toArray⟩, p⟩ :: S2 ∧ S2.map tokOf = R := by
  cases S with
  | nil => cases h
  | cons it S2 =>
    simp only [List.map_cons, List.cons.injEq] at h
    obtain ⟨p, rfl⟩ := item_of h.1 hk
    exact ⟨p, S2, rfl, h.2⟩
set_option maxRecDepth 100000 in
theorem reads_AB : Reads false callAB none := by
  refine ⟨_, 100, by omega, lex_AB, fun S hS => ?_⟩
  obtain ⟨p1, S1, rfl, h1⟩ := one_item hS (by decide)
  clear hS
  obtain ⟨p2, S2, rfl, h2⟩ := one_item h1 (by decide)
  clear h1
  obtain ⟨p3, S3, rfl, h3⟩ := one_item h2 (by decide)
  clear h2
  obtain ⟨p4, S4, rfl, h4⟩ := one_item h3 (by decide)
  clear h3
  obtain ⟨p5, S5, rfl, h5⟩ := one_item h4 (by decide)
  clear h4
  obtain ⟨p6, S6, rfl, h6⟩ := one_item h5 (by decide)
  clear h5
  obtain ⟨p7, S7, rfl, h7⟩ := one_item h6 (by decide)
  clear h6
  obtain ⟨p8, S8, rfl, h8⟩ := one_item h7 (by decide)
  clear h7
  obtain ⟨p9, S9, rfl, h9⟩ := one_item h8 (by decide)
  clear h8
  cases S9 with
  | cons => cases h9
  | nil => kernel_rfl
theorem sym_AB : SymI ⟨#[97, 46, 98]⟩ ⟨#[97]⟩ ⟨#[]⟩ ⟨#[98]⟩ := fun w =>
  sym_func (s := ⟨#[97, 46, 98]⟩) (p := ⟨#[97]⟩) (i := ⟨#[98]⟩) (by simp only [toList_mk]; decide) (fun h => by show (97 : UInt8) ≠ 40; decide) (by simp only [toList_mk]; decide) (by decide) w
def upB (c : UInt8) : Bool := isUp c.toNat
theorem upB_no {c : UInt8} (h : upB c = false) : (c.toNat : Int) < 65 ∨ (65 ≤ (c.toNat : Int) ∧ (90 : Int) < c.toNat) := by
  simp only [upB, isUp, Bool.and_eq_false_iff, decide_eq_false_iff_not] at h; omega
theorem upB_yes {c : UInt8} (h : upB c = true) : 65 ≤ (c.toNat : Int) ∧ (c.toNat : Int) ≤ 90 := by
  simp only [upB, isUp, Bool.and_eq_true, decide_eq_true_eq] at h; exact h
theorem all_take_one {s : ByteArray} {j : Nat} (hlt : j < s.size) (h : (s.toList.take j).all upB = true) (hb : upB s[j] = true) : (s.toList.take (j + 1)).all upB = true := by
  have hlt' : j < s.toList.length := by rw [size_toList]; exact hlt
  rw [all_take_succ _ _ _ hlt', h, get_toList s j hlt, hb]; rfl
theorem text_unknown {k : ByteArray} (h : k.toList.all upB = true) (x : ByteArray) (p : Tree) : text 0 (.mk k x [p]) = ((⟨#[40]⟩ ++ k) ++ ⟨#[32]⟩ ++ text 0 p) ++ ⟨#[41]⟩ := by
  have hnot : ∀ l : List UInt8, (l.all upB) = false → (k.toList == l) = false := fun l hl => by
    cases e : (k.toList == l) with
    | false => rfl
    | true => rw [eq_of_beq e, hl] at h; cases h
  rw [text_mk, hnot _ (by decide), hnot _ (by decide), hnot _ (by decide), hnot _ (by decide), hnot _ (by decide)]
  have hg : gapOf 0 = ⟨#[32]⟩ := by decide +kernel
  simp only [Bool.false_eq_true, if_false, textAll, hg, ByteArray.append_assoc, show (⟨#[]⟩ : ByteArray) ++ ⟨#[41]⟩ = ⟨#[41]⟩ from by decide +kernel]
abbrev anyQ : Tree := .mk ⟨#[65, 110, 121]⟩ noT []
theorem parse_AB {w : World} (hT : TabAt w) : Calls Tryz.prog 24 #[.string callAB, .bool true] w fun e w' => WholeRes w.heap.size (callT ⟨#[97, 46, 98]⟩ anyQ) (idxT ⟨#[97]⟩ ⟨#[]⟩ ⟨#[98]⟩) [[67, 97, 108, 108, 69, 120, 112, 114]] (namesT anyQ) [(⟨#[97]⟩, ⟨#[]⟩, ⟨#[98]⟩)] e w' ∧ Ext w w' := by
  have h := parse_callT (x := ⟨#[97, 46, 98]⟩) (p := ⟨#[97]⟩) (t := ⟨#[]⟩) (i := ⟨#[98]⟩) sym_AB (by simp only [toList_mk]; decide) (by decide) (by decide) (by decide) (by decide) (q := anyQ) (c := 97) (by decide +kernel) (by decide +kernel) (by rw [text_AB]; decide) hT
  rwa [text_AB] at h
set_option maxRecDepth 100000 in
set_option maxHeartbeats 8000000 in
theorem unknown_law (s : ByteArray) (t : Tree) (a : Option Addr) (c : Nat) (w : World) (hsz : s.size ≤ 140737488351232) (hA : TreeAt w a c t) (hT : TabAt w) : Calls Tryz.prog 9 #[.string s, treeV t a c] w fun e w' => e = .returned (.bool true) ∧ Ext w w' := by
  have HA := Lib.hid (And.intro hA hT)
  have hB := Blk.new w #[.string t.kind, .string t.text, .slice a t.kids.length c] 24
  have KB := Lib.hid hB
  clear hA hT hB
  by_cases hbig : 2147483647 < s.size
  · have hb' : (2147483647 : Int) < (s.size : Int) := by omega
    go_enter Tryz.func9, Tryz.ntmps9
    go_wp2_with fail
    go_ret
    exact ⟨rfl, Ext.alloc _ _⟩
  go_enter Tryz.func9, Tryz.ntmps9
  go_wp2_with fail
  refine (fitsT_calls t a c _ (HA.out.1.mono (box_ext w t a c))).mono ?_
  rintro e w1 ⟨rfl, hE1⟩
  have HE1 := Lib.hid ((box_ext w t a c).trans hE1)
  have fb := (KB.out.ext hE1).frozen
  have lb := (KB.out.ext hE1).lt
  have cb := Blk3 (KB.out.ext hE1)
  have KB1 := Lib.hid (KB.out.ext hE1)
  clear hE1
  cases hf : fitsT t
  · go_wp2_with fail
    go_ret
    exact ⟨rfl, HE1.out⟩
  clear hf
  go_wp2_with fail
  go_loopw [24] (fun i wr => ∃ (j : Nat), i = .int .i64 j ∧ j ≤ s.size ∧ (s.toList.take j).all upB = true ∧ wr = w1) (fun i _ => s.size - (intOf i).toNat)
  case atStart => exact ⟨0, rfl, Nat.zero_le _, rfl, rfl⟩
  case round =>
    obtain ⟨j, rfl, hj, ha, rfl⟩ := hrel
    have HL := Lib.hid ha
    clear ha
    by_cases hlt : j < s.size
    · cases hwb : upB s[j]
      · have hn := upB_no hwb
        clear hwb
        rcases hn with h1 | ⟨h1, h2⟩
        all_goals
          go_wp2_with fail
          go_ret
          exact ⟨rfl, HE1.out⟩
      · have HB := Lib.hid (all_take_one hlt HL.out hwb)
        obtain ⟨h1, h2⟩ := upB_yes hwb
        clear hwb
        go_wp2_with fail
        exact ⟨⟨j + 1, by go_num, by omega, HB.out, by trivial⟩, by simp [intOf]; omega⟩
    · obtain rfl : j = s.size := by omega
      have hall : s.toList.all upB = true := by have := HL.out; rwa [← size_toList, List.take_length] at this
      have HU := Lib.hid hall
      clear hall HL hlt
      go_wp2_with fail
      refine (nodesOf_calls t a c _ (HA.out.1.mono HE1.out)).mono ?_
      rintro e w2 ⟨rfl, hE2⟩
      have HE2 := Lib.hid (HE1.out.trans hE2)
      have fb2 := (KB1.out.ext hE2).frozen
      have lb2 := (KB1.out.ext hE2).lt
      have cb2 := Blk3 (KB1.out.ext hE2)
      have KB2 := Lib.hid (KB1.out.ext hE2)
      clear hE2 fb lb cb
      have HN : Hid (∀ m, (nodesOf t).1 ≤ m → m < 1000 → (count t : Int) ≤ m) := Lib.hid fun m h1 h2 => count_of_nodes h1 h2
      generalize nodesOf t = pq at *
      obtain ⟨n, d⟩ := pq
      simp only at HN ⊢
      by_cases z1 : s.size < 1
      · have z1' : (s.size : Int) < 1 := by omega
        go_wp2_with fail
        go_ret
        exact ⟨rfl, HE2.out⟩
      have z1' : ¬ (s.size : Int) < 1 := by omega
      by_cases z2 : 10 < s.size
      · have z2' : (10 : Int) < (s.size : Int) := by omega
        go_wp2_with fail
        go_ret
        exact ⟨rfl, HE2.out⟩
      have z2' : ¬ (10 : Int) < (s.size : Int) := by omega
      by_cases z3 : (40 : Int) < n
      · go_wp2_with fail
        go_ret
        exact ⟨rfl, HE2.out⟩
      by_cases z4 : (10 : Int) < d
      · go_wp2_with fail
        go_ret
        exact ⟨rfl, HE2.out⟩
      have hct := HN.out 40 (by omega) (by omega)
      have HNE : Hid (s.toList ≠ []) := Lib.hid (by
        intro e
        have h0 : s.toList.length = 0 := by rw [e]; rfl
        rw [size_toList] at h0
        omega)
      go_wp2_with fail
      refine (good_calls t 97 a c _ (HA.out.1.mono HE2.out)).mono ?_
      rintro e w3 ⟨rfl, hE3⟩
      have HE3 := Lib.hid (HE2.out.trans hE3)
      have fb3 := (KB2.out.ext hE3).frozen
      have lb3 := (KB2.out.ext hE3).lt
      have cb3 := Blk3 (KB2.out.ext hE3)
      have KB3 := Lib.hid (KB2.out.ext hE3)
      clear hE3 fb2 lb2 cb2
      cases hg : good t 97
      · go_wp2_with fail
        go_ret
        exact ⟨rfl, HE3.out⟩
      have HG := Lib.hid hg
      have htm := good_tame t 97 hg
      have HM := Lib.hid htm
      clear hg htm
      go_wp2_with fail
      refine (text_calls t 0 HM.out (by omega) a c _ (HA.out.1.mono HE3.out)).mono ?_
      rintro e w4 ⟨rfl, hE4⟩
      have HE4 := Lib.hid (HE3.out.trans hE4)
      have fb4 := (KB3.out.ext hE4).frozen
      have lb4 := (KB3.out.ext hE4).lt
      have cb4 := Blk3 (KB3.out.ext hE4)
      have KB4 := Lib.hid (KB3.out.ext hE4)
      clear hE4 fb3 lb3 cb3
      by_cases z5 : 600 < (text 0 t).size
      · have z5' : (600 : Int) < ((text 0 t).size : Int) := by omega
        go_wp2_with fail
        go_ret
        exact ⟨rfl, HE4.out⟩
      go_wp2_with fail
      refine (text_calls t 0 HM.out (by omega) a c _ (HA.out.1.mono HE4.out)).mono ?_
      rintro e w5 ⟨rfl, hE5⟩
      have HE5 := Lib.hid (HE4.out.trans hE5)
      clear hE5 fb4 lb4 cb4
      go_wp2_with fail
      rw [← text_unknown HU.out noT t]
      refine (parse_no (al := true) (.inr (reads_unknown true (c := 97) (x := noT) HU.out HNE.out HG.out (by omega))) (HA.out.2.toExt HE5.out)).mono ?_
      rintro e w6 ⟨rfl, hE6⟩
      have HE6 := Lib.hid ((HE5.out.trans hE6).trans (Ext.alloc w6 (.cells zeros34 34)))
      clear hE6
      go_wp2_with fail
      refine (parse_no (al := false) (inp := callAB) (.inr reads_AB) (HA.out.2.toExt HE6.out)).mono ?_
      rintro e w7 ⟨rfl, hE7⟩
      have HE7 := Lib.hid ((HE6.out.trans hE7).trans (Ext.alloc w7 (.cells zeros34 34)))
      clear hE7
      go_wp2_with fail
      refine (parse_AB (HA.out.2.toExt HE7.out)).mono ?_
      rintro e w8 ⟨⟨a1, c1, a2, c2, a3, c3, a4, c4, a5, c5, rfl, -⟩, hE8⟩
      have HE8 := Lib.hid (HE7.out.trans hE8)
      clear hE8
      go_wp2_with fail
      refine (readsF_calls (HA.out.2.toExt (HE8.out.trans (Ext.alloc _ _)))).mono ?_
      rintro e w9 ⟨rfl, hE9⟩
      go_wp2_with fail
      go_ret
      exact ⟨rfl, (HE8.out.trans (Ext.alloc _ _)).trans hE9⟩
end Go.Proofs.YtigalkobmfbdaaaGreatDoor
