/- The law FnCut, walked: it answers true of every tree, place and choice. -/
import Derived.Test.YtigalkobmfbdaaaGreatDoorLaw6
set_option linter.unusedVariables false
set_option linter.unusedSimpArgs false
namespace Go.Proofs.YtigalkobmfbdaaaGreatDoor
open Go.RowKit Go.WideMaps Go.Sort
theorem text_pos {s : Int} {t : Tree} (hk : nodeKind t = true) : 0 < (text s t).size := by
  obtain ⟨k, x, ks⟩ := t
  unfold nodeKind at hk
  simp only [kind_mk, Bool.and_eq_true, Bool.not_eq_true'] at hk
  obtain ⟨⟨⟨⟨e1, e2⟩, e3⟩, e4⟩, e5⟩ := hk
  rw [text_mk, e1, e2, e3, e4, e5]
  simp only [Bool.false_eq_true, if_false, app_size]
  have : (⟨#[41]⟩ : ByteArray).size = 1 := rfl
  omega
theorem extract_take (s : ByteArray) (n : Nat) : s.extract 0 n = ⟨(s.toList.take n).toArray⟩ := by
  apply ByteArray.ext
  apply Array.ext'
  rw [ByteArray.data_extract, Array.toList_extract, List.extract_eq_take_drop, ByteArray.toList_eq]
  simp
set_option maxRecDepth 100000 in
set_option maxHeartbeats 4000000 in
theorem cut_law (t : Tree) (a : Option Addr) (c : Nat) (at' : Int) (behind : Bool) (w : World) (hA : TreeAt w a c t) (hat : (Lit.int .u16 at').wf = true) (hT : TabAt w) : Calls Tryz.prog 5 #[treeV t a c, .int .u16 at', .bool behind] w fun e w' => e = .returned (.bool true) ∧ Ext w w' := by
  have HA := Lib.hid (And.intro hA hT)
  have hB := Blk.new w #[.string t.kind, .string t.text, .slice a t.kids.length c] 24
  have KB := Lib.hid hB
  have hs1 : 0 ≤ at' ∧ at' ≤ 65535 := by
    simp [Lit.wf, IntKind.min, IntKind.max, IntKind.signed, IntKind.bits] at hat
    omega
  clear hA hT hB hat
  go_enter Tryz.func5, Tryz.ntmps5
  go_wp2_with fail
  refine (fitsT_calls t a c _ (HA.out.1.mono (box_ext w t a c))).mono ?_
  rintro e w1 ⟨rfl, hE1⟩
  have HE1 := Lib.hid ((box_ext w t a c).trans hE1)
  have fb := (KB.out.ext hE1).frozen
  have lb := (KB.out.ext hE1).lt
  have cb := Blk3 (KB.out.ext hE1)
  have KB1 := Lib.hid (KB.out.ext hE1)
  clear hE1
  cases hf : fitsT t
  · go_wp2_with fail
    go_ret
    exact ⟨rfl, HE1.out⟩
  clear hf
  go_wp2_with fail
  refine (written_calls t a c _ (HA.out.1.mono HE1.out)).mono ?_
  rintro e w2 ⟨rfl, hE2⟩
  have HE2 := Lib.hid (HE1.out.trans hE2)
  have fb2 := (KB1.out.ext hE2).frozen
  have lb2 := (KB1.out.ext hE2).lt
  have cb2 := Blk3 (KB1.out.ext hE2)
  have KB2 := Lib.hid (KB1.out.ext hE2)
  clear hE2 fb lb cb
  cases hw : written t
  · go_wp2_with fail
    go_ret
    exact ⟨rfl, HE2.out⟩
  have HW := Lib.hid (written_parts hw)
  clear hw
  go_wp2_with fail
  refine (fields_calls _ _).mono ?_
  rintro e w3 ⟨a1, c1, rfl, hl1, hl2, hs, hE3⟩
  have HE3 := Lib.hid (HE2.out.trans hE3)
  have fb3 := (KB2.out.ext hE3).frozen
  have lb3 := (KB2.out.ext hE3).lt
  have cb3 := Blk3 (KB2.out.ext hE3)
  have KB3 := Lib.hid (KB2.out.ext hE3)
  clear hE3 fb2 lb2 cb2 hs
  by_cases h0 : (fields t.kind).length = 0
  · have h0' : ((((fields t.kind).length : Nat) : Int) == 0) = true := by rw [h0]; rfl
    go_wp2_with fail
    go_ret
    exact ⟨rfl, HE3.out⟩
  have h0' : ((((fields t.kind).length : Nat) : Int) == 0) = false := beq_eq_false_iff_ne.2 (by omega)
  have hk := entry_one HW.out.2 (fun e => h0 (by rw [e]; rfl)) [] []
  have htm := good_tame t 97 HW.out.2
  have hz := (text_size 0 t htm).1
  have hc60 := HW.out.1
  go_wp2_with fail
  refine (text_calls t 0 htm (by omega) a c _ (HA.out.1.mono HE3.out)).mono ?_
  rintro e w4 ⟨rfl, hE4⟩
  have HE4 := Lib.hid (HE3.out.trans hE4)
  have fb4 := (KB3.out.ext hE4).frozen
  have lb4 := (KB3.out.ext hE4).lt
  have cb4 := Blk3 (KB3.out.ext hE4)
  have KB4 := Lib.hid (KB3.out.ext hE4)
  clear hE4 fb3 lb3 cb3
  have hpos : 0 < (text 0 t).size := text_pos hk.2.1
  have hm : 0 ≤ at' % ((text 0 t).size : Int) ∧ at' % ((text 0 t).size : Int) ≤ (text 0 t).size := ⟨Int.emod_nonneg _ (by omega), by have := Int.emod_lt_of_pos at' (show (0 : Int) < (text 0 t).size by omega); omega⟩
  have hm2 : (at' % ((text 0 t).size : Int)).toNat < (text 0 t).toList.length := by
    rw [size_toList]; have := Int.emod_lt_of_pos at' (show (0 : Int) < (text 0 t).size by omega); omega
  have hcutE : (text 0 t).extract 0 (at' % ((text 0 t).size : Int)).toNat = ⟨((text 0 t).toList.take (at' % ((text 0 t).size : Int)).toNat).toArray⟩ := extract_take _ _
  have HC := Lib.hid (And.intro hm2 hcutE)
  clear hm2 hcutE
  by_cases h9 : (text 0 t).size ≤ 700
  · cases behind
    · go_wp2_with fail
      rw [HC.out.2]
      refine (parse_no (al := false) (.inr (reads_cut false HW.out.2 hk.2.1 (by omega) _ HC.out.1)) (HA.out.2.toExt HE4.out)).mono ?_
      rintro e w5 ⟨rfl, hE5⟩
      have HE5 := Lib.hid (HE4.out.trans hE5)
      clear hE5 fb4 lb4 cb4
      go_wp2_with fail
      refine (readsF_calls (HA.out.2.toExt (HE5.out.trans (Ext.alloc _ _)))).mono ?_
      rintro e w7 ⟨rfl, hE7⟩
      go_wp2_with fail
      go_ret
      exact ⟨rfl, (HE5.out.trans (Ext.alloc _ _)).trans hE7⟩
    · go_wp2_with fail
      refine (parse_no (al := false) (.inr (reads_twice false HW.out.2 hk.2.1 (by omega))) (HA.out.2.toExt HE4.out)).mono ?_
      rintro e w5 ⟨rfl, hE5⟩
      have HE5 := Lib.hid (HE4.out.trans hE5)
      clear hE5 fb4 lb4 cb4
      go_wp2_with fail
      refine (readsF_calls (HA.out.2.toExt (HE5.out.trans (Ext.alloc _ _)))).mono ?_
      rintro e w7 ⟨rfl, hE7⟩
      go_wp2_with fail
      go_ret
      exact ⟨rfl, (HE5.out.trans (Ext.alloc _ _)).trans hE7⟩
  · go_wp2_with fail
    go_ret
    exact ⟨rfl, HE4.out⟩
end Go.Proofs.YtigalkobmfbdaaaGreatDoor
