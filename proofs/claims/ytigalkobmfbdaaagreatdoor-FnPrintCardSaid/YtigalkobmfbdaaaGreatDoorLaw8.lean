/- The law FnParse, walked: it answers true of every tree and style. -/
import Derived.Test.YtigalkobmfbdaaaGreatDoorLaw6
import Derived.Test.YtigalkobmfbdaaaGreatDoorSame1
set_option linter.unusedVariables false
set_option linter.unusedSimpArgs false
namespace Go.Proofs.YtigalkobmfbdaaaGreatDoor
open Go.RowKit Go.WideMaps Go.Sort
theorem first_node {t : Tree} (h : first t = true) : nodeKind t = true := by
  obtain ⟨k, x, ks⟩ := t
  replace h : (if k.toList == [79, 114] then ks.all first else decide (0 < (fields k).length)) = true := by rw [first_eq] at h; exact h
  unfold nodeKind
  simp only [kind_mk]
  by_cases h6 : (k.toList == [79, 114]) = true
  · obtain rfl := beq_lit h6
    simp only [toList_mk]
    decide
  · rw [if_neg h6, decide_eq_true_eq] at h
    obtain ⟨y, hy, rfl⟩ := fieldsT_key (k := k) (by intro e; rw [e] at h; simp at h)
    obtain ⟨-, -, -, -, h1, h2, h3, h7, h4, h5⟩ := named_facts y hy
    rw [h1, h2, h3, h4, h5]; rfl
set_option maxRecDepth 100000 in
set_option maxHeartbeats 4000000 in
theorem parse_law (t : Tree) (a : Option Addr) (c : Nat) (st : Int) (w : World) (hA : TreeAt w a c t) (hst : (Lit.int .u8 st).wf = true) (hT : TabAt w) : Calls Tryz.prog 8 #[treeV t a c, .int .u8 st] w fun e w' => e = .returned (.bool true) ∧ Ext w w' := by
  have HA := Lib.hid (And.intro hA hT)
  have hB := Blk.new w #[.string t.kind, .string t.text, .slice a t.kids.length c] 24
  have KB := Lib.hid hB
  have hs1 : 0 ≤ st ∧ st ≤ 255 := by
    simp [Lit.wf, IntKind.min, IntKind.max, IntKind.signed, IntKind.bits] at hst
    omega
  clear hA hT hB
  go_enter Tryz.func8, Tryz.ntmps8
  go_wp2_with fail
  refine (fitsT_calls t a c _ (HA.out.1.mono (box_ext w t a c))).mono ?_
  rintro e w1 ⟨rfl, hE1⟩
  have HE1 := Lib.hid ((box_ext w t a c).trans hE1)
  have fb := (KB.out.ext hE1).frozen
  have lb := (KB.out.ext hE1).lt
  have cb := Blk3 (KB.out.ext hE1)
  have KB1 := Lib.hid (KB.out.ext hE1)
  clear hE1
  cases hf : fitsT t
  · go_wp2_with fail
    go_ret
    exact ⟨rfl, HE1.out⟩
  clear hf
  go_wp2_with fail
  refine (written_calls t a c _ (HA.out.1.mono HE1.out)).mono ?_
  rintro e w2 ⟨rfl, hE2⟩
  have HE2 := Lib.hid (HE1.out.trans hE2)
  have fb2 := (KB1.out.ext hE2).frozen
  have lb2 := (KB1.out.ext hE2).lt
  have cb2 := Blk3 (KB1.out.ext hE2)
  have KB2 := Lib.hid (KB1.out.ext hE2)
  clear hE2 fb lb cb
  cases hw : written t
  · go_wp2_with fail
    go_ret
    exact ⟨rfl, HE2.out⟩
  have HW := Lib.hid (written_parts hw)
  clear hw
  go_wp2_with fail
  refine (first_calls t a c _ (HA.out.1.mono HE2.out)).mono ?_
  rintro e w3 ⟨rfl, hE3⟩
  have HE3 := Lib.hid (HE2.out.trans hE3)
  have fb3 := (KB2.out.ext hE3).frozen
  have lb3 := (KB2.out.ext hE3).lt
  have cb3 := Blk3 (KB2.out.ext hE3)
  have KB3 := Lib.hid (KB2.out.ext hE3)
  clear hE3 fb2 lb2 cb2
  cases hf : first t
  · go_wp2_with fail
    go_ret
    exact ⟨rfl, HE3.out⟩
  have HF := Lib.hid hf
  have htm := good_tame t 97 HW.out.2
  have hz := (text_size st t htm).1
  have hc60 := HW.out.1
  clear hf
  go_wp2_with fail
  refine (text_calls t st htm (by omega) a c _ (HA.out.1.mono HE3.out)).mono ?_
  rintro e w4 ⟨rfl, hE4⟩
  have HE4 := Lib.hid (HE3.out.trans hE4)
  have fb4 := (KB3.out.ext hE4).frozen
  have lb4 := (KB3.out.ext hE4).lt
  have cb4 := Blk3 (KB3.out.ext hE4)
  have KB4 := Lib.hid (KB3.out.ext hE4)
  clear hE4 fb3 lb3 cb3
  by_cases h9 : (text st t).size ≤ 900
  · go_wp2_with fail
    obtain ⟨E, hE⟩ := first_entry t 97 HW.out.2 HF.out [] []
    refine (parse_good (al := _) (s := st) HW.out.2 (first_node HF.out) HW.out.1 (by omega) hE (HA.out.2.toExt HE4.out)).mono ?_
    rintro e w5 ⟨⟨a1, c1, a2, c2, a3, c3, a4, c4, a5, c5, rfl, q1, -⟩, hE5⟩
    have KQ := Lib.hid (And.intro (HE4.out.trans hE5) q1)
    have fb5 := (KB4.out.ext hE5).frozen
    have lb5 := (KB4.out.ext hE5).lt
    have cb5 := Blk3 (KB4.out.ext hE5)
    clear hE hE5 q1 fb4 lb4 cb4
    go_wp2_with fail
    have hA6 := Ext.alloc w5 (.cells #[.string t.kind, .string t.text, .slice a1 t.kids.length c1, .slice a2 E.length c2, .string anyT.kind, .string anyT.text, .slice a3 anyT.kids.length c3, .slice a4 0 c4, .slice a5 (namesT t).length c5] 34)
    refine (same_self t (by omega) a1 c1 a c _ ((KQ.out.2.imp fun _ _ _ => trivial).mono hA6) ((HA.out.1.toIn).mono (KQ.out.1.trans hA6))).mono ?_
    rintro e w6 ⟨rfl, hE6⟩
    have HX := Lib.hid ((KQ.out.1.trans hA6).trans hE6)
    clear hA6 hE6
    go_wp2_with fail
    refine (readsF_calls (HA.out.2.toExt HX.out)).mono ?_
    rintro e w7 ⟨rfl, hE7⟩
    go_wp2_with fail
    go_ret
    exact ⟨rfl, HX.out.trans hE7⟩
  · go_wp2_with fail
    go_ret
    exact ⟨rfl, HE4.out⟩
end Go.Proofs.YtigalkobmfbdaaaGreatDoor
