/- The law FnNames, walked: it answers true of every tree. -/
import Derived.Test.YtigalkobmfbdaaaGreatDoorLaw8
import Derived.Test.YtigalkobmfbdaaaGreatDoorNames1
import Derived.BigQuiet
set_option linter.unusedVariables false
set_option linter.unusedSimpArgs false
namespace Go.Proofs.YtigalkobmfbdaaaGreatDoor
open Go.RowKit Go.WideMaps Go.Sort
set_option maxRecDepth 100000 in
set_option maxHeartbeats 4000000 in
theorem names_law (t : Tree) (a : Option Addr) (c : Nat) (w : World) (hA : TreeAt w a c t) (hT : TabAt w) : Calls Tryz.prog 7 #[treeV t a c] w fun e w' => e = .returned (.bool true) ∧ Ext w w' := by
  have HA := Lib.hid (And.intro hA hT)
  have hB := Blk.new w #[.string t.kind, .string t.text, .slice a t.kids.length c] 24
  have KB := Lib.hid hB
  clear hA hT hB
  go_enter Tryz.func7, Tryz.ntmps7
  go_wp2_with fail
  refine (fitsT_calls t a c _ (HA.out.1.mono (box_ext w t a c))).mono ?_
  rintro e w1 ⟨rfl, hE1⟩
  have HE1 := Lib.hid ((box_ext w t a c).trans hE1)
  have fb := (KB.out.ext hE1).frozen
  have lb := (KB.out.ext hE1).lt
  have cb := Blk3 (KB.out.ext hE1)
  have KB1 := Lib.hid (KB.out.ext hE1)
  clear hE1
  cases hf : fitsT t
  · go_wp2_with fail
    go_ret
    exact ⟨rfl, HE1.out⟩
  clear hf
  go_wp2_with fail
  refine (written_calls t a c _ (HA.out.1.mono HE1.out)).mono ?_
  rintro e w2 ⟨rfl, hE2⟩
  have HE2 := Lib.hid (HE1.out.trans hE2)
  have fb2 := (KB1.out.ext hE2).frozen
  have lb2 := (KB1.out.ext hE2).lt
  have cb2 := Blk3 (KB1.out.ext hE2)
  have KB2 := Lib.hid (KB1.out.ext hE2)
  clear hE2 fb lb cb
  cases hw : written t
  · go_wp2_with fail
    go_ret
    exact ⟨rfl, HE2.out⟩
  have HW := Lib.hid (written_parts hw)
  clear hw
  go_wp2_with fail
  refine (first_calls t a c _ (HA.out.1.mono HE2.out)).mono ?_
  rintro e w3 ⟨rfl, hE3⟩
  have HE3 := Lib.hid (HE2.out.trans hE3)
  have fb3 := (KB2.out.ext hE3).frozen
  have lb3 := (KB2.out.ext hE3).lt
  have cb3 := Blk3 (KB2.out.ext hE3)
  have KB3 := Lib.hid (KB2.out.ext hE3)
  clear hE3 fb2 lb2 cb2
  cases hf : first t
  · go_wp2_with fail
    go_ret
    exact ⟨rfl, HE3.out⟩
  have HF := Lib.hid hf
  have htm := good_tame t 97 HW.out.2
  have hz := (text_size 0 t htm).1
  have hc60 := HW.out.1
  clear hf
  go_wp2_with fail
  refine (text_calls t 0 htm (by omega) a c _ (HA.out.1.mono HE3.out)).mono ?_
  rintro e w4 ⟨rfl, hE4⟩
  have HE4 := Lib.hid (HE3.out.trans hE4)
  have fb4 := (KB3.out.ext hE4).frozen
  have lb4 := (KB3.out.ext hE4).lt
  have cb4 := Blk3 (KB3.out.ext hE4)
  have KB4 := Lib.hid (KB3.out.ext hE4)
  clear hE4 fb3 lb3 cb3
  by_cases h9 : (text 0 t).size ≤ 900
  · go_wp2_with fail
    obtain ⟨E, hE⟩ := first_entry t 97 HW.out.2 HF.out [] []
    refine (parse_good (al := false) (s := 0) HW.out.2 (first_node HF.out) HW.out.1 (by omega) hE (HA.out.2.toExt HE4.out)).mono ?_
    rintro e w5 ⟨⟨a1, c1, a2, c2, a3, c3, a4, c4, a5, c5, rfl, -, -, -, -, q5⟩, hE5⟩
    have KQ := Lib.hid (And.intro (HE4.out.trans hE5) q5)
    have fb5 := (KB4.out.ext hE5).frozen
    have lb5 := (KB4.out.ext hE5).lt
    have cb5 := Blk3 (KB4.out.ext hE5)
    clear hE hE5 q5 fb4 lb4 cb4
    have hA6 := Ext.alloc w5 (.cells #[.string t.kind, .string t.text, .slice a1 t.kids.length c1, .slice a2 E.length c2, .string anyT.kind, .string anyT.text, .slice a3 anyT.kids.length c3, .slice a4 0 c4, .slice a5 (namesT t).length c5] 34)
    have hB6 := Blk.new w5 #[.string t.kind, .string t.text, .slice a1 t.kids.length c1, .slice a2 E.length c2, .string anyT.kind, .string anyT.text, .slice a3 anyT.kids.length c3, .slice a4 0 c4, .slice a5 (namesT t).length c5] 34
    go_wp2_with fail
    refine (names_calls t (by omega) a c _ (HA.out.1.mono (KQ.out.1.trans hA6))).mono ?_
    rintro e w6 ⟨⟨an, cn, rfl, hBn, -⟩, hE6⟩
    have hnl := namesT_len t
    have HX := Lib.hid ((KQ.out.1.trans hA6).trans hE6)
    have hB7 := hB6.ext hE6
    have fb7 := hB7.frozen
    have lb7 := hB7.lt
    have cb7 := Blk9 hB7
    have KR := Lib.hid (And.intro hB7 (And.intro hBn (KQ.out.2.mono (hA6.trans hE6))))
    clear hA6 hE6 hB6 hB7 hBn
    go_wp2_with fail
    go_loopw [43] (fun i wr => ∃ j : Nat, i = .int .i64 j ∧ j ≤ (namesT t).length ∧ Ext w6 wr) (fun i _ => (namesT t).length - (intOf i).toNat)
    case atStart => exact ⟨0, rfl, Nat.zero_le _, Ext.refl _⟩
    case round =>
      obtain ⟨j, rfl, hj, hE⟩ := hrel
      have KE := Lib.hid hE
      have cb8 := (Blk9 (KR.out.1.ext hE)).2.2.2.2.2.2.2.2
      by_cases hlt : j < (namesT t).length
      · obtain ⟨b1, o1, rfl, r1⟩ := KR.out.2.1 j hlt
        obtain ⟨b2, o2, rfl, r2⟩ := KR.out.2.2 j hlt
        have r1' : wr.cell? ⟨b1, o1 + j, none⟩ = some (.string (toB (namesT t)[j])) := hE.keep r1
        have r2' : wr.cell? ⟨b2, o2 + j, none⟩ = some (.string (toB (namesT t)[j])) := hE.keep r2
        clear r1 r2 hE
        go_wp2_with fail
        go_quiet (fail)
        go_wp2_with fail
        exact ⟨⟨j + 1, by go_num, by omega, KE.out.trans (Ext.drewN _ nq)⟩, by simp [intOf]; omega⟩
      · obtain rfl : j = (namesT t).length := by omega
        clear hE
        go_wp2_with fail
        refine (readsF_calls (HA.out.2.toExt (HX.out.trans KE.out))).mono ?_
        rintro e w7 ⟨rfl, hE7⟩
        go_wp2_with fail
        go_ret
        exact ⟨rfl, (HX.out.trans KE.out).trans hE7⟩
  · go_wp2_with fail
    go_ret
    exact ⟨rfl, HE4.out⟩
end Go.Proofs.YtigalkobmfbdaaaGreatDoor
