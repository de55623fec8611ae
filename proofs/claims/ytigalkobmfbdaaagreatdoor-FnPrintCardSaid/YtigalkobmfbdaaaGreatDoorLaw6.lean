/- The law FnEntry, walked: it answers true of every tree. -/
import Derived.Test.YtigalkobmfbdaaaGreatDoorReads
set_option linter.unusedVariables false
set_option linter.unusedSimpArgs false
namespace Go.Proofs.YtigalkobmfbdaaaGreatDoor
open Go.RowKit Go.WideMaps Go.Sort
theorem encStr_toList (s : ByteArray) : encStr s.toList = .string s := by
  unfold encStr
  rw [show (⟨s.toList.toArray⟩ : ByteArray) = s from toList_inj (toList_mk _)]
theorem box_ext (w : World) (t : Tree) (a : Option Addr) (c : Nat) : Ext w (w.alloc (.cells #[.string t.kind, .string t.text, .slice a t.kids.length c] 24)) := Ext.alloc _ _
set_option maxRecDepth 100000 in
set_option maxHeartbeats 4000000 in
theorem entry_law (t : Tree) (a : Option Addr) (c : Nat) (w : World) (hA : TreeAt w a c t) (hT : TabAt w) : Calls Tryz.prog 6 #[treeV t a c] w fun e w' => e = .returned (.bool true) ∧ Ext w w' := by
  have HA := Lib.hid (And.intro hA hT)
  have hB := Blk.new w #[.string t.kind, .string t.text, .slice a t.kids.length c] 24
  have KB := Lib.hid hB
  clear hA hT hB
  go_enter Tryz.func6, Tryz.ntmps6
  go_wp2_with fail
  refine (fitsT_calls t a c _ (HA.out.1.mono (box_ext w t a c))).mono ?_
  rintro e w1 ⟨rfl, hE1⟩
  have HE1 := Lib.hid ((box_ext w t a c).trans hE1)
  have fb := (KB.out.ext hE1).frozen
  have lb := (KB.out.ext hE1).lt
  have cb := Blk3 (KB.out.ext hE1)
  have KB1 := Lib.hid (KB.out.ext hE1)
  clear hE1
  cases hf : fitsT t
  · go_wp2_with fail
    go_ret
    exact ⟨rfl, HE1.out⟩
  clear hf
  go_wp2_with fail
  refine (written_calls t a c _ (HA.out.1.mono HE1.out)).mono ?_
  rintro e w2 ⟨rfl, hE2⟩
  have HE2 := Lib.hid (HE1.out.trans hE2)
  have fb2 := (KB1.out.ext hE2).frozen
  have lb2 := (KB1.out.ext hE2).lt
  have cb2 := Blk3 (KB1.out.ext hE2)
  have KB2 := Lib.hid (KB1.out.ext hE2)
  clear hE2 fb lb cb
  cases hw : written t
  · go_wp2_with fail
    go_ret
    exact ⟨rfl, HE2.out⟩
  have HW := Lib.hid (written_parts hw)
  clear hw
  go_wp2_with fail
  refine (fields_calls _ _).mono ?_
  rintro e w3 ⟨a1, c1, rfl, hl1, hl2, hs, hE3⟩
  have HE3 := Lib.hid (HE2.out.trans hE3)
  have fb3 := (KB2.out.ext hE3).frozen
  have lb3 := (KB2.out.ext hE3).lt
  have cb3 := Blk3 (KB2.out.ext hE3)
  have KB3 := Lib.hid (KB2.out.ext hE3)
  clear hE3 fb2 lb2 cb2 hs
  by_cases h0 : (fields t.kind).length = 0
  · have h0' : ((((fields t.kind).length : Nat) : Int) == 0) = true := by rw [h0]; rfl
    go_wp2_with fail
    go_ret
    exact ⟨rfl, HE3.out⟩
  have h0' : ((((fields t.kind).length : Nat) : Int) == 0) = false := beq_eq_false_iff_ne.2 (by omega)
  have hk := entry_one HW.out.2 (fun e => h0 (by rw [e]; rfl)) [] []
  have htm := good_tame t 97 HW.out.2
  have hz := (text_size 0 t htm).1
  have hc60 := HW.out.1
  go_wp2_with fail
  refine (text_calls t 0 htm (by omega) a c _ (HA.out.1.mono HE3.out)).mono ?_
  rintro e w4 ⟨rfl, hE4⟩
  have HE4 := Lib.hid (HE3.out.trans hE4)
  have fb4 := (KB3.out.ext hE4).frozen
  have lb4 := (KB3.out.ext hE4).lt
  have cb4 := Blk3 (KB3.out.ext hE4)
  have KB4 := Lib.hid (KB3.out.ext hE4)
  clear hE4 fb3 lb3 cb3
  by_cases h9 : (text 0 t).size ≤ 900
  · go_wp2_with fail
    refine (parse_good (al := false) (s := 0) HW.out.2 hk.2.1 HW.out.1 (by omega) hk.1 (HA.out.2.toExt HE4.out)).mono ?_
    rintro e w5 ⟨⟨a1, c1, a2, c2, a3, c3, a4, c4, a5, c5, rfl, q1, q2, q3, q4, q5⟩, hE5⟩
    have hm : ((addName [] t.kind.toList).mergeSort fun x y => decide (x ≤ y)) = [t.kind.toList] := by
      rw [show addName [] t.kind.toList = [t.kind.toList] from rfl]; exact List.mergeSort_singleton _
    rw [hm] at q2 ⊢
    obtain ⟨b, o, rfl, q6⟩ := q2 0 (by simp)
    rw [Nat.add_zero, List.getElem_cons_zero, encStr_toList] at q6
    have hA5 := HE4.out.trans hE5
    have hB5 := KB4.out.ext hE5
    have KQ := Lib.hid (And.intro hA5 hB5)
    have d5 := Blk3 hB5
    clear hm fb4 lb4 cb4 q2 q1 q3 q4 q5 hA5 hB5 hE5
    go_wp2_with fail
    have e1 := Exts.cell (Blk9 (Blk.new w5 #[.string t.kind, .string t.text, .slice a1 t.kids.length c1, .slice (some ⟨b, o, none⟩) 1 c2, .string anyT.kind, .string anyT.text, .slice a3 anyT.kids.length c3, .slice a4 0 c4, .slice a5 (namesT t).length c5] 34)).2.2.2.1
    have e2 := Exts.cell (Blk9 (Blk.new w5 #[.string t.kind, .string t.text, .slice a1 t.kids.length c1, .slice (some ⟨b, o, none⟩) 1 c2, .string anyT.kind, .string anyT.text, .slice a3 anyT.kids.length c3, .slice a4 0 c4, .slice a5 (namesT t).length c5] 34)).2.2.2.2.1
    have e3 := Exts.cell ((Ext.alloc w5 (.cells #[.string t.kind, .string t.text, .slice a1 t.kids.length c1, .slice (some ⟨b, o, none⟩) 1 c2, .string anyT.kind, .string anyT.text, .slice a3 anyT.kids.length c3, .slice a4 0 c4, .slice a5 (namesT t).length c5] 34)).keep q6)
    have e4 := Exts.cell ((Ext.alloc w5 (.cells #[.string t.kind, .string t.text, .slice a1 t.kids.length c1, .slice (some ⟨b, o, none⟩) 1 c2, .string anyT.kind, .string anyT.text, .slice a3 anyT.kids.length c3, .slice a4 0 c4, .slice a5 (namesT t).length c5] 34)).keep d5.1)
    have HX := Lib.hid (KQ.out.1.trans (Ext.alloc w5 (.cells #[.string t.kind, .string t.text, .slice a1 t.kids.length c1, .slice (some ⟨b, o, none⟩) 1 c2, .string anyT.kind, .string anyT.text, .slice a3 anyT.kids.length c3, .slice a4 0 c4, .slice a5 (namesT t).length c5] 34)))
    replace e2 : ∀ e : Exts _, e.val.cell? ⟨w5.heap.size, 4, none⟩ = some (.string ⟨#[65, 110, 121]⟩) := e2
    clear d5 q6
    generalize w5.alloc (.cells #[.string t.kind, .string t.text, .slice a1 t.kids.length c1, .slice (some ⟨b, o, none⟩) 1 c2, .string anyT.kind, .string anyT.text, .slice a3 anyT.kids.length c3, .slice a4 0 c4, .slice a5 (namesT t).length c5] 34) = w6 at *
    refine wp_region_ext (by kernel_rfl) (by kernel_rfl) ?_
    repeat (refine BigFrame.wpQuiet_want rfl (fun K hK => ?_); go_big_quiet_op; first | (refine hK _ ?_; clear hK K) | (refine ⟨_, fun e => Calls.ext_of (readsF_calls (HA.out.2.toExt (HX.out.trans e.ext))), hK _ ?_⟩; clear hK K))
    refine wpQuiet_nil ?_
    intro e
    obtain ⟨w7, hE7⟩ := e
    clear e1 e2 e3 e4
    go_wp2_with fail
    go_ret
    exact ⟨rfl, HX.out.trans hE7⟩
  · go_wp2_with fail
    go_ret
    exact ⟨rfl, HE4.out⟩
end Go.Proofs.YtigalkobmfbdaaaGreatDoor
