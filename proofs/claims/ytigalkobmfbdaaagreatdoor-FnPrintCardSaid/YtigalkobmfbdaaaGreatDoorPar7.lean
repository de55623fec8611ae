/- The parser's walks: object at a variable. -/
import Derived.Test.YtigalkobmfbdaaaGreatDoorPar6
import Derived.Deep.RegionHeld3
set_option linter.unusedVariables false
set_option linter.unusedSimpArgs false
namespace Go.Proofs.YtigalkobmfbdaaaGreatDoor
open Go.RowKit
theorem Blk.step {pb hi : Nat} {al fl : Bool} {cur : Item} {S : List Item} {mp mp' : Option Nat} {names : Names} {w w' : World} {b : Nat} {cs : Array Value} {t : TypeId} (hB : Blk w b cs t) (h : Step pb mp mp' w w') (hP : PSt w pb hi al fl cur S mp names) (hne : b ≠ pb) : Blk w' b cs t := by
  refine hB.extM h.1 ?_
  rintro (e | e)
  · exact hne e
  · have hM := hP.2.1
    rw [← e] at hM
    obtain ⟨D, ⟨es, clock, hm, -⟩, -⟩ := hM
    rw [Blk, hm] at hB; cases hB
theorem PSt.setNew {pb hi : Nat} {al fl : Bool} {cur : Item} {S : List Item} {mp : Option Nat} {names : Names} {w : World} {b : Nat} {cs : Array Value} {t : TypeId} (hP : PSt w pb hi al fl cur S mp names) (hB : Blk w b cs t) (hb : hi ≤ b) (hne : b ≠ pb) (o : Nat) (v : Value) : PSt (w.setCell ⟨b, o, none⟩ v) pb hi al fl cur S mp names := by
  have hX : ExtM (· = b) w (w.setCell ⟨b, o, none⟩ v) := (ExtM.refl (· = b) w).set1 o v
  refine ⟨hP.1.extM hX (fun e => hne e.symm) (fun k hk e => by omega), hP.2.1.extM hX ?_, hP.2.2⟩
  intro mb e hm
  have hM := hP.2.1
  rw [e] at hM
  obtain ⟨D, ⟨es, clock, hmb, -⟩, -⟩ := hM
  rw [hm] at hmb
  rw [Blk, hmb] at hB; cases hB
theorem Step.setNew {pb : Nat} {mp mp' : Option Nat} {a b : World} (h : Step pb mp mp' a b) {k : Nat} (hk : a.heap.size ≤ k) (o : Nat) (v : Value) : Step pb mp mp' a (b.setCell ⟨k, o, none⟩ v) := ⟨h.1.setCell (.inr hk) v, h.2⟩
theorem Blk3 {w : World} {b : Nat} {p q r : Value} {t : TypeId} (h : Blk w b #[p, q, r] t) : w.cell? ⟨b, 0, none⟩ = some p ∧ w.cell? ⟨b, 1, none⟩ = some q ∧ w.cell? ⟨b, 2, none⟩ = some r := ⟨by rw [h.cell]; rfl, by rw [h.cell]; rfl, by rw [h.cell]; rfl⟩
theorem NodeAt.setNew {X : Nat → Prop} {w : World} {v : Value} {n : PN} (h : NodeAt X w v n) {b : Nat} {cs : Array Value} {t : TypeId} (hB : Blk w b cs t) (hb : ¬ X b) (o : Nat) (u : Value) : NodeAt X (w.setCell ⟨b, o, none⟩ u) v n :=
  h.mono (((ExtM.refl (· = b) w).set1 o u).keeps (fun k hk e => hb (e ▸ hk)))
theorem PAt.fit {w : World} {pb hi : Nat} {al fl : Bool} {cur : Item} {S : List Item} {mp : Option Nat} (h : PAt w pb hi al fl cur S mp) : cur.val.size ≤ 100000 := by
  obtain ⟨its, ia, ic, hB, h1, ⟨h2, hF⟩, -⟩ := h
  exact hF cur (List.mem_cons_self ..)
set_option maxRecDepth 100000 in
set_option maxHeartbeats 4000000 in
theorem obj_var {al : Bool} {pb hi : Nat} {fl : Bool} {cur x : Item} {S : List Item} {nm : Names} {mp : Option Nat} {w : World} {f : Nat} {y : Item} {S2 : List Item} {r : Option (PN × List Item × Names)} (hS : S = y :: S2) (hx : x.typ = 6) (hv : (x.val.toList == [110, 105, 108]) = false) (hy : (y.typ == 7) = false) (hO : ∀ g, g < f → ObjectC al g) (hM : tailM al f (.bind x.val .nul (nm.idxOf x.val.toList)) (y :: S2) (addName nm x.val.toList) = some r) (hl : (x :: S).length + nm.length ≤ 300000) (hP : PSt w pb hi al fl cur (x :: S) mp nm) :
    Calls Tryz.prog 113 #[.pointer (some ⟨pb, 0, none⟩)] w fun e w' => PPost pb hi al (fun _ => True) mp w r e w' := by
  have HP := Lib.hid hP
  clear hP
  subst hS
  have HO := Lib.hid hO
  have HY := Lib.hid hy
  clear hO hy
  have KX : ∀ b, w.heap.size ≤ b → b ≠ pb := fun b hb => by have := HP.out.lt; omega
  have q5 := nilne
  cases f with
  | zero => rw [tailM] at hM; cases hM
  | succ g =>
  rw [tailM_cons] at hM
  have qf := field_typ y
  have hless : (y :: S2).length + (addName nm x.val.toList).length ≤ (x :: y :: S2).length + nm.length := by have := addName_len nm x.val.toList; simp only [List.length_cons]; omega
  go_enter Tryz.func113, Tryz.ntmps113
  go_wp2_with fail
  refine (nextP HP.out).mono ?_
  rintro e w1 ⟨rfl, s1, p1⟩
  have HS1 := Lib.hid s1
  have HP1 := Lib.hid p1
  clear s1 p1
  go_wp2_with fail
  have hw1 : w.heap.size ≤ w1.heap.size := HS1.out.1.size
  have hpb := HP.out.lt
  have hhi := HP1.out.1.lt.2
  have hWv : Blk (((w1.alloc (.cells #[.int .i64 x.typ, .string x.val, .int .i64 x.pos] 115)).alloc (.cells #[.int .i64 x.typ, .string x.val, .int .i64 x.pos] 115)).alloc (.cells #[.string ⟨#[]⟩, .nilIface, .int .i64 0] 138)) (w1.heap.size + 1) #[.int .i64 x.typ, .string x.val, .int .i64 x.pos] 115 := by
    have := (Blk.new (w1.alloc (.cells #[.int .i64 x.typ, .string x.val, .int .i64 x.pos] 115)) #[.int .i64 x.typ, .string x.val, .int .i64 x.pos] 115).ext (Ext.alloc _ (.cells #[.string ⟨#[]⟩, .nilIface, .int .i64 0] 138))
    simpa using this
  have hWb : Blk (((w1.alloc (.cells #[.int .i64 x.typ, .string x.val, .int .i64 x.pos] 115)).alloc (.cells #[.int .i64 x.typ, .string x.val, .int .i64 x.pos] 115)).alloc (.cells #[.string ⟨#[]⟩, .nilIface, .int .i64 0] 138)) (w1.heap.size + 1 + 1) #[.string ⟨#[]⟩, .nilIface, .int .i64 0] 138 := by
    have := Blk.new ((w1.alloc (.cells #[.int .i64 x.typ, .string x.val, .int .i64 x.pos] 115)).alloc (.cells #[.int .i64 x.typ, .string x.val, .int .i64 x.pos] 115)) #[.string ⟨#[]⟩, .nilIface, .int .i64 0] 138
    simpa using this
  rw [hx] at hWv hWb
  have hPW := HP1.out.ext (((Ext.alloc w1 (.cells #[.int .i64 6, .string x.val, .int .i64 x.pos] 115)).trans (Ext.alloc _ (.cells #[.int .i64 6, .string x.val, .int .i64 x.pos] 115))).trans (Ext.alloc _ (.cells #[.string ⟨#[]⟩, .nilIface, .int .i64 0] 138)))
  have hSW : Step pb mp mp w (((w1.alloc (.cells #[.int .i64 6, .string x.val, .int .i64 x.pos] 115)).alloc (.cells #[.int .i64 6, .string x.val, .int .i64 x.pos] 115)).alloc (.cells #[.string ⟨#[]⟩, .nilIface, .int .i64 0] 138)) := HS1.out.trans (Step.of_ext (((Ext.alloc _ _).trans (Ext.alloc _ _)).trans (Ext.alloc _ _)))
  have hxz : x.val.size ≤ 100000 := HP1.out.1.fit
  have HSW := Lib.hid hSW
  have HPW := Lib.hid hPW
  have HWv := Lib.hid hWv
  have HWb := Lib.hid hWb
  have HW1 := Lib.hid hw1
  clear hSW hPW hWv hWb
  refine (acceptP_no 7 HPW.out HY.out).mono ?_
  rintro e w2 ⟨rfl, s2, p2⟩
  have HS2 := Lib.hid (HSW.out.trans s2)
  have HP2 := Lib.hid p2
  have HV2 := Lib.hid (HWv.out.step s2 HPW.out (by omega))
  have HB2 := Lib.hid (HWb.out.step s2 HPW.out (by omega))
  clear s2 p2
  go_wp2_with fail
  refine (rewindP (HP2.out.ext (Ext.alloc _ _))).mono ?_
  rintro e w3 ⟨rfl, s3, p3⟩
  have hE2 := Ext.alloc w2 (.cells #[.int .i64 0, .string ⟨#[]⟩, .int .i64 0] 115)
  have HS3 := Lib.hid (HS2.out.trans ((Step.of_ext hE2).trans s3))
  have HP3 := Lib.hid p3
  have HV3 := Lib.hid ((HV2.out.ext hE2).step s3 (HP2.out.ext hE2) (by omega))
  have HB3 := Lib.hid ((HB2.out.ext hE2).step s3 (HP2.out.ext hE2) (by omega))
  clear s3 p3 hE2
  obtain ⟨-, cv, -⟩ := Blk3 HV3.out
  have fv := HB3.out.frozen
  have HMM := Lib.hid hM
  clear hM
  go_wp2_with fail
  go_region_held3 (fun w' => w'.cell? ⟨w1.heap.size + 1, 1, none⟩ = some (.string x.val)) (go_keep)
    ((go_at_call 115; refine (bindIndex_calls (HP3.out.ext (Ext.drew _)) x.val hxz (by simp only [List.length_cons] at hl; omega)).mono ?_; rintro e w4 ⟨rfl, mp4, s4, p4⟩; have HS4 := Lib.hid (HS3.out.trans ((Step.of_ext (Ext.drew _)).trans s4)); have HP4 := Lib.hid p4; have HV4 := Blk3 ((HV3.out.ext (Ext.drew _)).step s4 (HP3.out.ext (Ext.drew _)) (by omega)); have HB4 := Lib.hid ((HB3.out.ext (Ext.drew _)).step s4 (HP3.out.ext (Ext.drew _)) (by omega)); have cv4 := HV4.2.1; have fb4 := HB4.out.frozen; have lb4 := HB4.out.lt; have cb4 := Blk3 HB4.out; clear s4 p4 HV4))
  have hM := HMM.out
  have HS5 := Lib.hid (((HS4.out.setNew (k := w1.heap.size + 1 + 1) (by have := HW1.out; omega) 0 (.string x.val)).setNew (k := w1.heap.size + 1 + 1) (by have := HW1.out; omega) 1 (.nilIface)).setNew (k := w1.heap.size + 1 + 1) (by have := HW1.out; omega) 2 (.int .i64 (nm.idxOf x.val.toList)))
  have HP5 := Lib.hid (((HP4.out.setNew HB4.out (by omega) (by omega) 0 (.string x.val)).setNew (HB4.out.set 0 _) (by omega) (by omega) 1 (.nilIface)).setNew ((HB4.out.set 0 _).set 1 _) (by omega) (by omega) 2 (.int .i64 (nm.idxOf x.val.toList)))
  have HB5 : Hid (Blk (((w4.setCell ⟨w1.heap.size + 1 + 1, 0, none⟩ (.string x.val)).setCell ⟨w1.heap.size + 1 + 1, 1, none⟩ (.nilIface)).setCell ⟨w1.heap.size + 1 + 1, 2, none⟩ (.int .i64 (nm.idxOf x.val.toList))) (w1.heap.size + 1 + 1) #[.string x.val, .nilIface, .int .i64 (nm.idxOf x.val.toList)] 138) := Lib.hid (((HB4.out.set 0 _).set 1 _).set 2 _)
  generalize (((w4.setCell ⟨w1.heap.size + 1 + 1, 0, none⟩ (.string x.val)).setCell ⟨w1.heap.size + 1 + 1, 1, none⟩ (.nilIface)).setCell ⟨w1.heap.size + 1 + 1, 2, none⟩ (.int .i64 (nm.idxOf x.val.toList))) = w5 at HS5 HP5 HB5 ⊢
  clear HMM cv4 fb4 lb4 cb4 fv cv
  have HN5 : Hid (NodeAt (fun b => w.heap.size ≤ b) w5 (.nilIface) (.nul)) := Lib.hid (by rw [NodeAt])
  go_wp2_with fail
  refine (peekP HP5.out).mono ?_
  rintro e wp ⟨rfl, sp, pp⟩
  have HSp := Lib.hid (HS5.out.trans sp)
  have HPp := Lib.hid pp
  have HNp := Lib.hid (HN5.out.mono (sp.keeps HP5.out KX))
  have HBp := Lib.hid (HB5.out.step sp HP5.out (by omega))
  clear sp pp
  cases hz : (y.typ == 8)
  · rw [hz] at hM
    simp only [Bool.false_eq_true, if_false] at hM
    have HR := Lib.hid (Option.some.inj hM)
    clear hM
    obtain ⟨b0, b1, b2⟩ := Blk3 HBp.out
    go_wp2_with fail
    go_ret2
    rw [← HR.out]
    exact ⟨_, HSp.out, _, _, _, rfl, by rw [NodeAt]; exact ⟨_, rfl, HNp.out⟩, trivial, HPp.out⟩
  · rw [hz, if_pos rfl] at hM
    have h8 : y.typ = 8 := eq_of_beq hz
    clear hz
    have HM := Lib.hid hM
    clear hM
    go_wp2_with fail
    refine (nextP HPp.out).mono ?_
    rintro e wn ⟨rfl, sn, pn⟩
    have HSn := Lib.hid (HSp.out.trans sn)
    have HPn := Lib.hid pn
    have HNn := Lib.hid (HNp.out.mono (sn.keeps HPp.out KX))
    have HBn := Lib.hid (HBp.out.step sn HPp.out (by omega))
    clear sn pn
    go_wp2_with fail
    rcases andThen_some HM.out with ⟨e1, rfl⟩ | ⟨t, S4, nm4, e1, e2⟩
    · refine (HO.out g (by omega) _ _ _ e1 (by simp only [List.length_cons] at hless hl ⊢; omega) pb hi _ _ _ _ HPn.out).mono ?_
      rintro e wt ⟨mpt, st, vt, p, rfl⟩
      have HSt := Lib.hid (HSn.out.trans st)
      obtain ⟨b0, b1, b2⟩ := Blk3 (HBn.out.step st HPn.out (by omega))
      have q6 := errne p
      clear st e1
      go_wp2_with fail
      go_ret2
      exact PPost.err HSt.out
    · cases e2
      refine (HO.out g (by omega) _ _ _ e1 (by simp only [List.length_cons] at hless hl ⊢; omega) pb hi _ _ _ _ HPn.out).mono ?_
      rintro e wt ⟨mpt, st, vt, flt, curt, rfl, ht, -, pt⟩
      have HSt := Lib.hid (HSn.out.trans st)
      have HPt := Lib.hid pt
      have HNt := Lib.hid (HNn.out.mono (st.keeps HPn.out KX))
      obtain ⟨b0, b1, b2⟩ := Blk3 (HBn.out.step st HPn.out (by omega))
      have HTt := Lib.hid (ht.imp (Y := fun b => w.heap.size ≤ b) (fun b hb _ => by have := HSn.out.1.size; omega))
      clear st pt ht e1
      rcases HTt.out.shape with rfl | ⟨t2, x2, rfl⟩
      all_goals
        go_wp2_with fail
        go_ret2
        exact ⟨_, HSt.out, _, _, _, rfl, by rw [NodeAt]; exact ⟨_, _, rfl, by rw [NodeAt]; exact ⟨_, rfl, HNt.out⟩, HTt.out⟩, trivial, HPt.out⟩
set_option maxRecDepth 100000 in
set_option maxHeartbeats 4000000 in
theorem obj_at {al : Bool} {pb hi : Nat} {fl : Bool} {cur x : Item} {S : List Item} {nm : Names} {mp : Option Nat} {w : World} {f : Nat} {y : Item} {S2 : List Item} {r : Option (PN × List Item × Names)} (hS : S = y :: S2) (hx : x.typ = 6) (hv : (x.val.toList == [110, 105, 108]) = false) (hy : (y.typ == 7) = true) (hN : NodeC al f) (hO : ∀ g, g < f → ObjectC al g) (hM : ((nodeM al f S2 nm).andThen fun o S3 nm3 => tailM al f (.bind x.val o (nm3.idxOf x.val.toList)) S3 (addName nm3 x.val.toList)) = some r) (hl : (x :: S).length + nm.length ≤ 300000) (hP : PSt w pb hi al fl cur (x :: S) mp nm) :
    Calls Tryz.prog 113 #[.pointer (some ⟨pb, 0, none⟩)] w fun e w' => PPost pb hi al (fun _ => True) mp w r e w' := by
  have HP := Lib.hid hP
  clear hP
  subst hS
  have HO := Lib.hid hO
  have HY := Lib.hid hy
  clear hO hy
  have KX : ∀ b, w.heap.size ≤ b → b ≠ pb := fun b hb => by have := HP.out.lt; omega
  have q5 := nilne
  have HN := Lib.hid hN
  have HM0 := Lib.hid hM
  clear hN hM
  go_enter Tryz.func113, Tryz.ntmps113
  go_wp2_with fail
  refine (nextP HP.out).mono ?_
  rintro e w1 ⟨rfl, s1, p1⟩
  have HS1 := Lib.hid s1
  have HP1 := Lib.hid p1
  clear s1 p1
  go_wp2_with fail
  have hw1 : w.heap.size ≤ w1.heap.size := HS1.out.1.size
  have hpb := HP.out.lt
  have hhi := HP1.out.1.lt.2
  have hWv : Blk (((w1.alloc (.cells #[.int .i64 x.typ, .string x.val, .int .i64 x.pos] 115)).alloc (.cells #[.int .i64 x.typ, .string x.val, .int .i64 x.pos] 115)).alloc (.cells #[.string ⟨#[]⟩, .nilIface, .int .i64 0] 138)) (w1.heap.size + 1) #[.int .i64 x.typ, .string x.val, .int .i64 x.pos] 115 := by
    have := (Blk.new (w1.alloc (.cells #[.int .i64 x.typ, .string x.val, .int .i64 x.pos] 115)) #[.int .i64 x.typ, .string x.val, .int .i64 x.pos] 115).ext (Ext.alloc _ (.cells #[.string ⟨#[]⟩, .nilIface, .int .i64 0] 138))
    simpa using this
  have hWb : Blk (((w1.alloc (.cells #[.int .i64 x.typ, .string x.val, .int .i64 x.pos] 115)).alloc (.cells #[.int .i64 x.typ, .string x.val, .int .i64 x.pos] 115)).alloc (.cells #[.string ⟨#[]⟩, .nilIface, .int .i64 0] 138)) (w1.heap.size + 1 + 1) #[.string ⟨#[]⟩, .nilIface, .int .i64 0] 138 := by
    have := Blk.new ((w1.alloc (.cells #[.int .i64 x.typ, .string x.val, .int .i64 x.pos] 115)).alloc (.cells #[.int .i64 x.typ, .string x.val, .int .i64 x.pos] 115)) #[.string ⟨#[]⟩, .nilIface, .int .i64 0] 138
    simpa using this
  rw [hx] at hWv hWb
  have hPW := HP1.out.ext (((Ext.alloc w1 (.cells #[.int .i64 6, .string x.val, .int .i64 x.pos] 115)).trans (Ext.alloc _ (.cells #[.int .i64 6, .string x.val, .int .i64 x.pos] 115))).trans (Ext.alloc _ (.cells #[.string ⟨#[]⟩, .nilIface, .int .i64 0] 138)))
  have hSW : Step pb mp mp w (((w1.alloc (.cells #[.int .i64 6, .string x.val, .int .i64 x.pos] 115)).alloc (.cells #[.int .i64 6, .string x.val, .int .i64 x.pos] 115)).alloc (.cells #[.string ⟨#[]⟩, .nilIface, .int .i64 0] 138)) := HS1.out.trans (Step.of_ext (((Ext.alloc _ _).trans (Ext.alloc _ _)).trans (Ext.alloc _ _)))
  have hxz : x.val.size ≤ 100000 := HP1.out.1.fit
  have HSW := Lib.hid hSW
  have HPW := Lib.hid hPW
  have HWv := Lib.hid hWv
  have HWb := Lib.hid hWb
  have HW1 := Lib.hid hw1
  clear hSW hPW hWv hWb
  refine (acceptP_yes 7 HPW.out HY.out).mono ?_
  rintro e w2 ⟨rfl, s2, p2⟩
  have HS2 := Lib.hid (HSW.out.trans s2)
  have HP2 := Lib.hid p2
  have HV2 := Lib.hid (HWv.out.step s2 HPW.out (by omega))
  have HB2 := Lib.hid (HWb.out.step s2 HPW.out (by omega))
  clear s2 p2
  go_wp2_with fail
  have hE2 := Lib.hid (Ext.alloc w2 (.cells #[.int .i64 y.typ, .string y.val, .int .i64 y.pos] 115))
  rcases andThen_some HM0.out with ⟨e1, rfl⟩ | ⟨o, S3, nm3, e1, hM⟩
  · refine (HN.out _ _ _ e1 (by simp only [List.length_cons] at hl ⊢; omega) pb hi _ _ _ _ (HP2.out.ext hE2.out)).mono ?_
    rintro e w3 ⟨mp3, s3, v, p, rfl⟩
    have HS3 := Lib.hid (HS2.out.trans ((Step.of_ext hE2.out).trans s3))
    have q6 := errne p
    clear s3 e1
    go_wp2_with fail
    go_ret2
    exact PPost.err HS3.out
  · refine (HN.out _ _ _ e1 (by simp only [List.length_cons] at hl ⊢; omega) pb hi _ _ _ _ (HP2.out.ext hE2.out)).mono ?_
    rintro e w3 ⟨mp3, s3, v, fl3, cur3, rfl, hv3, -, p3⟩
    have hless0 := (model_len al f).1 _ _ _ _ _ e1
    have hbw : w1.heap.size + 1 + 1 < w2.heap.size := HB2.out.lt
    have HS3 := Lib.hid (HS2.out.trans ((Step.of_ext hE2.out).trans s3))
    have HP3 := Lib.hid p3
    have HV3 := Lib.hid ((HV2.out.ext hE2.out).step s3 (HP2.out.ext hE2.out) (by omega))
    have HB3 := Lib.hid ((HB2.out.ext hE2.out).step s3 (HP2.out.ext hE2.out) (by omega))
    have hsz2 : (w2.alloc (.cells #[.int .i64 y.typ, .string y.val, .int .i64 y.pos] 115)).heap.size = w2.heap.size + 1 := by simp
    have HN3 : Hid (NodeAt (fun b => w.heap.size ≤ b ∧ b ≠ w1.heap.size + 1 + 1) w3 v o) := Lib.hid (hv3.imp (fun b hb _ => by have := HW1.out; omega))
    clear s3 p3 hv3 e1 hsz2
    cases f with
    | zero => rw [tailM] at hM; cases hM
    | succ g =>
    cases S3 with
    | nil => rw [tailM] at hM; cases hM
    | cons z S4 =>
    rw [tailM_cons] at hM
    have qf := field_typ z
    have hless : (z :: S4).length + (addName nm3 x.val.toList).length ≤ (x :: y :: S2).length + nm.length := by have := addName_len nm3 x.val.toList; simp only [List.length_cons] at hless0 ⊢; omega
    simp only [List.length_cons] at hless0 hl
    obtain ⟨-, cv, -⟩ := Blk3 HV3.out
    have fv := HB3.out.frozen
    have HMM := Lib.hid hM
    clear hM
    rcases HN3.out.shape with rfl | ⟨tt, xx, rfl⟩
    · go_wp2_with fail
      go_region_held3 (fun w' => w'.cell? ⟨w1.heap.size + 1, 1, none⟩ = some (.string x.val)) (go_keep)
        ((go_at_call 115; refine (bindIndex_calls (HP3.out.ext (Ext.drew _)) x.val hxz (by omega)).mono ?_; rintro e w4 ⟨rfl, mp4, s4, p4⟩; have HS4 := Lib.hid (HS3.out.trans ((Step.of_ext (Ext.drew _)).trans s4)); have HP4 := Lib.hid p4; have HN4 := Lib.hid (NodeAt.mono (s4.keeps (HP3.out.ext (Ext.drew _)) (fun b h => by omega)) (NodeAt.mono ((Ext.drew _).keeps _) HN3.out)); have HV4 := Blk3 ((HV3.out.ext (Ext.drew _)).step s4 (HP3.out.ext (Ext.drew _)) (by omega)); have HB4 := Lib.hid ((HB3.out.ext (Ext.drew _)).step s4 (HP3.out.ext (Ext.drew _)) (by omega)); have cv4 := HV4.2.1; have fb4 := HB4.out.frozen; have lb4 := HB4.out.lt; have cb4 := Blk3 HB4.out; clear s4 p4 HV4))
      have hM := HMM.out
      have HS5 := Lib.hid (((HS4.out.setNew (k := w1.heap.size + 1 + 1) (by have := HW1.out; omega) 0 (.string x.val)).setNew (k := w1.heap.size + 1 + 1) (by have := HW1.out; omega) 1 (.nilIface)).setNew (k := w1.heap.size + 1 + 1) (by have := HW1.out; omega) 2 (.int .i64 (nm3.idxOf x.val.toList)))
      have HP5 := Lib.hid (((HP4.out.setNew HB4.out (by omega) (by omega) 0 (.string x.val)).setNew (HB4.out.set 0 _) (by omega) (by omega) 1 (.nilIface)).setNew ((HB4.out.set 0 _).set 1 _) (by omega) (by omega) 2 (.int .i64 (nm3.idxOf x.val.toList)))
      have HB5 : Hid (Blk (((w4.setCell ⟨w1.heap.size + 1 + 1, 0, none⟩ (.string x.val)).setCell ⟨w1.heap.size + 1 + 1, 1, none⟩ (.nilIface)).setCell ⟨w1.heap.size + 1 + 1, 2, none⟩ (.int .i64 (nm3.idxOf x.val.toList))) (w1.heap.size + 1 + 1) #[.string x.val, .nilIface, .int .i64 (nm3.idxOf x.val.toList)] 138) := Lib.hid (((HB4.out.set 0 _).set 1 _).set 2 _)
      have HN5 := Lib.hid (((HN4.out.setNew HB4.out (fun h => by omega) 0 (.string x.val)).setNew (HB4.out.set 0 _) (fun h => by omega) 1 (.nilIface)).setNew ((HB4.out.set 0 _).set 1 _) (fun h => by omega) 2 (.int .i64 (nm3.idxOf x.val.toList)))
      generalize (((w4.setCell ⟨w1.heap.size + 1 + 1, 0, none⟩ (.string x.val)).setCell ⟨w1.heap.size + 1 + 1, 1, none⟩ (.nilIface)).setCell ⟨w1.heap.size + 1 + 1, 2, none⟩ (.int .i64 (nm3.idxOf x.val.toList))) = w5 at HS5 HP5 HB5 HN5 ⊢
      clear HMM cv4 fb4 lb4 cb4 fv cv
      go_wp2_with fail
      have HN5 := Lib.hid (HN5.out.imp (Y := fun b => w.heap.size ≤ b) (fun b hb _ => by have := hb.1; omega))
      refine (peekP HP5.out).mono ?_
      rintro e wp ⟨rfl, sp, pp⟩
      have HSp := Lib.hid (HS5.out.trans sp)
      have HPp := Lib.hid pp
      have HNp := Lib.hid (HN5.out.mono (sp.keeps HP5.out KX))
      have HBp := Lib.hid (HB5.out.step sp HP5.out (by omega))
      clear sp pp
      cases hz : (z.typ == 8)
      · rw [hz] at hM
        simp only [Bool.false_eq_true, if_false] at hM
        have HR := Lib.hid (Option.some.inj hM)
        clear hM
        obtain ⟨b0, b1, b2⟩ := Blk3 HBp.out
        go_wp2_with fail
        go_ret2
        rw [← HR.out]
        exact ⟨_, HSp.out, _, _, _, rfl, by rw [NodeAt]; exact ⟨_, rfl, HNp.out⟩, trivial, HPp.out⟩
      · rw [hz, if_pos rfl] at hM
        have h8 : z.typ = 8 := eq_of_beq hz
        clear hz
        have HM := Lib.hid hM
        clear hM
        go_wp2_with fail
        refine (nextP HPp.out).mono ?_
        rintro e wn ⟨rfl, sn, pn⟩
        have HSn := Lib.hid (HSp.out.trans sn)
        have HPn := Lib.hid pn
        have HNn := Lib.hid (HNp.out.mono (sn.keeps HPp.out KX))
        have HBn := Lib.hid (HBp.out.step sn HPp.out (by omega))
        clear sn pn
        go_wp2_with fail
        rcases andThen_some HM.out with ⟨e1, rfl⟩ | ⟨t, S4, nm4, e1, e2⟩
        · refine (HO.out g (by omega) _ _ _ e1 (by simp only [List.length_cons] at hless hl ⊢; omega) pb hi _ _ _ _ HPn.out).mono ?_
          rintro e wt ⟨mpt, st, vt, p, rfl⟩
          have HSt := Lib.hid (HSn.out.trans st)
          obtain ⟨b0, b1, b2⟩ := Blk3 (HBn.out.step st HPn.out (by omega))
          have q6 := errne p
          clear st e1
          go_wp2_with fail
          go_ret2
          exact PPost.err HSt.out
        · cases e2
          refine (HO.out g (by omega) _ _ _ e1 (by simp only [List.length_cons] at hless hl ⊢; omega) pb hi _ _ _ _ HPn.out).mono ?_
          rintro e wt ⟨mpt, st, vt, flt, curt, rfl, ht, -, pt⟩
          have HSt := Lib.hid (HSn.out.trans st)
          have HPt := Lib.hid pt
          have HNt := Lib.hid (HNn.out.mono (st.keeps HPn.out KX))
          obtain ⟨b0, b1, b2⟩ := Blk3 (HBn.out.step st HPn.out (by omega))
          have HTt := Lib.hid (ht.imp (Y := fun b => w.heap.size ≤ b) (fun b hb _ => by have := HSn.out.1.size; omega))
          clear st pt ht e1
          rcases HTt.out.shape with rfl | ⟨t2, x2, rfl⟩
          all_goals
            go_wp2_with fail
            go_ret2
            exact ⟨_, HSt.out, _, _, _, rfl, by rw [NodeAt]; exact ⟨_, _, rfl, by rw [NodeAt]; exact ⟨_, rfl, HNt.out⟩, HTt.out⟩, trivial, HPt.out⟩
    · go_wp2_with fail
      go_region_held3 (fun w' => w'.cell? ⟨w1.heap.size + 1, 1, none⟩ = some (.string x.val)) (go_keep)
        ((go_at_call 115; refine (bindIndex_calls (HP3.out.ext (Ext.drew _)) x.val hxz (by omega)).mono ?_; rintro e w4 ⟨rfl, mp4, s4, p4⟩; have HS4 := Lib.hid (HS3.out.trans ((Step.of_ext (Ext.drew _)).trans s4)); have HP4 := Lib.hid p4; have HN4 := Lib.hid (NodeAt.mono (s4.keeps (HP3.out.ext (Ext.drew _)) (fun b h => by omega)) (NodeAt.mono ((Ext.drew _).keeps _) HN3.out)); have HV4 := Blk3 ((HV3.out.ext (Ext.drew _)).step s4 (HP3.out.ext (Ext.drew _)) (by omega)); have HB4 := Lib.hid ((HB3.out.ext (Ext.drew _)).step s4 (HP3.out.ext (Ext.drew _)) (by omega)); have cv4 := HV4.2.1; have fb4 := HB4.out.frozen; have lb4 := HB4.out.lt; have cb4 := Blk3 HB4.out; clear s4 p4 HV4))
      have hM := HMM.out
      have HS5 := Lib.hid (((HS4.out.setNew (k := w1.heap.size + 1 + 1) (by have := HW1.out; omega) 0 (.string x.val)).setNew (k := w1.heap.size + 1 + 1) (by have := HW1.out; omega) 1 (.iface tt xx)).setNew (k := w1.heap.size + 1 + 1) (by have := HW1.out; omega) 2 (.int .i64 (nm3.idxOf x.val.toList)))
      have HP5 := Lib.hid (((HP4.out.setNew HB4.out (by omega) (by omega) 0 (.string x.val)).setNew (HB4.out.set 0 _) (by omega) (by omega) 1 (.iface tt xx)).setNew ((HB4.out.set 0 _).set 1 _) (by omega) (by omega) 2 (.int .i64 (nm3.idxOf x.val.toList)))
      have HB5 : Hid (Blk (((w4.setCell ⟨w1.heap.size + 1 + 1, 0, none⟩ (.string x.val)).setCell ⟨w1.heap.size + 1 + 1, 1, none⟩ (.iface tt xx)).setCell ⟨w1.heap.size + 1 + 1, 2, none⟩ (.int .i64 (nm3.idxOf x.val.toList))) (w1.heap.size + 1 + 1) #[.string x.val, .iface tt xx, .int .i64 (nm3.idxOf x.val.toList)] 138) := Lib.hid (((HB4.out.set 0 _).set 1 _).set 2 _)
      have HN5 := Lib.hid (((HN4.out.setNew HB4.out (fun h => by omega) 0 (.string x.val)).setNew (HB4.out.set 0 _) (fun h => by omega) 1 (.iface tt xx)).setNew ((HB4.out.set 0 _).set 1 _) (fun h => by omega) 2 (.int .i64 (nm3.idxOf x.val.toList)))
      generalize (((w4.setCell ⟨w1.heap.size + 1 + 1, 0, none⟩ (.string x.val)).setCell ⟨w1.heap.size + 1 + 1, 1, none⟩ (.iface tt xx)).setCell ⟨w1.heap.size + 1 + 1, 2, none⟩ (.int .i64 (nm3.idxOf x.val.toList))) = w5 at HS5 HP5 HB5 HN5 ⊢
      clear HMM cv4 fb4 lb4 cb4 fv cv
      go_wp2_with fail
      have HN5 := Lib.hid (HN5.out.imp (Y := fun b => w.heap.size ≤ b) (fun b hb _ => by have := hb.1; omega))
      refine (peekP HP5.out).mono ?_
      rintro e wp ⟨rfl, sp, pp⟩
      have HSp := Lib.hid (HS5.out.trans sp)
      have HPp := Lib.hid pp
      have HNp := Lib.hid (HN5.out.mono (sp.keeps HP5.out KX))
      have HBp := Lib.hid (HB5.out.step sp HP5.out (by omega))
      clear sp pp
      cases hz : (z.typ == 8)
      · rw [hz] at hM
        simp only [Bool.false_eq_true, if_false] at hM
        have HR := Lib.hid (Option.some.inj hM)
        clear hM
        obtain ⟨b0, b1, b2⟩ := Blk3 HBp.out
        go_wp2_with fail
        go_ret2
        rw [← HR.out]
        exact ⟨_, HSp.out, _, _, _, rfl, by rw [NodeAt]; exact ⟨_, rfl, HNp.out⟩, trivial, HPp.out⟩
      · rw [hz, if_pos rfl] at hM
        have h8 : z.typ = 8 := eq_of_beq hz
        clear hz
        have HM := Lib.hid hM
        clear hM
        go_wp2_with fail
        refine (nextP HPp.out).mono ?_
        rintro e wn ⟨rfl, sn, pn⟩
        have HSn := Lib.hid (HSp.out.trans sn)
        have HPn := Lib.hid pn
        have HNn := Lib.hid (HNp.out.mono (sn.keeps HPp.out KX))
        have HBn := Lib.hid (HBp.out.step sn HPp.out (by omega))
        clear sn pn
        go_wp2_with fail
        rcases andThen_some HM.out with ⟨e1, rfl⟩ | ⟨t, S4, nm4, e1, e2⟩
        · refine (HO.out g (by omega) _ _ _ e1 (by simp only [List.length_cons] at hless hl ⊢; omega) pb hi _ _ _ _ HPn.out).mono ?_
          rintro e wt ⟨mpt, st, vt, p, rfl⟩
          have HSt := Lib.hid (HSn.out.trans st)
          obtain ⟨b0, b1, b2⟩ := Blk3 (HBn.out.step st HPn.out (by omega))
          have q6 := errne p
          clear st e1
          go_wp2_with fail
          go_ret2
          exact PPost.err HSt.out
        · cases e2
          refine (HO.out g (by omega) _ _ _ e1 (by simp only [List.length_cons] at hless hl ⊢; omega) pb hi _ _ _ _ HPn.out).mono ?_
          rintro e wt ⟨mpt, st, vt, flt, curt, rfl, ht, -, pt⟩
          have HSt := Lib.hid (HSn.out.trans st)
          have HPt := Lib.hid pt
          have HNt := Lib.hid (HNn.out.mono (st.keeps HPn.out KX))
          obtain ⟨b0, b1, b2⟩ := Blk3 (HBn.out.step st HPn.out (by omega))
          have HTt := Lib.hid (ht.imp (Y := fun b => w.heap.size ≤ b) (fun b hb _ => by have := HSn.out.1.size; omega))
          clear st pt ht e1
          rcases HTt.out.shape with rfl | ⟨t2, x2, rfl⟩
          all_goals
            go_wp2_with fail
            go_ret2
            exact ⟨_, HSt.out, _, _, _, rfl, by rw [NodeAt]; exact ⟨_, _, rfl, by rw [NodeAt]; exact ⟨_, rfl, HNt.out⟩, HTt.out⟩, trivial, HPt.out⟩
end Go.Proofs.YtigalkobmfbdaaaGreatDoor
