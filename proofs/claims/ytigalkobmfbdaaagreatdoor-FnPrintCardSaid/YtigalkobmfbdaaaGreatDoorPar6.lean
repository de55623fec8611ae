/- The parser's walks: object. -/
import Derived.Test.YtigalkobmfbdaaaGreatDoorPar5
set_option linter.unusedVariables false
set_option linter.unusedSimpArgs false
namespace Go.Proofs.YtigalkobmfbdaaaGreatDoor
open Go.RowKit
set_option maxRecDepth 100000 in
set_option maxHeartbeats 4000000 in
theorem obj_string {al : Bool} {pb hi : Nat} {fl : Bool} {cur x : Item} {S : List Item} {nm : Names} {mp : Option Nat} {w : World} (hx : x.typ = 10) (hP : PSt w pb hi al fl cur (x :: S) mp nm) :
    Calls Tryz.prog 113 #[.pointer (some ⟨pb, 0, none⟩)] w fun e w' => PPost pb hi al (fun _ => True) mp w (some (.str x.val, S, nm)) e w' := by
  have HP := Lib.hid hP
  clear hP
  go_enter Tryz.func113, Tryz.ntmps113
  go_wp2_with fail
  refine (nextP HP.out).mono ?_
  rintro e w1 ⟨rfl, s1, p1⟩
  have HS1 := Lib.hid s1
  have HP1 := Lib.hid p1
  clear s1 p1
  go_wp2_with fail
  go_ret2
  exact ⟨mp, HS1.out.trans (Step.of_ext (Ext.alloc _ _)), _, false, x, rfl, by rw [NodeAt]; rfl, trivial, HP1.out.ext (Ext.alloc _ _)⟩
set_option maxRecDepth 100000 in
set_option maxHeartbeats 4000000 in
theorem obj_nil {al : Bool} {pb hi : Nat} {fl : Bool} {cur x : Item} {S : List Item} {nm : Names} {mp : Option Nat} {w : World} (hx : x.typ = 6) (hv : (x.val.toList == [110, 105, 108]) = true) (hP : PSt w pb hi al fl cur (x :: S) mp nm) :
    Calls Tryz.prog 113 #[.pointer (some ⟨pb, 0, none⟩)] w fun e w' => PPost pb hi al (fun _ => True) mp w (some (.nil, S, nm)) e w' := by
  have HP := Lib.hid hP
  clear hP
  go_enter Tryz.func113, Tryz.ntmps113
  go_wp2_with fail
  refine (nextP HP.out).mono ?_
  rintro e w1 ⟨rfl, s1, p1⟩
  have HS1 := Lib.hid s1
  have HP1 := Lib.hid p1
  clear s1 p1
  go_wp2_with fail
  go_ret2
  exact ⟨mp, HS1.out.trans (Step.of_ext ((Ext.alloc _ _).trans (Ext.alloc _ _))), _, false, x, rfl, by rw [NodeAt]; rfl, trivial, HP1.out.ext ((Ext.alloc _ _).trans (Ext.alloc _ _))⟩
set_option maxRecDepth 100000 in
set_option maxHeartbeats 4000000 in
theorem obj_err {al : Bool} {pb hi : Nat} {fl : Bool} {cur x : Item} {S : List Item} {nm : Names} {mp : Option Nat} {w : World} (h1 : (x.typ == 1) = false) (h2 : (x.typ == 3) = false) (h3 : (x.typ == 6) = false) (h4 : (x.typ == 9) = false) (h5 : (x.typ == 10) = false) (hP : PSt w pb hi al fl cur (x :: S) mp nm) :
    Calls Tryz.prog 113 #[.pointer (some ⟨pb, 0, none⟩)] w fun e w' => PPost pb hi al (fun _ => True) mp w none e w' := by
  have HP := Lib.hid hP
  clear hP
  go_enter Tryz.func113, Tryz.ntmps113
  go_wp2_with fail
  refine (nextP HP.out).mono ?_
  rintro e w1 ⟨rfl, s1, p1⟩
  have HS1 := Lib.hid s1
  have HP1 := Lib.hid p1
  clear s1 p1
  go_wp2_with fail
  refine (unexpectedP (HP1.out.ext (Ext.alloc _ _)) _ (by decide)).mono ?_
  rintro e w2 ⟨⟨p, rfl⟩, hE⟩
  go_wp2_with fail
  go_ret2
  exact PPost.err (HS1.out.trans (Step.of_ext ((Ext.alloc _ _).trans hE)))
set_option maxRecDepth 100000 in
set_option maxHeartbeats 4000000 in
theorem obj_array {al : Bool} {pb hi : Nat} {fl : Bool} {cur x : Item} {S : List Item} {nm : Names} {mp : Option Nat} {w : World} {r : Option (PN × List Item × Names)} (hx : x.typ = 3) (hA : ∀ (fl : Bool) (cur : Item) (w : World), PSt w pb hi al fl cur (x :: S) mp nm → Calls Tryz.prog 140 #[.pointer (some ⟨pb, 0, none⟩)] w fun e w' => PPost pb hi al (fun _ => True) mp w r e w') (hP : PSt w pb hi al fl cur (x :: S) mp nm) :
    Calls Tryz.prog 113 #[.pointer (some ⟨pb, 0, none⟩)] w fun e w' => PPost pb hi al (fun _ => True) mp w r e w' := by
  have HP := Lib.hid hP
  clear hP
  have HA := Lib.hid hA
  clear hA
  go_enter Tryz.func113, Tryz.ntmps113
  go_wp2_with fail
  refine (nextP HP.out).mono ?_
  rintro e w1 ⟨rfl, s1, p1⟩
  have HS1 := Lib.hid s1
  have HP1 := Lib.hid p1
  clear s1 p1
  go_wp2_with fail
  refine (rewindP' (HP1.out.ext (Ext.alloc _ _))).mono ?_
  rintro e w2 ⟨rfl, s2, p2⟩
  have HS2 := Lib.hid (HS1.out.trans ((Step.of_ext (Ext.alloc _ _)).trans s2))
  have HP2 := Lib.hid p2
  clear s2 p2
  go_wp2_with fail
  refine (HA.out _ _ _ HP2.out).mono ?_
  rintro e w3 ⟨mp3, s3, hr⟩
  have HS3 := Lib.hid (HS2.out.trans s3)
  cases r with
  | none =>
    obtain ⟨v, p, rfl⟩ := hr
    clear s3
    go_wp2_with fail
    go_ret2
    exact PPost.err HS3.out
  | some q =>
    obtain ⟨n, S', nm'⟩ := q
    obtain ⟨v, fl', cur', rfl, hv, -, p3⟩ := hr
    have HV := Lib.hid (And.intro hv p3)
    clear hv p3 s3
    go_wp2_with fail
    go_ret2
    refine ⟨mp3, HS3.out, v, fl', cur', rfl, ?_, trivial, HV.out.2⟩
    have := HS2.out.1.size
    exact HV.out.1.imp (fun b hb _ => by omega)
theorem field_typ (z : Item) (w : World) : (Instr.field 115 (itemV z) 0).run Tryz.prog w = .ok (.int .i64 z.typ) w := by kernel_rfl
set_option maxRecDepth 100000 in
set_option maxHeartbeats 4000000 in
theorem obj_paren {al : Bool} {pb hi : Nat} {fl : Bool} {cur x : Item} {S : List Item} {nm : Names} {mp : Option Nat} {w : World} {f : Nat} {r : Option (PN × List Item × Names)} (hx : x.typ = 1) (hN : NodeC al f) (hO : ∀ g, g < f → ObjectC al g) (hM : ((nodeM al f (x :: S) nm).andThen fun n S2 nm2 => tailM al f n S2 nm2) = some r) (hl : (x :: S).length + nm.length ≤ 300000) (hP : PSt w pb hi al fl cur (x :: S) mp nm) :
    Calls Tryz.prog 113 #[.pointer (some ⟨pb, 0, none⟩)] w fun e w' => PPost pb hi al (fun _ => True) mp w r e w' := by
  have HP := Lib.hid hP
  clear hP
  have HN := Lib.hid hN
  have HO := Lib.hid hO
  have HM0 := Lib.hid hM
  clear hN hO hM
  have KX : ∀ b, w.heap.size ≤ b → b ≠ pb := fun b hb => by have := HP.out.lt; omega
  have q5 := nilne
  go_enter Tryz.func113, Tryz.ntmps113
  go_wp2_with fail
  refine (nextP HP.out).mono ?_
  rintro e w1 ⟨rfl, s1, p1⟩
  have HS1 := Lib.hid s1
  have HP1 := Lib.hid p1
  clear s1 p1
  go_wp2_with fail
  refine (rewindP' (HP1.out.ext (Ext.alloc _ _))).mono ?_
  rintro e w2 ⟨rfl, s2, p2⟩
  have HS2 := Lib.hid (HS1.out.trans ((Step.of_ext (Ext.alloc _ _)).trans s2))
  have HP2 := Lib.hid p2
  clear s2 p2
  go_wp2_with fail
  rcases andThen_some HM0.out with ⟨e1, rfl⟩ | ⟨n, S2, nm2, e1, hM⟩
  · refine (HN.out _ _ _ e1 hl pb hi _ _ _ _ HP2.out).mono ?_
    rintro e w3 ⟨mp3, s3, v, p, rfl⟩
    have HS3 := Lib.hid (HS2.out.trans s3)
    have q6 := errne p
    clear s3 e1
    go_wp2_with fail
    go_ret2
    exact PPost.err HS3.out
  · refine (HN.out _ _ _ e1 hl pb hi _ _ _ _ HP2.out).mono ?_
    rintro e w3 ⟨mp3, s3, v, fl3, cur3, rfl, hv, -, p3⟩
    have hless := (model_len al f).1 _ _ _ _ _ e1
    have HS3 := Lib.hid (HS2.out.trans s3)
    have HP3 := Lib.hid p3
    have HN3 := Lib.hid (hv.imp (Y := fun b => w.heap.size ≤ b) (fun b hb _ => by have := HS2.out.1.size; omega))
    clear s3 p3 hv e1
    cases f with
    | zero => rw [tailM] at hM; cases hM
    | succ g =>
    cases S2 with
    | nil => rw [tailM] at hM; cases hM
    | cons z S3 =>
    rw [tailM_cons] at hM
    have qf := field_typ z
    rcases HN3.out.shape with rfl | ⟨tt, xx, rfl⟩
    all_goals
      go_wp2_with fail
      refine (peekP HP3.out).mono ?_
      rintro e wp ⟨rfl, sp, pp⟩
      have HSp := Lib.hid (HS3.out.trans sp)
      have HPp := Lib.hid pp
      have HNp := Lib.hid (HN3.out.mono (sp.keeps HP3.out KX))
      clear sp pp
      cases hz : (z.typ == 8)
      · rw [hz] at hM
        simp only [Bool.false_eq_true, if_false] at hM
        have HR := Lib.hid (Option.some.inj hM)
        clear hM
        go_wp2_with fail
        go_ret2
        rw [← HR.out]
        exact ⟨_, HSp.out, _, _, _, rfl, HNp.out, trivial, HPp.out⟩
      · rw [hz, if_pos rfl] at hM
        have h8 : z.typ = 8 := eq_of_beq hz
        clear hz
        have HM := Lib.hid hM
        clear hM
        go_wp2_with fail
        refine (nextP HPp.out).mono ?_
        rintro e wn ⟨rfl, sn, pn⟩
        have HSn := Lib.hid (HSp.out.trans sn)
        have HPn := Lib.hid pn
        have HNn := Lib.hid (HNp.out.mono (sn.keeps HPp.out KX))
        clear sn pn
        go_wp2_with fail
        rcases andThen_some HM.out with ⟨e1, rfl⟩ | ⟨t, S4, nm4, e1, e2⟩
        · refine (HO.out g (by omega) _ _ _ e1 (by simp only [List.length_cons] at hless hl ⊢; omega) pb hi _ _ _ _ HPn.out).mono ?_
          rintro e wt ⟨mpt, st, vt, p, rfl⟩
          have HSt := Lib.hid (HSn.out.trans st)
          have q6 := errne p
          clear st e1
          go_wp2_with fail
          go_ret2
          exact PPost.err HSt.out
        · cases e2
          refine (HO.out g (by omega) _ _ _ e1 (by simp only [List.length_cons] at hless hl ⊢; omega) pb hi _ _ _ _ HPn.out).mono ?_
          rintro e wt ⟨mpt, st, vt, flt, curt, rfl, ht, -, pt⟩
          have HSt := Lib.hid (HSn.out.trans st)
          have HPt := Lib.hid pt
          have HNt := Lib.hid (HNn.out.mono (st.keeps HPn.out KX))
          have HTt := Lib.hid (ht.imp (Y := fun b => w.heap.size ≤ b) (fun b hb _ => by have := HSn.out.1.size; omega))
          clear st pt ht e1
          rcases HTt.out.shape with rfl | ⟨t2, x2, rfl⟩
          all_goals
            go_wp2_with fail
            go_ret2
            exact ⟨_, HSt.out, _, _, _, rfl, by rw [NodeAt]; exact ⟨_, _, rfl, HNt.out, HTt.out⟩, trivial, HPt.out⟩
set_option maxRecDepth 100000 in
set_option maxHeartbeats 4000000 in
theorem obj_blank {al : Bool} {pb hi : Nat} {fl : Bool} {cur x : Item} {S : List Item} {nm : Names} {mp : Option Nat} {w : World} {f : Nat} {r : Option (PN × List Item × Names)} (hx : x.typ = 9) (hO : ∀ g, g < f → ObjectC al g) (hM : tailM al f .any S nm = some r) (hl : (x :: S).length + nm.length ≤ 300000) (hP : PSt w pb hi al fl cur (x :: S) mp nm) :
    Calls Tryz.prog 113 #[.pointer (some ⟨pb, 0, none⟩)] w fun e w' => PPost pb hi al (fun _ => True) mp w r e w' := by
  have HP := Lib.hid hP
  clear hP
  have HO := Lib.hid hO
  clear hO
  have KX : ∀ b, w.heap.size ≤ b → b ≠ pb := fun b hb => by have := HP.out.lt; omega
  have q5 := nilne
  cases f with
  | zero => rw [tailM] at hM; cases hM
  | succ g =>
  cases S with
  | nil => rw [tailM] at hM; cases hM
  | cons z S3 =>
  rw [tailM_cons] at hM
  have qf := field_typ z
  have hless : (z :: S3).length + nm.length ≤ (x :: z :: S3).length + nm.length := by simp only [List.length_cons]; omega
  go_enter Tryz.func113, Tryz.ntmps113
  go_wp2_with fail
  refine (nextP HP.out).mono ?_
  rintro e w1 ⟨rfl, s1, p1⟩
  have HS1 := Lib.hid s1
  have HP1 := Lib.hid p1
  clear s1 p1
  go_wp2_with fail
  have HS3 := Lib.hid (HS1.out.trans (Step.of_ext (Ext.alloc w1 (.cells #[.int .i64 x.typ, .string x.val, .int .i64 x.pos] 115))))
  have HP3 := Lib.hid (HP1.out.ext (Ext.alloc w1 (.cells #[.int .i64 x.typ, .string x.val, .int .i64 x.pos] 115)))
  have HN3 : Hid (NodeAt (fun b => w.heap.size ≤ b) (w1.alloc (.cells #[.int .i64 x.typ, .string x.val, .int .i64 x.pos] 115)) (.iface 130 (.agg #[])) .any) := Lib.hid (by rw [NodeAt])
  rw [hx] at HS3 HP3 HN3
  refine (peekP HP3.out).mono ?_
  rintro e wp ⟨rfl, sp, pp⟩
  have HSp := Lib.hid (HS3.out.trans sp)
  have HPp := Lib.hid pp
  have HNp := Lib.hid (HN3.out.mono (sp.keeps HP3.out KX))
  clear sp pp
  cases hz : (z.typ == 8)
  · rw [hz] at hM
    simp only [Bool.false_eq_true, if_false] at hM
    have HR := Lib.hid (Option.some.inj hM)
    clear hM
    go_wp2_with fail
    go_ret2
    rw [← HR.out]
    exact ⟨_, HSp.out, _, _, _, rfl, HNp.out, trivial, HPp.out⟩
  · rw [hz, if_pos rfl] at hM
    have h8 : z.typ = 8 := eq_of_beq hz
    clear hz
    have HM := Lib.hid hM
    clear hM
    go_wp2_with fail
    refine (nextP HPp.out).mono ?_
    rintro e wn ⟨rfl, sn, pn⟩
    have HSn := Lib.hid (HSp.out.trans sn)
    have HPn := Lib.hid pn
    have HNn := Lib.hid (HNp.out.mono (sn.keeps HPp.out KX))
    clear sn pn
    go_wp2_with fail
    rcases andThen_some HM.out with ⟨e1, rfl⟩ | ⟨t, S4, nm4, e1, e2⟩
    · refine (HO.out g (by omega) _ _ _ e1 (by simp only [List.length_cons] at hless hl ⊢; omega) pb hi _ _ _ _ HPn.out).mono ?_
      rintro e wt ⟨mpt, st, vt, p, rfl⟩
      have HSt := Lib.hid (HSn.out.trans st)
      have q6 := errne p
      clear st e1
      go_wp2_with fail
      go_ret2
      exact PPost.err HSt.out
    · cases e2
      refine (HO.out g (by omega) _ _ _ e1 (by simp only [List.length_cons] at hless hl ⊢; omega) pb hi _ _ _ _ HPn.out).mono ?_
      rintro e wt ⟨mpt, st, vt, flt, curt, rfl, ht, -, pt⟩
      have HSt := Lib.hid (HSn.out.trans st)
      have HPt := Lib.hid pt
      have HNt := Lib.hid (HNn.out.mono (st.keeps HPn.out KX))
      have HTt := Lib.hid (ht.imp (Y := fun b => w.heap.size ≤ b) (fun b hb _ => by have := HSn.out.1.size; omega))
      clear st pt ht e1
      rcases HTt.out.shape with rfl | ⟨t2, x2, rfl⟩
      all_goals
        go_wp2_with fail
        go_ret2
        exact ⟨_, HSt.out, _, _, _, rfl, by rw [NodeAt]; exact ⟨_, _, rfl, HNt.out, HTt.out⟩, trivial, HPt.out⟩
end Go.Proofs.YtigalkobmfbdaaaGreatDoor
