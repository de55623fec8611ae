/- FnNot: what a pattern without names matches, Not of it does not. -/
import Derived.Test.YtigalkobmfbdaaaGreatDoorMix2A
import Derived.Test.YtigalkobmfbdaaaGreatDoorMix2u
import Derived.Test.YtigalkobmfbdaaaGreatDoorNot1Z2
import Derived.Test.YtigalkobmfbdaaaGreatDoorMix2t
import Derived.Test.YtigalkobmfbdaaaGreatDoorMix2C
set_option linter.unusedVariables false
set_option linter.unusedSimpArgs false
set_option maxRecDepth 100000
set_option maxHeartbeats 4000000
namespace Go.Proofs.YtigalkobmfbdaaaGreatDoor
open Go.RowKit Go.WideMaps Go.Sort
theorem not_law (t : Tree) (a : Option Addr) (c : Nat) (n : Syn) (a' : Option Addr) (c' : Nat) (W : World) (hA : TreeAt W a c t) (hS : SynIn (LiveIn W) W a' c' n) (hT : TabAt W) : Calls Tryz.prog 15 #[treeV t a c,synV n a' c'] W fun e w'=>e=.returned (.bool true) /\ Ext W w':=by
 have HA:=Lib.hid hA
 have HS:=Lib.hid hS
 have HT:=Lib.hid hT
 have hE1:=Ext.alloc W (.cells #[.string t.kind,.string t.text,.slice a t.kids.length c] 24)
 have hE2:=Ext.alloc (W.alloc (.cells #[.string t.kind,.string t.text,.slice a t.kids.length c] 24)) (.cells (synC n a' c') 52)
 have hB1:=(Blk.new W #[.string t.kind,.string t.text,.slice a t.kids.length c] 24).ext hE2
 have hB2:=Blk.second W (.cells #[.string t.kind,.string t.text,.slice a t.kids.length c] 24) (synC n a' c') 52
 have HB0:=Lib.hid (And.intro hB1 (And.intro hB2 (hE1.trans hE2)))
 clear hA hS hT hE1 hE2 hB1 hB2
 go_enter Tryz.func15,Tryz.ntmps15
 go_wp2_with fail
 refine (fitsT_calls t a c _ (HA.out.mono HB0.out.2.2)).mono ?_
 rintro e w1 ⟨rfl,hE1⟩
 have K1:=Lib.hid (And.intro (HB0.out.1.ext hE1) (And.intro (HB0.out.2.1.ext hE1) (HB0.out.2.2.trans hE1)))
 clear hE1
 obtain ⟨p0,p1,p2⟩:=Blk3 K1.out.1
 obtain ⟨q0,q1,q2,q3,q4⟩:=Blk5 K1.out.2.1
 have pl:=cell_lt p0
 have ql:=cell_lt q0
 generalize hft : fitsT t=ft
 clear hft
 cases ft with
 | false =>
  go_wp2_with fail
  go_ret
  exact ⟨rfl,K1.out.2.2⟩
 | true =>
 go_wp2_with fail
 refine (fitsS_calls n _ _ _ (HS.out.mono K1.out.2.2)).mono ?_
 rintro e w2 ⟨rfl,hE2⟩
 have K2:=Lib.hid (And.intro (K1.out.1.ext hE2) (And.intro (K1.out.2.1.ext hE2) (K1.out.2.2.trans hE2)))
 clear hE2 p0 p1 p2 pl q0 q1 q2 q3 q4 ql
 obtain ⟨p0,p1,p2⟩:=Blk3 K2.out.1
 obtain ⟨q0,q1,q2,q3,q4⟩:=Blk5 K2.out.2.1
 have pl:=cell_lt p0
 have ql:=cell_lt q0
 generalize hft : fitsS n=ft
 clear hft
 cases ft with
 | false =>
  go_wp2_with fail
  go_ret
  exact ⟨rfl,K2.out.2.2⟩
 | true =>
 go_wp2_with fail
 refine (fair_calls t n a c a' c' _ (HA.out.mono K2.out.2.2) (HS.out.mono K2.out.2.2)).mono ?_
 rintro e w3 ⟨⟨rb,rfl,hrb⟩,hE3⟩
 have HRB:=Lib.hid hrb
 have K3:=Lib.hid (And.intro (K2.out.1.ext hE3) (And.intro (K2.out.2.1.ext hE3) (K2.out.2.2.trans hE3)))
 clear hE3 hrb p0 p1 p2 pl q0 q1 q2 q3 q4 ql
 obtain ⟨p0,p1,p2⟩:=Blk3 K3.out.1
 obtain ⟨q0,q1,q2,q3,q4⟩:=Blk5 K3.out.2.1
 have pl:=cell_lt p0
 have ql:=cell_lt q0
 cases rb with
 | false =>
  go_wp2_with fail
  go_ret
  exact ⟨rfl,K3.out.2.2⟩
 | true =>
 have HF:=Lib.hid (HRB.out rfl)
 clear HRB
 go_wp2_with fail
 refine (first_calls t a c _ (HA.out.mono K3.out.2.2)).mono ?_
 rintro e w4 ⟨rfl,hE4⟩
 have K4:=Lib.hid (And.intro (K3.out.1.ext hE4) (And.intro (K3.out.2.1.ext hE4) (K3.out.2.2.trans hE4)))
 clear hE4 p0 p1 p2 pl q0 q1 q2 q3 q4 ql
 obtain ⟨p0,p1,p2⟩:=Blk3 K4.out.1
 obtain ⟨q0,q1,q2,q3,q4⟩:=Blk5 K4.out.2.1
 have pl:=cell_lt p0
 have ql:=cell_lt q0
 cases hf : first t with
 | false =>
  go_wp2_with fail
  go_ret
  exact ⟨rfl,K4.out.2.2⟩
 | true =>
 have H1:=Lib.hid hf
 clear hf
 go_wp2_with fail
 refine (binds_calls t a c _ (HA.out.mono K4.out.2.2)).mono ?_
 rintro e w4b ⟨rfl,hE4⟩
 have K4b:=Lib.hid (And.intro (K4.out.1.ext hE4) (And.intro (K4.out.2.1.ext hE4) (K4.out.2.2.trans hE4)))
 clear hE4 K4 p0 p1 p2 pl q0 q1 q2 q3 q4 ql
 have K4:=K4b
 clear K4b
 obtain ⟨p0,p1,p2⟩:=Blk3 K4.out.1
 obtain ⟨q0,q1,q2,q3,q4⟩:=Blk5 K4.out.2.1
 have pl:=cell_lt p0
 have ql:=cell_lt q0
 cases hf : binds t with
 | true =>
  go_wp2_with fail
  go_ret
  exact ⟨rfl,K4.out.2.2⟩
 | false =>
 have H2:=Lib.hid hf
 clear hf
 go_wp2_with fail
 refine (matched_calls HF.out (HA.out.mono K4.out.2.2) (HS.out.mono K4.out.2.2)).mono ?_
 rintro e w5 ⟨⟨tb,V,rfl,-,-,-⟩,hE5⟩
 have K5:=Lib.hid (And.intro (K4.out.1.ext hE5) (And.intro (K4.out.2.1.ext hE5) (K4.out.2.2.trans hE5)))
 clear hE5 p0 p1 p2 pl q0 q1 q2 q3 q4 ql
 obtain ⟨p0,p1,p2⟩:=Blk3 K5.out.1
 obtain ⟨q0,q1,q2,q3,q4⟩:=Blk5 K5.out.2.1
 have pl:=cell_lt p0
 have ql:=cell_lt q0
 have HM:=Lib.hid (fun (ho : (sp t n [] false).op=false) (w' : World) (hx : Ext W w')=>not_match HF.out H1.out H2.out ho (HS.out.mono hx) (HT.out.toExt hx))
 have HX:=Lib.hid (fun (w' : World) (hx : Ext W w')=>text_calls t 0 (good_tame t 97 HF.out.hg) (by have:=HF.out.cnt;omega) a c w' (HA.out.mono hx))
 have HAl:=Lib.hid (fun (w' : World) (hx : Ext W w')=>alive_calls (HT.out.toExt hx))
 have hxl : (text 0 t).size <= 700:=HF.out.len
 have hadd1 : Op.stringOp .add ⟨#[40,79,114,32,40,78,111,116,32]⟩ (text 0 t)=pure (.string (⟨#[40,79,114,32,40,78,111,116,32]⟩ ++ text 0 t)):=by
  have h9 : (⟨#[40,79,114,32,40,78,111,116,32]⟩ : ByteArray).size=9:=rfl
  unfold Op.stringOp
  simp only [h9]
  rw [if_neg (by simp [IntKind.max,IntKind.signed,IntKind.bits];omega)]
 have hadd2 : Op.stringOp .add (⟨#[40,79,114,32,40,78,111,116,32]⟩ ++ text 0 t) ⟨#[41,41]⟩=pure (.string ((⟨#[40,79,114,32,40,78,111,116,32]⟩ ++ text 0 t) ++ ⟨#[41,41]⟩)):=by
  have h9 : (⟨#[40,79,114,32,40,78,111,116,32]⟩ ++ text 0 t).size=9 + (text 0 t).size:=app_size _ _
  have h2 : (⟨#[41,41]⟩ : ByteArray).size=2:=rfl
  unfold Op.stringOp
  simp only [h9,h2]
  rw [if_neg (by simp [IntKind.max,IntKind.signed,IntKind.bits];omega)]
 generalize (sp t n [] false).ok=ok at HM ⊢
 generalize (sp t n [] false).op=op at HM ⊢
 cases op with
 | true =>
  go_wp2_with fail
  go_ret
  exact ⟨rfl,K5.out.2.2⟩
 | false =>
 have HM2:=Lib.hid (HM.out rfl)
 clear HM
 go_wp2_with fail
 go_region_held3 (fun w'=>w'.cell? ⟨W.heap.size,0,none⟩=some (.string t.kind) /\ w'.cell? ⟨W.heap.size,1,none⟩=some (.string t.text) /\ w'.cell? ⟨W.heap.size,2,none⟩=some (.slice a t.kids.length c) /\ w'.cell? ⟨W.heap.size + 1,0,none⟩=some (.string n.kind) /\ w'.cell? ⟨W.heap.size + 1,1,none⟩=some (.bool n.null) /\ w'.cell? ⟨W.heap.size + 1,2,none⟩=some (.string n.text) /\ w'.cell? ⟨W.heap.size + 1,3,none⟩=some (.int .i64 n.num) /\ w'.cell? ⟨W.heap.size + 1,4,none⟩=some (.slice a' n.kids.length c')) (go_keep)
  (first
   | (go_at_call 37;have h9:=HTX;refine (HM2.out _ HTX.out).mono ?_;rintro e w8 ⟨⟨b,k,rfl,-,-,-⟩,hE8⟩;have s0:=hE8.keep r0;have s1:=hE8.keep r1;have s2:=hE8.keep r2;have u0:=hE8.keep v0;have u1:=hE8.keep v1;have u2:=hE8.keep v2;have u3:=hE8.keep v3;have u4:=hE8.keep v4;have KE:=Lib.hid (HTX.out.trans hE8);clear hE8 h9)
   | (go_at_call 23;refine (HX.out _ (K5.out.2.2.trans (Ext.drew _))).mono ?_;rintro e w6 ⟨rfl,hE6⟩;have r0:=hE6.keep ((Ext.drew _).keep p0);have r1:=hE6.keep ((Ext.drew _).keep p1);have r2:=hE6.keep ((Ext.drew _).keep p2);have v0:=hE6.keep ((Ext.drew _).keep q0);have v1:=hE6.keep ((Ext.drew _).keep q1);have v2:=hE6.keep ((Ext.drew _).keep q2);have v3:=hE6.keep ((Ext.drew _).keep q3);have v4:=hE6.keep ((Ext.drew _).keep q4);have HTX:=Lib.hid ((K5.out.2.2.trans (Ext.drew _)).trans hE6);clear hE6))
 clear p0 p1 p2 pl q0 q1 q2 q3 q4 ql
 cases ok
 all_goals
  go_wp2_with fail
  refine (HAl.out _ KE.out).mono ?_
  rintro e w9 ⟨rfl,hE9⟩
  have KF:=Lib.hid (KE.out.trans hE9)
  clear hE9
  go_wp2_with fail
  go_ret
  exact ⟨rfl,KF.out⟩
end Go.Proofs.YtigalkobmfbdaaaGreatDoor
