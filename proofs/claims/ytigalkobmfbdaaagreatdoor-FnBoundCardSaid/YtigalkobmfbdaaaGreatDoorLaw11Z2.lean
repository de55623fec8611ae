/- FnBound: where a pattern matches, its names are bound to what they matched. -/
import Derived.Test.YtigalkobmfbdaaaGreatDoorMix2A
import Derived.Test.YtigalkobmfbdaaaGreatDoorMix2u
import Derived.Test.YtigalkobmfbdaaaGreatDoorMix2v
import Derived.Test.YtigalkobmfbdaaaGreatDoorMix2B
import Derived.Test.YtigalkobmfbdaaaGreatDoorMix2t
import Derived.Test.YtigalkobmfbdaaaGreatDoorMix2C
set_option linter.unusedVariables false
set_option linter.unusedSimpArgs false
set_option maxRecDepth 100000
set_option maxHeartbeats 4000000
namespace Go.Proofs.YtigalkobmfbdaaaGreatDoor
open Go.RowKit Go.WideMaps Go.Sort
theorem bound_law (t : Tree) (a : Option Addr) (c : Nat) (n : Syn) (a' : Option Addr) (c' : Nat) (W : World) (hA : TreeAt W a c t) (hS : SynIn (LiveIn W) W a' c' n) (hT : TabAt W) : Calls Tryz.prog 11 #[treeV t a c,synV n a' c'] W fun e w'=>e=.returned (.bool true) /\ Ext W w':=by
 have HA:=Lib.hid hA
 have HS:=Lib.hid hS
 have HT:=Lib.hid hT
 have hE1:=Ext.alloc W (.cells #[.string t.kind,.string t.text,.slice a t.kids.length c] 24)
 have hE2:=Ext.alloc (W.alloc (.cells #[.string t.kind,.string t.text,.slice a t.kids.length c] 24)) (.cells (synC n a' c') 52)
 have hB1:=(Blk.new W #[.string t.kind,.string t.text,.slice a t.kids.length c] 24).ext hE2
 have hB2:=Blk.second W (.cells #[.string t.kind,.string t.text,.slice a t.kids.length c] 24) (synC n a' c') 52
 have HB0:=Lib.hid (And.intro hB1 (And.intro hB2 (hE1.trans hE2)))
 clear hA hS hT hE1 hE2 hB1 hB2
 go_enter Tryz.func11,Tryz.ntmps11
 go_wp2_with fail
 refine (fitsT_calls t a c _ (HA.out.mono HB0.out.2.2)).mono ?_
 rintro e w1 ⟨rfl,hE1⟩
 have K1:=Lib.hid (And.intro (HB0.out.1.ext hE1) (And.intro (HB0.out.2.1.ext hE1) (HB0.out.2.2.trans hE1)))
 clear hE1
 obtain ⟨p0,p1,p2⟩:=Blk3 K1.out.1
 obtain ⟨q0,q1,q2,q3,q4⟩:=Blk5 K1.out.2.1
 have pl:=cell_lt p0
 have ql:=cell_lt q0
 generalize hft : fitsT t=ft
 clear hft
 cases ft with
 | false =>
  go_wp2_with fail
  go_ret
  exact ⟨rfl,K1.out.2.2⟩
 | true =>
 go_wp2_with fail
 refine (fitsS_calls n _ _ _ (HS.out.mono K1.out.2.2)).mono ?_
 rintro e w2 ⟨rfl,hE2⟩
 have K2:=Lib.hid (And.intro (K1.out.1.ext hE2) (And.intro (K1.out.2.1.ext hE2) (K1.out.2.2.trans hE2)))
 clear hE2 p0 p1 p2 pl q0 q1 q2 q3 q4 ql
 obtain ⟨p0,p1,p2⟩:=Blk3 K2.out.1
 obtain ⟨q0,q1,q2,q3,q4⟩:=Blk5 K2.out.2.1
 have pl:=cell_lt p0
 have ql:=cell_lt q0
 generalize hft : fitsS n=ft
 clear hft
 cases ft with
 | false =>
  go_wp2_with fail
  go_ret
  exact ⟨rfl,K2.out.2.2⟩
 | true =>
 go_wp2_with fail
 refine (fair_calls t n a c a' c' _ (HA.out.mono K2.out.2.2) (HS.out.mono K2.out.2.2)).mono ?_
 rintro e w3 ⟨⟨rb,rfl,hrb⟩,hE3⟩
 have HRB:=Lib.hid hrb
 have K3:=Lib.hid (And.intro (K2.out.1.ext hE3) (And.intro (K2.out.2.1.ext hE3) (K2.out.2.2.trans hE3)))
 clear hE3 hrb p0 p1 p2 pl q0 q1 q2 q3 q4 ql
 obtain ⟨p0,p1,p2⟩:=Blk3 K3.out.1
 obtain ⟨q0,q1,q2,q3,q4⟩:=Blk5 K3.out.2.1
 have pl:=cell_lt p0
 have ql:=cell_lt q0
 cases rb with
 | false =>
  go_wp2_with fail
  go_ret
  exact ⟨rfl,K3.out.2.2⟩
 | true =>
 have HF:=Lib.hid (HRB.out rfl)
 clear HRB
 go_wp2_with fail
 refine (first_calls t a c _ (HA.out.mono K3.out.2.2)).mono ?_
 rintro e w4 ⟨rfl,hE4⟩
 have K4:=Lib.hid (And.intro (K3.out.1.ext hE4) (And.intro (K3.out.2.1.ext hE4) (K3.out.2.2.trans hE4)))
 clear hE4 p0 p1 p2 pl q0 q1 q2 q3 q4 ql
 obtain ⟨p0,p1,p2⟩:=Blk3 K4.out.1
 obtain ⟨q0,q1,q2,q3,q4⟩:=Blk5 K4.out.2.1
 have pl:=cell_lt p0
 have ql:=cell_lt q0
 cases hf : first t with
 | false =>
  go_wp2_with fail
  go_ret
  exact ⟨rfl,K4.out.2.2⟩
 | true =>
 have H1:=Lib.hid hf
 clear hf
 go_wp2_with fail
 refine (matched_calls HF.out (HA.out.mono K4.out.2.2) (HS.out.mono K4.out.2.2)).mono ?_
 rintro e w5 ⟨⟨tb,V,rfl,hV,hR,hK⟩,hE5⟩
 have HV:=Lib.hid (And.intro hV (And.intro hR hK))
 have HE5:=Lib.hid hE5
 have K5:=Lib.hid (And.intro (K4.out.1.ext hE5) (And.intro (K4.out.2.1.ext hE5) (K4.out.2.2.trans hE5)))
 clear hE5 hV hR hK p0 p1 p2 pl q0 q1 q2 q3 q4 ql
 obtain ⟨p0,p1,p2⟩:=Blk3 K5.out.1
 obtain ⟨q0,q1,q2,q3,q4⟩:=Blk5 K5.out.2.1
 have pl:=cell_lt p0
 have ql:=cell_lt q0
 have HM:=Lib.hid (fun (ho : (sp t n [] false).op=false) (w' : World) (hx : Ext W w')=>fair_match HF.out H1.out ho 0 (HS.out.mono hx) (HT.out.toExt hx))
 have HX:=Lib.hid (fun (w' : World) (hx : Ext W w')=>text_calls t 0 (good_tame t 97 HF.out.hg) (by have:=HF.out.cnt;omega) a c w' (HA.out.mono hx))
 have HAl:=Lib.hid (fun (w' : World) (hx : Ext W w')=>alive_calls (HT.out.toExt hx))
 have HNm:=Lib.hid (names_short t (good_tame t 97 HF.out.hg))
 generalize (sp t n [] false).S=S at HM HV
 generalize (sp t n [] false).ok=ok at HM ⊢
 generalize (sp t n [] false).op=op at HM ⊢
 cases op with
 | true =>
  go_wp2_with fail
  go_ret
  exact ⟨rfl,K5.out.2.2⟩
 | false =>
 cases ok with
 | false =>
  go_wp2_with fail
  go_ret
  exact ⟨rfl,K5.out.2.2⟩
 | true =>
 have HM2:=Lib.hid (HM.out rfl)
 clear HM
 go_wp2_with fail
 go_region_held3 (fun w'=>w'.cell? ⟨W.heap.size,0,none⟩=some (.string t.kind) /\ w'.cell? ⟨W.heap.size,1,none⟩=some (.string t.text) /\ w'.cell? ⟨W.heap.size,2,none⟩=some (.slice a t.kids.length c) /\ w'.cell? ⟨W.heap.size + 1,0,none⟩=some (.string n.kind) /\ w'.cell? ⟨W.heap.size + 1,1,none⟩=some (.bool n.null) /\ w'.cell? ⟨W.heap.size + 1,2,none⟩=some (.string n.text) /\ w'.cell? ⟨W.heap.size + 1,3,none⟩=some (.int .i64 n.num) /\ w'.cell? ⟨W.heap.size + 1,4,none⟩=some (.slice a' n.kids.length c')) (go_keep)
  (first
   | (go_at_call 37;have h9:=HTX;refine (HM2.out _ HTX.out).mono ?_;rintro e w8 ⟨⟨b,k,rfl,hk1,hk2,hbn⟩,hE8⟩;have HBn:=Lib.hid (And.intro hk1 (And.intro hk2 hbn));have s0:=hE8.keep r0;have s1:=hE8.keep r1;have s2:=hE8.keep r2;have u0:=hE8.keep v0;have u1:=hE8.keep v1;have u2:=hE8.keep v2;have u3:=hE8.keep v3;have u4:=hE8.keep v4;have KE:=Lib.hid (HTX.out.trans hE8);have K58:=Lib.hid (hE58.trans hE8);clear hE8 h9 hk1 hk2 hbn)
   | (go_at_call 23;refine (HX.out _ (K5.out.2.2.trans (Ext.drew _))).mono ?_;rintro e w6 ⟨rfl,hE6⟩;have r0:=hE6.keep ((Ext.drew _).keep p0);have r1:=hE6.keep ((Ext.drew _).keep p1);have r2:=hE6.keep ((Ext.drew _).keep p2);have v0:=hE6.keep ((Ext.drew _).keep q0);have v1:=hE6.keep ((Ext.drew _).keep q1);have v2:=hE6.keep ((Ext.drew _).keep q2);have v3:=hE6.keep ((Ext.drew _).keep q3);have v4:=hE6.keep ((Ext.drew _).keep q4);have HTX:=Lib.hid ((K5.out.2.2.trans (Ext.drew _)).trans hE6);have hE58:=(Ext.drew w5).trans hE6;clear hE6))
 clear p0 p1 p2 pl q0 q1 q2 q3 q4 ql
 clear s0 s1 s2 u0 u1 u2 u3 u4 hE58
 have HV8 : Hid (RawMap w8 tb V):=Lib.hid (HV.out.1.ext K58.out)
 have HKS:=Lib.hid (keys_size HV.out.2.2 HF.out.names)
 have hsl : (S.length : Int) <= 64:=by have:=HKS.out;omega
 have hlen : ∀ ty,(Builtin.len_ #[55] ty #[.map (some tb)]).run Tryz.prog w8=.ok (.int .i64 S.length) w8:=fun ty=>by
  have:=HV8.out.len under55 ty
  rwa [HV.out.2.1.1] at this
 go_wp2_with fail
 clear hlen
 go_loopw [68] (fun i wr=>∃ j : Nat,i=.int .i64 j /\ j <= S.length /\ Ext w8 wr) (fun i _=>S.length - (intOf i).toNat)
 case atStart=>exact ⟨0,rfl,Nat.zero_le _,Ext.refl _⟩
 case round =>
  obtain ⟨j,rfl,hj,hE⟩:=hrel
  have KR:=Lib.hid hE
  clear hE
  by_cases hlt : j < S.length
  ·have hlt' : j < (sortS S).length:=by rw [sortS_len];exact hlt
   obtain ⟨tj,htj⟩ : ∃ u,u=(sortS S)[j].2:=⟨_,rfl⟩
   obtain ⟨b2,o2,k2,xa,xc,rfl,hk2,c0,c1,c2,c3,c4,c5,hx⟩:=HBn.out.2.2.get j hlt'
   rw [<- htj] at c1 c2 c3 c4 c5 hx
   have hg : getB S k2.toList=some tj:=by rw [hk2,htj];exact sortS_at j hlt'
   have hks : k2.size <= maxLen:=by
    have h1:=HV.out.2.2.2.1 _ (getB_mem S _ _ hg)
    have h2:=HNm.out _ h1
    simp only [size_toList] at h2
    unfold maxLen
    omega
   obtain ⟨ga,gc,hgx,hrz,hlk⟩:=bound_look HV8.out HV.out.2.1 HV.out.2.2 hks hg
   have hlk1:=hlk (wr.alloc (.cells #[.string k2,.string tj.kind,.bool tj.null,.string tj.text,.int .i64 tj.num,.slice xa tj.kids.length xc] 62)) (KR.out.trans (Ext.alloc _ _))
   have HEq : Hid (∀ wq,Ext w8 wq -> Calls Tryz.prog 38 #[synV tj ga gc,synV tj xa xc] wq fun e w'=>e=.returned (.bool true) /\ Ext wq w'):=Lib.hid (fun wq hq=>by
    have:=equal_calls hrz.1 hrz.1 hrz.2 (hgx.mono ((HE5.out.trans K58.out).trans hq)) (hx.mono hq)
    rwa [eqS_refl tj hrz.1] at this)
   have HG : Hid (j + 1 <= (sortS S).length /\ ∀ h : j < (sortS S).length,k2.toList=(sortS S)[j].1):=Lib.hid ⟨hlt',fun _=>hk2⟩
   replace c0:=KR.out.keep c0
   replace c1:=KR.out.keep c1
   replace c2:=KR.out.keep c2
   replace c3:=KR.out.keep c3
   replace c4:=KR.out.keep c4
   replace c5:=KR.out.keep c5
   have cl:=cell_lt c0
   clear hk2 htj hg hks hgx hrz hx hlk hlt'
   have hj64 : (j : Int) < 64:=by omega
   have fin : ∀ {w' : World},Ext wr w' -> ∃ j' : Nat,(Value.int .i64 ((j : Int) + 1))=.int .i64 j' /\ j' <= S.length /\ Ext w8 w':=fun hx=>⟨j + 1,by simp,by omega,KR.out.trans hx⟩
   have hA:=(Blk.new wr #[.string k2,.string tj.kind,.bool tj.null,.string tj.text,.int .i64 tj.num,.slice xa tj.kids.length xc] 62).ext (Ext.alloc _ (.cells #[.string tj.kind,.bool tj.null,.string tj.text,.int .i64 tj.num,.slice ga tj.kids.length gc] 52))
   have hB:=Blk.second wr (.cells #[.string k2,.string tj.kind,.bool tj.null,.string tj.text,.int .i64 tj.num,.slice xa tj.kids.length xc] 62) #[.string tj.kind,.bool tj.null,.string tj.text,.int .i64 tj.num,.slice ga tj.kids.length gc] 52
   obtain ⟨a0,a1,a2,a3,a4,a5⟩:=Blk6 hA
   obtain ⟨b0,b1,b2',b3,b4⟩:=Blk5 hB
   have HWB:=Lib.hid ((KR.out.trans (Ext.alloc _ _)).trans (Ext.alloc (wr.alloc (.cells #[.string k2,.string tj.kind,.bool tj.null,.string tj.text,.int .i64 tj.num,.slice xa tj.kids.length xc] 62)) (.cells #[.string tj.kind,.bool tj.null,.string tj.text,.int .i64 tj.num,.slice ga tj.kids.length gc] 52)))
   have HFin:=Lib.hid (fun (w' : World) (hx : Ext ((wr.alloc (.cells #[.string k2,.string tj.kind,.bool tj.null,.string tj.text,.int .i64 tj.num,.slice xa tj.kids.length xc] 62)).alloc (.cells #[.string tj.kind,.bool tj.null,.string tj.text,.int .i64 tj.num,.slice ga tj.kids.length gc] 52)) w')=>fin (((Ext.alloc wr (.cells #[.string k2,.string tj.kind,.bool tj.null,.string tj.text,.int .i64 tj.num,.slice xa tj.kids.length xc] 62)).trans (Ext.alloc _ (.cells #[.string tj.kind,.bool tj.null,.string tj.text,.int .i64 tj.num,.slice ga tj.kids.length gc] 52))).trans hx))
   clear hA hB fin
   replace a0:=Exts.cell a0
   replace a1:=Exts.cell a1
   replace a2:=Exts.cell a2
   replace a3:=Exts.cell a3
   replace a4:=Exts.cell a4
   replace a5:=Exts.cell a5
   replace b0:=Exts.cell b0
   replace b1:=Exts.cell b1
   replace b2':=Exts.cell b2'
   replace b3:=Exts.cell b3
   replace b4:=Exts.cell b4
   rcases Nat.eq_zero_or_pos j with h0 | h0
   ·subst h0
    simp only [Nat.zero_mul,Nat.add_zero] at c0 c1 c2 c3 c4 c5
    go_wp2_with fail
    refine wp_region_ext (by kernel_rfl) (by kernel_rfl) ?_
    iterate 6 (refine BigFrame.wpQuiet_want rfl (fun K hK=>?_);go_big_quiet_op;refine hK _ ?_;clear hK K)
    (refine BigFrame.wpQuiet_want rfl (fun K hK=>?_);go_big_quiet_op;refine ⟨_,fun e=>Calls.ext_of (HEq.out e.val (HWB.out.trans e.ext)),hK _ ?_⟩;clear hK K)
    iterate 6 (refine BigFrame.wpQuiet_want rfl (fun K hK=>?_);go_big_quiet_op;refine hK _ ?_;clear hK K)
    iterate 9 go_big_quiet_skip
    iterate 2 (refine BigFrame.wpQuiet_want rfl (fun K hK=>?_);go_big_quiet_op;refine hK _ ?_;clear hK K)
    refine wpQuiet_nil ?_
    intro e
    obtain ⟨w9,hE9⟩:=e
    have HX:=Lib.hid (HFin.out w9 hE9)
    clear a0 a1 a2 a3 a4 a5 b0 b1 b2' b3 b4 c0 c1 c2 c3 c4 c5 cl
    go_wp2_with fail
    exact ⟨HX.out,by simp [intOf];omega⟩
   ·obtain ⟨i,rfl⟩ : ∃ i,j=i + 1:=⟨j - 1,by omega⟩
    have hli : i < (sortS S).length:=by have:=HG.out.1;omega
    obtain ⟨b3',o3,k3,ya,yc,e3,hk3,d0,-,-,-,-,-,-⟩:=HBn.out.2.2.get i hli
    cases e3
    have hge:=names_less (k:=k2) (k':=k3) (by rw [HG.out.2 HG.out.1,hk3];exact sortS_lt HV.out.2.2.1 i HG.out.1) 9
    have d1:=HWB.out.keep d0
    have dl:=cell_lt d1
    replace d1:=Exts.cell d1
    clear d0 hk3 hli
    go_wp2_with fail
    refine wp_region_ext (by kernel_rfl) (by kernel_rfl) ?_
    iterate 6 (refine BigFrame.wpQuiet_want rfl (fun K hK=>?_);go_big_quiet_op;refine hK _ ?_;clear hK K)
    (refine BigFrame.wpQuiet_want rfl (fun K hK=>?_);go_big_quiet_op;refine ⟨_,fun e=>Calls.ext_of (HEq.out e.val (HWB.out.trans e.ext)),hK _ ?_⟩;clear hK K)
    iterate 6 (refine BigFrame.wpQuiet_want rfl (fun K hK=>?_);go_big_quiet_op;refine hK _ ?_;clear hK K)
    iterate 9 (refine BigFrame.wpQuiet_want rfl (fun K hK=>?_);go_big_quiet_op;refine hK _ ?_;clear hK K)
    iterate 2 (refine BigFrame.wpQuiet_want rfl (fun K hK=>?_);go_big_quiet_op;refine hK _ ?_;clear hK K)
    refine wpQuiet_nil ?_
    intro e
    obtain ⟨w9,hE9⟩:=e
    have HX:=Lib.hid (HFin.out w9 hE9)
    clear a0 a1 a2 a3 a4 a5 b0 b1 b2' b3 b4 c0 c1 c2 c3 c4 c5 cl
    go_wp2_with fail
    exact ⟨HX.out,by simp [intOf];omega⟩
  ·obtain rfl : j=S.length:=by omega
   go_wp2_with fail
   refine (HAl.out _ (KE.out.trans KR.out)).mono ?_
   rintro e w9 ⟨rfl,hE9⟩
   have KF:=Lib.hid ((KE.out.trans KR.out).trans hE9)
   clear hE9
   go_wp2_with fail
   go_ret
   exact ⟨rfl,KF.out⟩
end Go.Proofs.YtigalkobmfbdaaaGreatDoor
