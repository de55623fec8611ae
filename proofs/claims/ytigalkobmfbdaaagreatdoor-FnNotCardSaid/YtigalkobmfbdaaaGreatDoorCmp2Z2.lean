/- matchAST: the walk. -/
import Derived.Test.YtigalkobmfbdaaaGreatDoorMix2m
set_option linter.unusedVariables false
set_option linter.unusedSimpArgs false
set_option maxRecDepth 100000
set_option maxHeartbeats 4000000
namespace Go.Proofs.YtigalkobmfbdaaaGreatDoor
open Go.RowKit
theorem node_tests : ∀ k ∈ expressions ++ statements,(k.toList == [115,116,114,105,110,103])=false /\ (k.toList == [84,111,107,101,110])=false /\ (k.toList == [67,104,97,110,68,105,114])=false /\ (k.toList == [98,111,111,108])=false /\ (decide (2 < k.size) && (k.extract 0 2).toList == [91,93])=false /\ k.size <= 100:=by decide +kernel
theorem is_list_no {w : World} {b : Nat} {k : ByteArray} (h0 : w.cell? ⟨b,0,none⟩=some (.string k)) (hk : k.size <= 100000) (h : (decide (2 < k.size) && (k.extract 0 2).toList == [91,93])=false) : Calls Tryz.prog 147 #[.pointer (some ⟨b,0,none⟩)] w fun e w'=>e=.returned (.bool false) /\ w'=w:=by
 have:=is_list h0 hk
 rw [h] at this
 exact this
theorem is_list_yes {w : World} {b : Nat} {k : ByteArray} (h0 : w.cell? ⟨b,0,none⟩=some (.string k)) (hk : k.size <= 100000) (h : (decide (2 < k.size) && (k.extract 0 2).toList == [91,93])=true) : Calls Tryz.prog 147 #[.pointer (some ⟨b,0,none⟩)] w fun e w'=>e=.returned (.bool true) /\ w'=w:=by
 have:=is_list h0 hk
 rw [h] at this
 exact this
theorem PtrIn.blk' {X : Nat -> Prop} {w : World} {p : Option Addr} {t : Syn} (h : PtrIn X w (.pointer p) t) (hk : t.kind.toList ≠ []) :
  ∃ b a c,p=some ⟨b,0,none⟩ /\ b < w.heap.size /\ w.cell? ⟨b,0,none⟩=some (.string t.kind) /\ w.cell? ⟨b,1,none⟩=some (.bool t.null) /\ w.cell? ⟨b,2,none⟩=some (.string t.text) /\ w.cell? ⟨b,3,none⟩=some (.int .i64 t.num) /\ w.cell? ⟨b,4,none⟩=some (.slice a t.kids.length c) /\ t.kids.length <= c /\ PtrsIn X w a t.kids:=by
 obtain ⟨b,a,c,e,-,hb,h0,h1,h2,h3,h4,hc,hP⟩:=h.blk hk
 exact ⟨b,a,c,by simpa using e,hb,h0,h1,h2,h3,h4,hc,hP⟩
theorem sizeSs_len (ks : List Syn) : ks.length <= sizeSs ks:=by
 induction ks with
 | nil=>simp
 | cons t ts ih=>simp only [List.length_cons,sizeSs];omega
theorem node_ne : ∀ k ∈ expressions ++ statements,k.toList ≠ []:=by decide +kernel
theorem ast_other {k k' : ByteArray} (h : (k.toList == k'.toList)=false) {mb lb rb : Nat} {w : World} (l0 : w.cell? ⟨lb,0,none⟩=some (.string k)) (r0 : w.cell? ⟨rb,0,none⟩=some (.string k')) :
  Calls Tryz.prog 128 #[.pointer (some ⟨mb,0,none⟩),.pointer (some ⟨lb,0,none⟩),.pointer (some ⟨rb,0,none⟩)] w fun e w'=>e=.returned (.tuple #[.pointer none,.bool false]) /\ Ext w w':=by
 have lt1:=cell_lt l0
 have lt2:=cell_lt r0
 go_enter Tryz.func128,Tryz.ntmps128
 go_wp2_with fail
 go_quiet (fail)
 go_wp2_with fail
 go_ret2
 exact ⟨rfl,Ext.drewN _ _⟩
theorem ast_walk {N : Nat} (hNb : N <= 100000) (ih : CmpIH N) {k : ByteArray} {xs ys : List Syn} (hk : k ∈ expressions ++ statements) (hx : xs.length=(asked k).size) (hy : ys.length=(asked k).size) (hax : rightArgs xs (asked k).toList k=true) (hay : rightArgs ys (asked k).toList k=true) (hN : sizeSs xs + sizeSs ys < N) (hmix : mixL xs ys=false) {X : Nat -> Prop} {mb lb rb : Nat} {la ra : Option Addr} {lc rc : Nat} {w : World} (m3 : w.cell? ⟨mb,3,none⟩=some (.bool false))
  (l0 : w.cell? ⟨lb,0,none⟩=some (.string k)) (l1 : w.cell? ⟨lb,1,none⟩=some (.bool false)) (l4 : w.cell? ⟨lb,4,none⟩=some (.slice la xs.length lc)) (hlc : xs.length <= lc) (hL : PtrsIn X w la xs)
  (r0 : w.cell? ⟨rb,0,none⟩=some (.string k)) (r1 : w.cell? ⟨rb,1,none⟩=some (.bool false)) (r4 : w.cell? ⟨rb,4,none⟩=some (.slice ra ys.length rc)) (hrc : ys.length <= rc) (hR : PtrsIn X w ra ys) :
  Calls Tryz.prog 128 #[.pointer (some ⟨mb,0,none⟩),.pointer (some ⟨lb,0,none⟩),.pointer (some ⟨rb,0,none⟩)] w fun e w'=>(∃ p,e=.returned (.tuple #[.pointer p,.bool (eqL xs ys)]) /\ (eqL xs ys=true -> p=some ⟨rb,0,none⟩)) /\ Ext w w':=by
 have HZ:=Lib.hid (zfields_calls k)
 have hself:=beq_self_eq_true k.toList
 have hxf : xs.length=(zfields k).length:=by rw [hx,(zfields_ok k hk).1]
 have hyf : ys.length=(zfields k).length:=by rw [hy,(zfields_ok k hk).1]
 have hfs5:=zfields_small k
 have HP : Hid (∀ (j : Nat) (h1 : j < xs.length) (h2 : j < ys.length),Pair xs[j] ys[j] /\ RS xs[j] /\ RS ys[j] /\ mixC xs[j] ys[j]=false /\ sizeS xs[j] + sizeS ys[j] < N):=Lib.hid (fun j h1 h2=>by
  have hjl : j < (asked k).toList.length:=by rw [size_toList];omega
  refine ⟨pair_of (asked_letters k _ (List.getElem_mem hjl)) (rightArgs_get _ _ _ hax j h1 hjl) (rightArgs_get _ _ _ hay j h2 hjl),RS.args hx hax j h1,RS.args hy hay j h2,mixL_no xs ys j h1 h2 hmix,?_⟩
  have:=sizeS_kid xs j h1
  have:=sizeS_kid ys j h2
  omega)
 have HND:=Lib.hid (zfields_ok k hk).2
 have HK:=Lib.hid (And.intro hL hR)
 have HI:=Lib.hid ih
 clear hL hR hx hy hax hay hmix hN ih hk
 have lt1:=cell_lt l0
 have lt2:=cell_lt r0
 generalize hfe : zfields k=fs at *
 have HFE:=Lib.hid hfe
 clear hfe
 go_enter Tryz.func128,Tryz.ntmps128
 go_wp2_with fail
 go_quiet (fail)
 go_wp2_with fail
 refine (HZ.out _).mono ?_
 rintro e w1 ⟨fa,fc,rfl,hfc,hfc2,hfs,hE1⟩
 have HS:=Lib.hid hfs
 have hE:=(Ext.drewN _ _).trans hE1
 have HE:=Lib.hid hE
 clear hfs hE1
 replace m3:=hE.keep m3
 replace l0:=hE.keep l0
 replace l4:=hE.keep l4
 replace r0:=hE.keep r0
 replace r4:=hE.keep r4
 clear hE l1 r1
 go_wp2_with fail
 go_loopw [51] (fun i wr=>∃ j : Nat,i=.int .i64 j /\ j <= xs.length /\ Ext w1 wr /\ Hid (eqL (xs.take j) (ys.take j)=true)) (fun i _=>xs.length - (intOf i).toNat)
 case atStart=>exact ⟨0,rfl,Nat.zero_le _,Ext.refl _,Lib.hid (by simp [eqL])⟩
 case round =>
  obtain ⟨j,rfl,hj,hEr,hT⟩:=hrel
  by_cases hlt : j < xs.length
  ·have hlt2 : j < ys.length:=by omega
   obtain ⟨fb,fo,rfl,hfb,hfcell⟩:=HS.out j (by omega)
   obtain ⟨g,o,v,rfl,-,hcell,hpt⟩:=HK.out.1.get j hlt
   obtain ⟨p,rfl⟩:=ptr_shape hpt
   obtain ⟨g',o',v',rfl,-,hcell',hpt'⟩:=HK.out.2.get j hlt2
   obtain ⟨p',rfl⟩:=ptr_shape hpt'
   have hEw:=HE.out.trans hEr
   replace hpt:=hpt.mono (hEw.keeps X)
   replace hpt':=hpt'.mono (hEw.keeps X)
   replace hcell:=hEw.keep hcell
   replace hcell':=hEw.keep hcell'
   replace m3:=hEr.keep m3
   replace l0:=hEr.keep l0
   replace l4:=hEr.keep l4
   replace r0:=hEr.keep r0
   replace r4:=hEr.keep r4
   replace hfcell:=hEr.keep hfcell
   replace hfb:=Nat.lt_of_lt_of_le hfb hEr.size
   have HF:=Lib.hid (show (zfields k)[j]?=some fs[j] by rw [HFE.out];exact List.getElem?_eq_getElem (by omega))
   have HN1 : Hid (∀ i < j,(zfields k)[i]? ≠ some fs[j]):=Lib.hid (by rw [HFE.out];exact first_field HND.out (j:=j) (by omega))
   have HQ:=Lib.hid (And.intro hpt hpt')
   have HJ:=Lib.hid (HP.out j hlt hlt2)
   clear hpt hpt'
   generalize fs[j]=nm at *
   go_wp2_with fail
   refine (zz_field l0 l4 hlc (by omega) hlt hcell HF.out HN1.out).mono ?_
   rintro e w2 ⟨rfl,hE2⟩
   replace m3:=hE2.keep m3
   replace l0:=hE2.keep l0
   replace l4:=hE2.keep l4
   replace r0:=hE2.keep r0
   replace r4:=hE2.keep r4
   replace hcell:=hE2.keep hcell
   replace hcell':=hE2.keep hcell'
   have K2:=Lib.hid hE2
   clear hE2 hfcell hfb
   go_wp2_with fail
   refine (zz_field r0 r4 hrc (by omega) hlt2 hcell' HF.out HN1.out).mono ?_
   rintro e w3 ⟨rfl,hE3⟩
   replace m3:=hE3.keep m3
   replace l0:=hE3.keep l0
   replace l4:=hE3.keep l4
   replace r0:=hE3.keep r0
   replace r4:=hE3.keep r4
   replace hcell:=hE3.keep hcell
   replace hcell':=hE3.keep hcell'
   have K3:=Lib.hid (K2.out.trans hE3)
   clear hE3 K2
   have hq:=HQ.out.1.mono (K3.out.keeps X)
   have hq':=HQ.out.2.mono (K3.out.keeps X)
   have hpair:=HJ.out.1
   have hstep:=eqL_take xs ys j hlt hlt2
   have hno:=eqL_no xs ys j hlt hlt2
   have HM:=Lib.hid (And.intro hstep hno)
   clear hstep hno HQ
   generalize xs[j]=x at *
   generalize ys[j]=y at *
   cases hpair with
   | lists k2 nl nl' xs2 ys2 hk2 hxs2 hys2 =>
    have hne2 : k2.toList ≠ []:=by rcases hk2 with rfl | rfl <;> decide +kernel
    obtain ⟨b1,a1,c1,rfl,lb1,p0,p1,p2,p3,p4,hc1,hP1⟩:=hq.blk' (by rw [skind_mk];exact hne2)
    obtain ⟨b2,a2,c2,rfl,lb2,q0,q1,q2,q3,q4,hc2,hP2⟩:=hq'.blk' (by rw [skind_mk];exact hne2)
    simp only [skind_mk,snull_mk,stext_mk,snum_mk,skids_mk] at p0 p1 p2 p3 p4 q0 q1 q2 q3 q4 hc1 hc2 hP1 hP2
    have HQ:=Lib.hid (And.intro hP1 hP2)
    have HB:=Lib.hid (eqS_list k2 hk2 nl nl' xs2 ys2)
    have hmx:=HJ.out.2.2.2.1
    have hsz:=HJ.out.2.2.2.2
    rw [mixC_list k2 hk2] at hmx
    rw [sizeS_mk,sizeS_mk] at hsz
    have hb2 : xs2.length <= 100000:=by have:=sizeSs_len xs2;omega
    have HX:=Lib.hid (And.intro hmx (And.intro hsz (And.intro hxs2 hys2)))
    have HY : Hid (decide (2 < k2.size) && (k2.extract 0 2).toList == [91,93]):=Lib.hid (by rcases hk2 with rfl | rfl <;> decide +kernel)
    have hz2 : k2.size <= 100000:=by rcases hk2 with rfl | rfl <;> decide
    clear hP1 hP2 hmx hsz hxs2 hys2 hne2 hk2 hq hq' p1 p2 p3 q1 q2 q3
    go_wp2_with fail
    refine (is_list_yes p0 hz2 HY.out).mono ?_
    rintro e w4 ⟨rfl,rfl⟩
    go_wp2_with fail
    refine (is_list_yes q0 hz2 HY.out).mono ?_
    rintro e w4 ⟨rfl,rfl⟩
    by_cases hlen : xs2.length=ys2.length
    ·have hlen' : ((xs2.length : Int) == (ys2.length : Int))=true:=by rw [beq_iff_eq];omega
     go_wp2_with fail
     go_quiet (fail)
     go_wp2_with fail
     have hE5:=Ext.drewN w4 nq
     generalize w4.drewN nq=w5 at *
     replace m3:=hE5.keep m3
     replace l0:=hE5.keep l0
     replace l4:=hE5.keep l4
     replace r0:=hE5.keep r0
     replace r4:=hE5.keep r4
     replace p4:=hE5.keep p4
     replace q4:=hE5.keep q4
     have K5:=Lib.hid hE5
     clear hE5 p0 q0
     go_loopw [114] (fun i2 w'=>∃ j2 : Nat,i2=.int .i64 j2 /\ j2 <= xs2.length /\ Ext w5 w' /\ Hid (eqL (xs2.take j2) (ys2.take j2)=true)) (fun i2 _=>xs2.length - (intOf i2).toNat)
     case atStart=>exact ⟨0,rfl,Nat.zero_le _,Ext.refl _,Lib.hid (by simp [eqL])⟩
     case round =>
      obtain ⟨j2,rfl,hj2,hEr2,hT2⟩:=hrel
      replace m3:=hEr2.keep m3
      replace l0:=hEr2.keep l0
      replace l4:=hEr2.keep l4
      replace r0:=hEr2.keep r0
      replace r4:=hEr2.keep r4
      replace p4:=hEr2.keep p4
      replace q4:=hEr2.keep q4
      have K6:=Lib.hid (K5.out.trans hEr2)
      by_cases hlt3 : j2 < xs2.length
      ·have hlt4 : j2 < ys2.length:=by omega
       obtain ⟨g1,o1,v1,rfl,-,kc1,kp1⟩:=HQ.out.1.get j2 hlt3
       obtain ⟨z1,rfl⟩:=ptr_shape kp1
       obtain ⟨g2,o2,v2,rfl,-,kc2,kp2⟩:=HQ.out.2.get j2 hlt4
       obtain ⟨z2,rfl⟩:=ptr_shape kp2
       replace kc1:=K6.out.keep kc1
       replace kc2:=K6.out.keep kc2
       have hx3:=HX.out.2.2.1 _ (List.getElem_mem hlt3)
       have hy3:=HX.out.2.2.2 _ (List.getElem_mem hlt4)
       have HC2:=Lib.hid (HI.out xs2[j2] ys2[j2] (by have:=sizeS_kid xs2 j2 hlt3;have:=sizeS_kid ys2 j2 hlt4;have:=HX.out.2.1;omega) hx3.1 hy3.1 (leaf_of_other (.inr hx3.2)) (leaf_of_other (.inr hy3.2)) (mixL_no xs2 ys2 j2 hlt3 hlt4 HX.out.1))
       have HQ2:=Lib.hid (And.intro (kp1.mono (K6.out.keeps X)) (kp2.mono (K6.out.keeps X)))
       have HM2:=Lib.hid (And.intro (eqL_take xs2 ys2 j2 hlt3 hlt4) (eqL_no xs2 ys2 j2 hlt3 hlt4))
       clear kp1 kp2 hx3 hy3
       generalize xs2[j2]=x2 at *
       generalize ys2[j2]=y2 at *
       cases hb : eqS x2 y2
       ·go_wp2_with fail
        go_region_held3 (fun w'=>w'.cell? ⟨mb,3,none⟩=some (.bool false) /\ w'.cell? ⟨b1,4,none⟩=some (.slice (some ⟨g1,o1,none⟩) xs2.length c1) /\ w'.cell? ⟨b2,4,none⟩=some (.slice (some ⟨g2,o2,none⟩) ys2.length c2) /\ w'.cell? ⟨g1,o1 + j2,none⟩=some (.pointer z1) /\ w'.cell? ⟨g2,o2 + j2,none⟩=some (.pointer z2)) (go_keep)
         (first
          | (go_at_call 95;refine (HC2.out X mb _ _ _ ((Ext.drew _).keep m3) (HQ2.out.1.mono ((Ext.drew _).keeps X)) (HQ2.out.2.mono ((Ext.drew _).keeps X))).mono ?_;rintro e w7 ⟨⟨q,rfl,hq1⟩,hE7⟩;have K7:=Lib.hid ((Ext.drew _).trans hE7);have k1:=K7.out.keep m3;have k2:=K7.out.keep p4;have k3:=K7.out.keep q4;have k4:=K7.out.keep kc1;have k5:=K7.out.keep kc2;rw [hb];clear hE7 hq1))
        go_wp2_with fail
        go_ret2
        rw [HM.out.2 (by rw [HB.out,HM2.out.2 hb,Bool.and_false])]
        exact ⟨⟨_,rfl,fun h=>by cases h⟩,HE.out.trans (hEr.trans (K3.out.trans (K6.out.trans K7.out)))⟩
       ·go_wp2_with fail
        go_region_held3 (fun w'=>w'.cell? ⟨mb,3,none⟩=some (.bool false) /\ w'.cell? ⟨b1,4,none⟩=some (.slice (some ⟨g1,o1,none⟩) xs2.length c1) /\ w'.cell? ⟨b2,4,none⟩=some (.slice (some ⟨g2,o2,none⟩) ys2.length c2) /\ w'.cell? ⟨g1,o1 + j2,none⟩=some (.pointer z1) /\ w'.cell? ⟨g2,o2 + j2,none⟩=some (.pointer z2)) (go_keep)
         (first
          | (go_at_call 95;refine (HC2.out X mb _ _ _ ((Ext.drew _).keep m3) (HQ2.out.1.mono ((Ext.drew _).keeps X)) (HQ2.out.2.mono ((Ext.drew _).keeps X))).mono ?_;rintro e w7 ⟨⟨q,rfl,hq1⟩,hE7⟩;have K7:=Lib.hid ((Ext.drew _).trans hE7);have k1:=K7.out.keep m3;have k2:=K7.out.keep p4;have k3:=K7.out.keep q4;have k4:=K7.out.keep kc1;have k5:=K7.out.keep kc2;rw [hb];clear hE7 hq1))
        go_wp2_with fail
        exact ⟨⟨j2 + 1,by go_num,by omega,hEr2.trans K7.out,Lib.hid (by rw [HM2.out.1,hT2.out,hb];rfl)⟩,by simp [intOf];omega⟩
      ·obtain rfl : j2=xs2.length:=by omega
       have hb : Hid (eqS (.mk k2 nl ⟨#[]⟩ 0 xs2) (.mk k2 nl' ⟨#[]⟩ 0 ys2)=true):=Lib.hid (by
        have h1:=hT2.out
        rw [List.take_of_length_le (Nat.le_refl _),List.take_of_length_le (by omega)] at h1
        rw [HB.out,h1,hlen];simp)
       go_wp2_with fail
       exact ⟨⟨j + 1,by go_num,by omega,hEr.trans (K3.out.trans K6.out),Lib.hid (by rw [HM.out.1,hT.out,hb.out];rfl)⟩,by simp [intOf];omega⟩
    ·have hlen' : ((xs2.length : Int) == (ys2.length : Int))=false:=by rw [beq_eq_false_iff_ne];omega
     have hb : Hid (eqS (.mk k2 nl ⟨#[]⟩ 0 xs2) (.mk k2 nl' ⟨#[]⟩ 0 ys2)=false):=Lib.hid (by rw [HB.out,beq_eq_false_iff_ne.2 hlen,Bool.false_and])
     go_wp2_with fail
     go_quiet (fail)
     go_wp2_with fail
     go_ret2
     rw [HM.out.2 hb.out]
     exact ⟨⟨_,rfl,fun h=>by cases h⟩,HE.out.trans (hEr.trans (K3.out.trans (Ext.drewN _ _)))⟩
   | text k2 t1 t2 hk2 =>
    have hne2 : k2.toList ≠ []:=by rcases hk2 with rfl | rfl <;> decide +kernel
    obtain ⟨b1,a1,c1,rfl,lb1,p0,p1,p2,p3,p4,-,-⟩:=hq.blk' (by rw [skind_mk];exact hne2)
    obtain ⟨b2,a2,c2,rfl,lb2,q0,q1,q2,q3,q4,-,-⟩:=hq'.blk' (by rw [skind_mk];exact hne2)
    simp only [skind_mk,snull_mk,stext_mk,snum_mk,skids_mk] at p0 p1 p2 p3 p4 q0 q1 q2 q3 q4
    have hb:=eqS_leaf k2 (by rcases hk2 with rfl | rfl <;> decide +kernel) t1 t2 0 0
    cases ht : (t1.toList == t2.toList)
    ·rw [ht,Bool.false_and] at hb
     have HB:=Lib.hid hb
     clear hb
     rcases hk2 with rfl | rfl
     all_goals
      go_wp2_with fail
      refine (is_list_no p0 (by decide) (by decide +kernel)).mono ?_
      rintro e w4 ⟨rfl,rfl⟩
      go_wp2_with fail
      go_quiet (fail)
      go_wp2_with fail
      go_ret2
      rw [HM.out.2 HB.out]
      exact ⟨⟨_,rfl,fun h=>by cases h⟩,HE.out.trans (hEr.trans (K3.out.trans (Ext.drewN _ _)))⟩
    ·rw [ht,Bool.true_and] at hb
     have HB:=Lib.hid hb
     clear hb
     rcases hk2 with rfl | rfl
     all_goals
      go_wp2_with fail
      refine (is_list_no p0 (by decide) (by decide +kernel)).mono ?_
      rintro e w4 ⟨rfl,rfl⟩
      go_wp2_with fail
      go_quiet (fail)
      go_wp2_with fail
      exact ⟨⟨j + 1,by go_num,by omega,hEr.trans (K3.out.trans (Ext.drewN _ _)),Lib.hid (by rw [HM.out.1,hT.out,HB.out];rfl)⟩,by simp [intOf];omega⟩
   | bool m n =>
    obtain ⟨b1,a1,c1,rfl,lb1,p0,p1,p2,p3,p4,-,-⟩:=hq.blk' (by rw [skind_mk];decide +kernel)
    obtain ⟨b2,a2,c2,rfl,lb2,q0,q1,q2,q3,q4,-,-⟩:=hq'.blk' (by rw [skind_mk];decide +kernel)
    simp only [skind_mk,snull_mk,stext_mk,snum_mk,skids_mk] at p0 p1 p2 p3 p4 q0 q1 q2 q3 q4
    have hb:=eqS_leaf ⟨#[98,111,111,108]⟩ (by decide +kernel) ⟨#[]⟩ ⟨#[]⟩ m n
    rw [beq_self_eq_true,Bool.true_and] at hb
    cases ht : (m == n)
    ·rw [ht] at hb
     have HB:=Lib.hid hb
     clear hb
     go_wp2_with fail
     refine (is_list_no p0 (by decide) (by decide +kernel)).mono ?_
     rintro e w4 ⟨rfl,rfl⟩
     go_wp2_with fail
     go_quiet (fail)
     go_wp2_with fail
     go_ret2
     rw [HM.out.2 HB.out]
     exact ⟨⟨_,rfl,fun h=>by cases h⟩,HE.out.trans (hEr.trans (K3.out.trans (Ext.drewN _ _)))⟩
    ·rw [ht] at hb
     have HB:=Lib.hid hb
     clear hb
     go_wp2_with fail
     refine (is_list_no p0 (by decide) (by decide +kernel)).mono ?_
     rintro e w4 ⟨rfl,rfl⟩
     go_wp2_with fail
     go_quiet (fail)
     go_wp2_with fail
     exact ⟨⟨j + 1,by go_num,by omega,hEr.trans (K3.out.trans (Ext.drewN _ _)),Lib.hid (by rw [HM.out.1,hT.out,HB.out];rfl)⟩,by simp [intOf];omega⟩
   | other x y hx1 hy1 =>
    have HC:=Lib.hid (HI.out x y HJ.out.2.2.2.2 HJ.out.2.1 HJ.out.2.2.1 (leaf_of_other hx1) (leaf_of_other hy1) HJ.out.2.2.2.1)
    rcases hx1 with hx1 | hx1
    ·obtain rfl : p=none:=by simpa using hq.nil hx1
     cases hb : eqS x y
     ·go_wp2_with fail
      go_region_held3 (fun w'=>w'.cell? ⟨mb,3,none⟩=some (.bool false) /\ w'.cell? ⟨lb,4,none⟩=some (.slice (some ⟨g,o,none⟩) xs.length lc) /\ w'.cell? ⟨rb,4,none⟩=some (.slice (some ⟨g',o',none⟩) ys.length rc) /\ w'.cell? ⟨g,o + j,none⟩=some (.pointer none) /\ w'.cell? ⟨g',o' + j,none⟩=some (.pointer p')) (go_keep)
       (first
        | (go_at_call 95;refine (HC.out X mb _ _ _ ((Ext.drew _).keep m3) (hq.mono ((Ext.drew _).keeps X)) (hq'.mono ((Ext.drew _).keeps X))).mono ?_;rintro e w4 ⟨⟨q,rfl,hq1⟩,hE4⟩;have K4:=Lib.hid ((Ext.drew _).trans hE4);have k1:=K4.out.keep m3;have k2:=K4.out.keep l4;have k3:=K4.out.keep r4;have k4:=K4.out.keep hcell;have k5:=K4.out.keep hcell';rw [hb];clear hE4 hq1))
      go_wp2_with fail
      go_ret2
      rw [HM.out.2 hb]
      exact ⟨⟨_,rfl,fun h=>by cases h⟩,HE.out.trans (hEr.trans (K3.out.trans K4.out))⟩
     ·go_wp2_with fail
      go_region_held3 (fun w'=>w'.cell? ⟨mb,3,none⟩=some (.bool false) /\ w'.cell? ⟨lb,4,none⟩=some (.slice (some ⟨g,o,none⟩) xs.length lc) /\ w'.cell? ⟨rb,4,none⟩=some (.slice (some ⟨g',o',none⟩) ys.length rc) /\ w'.cell? ⟨g,o + j,none⟩=some (.pointer none) /\ w'.cell? ⟨g',o' + j,none⟩=some (.pointer p')) (go_keep)
       (first
        | (go_at_call 95;refine (HC.out X mb _ _ _ ((Ext.drew _).keep m3) (hq.mono ((Ext.drew _).keeps X)) (hq'.mono ((Ext.drew _).keeps X))).mono ?_;rintro e w4 ⟨⟨q,rfl,hq1⟩,hE4⟩;have K4:=Lib.hid ((Ext.drew _).trans hE4);have k1:=K4.out.keep m3;have k2:=K4.out.keep l4;have k3:=K4.out.keep r4;have k4:=K4.out.keep hcell;have k5:=K4.out.keep hcell';rw [hb];clear hE4 hq1))
      go_wp2_with fail
      exact ⟨⟨j + 1,by go_num,by omega,hEr.trans (K3.out.trans K4.out),Lib.hid (by rw [HM.out.1,hT.out,hb];rfl)⟩,by simp [intOf];omega⟩
    ·obtain ⟨b1,a1,c1,rfl,lb1,p0,p1,p2,p3,p4,-,-⟩:=hq.blk' (node_ne _ (nodeK_mem hx1))
     obtain ⟨n1,n2,n3,n4,hnl,hsz⟩:=node_tests _ (nodeK_mem hx1)
     rcases hy1 with hy1 | hy1
     ·obtain rfl : p'=none:=by simpa using hq'.nil hy1
      cases hb : eqS x y
      ·go_wp2_with fail
       go_region_held3 (fun w'=>w'.cell? ⟨mb,3,none⟩=some (.bool false) /\ w'.cell? ⟨lb,4,none⟩=some (.slice (some ⟨g,o,none⟩) xs.length lc) /\ w'.cell? ⟨rb,4,none⟩=some (.slice (some ⟨g',o',none⟩) ys.length rc) /\ w'.cell? ⟨g,o + j,none⟩=some (.pointer (some ⟨b1,0,none⟩)) /\ w'.cell? ⟨g',o' + j,none⟩=some (.pointer none)) (go_keep)
        (first
         | (go_at_call 95;refine (HC.out X mb _ _ _ ((Ext.drew _).keep m3) (hq.mono ((Ext.drew _).keeps X)) (hq'.mono ((Ext.drew _).keeps X))).mono ?_;rintro e w4 ⟨⟨q,rfl,hq1⟩,hE4⟩;have K4:=Lib.hid ((Ext.drew _).trans hE4);have k1:=K4.out.keep m3;have k2:=K4.out.keep l4;have k3:=K4.out.keep r4;have k4:=K4.out.keep hcell;have k5:=K4.out.keep hcell';rw [hb];clear hE4 hq1))
       go_wp2_with fail
       go_ret2
       rw [HM.out.2 hb]
       exact ⟨⟨_,rfl,fun h=>by cases h⟩,HE.out.trans (hEr.trans (K3.out.trans K4.out))⟩
      ·go_wp2_with fail
       go_region_held3 (fun w'=>w'.cell? ⟨mb,3,none⟩=some (.bool false) /\ w'.cell? ⟨lb,4,none⟩=some (.slice (some ⟨g,o,none⟩) xs.length lc) /\ w'.cell? ⟨rb,4,none⟩=some (.slice (some ⟨g',o',none⟩) ys.length rc) /\ w'.cell? ⟨g,o + j,none⟩=some (.pointer (some ⟨b1,0,none⟩)) /\ w'.cell? ⟨g',o' + j,none⟩=some (.pointer none)) (go_keep)
        (first
         | (go_at_call 95;refine (HC.out X mb _ _ _ ((Ext.drew _).keep m3) (hq.mono ((Ext.drew _).keeps X)) (hq'.mono ((Ext.drew _).keeps X))).mono ?_;rintro e w4 ⟨⟨q,rfl,hq1⟩,hE4⟩;have K4:=Lib.hid ((Ext.drew _).trans hE4);have k1:=K4.out.keep m3;have k2:=K4.out.keep l4;have k3:=K4.out.keep r4;have k4:=K4.out.keep hcell;have k5:=K4.out.keep hcell';rw [hb];clear hE4 hq1))
       go_wp2_with fail
       exact ⟨⟨j + 1,by go_num,by omega,hEr.trans (K3.out.trans K4.out),Lib.hid (by rw [HM.out.1,hT.out,hb];rfl)⟩,by simp [intOf];omega⟩
     ·obtain ⟨b2,a2,c2,rfl,lb2,q0,q1,q2,q3,q4,-,-⟩:=hq'.blk' (node_ne _ (nodeK_mem hy1))
      cases hb : eqS x y
      ·go_wp2_with fail
       refine (is_list_no p0 (by omega) hnl).mono ?_
       rintro e w4 ⟨rfl,rfl⟩
       go_wp2_with fail
       go_region_held3 (fun w'=>w'.cell? ⟨mb,3,none⟩=some (.bool false) /\ w'.cell? ⟨lb,4,none⟩=some (.slice (some ⟨g,o,none⟩) xs.length lc) /\ w'.cell? ⟨rb,4,none⟩=some (.slice (some ⟨g',o',none⟩) ys.length rc) /\ w'.cell? ⟨g,o + j,none⟩=some (.pointer (some ⟨b1,0,none⟩)) /\ w'.cell? ⟨g',o' + j,none⟩=some (.pointer (some ⟨b2,0,none⟩))) (go_keep)
        (first
         | (go_at_call 95;refine (HC.out X mb _ _ _ ((Ext.drew _).keep m3) (hq.mono ((Ext.drew _).keeps X)) (hq'.mono ((Ext.drew _).keeps X))).mono ?_;rintro e w4 ⟨⟨q,rfl,hq1⟩,hE4⟩;have K4:=Lib.hid ((Ext.drew _).trans hE4);have k1:=K4.out.keep m3;have k2:=K4.out.keep l4;have k3:=K4.out.keep r4;have k4:=K4.out.keep hcell;have k5:=K4.out.keep hcell';rw [hb];clear hE4 hq1))
       go_wp2_with fail
       go_ret2
       rw [HM.out.2 hb]
       exact ⟨⟨_,rfl,fun h=>by cases h⟩,HE.out.trans (hEr.trans (K3.out.trans K4.out))⟩
      ·go_wp2_with fail
       refine (is_list_no p0 (by omega) hnl).mono ?_
       rintro e w4 ⟨rfl,rfl⟩
       go_wp2_with fail
       go_region_held3 (fun w'=>w'.cell? ⟨mb,3,none⟩=some (.bool false) /\ w'.cell? ⟨lb,4,none⟩=some (.slice (some ⟨g,o,none⟩) xs.length lc) /\ w'.cell? ⟨rb,4,none⟩=some (.slice (some ⟨g',o',none⟩) ys.length rc) /\ w'.cell? ⟨g,o + j,none⟩=some (.pointer (some ⟨b1,0,none⟩)) /\ w'.cell? ⟨g',o' + j,none⟩=some (.pointer (some ⟨b2,0,none⟩))) (go_keep)
        (first
         | (go_at_call 95;refine (HC.out X mb _ _ _ ((Ext.drew _).keep m3) (hq.mono ((Ext.drew _).keeps X)) (hq'.mono ((Ext.drew _).keeps X))).mono ?_;rintro e w4 ⟨⟨q,rfl,hq1⟩,hE4⟩;have K4:=Lib.hid ((Ext.drew _).trans hE4);have k1:=K4.out.keep m3;have k2:=K4.out.keep l4;have k3:=K4.out.keep r4;have k4:=K4.out.keep hcell;have k5:=K4.out.keep hcell';rw [hb];clear hE4 hq1))
       go_wp2_with fail
       exact ⟨⟨j + 1,by go_num,by omega,hEr.trans (K3.out.trans K4.out),Lib.hid (by rw [HM.out.1,hT.out,hb];rfl)⟩,by simp [intOf];omega⟩
  ·obtain rfl : j=xs.length:=by omega
   have hall : Hid (eqL xs ys=true):=Lib.hid (by
    have:=hT.out
    rwa [List.take_of_length_le (Nat.le_refl _),List.take_of_length_le (by omega)] at this)
   go_wp2_with fail
   go_ret2
   rw [hall.out]
   exact ⟨⟨_,rfl,fun _=>rfl⟩,HE.out.trans hEr⟩
end Go.Proofs.YtigalkobmfbdaaaGreatDoor
