/- The reference's Match: names. -/
import Derived.Test.YtigalkobmfbdaaaGreatDoorMix2x
set_option linter.unusedVariables false
set_option linter.unusedSimpArgs false
set_option maxRecDepth 100000
set_option maxHeartbeats 4000000
namespace Go.Proofs.YtigalkobmfbdaaaGreatDoor
open Go.RowKit Go.WideMaps
theorem sp_bind_c {k x : ByteArray} {ks : List Tree} (hx : x.size <= maxLen) (h0 : ks.length=0) (h1 : (k.toList == [65,110,121])=false) (h2 : (k.toList == [78,105,108])=false) (h3 : (k.toList == [83,116,114,105,110,103])=false) (h4 : (k.toList == [76,105,115,116])=false) (h5 : (k.toList == [66,105,110,100,105,110,103])=true) : SpG (.mk k x ks) (fun S=>(getB S x.toList).isSome=true):=by
 have HX:=Lib.hid hx
 have HK0:=Lib.hid h0
 clear h0
 intro n hr nm h64 hnm S op w0 w mb tb ta tc a c hg hT hS hM
 have HR:=Lib.hid (show sp (.mk k x ks) n S op=sp (.mk k x ks) n S op from rfl)
 have HZ:=Lib.hid (And.intro hr hr.bare.1)
 simp only [treeV,kind_mk,txt_mk,kids_mk] at *
 have HB:=Lib.hid (sp_begin (k:=k) (x:=x) (ks:=ks) (ta:=ta) (tc:=tc) hM rfl hS)
 have HT:=Lib.hid hT
 have HNM:=Lib.hid (And.intro h64 hnm)
 clear hT hS hM hnm hr h64
 go_enter Tryz.func61,Tryz.ntmps61
 go_wp2_with fail
 obtain ⟨w1,hw1⟩ : ∃ w1,w1=((w.alloc (.cells #[.string k,.string x,.slice ta ks.length tc] 24)).alloc (.cells (synC n a c) 52)).alloc (.cells #[.string ⟨#[]⟩,.bool false,.string ⟨#[]⟩,.int .i64 0,.slice none 0 0] 52):=⟨_,rfl⟩
 have hb:=HB.out
 rw [<- hw1] at hb ⊢
 clear HB hw1
 refine (bare_calls HZ.out.1.1 (hb.syn.fore hb.st.ext)).mono ?_
 rintro e w2 ⟨⟨a',c',rfl,hS'⟩,hE2⟩
 have hb2:=hb.grow hE2
 obtain ⟨p0,p1,p2⟩:=Blk3 hb2.pat
 obtain ⟨q0,q1,q2,q3,q4⟩:=Blk5 hb2.part
 have lp:=cell_lt p0
 have lq:=cell_lt q0
 have fp:=hb2.pat.frozen
 have fq:=hb2.part.frozen
 have K3:=Lib.hid (hb2.part5 (hS'.back hb.st.ext))
 obtain ⟨w3,hw3⟩ : ∃ w3,w3=(((((w2.setCell ⟨w.heap.size + 1,0,none⟩ (.string (bareS n).kind)).setCell ⟨w.heap.size + 1,1,none⟩ (.bool (bareS n).null)).setCell ⟨w.heap.size + 1,2,none⟩ (.string (bareS n).text)).setCell ⟨w.heap.size + 1,3,none⟩ (.int .i64 (bareS n).num)).setCell ⟨w.heap.size + 1,4,none⟩ (.slice a' (bareS n).kids.length c')):=⟨_,rfl⟩
 rw [<- hw3] at K3
 have H3:=Lib.hid hw3
 clear hb hb2 hE2 hS' hw3
 go_upto_region 2 with fail
 rw [<- H3.out]
 clear H3 p0 p1 p2 q0 q1 q2 q3 q4 lp lq fp fq w2
 obtain ⟨p0,p1,p2⟩:=Blk3 K3.out.pat
 obtain ⟨q0,q1,q2,q3,q4⟩:=Blk5 K3.out.part
 obtain ⟨o0,o1,o2,o3,o4⟩:=Blk5 K3.out.out
 have lp:=cell_lt p0
 have lq:=cell_lt q0
 have lo:=cell_lt o0
 have fo:=K3.out.out.frozen
 have m0 : w3.cell? ⟨mb,0,none⟩=some (.map (some tb)):=by rw [K3.out.st.blk.cell];rfl
 have m1 : w3.cell? ⟨mb,1,none⟩=some (.bool op):=by rw [K3.out.st.blk.cell];rfl
 have lm:=K3.out.st.blk.lt
 have fm:=K3.out.st.blk.frozen
 obtain ⟨V,hV,hVR⟩:=K3.out.st.tab
 replace hg : (getB S x.toList).isSome=true:=hg
 obtain ⟨old,hgo⟩ : ∃ old,getB S x.toList=some old:=Option.isSome_iff_exists.1 hg
 obtain ⟨vv,hgv,oa,oc,rfl,hSO⟩:=(hVR.get x.toList).2 old hgo
 have hlk : ∀ W : World,Ext w3 W -> (Instr.lookup 55 (.map (some tb)) (.string x) true).run Tryz.prog W=.ok (.tuple #[synV old oa oc,.bool true]) W:=fun W hW=>by
  have:=look_raw W (hV.ext hW) under55 (zero52 W) (s:=x) hx
  rw [this,hgv]
  rfl
 have hlk1:=hlk w3.drew (Ext.drew _)
 have hlk2:=hlk (w3.alloc (.cells #[.string ⟨#[]⟩,.bool false,.string ⟨#[]⟩,.int .i64 0,.slice none 0 0] 52)).drew ((Ext.alloc _ _).trans (Ext.drew _))
 have HLK:=Lib.hid hlk
 have hrz:=K3.out.st.keyed.get hgo
 clear hlk hgv hVR hV
 have HG:=Lib.hid hgo
 have HSO:=Lib.hid (And.intro hSO hrz)
 clear hg hgo hx hSO hrz
 go_upto_region 20 with fail
 go_cut [12,13] (fun v12 v13 wx=>v12=.pointer (some ⟨w3.heap.size,0,none⟩) /\ v13=.bool true /\ SpS w0 nm mb tb tb w S op k x ks ta tc (bareS n) a' c' wx /\ Blk wx w3.heap.size #[.string old.kind,.bool old.null,.string old.text,.int .i64 old.num,.slice oa old.kids.length oc] 52)
 case first =>
  go_region
  all_goals
   go_wp2_with fail
   go_meet
   first
    | exact ⟨rfl,rfl,K3.out.grow ((Ext.alloc _ _).trans (Ext.drew _)),(Blk.new w3 _ 52).ext (Ext.drew _)⟩
    | exact ⟨rfl,rfl,K3.out.grow ((Ext.drew _).trans (Ext.alloc _ _)),Blk.new w3.drew _ 52⟩
    | fail
 case rest =>
  obtain ⟨rfl,rfl,hS4,hB4⟩:=hcut
  have K4:=Lib.hid hS4
  have B4:=Lib.hid hB4
  clear hS4 hB4 hlk1 hlk2 HLK m0 m1 lm fm p0 p1 p2 q0 q1 q2 q3 q4 o0 o1 o2 o3 o4 lp lq lo fo
  obtain ⟨p0,p1,p2⟩:=Blk3 K4.out.pat
  obtain ⟨q0,q1,q2,q3,q4⟩:=Blk5 K4.out.part
  obtain ⟨o0,o1,o2,o3,o4⟩:=Blk5 K4.out.out
  have lp:=cell_lt p0
  have lq:=cell_lt q0
  have lo:=cell_lt o0
  have fo:=K4.out.out.frozen
  have hz0 : ((ks.length : Int) == 0)=true:=by rw [HK0.out];rfl
  have hz1 : ((ks.length : Int) == 1)=false:=by rw [HK0.out];rfl
  have m0 : wc.cell? ⟨mb,0,none⟩=some (.map (some tb)):=by rw [K4.out.st.blk.cell];rfl
  have m1 : wc.cell? ⟨mb,1,none⟩=some (.bool op):=by rw [K4.out.st.blk.cell];rfl
  have lm:=K4.out.st.blk.lt
  have fm:=K4.out.st.blk.frozen
  have HR:=Lib.hid (show sp (.mk k x ks) n S op=⟨eqS old (bareS n),bareS n,S,op || (!nodeK old.kind || !nodeK (bareS n).kind || mixF old (bareS n))⟩ by
   rw [sp_mk];simp only [h1,h2,h3,h4,h5,Bool.false_eq_true,if_false,if_true]
   cases ks with
   | nil=>simp only [HG.out]
   | cons q qs=>exact absurd HK0.out (by simp))
  obtain ⟨z0,z1,z2,z3,z4⟩:=Blk5 B4.out
  have zl:=cell_lt z0
  have zf:=B4.out.frozen
  go_wp2_with fail
  refine (node_calls' old oa oc wc).mono ?_
  rintro e w5 ⟨rfl,hE5⟩
  have KX:=Lib.hid (K4.out.grow hE5)
  have BX:=Lib.hid (B4.out.ext hE5)
  clear hE5 m0 m1 lm fm p0 p1 p2 q0 q1 q2 q3 q4 o0 o1 o2 o3 o4 lp lq lo fo z0 z1 z2 z3 z4 zl zf
  obtain ⟨p0,p1,p2⟩:=Blk3 KX.out.pat
  obtain ⟨q0,q1,q2,q3,q4⟩:=Blk5 KX.out.part
  obtain ⟨o0,o1,o2,o3,o4⟩:=Blk5 KX.out.out
  obtain ⟨z0,z1,z2,z3,z4⟩:=Blk5 BX.out
  have lp:=cell_lt p0
  have lq:=cell_lt q0
  have lo:=cell_lt o0
  have zl:=cell_lt z0
  have fo:=KX.out.out.frozen
  have zf:=BX.out.frozen
  have m0 : w5.cell? ⟨mb,0,none⟩=some (.map (some tb)):=by rw [KX.out.st.blk.cell];rfl
  have m1 : w5.cell? ⟨mb,1,none⟩=some (.bool op):=by rw [KX.out.st.blk.cell];rfl
  have lm:=KX.out.st.blk.lt
  have fm:=KX.out.st.blk.frozen
  cases hn1 : nodeK old.kind with
  | false =>
   have HR:=Lib.hid (show sp (.mk k x ks) n S op=⟨eqS old (bareS n),bareS n,S,true⟩ by rw [HR.out];simp [hn1])
   obtain ⟨w8,hw8⟩ : ∃ w8,w8=w5.setCell ⟨mb,1,none⟩ (.bool true):=⟨_,rfl⟩
   have hX8 : ExtM (·=mb) w5 (w5.setCell ⟨mb,1,none⟩ (.bool true)):=(ExtM.refl (·=mb) w5).set1 1 _
   have KR:=Lib.hid KX.out.opened
   have BR:=Lib.hid (BX.out.extM hX8 (by have h1:=K3.out.lts;omega))
   rw [<- hw8] at KR BR
   clear hX8
   go_upto_region 24 with fail
   rw [<- hw8]
   clear hw8 m0 m1 lm fm p0 p1 p2 q0 q1 q2 q3 q4 o0 o1 o2 o3 o4 lp lq lo fo z0 z1 z2 z3 z4 zl zf
   obtain ⟨p0,p1,p2⟩:=Blk3 KR.out.pat
   obtain ⟨q0,q1,q2,q3,q4⟩:=Blk5 KR.out.part
   obtain ⟨o0,o1,o2,o3,o4⟩:=Blk5 KR.out.out
   obtain ⟨z0,z1,z2,z3,z4⟩:=Blk5 BR.out
   have lp:=cell_lt p0
   have lq:=cell_lt q0
   have lo:=cell_lt o0
   have zl:=cell_lt z0
   have fo:=KR.out.out.frozen
   have zf:=BR.out.frozen
   have m0 : w8.cell? ⟨mb,0,none⟩=some (.map (some tb)):=by rw [KR.out.st.blk.cell];rfl
   have m1 : w8.cell? ⟨mb,1,none⟩=some (.bool true):=by rw [KR.out.st.blk.cell];rfl
   have lm:=KR.out.st.blk.lt
   have fm:=KR.out.st.blk.frozen
   have FF : ∀ (b : Nat),w.heap.size + 2 ≠ b -> ∀ (W : World) (o o' : Nat) (v : Value),(W.setCell ⟨w.heap.size + 2,o,none⟩ v).cell? ⟨b,o',none⟩=W.cell? ⟨b,o',none⟩:=fun b hb W o o' v=>World.cell?_setCell_far W _ _ _ hb
   have F0:=FF (w.heap.size + 1) (by omega)
   have F1:=FF w3.heap.size (by have:=K3.out.out.lt;omega)
   clear FF
   go_region_held3 (fun w'=>w'.cell? ⟨w3.heap.size,0,none⟩=some (.string old.kind) /\ w'.cell? ⟨w3.heap.size,1,none⟩=some (.bool old.null) /\ w'.cell? ⟨w3.heap.size,2,none⟩=some (.string old.text) /\ w'.cell? ⟨w3.heap.size,3,none⟩=some (.int .i64 old.num) /\ w'.cell? ⟨w3.heap.size,4,none⟩=some (.slice oa old.kids.length oc) /\ w'.cell? ⟨w.heap.size + 1,0,none⟩=some (.string (bareS n).kind) /\ w'.cell? ⟨w.heap.size + 1,1,none⟩=some (.bool (bareS n).null) /\ w'.cell? ⟨w.heap.size + 1,2,none⟩=some (.string (bareS n).text) /\ w'.cell? ⟨w.heap.size + 1,3,none⟩=some (.int .i64 (bareS n).num) /\ w'.cell? ⟨w.heap.size + 1,4,none⟩=some (.slice a' (bareS n).kids.length c')) (first | go_keep | (simp only [F0,F1];exact ⟨yq_0,yq_1,yq_2,yq_3,yq_4,yq_5,yq_6,yq_7,yq_8,yq_9⟩))
    (first
     | (go_at_call 38;refine (equal_calls HSO.out.2.1 HZ.out.2.1 HSO.out.2.2 (HSO.out.1.fore (KR.out.st.ext.trans (Ext.drew _))) (KR.out.syn.fore (KR.out.st.ext.trans (Ext.drew _)))).mono ?_;rintro e wq ⟨rfl,hEq⟩;have KQ:=Lib.hid (KR.out.grow ((Ext.drew _).trans hEq));have BQ:=Lib.hid (BR.out.ext ((Ext.drew _).trans hEq));obtain ⟨r0,r1,r2,r3,r4⟩:=Blk5 KQ.out.out;have rl:=cell_lt r0;have rf:=KQ.out.out.frozen;have yq_0:=(Blk5 BQ.out).1;have yq_1:=(Blk5 BQ.out).2.1;have yq_2:=(Blk5 BQ.out).2.2.1;have yq_3:=(Blk5 BQ.out).2.2.2.1;have yq_4:=(Blk5 BQ.out).2.2.2.2;have yq_5:=(Blk5 KQ.out.part).1;have yq_6:=(Blk5 KQ.out.part).2.1;have yq_7:=(Blk5 KQ.out.part).2.2.1;have yq_8:=(Blk5 KQ.out.part).2.2.2.1;have yq_9:=(Blk5 KQ.out.part).2.2.2.2;clear hEq)
     | fail)
   all_goals
    go_wp2_with fail
    have ho:=KQ.out.out5 (.string (bareS n).kind) (.bool (bareS n).null) (.string (bareS n).text) (.int .i64 (bareS n).num) (.slice a' (bareS n).kids.length c')
    refine bodyPost_ret (results_ct rfl _ _ (w.heap.size + 2) 52 (synC (bareS n) a' c') rfl ho.1 row52 size52) rfl ?_
    rw [HR.out]
    obtain ⟨-,tb',ho2,ho3⟩:=ho
    exact ⟨⟨bareS n,a',c',rfl,fun _=>⟨rfl,HZ.out.2,K3.out.syn⟩⟩,tb',ho2,ho3⟩
  | true =>
   go_wp2_with fail
   refine (node_calls' (bareS n) a' c' w5).mono ?_
   rintro e w6 ⟨rfl,hE6⟩
   have KY:=Lib.hid (KX.out.grow hE6)
   have BY:=Lib.hid (BX.out.ext hE6)
   clear hE6 m0 m1 lm fm p0 p1 p2 q0 q1 q2 q3 q4 o0 o1 o2 o3 o4 lp lq lo fo z0 z1 z2 z3 z4 zl zf
   obtain ⟨p0,p1,p2⟩:=Blk3 KY.out.pat
   obtain ⟨q0,q1,q2,q3,q4⟩:=Blk5 KY.out.part
   obtain ⟨o0,o1,o2,o3,o4⟩:=Blk5 KY.out.out
   obtain ⟨z0,z1,z2,z3,z4⟩:=Blk5 BY.out
   have lp:=cell_lt p0
   have lq:=cell_lt q0
   have lo:=cell_lt o0
   have zl:=cell_lt z0
   have fo:=KY.out.out.frozen
   have zf:=BY.out.frozen
   have m0 : w6.cell? ⟨mb,0,none⟩=some (.map (some tb)):=by rw [KY.out.st.blk.cell];rfl
   have m1 : w6.cell? ⟨mb,1,none⟩=some (.bool op):=by rw [KY.out.st.blk.cell];rfl
   have lm:=KY.out.st.blk.lt
   have fm:=KY.out.st.blk.frozen
   cases hn2 : nodeK (bareS n).kind with
   | false =>
    have HR:=Lib.hid (show sp (.mk k x ks) n S op=⟨eqS old (bareS n),bareS n,S,true⟩ by rw [HR.out];simp [hn1,hn2])
    obtain ⟨w8,hw8⟩ : ∃ w8,w8=w6.setCell ⟨mb,1,none⟩ (.bool true):=⟨_,rfl⟩
    have hX8 : ExtM (·=mb) w6 (w6.setCell ⟨mb,1,none⟩ (.bool true)):=(ExtM.refl (·=mb) w6).set1 1 _
    have KR:=Lib.hid KY.out.opened
    have BR:=Lib.hid (BY.out.extM hX8 (by have h1:=K3.out.lts;omega))
    rw [<- hw8] at KR BR
    clear hX8
    go_upto_region 24 with fail
    rw [<- hw8]
    clear hw8 m0 m1 lm fm p0 p1 p2 q0 q1 q2 q3 q4 o0 o1 o2 o3 o4 lp lq lo fo z0 z1 z2 z3 z4 zl zf
    obtain ⟨p0,p1,p2⟩:=Blk3 KR.out.pat
    obtain ⟨q0,q1,q2,q3,q4⟩:=Blk5 KR.out.part
    obtain ⟨o0,o1,o2,o3,o4⟩:=Blk5 KR.out.out
    obtain ⟨z0,z1,z2,z3,z4⟩:=Blk5 BR.out
    have lp:=cell_lt p0
    have lq:=cell_lt q0
    have lo:=cell_lt o0
    have zl:=cell_lt z0
    have fo:=KR.out.out.frozen
    have zf:=BR.out.frozen
    have m0 : w8.cell? ⟨mb,0,none⟩=some (.map (some tb)):=by rw [KR.out.st.blk.cell];rfl
    have m1 : w8.cell? ⟨mb,1,none⟩=some (.bool true):=by rw [KR.out.st.blk.cell];rfl
    have lm:=KR.out.st.blk.lt
    have fm:=KR.out.st.blk.frozen
    have FF : ∀ (b : Nat),w.heap.size + 2 ≠ b -> ∀ (W : World) (o o' : Nat) (v : Value),(W.setCell ⟨w.heap.size + 2,o,none⟩ v).cell? ⟨b,o',none⟩=W.cell? ⟨b,o',none⟩:=fun b hb W o o' v=>World.cell?_setCell_far W _ _ _ hb
    have F0:=FF (w.heap.size + 1) (by omega)
    have F1:=FF w3.heap.size (by have:=K3.out.out.lt;omega)
    clear FF
    go_region_held3 (fun w'=>w'.cell? ⟨w3.heap.size,0,none⟩=some (.string old.kind) /\ w'.cell? ⟨w3.heap.size,1,none⟩=some (.bool old.null) /\ w'.cell? ⟨w3.heap.size,2,none⟩=some (.string old.text) /\ w'.cell? ⟨w3.heap.size,3,none⟩=some (.int .i64 old.num) /\ w'.cell? ⟨w3.heap.size,4,none⟩=some (.slice oa old.kids.length oc) /\ w'.cell? ⟨w.heap.size + 1,0,none⟩=some (.string (bareS n).kind) /\ w'.cell? ⟨w.heap.size + 1,1,none⟩=some (.bool (bareS n).null) /\ w'.cell? ⟨w.heap.size + 1,2,none⟩=some (.string (bareS n).text) /\ w'.cell? ⟨w.heap.size + 1,3,none⟩=some (.int .i64 (bareS n).num) /\ w'.cell? ⟨w.heap.size + 1,4,none⟩=some (.slice a' (bareS n).kids.length c')) (first | go_keep | (simp only [F0,F1];exact ⟨yq_0,yq_1,yq_2,yq_3,yq_4,yq_5,yq_6,yq_7,yq_8,yq_9⟩))
     (first
      | (go_at_call 38;refine (equal_calls HSO.out.2.1 HZ.out.2.1 HSO.out.2.2 (HSO.out.1.fore (KR.out.st.ext.trans (Ext.drew _))) (KR.out.syn.fore (KR.out.st.ext.trans (Ext.drew _)))).mono ?_;rintro e wq ⟨rfl,hEq⟩;have KQ:=Lib.hid (KR.out.grow ((Ext.drew _).trans hEq));have BQ:=Lib.hid (BR.out.ext ((Ext.drew _).trans hEq));obtain ⟨r0,r1,r2,r3,r4⟩:=Blk5 KQ.out.out;have rl:=cell_lt r0;have rf:=KQ.out.out.frozen;have yq_0:=(Blk5 BQ.out).1;have yq_1:=(Blk5 BQ.out).2.1;have yq_2:=(Blk5 BQ.out).2.2.1;have yq_3:=(Blk5 BQ.out).2.2.2.1;have yq_4:=(Blk5 BQ.out).2.2.2.2;have yq_5:=(Blk5 KQ.out.part).1;have yq_6:=(Blk5 KQ.out.part).2.1;have yq_7:=(Blk5 KQ.out.part).2.2.1;have yq_8:=(Blk5 KQ.out.part).2.2.2.1;have yq_9:=(Blk5 KQ.out.part).2.2.2.2;clear hEq)
      | fail)
    all_goals
     go_wp2_with fail
     have ho:=KQ.out.out5 (.string (bareS n).kind) (.bool (bareS n).null) (.string (bareS n).text) (.int .i64 (bareS n).num) (.slice a' (bareS n).kids.length c')
     refine bodyPost_ret (results_ct rfl _ _ (w.heap.size + 2) 52 (synC (bareS n) a' c') rfl ho.1 row52 size52) rfl ?_
     rw [HR.out]
     obtain ⟨-,tb',ho2,ho3⟩:=ho
     exact ⟨⟨bareS n,a',c',rfl,fun _=>⟨rfl,HZ.out.2,K3.out.syn⟩⟩,tb',ho2,ho3⟩
   | true =>
    go_wp2_with fail
    refine (mixed_calls HSO.out.2.1 HZ.out.2.1 HSO.out.2.2 (HSO.out.1.fore KY.out.st.ext) (KY.out.syn.fore KY.out.st.ext)).mono ?_
    rintro e w7 ⟨rfl,hE7⟩
    have KZ:=Lib.hid (KY.out.grow hE7)
    have BZ:=Lib.hid (BY.out.ext hE7)
    clear hE7 m0 m1 lm fm p0 p1 p2 q0 q1 q2 q3 q4 o0 o1 o2 o3 o4 lp lq lo fo z0 z1 z2 z3 z4 zl zf
    obtain ⟨p0,p1,p2⟩:=Blk3 KZ.out.pat
    obtain ⟨q0,q1,q2,q3,q4⟩:=Blk5 KZ.out.part
    obtain ⟨o0,o1,o2,o3,o4⟩:=Blk5 KZ.out.out
    obtain ⟨z0,z1,z2,z3,z4⟩:=Blk5 BZ.out
    have lp:=cell_lt p0
    have lq:=cell_lt q0
    have lo:=cell_lt o0
    have zl:=cell_lt z0
    have fo:=KZ.out.out.frozen
    have zf:=BZ.out.frozen
    have m0 : w7.cell? ⟨mb,0,none⟩=some (.map (some tb)):=by rw [KZ.out.st.blk.cell];rfl
    have m1 : w7.cell? ⟨mb,1,none⟩=some (.bool op):=by rw [KZ.out.st.blk.cell];rfl
    have lm:=KZ.out.st.blk.lt
    have fm:=KZ.out.st.blk.frozen
    cases hn3 : mixF old (bareS n) with
    | true =>
     have HR:=Lib.hid (show sp (.mk k x ks) n S op=⟨eqS old (bareS n),bareS n,S,true⟩ by rw [HR.out];simp [hn1,hn2,hn3])
     obtain ⟨w8,hw8⟩ : ∃ w8,w8=w7.setCell ⟨mb,1,none⟩ (.bool true):=⟨_,rfl⟩
     have hX8 : ExtM (·=mb) w7 (w7.setCell ⟨mb,1,none⟩ (.bool true)):=(ExtM.refl (·=mb) w7).set1 1 _
     have KR:=Lib.hid KZ.out.opened
     have BR:=Lib.hid (BZ.out.extM hX8 (by have h1:=K3.out.lts;omega))
     rw [<- hw8] at KR BR
     clear hX8
     go_upto_region 24 with fail
     rw [<- hw8]
     clear hw8 m0 m1 lm fm p0 p1 p2 q0 q1 q2 q3 q4 o0 o1 o2 o3 o4 lp lq lo fo z0 z1 z2 z3 z4 zl zf
     obtain ⟨p0,p1,p2⟩:=Blk3 KR.out.pat
     obtain ⟨q0,q1,q2,q3,q4⟩:=Blk5 KR.out.part
     obtain ⟨o0,o1,o2,o3,o4⟩:=Blk5 KR.out.out
     obtain ⟨z0,z1,z2,z3,z4⟩:=Blk5 BR.out
     have lp:=cell_lt p0
     have lq:=cell_lt q0
     have lo:=cell_lt o0
     have zl:=cell_lt z0
     have fo:=KR.out.out.frozen
     have zf:=BR.out.frozen
     have m0 : w8.cell? ⟨mb,0,none⟩=some (.map (some tb)):=by rw [KR.out.st.blk.cell];rfl
     have m1 : w8.cell? ⟨mb,1,none⟩=some (.bool true):=by rw [KR.out.st.blk.cell];rfl
     have lm:=KR.out.st.blk.lt
     have fm:=KR.out.st.blk.frozen
     have FF : ∀ (b : Nat),w.heap.size + 2 ≠ b -> ∀ (W : World) (o o' : Nat) (v : Value),(W.setCell ⟨w.heap.size + 2,o,none⟩ v).cell? ⟨b,o',none⟩=W.cell? ⟨b,o',none⟩:=fun b hb W o o' v=>World.cell?_setCell_far W _ _ _ hb
     have F0:=FF (w.heap.size + 1) (by omega)
     have F1:=FF w3.heap.size (by have:=K3.out.out.lt;omega)
     clear FF
     go_region_held3 (fun w'=>w'.cell? ⟨w3.heap.size,0,none⟩=some (.string old.kind) /\ w'.cell? ⟨w3.heap.size,1,none⟩=some (.bool old.null) /\ w'.cell? ⟨w3.heap.size,2,none⟩=some (.string old.text) /\ w'.cell? ⟨w3.heap.size,3,none⟩=some (.int .i64 old.num) /\ w'.cell? ⟨w3.heap.size,4,none⟩=some (.slice oa old.kids.length oc) /\ w'.cell? ⟨w.heap.size + 1,0,none⟩=some (.string (bareS n).kind) /\ w'.cell? ⟨w.heap.size + 1,1,none⟩=some (.bool (bareS n).null) /\ w'.cell? ⟨w.heap.size + 1,2,none⟩=some (.string (bareS n).text) /\ w'.cell? ⟨w.heap.size + 1,3,none⟩=some (.int .i64 (bareS n).num) /\ w'.cell? ⟨w.heap.size + 1,4,none⟩=some (.slice a' (bareS n).kids.length c')) (first | go_keep | (simp only [F0,F1];exact ⟨yq_0,yq_1,yq_2,yq_3,yq_4,yq_5,yq_6,yq_7,yq_8,yq_9⟩))
      (first
       | (go_at_call 38;refine (equal_calls HSO.out.2.1 HZ.out.2.1 HSO.out.2.2 (HSO.out.1.fore (KR.out.st.ext.trans (Ext.drew _))) (KR.out.syn.fore (KR.out.st.ext.trans (Ext.drew _)))).mono ?_;rintro e wq ⟨rfl,hEq⟩;have KQ:=Lib.hid (KR.out.grow ((Ext.drew _).trans hEq));have BQ:=Lib.hid (BR.out.ext ((Ext.drew _).trans hEq));obtain ⟨r0,r1,r2,r3,r4⟩:=Blk5 KQ.out.out;have rl:=cell_lt r0;have rf:=KQ.out.out.frozen;have yq_0:=(Blk5 BQ.out).1;have yq_1:=(Blk5 BQ.out).2.1;have yq_2:=(Blk5 BQ.out).2.2.1;have yq_3:=(Blk5 BQ.out).2.2.2.1;have yq_4:=(Blk5 BQ.out).2.2.2.2;have yq_5:=(Blk5 KQ.out.part).1;have yq_6:=(Blk5 KQ.out.part).2.1;have yq_7:=(Blk5 KQ.out.part).2.2.1;have yq_8:=(Blk5 KQ.out.part).2.2.2.1;have yq_9:=(Blk5 KQ.out.part).2.2.2.2;clear hEq)
       | fail)
     all_goals
      go_wp2_with fail
      have ho:=KQ.out.out5 (.string (bareS n).kind) (.bool (bareS n).null) (.string (bareS n).text) (.int .i64 (bareS n).num) (.slice a' (bareS n).kids.length c')
      refine bodyPost_ret (results_ct rfl _ _ (w.heap.size + 2) 52 (synC (bareS n) a' c') rfl ho.1 row52 size52) rfl ?_
      rw [HR.out]
      obtain ⟨-,tb',ho2,ho3⟩:=ho
      exact ⟨⟨bareS n,a',c',rfl,fun _=>⟨rfl,HZ.out.2,K3.out.syn⟩⟩,tb',ho2,ho3⟩
    | false =>
     have HR:=Lib.hid (show sp (.mk k x ks) n S op=⟨eqS old (bareS n),bareS n,S,op⟩ by rw [HR.out];simp [hn1,hn2,hn3])
     clear hn1 hn2 hn3
     go_upto_region 24 with fail
     have FF : ∀ (b : Nat),w.heap.size + 2 ≠ b -> ∀ (W : World) (o o' : Nat) (v : Value),(W.setCell ⟨w.heap.size + 2,o,none⟩ v).cell? ⟨b,o',none⟩=W.cell? ⟨b,o',none⟩:=fun b hb W o o' v=>World.cell?_setCell_far W _ _ _ hb
     have F0:=FF (w.heap.size + 1) (by omega)
     have F1:=FF w3.heap.size (by have:=K3.out.out.lt;omega)
     clear FF
     go_region_held3 (fun w'=>w'.cell? ⟨w3.heap.size,0,none⟩=some (.string old.kind) /\ w'.cell? ⟨w3.heap.size,1,none⟩=some (.bool old.null) /\ w'.cell? ⟨w3.heap.size,2,none⟩=some (.string old.text) /\ w'.cell? ⟨w3.heap.size,3,none⟩=some (.int .i64 old.num) /\ w'.cell? ⟨w3.heap.size,4,none⟩=some (.slice oa old.kids.length oc) /\ w'.cell? ⟨w.heap.size + 1,0,none⟩=some (.string (bareS n).kind) /\ w'.cell? ⟨w.heap.size + 1,1,none⟩=some (.bool (bareS n).null) /\ w'.cell? ⟨w.heap.size + 1,2,none⟩=some (.string (bareS n).text) /\ w'.cell? ⟨w.heap.size + 1,3,none⟩=some (.int .i64 (bareS n).num) /\ w'.cell? ⟨w.heap.size + 1,4,none⟩=some (.slice a' (bareS n).kids.length c')) (first | go_keep | (simp only [F0,F1];exact ⟨yq_0,yq_1,yq_2,yq_3,yq_4,yq_5,yq_6,yq_7,yq_8,yq_9⟩))
      (first
       | (go_at_call 38;refine (equal_calls HSO.out.2.1 HZ.out.2.1 HSO.out.2.2 (HSO.out.1.fore (KZ.out.st.ext.trans (Ext.drew _))) (KZ.out.syn.fore (KZ.out.st.ext.trans (Ext.drew _)))).mono ?_;rintro e wq ⟨rfl,hEq⟩;have KQ:=Lib.hid (KZ.out.grow ((Ext.drew _).trans hEq));have BQ:=Lib.hid (BZ.out.ext ((Ext.drew _).trans hEq));obtain ⟨r0,r1,r2,r3,r4⟩:=Blk5 KQ.out.out;have rl:=cell_lt r0;have rf:=KQ.out.out.frozen;have yq_0:=(Blk5 BQ.out).1;have yq_1:=(Blk5 BQ.out).2.1;have yq_2:=(Blk5 BQ.out).2.2.1;have yq_3:=(Blk5 BQ.out).2.2.2.1;have yq_4:=(Blk5 BQ.out).2.2.2.2;have yq_5:=(Blk5 KQ.out.part).1;have yq_6:=(Blk5 KQ.out.part).2.1;have yq_7:=(Blk5 KQ.out.part).2.2.1;have yq_8:=(Blk5 KQ.out.part).2.2.2.1;have yq_9:=(Blk5 KQ.out.part).2.2.2.2;clear hEq)
       | fail)
     all_goals
      go_wp2_with fail
      have ho:=KQ.out.out5 (.string (bareS n).kind) (.bool (bareS n).null) (.string (bareS n).text) (.int .i64 (bareS n).num) (.slice a' (bareS n).kids.length c')
      refine bodyPost_ret (results_ct rfl _ _ (w.heap.size + 2) 52 (synC (bareS n) a' c') rfl ho.1 row52 size52) rfl ?_
      rw [HR.out]
      obtain ⟨-,tb',ho2,ho3⟩:=ho
      exact ⟨⟨bareS n,a',c',rfl,fun _=>⟨rfl,HZ.out.2,K3.out.syn⟩⟩,tb',ho2,ho3⟩
end Go.Proofs.YtigalkobmfbdaaaGreatDoor
set_option maxRecDepth 100000
set_option maxHeartbeats 4000000
namespace Go.Proofs.YtigalkobmfbdaaaGreatDoor
open Go.RowKit Go.WideMaps
theorem sp_bind_d {k x : ByteArray} {ks : List Tree} (hx : x.size <= maxLen) (h0k : 0 < ks.length) (h1k : ks.length=1) (h1 : (k.toList == [65,110,121])=false) (h2 : (k.toList == [78,105,108])=false) (h3 : (k.toList == [83,116,114,105,110,103])=false) (h4 : (k.toList == [76,105,115,116])=false) (h5 : (k.toList == [66,105,110,100,105,110,103])=true) : SpG (.mk k x ks) (fun S=>(getB S x.toList).isSome=true):=by
 have HX:=Lib.hid hx
 have HK0:=Lib.hid h1k
 clear h1k
 intro n hr nm h64 hnm S op w0 w mb tb ta tc a c hg hT hS hM
 have HR:=Lib.hid (show sp (.mk k x ks) n S op=sp (.mk k x ks) n S op from rfl)
 have HZ:=Lib.hid (And.intro hr hr.bare.1)
 simp only [treeV,kind_mk,txt_mk,kids_mk] at *
 have HB:=Lib.hid (sp_begin (k:=k) (x:=x) (ks:=ks) (ta:=ta) (tc:=tc) hM rfl hS)
 have HT:=Lib.hid hT
 have HNM:=Lib.hid (And.intro h64 hnm)
 clear hT hS hM hnm hr h64
 go_enter Tryz.func61,Tryz.ntmps61
 go_wp2_with fail
 obtain ⟨w1,hw1⟩ : ∃ w1,w1=((w.alloc (.cells #[.string k,.string x,.slice ta ks.length tc] 24)).alloc (.cells (synC n a c) 52)).alloc (.cells #[.string ⟨#[]⟩,.bool false,.string ⟨#[]⟩,.int .i64 0,.slice none 0 0] 52):=⟨_,rfl⟩
 have hb:=HB.out
 rw [<- hw1] at hb ⊢
 clear HB hw1
 refine (bare_calls HZ.out.1.1 (hb.syn.fore hb.st.ext)).mono ?_
 rintro e w2 ⟨⟨a',c',rfl,hS'⟩,hE2⟩
 have hb2:=hb.grow hE2
 obtain ⟨p0,p1,p2⟩:=Blk3 hb2.pat
 obtain ⟨q0,q1,q2,q3,q4⟩:=Blk5 hb2.part
 have lp:=cell_lt p0
 have lq:=cell_lt q0
 have fp:=hb2.pat.frozen
 have fq:=hb2.part.frozen
 have K3:=Lib.hid (hb2.part5 (hS'.back hb.st.ext))
 obtain ⟨w3,hw3⟩ : ∃ w3,w3=(((((w2.setCell ⟨w.heap.size + 1,0,none⟩ (.string (bareS n).kind)).setCell ⟨w.heap.size + 1,1,none⟩ (.bool (bareS n).null)).setCell ⟨w.heap.size + 1,2,none⟩ (.string (bareS n).text)).setCell ⟨w.heap.size + 1,3,none⟩ (.int .i64 (bareS n).num)).setCell ⟨w.heap.size + 1,4,none⟩ (.slice a' (bareS n).kids.length c')):=⟨_,rfl⟩
 rw [<- hw3] at K3
 have H3:=Lib.hid hw3
 clear hb hb2 hE2 hS' hw3
 go_upto_region 2 with fail
 rw [<- H3.out]
 clear H3 p0 p1 p2 q0 q1 q2 q3 q4 lp lq fp fq w2
 obtain ⟨p0,p1,p2⟩:=Blk3 K3.out.pat
 obtain ⟨q0,q1,q2,q3,q4⟩:=Blk5 K3.out.part
 obtain ⟨o0,o1,o2,o3,o4⟩:=Blk5 K3.out.out
 have lp:=cell_lt p0
 have lq:=cell_lt q0
 have lo:=cell_lt o0
 have fo:=K3.out.out.frozen
 have m0 : w3.cell? ⟨mb,0,none⟩=some (.map (some tb)):=by rw [K3.out.st.blk.cell];rfl
 have m1 : w3.cell? ⟨mb,1,none⟩=some (.bool op):=by rw [K3.out.st.blk.cell];rfl
 have lm:=K3.out.st.blk.lt
 have fm:=K3.out.st.blk.frozen
 obtain ⟨V,hV,hVR⟩:=K3.out.st.tab
 replace hg : (getB S x.toList).isSome=true:=hg
 obtain ⟨old,hgo⟩ : ∃ old,getB S x.toList=some old:=Option.isSome_iff_exists.1 hg
 obtain ⟨vv,hgv,oa,oc,rfl,hSO⟩:=(hVR.get x.toList).2 old hgo
 have hlk : ∀ W : World,Ext w3 W -> (Instr.lookup 55 (.map (some tb)) (.string x) true).run Tryz.prog W=.ok (.tuple #[synV old oa oc,.bool true]) W:=fun W hW=>by
  have:=look_raw W (hV.ext hW) under55 (zero52 W) (s:=x) hx
  rw [this,hgv]
  rfl
 have hlk1:=hlk w3.drew (Ext.drew _)
 have hlk2:=hlk (w3.alloc (.cells #[.string ⟨#[]⟩,.bool false,.string ⟨#[]⟩,.int .i64 0,.slice none 0 0] 52)).drew ((Ext.alloc _ _).trans (Ext.drew _))
 have HLK:=Lib.hid hlk
 have hrz:=K3.out.st.keyed.get hgo
 clear hlk hgv hVR hV
 have HG:=Lib.hid hgo
 have HSO:=Lib.hid (And.intro hSO hrz)
 clear hg hgo hx hSO hrz
 go_upto_region 20 with fail
 go_cut [12,13] (fun v12 v13 wx=>v12=.pointer (some ⟨w3.heap.size,0,none⟩) /\ v13=.bool true /\ SpS w0 nm mb tb tb w S op k x ks ta tc (bareS n) a' c' wx /\ Blk wx w3.heap.size #[.string old.kind,.bool old.null,.string old.text,.int .i64 old.num,.slice oa old.kids.length oc] 52)
 case first =>
  go_region
  all_goals
   go_wp2_with fail
   go_meet
   first
    | exact ⟨rfl,rfl,K3.out.grow ((Ext.alloc _ _).trans (Ext.drew _)),(Blk.new w3 _ 52).ext (Ext.drew _)⟩
    | exact ⟨rfl,rfl,K3.out.grow ((Ext.drew _).trans (Ext.alloc _ _)),Blk.new w3.drew _ 52⟩
    | fail
 case rest =>
  obtain ⟨rfl,rfl,hS4,hB4⟩:=hcut
  have K4:=Lib.hid hS4
  have B4:=Lib.hid hB4
  clear hS4 hB4 hlk1 hlk2 HLK m0 m1 lm fm p0 p1 p2 q0 q1 q2 q3 q4 o0 o1 o2 o3 o4 lp lq lo fo
  obtain ⟨p0,p1,p2⟩:=Blk3 K4.out.pat
  obtain ⟨q0,q1,q2,q3,q4⟩:=Blk5 K4.out.part
  obtain ⟨o0,o1,o2,o3,o4⟩:=Blk5 K4.out.out
  have lp:=cell_lt p0
  have lq:=cell_lt q0
  have lo:=cell_lt o0
  have fo:=K4.out.out.frozen
  have hz0 : ((ks.length : Int) == 0)=false:=by rw [HK0.out];rfl
  have hz1 : ((ks.length : Int) == 1)=true:=by rw [HK0.out];rfl
  have m0 : wc.cell? ⟨mb,0,none⟩=some (.map (some tb)):=by rw [K4.out.st.blk.cell];rfl
  have m1 : wc.cell? ⟨mb,1,none⟩=some (.bool op):=by rw [K4.out.st.blk.cell];rfl
  have lm:=K4.out.st.blk.lt
  have fm:=K4.out.st.blk.frozen
  have HR:=Lib.hid (show sp (.mk k x ks) n S op=⟨false,bareS n,S,true⟩ by
   rw [sp_mk];simp only [h1,h2,h3,h4,h5,Bool.false_eq_true,if_false,if_true]
   match ks,h0k with
   | q :: qs,_=>simp only [HG.out])
  obtain ⟨w5,hw5⟩ : ∃ w5,w5=wc.setCell ⟨mb,1,none⟩ (.bool true):=⟨_,rfl⟩
  have KP:=Lib.hid K4.out.opened
  rw [<- hw5] at KP
  go_upto_region 27 with fail
  rw [<- hw5]
  clear hw5 m0 m1 lm fm p0 p1 p2 q0 q1 q2 q3 q4 o0 o1 o2 o3 o4 lp lq lo fo
  obtain ⟨p0,p1,p2⟩:=Blk3 KP.out.pat
  obtain ⟨q0,q1,q2,q3,q4⟩:=Blk5 KP.out.part
  obtain ⟨o0,o1,o2,o3,o4⟩:=Blk5 KP.out.out
  have lp:=cell_lt p0
  have lq:=cell_lt q0
  have lo:=cell_lt o0
  have fo:=KP.out.out.frozen
  go_wp2_with fail
  have ho:=KP.out.out5 (.string (bareS n).kind) (.bool (bareS n).null) (.string (bareS n).text) (.int .i64 (bareS n).num) (.slice a' (bareS n).kids.length c')
  refine bodyPost_ret (results_ct rfl _ _ (w.heap.size + 2) 52 (synC (bareS n) a' c') rfl ho.1 row52 size52) rfl ?_
  rw [HR.out]
  obtain ⟨-,tb',ho2,ho3⟩:=ho
  exact ⟨⟨bareS n,a',c',rfl,fun _=>⟨rfl,HZ.out.2,K3.out.syn⟩⟩,tb',ho2,ho3⟩
end Go.Proofs.YtigalkobmfbdaaaGreatDoor
