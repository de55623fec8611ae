/- The reference's Match: lists. -/
import Derived.Test.YtigalkobmfbdaaaGreatDoorMix2w
import Derived.Test.YtigalkobmfbdaaaGreatDoorMix1Z2
set_option linter.unusedVariables false
set_option linter.unusedSimpArgs false
set_option maxRecDepth 100000
set_option maxHeartbeats 4000000
namespace Go.Proofs.YtigalkobmfbdaaaGreatDoor
open Go.RowKit Go.WideMaps
theorem tail_rz {b : Syn} (hb : RZ b) (hl : lisK b.kind=true) (h0 : 0 < b.kids.length) : RZ (.mk b.kind false ⟨#[]⟩ 0 (b.kids.drop 1)):=by
 have hf:=hb.1.form
 have hr:=hb.1
 have hz:=hb.2
 cases hf with
 | nothing=>exact absurd hl (by decide +kernel)
 | leaf k' x' n' h=>exact absurd h0 (by simp [skids_mk])
 | node k' ks' h _ _ =>
  have : ∀ k ∈ expressions ++ statements,lisK k=false:=by decide +kernel
  rw [skind_mk,this k' h] at hl
  cases hl
 | list k' nl ys hk' hnl he =>
  simp only [skind_mk,skids_mk] at *
  cases ys with
  | nil=>simp at h0
  | cons y ys =>
   refine ⟨(right_tail hl hr).1,?_⟩
   rw [sizeS_mk] at hz ⊢
   rw [sizeSs] at hz
   simp only [List.drop_succ_cons,List.drop_zero]
   omega
theorem kid_rz {b : Syn} (hb : RZ b) (j : Nat) (hj : j < b.kids.length) : RZ b.kids[j]:=by
 refine ⟨hb.1.kidE j hj,?_⟩
 have h1:=sizeS_kid b.kids j hj
 have hz:=hb.2
 obtain ⟨k,nl,x,n,ks⟩:=b
 rw [sizeS_mk] at hz
 simp only [skids_mk] at *
 omega
theorem tail_x' {w : World} {b : Syn} {g o c : Nat} (h : SynX (fun _=>True) w (some ⟨g,o,none⟩) c b) (h0 : 0 < b.kids.length) (hx : SynX (fun _=>True) w (some ⟨g,o + 5,none⟩) (c - 1) (.mk b.kind false ⟨#[]⟩ 0 (b.kids.drop 1))) : SynX (fun _=>True) w (if c=1 then some ⟨g,o,none⟩ else some ⟨g,o + 5,none⟩) (c - 1) (.mk b.kind false ⟨#[]⟩ 0 (b.kids.drop 1)):=by
 split
 ·rename_i hc
  have hl:=h.kids.1
  obtain ⟨k,nl,x,n,ks⟩:=b
  simp only [skind_mk,skids_mk] at *
  have : ks.drop 1=[]:=List.eq_nil_of_length_eq_zero (by rw [List.length_drop];omega)
  rw [this,SynX,SynsX]
  exact ⟨Nat.zero_le _,trivial⟩
 ·exact hx
theorem tail_x {w : World} {b : Syn} {g o c : Nat} (h : SynX (fun _=>True) w (some ⟨g,o,none⟩) c b) (h0 : 0 < b.kids.length) : SynX (fun _=>True) w (some ⟨g,o + 5,none⟩) (c - 1) (.mk b.kind false ⟨#[]⟩ 0 (b.kids.drop 1)):=by
 obtain ⟨k,nl,x,n,ks⟩:=b
 simp only [skind_mk,skids_mk] at *
 rw [SynX] at h ⊢
 obtain ⟨hc,hs⟩:=h
 cases ks with
 | nil=>simp at h0
 | cons y ys =>
  rw [SynsX] at hs
  obtain ⟨b',o',a',c',e,-,-,-,-,-,-,-,hr⟩:=hs
  obtain ⟨rfl,rfl⟩ : g=b' /\ o=o':=by simpa using e
  simp only [List.drop_succ_cons,List.drop_zero,List.length_cons] at *
  exact ⟨by omega,hr⟩
theorem sp_list {k x : ByteArray} {ks : List Tree} (hk : ks.length=0 \/ ks.length=2) (ih : ∀ (j : Nat) (hj : j < ks.length),SpC ks[j]) (h1 : (k.toList == [65,110,121])=false) (h2 : (k.toList == [78,105,108])=false) (h3 : (k.toList == [83,116,114,105,110,103])=false) (h4 : (k.toList == [76,105,115,116])=true) : SpC (.mk k x ks):=by
 have HK:=Lib.hid (And.intro hk ih)
 clear hk ih
 intro n hr nm h64 hnm S op w0 w mb tb ta tc a c hT hS hM
 have HR:=Lib.hid (show sp (.mk k x ks) n S op=sp (.mk k x ks) n S op from rfl)
 have HZ:=Lib.hid (And.intro hr hr.bare.1)
 simp only [treeV,kind_mk,txt_mk,kids_mk] at *
 have HB:=Lib.hid (sp_begin (k:=k) (x:=x) (ks:=ks) (ta:=ta) (tc:=tc) hM rfl hS)
 have HT:=Lib.hid hT
 have HNM:=Lib.hid (And.intro h64 hnm)
 clear hT hS hM hnm hr h64
 go_enter Tryz.func61,Tryz.ntmps61
 go_wp2_with fail
 obtain ⟨w1,hw1⟩ : ∃ w1,w1=((w.alloc (.cells #[.string k,.string x,.slice ta ks.length tc] 24)).alloc (.cells (synC n a c) 52)).alloc (.cells #[.string ⟨#[]⟩,.bool false,.string ⟨#[]⟩,.int .i64 0,.slice none 0 0] 52):=⟨_,rfl⟩
 have hb:=HB.out
 rw [<- hw1] at hb ⊢
 clear HB hw1
 refine (bare_calls HZ.out.1.1 (hb.syn.fore hb.st.ext)).mono ?_
 rintro e w2 ⟨⟨a',c',rfl,hS'⟩,hE2⟩
 have hb2:=hb.grow hE2
 obtain ⟨p0,p1,p2⟩:=Blk3 hb2.pat
 obtain ⟨q0,q1,q2,q3,q4⟩:=Blk5 hb2.part
 have lp:=cell_lt p0
 have lq:=cell_lt q0
 have fp:=hb2.pat.frozen
 have fq:=hb2.part.frozen
 have K3:=Lib.hid (hb2.part5 (hS'.back hb.st.ext))
 obtain ⟨w3,hw3⟩ : ∃ w3,w3=(((((w2.setCell ⟨w.heap.size + 1,0,none⟩ (.string (bareS n).kind)).setCell ⟨w.heap.size + 1,1,none⟩ (.bool (bareS n).null)).setCell ⟨w.heap.size + 1,2,none⟩ (.string (bareS n).text)).setCell ⟨w.heap.size + 1,3,none⟩ (.int .i64 (bareS n).num)).setCell ⟨w.heap.size + 1,4,none⟩ (.slice a' (bareS n).kids.length c')):=⟨_,rfl⟩
 rw [<- hw3] at K3
 have H3:=Lib.hid hw3
 clear hb hb2 hE2 hS' hw3
 go_upto_region 2 with fail
 rw [<- H3.out]
 clear H3 p0 p1 p2 q0 q1 q2 q3 q4 lp lq fp fq w2
 obtain ⟨p0,p1,p2⟩:=Blk3 K3.out.pat
 obtain ⟨q0,q1,q2,q3,q4⟩:=Blk5 K3.out.part
 obtain ⟨o0,o1,o2,o3,o4⟩:=Blk5 K3.out.out
 have lp:=cell_lt p0
 have lq:=cell_lt q0
 have lo:=cell_lt o0
 have fo:=K3.out.out.frozen
 go_wp2_with fail
 refine (list_calls (bareS n) a' c' _).mono ?_
 rintro e w4 ⟨rfl,hE4⟩
 have K4:=Lib.hid (K3.out.grow hE4)
 clear hE4 p0 p1 p2 q0 q1 q2 q3 q4 o0 o1 o2 o3 o4 lp lq lo fo
 obtain ⟨p0,p1,p2⟩:=Blk3 K4.out.pat
 obtain ⟨q0,q1,q2,q3,q4⟩:=Blk5 K4.out.part
 obtain ⟨o0,o1,o2,o3,o4⟩:=Blk5 K4.out.out
 have lp:=cell_lt p0
 have lq:=cell_lt q0
 have lo:=cell_lt o0
 have fo:=K4.out.out.frozen
 cases hl : lisK (bareS n).kind with
 | false =>
  have HR:=Lib.hid (show sp (.mk k x ks) n S op=⟨false,bareS n,S,op⟩ by rw [sp_mk];simp only [h1,h2,h3,h4,Bool.false_eq_true,if_false,if_true];simp only [hl,Bool.false_eq_true,if_false])
  clear hl
  go_wp2_with fail
  have ho:=K4.out.out5 (.string (bareS n).kind) (.bool (bareS n).null) (.string (bareS n).text) (.int .i64 (bareS n).num) (.slice a' (bareS n).kids.length c')
  refine bodyPost_ret (results_ct rfl _ _ (w.heap.size + 2) 52 (synC (bareS n) a' c') rfl ho.1 row52 size52) rfl ?_
  rw [HR.out]
  obtain ⟨-,tb',ho2,ho3⟩:=ho
  exact ⟨⟨bareS n,a',c',rfl,fun _=>⟨rfl,HZ.out.2,K3.out.syn⟩⟩,tb',ho2,ho3⟩
 | true =>
 by_cases h0 : ks.length=0
 ·have HR:=Lib.hid (show sp (.mk k x ks) n S op=⟨(bareS n).kids.isEmpty,bareS n,S,op⟩ by
   rw [sp_mk];simp only [h1,h2,h3,h4,Bool.false_eq_true,if_false,if_true]
   simp only [hl,if_true]
   cases ks with
   | nil=>rfl
   | cons q qs=>simp at h0)
  have hz : ((ks.length : Int) == 0)=true:=by rw [h0];rfl
  clear hl h0
  by_cases hy : (bareS n).kids.length=0
  ·have kz : (((bareS n).kids.length : Int) == 0)=true:=by rw [hy];rfl
   have hem : (bareS n).kids.isEmpty=true:=by
    cases hkk : (bareS n).kids with
    | nil=>rfl
    | cons y ys=>rw [hkk] at hy;simp at hy
   rw [hem] at HR
   clear hy hem
   go_wp2_with fail
   go_region
   all_goals
    go_wp2_with fail
    have ho:=K4.out.out5d (.string (bareS n).kind) (.bool (bareS n).null) (.string (bareS n).text) (.int .i64 (bareS n).num) (.slice a' (bareS n).kids.length c')
    refine bodyPost_ret (results_ct rfl _ _ (w.heap.size + 2) 52 (synC (bareS n) a' c') rfl ho.1 row52 size52) rfl ?_
    rw [HR.out]
    obtain ⟨-,tb',ho2,ho3⟩:=ho
    exact ⟨⟨bareS n,a',c',rfl,fun _=>⟨rfl,HZ.out.2,K3.out.syn⟩⟩,tb',ho2,ho3⟩
  ·have kz : (((bareS n).kids.length : Int) == 0)=false:=by rw [Bool.eq_false_iff,ne_eq,beq_iff_eq];omega
   have hem : (bareS n).kids.isEmpty=false:=by
    cases hkk : (bareS n).kids with
    | nil=>rw [hkk] at hy;simp at hy
    | cons y ys=>rfl
   rw [hem] at HR
   clear hy hem
   go_wp2_with fail
   go_region
   all_goals
    go_wp2_with fail
    have ho:=K4.out.out5d (.string (bareS n).kind) (.bool (bareS n).null) (.string (bareS n).text) (.int .i64 (bareS n).num) (.slice a' (bareS n).kids.length c')
    refine bodyPost_ret (results_ct rfl _ _ (w.heap.size + 2) 52 (synC (bareS n) a' c') rfl ho.1 row52 size52) rfl ?_
    rw [HR.out]
    obtain ⟨-,tb',ho2,ho3⟩:=ho
    exact ⟨⟨bareS n,a',c',rfl,fun _=>⟨rfl,HZ.out.2,K3.out.syn⟩⟩,tb',ho2,ho3⟩
 ·have hz : ((ks.length : Int) == 0)=false:=by rw [Bool.eq_false_iff,ne_eq,beq_iff_eq];omega
  have hl2 : ks.length=2:=HK.out.1.resolve_left h0
  have h00 : 0 < ks.length:=by omega
  have h11 : 1 < ks.length:=by omega
  by_cases hy : (bareS n).kids.length=0
  ·have HR:=Lib.hid (show sp (.mk k x ks) n S op=⟨false,bareS n,S,op⟩ by
    rw [sp_mk];simp only [h1,h2,h3,h4,Bool.false_eq_true,if_false,if_true]
    simp only [hl,if_true]
    have hkk : (bareS n).kids=[]:=List.eq_nil_of_length_eq_zero hy
    rw [hkk]
    match ks,hl2 with
    | [q,r],_=>rfl)
   have kz : (((bareS n).kids.length : Int) == 0)=true:=by rw [hy];rfl
   clear hy hl hl2 h0
   go_wp2_with fail
   go_region
   all_goals
    go_wp2_with fail
    have ho:=K4.out.out5d (.string (bareS n).kind) (.bool (bareS n).null) (.string (bareS n).text) (.int .i64 (bareS n).num) (.slice a' (bareS n).kids.length c')
    refine bodyPost_ret (results_ct rfl _ _ (w.heap.size + 2) 52 (synC (bareS n) a' c') rfl ho.1 row52 size52) rfl ?_
    rw [HR.out]
    obtain ⟨-,tb',ho2,ho3⟩:=ho
    exact ⟨⟨bareS n,a',c',rfl,fun _=>⟨rfl,HZ.out.2,K3.out.syn⟩⟩,tb',ho2,ho3⟩
  ·have hy0 : 0 < (bareS n).kids.length:=by omega
   have HR:=Lib.hid (show sp (.mk k x ks) n S op=⟨(sp ks[0] (bareS n).kids[0] S op).ok && (sp ks[1] (.mk (bareS n).kind false ⟨#[]⟩ 0 ((bareS n).kids.drop 1)) (sp ks[0] (bareS n).kids[0] S op).S (sp ks[0] (bareS n).kids[0] S op).op).ok,bareS n,(sp ks[1] (.mk (bareS n).kind false ⟨#[]⟩ 0 ((bareS n).kids.drop 1)) (sp ks[0] (bareS n).kids[0] S op).S (sp ks[0] (bareS n).kids[0] S op).op).S,(sp ks[1] (.mk (bareS n).kind false ⟨#[]⟩ 0 ((bareS n).kids.drop 1)) (sp ks[0] (bareS n).kids[0] S op).S (sp ks[0] (bareS n).kids[0] S op).op).op⟩ by
    rw [sp_mk];simp only [h1,h2,h3,h4,Bool.false_eq_true,if_false,if_true]
    simp only [hl,if_true]
    generalize (bareS n).kids=bk at *
    match ks,hl2,bk,hy0 with
    | [q,r],_,y :: ys,_=>rfl)
   have kz : (((bareS n).kids.length : Int) == 0)=false:=by rw [Bool.eq_false_iff,ne_eq,beq_iff_eq];omega
   have hrt:=tail_rz HZ.out.2 hl hy0
   clear hy hl hl2 h0
   obtain ⟨qb,qo,qa,qc,rfl,-,t0,t1,t2,hq⟩:=HT.out.kid 0 (by simpa [kids_mk] using h00)
   obtain ⟨qb',qo',ra,rc,e1,-,s0,s1,s2,hr2⟩:=HT.out.kid 1 (by simpa [kids_mk] using h11)
   cases e1
   have htc:=HT.out.kids.1
   simp only [kids_mk,Nat.zero_mul,Nat.add_zero,Nat.one_mul] at t0 t1 t2 hq htc s0 s1 s2 hr2
   obtain ⟨yb,yo,ya,yc,rfl,-,-,v0,v1,v2,v3,v4,hY⟩:=K4.out.syn.kid 0 hy0
   have hyc:=K4.out.syn.kids.1
   simp only [Nat.zero_mul,Nat.add_zero] at v0 v1 v2 v3 v4
   have T00:=Lib.hid (And.intro t0 (And.intro t1 (And.intro t2 (And.intro s0 (And.intro s1 s2)))))
   have V00:=Lib.hid (And.intro v0 (And.intro v1 (And.intro v2 (And.intro v3 v4))))
   have hTX:=tail_x' K4.out.syn hy0 (tail_x K4.out.syn hy0)
   obtain ⟨ya2,hif⟩ : ∃ v : Option Addr,(if c'=1 then (some ⟨yb,yo,none⟩ : Option Addr) else some ⟨yb,yo + 5,none⟩)=v:=⟨_,rfl⟩
   rw [hif] at hTX
   have HC:=Lib.hid (fun (w' : World) (hx : Ext w4 w')=>K4.out.call (HK.out.2 0 h00) (kid_rz HZ.out.2 0 hy0) HNM.out.1 (fun s hs=>HNM.out.2 s (names_kid (List.getElem_mem h00) s hs)) hq hY hx)
   have H2:=Lib.hid (And.intro hr2 (And.intro hrt hTX))
   replace t0:=K4.out.st.ext.keep t0
   replace t1:=K4.out.st.ext.keep t1
   replace t2:=K4.out.st.ext.keep t2
   replace v0:=K4.out.st.ext.keep v0
   replace v1:=K4.out.st.ext.keep v1
   replace v2:=K4.out.st.ext.keep v2
   replace v3:=K4.out.st.ext.keep v3
   replace v4:=K4.out.st.ext.keep v4
   have tl:=cell_lt t0
   have vl:=cell_lt v0
   clear hq hY s0 s1 s2 hr2 hrt hTX
   generalize sp ks[0] (bareS n).kids[0] S op=r at *
   go_wp2_with fail
   have FF : ∀ (b : Nat),w4.heap.size ≠ b -> ∀ (W : World) (o o' : Nat) (v : Value),(W.setCell ⟨w4.heap.size,o,none⟩ v).cell? ⟨b,o',none⟩=W.cell? ⟨b,o',none⟩:=fun b hb W o o' v=>World.cell?_setCell_far W _ _ _ hb
   have F0:=FF (w.heap.size) (by omega)
   have F1:=FF (w.heap.size + 1) (by omega)
   have F2:=FF (qb) (by have:=tl;omega)
   have F3:=FF (yb) (by have:=vl;omega)
   clear FF
   go_region_held3 (fun w'=>w'.cell? ⟨w.heap.size,2,none⟩=some (.slice (some ⟨qb,qo,none⟩) ks.length tc) /\ w'.cell? ⟨qb,qo,none⟩=some (.string ks[0].kind) /\ w'.cell? ⟨qb,qo + 1,none⟩=some (.string ks[0].text) /\ w'.cell? ⟨qb,qo + 2,none⟩=some (.slice qa ks[0].kids.length qc) /\ w'.cell? ⟨w.heap.size + 1,4,none⟩=some (.slice (some ⟨yb,yo,none⟩) (bareS n).kids.length c') /\ w'.cell? ⟨yb,yo,none⟩=some (.string (bareS n).kids[0].kind) /\ w'.cell? ⟨yb,yo + 1,none⟩=some (.bool (bareS n).kids[0].null) /\ w'.cell? ⟨yb,yo + 2,none⟩=some (.string (bareS n).kids[0].text) /\ w'.cell? ⟨yb,yo + 3,none⟩=some (.int .i64 (bareS n).kids[0].num) /\ w'.cell? ⟨yb,yo + 4,none⟩=some (.slice ya (bareS n).kids[0].kids.length yc)) (first | go_keep | (simp only [F0,F1,F2,F3];exact ⟨y5_0,y5_1,y5_2,y5_3,y5_4,y5_5,y5_6,y5_7,y5_8,y5_9⟩))
    (first
     | (go_at_call 61;refine (HC.out _ (Ext.drew _)).mono ?_;rintro e w5 ⟨⟨o5,a5,c5,rfl,ho5⟩,tb5,hS5,hT5⟩;have K5:=Lib.hid hS5;have H5:=Lib.hid ho5;have KG5 : Hid (SpS w0 nm mb _ _ w _ _ _ _ _ _ _ _ _ _ (w5.alloc (.cells #[.string o5.kind,.bool o5.null,.string o5.text,.int .i64 o5.num,.slice a5 o5.kids.length c5] 52))):=Lib.hid (hS5.grow (Ext.alloc _ _));have y5_0:=(Blk3 K5.out.pat).2.2;have y5_1:=K5.out.st.ext.keep T00.out.1;have y5_2:=K5.out.st.ext.keep T00.out.2.1;have y5_3:=K5.out.st.ext.keep T00.out.2.2.1;have y5_4:=(Blk5 K5.out.part).2.2.2.2;have y5_5:=K5.out.st.ext.keep V00.out.1;have y5_6:=K5.out.st.ext.keep V00.out.2.1;have y5_7:=K5.out.st.ext.keep V00.out.2.2.1;have y5_8:=K5.out.st.ext.keep V00.out.2.2.2.1;have y5_9:=K5.out.st.ext.keep V00.out.2.2.2.2;clear hS5 ho5 hT5)
     | (go_at_call 61;refine (HC.out _ ((Ext.alloc _ _).trans (Ext.drew _))).mono ?_;rintro e w5 ⟨⟨o5,a5,c5,rfl,ho5⟩,tb5,hS5,hT5⟩;have K5:=Lib.hid hS5;have H5:=Lib.hid ho5;have hB5:=((Blk.new w4 #[.string ⟨#[]⟩,.bool false,.string ⟨#[]⟩,.int .i64 0,.slice none 0 0] 52).ext (Ext.drew _)).extM hT5.1 (by have:=K4.out.lts;omega);obtain ⟨z0,z1,z2,z3,z4⟩:=Blk5 hB5;have zl:=cell_lt z0;have zf:=hB5.frozen;have htn : tb5 ≠ w4.heap.size:=(hT5.2.elim (fun e=>by have h1:=K4.out.lts;omega) (fun e=>by have h3 : w4.heap.size + 1 <= tb5:=(by simpa using e);omega));have KG5:=Lib.hid (hS5.aside (b:=w4.heap.size) (by have:=K4.out.out.lt;omega) (by have:=K4.out.lts;omega) (fun e=>htn e.symm) (.string o5.kind) (.bool o5.null) (.string o5.text) (.int .i64 o5.num) (.slice a5 o5.kids.length c5));clear hB5 htn;have y5_0:=(Blk3 K5.out.pat).2.2;have y5_1:=K5.out.st.ext.keep T00.out.1;have y5_2:=K5.out.st.ext.keep T00.out.2.1;have y5_3:=K5.out.st.ext.keep T00.out.2.2.1;have y5_4:=(Blk5 K5.out.part).2.2.2.2;have y5_5:=K5.out.st.ext.keep V00.out.1;have y5_6:=K5.out.st.ext.keep V00.out.2.1;have y5_7:=K5.out.st.ext.keep V00.out.2.2.1;have y5_8:=K5.out.st.ext.keep V00.out.2.2.2.1;have y5_9:=K5.out.st.ext.keep V00.out.2.2.2.2;clear hS5 ho5 hT5)
     | fail)
   all_goals
    first
     | (obtain ⟨w6,hw6⟩ : ∃ w6,w6=w5.alloc (.cells #[.string o5.kind,.bool o5.null,.string o5.text,.int .i64 o5.num,.slice a5 o5.kids.length c5] 52):=⟨_,rfl⟩;rw [<- hw6] at KG5 ⊢;clear hw6)
     | (obtain ⟨w6,hw6⟩ : ∃ w6,w6=(((((w5.setCell ⟨w4.heap.size,0,none⟩ (.string o5.kind)).setCell ⟨w4.heap.size,1,none⟩ (.bool o5.null)).setCell ⟨w4.heap.size,2,none⟩ (.string o5.text)).setCell ⟨w4.heap.size,3,none⟩ (.int .i64 o5.num)).setCell ⟨w4.heap.size,4,none⟩ (.slice a5 o5.kids.length c5)):=⟨_,rfl⟩;rw [<- hw6] at KG5 ⊢;clear hw6)
    clear p0 p1 p2 q0 q1 q2 q3 q4 o0 o1 o2 o3 o4 lp lq lo fo t0 t1 t2 v0 v1 v2 v3 v4 tl vl
    obtain ⟨p0,p1,p2⟩:=Blk3 KG5.out.pat
    obtain ⟨q0,q1,q2,q3,q4⟩:=Blk5 KG5.out.part
    obtain ⟨o0,o1,o2,o3,o4⟩:=Blk5 KG5.out.out
    have lp:=cell_lt p0
    have lq:=cell_lt q0
    have lo:=cell_lt o0
    have fo:=KG5.out.out.frozen
    have s0:=KG5.out.st.ext.keep T00.out.2.2.2.1
    have s1:=KG5.out.st.ext.keep T00.out.2.2.2.2.1
    have s2:=KG5.out.st.ext.keep T00.out.2.2.2.2.2
    have HC2:=fun (w' : World) (hx : Ext w6 w')=>KG5.out.call (HK.out.2 1 h11) H2.out.2.1 HNM.out.1 (fun s hs=>HNM.out.2 s (names_kid (List.getElem_mem h11) s hs)) H2.out.1 H2.out.2.2 hx
    simp only [skind_mk,snull_mk,stext_mk,snum_mk,skids_mk,List.length_drop] at HC2
    generalize sp ks[1] (.mk (bareS n).kind false ⟨#[]⟩ 0 ((bareS n).kids.drop 1)) r.S r.op=r2 at *
    have HC2:=Lib.hid HC2
    have tl : qb < w6.heap.size:=cell_lt s0
    have hyl : (1 : Int) <= ((bareS n).kids.length : Int):=by omega
    have hyl2 : ((bareS n).kids.length : Int) <= (c' : Int):=by omega
    have hyl3 : (1 : Int) < (ks.length : Int):=by omega
    go_wp2_with fail
    have FF : ∀ (b : Nat),w6.heap.size ≠ b -> ∀ (W : World) (o o' : Nat) (v : Value),(W.setCell ⟨w6.heap.size,o,none⟩ v).cell? ⟨b,o',none⟩=W.cell? ⟨b,o',none⟩:=fun b hb W o o' v=>World.cell?_setCell_far W _ _ _ hb
    have F0:=FF (w.heap.size) (by omega)
    have F1:=FF (w.heap.size + 1) (by omega)
    have F2:=FF (qb) (by omega)
    clear FF
    go_region_held3 (fun w'=>w'.cell? ⟨w.heap.size,2,none⟩=some (.slice (some ⟨qb,qo,none⟩) ks.length tc) /\ w'.cell? ⟨qb,qo + 3,none⟩=some (.string ks[1].kind) /\ w'.cell? ⟨qb,qo + 3 + 1,none⟩=some (.string ks[1].text) /\ w'.cell? ⟨qb,qo + 3 + 2,none⟩=some (.slice ra ks[1].kids.length rc) /\ w'.cell? ⟨w.heap.size + 1,0,none⟩=some (.string (bareS n).kind) /\ w'.cell? ⟨w.heap.size + 1,4,none⟩=some (.slice (some ⟨yb,yo,none⟩) (bareS n).kids.length c')) (first | go_keep | (simp only [F0,F1,F2];exact ⟨y7_0,y7_1,y7_2,y7_3,y7_4,y7_5⟩))
     (first
      | (go_at_call 61;refine (HC2.out _ (Ext.drew _)).mono ?_;rintro e w7 ⟨⟨o7,a7,c7,rfl,ho7⟩,tb7,hS7,hT7⟩;have K7:=Lib.hid hS7;have H7:=Lib.hid ho7;have KG7 : Hid (SpS w0 nm mb _ _ w _ _ _ _ _ _ _ _ _ _ (w7.alloc (.cells #[.string o7.kind,.bool o7.null,.string o7.text,.int .i64 o7.num,.slice a7 o7.kids.length c7] 52))):=Lib.hid (hS7.grow (Ext.alloc _ _));have y7_0:=(Blk3 K7.out.pat).2.2;have y7_1:=K7.out.st.ext.keep T00.out.2.2.2.1;have y7_2:=K7.out.st.ext.keep T00.out.2.2.2.2.1;have y7_3:=K7.out.st.ext.keep T00.out.2.2.2.2.2;have y7_4:=(Blk5 K7.out.part).1;have y7_5:=(Blk5 K7.out.part).2.2.2.2;clear hS7 ho7 hT7)
      | (go_at_call 61;refine (HC2.out _ ((Ext.alloc _ _).trans (Ext.drew _))).mono ?_;rintro e w7 ⟨⟨o7,a7,c7,rfl,ho7⟩,tb7,hS7,hT7⟩;have K7:=Lib.hid hS7;have H7:=Lib.hid ho7;have hB7:=((Blk.new w6 #[.string ⟨#[]⟩,.bool false,.string ⟨#[]⟩,.int .i64 0,.slice none 0 0] 52).ext (Ext.drew _)).extM hT7.1 (by have:=KG5.out.lts;omega);obtain ⟨z0,z1,z2,z3,z4⟩:=Blk5 hB7;have zl:=cell_lt z0;have zf:=hB7.frozen;have htn : tb7 ≠ w6.heap.size:=(hT7.2.elim (fun e=>by have h1:=KG5.out.lts;omega) (fun e=>by have h3 : w6.heap.size + 1 <= tb7:=(by simpa using e);omega));have KG7:=Lib.hid (hS7.aside (b:=w6.heap.size) (by have:=KG5.out.out.lt;omega) (by have:=KG5.out.lts;omega) (fun e=>htn e.symm) (.string o7.kind) (.bool o7.null) (.string o7.text) (.int .i64 o7.num) (.slice a7 o7.kids.length c7));clear hB7 htn;have y7_0:=(Blk3 K7.out.pat).2.2;have y7_1:=K7.out.st.ext.keep T00.out.2.2.2.1;have y7_2:=K7.out.st.ext.keep T00.out.2.2.2.2.1;have y7_3:=K7.out.st.ext.keep T00.out.2.2.2.2.2;have y7_4:=(Blk5 K7.out.part).1;have y7_5:=(Blk5 K7.out.part).2.2.2.2;clear hS7 ho7 hT7)
      | fail)
    all_goals
     first
      | (obtain ⟨w8,hw8⟩ : ∃ w8,w8=w7.alloc (.cells #[.string o7.kind,.bool o7.null,.string o7.text,.int .i64 o7.num,.slice a7 o7.kids.length c7] 52):=⟨_,rfl⟩;rw [<- hw8] at KG7 ⊢;clear hw8)
      | (obtain ⟨w8,hw8⟩ : ∃ w8,w8=(((((w7.setCell ⟨w6.heap.size,0,none⟩ (.string o7.kind)).setCell ⟨w6.heap.size,1,none⟩ (.bool o7.null)).setCell ⟨w6.heap.size,2,none⟩ (.string o7.text)).setCell ⟨w6.heap.size,3,none⟩ (.int .i64 o7.num)).setCell ⟨w6.heap.size,4,none⟩ (.slice a7 o7.kids.length c7)):=⟨_,rfl⟩;rw [<- hw8] at KG7 ⊢;clear hw8)
     clear p0 p1 p2 q0 q1 q2 q3 q4 o0 o1 o2 o3 o4 lp lq lo fo s0 s1 s2
     obtain ⟨p0,p1,p2⟩:=Blk3 KG7.out.pat
     obtain ⟨q0,q1,q2,q3,q4⟩:=Blk5 KG7.out.part
     obtain ⟨o0,o1,o2,o3,o4⟩:=Blk5 KG7.out.out
     have lp:=cell_lt p0
     have lq:=cell_lt q0
     have lo:=cell_lt o0
     have fo:=KG7.out.out.frozen
     cases hrk : r.ok with
     | false =>
      have HR:=Lib.hid (show sp (.mk k x ks) n S op=⟨false,bareS n,r2.S,r2.op⟩ by rw [HR.out,hrk];rfl)
      go_wp2_with fail
      have ho:=KG7.out.out5 (.string (bareS n).kind) (.bool (bareS n).null) (.string (bareS n).text) (.int .i64 (bareS n).num) (.slice (some ⟨yb,yo,none⟩) (bareS n).kids.length c')
      refine bodyPost_ret (results_ct rfl _ _ (w.heap.size + 2) 52 (synC (bareS n) (some ⟨yb,yo,none⟩) c') rfl ho.1 row52 size52) rfl ?_
      rw [HR.out]
      obtain ⟨-,tb',ho2,ho3⟩:=ho
      exact ⟨⟨bareS n,some ⟨yb,yo,none⟩,c',rfl,fun _=>⟨rfl,HZ.out.2,K4.out.syn⟩⟩,tb',ho2,ho3⟩
     | true =>
      have HR:=Lib.hid (show sp (.mk k x ks) n S op=⟨r2.ok,bareS n,r2.S,r2.op⟩ by rw [HR.out,hrk];rfl)
      go_wp2_with fail
      have ho:=KG7.out.out5 (.string (bareS n).kind) (.bool (bareS n).null) (.string (bareS n).text) (.int .i64 (bareS n).num) (.slice (some ⟨yb,yo,none⟩) (bareS n).kids.length c')
      refine bodyPost_ret (results_ct rfl _ _ (w.heap.size + 2) 52 (synC (bareS n) (some ⟨yb,yo,none⟩) c') rfl ho.1 row52 size52) rfl ?_
      rw [HR.out]
      obtain ⟨-,tb',ho2,ho3⟩:=ho
      exact ⟨⟨bareS n,some ⟨yb,yo,none⟩,c',rfl,fun _=>⟨rfl,HZ.out.2,K4.out.syn⟩⟩,tb',ho2,ho3⟩
end Go.Proofs.YtigalkobmfbdaaaGreatDoor
namespace Go.Proofs.YtigalkobmfbdaaaGreatDoor
open Go.RowKit Go.WideMaps
theorem under55 : Tryz.prog.underlying 55=some (.map 9 52):=by kernel_rfl
theorem zero52 (w : World) : (zeroValue 52).run Tryz.prog w=.ok (.agg #[.string ⟨#[]⟩,.bool false,.string ⟨#[]⟩,.int .i64 0,.slice none 0 0]) w:=by kernel_rfl
def SpG (p : Tree) (P : SL -> Prop) : Prop:=∀ n,RZ n -> ∀ (nm : Names),nm.length <= 64 -> (∀ x ∈ namesT p,x ∈ nm) -> ∀ (S : SL) (op : Bool) (w0 w : World) (mb tb : Nat) (ta : Option Addr) (tc : Nat) (a : Option Addr) (c : Nat),P S -> TreeAt w0 ta tc p -> SynX (fun _=>True) w0 a c n -> MSt w0 nm mb tb w S op →
 Calls Tryz.prog 61 #[.pointer (some ⟨mb,0,none⟩),treeV p ta tc,synV n a c] w (SpP w0 nm mb tb w (sp p n S op))
theorem SpS.bound {w0 : World} {nm : Names} {mb tb0 tb : Nat} {w : World} {S : SL} {op : Bool} {k x : ByteArray} {ks : List Tree} {ta : Option Addr} {tc : Nat} {n : Syn} {a : Option Addr} {c : Nat} {w1 : World} (h : SpS w0 nm mb tb0 tb w S op k x ks ta tc n a c w1) {s : List UInt8} (hs : s ∈ nm) {u : Syn} (hu : RZ u) {ua : Option Addr} {uc : Nat} (hX : SynX (fun _=>True) w0 ua uc u) {V : VL} (hVR : VR (SynR w0) V S) {w2 : World} (hV : RawMap w2 tb ((V.filter fun y=>y.1 != s) ++ [(s,synV u ua uc)])) (hT : ExtM (·=tb) w1 w2) : SpS w0 nm mb tb0 tb w (setB S s u) op k x ks ta tc n a c w2:=by
 have hf:=h.far
 have hM:=h.st
 have hlo:=hM.lo
 refine ⟨⟨hT.toExt hM.ext (fun i hi e=>by omega),hlo,hM.ne,hM.blk.extM hT hM.ne,⟨_,hV,hVR.setB s ⟨ua,uc,rfl,hX⟩⟩,hM.keyed.bindB hs hu⟩,h.pat.extM hT (by omega),h.part.extM hT (by omega),h.out.extM hT (by omega),h.syn,⟨?_,h.grown.2⟩,hf⟩
 refine h.grown.1.trans hT (fun i hi e=>?_)
 rcases h.grown.2 with e2 | e2
 ·exact .inr (e.trans e2)
 ·omega
end Go.Proofs.YtigalkobmfbdaaaGreatDoor
set_option maxRecDepth 100000
set_option maxHeartbeats 4000000
namespace Go.Proofs.YtigalkobmfbdaaaGreatDoor
open Go.RowKit Go.WideMaps
theorem sp_bind_a {k x : ByteArray} {ks : List Tree} (hx : x.size <= maxLen) (h0 : ks.length=0) (h1 : (k.toList == [65,110,121])=false) (h2 : (k.toList == [78,105,108])=false) (h3 : (k.toList == [83,116,114,105,110,103])=false) (h4 : (k.toList == [76,105,115,116])=false) (h5 : (k.toList == [66,105,110,100,105,110,103])=true) : SpG (.mk k x ks) (fun S=>getB S x.toList=none):=by
 have HX:=Lib.hid hx
 have HK0:=Lib.hid h0
 clear h0
 intro n hr nm h64 hnm S op w0 w mb tb ta tc a c hg hT hS hM
 have HR:=Lib.hid (show sp (.mk k x ks) n S op=sp (.mk k x ks) n S op from rfl)
 have HZ:=Lib.hid (And.intro hr hr.bare.1)
 simp only [treeV,kind_mk,txt_mk,kids_mk] at *
 have HB:=Lib.hid (sp_begin (k:=k) (x:=x) (ks:=ks) (ta:=ta) (tc:=tc) hM rfl hS)
 have HT:=Lib.hid hT
 have HNM:=Lib.hid (And.intro h64 hnm)
 clear hT hS hM hnm hr h64
 go_enter Tryz.func61,Tryz.ntmps61
 go_wp2_with fail
 obtain ⟨w1,hw1⟩ : ∃ w1,w1=((w.alloc (.cells #[.string k,.string x,.slice ta ks.length tc] 24)).alloc (.cells (synC n a c) 52)).alloc (.cells #[.string ⟨#[]⟩,.bool false,.string ⟨#[]⟩,.int .i64 0,.slice none 0 0] 52):=⟨_,rfl⟩
 have hb:=HB.out
 rw [<- hw1] at hb ⊢
 clear HB hw1
 refine (bare_calls HZ.out.1.1 (hb.syn.fore hb.st.ext)).mono ?_
 rintro e w2 ⟨⟨a',c',rfl,hS'⟩,hE2⟩
 have hb2:=hb.grow hE2
 obtain ⟨p0,p1,p2⟩:=Blk3 hb2.pat
 obtain ⟨q0,q1,q2,q3,q4⟩:=Blk5 hb2.part
 have lp:=cell_lt p0
 have lq:=cell_lt q0
 have fp:=hb2.pat.frozen
 have fq:=hb2.part.frozen
 have K3:=Lib.hid (hb2.part5 (hS'.back hb.st.ext))
 obtain ⟨w3,hw3⟩ : ∃ w3,w3=(((((w2.setCell ⟨w.heap.size + 1,0,none⟩ (.string (bareS n).kind)).setCell ⟨w.heap.size + 1,1,none⟩ (.bool (bareS n).null)).setCell ⟨w.heap.size + 1,2,none⟩ (.string (bareS n).text)).setCell ⟨w.heap.size + 1,3,none⟩ (.int .i64 (bareS n).num)).setCell ⟨w.heap.size + 1,4,none⟩ (.slice a' (bareS n).kids.length c')):=⟨_,rfl⟩
 rw [<- hw3] at K3
 have H3:=Lib.hid hw3
 clear hb hb2 hE2 hS' hw3
 go_upto_region 2 with fail
 rw [<- H3.out]
 clear H3 p0 p1 p2 q0 q1 q2 q3 q4 lp lq fp fq w2
 obtain ⟨p0,p1,p2⟩:=Blk3 K3.out.pat
 obtain ⟨q0,q1,q2,q3,q4⟩:=Blk5 K3.out.part
 obtain ⟨o0,o1,o2,o3,o4⟩:=Blk5 K3.out.out
 have lp:=cell_lt p0
 have lq:=cell_lt q0
 have lo:=cell_lt o0
 have fo:=K3.out.out.frozen
 have m0 : w3.cell? ⟨mb,0,none⟩=some (.map (some tb)):=by rw [K3.out.st.blk.cell];rfl
 have m1 : w3.cell? ⟨mb,1,none⟩=some (.bool op):=by rw [K3.out.st.blk.cell];rfl
 have lm:=K3.out.st.blk.lt
 have fm:=K3.out.st.blk.frozen
 obtain ⟨V,hV,hVR⟩:=K3.out.st.tab
 replace hg : getB S x.toList=none:=hg
 have hgv:=(hVR.get x.toList).1 hg
 have hlk : ∀ W : World,Ext w3 W -> (Instr.lookup 55 (.map (some tb)) (.string x) true).run Tryz.prog W=.ok (.tuple #[.agg #[.string ⟨#[]⟩,.bool false,.string ⟨#[]⟩,.int .i64 0,.slice none 0 0],.bool false]) W:=fun W hW=>by
  have:=look_raw W (hV.ext hW) under55 (zero52 W) (s:=x) hx
  rw [this,hgv]
  rfl
 have hlk1:=hlk w3.drew (Ext.drew _)
 have hlk2:=hlk (w3.alloc (.cells #[.string ⟨#[]⟩,.bool false,.string ⟨#[]⟩,.int .i64 0,.slice none 0 0] 52)).drew ((Ext.alloc _ _).trans (Ext.drew _))
 have HLK:=Lib.hid hlk
 clear hlk hgv hVR hV
 have HG:=Lib.hid hg
 clear hg hx
 go_upto_region 20 with fail
 go_cut [12,13] (fun v12 v13 wx=>v12=.pointer (some ⟨w3.heap.size,0,none⟩) /\ v13=.bool false /\ SpS w0 nm mb tb tb w S op k x ks ta tc (bareS n) a' c' wx /\ Blk wx w3.heap.size #[.string ⟨#[]⟩,.bool false,.string ⟨#[]⟩,.int .i64 0,.slice none 0 0] 52)
 case first =>
  go_region
  all_goals
   go_wp2_with fail
   go_meet
   first
    | exact ⟨rfl,rfl,K3.out.grow ((Ext.alloc _ _).trans (Ext.drew _)),(Blk.new w3 _ 52).ext (Ext.drew _)⟩
    | exact ⟨rfl,rfl,K3.out.grow ((Ext.drew _).trans (Ext.alloc _ _)),Blk.new w3.drew _ 52⟩
    | fail
 case rest =>
  obtain ⟨rfl,rfl,hS4,hB4⟩:=hcut
  have K4:=Lib.hid hS4
  have B4:=Lib.hid hB4
  clear hS4 hB4 hlk1 hlk2 HLK m0 m1 lm fm p0 p1 p2 q0 q1 q2 q3 q4 o0 o1 o2 o3 o4 lp lq lo fo
  obtain ⟨p0,p1,p2⟩:=Blk3 K4.out.pat
  obtain ⟨q0,q1,q2,q3,q4⟩:=Blk5 K4.out.part
  obtain ⟨o0,o1,o2,o3,o4⟩:=Blk5 K4.out.out
  have lp:=cell_lt p0
  have lq:=cell_lt q0
  have lo:=cell_lt o0
  have fo:=K4.out.out.frozen
  have hz0 : ((ks.length : Int) == 0)=true:=by rw [HK0.out];rfl
  have hz1 : ((ks.length : Int) == 1)=false:=by rw [HK0.out];rfl
  have HR:=Lib.hid (show sp (.mk k x ks) n S op=⟨true,bareS n,setB S x.toList (bareS n),op⟩ by
   rw [sp_mk];simp only [h1,h2,h3,h4,h5,Bool.false_eq_true,if_false,if_true]
   cases ks with
   | nil=>simp only [HG.out]
   | cons q qs=>exact absurd HK0.out (by simp))
  have KO:=Lib.hid (K4.out.grow (Ext.alloc wc (.cells #[.string (bareS n).kind,.bool (bareS n).null,.string (bareS n).text,.int .i64 (bareS n).num,.slice a' (bareS n).kids.length c'] 52)))
  have hBO:=Blk.new wc #[.string (bareS n).kind,.bool (bareS n).null,.string (bareS n).text,.int .i64 (bareS n).num,.slice a' (bareS n).kids.length c'] 52
  have hxn : x.toList ∈ nm:=HNM.out.2 _ (by rw [namesT_mk,h5,if_pos rfl];exact mem_addName.2 (.inr rfl))
  go_wp2_with fail
  obtain ⟨w5,hw5⟩ : ∃ w5,w5=wc.alloc (.cells #[.string (bareS n).kind,.bool (bareS n).null,.string (bareS n).text,.int .i64 (bareS n).num,.slice a' (bareS n).kids.length c'] 52):=⟨_,rfl⟩
  rw [<- hw5] at KO hBO ⊢
  have hlw:=K4.out.lts
  have hl4:=K4.out.out.lt
  have BO:=Lib.hid hBO
  clear hw5 hBO p0 p1 p2 q0 q1 q2 q3 q4 o0 o1 o2 o3 o4 lp lq lo fo
  have hbt : ¬ wc.heap.size=tb:=by omega
  obtain ⟨-,p1,-⟩:=Blk3 KO.out.pat
  obtain ⟨b0,b1,b2,b3,b4⟩:=Blk5 BO.out
  have lp:=cell_lt p1
  have lb:=cell_lt b0
  have m0 : w5.cell? ⟨mb,0,none⟩=some (.map (some tb)):=by rw [KO.out.st.blk.cell];rfl
  have lm:=KO.out.st.blk.lt
  obtain ⟨V,hV,hVR⟩:=KO.out.st.tab
  have hnd : (V.map Prod.fst).Nodup:=by rw [hVR.keys];exact KO.out.st.keyed.1
  have hvl : V.length < 1000000:=by have:=keys_size KO.out.st.keyed HNM.out.1;rw [hVR.1];omega
  have KV:=Lib.hid (And.intro (hV.ext (Ext.drew w5)) (And.intro hVR (And.intro hnd hvl)))
  clear hV hVR hnd hvl
  refine wp_region_still_tail 7 (by kernel_rfl) (by kernel_rfl) ?_
  simp only [List.take_succ_cons,List.take_zero,List.drop_succ_cons,List.drop_zero]
  change wpStill _ _ (World.drew _) (fun a'=>wpList _ _ _ _ a' (World.drew _)) _ _
  repeat still_step
  refine wpStill_nil ?_
  go_wp2_with (first
   | (at_mapUpdate;refine wpList_set_raw _ rfl _ _ _ 55 rfl 52 under55 rfl KV.out.1 KV.out.2.2.2 _ _ rfl rfl HX.out KV.out.2.2.1 ?_;intro w9 hV9 hT9;have KB:=Lib.hid ((KO.out.grow (Ext.drew w5)).bound (s:=x.toList) (u:=(bareS n)) (ua:=a') (uc:=c') hxn HZ.out.2 K4.out.syn KV.out.2.1 hV9 (turned_extM hT9));have BB:=Lib.hid ((BO.out.ext (Ext.drew w5)).extM (turned_extM hT9) hbt);clear hV9 hT9 p1 b0 b1 b2 b3 b4 lp lb m0 lm KV;obtain ⟨b0,b1,b2,b3,b4⟩:=Blk5 BB.out;obtain ⟨o0,o1,o2,o3,o4⟩:=Blk5 KB.out.out;have lb:=cell_lt b0;have lo:=cell_lt o0;have fo:=KB.out.out.frozen)
   | fail)
  have ho:=KB.out.out5 (.string (bareS n).kind) (.bool (bareS n).null) (.string (bareS n).text) (.int .i64 (bareS n).num) (.slice a' (bareS n).kids.length c')
  refine bodyPost_ret (results_ct rfl _ _ (w.heap.size + 2) 52 (synC (bareS n) a' c') rfl ho.1 row52 size52) rfl ?_
  rw [HR.out]
  obtain ⟨-,tb',ho2,ho3⟩:=ho
  exact ⟨⟨(bareS n),a',c',rfl,fun _=>⟨rfl,HZ.out.2,K4.out.syn⟩⟩,tb',ho2,ho3⟩
end Go.Proofs.YtigalkobmfbdaaaGreatDoor
set_option maxRecDepth 100000
set_option maxHeartbeats 4000000
namespace Go.Proofs.YtigalkobmfbdaaaGreatDoor
open Go.RowKit Go.WideMaps
theorem sp_bind_b {k x : ByteArray} {ks : List Tree} (hx : x.size <= maxLen) (h0k : 0 < ks.length) (h1k : ks.length=1) (ih : SpC ks[0]) (h1 : (k.toList == [65,110,121])=false) (h2 : (k.toList == [78,105,108])=false) (h3 : (k.toList == [83,116,114,105,110,103])=false) (h4 : (k.toList == [76,105,115,116])=false) (h5 : (k.toList == [66,105,110,100,105,110,103])=true) : SpG (.mk k x ks) (fun S=>getB S x.toList=none):=by
 have HX:=Lib.hid hx
 have HL:=Lib.hid ih
 have HK0:=Lib.hid h1k
 clear ih h1k
 intro n hr nm h64 hnm S op w0 w mb tb ta tc a c hg hT hS hM
 have HR:=Lib.hid (show sp (.mk k x ks) n S op=sp (.mk k x ks) n S op from rfl)
 have HZ:=Lib.hid (And.intro hr hr.bare.1)
 simp only [treeV,kind_mk,txt_mk,kids_mk] at *
 have HB:=Lib.hid (sp_begin (k:=k) (x:=x) (ks:=ks) (ta:=ta) (tc:=tc) hM rfl hS)
 have HT:=Lib.hid hT
 have HNM:=Lib.hid (And.intro h64 hnm)
 clear hT hS hM hnm hr h64
 go_enter Tryz.func61,Tryz.ntmps61
 go_wp2_with fail
 obtain ⟨w1,hw1⟩ : ∃ w1,w1=((w.alloc (.cells #[.string k,.string x,.slice ta ks.length tc] 24)).alloc (.cells (synC n a c) 52)).alloc (.cells #[.string ⟨#[]⟩,.bool false,.string ⟨#[]⟩,.int .i64 0,.slice none 0 0] 52):=⟨_,rfl⟩
 have hb:=HB.out
 rw [<- hw1] at hb ⊢
 clear HB hw1
 refine (bare_calls HZ.out.1.1 (hb.syn.fore hb.st.ext)).mono ?_
 rintro e w2 ⟨⟨a',c',rfl,hS'⟩,hE2⟩
 have hb2:=hb.grow hE2
 obtain ⟨p0,p1,p2⟩:=Blk3 hb2.pat
 obtain ⟨q0,q1,q2,q3,q4⟩:=Blk5 hb2.part
 have lp:=cell_lt p0
 have lq:=cell_lt q0
 have fp:=hb2.pat.frozen
 have fq:=hb2.part.frozen
 have K3:=Lib.hid (hb2.part5 (hS'.back hb.st.ext))
 obtain ⟨w3,hw3⟩ : ∃ w3,w3=(((((w2.setCell ⟨w.heap.size + 1,0,none⟩ (.string (bareS n).kind)).setCell ⟨w.heap.size + 1,1,none⟩ (.bool (bareS n).null)).setCell ⟨w.heap.size + 1,2,none⟩ (.string (bareS n).text)).setCell ⟨w.heap.size + 1,3,none⟩ (.int .i64 (bareS n).num)).setCell ⟨w.heap.size + 1,4,none⟩ (.slice a' (bareS n).kids.length c')):=⟨_,rfl⟩
 rw [<- hw3] at K3
 have H3:=Lib.hid hw3
 clear hb hb2 hE2 hS' hw3
 go_upto_region 2 with fail
 rw [<- H3.out]
 clear H3 p0 p1 p2 q0 q1 q2 q3 q4 lp lq fp fq w2
 obtain ⟨p0,p1,p2⟩:=Blk3 K3.out.pat
 obtain ⟨q0,q1,q2,q3,q4⟩:=Blk5 K3.out.part
 obtain ⟨o0,o1,o2,o3,o4⟩:=Blk5 K3.out.out
 have lp:=cell_lt p0
 have lq:=cell_lt q0
 have lo:=cell_lt o0
 have fo:=K3.out.out.frozen
 have m0 : w3.cell? ⟨mb,0,none⟩=some (.map (some tb)):=by rw [K3.out.st.blk.cell];rfl
 have m1 : w3.cell? ⟨mb,1,none⟩=some (.bool op):=by rw [K3.out.st.blk.cell];rfl
 have lm:=K3.out.st.blk.lt
 have fm:=K3.out.st.blk.frozen
 obtain ⟨V,hV,hVR⟩:=K3.out.st.tab
 replace hg : getB S x.toList=none:=hg
 have hgv:=(hVR.get x.toList).1 hg
 have hlk : ∀ W : World,Ext w3 W -> (Instr.lookup 55 (.map (some tb)) (.string x) true).run Tryz.prog W=.ok (.tuple #[.agg #[.string ⟨#[]⟩,.bool false,.string ⟨#[]⟩,.int .i64 0,.slice none 0 0],.bool false]) W:=fun W hW=>by
  have:=look_raw W (hV.ext hW) under55 (zero52 W) (s:=x) hx
  rw [this,hgv]
  rfl
 have hlk1:=hlk w3.drew (Ext.drew _)
 have hlk2:=hlk (w3.alloc (.cells #[.string ⟨#[]⟩,.bool false,.string ⟨#[]⟩,.int .i64 0,.slice none 0 0] 52)).drew ((Ext.alloc _ _).trans (Ext.drew _))
 have HLK:=Lib.hid hlk
 clear hlk hgv hVR hV
 have HG:=Lib.hid hg
 clear hg hx
 go_upto_region 20 with fail
 go_cut [12,13] (fun v12 v13 wx=>v12=.pointer (some ⟨w3.heap.size,0,none⟩) /\ v13=.bool false /\ SpS w0 nm mb tb tb w S op k x ks ta tc (bareS n) a' c' wx /\ Blk wx w3.heap.size #[.string ⟨#[]⟩,.bool false,.string ⟨#[]⟩,.int .i64 0,.slice none 0 0] 52)
 case first =>
  go_region
  all_goals
   go_wp2_with fail
   go_meet
   first
    | exact ⟨rfl,rfl,K3.out.grow ((Ext.alloc _ _).trans (Ext.drew _)),(Blk.new w3 _ 52).ext (Ext.drew _)⟩
    | exact ⟨rfl,rfl,K3.out.grow ((Ext.drew _).trans (Ext.alloc _ _)),Blk.new w3.drew _ 52⟩
    | fail
 case rest =>
  obtain ⟨rfl,rfl,hS4,hB4⟩:=hcut
  have K4:=Lib.hid hS4
  have B4:=Lib.hid hB4
  clear hS4 hB4 hlk1 hlk2 HLK m0 m1 lm fm p0 p1 p2 q0 q1 q2 q3 q4 o0 o1 o2 o3 o4 lp lq lo fo
  obtain ⟨p0,p1,p2⟩:=Blk3 K4.out.pat
  obtain ⟨q0,q1,q2,q3,q4⟩:=Blk5 K4.out.part
  obtain ⟨o0,o1,o2,o3,o4⟩:=Blk5 K4.out.out
  have lp:=cell_lt p0
  have lq:=cell_lt q0
  have lo:=cell_lt o0
  have fo:=K4.out.out.frozen
  have hz0 : ((ks.length : Int) == 0)=false:=by rw [HK0.out];rfl
  have hz1 : ((ks.length : Int) == 1)=true:=by rw [HK0.out];rfl
  have HR:=Lib.hid (show sp (.mk k x ks) n S op=⟨(sp ks[0] (bareS n) S op).ok,(sp ks[0] (bareS n) S op).out,if (sp ks[0] (bareS n) S op).ok then setB (sp ks[0] (bareS n) S op).S x.toList (sp ks[0] (bareS n) S op).out else (sp ks[0] (bareS n) S op).S,(sp ks[0] (bareS n) S op).op⟩ by
   rw [sp_mk];simp only [h1,h2,h3,h4,h5,Bool.false_eq_true,if_false,if_true]
   match ks,h0k with
   | q :: qs,_=>simp only [HG.out];rfl)
  have KO:=Lib.hid (K4.out.grow (Ext.alloc wc (.cells #[.string (bareS n).kind,.bool (bareS n).null,.string (bareS n).text,.int .i64 (bareS n).num,.slice a' (bareS n).kids.length c'] 52)))
  have hBO:=Blk.new wc #[.string (bareS n).kind,.bool (bareS n).null,.string (bareS n).text,.int .i64 (bareS n).num,.slice a' (bareS n).kids.length c'] 52
  have hxn : x.toList ∈ nm:=HNM.out.2 _ (by rw [namesT_mk,h5,if_pos rfl];exact mem_addName.2 (.inr rfl))
  obtain ⟨qb,qo,qa,qc,rfl,-,t0,t1,t2,hq⟩:=HT.out.kid 0 (by simpa [kids_mk] using h0k)
  have htc:=HT.out.kids.1
  simp only [kids_mk,Nat.zero_mul,Nat.add_zero] at t0 t1 t2 hq htc
  go_wp2_with fail
  obtain ⟨w5,hw5⟩ : ∃ w5,w5=wc.alloc (.cells #[.string (bareS n).kind,.bool (bareS n).null,.string (bareS n).text,.int .i64 (bareS n).num,.slice a' (bareS n).kids.length c'] 52):=⟨_,rfl⟩
  rw [<- hw5] at KO hBO ⊢
  have hlw:=K4.out.lts
  have hl4:=K4.out.out.lt
  have BO:=Lib.hid hBO
  clear hw5 hBO p0 p1 p2 q0 q1 q2 q3 q4 o0 o1 o2 o3 o4 lp lq lo fo
  obtain ⟨p0,p1,p2⟩:=Blk3 KO.out.pat
  obtain ⟨q0,q1,q2,q3,q4⟩:=Blk5 KO.out.part
  obtain ⟨o0,o1,o2,o3,o4⟩:=Blk5 KO.out.out
  have lp:=cell_lt p0
  have lq:=cell_lt q0
  have lo:=cell_lt o0
  have fo:=KO.out.out.frozen
  obtain ⟨b0,b1,b2,b3,b4⟩:=Blk5 BO.out
  have lb : wc.heap.size < w5.heap.size:=cell_lt b0
  have fb:=BO.out.frozen
  have T00:=Lib.hid (And.intro t0 (And.intro t1 t2))
  replace t0:=KO.out.st.ext.keep t0
  replace t1:=KO.out.st.ext.keep t1
  replace t2:=KO.out.st.ext.keep t2
  have tl:=cell_lt t0
  have HC:=Lib.hid (fun (w' : World) (hx : Ext w5 w')=>KO.out.call HL.out (HZ.out.1.bare.1) HNM.out.1 (fun s hs=>HNM.out.2 s (names_kid (List.getElem_mem h0k) s hs)) hq K4.out.syn hx)
  clear hq
  generalize sp ks[0] (bareS n) S op=r at *
  have FF : ∀ (b : Nat),wc.heap.size ≠ b -> ∀ (W : World) (o o' : Nat) (v : Value),(W.setCell ⟨wc.heap.size,o,none⟩ v).cell? ⟨b,o',none⟩=W.cell? ⟨b,o',none⟩:=fun b hb W o o' v=>World.cell?_setCell_far W _ _ _ hb
  have F0:=FF (w.heap.size) (by omega)
  have F1:=FF (w.heap.size + 1) (by omega)
  have F2:=FF qb (by have h1 : qb < w0.heap.size:=cell_lt T00.out.1;have h2:=K4.out.st.ext.size;omega)
  clear FF
  go_region_held3 (fun w'=>w'.cell? ⟨w.heap.size,2,none⟩=some (.slice (some ⟨qb,qo,none⟩) ks.length tc) /\ w'.cell? ⟨qb,qo,none⟩=some (.string ks[0].kind) /\ w'.cell? ⟨qb,qo + 1,none⟩=some (.string ks[0].text) /\ w'.cell? ⟨qb,qo + 2,none⟩=some (.slice qa ks[0].kids.length qc) /\ w'.cell? ⟨w.heap.size + 1,0,none⟩=some (.string (bareS n).kind) /\ w'.cell? ⟨w.heap.size + 1,1,none⟩=some (.bool (bareS n).null) /\ w'.cell? ⟨w.heap.size + 1,2,none⟩=some (.string (bareS n).text) /\ w'.cell? ⟨w.heap.size + 1,3,none⟩=some (.int .i64 (bareS n).num) /\ w'.cell? ⟨w.heap.size + 1,4,none⟩=some (.slice a' (bareS n).kids.length c')) (first | go_keep | (simp only [F0,F1,F2];exact ⟨y7_0,y7_1,y7_2,y7_3,y7_4,y7_5,y7_6,y7_7,y7_8⟩))
   (first
    | (go_at_call 61;refine (HC.out _ (Ext.drew _)).mono ?_;rintro e w7 ⟨⟨o7,a7,c7,rfl,ho7⟩,tb7,hS7,hT7⟩;have K7:=Lib.hid hS7;have H7:=Lib.hid ho7;have htn : tb7 ≠ wc.heap.size:=(hT7.2.elim (fun e=>by omega) (fun e=>by have h3 : w5.heap.size <= tb7:=(by simpa using e);omega));have hB7:=(BO.out.ext (Ext.drew w5)).extM hT7.1 (by omega);have KG7:=Lib.hid (hS7.aside (b:=wc.heap.size) (by omega) (by omega) (fun e=>htn e.symm) (.string o7.kind) (.bool o7.null) (.string o7.text) (.int .i64 o7.num) (.slice a7 o7.kids.length c7));have BG7:=Lib.hid (Blk.set5 hB7 rfl (.string o7.kind) (.bool o7.null) (.string o7.text) (.int .i64 o7.num) (.slice a7 o7.kids.length c7));obtain ⟨z0,z1,z2,z3,z4⟩:=Blk5 hB7;have zl:=cell_lt z0;have zf:=hB7.frozen;have y7_0:=(Blk3 K7.out.pat).2.2;have y7_1:=K7.out.st.ext.keep T00.out.1;have y7_2:=K7.out.st.ext.keep T00.out.2.1;have y7_3:=K7.out.st.ext.keep T00.out.2.2;have y7_4:=(Blk5 K7.out.part).1;have y7_5:=(Blk5 K7.out.part).2.1;have y7_6:=(Blk5 K7.out.part).2.2.1;have y7_7:=(Blk5 K7.out.part).2.2.2.1;have y7_8:=(Blk5 K7.out.part).2.2.2.2;clear hB7 hS7 ho7 hT7)
    | fail)
  all_goals
   obtain ⟨w8,hw8⟩ : ∃ w8,w8=(((((w7.setCell ⟨wc.heap.size,0,none⟩ (.string o7.kind)).setCell ⟨wc.heap.size,1,none⟩ (.bool o7.null)).setCell ⟨wc.heap.size,2,none⟩ (.string o7.text)).setCell ⟨wc.heap.size,3,none⟩ (.int .i64 o7.num)).setCell ⟨wc.heap.size,4,none⟩ (.slice a7 o7.kids.length c7)):=⟨_,rfl⟩
   rw [<- hw8] at KG7 BG7 ⊢
   clear hw8 p0 p1 p2 q0 q1 q2 q3 q4 o0 o1 o2 o3 o4 lp lq lo fo b0 b1 b2 b3 b4 lb fb t0 t1 t2 tl
   have hbt : ¬ wc.heap.size=tb7:=fun e=>htn e.symm
   cases hrk : r.ok with
   | true =>
    have H8:=Lib.hid (H7.out hrk)
    obtain ⟨rfl,-,-⟩:=H8.out
    have HR:=Lib.hid (show sp (.mk k x ks) n S op=⟨true,r.out,setB r.S x.toList r.out,r.op⟩ by rw [HR.out,hrk,if_pos rfl])
    go_wp2_with fail
    obtain ⟨-,p1,-⟩:=Blk3 KG7.out.pat
    obtain ⟨b0,b1,b2,b3,b4⟩:=Blk5 BG7.out
    have lp:=cell_lt p1
    have lb:=cell_lt b0
    have m0 : w8.cell? ⟨mb,0,none⟩=some (.map (some tb7)):=by rw [KG7.out.st.blk.cell];rfl
    have lm:=KG7.out.st.blk.lt
    obtain ⟨V,hV,hVR⟩:=KG7.out.st.tab
    have hnd : (V.map Prod.fst).Nodup:=by rw [hVR.keys];exact KG7.out.st.keyed.1
    have hvl : V.length < 1000000:=by have:=keys_size KG7.out.st.keyed HNM.out.1;rw [hVR.1];omega
    have KV:=Lib.hid (And.intro (hV.ext (Ext.drew w8)) (And.intro hVR (And.intro hnd hvl)))
    clear hV hVR hnd hvl
    refine wp_region_still_tail 7 (by kernel_rfl) (by kernel_rfl) ?_
    simp only [List.take_succ_cons,List.take_zero,List.drop_succ_cons,List.drop_zero]
    change wpStill _ _ (World.drew _) (fun a'=>wpList _ _ _ _ a' (World.drew _)) _ _
    repeat still_step
    refine wpStill_nil ?_
    go_wp2_with (first
     | (at_mapUpdate;refine wpList_set_raw _ rfl _ _ _ 55 rfl 52 under55 rfl KV.out.1 KV.out.2.2.2 _ _ rfl rfl HX.out KV.out.2.2.1 ?_;intro w9 hV9 hT9;have KB:=Lib.hid ((KG7.out.grow (Ext.drew w8)).bound (s:=x.toList) (u:=r.out) (ua:=a7) (uc:=c7) hxn H8.out.2.1 H8.out.2.2 KV.out.2.1 hV9 (turned_extM hT9));have BB:=Lib.hid ((BG7.out.ext (Ext.drew w8)).extM (turned_extM hT9) hbt);clear hV9 hT9 p1 b0 b1 b2 b3 b4 lp lb m0 lm KV;obtain ⟨b0,b1,b2,b3,b4⟩:=Blk5 BB.out;obtain ⟨o0,o1,o2,o3,o4⟩:=Blk5 KB.out.out;have lb:=cell_lt b0;have lo:=cell_lt o0;have fo:=KB.out.out.frozen)
     | fail)
    have ho:=KB.out.out5 (.string r.out.kind) (.bool r.out.null) (.string r.out.text) (.int .i64 r.out.num) (.slice a7 r.out.kids.length c7)
    refine bodyPost_ret (results_ct rfl _ _ (w.heap.size + 2) 52 (synC r.out a7 c7) rfl ho.1 row52 size52) rfl ?_
    rw [HR.out]
    obtain ⟨-,tb',ho2,ho3⟩:=ho
    exact ⟨⟨r.out,a7,c7,rfl,fun _=>⟨rfl,H8.out.2.1,H8.out.2.2⟩⟩,tb',ho2,ho3⟩
   | false =>
    have HR:=Lib.hid (show sp (.mk k x ks) n S op=⟨false,r.out,r.S,r.op⟩ by rw [HR.out,hrk];rfl)
    obtain ⟨b0,b1,b2,b3,b4⟩:=Blk5 BG7.out
    obtain ⟨o0,o1,o2,o3,o4⟩:=Blk5 KG7.out.out
    have lb:=cell_lt b0
    have lo:=cell_lt o0
    have fo:=KG7.out.out.frozen
    go_wp2_with fail
    have ho:=KG7.out.out5 (.string o7.kind) (.bool o7.null) (.string o7.text) (.int .i64 o7.num) (.slice a7 o7.kids.length c7)
    refine bodyPost_ret (results_ct rfl _ _ (w.heap.size + 2) 52 (synC o7 a7 c7) rfl ho.1 row52 size52) rfl ?_
    rw [HR.out]
    obtain ⟨-,tb',ho2,ho3⟩:=ho
    exact ⟨⟨o7,a7,c7,rfl,fun h=>(by cases h)⟩,tb',ho2,ho3⟩
end Go.Proofs.YtigalkobmfbdaaaGreatDoor
