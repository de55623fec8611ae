/- The reference's Match at 'or': a map copied. -/
import Derived.Test.YtigalkobmfbdaaaGreatDoorMix2x
import Derived.Sort.KeysCollected
set_option linter.unusedVariables false
set_option linter.unusedSimpArgs false
namespace Go.Proofs.YtigalkobmfbdaaaGreatDoor
open Go.RowKit Go.WideMaps
open Go.Proofs (encStr)
def CopyR (V : VL) (left : Lit -> Bool) (V' : VL) : Prop:=(V'.map Prod.fst).Nodup /\ ∀ s,getB V' s=if left (keyL s) then none else getB V s
theorem CopyR.start {D : DataW Value} {V : VL} (hD : RawD D V) : CopyR V (Maps.has D) []:=⟨List.nodup_nil,fun s=>by
 rw [hD.2.1]
 cases h : getB V s <;> rfl⟩
theorem CopyR.step {V : VL} {left : Lit -> Bool} {V' : VL} (h : CopyR V left V') {s : List UInt8} {v : Value} (hg : getB V s=some v) : CopyR V (fun z=>left z && !z.sameKey (keyL s)) ((V'.filter fun x=>x.1 != s) ++ [(s,v)]):=by
 have hn : (((V'.filter fun x=>x.1 != s)).map Prod.fst).Nodup:=(List.filter_sublist.map Prod.fst).nodup h.1
 refine ⟨?_,fun t=>?_⟩
 ·rw [List.map_append]
  refine List.nodup_append.2 ⟨hn,by simp,fun a ha b hb=>?_⟩
  simp only [List.map_cons,List.map_nil,List.mem_singleton] at hb
  subst hb
  obtain ⟨y,hy,rfl⟩:=List.mem_map.1 ha
  have:=(List.mem_filter.1 hy).2
  simpa using this
 ·rw [getB_snoc _ s v t (by rw [getB_filter,if_pos rfl]),getB_filter,h.2 t]
  by_cases e : t=s
  ·subst e
   rw [if_pos rfl,hg]
   simp [Lit.sameKey,keyL]
  ·rw [if_neg e,if_neg e]
   have hk : (keyL t).sameKey (keyL s)=false:=by simp [Lit.sameKey,keyL,e]
   simp [hk]
theorem CopyR.done {V : VL} {left : Lit -> Bool} {V' : VL} (h : CopyR V left V') (hl : ∀ kl,left kl=false) (hn : (V.map Prod.fst).Nodup) : (∀ s,getB V' s=getB V s) /\ V'.length=V.length:=by
 have h1 : ∀ s,getB V' s=getB V s:=fun s=>by rw [h.2 s,hl];rfl
 refine ⟨h1,?_⟩
 have hp : (V'.map Prod.fst).Perm (V.map Prod.fst):=(List.perm_ext_iff_of_nodup h.1 hn).2 fun s=>by
  have e1:=getB_none V' s
  have e2:=getB_none V s
  rw [h1 s] at e1
  exact ⟨fun hs=>Decidable.byContradiction fun hc=>(e1.1 (e2.2 hc)) hs,fun hs=>Decidable.byContradiction fun hc=>(e2.1 (e1.2 hc)) hs⟩
 simpa using hp.length_eq
theorem RawMap.same {w : World} {b : Nat} {V' V : VL} (h : RawMap w b V') (hs : (∀ s,getB V' s=getB V s) /\ V'.length=V.length) : RawMap w b V:=by
 obtain ⟨D,hO,hD⟩:=h
 exact .mk hO ⟨hD.1.trans hs.2,fun s=>by rw [hD.2.1,hs.1],fun s v hv z=>hD.2.2 s v (by rw [hs.1];exact hv) z⟩
theorem copy_met {w0 : World} {D : DataW Value} {V : VL} {S : SL} (hD : RawD D V) (hVR : VR (SynR w0) V S) {s : List UInt8} {v : Value} {y : DataW Value × List MemPlace} (hv : rawElem v=some y) (hat : ∀ zd,D.atKey (keyL s) zd=y.1) : getB V s=some v /\ ∃ t a c,v=synV t a c:=by
 have hh : Maps.has D (keyL s)=true:=Maps.has_true_of_atKey hat
 rw [hD.2.1] at hh
 obtain ⟨v',hv'⟩:=Option.isSome_iff_exists.1 hh
 have h1:=hD.2.2 s v' hv' (.held v)
 rw [hat] at h1
 unfold rawElem at hv
 cases hv
 cases h1
 refine ⟨hv',?_⟩
 cases hg : getB S s with
 | none=>rw [(hVR.get s).1 hg] at hv';cases hv'
 | some t =>
  obtain ⟨u,hu,a,c,rfl,-⟩:=(hVR.get s).2 t hg
  rw [hu] at hv'
  cases hv'
  exact ⟨t,a,c,rfl⟩
theorem SpS.again {w0 : World} {nm : Names} {mb tb0 tb : Nat} {w : World} {S S' : SL} {op : Bool} {k x : ByteArray} {ks : List Tree} {ta : Option Addr} {tc : Nat} {n : Syn} {a : Option Addr} {c : Nat} {w1 : World} (h : SpS w0 nm mb tb0 tb w S' op k x ks ta tc n a c w1) {cb : Nat} {V : VL} (hV : RawMap w1 cb V) (hR : VR (SynR w0) V S) (hK : Keyed nm S) (hcb : w.heap.size + 3 <= cb) : SpS w0 nm mb tb0 cb w S op k x ks ta tc n a c (w1.setCell ⟨mb,0,none⟩ (.map (some cb))):=by
 have hf:=h.far
 have hM:=h.st
 have hlo:=hM.lo
 have hT : ExtM (·=mb) w1 (w1.setCell ⟨mb,0,none⟩ (.map (some cb))):=(ExtM.refl (·=mb) w1).set1 0 _
 have hB : Blk (w1.setCell ⟨mb,0,none⟩ (.map (some cb))) mb #[.map (some cb),.bool op] 94:=hM.blk.set 0 _
 refine ⟨⟨hT.toExt hM.ext (fun i hi e=>by omega),⟨hlo.1,by omega⟩,by omega,hB,⟨V,hV.extM hT (by omega),hR⟩,hK⟩,h.pat.extM hT (by omega),h.part.extM hT (by omega),h.out.extM hT (by omega),h.syn,⟨?_,.inr (by omega)⟩,hf.1,.inr hcb⟩
 exact h.grown.1.trans hT (fun i hi e=>.inl e)
end Go.Proofs.YtigalkobmfbdaaaGreatDoor
set_option maxRecDepth 100000
set_option maxHeartbeats 4000000
namespace Go.Proofs.YtigalkobmfbdaaaGreatDoor
open Go.RowKit Go.WideMaps
open Go.Proofs (encStr)
theorem sp_or {k x : ByteArray} {ks : List Tree} (ih : ∀ (j : Nat) (hj : j < ks.length),SpC ks[j]) (hkl : ks.length <= 1000) (h1 : (k.toList == [65,110,121])=false) (h2 : (k.toList == [78,105,108])=false) (h3 : (k.toList == [83,116,114,105,110,103])=false) (h4 : (k.toList == [76,105,115,116])=false) (h5 : (k.toList == [66,105,110,100,105,110,103])=false) (h6 : (k.toList == [79,114])=true) : SpC (.mk k x ks):=by
 have HL:=Lib.hid ih
 clear ih
 intro n hr nm h64 hnm S op w0 w mb tb ta tc a c hT hS hM
 have HR:=Lib.hid (show sp (.mk k x ks) n S op=spOr ks (bareS n) S op by rw [sp_mk];simp only [h1,h2,h3,h4,h5,h6,Bool.false_eq_true,if_false,if_true])
 have HZ:=Lib.hid (And.intro hr hr.bare.1)
 simp only [treeV,kind_mk,txt_mk,kids_mk] at *
 have HB:=Lib.hid (sp_begin (k:=k) (x:=x) (ks:=ks) (ta:=ta) (tc:=tc) hM rfl hS)
 have HT:=Lib.hid hT
 have HNM:=Lib.hid (And.intro h64 hnm)
 clear hT hS hM hnm hr h64
 go_enter Tryz.func61,Tryz.ntmps61
 go_wp2_with fail
 obtain ⟨w1,hw1⟩ : ∃ w1,w1=((w.alloc (.cells #[.string k,.string x,.slice ta ks.length tc] 24)).alloc (.cells (synC n a c) 52)).alloc (.cells #[.string ⟨#[]⟩,.bool false,.string ⟨#[]⟩,.int .i64 0,.slice none 0 0] 52):=⟨_,rfl⟩
 have hb:=HB.out
 rw [<- hw1] at hb ⊢
 clear HB hw1
 refine (bare_calls HZ.out.1.1 (hb.syn.fore hb.st.ext)).mono ?_
 rintro e w2 ⟨⟨a',c',rfl,hS'⟩,hE2⟩
 have hb2:=hb.grow hE2
 obtain ⟨p0,p1,p2⟩:=Blk3 hb2.pat
 obtain ⟨q0,q1,q2,q3,q4⟩:=Blk5 hb2.part
 have lp:=cell_lt p0
 have lq:=cell_lt q0
 have fp:=hb2.pat.frozen
 have fq:=hb2.part.frozen
 have K3:=Lib.hid (hb2.part5 (hS'.back hb.st.ext))
 obtain ⟨w3,hw3⟩ : ∃ w3,w3=(((((w2.setCell ⟨w.heap.size + 1,0,none⟩ (.string (bareS n).kind)).setCell ⟨w.heap.size + 1,1,none⟩ (.bool (bareS n).null)).setCell ⟨w.heap.size + 1,2,none⟩ (.string (bareS n).text)).setCell ⟨w.heap.size + 1,3,none⟩ (.int .i64 (bareS n).num)).setCell ⟨w.heap.size + 1,4,none⟩ (.slice a' (bareS n).kids.length c')):=⟨_,rfl⟩
 rw [<- hw3] at K3
 have H3:=Lib.hid hw3
 clear hb hb2 hE2 hS' hw3
 go_upto_region 2 with fail
 rw [<- H3.out]
 clear H3 p0 p1 p2 q0 q1 q2 q3 q4 lp lq fp fq w2
 obtain ⟨p0,p1,p2⟩:=Blk3 K3.out.pat
 obtain ⟨q0,q1,q2,q3,q4⟩:=Blk5 K3.out.part
 obtain ⟨o0,o1,o2,o3,o4⟩:=Blk5 K3.out.out
 have lp:=cell_lt p0
 have lq:=cell_lt q0
 have lo:=cell_lt o0
 have fo:=K3.out.out.frozen
 have htc:=HT.out.kids.1
 simp only [kids_mk] at htc
 go_wp2_with fail
 go_loopw [205] (fun iv wr=>∃ (j : Nat) (op1 : Bool) (tb1 : Nat),iv=.int .i64 j /\ j <= ks.length /\ SpS w0 nm mb tb tb1 w S op1 k x ks ta tc (bareS n) a' c' wr /\ Hid (spOr ks (bareS n) S op=spOr (ks.drop j) (bareS n) S op1)) (fun iv _=>ks.length - (intOf iv).toNat)
 case atStart=>exact ⟨0,op,tb,rfl,Nat.zero_le _,K3.out,Lib.hid rfl⟩
 case round =>
  obtain ⟨j,op1,tb1,rfl,hj,hS1,hD⟩:=hrel
  have K4:=Lib.hid hS1
  clear hS1 p0 p1 p2 q0 q1 q2 q3 q4 o0 o1 o2 o3 o4 lp lq lo fo
  obtain ⟨p0,p1,p2⟩:=Blk3 K4.out.pat
  obtain ⟨q0,q1,q2,q3,q4⟩:=Blk5 K4.out.part
  obtain ⟨o0,o1,o2,o3,o4⟩:=Blk5 K4.out.out
  have lp:=cell_lt p0
  have lq:=cell_lt q0
  have lo:=cell_lt o0
  have fo:=K4.out.out.frozen
  by_cases hlt : j < ks.length
  ·obtain ⟨qb,qo,qa,qc,rfl,-,t0,t1,t2,hq⟩:=HT.out.kid j (by simpa [kids_mk] using hlt)
   simp only [kids_mk] at t0 t1 t2 hq
   have HQ:=Lib.hid hq
   replace t0:=K4.out.st.ext.keep t0
   replace t1:=K4.out.st.ext.keep t1
   replace t2:=K4.out.st.ext.keep t2
   have tl:=cell_lt t0
   have m0 : wr.cell? ⟨mb,0,none⟩=some (.map (some tb1)):=by rw [K4.out.st.blk.cell];rfl
   have lm:=K4.out.st.blk.lt
   have HD2 : Hid (spOr ks (bareS n) S op=if (sp ks[j] (bareS n) S op1).ok then sp ks[j] (bareS n) S op1 else spOr (ks.drop (j + 1)) (bareS n) S (sp ks[j] (bareS n) S op1).op):=Lib.hid (by
    rw [hD.out,List.drop_eq_getElem_cons hlt,spOr])
   have KB:=Lib.hid (K4.out.grow (Ext.alloc wr (.cells #[.string ks[j].kind,.string ks[j].text,.slice qa ks[j].kids.length qc] 24)))
   have hBB:=Blk.new wr #[.string ks[j].kind,.string ks[j].text,.slice qa ks[j].kids.length qc] 24
   have hmm:=@run_makeMap Tryz.prog
   clear hq
   go_upto_region 39 with fail
   obtain ⟨wb,hwb⟩ : ∃ wb,wb=wr.alloc (.cells #[.string ks[j].kind,.string ks[j].text,.slice qa ks[j].kids.length qc] 24):=⟨_,rfl⟩
   rw [<- hwb] at KB hBB ⊢
   have hlb : wr.heap.size < wb.heap.size:=hBB.lt
   have hlo4:=K4.out.out.lt
   have hl4:=K4.out.lts
   have BB:=Lib.hid hBB
   have hcb0 : wr.heap.size + 1=wb.heap.size:=by rw [hwb];simp
   clear hwb hBB p0 p1 p2 q0 q1 q2 q3 q4 o0 o1 o2 o3 o4 lp lq lo fo t0 t1 t2 tl m0 lm hmm
   have m0 : wb.cell? ⟨mb,0,none⟩=some (.map (some tb1)):=by rw [KB.out.st.blk.cell];rfl
   have lm:=KB.out.st.blk.lt
   obtain ⟨V,⟨D,hO,hDV⟩,hVR⟩:=(KB.out.grow (Ext.alloc wb (.map #[] 0))).st.tab
   have hks:=keys_size KB.out.st.keyed HNM.out.1
   have hV64 : V.length <= 64:=by rw [hVR.1];exact hks
   have HO:=Lib.hid hO
   have HDV:=Lib.hid (And.intro hDV hVR)
   clear hO hDV hVR
   go_wp2_with (first
    | (at_range;refine wpList_range_own _ rfl _ 55 rfl 9 52 law9 under55 _ tb1 _ D rfl HO.out ?_;intro w5 hrg5 hg5 hs5)
    | fail)
   have HE5:=Lib.hid ((Ext.alloc wb (.map #[] 0)).grown hg5 (fun k hk=>by cases hk))
   have HM5:=Lib.hid ((RawMap.made wb).ext ((Ext.refl _).grown hg5 (fun k hk=>by cases hk)))
   have hrb : (wb.alloc (.map #[] 0)).heap.size=wb.heap.size + 1:=by simp
   rw [hrb] at hrg5
   have HR5:=Lib.hid hrg5
   have HRB:=Lib.hid hrb
   clear hrb
   clear hg5 hs5 hrg5 m0 lm
   go_frame
   obtain ⟨kb,hkb⟩ : ∃ kb,kb=wr.heap.size:=⟨_,rfl⟩
   obtain ⟨cb,hcb⟩ : ∃ cb,cb=wb.heap.size:=⟨_,rfl⟩
   rw [HRB.out]
   rw [hcb0,<- hcb]
   rw [<- hkb] at BB hl4 hlo4 hcb0 hlb ⊢
   rw [<- hcb] at HM5 HR5
   have HCB:=Lib.hid (And.intro hcb (And.intro hcb0 (And.intro hl4 hlo4)))
   clear hcb hcb0 hl4 hlo4 hlb hkb
   have hnd : (V.map Prod.fst).Nodup:=by rw [HDV.out.2.keys];exact KB.out.st.keyed.1
   have HND:=Lib.hid (And.intro hnd (Nat.le_refl V.length))
   clear hnd
   go_loopw [] (fun w2=>∃ (left : Lit -> Bool) (cnt : Nat) (V' : VL),w2.ranges Tryz.prog 9 rawElem tb1 (cb + 1) V.length D left cnt /\ V'.length + cnt <= V.length /\ RawMap w2 cb V' /\ CopyR V left V' /\ Ext wb w2) (fun w2=>w2.rangeLeft tb1 (cb + 1))
   case atStart=>exact ⟨_,_,[],HR5.out,by have:=HDV.out.1.1;simp;omega,HM5.out,CopyR.start HDV.out.1,HE5.out⟩
   case round =>
    obtain ⟨left2,cnt2,V2,hrg,hcs,hM2,hC,hEr⟩:=hrel
    go_wp2_with (first
     | (at_next;refine wpList_next_ranges _ rfl _ rfl 9 law9 rawElem encStr (fun v : Value=>v) (fun key kl hk=>by obtain ⟨x,hx,_⟩:=Maps.keyOf_str underlying9 hk;exact ⟨x,hx⟩) (fun v y hv=>⟨v,rfl⟩) tb1 _ V.length _ _ _ rfl hrg ?_ ?_)
     | fail)
    ·intro hc0 hl0
     have hM3:=hM2.same (hC.done hl0 HND.out.1)
     have KR:=Lib.hid (KB.out.grow hEr)
     have BR:=Lib.hid (BB.out.ext hEr)
     have MR:=Lib.hid hM3
     clear hc0 hl0 hM2 hM3 hC hrg hcs hEr
     obtain ⟨p0,p1,p2⟩:=Blk3 KR.out.pat
     obtain ⟨q0,q1,q2,q3,q4⟩:=Blk5 KR.out.part
     obtain ⟨o0,o1,o2,o3,o4⟩:=Blk5 KR.out.out
     have lp:=cell_lt p0
     have lq:=cell_lt q0
     have lo:=cell_lt o0
     have fo:=KR.out.out.frozen
     obtain ⟨z0,z1,z2⟩:=Blk3 BR.out
     have zl:=cell_lt z0
     have zf:=BR.out.frozen
     have HC:=Lib.hid (KR.out.call (HL.out j hlt) (HZ.out.1.bare.1) HNM.out.1 (fun s hs=>HNM.out.2 s (names_kid (List.getElem_mem hlt) s hs)) HQ.out K4.out.syn (Ext.refl wr))
     generalize sp ks[j] (bareS n) S op1=r at *
     go_wp2_with fail
     refine HC.out.mono ?_
     rintro e w7 ⟨⟨o7,a7,c7,rfl,ho7⟩,tb7,hS7,hT7⟩
     have K7:=Lib.hid hS7
     have H7:=Lib.hid ho7
     have M7:=Lib.hid ((MR.out.extM hT7.1 (by have:=HCB.out;omega)).ext (Ext.alloc w7 (.cells #[.string o7.kind,.bool o7.null,.string o7.text,.int .i64 o7.num,.slice a7 o7.kids.length c7] 52)))
     have KG:=Lib.hid (hS7.grow (Ext.alloc w7 (.cells #[.string o7.kind,.bool o7.null,.string o7.text,.int .i64 o7.num,.slice a7 o7.kids.length c7] 52)))
     clear hS7 ho7 hT7 p0 p1 p2 q0 q1 q2 q3 q4 o0 o1 o2 o3 o4 lp lq lo fo z0 z1 z2 zl zf
     obtain ⟨p0,p1,p2⟩:=Blk3 K7.out.pat
     obtain ⟨q0,q1,q2,q3,q4⟩:=Blk5 K7.out.part
     obtain ⟨o0,o1,o2,o3,o4⟩:=Blk5 K7.out.out
     have lp:=cell_lt p0
     have lq:=cell_lt q0
     have lo:=cell_lt o0
     have fo:=K7.out.out.frozen
     have hB8:=Blk.new w7 #[.string o7.kind,.bool o7.null,.string o7.text,.int .i64 o7.num,.slice a7 o7.kids.length c7] 52
     go_upto_region 44 with fail
     obtain ⟨w8,hw8⟩ : ∃ w8,w8=w7.alloc (.cells #[.string o7.kind,.bool o7.null,.string o7.text,.int .i64 o7.num,.slice a7 o7.kids.length c7] 52):=⟨_,rfl⟩
     rw [<- hw8] at KG M7 hB8 ⊢
     clear hw8 p0 p1 p2 q0 q1 q2 q3 q4 o0 o1 o2 o3 o4 lp lq lo fo
     obtain ⟨p0,p1,p2⟩:=Blk3 KG.out.pat
     obtain ⟨q0,q1,q2,q3,q4⟩:=Blk5 KG.out.part
     obtain ⟨o0,o1,o2,o3,o4⟩:=Blk5 KG.out.out
     have lp:=cell_lt p0
     have lq:=cell_lt q0
     have lo:=cell_lt o0
     have fo:=KG.out.out.frozen
     obtain ⟨z0,z1,z2,z3,z4⟩:=Blk5 hB8
     have zl:=cell_lt z0
     have m0 : w8.cell? ⟨mb,0,none⟩=some (.map (some tb7)):=by rw [KG.out.st.blk.cell];rfl
     have lm:=KG.out.st.blk.lt
     have fm:=KG.out.st.blk.frozen
     clear hB8
     cases hrk : r.ok with
     | true =>
      have H8:=Lib.hid (H7.out hrk)
      obtain ⟨rfl,-,-⟩:=H8.out
      have HR2:=Lib.hid (show sp (.mk k x ks) n S op=r by rw [HR.out,HD2.out,hrk,if_pos rfl])
      have HRK:=Lib.hid hrk
      clear hrk
      go_wp2_with fail
      have ho:=KG.out.out5 (.string r.out.kind) (.bool r.out.null) (.string r.out.text) (.int .i64 r.out.num) (.slice a7 r.out.kids.length c7)
      refine bodyPost_ret (results_ct rfl _ _ (w.heap.size + 2) 52 (synC r.out a7 c7) rfl ho.1 row52 size52) rfl ?_
      rw [HR2.out]
      obtain ⟨-,tb',ho2,ho3⟩:=ho
      exact ⟨⟨r.out,a7,c7,by rw [HRK.out];rfl,fun _=>⟨rfl,H8.out.2.1,H8.out.2.2⟩⟩,tb',ho2,ho3⟩
     | false =>
      have HD3:=Lib.hid (show spOr ks (bareS n) S op=spOr (ks.drop (j + 1)) (bareS n) S r.op by rw [HD2.out,hrk];rfl)
      clear hrk
      go_wp2_with fail
      refine ⟨⟨j + 1,r.op,cb,by simp,by omega,KG.out.again M7.out HDV.out.2 KB.out.st.keyed (by have:=HCB.out;omega),HD3⟩,by simp [intOf];omega⟩
    ·intro s9 c9 kl yd yp w17 cnt17 hkey hlk hv hat hrg17 hlt17 hg17 hs17 hen17
     obtain ⟨s',es,rfl,hsl⟩:=Maps.keyOf_str underlying9 hkey
     obtain rfl : s9=s':=encStr_inj es
     obtain ⟨hgV,t9,va,vc,rfl⟩:=copy_met (s:=s9) HDV.out.1 HDV.out.2 hv hat
     have hM17:=hM2.extM (ExtM.of_grown hg17) (by have:=HCB.out.1;omega)
     have hE17:=hEr.grown hg17 (fun j hj=>by cases hj;have:=HCB.out.1;omega)
     have htl : (⟨s9.toArray⟩ : ByteArray).toList=s9:=by simp [ByteArray.toList_eq]
     have hsz9 : (⟨s9.toArray⟩ : ByteArray).size <= maxLen:=by show s9.toArray.size <= maxLen;simpa using hsl
     have HS9:=Lib.hid (And.intro htl (And.intro hsz9 (And.intro hgV (And.intro hM17 (And.intro hE17 hC)))))
     have HG9:=Lib.hid (And.intro hrg17 hlt17)
     have HLR:=Lib.hid (hrg17.left_eq.trans (Eq.refl cnt17))
     have HLR2:=Lib.hid hrg.left_eq
     have hcs2 : V2.length + cnt17 + 1 <= V.length:=by omega
     clear htl hsz9 hgV hM17 hE17 hC hM2 hEr hg17 hs17 hrg17 hrg hat hv hlk hkey es hsl hcs hlt17
     unfold encStr at *
     go_wp2_with (first
      | (at_mapUpdate;refine wpList_set_raw _ rfl _ _ _ 55 rfl 52 under55 rfl (HS9.out.2.2.2.1.ext (Ext.alloc _ _)) (by omega) _ _ rfl rfl HS9.out.2.1 HS9.out.2.2.2.2.2.1 ?_;intro w19 hV19 hT19;go_frame)
      | fail)
     go_roundw
     case rel =>
      rw [HS9.out.1] at hV19
      refine ⟨_,cnt17,_,(HG9.out.1.alloc _).kept hT19.grown (by simp;have:=HCB.out;omega) (by simp),?_,hV19,HS9.out.2.2.2.2.2.step HS9.out.2.2.1,?_⟩
      ·have:=List.length_filter_le (fun x : List UInt8 × Value=>x.1 != s9) V2
       simp only [List.length_append,List.length_singleton]
       omega
      ·exact (HS9.out.2.2.2.2.1.trans (Ext.alloc _ _)).grown hT19.grown (fun j hj=>by cases hj;have:=HCB.out;omega)
     case measure =>
      have h1:=(HG9.out.1.alloc (.cells #[.string t9.kind,.bool t9.null,.string t9.text,.int .i64 t9.num,.slice va t9.kids.length vc] 52)).kept hT19.grown (by simp;have:=HCB.out;omega) (by simp)
      rw [h1.left_eq,HLR2.out]
      exact HG9.out.2
  ·have hje : j=ks.length:=by omega
   have HR2:=Lib.hid (show sp (.mk k x ks) n S op=⟨false,nulS,S,op1⟩ by
    rw [HR.out,hD.out,hje,List.drop_of_length_le (Nat.le_refl _),spOr])
   clear hje
   go_wp2_with fail
   have ho:=K4.out.out5 (.string (bareS n).kind) (.bool (bareS n).null) (.string (bareS n).text) (.int .i64 (bareS n).num) (.slice a' (bareS n).kids.length c')
   refine bodyPost_ret (results_ct rfl _ _ (w.heap.size + 2) 52 (synC (bareS n) a' c') rfl ho.1 row52 size52) rfl ?_
   rw [HR2.out]
   obtain ⟨-,tb',ho2,ho3⟩:=ho
   exact ⟨⟨bareS n,a',c',rfl,fun h=>by cases h⟩,tb',ho2,ho3⟩
end Go.Proofs.YtigalkobmfbdaaaGreatDoor
set_option maxRecDepth 100000
set_option maxHeartbeats 4000000
namespace Go.Proofs.YtigalkobmfbdaaaGreatDoor
open Go.RowKit Go.WideMaps
theorem sp_struct_eq {k x : ByteArray} {ks : List Tree} {n : Syn} (hr : RS n) (S : SL) (op : Bool) (h1 : (k.toList == [65,110,121])=false) (h2 : (k.toList == [78,105,108])=false) (h3 : (k.toList == [83,116,114,105,110,103])=false) (h4 : (k.toList == [76,105,115,116])=false) (h5 : (k.toList == [66,105,110,100,105,110,103])=false) (h6 : (k.toList == [79,114])=false) (h7 : (k.toList == [78,111,116])=false) : sp (.mk k x ks) n S op=(match peelS (bareS n) with
   | none=>⟨false,nulS,S,op⟩
   | some u=>if u.kind.toList == k.toList then spArgs ks u.kids S op u else ⟨false,u,S,op⟩):=by
 rw [sp_mk];simp only [h1,h2,h3,h4,h5,h6,h7,Bool.false_eq_true,if_false]
 rw [peel_bare n hr]
 cases peelS n <;> rfl
theorem peel_list1 {b : Syn} (hw : wrapIx b.kind=none) (hl : lisK b.kind=true) (h1 : b.kids.length=1) (h0 : 0 < b.kids.length) : peelS b=peelS b.kids[0]:=by
 obtain ⟨k,nl,x,n,ks⟩:=b
 simp only [skind_mk,skids_mk] at *
 have h0' : 0 < ks.length:=h0
 rw [peelS_list hw hl,if_pos h1,peelAt_get _ _ h0']
theorem peel_list0 {b : Syn} (hw : wrapIx b.kind=none) (hl : lisK b.kind=true) (h1 : b.kids.length ≠ 1) : peelS b=none:=by
 obtain ⟨k,nl,x,n,ks⟩:=b
 simp only [skind_mk,skids_mk] at *
 rw [peelS_list hw hl,if_neg h1]
theorem peel_self {b : Syn} (hw : wrapIx b.kind=none) (hl : lisK b.kind=false) : peelS b=some b:=by
 obtain ⟨k,nl,x,n,ks⟩:=b
 simp only [skind_mk] at *
 exact peelS_none hw hl
theorem sp_struct_list {k x : ByteArray} {ks : List Tree} {n : Syn} (hr : RZ n) (hrec : ∀ y,RZ y -> sizeS y < sizeS (bareS n) -> SpN (.mk k x ks) y) (hl : lisK (bareS n).kind=true) (h1 : (k.toList == [65,110,121])=false) (h2 : (k.toList == [78,105,108])=false) (h3 : (k.toList == [83,116,114,105,110,103])=false) (h4 : (k.toList == [76,105,115,116])=false) (h5 : (k.toList == [66,105,110,100,105,110,103])=false) (h6 : (k.toList == [79,114])=false) (h7 : (k.toList == [78,111,116])=false) : SpN (.mk k x ks) n:=by
 have HRec:=Lib.hid (And.intro hrec hl)
 clear hrec hl
 intro nm h64 hnm S op w0 w mb tb ta tc a c hT hS hM
 have HR:=Lib.hid (show sp (.mk k x ks) n S op=sp (.mk k x ks) n S op from rfl)
 have HZ:=Lib.hid (And.intro hr hr.bare.1)
 simp only [treeV,kind_mk,txt_mk,kids_mk] at *
 have HB:=Lib.hid (sp_begin (k:=k) (x:=x) (ks:=ks) (ta:=ta) (tc:=tc) hM rfl hS)
 have HT:=Lib.hid hT
 have HNM:=Lib.hid (And.intro h64 hnm)
 clear hT hS hM hnm hr h64
 go_enter Tryz.func61,Tryz.ntmps61
 go_wp2_with fail
 obtain ⟨w1,hw1⟩ : ∃ w1,w1=((w.alloc (.cells #[.string k,.string x,.slice ta ks.length tc] 24)).alloc (.cells (synC n a c) 52)).alloc (.cells #[.string ⟨#[]⟩,.bool false,.string ⟨#[]⟩,.int .i64 0,.slice none 0 0] 52):=⟨_,rfl⟩
 have hb:=HB.out
 rw [<- hw1] at hb ⊢
 clear HB hw1
 refine (bare_calls HZ.out.1.1 (hb.syn.fore hb.st.ext)).mono ?_
 rintro e w2 ⟨⟨a',c',rfl,hS'⟩,hE2⟩
 have hb2:=hb.grow hE2
 obtain ⟨p0,p1,p2⟩:=Blk3 hb2.pat
 obtain ⟨q0,q1,q2,q3,q4⟩:=Blk5 hb2.part
 have lp:=cell_lt p0
 have lq:=cell_lt q0
 have fp:=hb2.pat.frozen
 have fq:=hb2.part.frozen
 have K3:=Lib.hid (hb2.part5 (hS'.back hb.st.ext))
 obtain ⟨w3,hw3⟩ : ∃ w3,w3=(((((w2.setCell ⟨w.heap.size + 1,0,none⟩ (.string (bareS n).kind)).setCell ⟨w.heap.size + 1,1,none⟩ (.bool (bareS n).null)).setCell ⟨w.heap.size + 1,2,none⟩ (.string (bareS n).text)).setCell ⟨w.heap.size + 1,3,none⟩ (.int .i64 (bareS n).num)).setCell ⟨w.heap.size + 1,4,none⟩ (.slice a' (bareS n).kids.length c')):=⟨_,rfl⟩
 rw [<- hw3] at K3
 have H3:=Lib.hid hw3
 clear hb hb2 hE2 hS' hw3
 go_upto_region 2 with fail
 rw [<- H3.out]
 clear H3 p0 p1 p2 q0 q1 q2 q3 q4 lp lq fp fq w2
 obtain ⟨p0,p1,p2⟩:=Blk3 K3.out.pat
 obtain ⟨q0,q1,q2,q3,q4⟩:=Blk5 K3.out.part
 obtain ⟨o0,o1,o2,o3,o4⟩:=Blk5 K3.out.out
 have lp:=cell_lt p0
 have lq:=cell_lt q0
 have lo:=cell_lt o0
 have fo:=K3.out.out.frozen
 go_wp2_with fail
 refine (list_calls (bareS n) a' c' _).mono ?_
 rintro e w4 ⟨rfl,hE4⟩
 have K4:=Lib.hid (K3.out.grow hE4)
 rw [HRec.out.2]
 clear hE4 p0 p1 p2 q0 q1 q2 q3 q4 o0 o1 o2 o3 o4 lp lq lo fo
 obtain ⟨p0,p1,p2⟩:=Blk3 K4.out.pat
 obtain ⟨q0,q1,q2,q3,q4⟩:=Blk5 K4.out.part
 obtain ⟨o0,o1,o2,o3,o4⟩:=Blk5 K4.out.out
 have lp:=cell_lt p0
 have lq:=cell_lt q0
 have lo:=cell_lt o0
 have fo:=K4.out.out.frozen
 by_cases hlen : (bareS n).kids.length=1
 ·have h00 : 0 < (bareS n).kids.length:=by omega
  have hkz:=kid_rz HZ.out.2 0 h00
  have hks : sizeS (bareS n).kids[0] < sizeS (bareS n):=by
   have:=sizeS_kid (bareS n).kids 0 h00
   generalize bareS n=u at *
   obtain ⟨k',nl,x',n',us⟩:=u
   rw [sizeS_mk]
   simp only [skids_mk] at *
   omega
  have HR:=Lib.hid (show sp (.mk k x ks) n S op=sp (.mk k x ks) (bareS n).kids[0] S op by
   rw [sp_struct_eq HZ.out.1.1 S op h1 h2 h3 h4 h5 h6 h7,sp_struct_eq hkz.1 S op h1 h2 h3 h4 h5 h6 h7,peel_list1 HZ.out.1.1.bare.2 HRec.out.2 hlen h00,peel_bare _ hkz.1])
  obtain ⟨yb,yo,ya,yc,rfl,-,-,v0,v1,v2,v3,v4,hY⟩:=K4.out.syn.kid 0 h00
  have hyc:=K4.out.syn.kids.1
  simp only [Nat.zero_mul,Nat.add_zero] at v0 v1 v2 v3 v4
  have V00:=Lib.hid (And.intro v0 (And.intro v1 (And.intro v2 (And.intro v3 v4))))
  have hC1 : ((bareS n).kids.length : Int)=1:=by omega
  have hne : (((bareS n).kids.length : Int) != 1)=false:=by rw [hC1];rfl
  have HC : Hid (∀ (w' : World),Ext w4 w' -> Calls Tryz.prog 61 #[.pointer (some ⟨mb,0,none⟩),.agg #[.string k,.string x,.slice ta ks.length tc],.agg #[.string (bareS n).kids[0].kind,.bool (bareS n).kids[0].null,.string (bareS n).kids[0].text,.int .i64 (bareS n).kids[0].num,.slice ya (bareS n).kids[0].kids.length yc]] w' (InP w0 nm mb tb tb w w' k x ks ta tc (bareS n) (some ⟨yb,yo,none⟩) c' (sp (.mk k x ks) (bareS n).kids[0] S op))):=Lib.hid (fun w' hx=>by
   have hg:=K4.out.grow hx
   refine (HRec.out.1 _ hkz hks nm HNM.out.1 HNM.out.2 S op w0 w' mb tb ta tc ya yc HT.out hY hg.st).mono ?_
   rintro e w2 ⟨⟨o,a',c',rfl,ho⟩,tb',hM,hR⟩
   exact ⟨⟨o,a',c',rfl,ho⟩,tb',hg.after hM hR,hR⟩)
  replace v0:=K4.out.st.ext.keep v0
  replace v1:=K4.out.st.ext.keep v1
  replace v2:=K4.out.st.ext.keep v2
  replace v3:=K4.out.st.ext.keep v3
  replace v4:=K4.out.st.ext.keep v4
  have vl:=cell_lt v0
  clear hC1 hlen hY hkz hks
  generalize sp (.mk k x ks) (bareS n).kids[0] S op=r at *
  go_wp2_with fail
  have FF : ∀ (b : Nat),w.heap.size + 2 ≠ b -> ∀ (W : World) (o o' : Nat) (v : Value),(W.setCell ⟨w.heap.size + 2,o,none⟩ v).cell? ⟨b,o',none⟩=W.cell? ⟨b,o',none⟩:=fun b hb W o o' v=>World.cell?_setCell_far W _ _ _ hb
  have hyb : yb < w0.heap.size:=cell_lt V00.out.1
  have G0:=FF w.heap.size (by omega)
  have G1:=FF (w.heap.size + 1) (by omega)
  have G2:=FF yb (by have:=K4.out.st.ext.size;have:=K4.out.st.lo.1;have:=K4.out.far.1;omega)
  clear FF
  go_region_held3 (fun w'=>w'.cell? ⟨w.heap.size,0,none⟩=some (.string k) /\ w'.cell? ⟨w.heap.size,1,none⟩=some (.string x) /\ w'.cell? ⟨w.heap.size,2,none⟩=some (.slice ta ks.length tc) /\ w'.cell? ⟨w.heap.size + 1,4,none⟩=some (.slice (some ⟨yb,yo,none⟩) (bareS n).kids.length c') /\ w'.cell? ⟨yb,yo,none⟩=some (.string (bareS n).kids[0].kind) /\ w'.cell? ⟨yb,yo + 1,none⟩=some (.bool (bareS n).kids[0].null) /\ w'.cell? ⟨yb,yo + 2,none⟩=some (.string (bareS n).kids[0].text) /\ w'.cell? ⟨yb,yo + 3,none⟩=some (.int .i64 (bareS n).kids[0].num) /\ w'.cell? ⟨yb,yo + 4,none⟩=some (.slice ya (bareS n).kids[0].kids.length yc)) (first | go_keep | (simp only [G0,G1,G2];exact ⟨y5_0,y5_1,y5_2,y5_3,y5_4,y5_5,y5_6,y5_7,y5_8⟩))
   (first
    | (go_at_call 61;refine (HC.out _ (Ext.drew _)).mono ?_;rintro e w5 ⟨⟨o5,a5,c5,rfl,ho5⟩,tb5,hS5,hT5⟩;have K5:=Lib.hid hS5;have H5:=Lib.hid ho5;have y5_0:=(Blk3 K5.out.pat).1;have y5_1:=(Blk3 K5.out.pat).2.1;have y5_2:=(Blk3 K5.out.pat).2.2;have y5_3:=(Blk5 K5.out.part).2.2.2.2;have y5_4:=K5.out.st.ext.keep V00.out.1;have y5_5:=K5.out.st.ext.keep V00.out.2.1;have y5_6:=K5.out.st.ext.keep V00.out.2.2.1;have y5_7:=K5.out.st.ext.keep V00.out.2.2.2.1;have y5_8:=K5.out.st.ext.keep V00.out.2.2.2.2;obtain ⟨z0,z1,z2,z3,z4⟩:=Blk5 K5.out.out;have zl:=cell_lt z0;have zf:=K5.out.out.frozen;clear hS5 ho5 hT5)
    | fail)
  all_goals
   go_wp2_with fail
   have ho:=K5.out.out5 (.string o5.kind) (.bool o5.null) (.string o5.text) (.int .i64 o5.num) (.slice a5 o5.kids.length c5)
   refine bodyPost_ret (results_ct rfl _ _ (w.heap.size + 2) 52 (synC o5 a5 c5) rfl ho.1 row52 size52) rfl ?_
   rw [HR.out]
   obtain ⟨-,tb',ho2,ho3⟩:=ho
   exact ⟨⟨o5,a5,c5,rfl,fun h=>by
    obtain ⟨e1,e2,e3⟩:=H5.out h
    exact ⟨e1,e2,e3⟩⟩,tb',ho2,ho3⟩
 ·have hne : (((bareS n).kids.length : Int) != 1)=true:=by rw [bne_iff_ne];omega
  have HR:=Lib.hid (show sp (.mk k x ks) n S op=⟨false,nulS,S,op⟩ by
   rw [sp_struct_eq HZ.out.1.1 S op h1 h2 h3 h4 h5 h6 h7,peel_list0 HZ.out.1.1.bare.2 HRec.out.2 hlen])
  clear hlen
  go_wp2_with fail
  have ho:=K4.out.out5 (.string (bareS n).kind) (.bool (bareS n).null) (.string (bareS n).text) (.int .i64 (bareS n).num) (.slice a' (bareS n).kids.length c')
  refine bodyPost_ret (results_ct rfl _ _ (w.heap.size + 2) 52 (synC (bareS n) a' c') rfl ho.1 row52 size52) rfl ?_
  rw [HR.out]
  obtain ⟨-,tb',ho2,ho3⟩:=ho
  exact ⟨⟨bareS n,a',c',rfl,fun h=>(by cases h)⟩,tb',ho2,ho3⟩
theorem sp_struct_not {k x : ByteArray} {ks : List Tree} {n : Syn} (hr : RZ n) (hl : lisK (bareS n).kind=false) (hkk : ((bareS n).kind.toList == k.toList)=false) (h1 : (k.toList == [65,110,121])=false) (h2 : (k.toList == [78,105,108])=false) (h3 : (k.toList == [83,116,114,105,110,103])=false) (h4 : (k.toList == [76,105,115,116])=false) (h5 : (k.toList == [66,105,110,100,105,110,103])=false) (h6 : (k.toList == [79,114])=false) (h7 : (k.toList == [78,111,116])=false) : SpN (.mk k x ks) n:=by
 have HL:=Lib.hid hl
 clear hl
 intro nm h64 hnm S op w0 w mb tb ta tc a c hT hS hM
 have HR:=Lib.hid (show sp (.mk k x ks) n S op=sp (.mk k x ks) n S op from rfl)
 have HZ:=Lib.hid (And.intro hr hr.bare.1)
 simp only [treeV,kind_mk,txt_mk,kids_mk] at *
 have HB:=Lib.hid (sp_begin (k:=k) (x:=x) (ks:=ks) (ta:=ta) (tc:=tc) hM rfl hS)
 have HT:=Lib.hid hT
 have HNM:=Lib.hid (And.intro h64 hnm)
 clear hT hS hM hnm hr h64
 go_enter Tryz.func61,Tryz.ntmps61
 go_wp2_with fail
 obtain ⟨w1,hw1⟩ : ∃ w1,w1=((w.alloc (.cells #[.string k,.string x,.slice ta ks.length tc] 24)).alloc (.cells (synC n a c) 52)).alloc (.cells #[.string ⟨#[]⟩,.bool false,.string ⟨#[]⟩,.int .i64 0,.slice none 0 0] 52):=⟨_,rfl⟩
 have hb:=HB.out
 rw [<- hw1] at hb ⊢
 clear HB hw1
 refine (bare_calls HZ.out.1.1 (hb.syn.fore hb.st.ext)).mono ?_
 rintro e w2 ⟨⟨a',c',rfl,hS'⟩,hE2⟩
 have hb2:=hb.grow hE2
 obtain ⟨p0,p1,p2⟩:=Blk3 hb2.pat
 obtain ⟨q0,q1,q2,q3,q4⟩:=Blk5 hb2.part
 have lp:=cell_lt p0
 have lq:=cell_lt q0
 have fp:=hb2.pat.frozen
 have fq:=hb2.part.frozen
 have K3:=Lib.hid (hb2.part5 (hS'.back hb.st.ext))
 obtain ⟨w3,hw3⟩ : ∃ w3,w3=(((((w2.setCell ⟨w.heap.size + 1,0,none⟩ (.string (bareS n).kind)).setCell ⟨w.heap.size + 1,1,none⟩ (.bool (bareS n).null)).setCell ⟨w.heap.size + 1,2,none⟩ (.string (bareS n).text)).setCell ⟨w.heap.size + 1,3,none⟩ (.int .i64 (bareS n).num)).setCell ⟨w.heap.size + 1,4,none⟩ (.slice a' (bareS n).kids.length c')):=⟨_,rfl⟩
 rw [<- hw3] at K3
 have H3:=Lib.hid hw3
 clear hb hb2 hE2 hS' hw3
 go_upto_region 2 with fail
 rw [<- H3.out]
 clear H3 p0 p1 p2 q0 q1 q2 q3 q4 lp lq fp fq w2
 obtain ⟨p0,p1,p2⟩:=Blk3 K3.out.pat
 obtain ⟨q0,q1,q2,q3,q4⟩:=Blk5 K3.out.part
 obtain ⟨o0,o1,o2,o3,o4⟩:=Blk5 K3.out.out
 have lp:=cell_lt p0
 have lq:=cell_lt q0
 have lo:=cell_lt o0
 have fo:=K3.out.out.frozen
 go_wp2_with fail
 refine (list_calls (bareS n) a' c' _).mono ?_
 rintro e w4 ⟨rfl,hE4⟩
 have K4:=Lib.hid (K3.out.grow hE4)
 rw [HL.out]
 clear hE4 p0 p1 p2 q0 q1 q2 q3 q4 o0 o1 o2 o3 o4 lp lq lo fo
 obtain ⟨p0,p1,p2⟩:=Blk3 K4.out.pat
 obtain ⟨q0,q1,q2,q3,q4⟩:=Blk5 K4.out.part
 obtain ⟨o0,o1,o2,o3,o4⟩:=Blk5 K4.out.out
 have lp:=cell_lt p0
 have lq:=cell_lt q0
 have lo:=cell_lt o0
 have fo:=K4.out.out.frozen
 have HR:=Lib.hid (show sp (.mk k x ks) n S op=⟨false,bareS n,S,op⟩ by
  rw [sp_struct_eq HZ.out.1.1 S op h1 h2 h3 h4 h5 h6 h7,peel_self HZ.out.1.1.bare.2 HL.out]
  simp only [hkk,Bool.false_eq_true,if_false])
 go_wp2_with fail
 have ho:=K4.out.out5 (.string (bareS n).kind) (.bool (bareS n).null) (.string (bareS n).text) (.int .i64 (bareS n).num) (.slice a' (bareS n).kids.length c')
 refine bodyPost_ret (results_ct rfl _ _ (w.heap.size + 2) 52 (synC (bareS n) a' c') rfl ho.1 row52 size52) rfl ?_
 rw [HR.out]
 obtain ⟨-,tb',ho2,ho3⟩:=ho
 exact ⟨⟨bareS n,a',c',rfl,fun h=>(by cases h)⟩,tb',ho2,ho3⟩
end Go.Proofs.YtigalkobmfbdaaaGreatDoor
set_option maxRecDepth 100000
set_option maxHeartbeats 4000000
namespace Go.Proofs.YtigalkobmfbdaaaGreatDoor
open Go.RowKit Go.WideMaps
theorem args_fields_all : ∀ k ∈ expressions ++ statements,((List.range (args k).length).all fun i=>(List.range (fields k).length).all fun j=>(((args k)[i]?.map ByteArray.toList) == ((fields k)[j]?.map ByteArray.toList)) == (i == j))=true:=by decide +kernel
theorem args_fields {k : ByteArray} (hk : k ∈ expressions ++ statements) {i j : Nat} (hi : i < (args k).length) (hj : j < (fields k).length) : ((args k)[i].toList == (fields k)[j].toList)=(i == j):=by
 have h:=args_fields_all k hk
 rw [List.all_eq_true] at h
 have h2:=h i (List.mem_range.2 hi)
 rw [List.all_eq_true] at h2
 have h3:=h2 j (List.mem_range.2 hj)
 rw [List.getElem?_eq_getElem hi,List.getElem?_eq_getElem hj] at h3
 simpa using h3
theorem args_le_all : ∀ k ∈ expressions ++ statements,(args k).length <= (fields k).length /\ (fields k).length=(asked k).size:=by decide +kernel
def NmAt (mb tb : Nat) (w : World) (a : Option Addr) (l : List ByteArray) : Prop:=∀ (i : Nat) (h : i < l.length),∃ b o,a=some ⟨b,o,none⟩ /\ b < w.heap.size /\ w.cell? ⟨b,o + i,none⟩=some (.string l[i]) /\ b ≠ mb /\ b ≠ tb
theorem NmAt.of {w0 : World} {nm : Names} {mb tb : Nat} {w : World} {S : SL} {op : Bool} (hM : MSt w0 nm mb tb w S op) {a : Option Addr} {l : List ByteArray} (h : StrsAt w a l) : NmAt mb tb w a l:=fun i hi=>by
 obtain ⟨b,o,e,hb,hc⟩:=h i hi
 obtain ⟨V,hV,-⟩:=hM.tab
 refine ⟨b,o,e,hb,hc,?_,hV.apart hc⟩
 rintro rfl
 rw [hM.blk.cell] at hc
 match o + i,hc with
 | 0,hc=>cases hc
 | 1,hc=>cases hc
 | j + 2,hc=>simp at hc
theorem NmAt.grow {mb tb : Nat} {w w' : World} {a : Option Addr} {l : List ByteArray} (h : NmAt mb tb w a l) (hE : Ext w w') : NmAt mb tb w' a l:=fun i hi=>by
 obtain ⟨b,o,e,hb,hc,h1,h2⟩:=h i hi
 exact ⟨b,o,e,Nat.lt_of_lt_of_le hb hE.size,hE.keep hc,h1,h2⟩
theorem NmAt.after {mb tb tb' : Nat} {w w' : World} {a : Option Addr} {l : List ByteArray} (h : NmAt mb tb w a l) (hT : MTrn mb tb tb' w w') : NmAt mb tb' w' a l:=fun i hi=>by
 obtain ⟨b,o,e,hb,hc,h1,h2⟩:=h i hi
 refine ⟨b,o,e,Nat.lt_of_lt_of_le hb hT.1.size,hT.1.keep (by simp only;omega) hc,h1,?_⟩
 rcases hT.2 with e | e
 ·rw [e];exact h2
 ·omega
theorem NmAt.aside {mb tb : Nat} {w : World} {a : Option Addr} {l : List ByteArray} {n : Nat} (h : NmAt mb tb w a l) (hl : ∀ b o,a=some ⟨b,o,none⟩ -> b < n) (v0 v1 v2 v3 v4 : Value) : NmAt mb tb (((((w.setCell ⟨n,0,none⟩ v0).setCell ⟨n,1,none⟩ v1).setCell ⟨n,2,none⟩ v2).setCell ⟨n,3,none⟩ v3).setCell ⟨n,4,none⟩ v4) a l:=fun i hi=>by
 obtain ⟨b,o,e,hb,hc,h1,h2⟩:=h i hi
 have hn:=hl b o e
 have hX : ExtM (·=n) w (((((w.setCell ⟨n,0,none⟩ v0).setCell ⟨n,1,none⟩ v1).setCell ⟨n,2,none⟩ v2).setCell ⟨n,3,none⟩ v3).setCell ⟨n,4,none⟩ v4) :=
  (((((ExtM.refl (·=n) w).set1 0 _).set1 1 _).set1 2 _).set1 3 _).set1 4 _
 exact ⟨b,o,e,Nat.lt_of_lt_of_le hb hX.size,hX.keep (by simp only;omega) hc,h1,h2⟩
theorem sp_struct_same {k x : ByteArray} {ks : List Tree} {n : Syn} (hr : RZ n) (hl : lisK (bareS n).kind=false) (hkk : ((bareS n).kind.toList == k.toList)=true) (hnm : named k=true) (hkl : ks.length=(args k).length) (ih : ∀ (j : Nat) (hj : j < ks.length),SpC ks[j]) (h1 : (k.toList == [65,110,121])=false) (h2 : (k.toList == [78,105,108])=false) (h3 : (k.toList == [83,116,114,105,110,103])=false) (h4 : (k.toList == [76,105,115,116])=false) (h5 : (k.toList == [66,105,110,100,105,110,103])=false) (h6 : (k.toList == [79,114])=false) (h7 : (k.toList == [78,111,116])=false) : SpN (.mk k x ks) n:=by
 have HL:=Lib.hid (And.intro hl (And.intro hnm (And.intro hkl ih)))
 have HKE:=Lib.hid (toList_inj (eq_of_beq hkk))
 clear hl hnm hkl ih
 intro nm h64 hnm S op w0 w mb tb ta tc a c hT hS hM
 have HR:=Lib.hid (show sp (.mk k x ks) n S op=sp (.mk k x ks) n S op from rfl)
 have HZ:=Lib.hid (And.intro hr hr.bare.1)
 simp only [treeV,kind_mk,txt_mk,kids_mk] at *
 have HB:=Lib.hid (sp_begin (k:=k) (x:=x) (ks:=ks) (ta:=ta) (tc:=tc) hM rfl hS)
 have HT:=Lib.hid hT
 have HNM:=Lib.hid (And.intro h64 hnm)
 clear hT hS hM hnm hr h64
 go_enter Tryz.func61,Tryz.ntmps61
 go_wp2_with fail
 obtain ⟨w1,hw1⟩ : ∃ w1,w1=((w.alloc (.cells #[.string k,.string x,.slice ta ks.length tc] 24)).alloc (.cells (synC n a c) 52)).alloc (.cells #[.string ⟨#[]⟩,.bool false,.string ⟨#[]⟩,.int .i64 0,.slice none 0 0] 52):=⟨_,rfl⟩
 have hb:=HB.out
 rw [<- hw1] at hb ⊢
 clear HB hw1
 refine (bare_calls HZ.out.1.1 (hb.syn.fore hb.st.ext)).mono ?_
 rintro e w2 ⟨⟨a',c',rfl,hS'⟩,hE2⟩
 have hb2:=hb.grow hE2
 obtain ⟨p0,p1,p2⟩:=Blk3 hb2.pat
 obtain ⟨q0,q1,q2,q3,q4⟩:=Blk5 hb2.part
 have lp:=cell_lt p0
 have lq:=cell_lt q0
 have fp:=hb2.pat.frozen
 have fq:=hb2.part.frozen
 have K3:=Lib.hid (hb2.part5 (hS'.back hb.st.ext))
 obtain ⟨w3,hw3⟩ : ∃ w3,w3=(((((w2.setCell ⟨w.heap.size + 1,0,none⟩ (.string (bareS n).kind)).setCell ⟨w.heap.size + 1,1,none⟩ (.bool (bareS n).null)).setCell ⟨w.heap.size + 1,2,none⟩ (.string (bareS n).text)).setCell ⟨w.heap.size + 1,3,none⟩ (.int .i64 (bareS n).num)).setCell ⟨w.heap.size + 1,4,none⟩ (.slice a' (bareS n).kids.length c')):=⟨_,rfl⟩
 rw [<- hw3] at K3
 have H3:=Lib.hid hw3
 clear hb hb2 hE2 hS' hw3
 go_upto_region 2 with fail
 rw [<- H3.out]
 clear H3 p0 p1 p2 q0 q1 q2 q3 q4 lp lq fp fq w2
 obtain ⟨p0,p1,p2⟩:=Blk3 K3.out.pat
 obtain ⟨q0,q1,q2,q3,q4⟩:=Blk5 K3.out.part
 obtain ⟨o0,o1,o2,o3,o4⟩:=Blk5 K3.out.out
 have lp:=cell_lt p0
 have lq:=cell_lt q0
 have lo:=cell_lt o0
 have fo:=K3.out.out.frozen
 go_wp2_with fail
 refine (list_calls (bareS n) a' c' _).mono ?_
 rintro e w4 ⟨rfl,hE4⟩
 have K4:=Lib.hid (K3.out.grow hE4)
 rw [HL.out.1]
 clear hE4 p0 p1 p2 q0 q1 q2 q3 q4 o0 o1 o2 o3 o4 lp lq lo fo
 obtain ⟨p0,p1,p2⟩:=Blk3 K4.out.pat
 obtain ⟨q0,q1,q2,q3,q4⟩:=Blk5 K4.out.part
 obtain ⟨o0,o1,o2,o3,o4⟩:=Blk5 K4.out.out
 have lp:=cell_lt p0
 have lq:=cell_lt q0
 have lo:=cell_lt o0
 have fo:=K4.out.out.frozen
 have HR:=Lib.hid (show sp (.mk k x ks) n S op=spArgs ks (bareS n).kids S op (bareS n) by
  rw [sp_struct_eq HZ.out.1.1 S op h1 h2 h3 h4 h5 h6 h7,peel_self HZ.out.1.1.bare.2 HL.out.1]
  simp only [hkk,if_true])
 have hkne : ((bareS n).kind.toList != k.toList)=false:=by rw [bne,hkk];rfl
 go_wp2_with fail
 refine (args_calls k _).mono ?_
 rintro e w5 ⟨aa,ac,rfl,hsa,hE5⟩
 have K5:=Lib.hid (K4.out.grow hE5)
 have HN5:=Lib.hid (NmAt.of K5.out.st hsa)
 clear hE5 hsa p0 p1 p2 q0 q1 q2 q3 q4 o0 o1 o2 o3 o4 lp lq lo fo
 have hal5 : (args k).length <= 5:=by
  have h1:=args_asked k
  have h2:=asked_le k
  rw [size_toList] at h1
  omega
 have hke:=(pf_facts HL.out.2.1).2.2.2.1
 have hyl:=(args_nb HZ.out.2.1 (k:=k) (eq_of_beq hkk) HL.out.2.1).1
 have hal:=args_le_all k hke
 have hfl5:=fields_le k
 have hkl:=HL.out.2.2.1
 have HKF:=Lib.hid (And.intro hke (And.intro hyl (And.intro hal hkl)))
 have hkl2 : ks.length <= 5:=by omega
 have hfk : (fields (bareS n).kind)=fields k:=by rw [HKE.out]
 have HFK:=Lib.hid hfk
 have hIK : Hid (∀ i,i < ks.length -> i < (bareS n).kids.length /\ i < (args k).length /\ i < (fields (bareS n).kind).length):=Lib.hid (fun i hi=>by rw [hfk];omega)
 have hff : (fields (bareS n).kind).length <= 5:=by rw [hfk];exact hfl5
 have hal6 : ((args k).length : Int)=ks.length:=by omega
 have HAL:=Lib.hid hal6
 clear hke hyl hal hfl5 hkl hfk hal6
 go_wp2_with fail
 go_loopw [279] (fun iv wr=>∃ (i : Nat) (S1 : SL) (op1 : Bool) (tb1 : Nat),iv=.int .i64 i /\ i <= (args k).length /\ SpS w0 nm mb tb tb1 w S1 op1 k x ks ta tc (bareS n) a' c' wr /\ NmAt mb tb1 wr aa (args k) /\ Hid (spArgs ks (bareS n).kids S op (bareS n)=spArgs (ks.drop i) ((bareS n).kids.drop i) S1 op1 (bareS n))) (fun iv _=>(args k).length - (intOf iv).toNat)
 case atStart=>exact ⟨0,S,op,tb,rfl,Nat.zero_le _,K5.out,HN5.out,Lib.hid rfl⟩
 case round =>
  obtain ⟨i,S1,op1,tb1,rfl,hi,hS1,hN1,hD⟩:=hrel
  have K6:=Lib.hid hS1
  have HN6:=Lib.hid hN1
  clear hS1 hN1
  obtain ⟨p0,p1,p2⟩:=Blk3 K6.out.pat
  obtain ⟨q0,q1,q2,q3,q4⟩:=Blk5 K6.out.part
  obtain ⟨o0,o1,o2,o3,o4⟩:=Blk5 K6.out.out
  have lp:=cell_lt p0
  have lq:=cell_lt q0
  have lo:=cell_lt o0
  have fo:=K6.out.out.frozen
  by_cases hlt : i < (args k).length
  ·have hlk : i < ks.length:=by have:=HAL.out;omega
   obtain ⟨hiy,-,hif⟩:=hIK.out i hlk
   obtain ⟨gb,go,rfl,gl,gc,-,-⟩:=HN6.out i hlt
   go_wp2_with fail
   refine (fields_calls (bareS n).kind _).mono ?_
   rintro e w7 ⟨fa,fc,rfl,hfc1,hfc2,hsf,hE7⟩
   have K7:=Lib.hid (K6.out.grow hE7)
   have HN7:=Lib.hid (And.intro (HN6.out.grow hE7) (NmAt.of K7.out.st hsf))
   clear hE7 hsf p0 p1 p2 q0 q1 q2 q3 q4 o0 o1 o2 o3 o4 lp lq lo fo gl gc
   go_wp2_with fail
   go_loopw [288] (fun jv wr=>∃ (j : Nat) (S2 : SL) (op2 : Bool) (tb2 : Nat),jv=.int .i64 j /\ j <= (fields (bareS n).kind).length /\ SpS w0 nm mb tb tb2 w S2 op2 k x ks ta tc (bareS n) a' c' wr /\ NmAt mb tb2 wr (some ⟨gb,go,none⟩) (args k) /\ NmAt mb tb2 wr fa (fields (bareS n).kind) /\ Hid ((j <= i /\ S2=S1 /\ op2=op1) \/ (i < j /\ spArgs ks (bareS n).kids S op (bareS n)=spArgs (ks.drop (i + 1)) ((bareS n).kids.drop (i + 1)) S2 op2 (bareS n)))) (fun jv _=>(fields (bareS n).kind).length - (intOf jv).toNat)
   case atStart=>exact ⟨0,S1,op1,tb1,rfl,Nat.zero_le _,K7.out,HN7.out.1,HN7.out.2,Lib.hid (.inl ⟨Nat.zero_le _,rfl,rfl⟩)⟩
   case round =>
    obtain ⟨j,S2,op2,tb2,rfl,hj,hS2,hN2,hF2,hJ⟩:=hrel
    have K8:=Lib.hid hS2
    have HN8:=Lib.hid (And.intro hN2 hF2)
    clear hS2 hN2 hF2
    obtain ⟨p0,p1,p2⟩:=Blk3 K8.out.pat
    obtain ⟨q0,q1,q2,q3,q4⟩:=Blk5 K8.out.part
    obtain ⟨o0,o1,o2,o3,o4⟩:=Blk5 K8.out.out
    have lp:=cell_lt p0
    have lq:=cell_lt q0
    have lo:=cell_lt o0
    have fo:=K8.out.out.frozen
    by_cases hjl : j < (fields (bareS n).kind).length
    ·obtain ⟨fb,fo2,rfl,fl,fcell,-,-⟩:=HN8.out.2 j hjl
     have hcmp : ((args k)[i].toList == (fields (bareS n).kind)[j].toList)=(i == j):=by
      have h:=HFK.out
      have hh:=args_fields HKF.out.1 hlt (j:=j) (by rw [<- h];exact hjl)
      rw [<- hh]
      congr 2
      simp only [h]
     by_cases hij : j=i
     ·cases hij
      obtain ⟨-,rfl,rfl⟩:=hJ.out.resolve_right (fun h=>by have:=h.1;omega)
      rw [beq_self_eq_true] at hcmp
      obtain ⟨qb,qo,qa,qc,rfl,-,t0,t1,t2,hq⟩:=HT.out.kid i (by simpa [kids_mk] using hlk)
      have htc:=HT.out.kids.1
      simp only [kids_mk] at t0 t1 t2 hq htc
      obtain ⟨yb,yo,ya,yc,rfl,-,-,v0,v1,v2,v3,v4,hY⟩:=K4.out.syn.kid i hiy
      have hyc:=K4.out.syn.kids.1
      have T00:=Lib.hid (And.intro t0 (And.intro t1 t2))
      have V00:=Lib.hid (And.intro v0 (And.intro v1 (And.intro v2 (And.intro v3 v4))))
      have HC:=Lib.hid (fun (w' : World) (hx : Ext wr w')=>K8.out.call (HL.out.2.2.2 i hlk) (kid_rz HZ.out.2 i hiy) HNM.out.1 (fun s hs=>HNM.out.2 s (names_kid (List.getElem_mem hlk) s hs)) hq hY hx)
      replace t0:=K8.out.st.ext.keep t0
      replace t1:=K8.out.st.ext.keep t1
      replace t2:=K8.out.st.ext.keep t2
      replace v0:=K8.out.st.ext.keep v0
      replace v1:=K8.out.st.ext.keep v1
      replace v2:=K8.out.st.ext.keep v2
      replace v3:=K8.out.st.ext.keep v3
      replace v4:=K8.out.st.ext.keep v4
      have tl:=cell_lt t0
      have vl:=cell_lt v0
      obtain ⟨gb',go',e1,hgb,-⟩:=HN8.out.1 i hlt
      cases e1
      have HD2 : Hid (spArgs ks (bareS n).kids S op (bareS n)=if (sp ks[i] (bareS n).kids[i] S2 op2).ok then spArgs (ks.drop (i + 1)) ((bareS n).kids.drop (i + 1)) (sp ks[i] (bareS n).kids[i] S2 op2).S (sp ks[i] (bareS n).kids[i] S2 op2).op (bareS n) else ⟨false,bareS n,(sp ks[i] (bareS n).kids[i] S2 op2).S,(sp ks[i] (bareS n).kids[i] S2 op2).op⟩):=Lib.hid (by
       rw [hD.out,List.drop_eq_getElem_cons hlk,List.drop_eq_getElem_cons hiy,spArgs])
      clear hq hY
      generalize sp ks[i] (bareS n).kids[i] S2 op2=r at *
      generalize hnj : (fields (bareS n).kind)[i]=fj at *
      generalize hni : (args k)[i]=ai at *
      clear hnj hni
      go_wp2_with fail
      have FF : ∀ (b : Nat),wr.heap.size ≠ b -> ∀ (W : World) (o o' : Nat) (v : Value),(W.setCell ⟨wr.heap.size,o,none⟩ v).cell? ⟨b,o',none⟩=W.cell? ⟨b,o',none⟩:=fun b hb W o o' v=>World.cell?_setCell_far W _ _ _ hb
      have F0:=FF (w.heap.size) (by omega)
      have F1:=FF (w.heap.size + 1) (by omega)
      have F2:=FF (qb) (by have:=tl;omega)
      have F3:=FF (yb) (by have:=vl;omega)
      clear FF
      go_region_held3 (fun w'=>w'.cell? ⟨w.heap.size,2,none⟩=some (.slice (some ⟨qb,qo,none⟩) ks.length tc) /\ w'.cell? ⟨qb,qo + i * 3,none⟩=some (.string ks[i].kind) /\ w'.cell? ⟨qb,qo + i * 3 + 1,none⟩=some (.string ks[i].text) /\ w'.cell? ⟨qb,qo + i * 3 + 2,none⟩=some (.slice qa ks[i].kids.length qc) /\ w'.cell? ⟨w.heap.size + 1,4,none⟩=some (.slice (some ⟨yb,yo,none⟩) (bareS n).kids.length c') /\ w'.cell? ⟨yb,yo + i * 5,none⟩=some (.string (bareS n).kids[i].kind) /\ w'.cell? ⟨yb,yo + i * 5 + 1,none⟩=some (.bool (bareS n).kids[i].null) /\ w'.cell? ⟨yb,yo + i * 5 + 2,none⟩=some (.string (bareS n).kids[i].text) /\ w'.cell? ⟨yb,yo + i * 5 + 3,none⟩=some (.int .i64 (bareS n).kids[i].num) /\ w'.cell? ⟨yb,yo + i * 5 + 4,none⟩=some (.slice ya (bareS n).kids[i].kids.length yc)) (first | go_keep | (simp only [F0,F1,F2,F3];exact ⟨y9_0,y9_1,y9_2,y9_3,y9_4,y9_5,y9_6,y9_7,y9_8,y9_9⟩))
       (first
        | (go_at_call 61;refine (HC.out _ (Ext.drew _)).mono ?_;rintro e w9 ⟨⟨o9,a9,c9,rfl,ho9⟩,tb9,hS9,hT9⟩;have K9:=Lib.hid hS9;have H9:=Lib.hid ho9;have HG9:=Lib.hid (And.intro (((HN8.out.1.grow (Ext.drew _)).after hT9).grow (Ext.alloc _ (.cells #[.string o9.kind,.bool o9.null,.string o9.text,.int .i64 o9.num,.slice a9 o9.kids.length c9] 52))) (((HN8.out.2.grow (Ext.drew _)).after hT9).grow (Ext.alloc _ (.cells #[.string o9.kind,.bool o9.null,.string o9.text,.int .i64 o9.num,.slice a9 o9.kids.length c9] 52))));have KG9 : Hid (SpS w0 nm mb _ _ w _ _ _ _ _ _ _ _ _ _ (w9.alloc (.cells #[.string o9.kind,.bool o9.null,.string o9.text,.int .i64 o9.num,.slice a9 o9.kids.length c9] 52))):=Lib.hid (hS9.grow (Ext.alloc _ _));have y9_0:=(Blk3 K9.out.pat).2.2;have y9_1:=K9.out.st.ext.keep T00.out.1;have y9_2:=K9.out.st.ext.keep T00.out.2.1;have y9_3:=K9.out.st.ext.keep T00.out.2.2;have y9_4:=(Blk5 K9.out.part).2.2.2.2;have y9_5:=K9.out.st.ext.keep V00.out.1;have y9_6:=K9.out.st.ext.keep V00.out.2.1;have y9_7:=K9.out.st.ext.keep V00.out.2.2.1;have y9_8:=K9.out.st.ext.keep V00.out.2.2.2.1;have y9_9:=K9.out.st.ext.keep V00.out.2.2.2.2;clear hS9 ho9 hT9)
        | (go_at_call 61;refine (HC.out _ ((Ext.alloc _ _).trans (Ext.drew _))).mono ?_;rintro e w9 ⟨⟨o9,a9,c9,rfl,ho9⟩,tb9,hS9,hT9⟩;have K9:=Lib.hid hS9;have H9:=Lib.hid ho9;have HG9:=Lib.hid (And.intro (((HN8.out.1.grow ((Ext.alloc _ _).trans (Ext.drew _))).after hT9).aside (n:=wr.heap.size) (fun b o e=>by cases e;exact hgb) (.string o9.kind) (.bool o9.null) (.string o9.text) (.int .i64 o9.num) (.slice a9 o9.kids.length c9)) (((HN8.out.2.grow ((Ext.alloc _ _).trans (Ext.drew _))).after hT9).aside (n:=wr.heap.size) (fun b o e=>by cases e;exact fl) (.string o9.kind) (.bool o9.null) (.string o9.text) (.int .i64 o9.num) (.slice a9 o9.kids.length c9)));have hB9:=((Blk.new wr #[.string ⟨#[]⟩,.bool false,.string ⟨#[]⟩,.int .i64 0,.slice none 0 0] 52).ext (Ext.drew _)).extM hT9.1 (by have:=K8.out.lts;omega);obtain ⟨z0,z1,z2,z3,z4⟩:=Blk5 hB9;have zl:=cell_lt z0;have zf:=hB9.frozen;have htn : tb9 ≠ wr.heap.size:=(hT9.2.elim (fun e=>by have h1:=K8.out.lts;omega) (fun e=>by have h3 : wr.heap.size + 1 <= tb9:=(by simpa using e);omega));have KG9:=Lib.hid (hS9.aside (b:=wr.heap.size) (by have:=K8.out.out.lt;omega) (by have:=K8.out.lts;omega) (fun e=>htn e.symm) (.string o9.kind) (.bool o9.null) (.string o9.text) (.int .i64 o9.num) (.slice a9 o9.kids.length c9));clear hB9 htn;have y9_0:=(Blk3 K9.out.pat).2.2;have y9_1:=K9.out.st.ext.keep T00.out.1;have y9_2:=K9.out.st.ext.keep T00.out.2.1;have y9_3:=K9.out.st.ext.keep T00.out.2.2;have y9_4:=(Blk5 K9.out.part).2.2.2.2;have y9_5:=K9.out.st.ext.keep V00.out.1;have y9_6:=K9.out.st.ext.keep V00.out.2.1;have y9_7:=K9.out.st.ext.keep V00.out.2.2.1;have y9_8:=K9.out.st.ext.keep V00.out.2.2.2.1;have y9_9:=K9.out.st.ext.keep V00.out.2.2.2.2;clear hS9 ho9 hT9)
        | fail)
      all_goals
       first
        | (obtain ⟨w10,hw10⟩ : ∃ w10,w10=w9.alloc (.cells #[.string o9.kind,.bool o9.null,.string o9.text,.int .i64 o9.num,.slice a9 o9.kids.length c9] 52):=⟨_,rfl⟩;rw [<- hw10] at KG9 HG9 ⊢;clear hw10)
        | (obtain ⟨w10,hw10⟩ : ∃ w10,w10=(((((w9.setCell ⟨wr.heap.size,0,none⟩ (.string o9.kind)).setCell ⟨wr.heap.size,1,none⟩ (.bool o9.null)).setCell ⟨wr.heap.size,2,none⟩ (.string o9.text)).setCell ⟨wr.heap.size,3,none⟩ (.int .i64 o9.num)).setCell ⟨wr.heap.size,4,none⟩ (.slice a9 o9.kids.length c9)):=⟨_,rfl⟩;rw [<- hw10] at KG9 HG9 ⊢;clear hw10)
       clear p0 p1 p2 q0 q1 q2 q3 q4 o0 o1 o2 o3 o4 lp lq lo fo t0 t1 t2 v0 v1 v2 v3 v4 tl vl
       obtain ⟨p0,p1,p2⟩:=Blk3 KG9.out.pat
       obtain ⟨q0,q1,q2,q3,q4⟩:=Blk5 KG9.out.part
       obtain ⟨o0,o1,o2,o3,o4⟩:=Blk5 KG9.out.out
       have lp:=cell_lt p0
       have lq:=cell_lt q0
       have lo:=cell_lt o0
       have fo:=KG9.out.out.frozen
       cases hrk : r.ok with
       | false =>
        have HR2:=Lib.hid (show sp (.mk k x ks) n S op=⟨false,bareS n,r.S,r.op⟩ by
         rw [HR.out,HD2.out,hrk];rfl)
        go_wp2_with fail
        have ho:=KG9.out.out5 (.string (bareS n).kind) (.bool (bareS n).null) (.string (bareS n).text) (.int .i64 (bareS n).num) (.slice (some ⟨yb,yo,none⟩) (bareS n).kids.length c')
        refine bodyPost_ret (results_ct rfl _ _ (w.heap.size + 2) 52 (synC (bareS n) (some ⟨yb,yo,none⟩) c') rfl ho.1 row52 size52) rfl ?_
        rw [HR2.out]
        obtain ⟨-,tb',ho2,ho3⟩:=ho
        exact ⟨⟨bareS n,some ⟨yb,yo,none⟩,c',rfl,fun h=>by cases h⟩,tb',ho2,ho3⟩
       | true =>
        have HD3:=Lib.hid (show spArgs ks (bareS n).kids S op (bareS n)=spArgs (ks.drop (i + 1)) ((bareS n).kids.drop (i + 1)) r.S r.op (bareS n) by
         rw [HD2.out,hrk];rfl)
        go_wp2_with fail
        exact ⟨⟨i + 1,r.S,r.op,tb9,by simp,by omega,KG9.out,HG9.out.1,HG9.out.2,Lib.hid (.inr ⟨Nat.lt_succ_self _,HD3.out⟩)⟩,by simp [intOf];omega⟩
     ·have hc2 : ((args k)[i].toList == (fields (bareS n).kind)[j].toList)=false:=by rw [hcmp,beq_eq_false_iff_ne];exact fun e=>hij e.symm
      clear hcmp
      generalize hnj : (fields (bareS n).kind)[j]=fj at *
      generalize hni : (args k)[i]=ai at *
      clear hnj hni
      go_wp2_with fail
      exact ⟨⟨j + 1,S2,op2,tb2,by simp,by omega,K8.out,HN8.out.1,HN8.out.2,Lib.hid (by
       rcases hJ.out with ⟨h1,h2,h3⟩ | ⟨h1,h2⟩
       ·exact .inl ⟨by omega,h2,h3⟩
       ·exact .inr ⟨by omega,h2⟩)⟩,by simp [intOf];omega⟩
    ·obtain ⟨hj1,hj2⟩:=hJ.out.resolve_left (fun h=>by have:=h.1;omega)
     have HJ2:=Lib.hid hj2
     clear hj2
     go_wp2_with fail
     exact ⟨⟨i + 1,S2,op2,tb2,by simp,by omega,K8.out,HN8.out.1,HJ2⟩,by simp [intOf];omega⟩
  ·have hie : i=ks.length:=by have:=HAL.out;omega
   have HR2:=Lib.hid (show sp (.mk k x ks) n S op=⟨true,bareS n,S1,op1⟩ by
    rw [HR.out,hD.out,hie,List.drop_of_length_le (Nat.le_refl _),spArgs])
   clear hie
   go_wp2_with fail
   have ho:=K6.out.out5 (.string (bareS n).kind) (.bool (bareS n).null) (.string (bareS n).text) (.int .i64 (bareS n).num) (.slice a' (bareS n).kids.length c')
   refine bodyPost_ret (results_ct rfl _ _ (w.heap.size + 2) 52 (synC (bareS n) a' c') rfl ho.1 row52 size52) rfl ?_
   rw [HR2.out]
   obtain ⟨-,tb',ho2,ho3⟩:=ho
   exact ⟨⟨bareS n,a',c',rfl,fun _=>⟨rfl,HZ.out.2,K4.out.syn⟩⟩,tb',ho2,ho3⟩
end Go.Proofs.YtigalkobmfbdaaaGreatDoor
