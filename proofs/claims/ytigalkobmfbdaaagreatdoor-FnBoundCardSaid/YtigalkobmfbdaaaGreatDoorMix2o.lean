/- match at nodes with a type's name. -/
import Derived.Test.YtigalkobmfbdaaaGreatDoorMix2n
import Derived.Stop.Asserts
set_option linter.unusedVariables false
set_option linter.unusedSimpArgs false
set_option maxRecDepth 100000
set_option maxHeartbeats 4000000
namespace Go.Proofs.YtigalkobmfbdaaaGreatDoor
open Go.RowKit
theorem pfields_val (k : ByteArray) (w : World) : Calls Tryz.prog 146 #[.string k] w fun e w'=>e=.returned (strsV w (pfields k)).1 /\ w'=(strsV w (pfields k)).2:=by
 have h : callK Tryz.prog Tryz.f146 #[.string k] w=some ((strsV w (pfields k)).1,(strsV w (pfields k)).2):=(pfields_run k w).trans (sw_map (fun x=>some (strsV w x)) k pfieldsT [])
 exact (callK_sound Tryz.func146 h).mono fun e w' ⟨he,hw⟩=>⟨he,hw.symm⟩
theorem pf_table : ∀ x ∈ fieldsT,named x.1=true -> (pfields x.1).length=(args x.1).length /\ (args x.1).length <= (zfields x.1).length /\ ((zfields x.1).take (args x.1).length).map ByteArray.toList=(pfields x.1).map ByteArray.toList /\ nodeK x.1=true /\ (x.1.toList == [78,111,116])=false:=by decide +kernel
theorem map_toList_inj : ∀ {l m : List ByteArray},l.map ByteArray.toList=m.map ByteArray.toList -> l=m
 | [],[],_=>rfl
 | [],_ :: _,h=>by simp at h
 | _ :: _,[],h=>by simp at h
 | x :: l,y :: m,h=>by
  rw [List.map_cons,List.map_cons,List.cons.injEq] at h
  rw [toList_inj h.1,map_toList_inj h.2]
theorem pf_facts {k : ByteArray} (h : named k=true) : (pfields k).length=(args k).length /\ (args k).length <= (zfields k).length /\ (zfields k).take (args k).length=pfields k /\ k ∈ expressions ++ statements /\ (k.toList == [78,111,116])=false:=by
 have h0 : (pfields k).length=(args k).length /\ (args k).length <= (zfields k).length /\ ((zfields k).take (args k).length).map ByteArray.toList=(pfields k).map ByteArray.toList /\ nodeK k=true /\ (k.toList == [78,111,116])=false:=by
  rcases sw_cases k fieldsT [] with ⟨e,-⟩ | ⟨x,hx,rfl,-⟩
  ·have e' : fields k=[]:=e
   have hk : k.toList == [69,109,112,116,121,83,116,109,116]:=by
    unfold named at h
    have ha : args k=[]:=by
     unfold args
     rw [e']
     split <;> first | rfl | (split <;> rfl)
    rw [ha] at h
    simpa using h
   rw [beq_lit hk]
   decide +kernel
  ·exact pf_table x hx h
 exact ⟨h0.1,h0.2.1,map_toList_inj h0.2.2.1,nodeK_mem h0.2.2.2.1,h0.2.2.2.2⟩
theorem node_tests2 : ∀ k ∈ expressions ++ statements,(k.toList == [91,93,69,120,112,114])=false /\ (k.toList == [91,93,83,116,109,116])=false /\ (k.toList == [91,93,70,105,101,108,100])=false:=by decide +kernel
theorem nil_iface (x : Value) (w : World) : (binOp BinOp.eql 78 (.iface 127 x) (.iface 131 (.agg #[]))).run Tryz.prog w=.ok (.bool false) w:=by kernel_rfl
theorem underlying199 : Tryz.prog.underlying 199=some (.interface #[("Match",201)]):=by kernel_rfl
theorem no_matcher (x : Value) (w : World) : (Instr.typeAssert (.iface 127 x) 78 199 true).run Tryz.prog w=.ok (.tuple #[.nilIface,.bool false]) w:=run_typeAssert_lacksB underlying199 (by kernel_rfl) (by kernel_rfl) x 78 w
theorem disp_struct {k : ByteArray} {a : Option Addr} {n c : Nat} {pv : Value} {mb : Nat} {w : World} {R : Option Addr -> Bool -> World -> Prop} (hk : (k.toList == [78,111,116])=false) (m3 : w.cell? ⟨mb,3,none⟩=some (.bool false)) (hb : Bare w pv) (hC : ∀ w',Ext w w' -> Calls Tryz.prog 126 #[.pointer (some ⟨mb,0,none⟩),.iface 127 (.agg #[.string k,.slice a n c]),pv] w' (Two R)) :
  Calls Tryz.prog 95 #[.pointer (some ⟨mb,0,none⟩),.iface 127 (.agg #[.string k,.slice a n c]),.pointer none,pv] w (Two R):=by
 have ltm:=cell_lt m3
 have HC:=Lib.hid hC
 obtain ⟨t1,t2,t3,t4,t5,t6,t7,t8,t9,t10,t11,t12⟩:=ta_127 (.agg #[.string k,.slice a n c])
 have e3:=no_matcher (.agg #[.string k,.slice a n c])
 clear hC
 rcases hb with rfl | ⟨b,k',nl,rfl,h0,h1,n1,n2,n3,n4,n5,n6,hn⟩
 ·go_enter Tryz.func95,Tryz.ntmps95
  go_wp2_with fail
  refine (HC.out _ (Ext.alloc _ _)).mono ?_
  rintro e w2 ⟨q,bb,rfl,hR⟩
  have KR:=Lib.hid hR
  clear hR
  go_wp2_with fail
  go_ret2
  exact ⟨q,bb,rfl,KR.out⟩
 ·have lt0:=cell_lt h0
  rcases hn with hn | rfl
  ·go_enter Tryz.func95,Tryz.ntmps95
   go_wp2_with fail
   refine (HC.out _ (Ext.alloc _ _)).mono ?_
   rintro e w2 ⟨q,bb,rfl,hR⟩
   have KR:=Lib.hid hR
   clear hR
   go_wp2_with fail
   go_ret2
   exact ⟨q,bb,rfl,KR.out⟩
  ·cases hn : (k'.toList == [66,97,115,105,99,76,105,116])
   all_goals
    go_enter Tryz.func95,Tryz.ntmps95
    go_wp2_with fail
    refine (HC.out _ (Ext.alloc _ _)).mono ?_
    rintro e w2 ⟨q,bb,rfl,hR⟩
    have KR:=Lib.hid hR
    clear hR
    go_wp2_with fail
    go_ret2
    exact ⟨q,bb,rfl,KR.out⟩
theorem disp_not {k : ByteArray} {a : Option Addr} {n c : Nat} {pv : Value} {mb : Nat} {w : World} {R : Option Addr -> Bool -> World -> Prop} (hk : (k.toList == [78,111,116])=true) (m3 : w.cell? ⟨mb,3,none⟩=some (.bool false)) (hb : Bare w pv) (hC : ∀ w',Ext w w' -> Calls Tryz.prog 125 #[.agg #[.string k,.slice a n c],.pointer (some ⟨mb,0,none⟩),pv] w' (Two R)) :
  Calls Tryz.prog 95 #[.pointer (some ⟨mb,0,none⟩),.iface 127 (.agg #[.string k,.slice a n c]),.pointer none,pv] w (Two R):=by
 have ltm:=cell_lt m3
 have HC:=Lib.hid hC
 obtain ⟨t1,t2,t3,t4,t5,t6,t7,t8,t9,t10,t11,t12⟩:=ta_127 (.agg #[.string k,.slice a n c])
 have e3:=no_matcher (.agg #[.string k,.slice a n c])
 clear hC
 rcases hb with rfl | ⟨b,k',nl,rfl,h0,h1,n1,n2,n3,n4,n5,n6,hn⟩
 ·go_enter Tryz.func95,Tryz.ntmps95
  go_wp2_with fail
  refine (HC.out _ (Ext.alloc _ _)).mono ?_
  rintro e w2 ⟨q,bb,rfl,hR⟩
  have KR:=Lib.hid hR
  clear hR
  go_wp2_with fail
  go_ret2
  exact ⟨q,bb,rfl,KR.out⟩
 ·have lt0:=cell_lt h0
  rcases hn with hn | rfl
  ·go_enter Tryz.func95,Tryz.ntmps95
   go_wp2_with fail
   refine (HC.out _ (Ext.alloc _ _)).mono ?_
   rintro e w2 ⟨q,bb,rfl,hR⟩
   have KR:=Lib.hid hR
   clear hR
   go_wp2_with fail
   go_ret2
   exact ⟨q,bb,rfl,KR.out⟩
  ·cases hn : (k'.toList == [66,97,115,105,99,76,105,116])
   all_goals
    go_enter Tryz.func95,Tryz.ntmps95
    go_wp2_with fail
    refine (HC.out _ (Ext.alloc _ _)).mono ?_
    rintro e w2 ⟨q,bb,rfl,hR⟩
    have KR:=Lib.hid hR
    clear hR
    go_wp2_with fail
    go_ret2
    exact ⟨q,bb,rfl,KR.out⟩
end Go.Proofs.YtigalkobmfbdaaaGreatDoor
set_option maxRecDepth 100000
set_option maxHeartbeats 4000000
namespace Go.Proofs.YtigalkobmfbdaaaGreatDoor
open Go.RowKit
theorem not_walk {nm : Names} {q : PN} (ih : MtC nm q) {wi : Bool} {k : ByteArray} {r o : Syn} {S S' : SL} {ok : Bool} (hm : mt nm wi q r S=some (ok,o,S')) (hr : RZ r) {mb tb : Nat} {w : World} {rv : Value} {st : List (BitVec 64)} {T : BitVec 64} {pv : Value} {a : Option Addr} {c : Nat} (hc : st.length + q.cnt <= 1000) (hlc : 1 <= c) (hM : MAt nm mb tb w rv S (st ++ [T])) (hN : NodesAt (XB mb tb rv) w a [q]) (hP : PtrIn (XB mb tb rv) w pv r) :
  Calls Tryz.prog 125 #[.agg #[.string k,.slice a 1 c],.pointer (some ⟨mb,0,none⟩),pv] w (Two (MtP nm mb tb w rv wi S S' st T (!ok) r)):=by
 obtain ⟨pv0,rfl⟩:=hP.ptr
 obtain ⟨g,of,v,rfl,hgX,hgc,hnv⟩:=hN.get 0 (by simp)
 simp only [List.getElem_cons_zero,Nat.add_zero] at hgc hnv
 have hone:=hnv.one
 have hE0:=Ext.alloc w (.cells #[.string k,.slice (some ⟨g,of,none⟩) 1 c] 127)
 have HI:=Lib.hid (ih wi r S ok o S' hr hm mb tb _ rv st T v (.pointer pv0) hc (hM.ext hE0) (hnv.mono (hE0.keeps _)) (hP.mono (hE0.keeps _)))
 have HM:=Lib.hid (And.intro hP hr)
 have hg1:=hE0.keep hgc
 have hgl:=cell_lt hg1
 have KE:=Lib.hid hE0
 clear hM hN hP hnv hm ih hgc hE0
 go_enter Tryz.func125,Tryz.ntmps125
 go_wp2_with fail
 refine HI.out.mono ?_
 rintro e w2 ⟨p,bb,rfl,rfl,rv1,T1,hq,hM1,hA1,hT1⟩
 have K:=Lib.hid (And.intro hM1 (And.intro hA1 hT1))
 obtain ⟨ba1,bc1,d0,d1,d2,d3,-⟩:=hM1.cells
 have dl:=cell_lt d3
 clear hq hM1 hA1 hT1
 cases bb
 ·go_wp2_with fail
  go_ret2
  exact ⟨pv0,true,rfl,rfl,rv1,T1,fun _=>⟨(HM.out.1.mono (KE.out.keeps _)).trn K.out.2.2,HM.out.2⟩,K.out.1,K.out.2.1,(Trn.of_ext KE.out).trans K.out.2.2⟩
 ·go_wp2_with fail
  go_ret2
  exact ⟨none,false,rfl,rfl,rv1,T1,fun h=>(by cases h),K.out.1,K.out.2.1,(Trn.of_ext KE.out).trans K.out.2.2⟩
theorem node_nothing (mv x : Value) (w : World) : Calls Tryz.prog 126 #[mv,.iface 127 x,.pointer none] w fun e w'=>e=.returned (.tuple #[.pointer none,.bool false]) /\ Ext w w':=by
 have e1:=nil_iface x
 have e2 : ∀ n,(binOp BinOp.eql 78 (.iface 127 x) (.iface 131 (.agg #[]))).run Tryz.prog (w.drewN n)=.ok (.bool false) (w.drewN n):=fun n=>e1 _
 go_enter Tryz.func126,Tryz.ntmps126
 go_wp2_with fail
 go_quiet (fail)
 go_wp2_with fail
 go_ret2
 exact ⟨rfl,Ext.drewN _ _⟩
theorem node_list {mv x : Value} {w : World} {b m c : Nat} {a : Option Addr} {k : ByteArray} (h0 : w.cell? ⟨b,0,none⟩=some (.string k)) (h4 : w.cell? ⟨b,4,none⟩=some (.slice a m c)) (hk : k=⟨#[91,93,69,120,112,114]⟩ \/ k=⟨#[91,93,83,116,109,116]⟩) (hm : m ≠ 1) : Calls Tryz.prog 126 #[mv,.iface 127 x,.pointer (some ⟨b,0,none⟩)] w fun e w'=>e=.returned (.tuple #[.pointer none,.bool false]) /\ Ext w w':=by
 have lt0:=cell_lt h0
 have hm' : ((m : Int) == 1)=false:=by rw [beq_eq_false_iff_ne];omega
 rcases hk with rfl | rfl
 all_goals
  go_enter Tryz.func126,Tryz.ntmps126
  go_wp2_with fail
  go_ret2
  exact ⟨rfl,Ext.refl _⟩
theorem node_one {mv x : Value} {w : World} {b g o c : Nat} {p : Option Addr} {k : ByteArray} {R : Option Addr -> Bool -> World -> Prop} (h0 : w.cell? ⟨b,0,none⟩=some (.string k)) (h4 : w.cell? ⟨b,4,none⟩=some (.slice (some ⟨g,o,none⟩) 1 c)) (hc : 1 <= c) (hk : k=⟨#[91,93,69,120,112,114]⟩ \/ k=⟨#[91,93,83,116,109,116]⟩) (hp : w.cell? ⟨g,o,none⟩=some (.pointer p)) (hC : Calls Tryz.prog 95 #[mv,.iface 127 x,.pointer none,.pointer p] w (Two R)) : Calls Tryz.prog 126 #[mv,.iface 127 x,.pointer (some ⟨b,0,none⟩)] w (Two R):=by
 have lt0:=cell_lt h0
 have ltp:=cell_lt hp
 have HC:=Lib.hid hC
 clear hC
 rcases hk with rfl | rfl
 all_goals
  go_enter Tryz.func126,Tryz.ntmps126
  go_wp2_with fail
  refine HC.out.mono ?_
  rintro e w2 ⟨q,bb,rfl,hR⟩
  have KR:=Lib.hid hR
  clear hR
  go_wp2_with fail
  go_ret2
  exact ⟨q,bb,rfl,KR.out⟩
theorem node_leaf {mv x : Value} {w : World} {b : Nat} {k : ByteArray} (h0 : w.cell? ⟨b,0,none⟩=some (.string k)) (hk : k=⟨#[115,116,114,105,110,103]⟩ \/ k=⟨#[84,111,107,101,110]⟩) : Calls Tryz.prog 126 #[mv,.iface 127 x,.pointer (some ⟨b,0,none⟩)] w fun e w'=>e=.returned (.tuple #[.pointer none,.bool false]) /\ Ext w w':=by
 have lt0:=cell_lt h0
 rcases hk with rfl | rfl
 all_goals
  go_enter Tryz.func126,Tryz.ntmps126
  go_wp2_with fail
  refine (is_node_no h0 (by decide +kernel)).mono ?_
  rintro e w1 ⟨rfl,hE1⟩
  replace h0:=hE1.keep h0
  have lt1:=cell_lt h0
  have K1:=Lib.hid hE1
  clear hE1
  go_wp2_with fail
  go_ret2
  exact ⟨rfl,K1.out⟩
theorem node_other {mv : Value} {w : World} {b n c : Nat} {a : Option Addr} {k k' : ByteArray} (h0 : w.cell? ⟨b,0,none⟩=some (.string k')) (h1 : w.cell? ⟨b,1,none⟩=some (.bool false)) (hk : k' ∈ expressions ++ statements) (hne : (k.toList == k'.toList)=false) : Calls Tryz.prog 126 #[mv,.iface 127 (.agg #[.string k,.slice a n c]),.pointer (some ⟨b,0,none⟩)] w fun e w'=>e=.returned (.tuple #[.pointer none,.bool false]) /\ Ext w w':=by
 have lt0:=cell_lt h0
 obtain ⟨m1,m2,m3⟩:=node_tests2 k' hk
 obtain ⟨t1,t2,t3,t4,t5,t6,t7,t8,t9,t10,t11,t12⟩:=ta_127 (.agg #[.string k,.slice a n c])
 go_enter Tryz.func126,Tryz.ntmps126
 go_wp2_with fail
 refine (is_node_yes h0 hk).mono ?_
 rintro e w1 ⟨rfl,hE1⟩
 replace h0:=hE1.keep h0
 replace h1:=hE1.keep h1
 have lt1:=cell_lt h0
 have K1:=Lib.hid hE1
 clear hE1
 have hE2:=Ext.alloc w1 (.cells #[.string k,.slice a n c] 127)
 have k0:=hE2.keep h0
 have k1:=hE2.keep h1
 go_wp2_with fail
 go_quiet (fail)
 go_wp2_with fail
 go_ret2
 exact ⟨rfl,(K1.out.trans hE2).trans (Ext.drewN _ _)⟩
end Go.Proofs.YtigalkobmfbdaaaGreatDoor
set_option maxRecDepth 100000
set_option maxHeartbeats 4000000
namespace Go.Proofs.YtigalkobmfbdaaaGreatDoor
open Go.RowKit
theorem cnt_struct (k : ByteArray) (ks : List PN) : (PN.struct k ks).cnt=cntAll ks + 1:=by rw [PN.cnt]
theorem field_at {k : ByteArray} (hk : named k=true) (j : Nat) (hj : j < (pfields k).length) : (zfields k)[j]?=some (pfields k)[j] /\ ∀ i < j,(zfields k)[i]? ≠ some (pfields k)[j]:=by
 obtain ⟨h1,h2,h3,h4,-⟩:=pf_facts hk
 have hz : j < (zfields k).length:=by omega
 have e : (zfields k)[j]=(pfields k)[j]:=by
  have:=congrArg (fun l=>l[j]?) h3
  rw [List.getElem?_take_of_lt (by omega),List.getElem?_eq_getElem hz,List.getElem?_eq_getElem hj] at this
  simpa using this
 refine ⟨by rw [List.getElem?_eq_getElem hz,e],?_⟩
 rw [<- e]
 exact first_field (zfields_ok k h4).2 hz
theorem strs_cell {w : World} {b : Nat} {fs : List ByteArray} (h : Blk w b (fs.map Value.string).toArray 9) (j : Nat) (hj : j < fs.length) : w.cell? ⟨b,j,none⟩=some (.string fs[j]):=by
 rw [h.cell]
 simp [hj]
theorem node_fields {nm : Names} {k : ByteArray} {ks : List PN} {ys : List Syn} (ih : ∀ (j : Nat) (hj : j < ks.length),MtC nm ks[j]) (hnk : named k=true) (hkl : ks.length=(args k).length) {wi : Bool} {S S' : SL} {ok : Bool} (hm : mtArgs nm wi ks ys S=some (ok,S')) (hr : RZ (.mk k false ⟨#[]⟩ 0 ys)) {mb tb : Nat} {w : World} {rv : Value} {st : List (BitVec 64)} {T : BitVec 64} {b : Nat} {a : Option Addr} {c : Nat} (hc : st.length + (cntAll ks + 1) <= 1000) (hlc : ks.length <= c) (hM : MAt nm mb tb w rv S (st ++ [T])) (hN : NodesAt (XB mb tb rv) w a ks) (hP : PtrIn (XB mb tb rv) w (.pointer (some ⟨b,0,none⟩)) (.mk k false ⟨#[]⟩ 0 ys)) :
  Calls Tryz.prog 126 #[.pointer (some ⟨mb,0,none⟩),.iface 127 (.agg #[.string k,.slice a ks.length c]),.pointer (some ⟨b,0,none⟩)] w (Two (MtP nm mb tb w rv wi S S' st T ok (.mk k false ⟨#[]⟩ 0 ys))):=by
 obtain ⟨hp1,hp2,hp3,hke,-⟩:=pf_facts hnk
 have hne:=node_ne k hke
 obtain ⟨b',ya,yc,e,hbX,-,h0,h1,-,-,h4,hyc,hPs⟩:=hP.blk (by rw [skind_mk];exact hne)
 obtain rfl : b=b':=by simpa using e
 simp only [skind_mk,snull_mk,skids_mk] at h0 h1 h4 hyc hPs
 have hform : ys.length=(asked k).size /\ rightArgs ys (asked k).toList k=true:=by
  have hf:=hr.1.form
  cases hf with
  | node k ks h h1 h2=>exact ⟨h1,h2⟩
  | nothing=>exact absurd (nodeK_of hke) (by decide +kernel)
  | leaf k x n h=>exact absurd (nodeK_of hke) (by rcases h with ⟨rfl | rfl,-⟩ | ⟨rfl,-⟩ <;> decide +kernel)
  | list k nl ks h=>exact absurd (nodeK_of hke) (by rcases h with rfl | rfl <;> decide +kernel)
 have hyl : ys.length=(zfields k).length:=by rw [hform.1,(zfields_ok k hke).1]
 have hz5:=zfields_small k
 have hRZ : ∀ (j : Nat) (hj : j < ys.length),RZ ys[j]:=fun j hj=>⟨RS.args hform.1 hform.2 j hj,by
  have h1:=sizeS_kid ys j hj
  have h2:=hr.2
  rw [sizeS_mk] at h2
  omega⟩
 have HF:=Lib.hid (fun j hj=>field_at hnk j hj)
 have hfl : (pfields k).length=ks.length:=by rw [hp1,hkl]
 have hky : ks.length <= ys.length:=by omega
 have HZ:=Lib.hid (fun w1=>pfields_val k w1)
 have HX:=Lib.hid (And.intro hbX (fun (b : Nat) (hb : w.heap.size <= b)=>XB.new hM hb))
 have HM:=Lib.hid (And.intro hM (And.intro hN (And.intro hP hPs)))
 have HR:=Lib.hid (And.intro hm (And.intro hr hRZ))
 have HI:=Lib.hid ih
 have HK:=Lib.hid hke
 have hself:=beq_self_eq_true k.toList
 obtain ⟨m1,m2,m3⟩:=node_tests2 k hke
 obtain ⟨t1,t2,t3,t4,t5,t6,t7,t8,t9,t10,t11,t12⟩:=ta_127 (.agg #[.string k,.slice a ks.length c])
 have lt0:=cell_lt h0
 clear hp1 hp2 hp3 hke hform hRZ hr hm ih hM hN hP hPs hbX hkl e hnk
 generalize hfe : pfields k=fs at *
 clear hfe
 go_enter Tryz.func126,Tryz.ntmps126
 go_wp2_with fail
 refine (is_node_yes h0 HK.out).mono ?_
 rintro e w1 ⟨rfl,hE1⟩
 replace h0:=hE1.keep h0
 replace h1:=hE1.keep h1
 replace h4:=hE1.keep h4
 have lt1:=cell_lt h0
 have K1:=Lib.hid hE1
 clear hE1
 have hE2:=Ext.alloc w1 (.cells #[.string k,.slice a ks.length c] 127)
 have hB2:=Blk.new w1 #[.string k,.slice a ks.length c] 127
 have k0:=hE2.keep h0
 have k1:=hE2.keep h1
 have k4:=hE2.keep h4
 go_wp2_with fail
 go_quiet (fail)
 have hE3:=hE2.trans (Ext.drewN (w1.alloc (.cells #[.string k,.slice a ks.length c] 127)) nq)
 have hB3:=hB2.ext (Ext.drewN (w1.alloc (.cells #[.string k,.slice a ks.length c] 127)) nq)
 generalize (w1.alloc (.cells #[.string k,.slice a ks.length c] 127)).drewN nq=w3 at *
 have hbs : w.heap.size <= w1.heap.size:=K1.out.size
 have KB:=Lib.hid hB3
 have K3:=Lib.hid (K1.out.trans hE3)
 replace k0:=hE3.keep h0
 replace k4:=hE3.keep h4
 have n0 : w3.cell? ⟨w1.heap.size,0,none⟩=some (.string k):=by rw [hB3.cell];rfl
 have n1 : w3.cell? ⟨w1.heap.size,1,none⟩=some (.slice a ks.length c):=by rw [hB3.cell];rfl
 have ln0:=cell_lt n0
 clear hE2 hE3 hB2 hB3 h0 h1 h4 k1
 go_wp2_with fail
 refine (HZ.out _).mono ?_
 rintro e w4 ⟨rfl,rfl⟩
 cases fs with
 | nil =>
  simp only [strsV]
  have hk0 : ks=[]:=List.eq_nil_of_length_eq_zero (by simpa using hfl.symm)
  go_wp2_with fail
  go_loopw [88] (fun iv wr=>iv=.int .i64 0 /\ wr=w3) (fun _ _=>0)
  case atStart=>exact ⟨rfl,rfl⟩
  case round =>
   obtain ⟨rfl,rfl⟩:=hrel
   go_wp2_with fail
   go_ret2
   have hm:=HR.out.1
   rw [hk0,mtArgs] at hm
   cases hm
   exact ⟨_,true,rfl,mtP_same HM.out.1 K3.out fun _=>⟨HM.out.2.2.1.mono (K3.out.keeps _),HR.out.2.1⟩⟩
 | cons f0 fs' =>
  simp only [strsV]
  have hE4:=Ext.alloc w3 (.cells (((f0 :: fs').map Value.string).toArray) 9)
  have hB4:=Blk.new w3 (((f0 :: fs').map Value.string).toArray) 9
  have hfb : w.heap.size <= w3.heap.size:=K3.out.size
  generalize w3.alloc (.cells (((f0 :: fs').map Value.string).toArray) 9)=w4 at *
  have HB4:=Lib.hid hB4
  have K4:=Lib.hid (K3.out.trans hE4)
  replace k0:=hE4.keep k0
  replace k4:=hE4.keep k4
  replace n1:=hE4.keep n1
  clear hE4 hB4 n0 ln0
  have hfl' : fs'.length + 1=ks.length:=by simpa using hfl
  go_wp2_with fail
  go_loopw [88] (fun iv wr=>∃ (j : Nat) (rv1 : Value) (T1 : BitVec 64) (S1 : SL),iv=.int .i64 j /\ j <= ks.length /\ MAt nm mb tb wr rv1 S1 (st ++ [T1]) /\ Adv nm wi S S1 T T1 /\ Trn mb tb rv rv1 w4 wr /\ Hid (mtArgs nm wi (ks.drop j) (ys.drop j) S1=some (ok,S'))) (fun iv _=>ks.length - (intOf iv).toNat)
  case atStart=>exact ⟨0,rv,T,S,rfl,Nat.zero_le _,HM.out.1.ext K4.out,Adv.refl _ _ _ _,Trn.refl _ _ _ _,Lib.hid HR.out.1⟩
  case round =>
   obtain ⟨j,rv1,T1,S1,rfl,hj,hM1,hA1,hT1,hD⟩:=hrel
   have KT:=Lib.hid (And.intro hM1 (And.intro hA1 hT1))
   clear hM1 hA1 hT1
   by_cases hlt : j < ks.length
   ·have hly : j < ys.length:=by omega
    have hlf : j < (f0 :: fs').length:=by rw [hfl];exact hlt
    have hlf' : (j : Int) < (fs'.length : Int) + 1:=by omega
    obtain ⟨g,of,v,rfl,hgX,hgc,hnv⟩:=HM.out.2.1.get j hlt
    obtain ⟨yg,yo,pv,rfl,hyX,hyc0,hpy⟩:=HM.out.2.2.2.get j hly
    obtain ⟨p,rfl⟩:=hpy.ptr
    replace hgc:=(KT.out.2.2.keep _ _ _ hgX (K4.out.keep hgc))
    replace hyc0:=(KT.out.2.2.keep _ _ _ hyX (K4.out.keep hyc0))
    have i0:=(KT.out.2.2.keep _ _ _ HX.out.1 k0)
    have i4:=(KT.out.2.2.keep _ _ _ HX.out.1 k4).2
    have in1:=(KT.out.2.2.keep _ _ _ (HX.out.2 _ hbs) n1)
    have hfj:=(KT.out.2.2.keep _ _ _ (HX.out.2 _ hfb) (strs_cell HB4.out j hlf)).2
    have HXX:=Lib.hid (And.intro hgc.1 (And.intro hyc0.1 (And.intro i0.1 in1.1)))
    replace hgc:=hgc.2
    replace hyc0:=hyc0.2
    replace i0:=i0.2
    replace in1:=in1.2
    have l1:=cell_lt hgc
    have l2:=cell_lt hyc0
    have l3:=cell_lt i0
    have l4:=cell_lt in1
    have l5:=cell_lt hfj
    have hone:=hnv.one
    have HFj:=Lib.hid (HF.out j hlf)
    have HQ:=Lib.hid (And.intro ((hnv.mono (K4.out.keeps _)).trn KT.out.2.2) ((hpy.mono (K4.out.keeps _)).trn KT.out.2.2))
    have HC:=Lib.hid (HI.out j hlt)
    have hck:=cntAll_get j hlt
    have hd:=hD.out
    rw [List.drop_eq_getElem_cons hlt,List.drop_eq_getElem_cons hly,mtArgs] at hd
    have HD:=Lib.hid hd
    have HRy:=Lib.hid (HR.out.2.2 j hly)
    clear hd hD hnv hpy
    generalize ks[j]=q at *
    generalize ys[j]=y at *
    generalize (f0 :: fs')[j]=nmj at *
    cases hq : mt nm wi q y S1 with
    | none=>have:=HD.out;rw [hq] at this;cases this
    | some res =>
     obtain ⟨ok1,o1,S2⟩:=res
     have hd:=HD.out
     rw [hq] at hd
     have HD2:=Lib.hid hd
     have HC2:=Lib.hid (HC.out wi y S1 ok1 o1 S2 HRy.out hq)
     clear hq hd HD
     go_wp2_with fail
     go_region_held3 (fun w'=>w'.cell? ⟨w1.heap.size,1,none⟩=some (.slice (some ⟨g,of,none⟩) ks.length c) /\ w'.cell? ⟨g,of + j,none⟩=some v /\ w'.cell? ⟨b,0,none⟩=some (.string k) /\ w'.cell? ⟨b,4,none⟩=some (.slice (some ⟨yg,yo,none⟩) ys.length yc) /\ w'.cell? ⟨yg,yo + j,none⟩=some (.pointer p)) (go_keep)
      (first
       | (go_at_call 95;refine (HC2.out mb tb _ rv1 st T1 v _ (by omega) (KT.out.1.ext KE.out) (HQ.out.1.mono (KE.out.keeps _)) (HQ.out.2.mono (KE.out.keeps _))).mono ?_;rintro e w6 ⟨p6,bb,rfl,rfl,rv2,T2,hq2,hM2,hA2,hT2⟩;have K6:=Lib.hid (And.intro hM2 (And.intro hA2 hT2));have r1:=(K6.out.2.2.keep _ _ _ HXX.out.2.2.2 e1).2;have r2:=(K6.out.2.2.keep _ _ _ HXX.out.1 e2).2;have r3:=(K6.out.2.2.keep _ _ _ HXX.out.2.2.1 e3).2;have r4:=(K6.out.2.2.keep _ _ _ HXX.out.2.2.1 e4).2;have r5:=(K6.out.2.2.keep _ _ _ HXX.out.2.1 e5).2;clear hq2 hM2 hA2 hT2)
       | (go_at_call 123;refine (zz_field ((Ext.drew _).keep i0) ((Ext.drew _).keep i4) hyc (by omega) hly ((Ext.drew _).keep hyc0) HFj.out.1 HFj.out.2).mono ?_;rintro e w5 ⟨rfl,hE5⟩;have KE:=Lib.hid ((Ext.drew _).trans hE5);have e1:=KE.out.keep in1;have e2:=KE.out.keep hgc;have e3:=KE.out.keep i0;have e4:=KE.out.keep i4;have e5:=KE.out.keep hyc0;clear hE5))
     cases bb
     ·go_wp2_with fail
      go_ret2
      have hd:=HD2.out
      cases hd
      exact ⟨_,false,rfl,rfl,rv2,T2,fun h=>(by cases h),K6.out.1,KT.out.2.1.trans K6.out.2.1,((Trn.of_ext K4.out).trans KT.out.2.2).trans ((Trn.of_ext KE.out).trans K6.out.2.2)⟩
     ·have hd3:=Lib.hid (show mtArgs nm wi (ks.drop (j + 1)) (ys.drop (j + 1)) S2=some (ok,S') from HD2.out)
      go_wp2_with fail
      refine ⟨⟨_,_,_,_,_,_,.int .i64 ((j + 1 : Nat) : Int),⟨j + 1,rfl,by omega,rv2,T2,S2,K6.out.1,KT.out.2.1.trans K6.out.2.1,KT.out.2.2.trans ((Trn.of_ext KE.out).trans K6.out.2.2),hd3⟩,rfl,rfl,rfl,rfl,rfl,rfl,by simp⟩,by simp [intOf];omega⟩
   ·obtain rfl : j=ks.length:=by omega
    have hd:=hD.out
    rw [List.drop_of_length_le (Nat.le_refl _),mtArgs] at hd
    have HD:=Lib.hid hd
    clear hd hD
    go_wp2_with fail
    go_ret2
    have hd:=HD.out
    cases hd
    exact ⟨_,true,rfl,rfl,rv1,T1,fun _=>⟨(HM.out.2.2.1.mono (K4.out.keeps _)).trn KT.out.2.2,HR.out.2.1⟩,KT.out.1,KT.out.2.1,(Trn.of_ext K4.out).trans KT.out.2.2⟩
end Go.Proofs.YtigalkobmfbdaaaGreatDoor
namespace Go.Proofs.YtigalkobmfbdaaaGreatDoor
open Go.RowKit
def MtR (nm : Names) (n : PN) (r : Syn) : Prop:=∀ (wi : Bool) (S : SL) (ok : Bool) (o : Syn) (S' : SL),RZ r -> mt nm wi n r S=some (ok,o,S') →
 ∀ (mb tb : Nat) (w : World) (rv : Value) (st : List (BitVec 64)) (T : BitVec 64) (nv pv : Value),st.length + n.cnt <= 1000 -> MAt nm mb tb w rv S (st ++ [T]) -> NodeAt (XB mb tb rv) w nv n -> PtrIn (XB mb tb rv) w pv r →
 Calls Tryz.prog 95 #[.pointer (some ⟨mb,0,none⟩),nv,.pointer none,pv] w (Two (MtP nm mb tb w rv wi S S' st T ok o))
theorem mt_struct {nm : Names} {wi : Bool} {k : ByteArray} {ks : List PN} {r : Syn} {S : SL} (hn : (k.toList == [78,111,116])=false) : mt nm wi (.struct k ks) r S=(if named k && ks.length == (args k).length then (match peelS r with
   | none=>some (false,nulS,S)
   | some u=>if u.kind.toList == [98,111,111,108] then none
    else if u.kind.toList == k.toList then (match mtArgs nm wi ks u.kids S with
     | some (ok,S')=>some (ok,u,S')
     | none=>none)
    else some (false,nulS,S))
  else none):=by
 cases ks with
 | nil=>rw [mt,hn] <;> first | rfl | (intro q hq;simp at hq)
 | cons q ks=>cases ks with
  | nil=>rw [mt,hn];rfl
  | cons q2 ks=>rw [mt,hn] <;> first | rfl | (intro q hq;simp at hq)
theorem mtR_of_bare {nm : Names} {n : PN} {r : Syn} (h : RS r -> MtR nm n (bareS r)) : MtR nm n r:=by
 intro wi S ok o S' hr hm mb tb w rv st T nv pv hc hM hN hP
 have hnn : n.isNul=false:=by
  cases n <;> first | rfl | (rw [mt] at hm;cases hm)
 obtain ⟨t,x,rfl⟩:=hN.iface hnn
 obtain ⟨ba,bc,c0,c1,c2,c3,-⟩:=hM.cells
 refine mt_unwrap r hr.1 w pv c3 hP (fun w' pv' hE hP'=>?_)
 refine (h hr.1 wi S ok o S' hr.bare.1 (by rw [mt_bare hr.1];exact hm) mb tb w' rv st T _ pv' hc (hM.ext hE) (hN.mono (hE.keeps _)) hP').mono ?_
 rintro e w2 ⟨p,b,rfl,hR⟩
 exact ⟨p,b,rfl,hR.ext hE⟩
theorem struct_bare {nm : Names} {k : ByteArray} {ks : List PN} (hn : (k.toList == [78,111,116])=false) (ih : ∀ (j : Nat) (hj : j < ks.length),MtC nm ks[j]) {u : Syn} (hw : wrapIx u.kind=none) (hs : ∀ x,sizeS x < sizeS u -> MtR nm (.struct k ks) x) : MtR nm (.struct k ks) u:=by
 intro wi S ok o S' hr hm mb tb w rv st T nv pv hc hM hN hP
 have hm0:=hm
 rw [mt_struct hn] at hm
 split at hm
 case isFalse=>cases hm
 rename_i hcond
 rw [Bool.and_eq_true,beq_iff_eq] at hcond
 obtain ⟨hnk,hkl⟩:=hcond
 have hNN:=hN
 rw [NodeAt] at hN
 obtain ⟨a,c,rfl,hlc,hn2⟩:=hN
 obtain ⟨ba,bc,c0,c1,c2,c3,-⟩:=hM.cells
 have hB:=bare_in hr.1 hw hP
 obtain ⟨-,-,-,hke,-⟩:=pf_facts hnk
 have hf:=hr.1.form
 have hno : ∀ {x y : ByteArray},nodeK x=false -> (x.toList == k.toList)=false:=by
  intro x y hx
  cases h : (x.toList == k.toList) with
  | false=>rfl
  | true=>rw [toList_inj (eq_of_beq h),nodeK_of hke] at hx;cases hx
 cases hf with
 | nothing =>
  rw [peelS_none (by decide +kernel) (by decide +kernel)] at hm
  simp only at hm
  rw [show (nulS.kind.toList == [98,111,111,108])=false from by decide +kernel,show (nulS.kind.toList == k.toList)=false from hno (y:=k) (by decide +kernel)] at hm
  simp only [Bool.false_eq_true,if_false] at hm
  cases hm
  obtain rfl : pv=.pointer none:=hP.nil (by decide +kernel)
  refine disp_struct hn c3 hB (fun w' hE=>(node_nothing _ _ w').mono ?_)
  rintro e w2 ⟨rfl,hx⟩
  exact ⟨none,false,rfl,mtP_same hM (hE.trans hx) fun h=>(by cases h)⟩
 | leaf k' x n h =>
  rw [skind_mk] at hw
  have hl : lisK k'=false:=by rcases h with ⟨rfl | rfl,-⟩ | ⟨rfl,-⟩ <;> decide +kernel
  rw [peelS_none hw hl] at hm
  simp only at hm
  rcases h with ⟨hk',-⟩ | ⟨rfl,-⟩
  ·have hnk' : nodeK k'=false:=by rcases hk' with rfl | rfl <;> decide +kernel
   rw [show ((Syn.mk k' false x n []).kind.toList == [98,111,111,108])=false from by rw [skind_mk];rcases hk' with rfl | rfl <;> decide +kernel,show ((Syn.mk k' false x n []).kind.toList == k.toList)=false from hno (y:=k) hnk'] at hm
   simp only [Bool.false_eq_true,if_false] at hm
   cases hm
   obtain ⟨b,a2,c2',rfl,-,-,h0,-⟩:=hP.blk (by rw [skind_mk];rcases hk' with rfl | rfl <;> decide +kernel)
   rw [skind_mk] at h0
   refine disp_struct hn c3 hB (fun w' hE=>(node_leaf (hE.keep h0) hk'.symm).mono ?_)
   rintro e w2 ⟨rfl,hx⟩
   exact ⟨none,false,rfl,mtP_same hM (hE.trans hx) fun h=>(by cases h)⟩
  ·rw [show ((Syn.mk ⟨#[98,111,111,108]⟩ false x n []).kind.toList == [98,111,111,108])=true from by rw [skind_mk];decide +kernel] at hm
   simp only [if_true] at hm
   cases hm
 | list k' nl xs hk' hnl hel =>
  rw [skind_mk] at hw
  have hl : lisK k'=true:=by rcases hk' with rfl | rfl <;> decide +kernel
  obtain ⟨b,ya,yc,rfl,-,-,h0,-,-,-,h4,hyc,hPs⟩:=hP.blk (by rw [skind_mk];exact (lisK_list hl).2.2)
  simp only [skind_mk,skids_mk] at h0 h4 hyc hPs
  by_cases h1 : xs.length=1
  ·obtain ⟨x,rfl⟩ : ∃ x,xs=[x]:=by
    cases xs with
    | nil=>simp at h1
    | cons x t=>cases t with
     | nil=>exact ⟨x,rfl⟩
     | cons=>simp at h1
   have hrx:=(hel x (by simp)).1
   have hsx : sizeS x < sizeS (.mk k' nl ⟨#[]⟩ 0 [x]):=by rw [sizeS_mk];simp [sizeSs];omega
   have hmx : mt nm wi (.struct k ks) x S=some (ok,o,S'):=by
    rw [<- hm0,mt_struct hn,mt_struct hn,peelS_list hw hl]
    simp [peelAt]
   obtain ⟨g,o',v,rfl,-,hg,hp⟩:=hPs.get 0 (by simp)
   obtain ⟨p,rfl⟩:=hp.ptr
   simp only [Nat.add_zero,List.getElem_cons_zero,List.length_singleton] at hg hp h4 hyc
   refine disp_struct hn c3 hB (fun w' hE=>?_)
   refine node_one (hE.keep h0) (hE.keep h4) hyc hk' (hE.keep hg) ((hs x hsx wi S ok o S' ⟨hrx,by have:=hr.2;omega⟩ hmx mb tb w' rv st T _ _ hc (hM.ext hE) (hNN.mono (hE.keeps _)) (hp.mono (hE.keeps _))).mono ?_)
   rintro e w2 ⟨p,b,rfl,hR⟩
   exact ⟨p,b,rfl,hR.ext hE⟩
  ·rw [peelS_list hw hl,if_neg h1] at hm
   cases hm
   refine disp_struct hn c3 hB (fun w' hE=>(node_list (hE.keep h0) (hE.keep h4) hk' h1).mono ?_)
   rintro e w2 ⟨rfl,hx⟩
   exact ⟨none,false,rfl,mtP_same hM (hE.trans hx) fun h=>(by cases h)⟩
 | node k' ys hk' hyl hya =>
  have hl : ∀ k ∈ expressions ++ statements,lisK k=false:=by decide +kernel
  rw [skind_mk] at hw
  rw [peelS_none hw (hl k' hk')] at hm
  simp only at hm
  rw [show ((Syn.mk k' false ⟨#[]⟩ 0 ys).kind.toList == [98,111,111,108])=false from (node_tests k' hk').2.2.2.1] at hm
  simp only [Bool.false_eq_true,if_false] at hm
  obtain ⟨b,ya,yc,rfl,-,-,h0,h1,-⟩:=hP.blk (by rw [skind_mk];exact node_ne k' hk')
  simp only [skind_mk,snull_mk] at h0 h1
  cases hkk : (k'.toList == k.toList)
  ·rw [show ((Syn.mk k' false ⟨#[]⟩ 0 ys).kind.toList == k.toList)=false from hkk] at hm
   simp only [Bool.false_eq_true,if_false] at hm
   cases hm
   have hkk' : (k.toList == k'.toList)=false:=by
    rw [beq_eq_false_iff_ne] at hkk ⊢
    exact fun e=>hkk e.symm
   refine disp_struct hn c3 hB (fun w' hE=>(node_other (hE.keep h0) (hE.keep h1) hk' hkk').mono ?_)
   rintro e w2 ⟨rfl,hx⟩
   exact ⟨none,false,rfl,mtP_same hM (hE.trans hx) fun h=>(by cases h)⟩
  ·rw [show ((Syn.mk k' false ⟨#[]⟩ 0 ys).kind.toList == k.toList)=true from hkk] at hm
   simp only [if_true,skids_mk] at hm
   obtain rfl:=toList_inj (eq_of_beq hkk)
   cases hm1 : mtArgs nm wi ks ys S with
   | none=>rw [hm1] at hm;cases hm
   | some q =>
    obtain ⟨ok1,S1⟩:=q
    rw [hm1] at hm
    cases hm
    rw [cnt_struct] at hc
    refine disp_struct hn c3 hB (fun w' hE=>?_)
    refine (node_fields ih hnk hkl hm1 hr hc hlc (hM.ext hE) (hn2.mono (hE.keeps _)) (hP.mono (hE.keeps _))).mono ?_
    rintro e w2 ⟨p,b,rfl,hR⟩
    exact ⟨p,b,rfl,hR.ext hE⟩
theorem struct_all {nm : Names} {k : ByteArray} {ks : List PN} (hn : (k.toList == [78,111,116])=false) (ih : ∀ (j : Nat) (hj : j < ks.length),MtC nm ks[j]) : ∀ (N : Nat) (r : Syn),sizeS r < N -> MtR nm (.struct k ks) r:=by
 intro N
 induction N with
 | zero=>intro r h;omega
 | succ N ihN =>
  intro r hN
  refine mtR_of_bare fun hr=>?_
  have hb:=bare_size r hr
  exact struct_bare hn ih hr.bare.2 (fun x hx=>ihN x (by omega))
theorem mt_all (nm : Names) : ∀ (k : Nat) (n : PN),n.cnt < k -> MtC nm n:=by
 intro k
 induction k with
 | zero=>intro n h;omega
 | succ k ih =>
  intro n hk
  have hno : (∀ wi r S,mt nm wi n r S=none) -> MtC nm n:=fun h wi r S ok o S' hr hm=>by rw [h] at hm;cases hm
  cases n with
  | nul=>exact hno fun wi r S=>by rw [mt]
  | tok s=>exact hno fun wi r S=>by rw [mt]
  | and ks=>exact hno fun wi r S=>by rw [mt]
  | index p t i=>exact hno fun wi r S=>by rw [mt]
  | any=>exact mt_of_bare (mtB_any nm)
  | nil=>exact mt_of_bare (mtB_nil nm)
  | str s=>exact mt_of_bare (mtB_str nm s)
  | list h t =>
   rw [cnt_list] at hk
   exact mt_of_bare (mtB_list (ih h (by omega)) (ih t (by omega)))
  | bind x n i =>
   rw [cnt_bind] at hk
   exact mt_of_bare (mtB_bind (ih n (by omega)))
  | or ks =>
   rw [cnt_or] at hk
   exact mt_of_bare (mtB_or fun j hj=>ih _ (by have:=cntAll_get j hj;omega))
  | struct nm' ks =>
   rw [cnt_struct] at hk
   have hks : ∀ (j : Nat) (hj : j < ks.length),MtC nm ks[j]:=fun j hj=>ih _ (by have:=cntAll_get j hj;omega)
   cases hn : (nm'.toList == [78,111,116])
   ·intro wi r S ok o S' hr hm
    exact struct_all hn hks _ r (Nat.lt_succ_self _) wi S ok o S' hr hm
   ·refine mt_of_bare ?_
    intro wi r S ok o S' hr hw hm mb tb w rv st T nv pv hc hM hN hP
    rw [NodeAt] at hN
    obtain ⟨a,c,rfl,hlc,hn2⟩:=hN
    obtain ⟨ba,bc,c0,c1,c2,c3,-⟩:=hM.cells
    have hB:=bare_in hr.1 hw hP
    match ks,hm,hks,hlc,hn2,hc with
    | [q],hm,hks,hlc,hn2,hc =>
     rw [mt,hn,mt_bare_eq hw] at hm
     simp only [if_true] at hm
     cases hm1 : mt nm wi q r S with
     | none=>rw [hm1] at hm;cases hm
     | some res =>
      obtain ⟨ok1,o1,S1⟩:=res
      rw [hm1] at hm
      cases hm
      rw [cnt_struct] at hc
      simp only [cntAll] at hc
      refine disp_not hn c3 hB (fun w' hE=>?_)
      refine (not_walk (hks 0 (by simp)) hm1 hr (by simp only [List.getElem_cons_zero];omega) hlc (hM.ext hE) (hn2.mono (hE.keeps _)) (hP.mono (hE.keeps _))).mono ?_
      rintro e w2 ⟨p,b,rfl,hR⟩
      exact ⟨p,b,rfl,hR.ext hE⟩
    | [],hm,_,_,_,_ =>
     rw [mt,hn] at hm
     ·cases hm
     ·intro q hq;simp at hq
    | _ :: _ :: _,hm,_,_,_,_ =>
     rw [mt,hn] at hm
     ·cases hm
     ·intro q hq;simp at hq
end Go.Proofs.YtigalkobmfbdaaaGreatDoor
