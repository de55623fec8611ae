/- The reference's Equal, list and node. -/
import Derived.Test.YtigalkobmfbdaaaGreatDoorMix2r
set_option linter.unusedVariables false
set_option linter.unusedSimpArgs false
set_option maxRecDepth 100000
set_option maxHeartbeats 4000000
namespace Go.Proofs.YtigalkobmfbdaaaGreatDoor
open Go.RowKit
theorem cell_back {w0 w : World} (hE : Ext w0 w) {b o : Nat} (hb : b < w0.heap.size) {v : Value} (hc : w.cell? ⟨b,o,none⟩=some v) : w0.cell? ⟨b,o,none⟩=some v:=by
 have h:=(hE.toM fun _=>False).block b hb (fun h=>h)
 unfold World.cell? at hc ⊢
 simpa only [h] using hc
theorem SynX.back {w0 w : World} (hE : Ext w0 w) {a : Option Addr} {c : Nat} {t : Syn} (h : SynX (fun b=>b < w0.heap.size) w a c t) : SynX (fun _=>True) w0 a c t:=h.turn fun b o v hb hc=>⟨trivial,cell_back hE hb hc⟩
theorem SynX.fore {w0 w : World} (hE : Ext w0 w) {a : Option Addr} {c : Nat} {t : Syn} (h : SynX (fun _=>True) w0 a c t) : SynX (fun b=>b < w0.heap.size) w a c t:=h.turn fun b o v _ hc=>⟨(by have:=cell_lt hc;exact this),hE.keep hc⟩
theorem RS.kidE {t : Syn} (h : RS t) (j : Nat) (hj : j < t.kids.length) : RS t.kids[j]:=by
 cases h.form with
 | nothing=>exact absurd hj (by simp [skids_mk])
 | leaf k x n h=>exact absurd hj (by simp [skids_mk])
 | list k nl ks hk hn he=>exact (he _ (List.getElem_mem hj)).1
 | node k ks hk hl ha=>exact RS.args hl ha j hj
theorem eqS_unbare (a : Syn) (b : Syn) : RS a -> eqS (bareS a) b=eqS a b:=by
 induction a using Syn.ind with | h a ih=>?_
 intro ha
 cases hw : wrapIx a.kind with
 | none =>
  obtain ⟨k,nl,x,n,ks⟩:=a
  rw [skind_mk] at hw
  rw [bareS_none hw]
 | some i =>
  obtain ⟨k,ks,rfl,-,hi,hr,-⟩:=ha.form.wrap hw
  rw [skind_mk] at hw
  rw [bareS_wrap hw hi,eqS_wrap hw hi]
  exact ih i hi hr
theorem eqS_tests {a b : Syn} (ha : RS a) : eqS a b=((bareS a).kind.toList == (bareS b).kind.toList && (bareS a).text.toList == (bareS b).text.toList && (bareS a).num == (bareS b).num && (bareS a).kids.length == (bareS b).kids.length && eqL (bareS a).kids (bareS b).kids):=by
 rw [<- eqS_unbare a b ha]
 have hw:=ha.bare.2
 generalize bareS a=u at *
 obtain ⟨k,nl,x,n,ks⟩:=u
 rw [skind_mk] at hw
 rw [eqS_none hw]
 rfl
theorem list_calls (t : Syn) (a : Option Addr) (c : Nat) (w : World) : Calls Tryz.prog 77 #[synV t a c] w fun e w'=>e=.returned (.bool (lisK t.kind)) /\ Ext w w':=by
 cases h1 : (t.kind.toList == [91,93,69,120,112,114])
 ·cases h2 : (t.kind.toList == [91,93,83,116,109,116])
  all_goals
   have H:=Lib.hid (show lisK t.kind=_ by unfold lisK;rw [h1,h2])
   go_enter Tryz.func77,Tryz.ntmps77
   go_wp2_with fail
   go_ret
   exact ⟨ret_bool H.out.symm,Ext.alloc _ _⟩
 ·have H:=Lib.hid (show lisK t.kind=true by unfold lisK;rw [h1];rfl)
  go_enter Tryz.func77,Tryz.ntmps77
  go_wp2_with fail
  go_ret
  exact ⟨ret_bool H.out.symm,Ext.alloc _ _⟩
theorem node_asked : ∀ x ∈ askedT,nodeK x.1=true /\ (x.2.toList == [])=false:=by decide +kernel
theorem node_none : ∀ k ∈ expressions ++ statements,((asked k).toList == [])=false:=by decide +kernel
theorem nodeK_asked (k : ByteArray) : (!(asked k).toList.isEmpty)=nodeK k:=by
 rcases sw_cases k askedT ⟨#[]⟩ with ⟨e,hne⟩ | ⟨x,hx,hk,e⟩
 ·have e' : asked k=⟨#[]⟩:=e
  cases h : nodeK k with
  | false=>rw [e'];decide +kernel
  | true =>
   have:=node_none k (nodeK_mem h)
   rw [e'] at this
   exact absurd this (by decide +kernel)
 ·have e' : asked k=x.2:=e
  obtain ⟨h1,h2⟩:=node_asked x hx
  rw [e',hk,h1,isEmpty_not h2]
  rfl
theorem node_calls' (t : Syn) (a : Option Addr) (c : Nat) (w : World) : Calls Tryz.prog 78 #[synV t a c] w fun e w'=>e=.returned (.bool (nodeK t.kind)) /\ Ext w w':=by
 have HC:=Lib.hid (asked_calls t.kind)
 have HK:=Lib.hid (nodeK_asked t.kind)
 go_enter Tryz.func78,Tryz.ntmps78
 go_wp2_with fail
 refine (HC.out _).mono ?_
 rintro e w1 ⟨rfl,rfl⟩
 generalize asked t.kind=ak at *
 go_wp2_with fail
 go_ret
 exact ⟨ret_bool HK.out,Ext.alloc _ _⟩
theorem eqL_get : ∀ (ks us : List Syn),ks.length=us.length -> (eqL ks us=true ↔ ∀ (j : Nat) (h1 : j < ks.length) (h2 : j < us.length),eqS ks[j] us[j]=true)
 | [],[],_=>by rw [eqL] <;> simp
 | [],_ :: _,h=>by simp at h
 | _ :: _,[],h=>by simp at h
 | t :: ts,u :: us,h=>by
  rw [eqL,Bool.and_eq_true,eqL_get ts us (by simpa using h)]
  constructor
  ·rintro ⟨h1,h2⟩ j hj hj2
   cases j with
   | zero=>exact h1
   | succ j=>simpa using h2 j (by simpa using hj) (by simpa using hj2)
  ·intro hh
   exact ⟨hh 0 (by simp) (by simp),fun j h1 h2=>by
    have:=hh (j + 1) (by simpa using h1) (by simpa using h2)
    simpa using this⟩
def EqC (a : Syn) : Prop:=∀ (b : Syn) (X Y : Nat -> Prop) (w : World) (aa : Option Addr) (ac : Nat) (ba : Option Addr) (bc : Nat),RS a -> RS b -> sizeS a <= 40000 -> SynX X w aa ac a -> SynX Y w ba bc b -> Calls Tryz.prog 38 #[synV a aa ac,synV b ba bc] w fun e w'=>e=.returned (.bool (eqS a b)) /\ Ext w w'
theorem equal_round (a : Syn) (ih : ∀ u,sizeS u < sizeS a -> EqC u) : EqC a:=by
 intro b X Y w aa ac ba bc hra hrb hsz hA hB
 have HA:=Lib.hid (And.intro hra hA)
 have HB:=Lib.hid (And.intro hrb hB)
 have hE1:=Ext.alloc w (.cells (synC a aa ac) 52)
 have hE2:=Ext.alloc (w.alloc (.cells (synC a aa ac) 52)) (.cells (synC b ba bc) 52)
 have hB1:=(Blk.new w (synC a aa ac) 52).ext hE2
 have hB2:=Blk.second w (.cells (synC a aa ac) 52) (synC b ba bc) 52
 have K0:=Lib.hid (And.intro hB1 (And.intro hB2 (hE1.trans hE2)))
 have HI:=Lib.hid ih
 clear hA hB hra hrb hE1 hE2 hB1 hB2 ih
 go_enter Tryz.func38,Tryz.ntmps38
 obtain ⟨w1,hw1⟩ : ∃ w1,w1=(w.alloc (.cells (synC a aa ac) 52)).alloc (.cells (synC b ba bc) 52):=⟨_,rfl⟩
 rw [<- hw1] at K0
 go_upto_region 1 with fail
 rw [<- hw1]
 obtain ⟨p0,p1,p2,p3,p4⟩:=Blk5 K0.out.1
 obtain ⟨q0,q1,q2,q3,q4⟩:=Blk5 K0.out.2.1
 have lp:=cell_lt p0
 have lq:=cell_lt q0
 have fp:=K0.out.1.frozen
 have fq:=K0.out.2.1.frozen
 clear hw1
 go_cut [2,3,4] (fun v2 v3 v4 wx=>v2=.pointer (some ⟨w.heap.size,0,none⟩) /\ v3=.pointer (some ⟨w.heap.size + 1,0,none⟩) /\ v4=.bool false /\ ∃ a1 c1 a2 c2,SynX (fun b=>b < w.heap.size) wx a1 c1 (bareS a) /\ SynX (fun b=>b < w.heap.size) wx a2 c2 (bareS b) /\ Blk wx w.heap.size (synC (bareS a) a1 c1) 52 /\ Blk wx (w.heap.size + 1) (synC (bareS b) a2 c2) 52 /\ Ext w wx)
 case first =>
  have HAL:=Lib.hid (SynX.imp (Y:=fun b=>b < w.heap.size) (fun b _ hlt=>hlt) HA.out.2)
  have HBL:=Lib.hid (SynX.imp (Y:=fun b=>b < w.heap.size) (fun b _ hlt=>hlt) HB.out.2)
  go_region_with (first
   | (go_at_call 67;refine (bare_calls HB.out.1 (HBL.out.mono ((K0.out.2.2.trans HA1.out.2)))).mono ?_;rintro e w3 ⟨⟨a2,c2,rfl,hA2⟩,hE3⟩;have HA2:=Lib.hid (And.intro hA2 hE3);clear hA2 hE3 r0 r1 r2 r3 r4 lr;have HBa:=Lib.hid (K0.out.1.ext (HA1.out.2.trans HA2.out.2));have HBb:=Lib.hid (K0.out.2.1.ext (HA1.out.2.trans HA2.out.2));obtain ⟨s0,s1,s2,s3,s4⟩:=Blk5 HBa.out;obtain ⟨r0,r1,r2,r3,r4⟩:=Blk5 HBb.out;have ls:=cell_lt s0;have lr:=cell_lt r0;have fs:=HBa.out.frozen;have fr:=HBb.out.frozen)
   | (go_at_call 67;refine (bare_calls HA.out.1 (HAL.out.mono (K0.out.2.2.trans (Ext.drew _)))).mono ?_;rintro e w2 ⟨⟨a1,c1,rfl,hA1⟩,hE2⟩;have HA1:=Lib.hid (And.intro hA1 ((Ext.drew w1).trans hE2));clear hA1 hE2;have r0:=HA1.out.2.keep q0;have r1:=HA1.out.2.keep q1;have r2:=HA1.out.2.keep q2;have r3:=HA1.out.2.keep q3;have r4:=HA1.out.2.keep q4;have lr:=cell_lt r0))
  all_goals
   have hW : Ext w _:=(((K0.out.2.2.trans HA1.out.2).trans HA2.out.2).set5 (Nat.le_refl w.heap.size) (.string (bareS a).kind) (.bool (bareS a).null) (.string (bareS a).text) (.int .i64 (bareS a).num) (.slice a1 (bareS a).kids.length c1)).set5 (Nat.le_succ w.heap.size) (.string (bareS b).kind) (.bool (bareS b).null) (.string (bareS b).text) (.int .i64 (bareS b).num) (.slice a2 (bareS b).kids.length c2)
   have hx1:=(HA1.out.1.back (K0.out.2.2.trans (Ext.drew _))).fore hW
   have hx2:=(HA2.out.1.back (K0.out.2.2.trans HA1.out.2)).fore hW
   have hb1:=(Blk.set5 HBa.out rfl (.string (bareS a).kind) (.bool (bareS a).null) (.string (bareS a).text) (.int .i64 (bareS a).num) (.slice a1 (bareS a).kids.length c1)).other5 (Nat.ne_of_lt (Nat.lt_succ_self w.heap.size)) (.string (bareS b).kind) (.bool (bareS b).null) (.string (bareS b).text) (.int .i64 (bareS b).num) (.slice a2 (bareS b).kids.length c2)
   have hb2:=Blk.set5 (HBb.out.other5 (Nat.succ_ne_self w.heap.size) (.string (bareS a).kind) (.bool (bareS a).null) (.string (bareS a).text) (.int .i64 (bareS a).num) (.slice a1 (bareS a).kids.length c1)) rfl (.string (bareS b).kind) (.bool (bareS b).null) (.string (bareS b).text) (.int .i64 (bareS b).num) (.slice a2 (bareS b).kids.length c2)
   go_wp2_with fail
   go_meet
   exact ⟨rfl,rfl,rfl,a1,c1,a2,c2,hx1,hx2,hb1,hb2,hW⟩
 case rest =>
  obtain ⟨rfl,rfl,rfl,a1,c1,a2,c2,hA1,hA2,hBa,hBb,hE⟩:=hcut
  have HQ:=Lib.hid (eqS_tests (b:=b) HA.out.1)
  have HR1:=Lib.hid (And.intro HA.out.1.bare.1 HB.out.1.bare.1)
  have HZ:=Lib.hid (Nat.le_trans (bare_size a HA.out.1) (Nat.le_refl _))
  have HWx:=Lib.hid (And.intro hA1 (And.intro hA2 (And.intro hBa (And.intro hBb hE))))
  clear hA1 hA2 p0 p1 p2 p3 p4 q0 q1 q2 q3 q4 lp lq fp fq K0
  obtain ⟨p0,p1,p2,p3,p4⟩:=Blk5 hBa
  obtain ⟨q0,q1,q2,q3,q4⟩:=Blk5 hBb
  have lp:=cell_lt p0
  have lq:=cell_lt q0
  clear hBa hBb hE
  have hul : (bareS a).kids.length <= 40000:=by
   have h1:=HZ.out
   have h2 : ∀ ts : List Syn,ts.length <= sizeSs ts:=by
    intro ts
    induction ts with
    | nil=>exact Nat.le_refl _
    | cons t ts ih=>rw [sizeSs,List.length_cons];omega
   have h3:=h2 (bareS a).kids
   generalize bareS a=u at *
   obtain ⟨k,nl,x,n,ks⟩:=u
   rw [sizeS_mk] at h1
   simp only [skids_mk] at h3 ⊢
   omega
  generalize bareS a=u at *
  generalize bareS b=v at *
  cases h1 : (u.kind.toList == v.kind.toList) with
  | false =>
   rw [h1] at HQ
   go_wp2_with fail
   go_ret
   exact ⟨ret_bool (by rw [HQ.out];rfl),HWx.out.2.2.2.2⟩
  | true =>
  cases h2 : (u.text.toList == v.text.toList) with
  | false =>
   rw [h1,h2] at HQ
   go_wp2_with fail
   go_ret
   exact ⟨ret_bool (by rw [HQ.out];rfl),HWx.out.2.2.2.2⟩
  | true =>
  by_cases h3 : u.num=v.num
  case neg =>
   rw [h1,h2,show (u.num == v.num)=false from by rw [Bool.eq_false_iff,ne_eq,beq_iff_eq];exact h3] at HQ
   have h3b : (u.num != v.num)=true:=by rw [bne_iff_ne];exact h3
   go_wp2_with fail
   go_ret
   exact ⟨ret_bool (by rw [HQ.out];rfl),HWx.out.2.2.2.2⟩
  rw [h1,h2,show (u.num == v.num)=true from by rw [beq_iff_eq];exact h3] at HQ
  rw [<- h3] at q3
  clear h3
  cases h4 : (u.kids.length == v.kids.length) with
  | false =>
   rw [h4] at HQ
   have h4' : ((u.kids.length : Int) != (v.kids.length : Int))=true:=by
    rw [Bool.eq_false_iff,ne_eq,beq_iff_eq] at h4
    rw [bne_iff_ne,ne_eq];omega
   clear h4
   go_wp2_with fail
   go_ret
   exact ⟨ret_bool (by rw [HQ.out];rfl),HWx.out.2.2.2.2⟩
  | true =>
  rw [h4] at HQ
  simp only [Bool.and_self,Bool.true_and] at HQ
  have hlen : u.kids.length=v.kids.length:=eq_of_beq h4
  have h4' : ((u.kids.length : Int) != (v.kids.length : Int))=false:=by rw [hlen];simp
  clear h4
  have HL:=Lib.hid hlen
  clear hlen
  go_wp2_with fail
  go_loopw [41] (fun i wr=>∃ j : Nat,i=.int .i64 j /\ j <= u.kids.length /\ Hid (∀ (i : Nat) (h1 : i < u.kids.length) (h2 : i < v.kids.length),i < j -> eqS u.kids[i] v.kids[i]=true) /\ Ext wc wr) (fun i _=>u.kids.length - (intOf i).toNat)
  case atStart=>exact ⟨0,rfl,Nat.zero_le _,Lib.hid (fun i h1 h2 h=>by omega),Ext.refl _⟩
  case round =>
   obtain ⟨j,rfl,hj,HD,hEr⟩:=hrel
   have KE:=Lib.hid hEr
   have f1:=Exts.cell (hEr.keep p4)
   have f2:=Exts.cell (hEr.keep q4)
   clear hEr
   by_cases hlt : j < u.kids.length
   ·have hlt2 : j < v.kids.length:=by have:=HL.out;omega
    obtain ⟨g,o,a',c',rfl,-,-,e0,e1,e2,e3,e4,r1⟩:=HWx.out.1.kid j hlt
    obtain ⟨g',o',a'',c'',rfl,-,-,t0,t1,t2,t3,t4,r2⟩:=HWx.out.2.1.kid j hlt2
    have hc1:=HWx.out.1.kids.1
    have hc2:=HWx.out.2.1.kids.1
    replace e0:=Exts.cell (KE.out.keep e0)
    replace e1:=Exts.cell (KE.out.keep e1)
    replace e2:=Exts.cell (KE.out.keep e2)
    replace e3:=Exts.cell (KE.out.keep e3)
    replace e4:=Exts.cell (KE.out.keep e4)
    replace t0:=Exts.cell (KE.out.keep t0)
    replace t1:=Exts.cell (KE.out.keep t1)
    replace t2:=Exts.cell (KE.out.keep t2)
    replace t3:=Exts.cell (KE.out.keep t3)
    replace t4:=Exts.cell (KE.out.keep t4)
    have hsk : sizeS u.kids[j] < sizeS u:=by
     have:=sizeS_kid u.kids j hlt
     obtain ⟨k,nl,x,n,ks⟩:=u
     rw [sizeS_mk]
     simp only [skids_mk] at *
     omega
    have HJ:=Lib.hid (fun (wq : World) (hq : Ext wc wq)=>HI.out u.kids[j] (by have:=HZ.out;omega) v.kids[j] _ _ wq a' c' a'' c'' (HR1.out.1.kidE j hlt) (HR1.out.2.kidE j hlt2) (by have:=HZ.out;omega) (r1.mono hq) (r2.mono hq))
    have HG:=Lib.hid (And.intro hlt hlt2)
    clear r1 r2 hsk
    go_wp2_with fail
    refine wp_region_ext (by kernel_rfl) (by kernel_rfl) ?_
    repeat (refine BigFrame.wpQuiet_want rfl (fun K hK=>?_);go_big_quiet_op;first | (refine hK _ ?_;clear hK K) | (refine ⟨_,fun e=>Calls.ext_of (HJ.out e.val (KE.out.trans e.ext)),hK _ ?_⟩;clear hK K))
    refine wpQuiet_nil ?_
    intro e
    obtain ⟨w7,hE7⟩:=e
    clear e0 e1 e2 e3 e4 t0 t1 t2 t3 t4 f1 f2
    have HX:=Lib.hid (KE.out.trans hE7)
    cases hq : eqS u.kids[j] v.kids[j] with
    | false =>
     have HF:=Lib.hid hq
     clear hq
     go_wp2_with fail
     go_ret
     refine ⟨ret_bool ?_,HWx.out.2.2.2.2.trans HX.out⟩
     rw [HQ.out]
     cases hh : eqL u.kids v.kids with
     | false=>rfl
     | true =>
      have:=(eqL_get _ _ HL.out).1 hh j HG.out.1 HG.out.2
      rw [HF.out] at this
      cases this
    | true =>
     have HF:=Lib.hid hq
     clear hq
     go_wp2_with fail
     exact ⟨⟨j + 1,by go_num,by omega,Lib.hid (fun i g1 g2 hi=>by
      by_cases e : i=j
      ·subst e;exact HF.out
      ·exact HD.out i g1 g2 (by omega)),HX.out⟩,by simp [intOf];omega⟩
   ·obtain rfl : j=u.kids.length:=by omega
    go_wp2_with fail
    go_ret
    exact ⟨ret_bool (by rw [HQ.out];exact ((eqL_get _ _ HL.out).2 fun i g1 g2=>HD.out i g1 g2 g1).symm),HWx.out.2.2.2.2.trans KE.out⟩
theorem equal_all : ∀ (N : Nat) (a : Syn),sizeS a < N -> EqC a
 | 0,a,h=>absurd h (by omega)
 | N + 1,a,h=>equal_round a fun u hu=>equal_all N u (by omega)
theorem equal_calls {a b : Syn} {X Y : Nat -> Prop} {w : World} {aa : Option Addr} {ac : Nat} {ba : Option Addr} {bc : Nat} (ha : RS a) (hb : RS b) (hz : sizeS a <= 40000) (hA : SynX X w aa ac a) (hB : SynX Y w ba bc b) :
  Calls Tryz.prog 38 #[synV a aa ac,synV b ba bc] w fun e w'=>e=.returned (.bool (eqS a b)) /\ Ext w w' :=
 equal_all _ a (Nat.lt_succ_self _) b X Y w aa ac ba bc ha hb hz hA hB
end Go.Proofs.YtigalkobmfbdaaaGreatDoor
