/- The reference's mixed. -/
import Derived.Test.YtigalkobmfbdaaaGreatDoorEq1Z2
import Derived.Test.YtigalkobmfbdaaaGreatDoorMix2u
set_option linter.unusedVariables false
set_option linter.unusedSimpArgs false
set_option maxRecDepth 100000
set_option maxHeartbeats 4000000
namespace Go.Proofs.YtigalkobmfbdaaaGreatDoor
open Go.RowKit
theorem mixF_unbare (a : Syn) (b : Syn) : RS a -> mixF (bareS a) b=mixF a b:=by
 induction a using Syn.ind with | h a ih=>?_
 intro ha
 cases hw : wrapIx a.kind with
 | none =>
  obtain ⟨k,nl,x,n,ks⟩:=a
  rw [skind_mk] at hw
  rw [bareS_none hw]
 | some i =>
  obtain ⟨k,ks,rfl,-,hi,hr,-⟩:=ha.form.wrap hw
  rw [skind_mk] at hw
  rw [bareS_wrap hw hi,mixF_wrap hw hi]
  exact ih i hi hr
theorem mixF_tests {a b : Syn} (ha : RS a) : mixF a b=(lisK (bareS a).kind != lisK (bareS b).kind || mixFL (bareS a).kids (bareS b).kids):=by
 rw [<- mixF_unbare a b ha]
 have hw:=ha.bare.2
 generalize bareS a=u at *
 obtain ⟨k,nl,x,n,ks⟩:=u
 rw [skind_mk] at hw
 rw [mixF_none hw]
 rfl
theorem mixFL_at : ∀ (ks us : List Syn),mixFL ks us=false -> ∀ (j : Nat) (h1 : j < ks.length) (h2 : j < us.length),mixF ks[j] us[j]=false
 | t :: ts,u :: us,h,j,h1,h2=>by
  rw [mixFL,Bool.or_eq_false_iff] at h
  cases j with
  | zero=>exact h.1
  | succ j=>simpa using mixFL_at ts us h.2 j (by simpa using h1) (by simpa using h2)
theorem mixFL_no : ∀ (ks us : List Syn),(∀ (j : Nat) (h1 : j < ks.length) (h2 : j < us.length),mixF ks[j] us[j]=false) -> mixFL ks us=false
 | [],us,_=>by rw [mixFL];intro a b c d e;cases e
 | _ :: _,[],_=>by rw [mixFL];intro a b c d e e';cases e'
 | t :: ts,u :: us,h=>by
  rw [mixFL,Bool.or_eq_false_iff]
  refine ⟨h 0 (by simp) (by simp),mixFL_no ts us fun j h1 h2=>?_⟩
  have:=h (j + 1) (by simpa using h1) (by simpa using h2)
  simpa using this
def MixC (a : Syn) : Prop:=∀ (b : Syn) (X Y : Nat -> Prop) (w : World) (aa : Option Addr) (ac : Nat) (ba : Option Addr) (bc : Nat),RS a -> RS b -> sizeS a <= 40000 -> SynX X w aa ac a -> SynX Y w ba bc b -> Calls Tryz.prog 79 #[synV a aa ac,synV b ba bc] w fun e w'=>e=.returned (.bool (mixF a b)) /\ Ext w w'
theorem mix_round (a : Syn) (ih : ∀ u,sizeS u < sizeS a -> MixC u) : MixC a:=by
 intro b X Y w aa ac ba bc hra hrb hsz hA hB
 have HA:=Lib.hid (And.intro hra hA)
 have HB:=Lib.hid (And.intro hrb hB)
 have hE1:=Ext.alloc w (.cells (synC a aa ac) 52)
 have hE2:=Ext.alloc (w.alloc (.cells (synC a aa ac) 52)) (.cells (synC b ba bc) 52)
 have hB1:=(Blk.new w (synC a aa ac) 52).ext hE2
 have hB2:=Blk.second w (.cells (synC a aa ac) 52) (synC b ba bc) 52
 have K0:=Lib.hid (And.intro hB1 (And.intro hB2 (hE1.trans hE2)))
 have HI:=Lib.hid ih
 clear hA hB hra hrb hE1 hE2 hB1 hB2 ih
 go_enter Tryz.func79,Tryz.ntmps79
 obtain ⟨w1,hw1⟩ : ∃ w1,w1=(w.alloc (.cells (synC a aa ac) 52)).alloc (.cells (synC b ba bc) 52):=⟨_,rfl⟩
 rw [<- hw1] at K0
 go_upto_region 1 with fail
 rw [<- hw1]
 obtain ⟨p0,p1,p2,p3,p4⟩:=Blk5 K0.out.1
 obtain ⟨q0,q1,q2,q3,q4⟩:=Blk5 K0.out.2.1
 have lp:=cell_lt p0
 have lq:=cell_lt q0
 have fp:=K0.out.1.frozen
 have fq:=K0.out.2.1.frozen
 clear hw1
 go_cut [2,3,4] (fun v2 v3 v4 wx=>v2=.pointer (some ⟨w.heap.size,0,none⟩) /\ v3=.pointer (some ⟨w.heap.size + 1,0,none⟩) /\ v4=.bool false /\ ∃ a1 c1 a2 c2,SynX (fun b=>b < w.heap.size) wx a1 c1 (bareS a) /\ SynX (fun b=>b < w.heap.size) wx a2 c2 (bareS b) /\ Blk wx w.heap.size (synC (bareS a) a1 c1) 52 /\ Blk wx (w.heap.size + 1) (synC (bareS b) a2 c2) 52 /\ Ext w wx)
 case first =>
  have HAL:=Lib.hid (SynX.imp (Y:=fun b=>b < w.heap.size) (fun b _ hlt=>hlt) HA.out.2)
  have HBL:=Lib.hid (SynX.imp (Y:=fun b=>b < w.heap.size) (fun b _ hlt=>hlt) HB.out.2)
  go_region_with (first
   | (go_at_call 67;refine (bare_calls HB.out.1 (HBL.out.mono ((K0.out.2.2.trans HA1.out.2)))).mono ?_;rintro e w3 ⟨⟨a2,c2,rfl,hA2⟩,hE3⟩;have HA2:=Lib.hid (And.intro hA2 hE3);clear hA2 hE3 r0 r1 r2 r3 r4 lr;have HBa:=Lib.hid (K0.out.1.ext (HA1.out.2.trans HA2.out.2));have HBb:=Lib.hid (K0.out.2.1.ext (HA1.out.2.trans HA2.out.2));obtain ⟨s0,s1,s2,s3,s4⟩:=Blk5 HBa.out;obtain ⟨r0,r1,r2,r3,r4⟩:=Blk5 HBb.out;have ls:=cell_lt s0;have lr:=cell_lt r0;have fs:=HBa.out.frozen;have fr:=HBb.out.frozen)
   | (go_at_call 67;refine (bare_calls HA.out.1 (HAL.out.mono (K0.out.2.2.trans (Ext.drew _)))).mono ?_;rintro e w2 ⟨⟨a1,c1,rfl,hA1⟩,hE2⟩;have HA1:=Lib.hid (And.intro hA1 ((Ext.drew w1).trans hE2));clear hA1 hE2;have r0:=HA1.out.2.keep q0;have r1:=HA1.out.2.keep q1;have r2:=HA1.out.2.keep q2;have r3:=HA1.out.2.keep q3;have r4:=HA1.out.2.keep q4;have lr:=cell_lt r0))
  all_goals
   have hW : Ext w _:=(((K0.out.2.2.trans HA1.out.2).trans HA2.out.2).set5 (Nat.le_refl w.heap.size) (.string (bareS a).kind) (.bool (bareS a).null) (.string (bareS a).text) (.int .i64 (bareS a).num) (.slice a1 (bareS a).kids.length c1)).set5 (Nat.le_succ w.heap.size) (.string (bareS b).kind) (.bool (bareS b).null) (.string (bareS b).text) (.int .i64 (bareS b).num) (.slice a2 (bareS b).kids.length c2)
   have hx1:=(HA1.out.1.back (K0.out.2.2.trans (Ext.drew _))).fore hW
   have hx2:=(HA2.out.1.back (K0.out.2.2.trans HA1.out.2)).fore hW
   have hb1:=(Blk.set5 HBa.out rfl (.string (bareS a).kind) (.bool (bareS a).null) (.string (bareS a).text) (.int .i64 (bareS a).num) (.slice a1 (bareS a).kids.length c1)).other5 (Nat.ne_of_lt (Nat.lt_succ_self w.heap.size)) (.string (bareS b).kind) (.bool (bareS b).null) (.string (bareS b).text) (.int .i64 (bareS b).num) (.slice a2 (bareS b).kids.length c2)
   have hb2:=Blk.set5 (HBb.out.other5 (Nat.succ_ne_self w.heap.size) (.string (bareS a).kind) (.bool (bareS a).null) (.string (bareS a).text) (.int .i64 (bareS a).num) (.slice a1 (bareS a).kids.length c1)) rfl (.string (bareS b).kind) (.bool (bareS b).null) (.string (bareS b).text) (.int .i64 (bareS b).num) (.slice a2 (bareS b).kids.length c2)
   go_wp2_with fail
   go_meet
   exact ⟨rfl,rfl,rfl,a1,c1,a2,c2,hx1,hx2,hb1,hb2,hW⟩
 case rest =>
  obtain ⟨rfl,rfl,rfl,a1,c1,a2,c2,hA1,hA2,hBa,hBb,hE⟩:=hcut
  have HQ:=Lib.hid (mixF_tests (b:=b) HA.out.1)
  have HR1:=Lib.hid (And.intro HA.out.1.bare.1 HB.out.1.bare.1)
  have HZ:=Lib.hid (Nat.le_trans (bare_size a HA.out.1) (Nat.le_refl _))
  have HWx:=Lib.hid (And.intro hA1 (And.intro hA2 (And.intro hBa (And.intro hBb hE))))
  clear hA1 hA2 p0 p1 p2 p3 p4 q0 q1 q2 q3 q4 lp lq fp fq K0 hBa hBb hE
  have hul : (bareS a).kids.length <= 40000:=by
   have h1:=HZ.out
   have h2 : ∀ ts : List Syn,ts.length <= sizeSs ts:=by
    intro ts
    induction ts with
    | nil=>exact Nat.le_refl _
    | cons t ts ih=>rw [sizeSs,List.length_cons];omega
   have h3:=h2 (bareS a).kids
   generalize bareS a=u at *
   obtain ⟨k,nl,x,n,ks⟩:=u
   rw [sizeS_mk] at h1
   simp only [skids_mk] at h3 ⊢
   omega
  generalize bareS a=u at *
  generalize bareS b=v at *
  obtain ⟨p0,p1,p2,p3,p4⟩:=Blk5 HWx.out.2.2.1
  obtain ⟨q0,q1,q2,q3,q4⟩:=Blk5 HWx.out.2.2.2.1
  replace p0:=Exts.cell p0
  replace p1:=Exts.cell p1
  replace p2:=Exts.cell p2
  replace p3:=Exts.cell p3
  replace p4:=Exts.cell p4
  replace q0:=Exts.cell q0
  replace q1:=Exts.cell q1
  replace q2:=Exts.cell q2
  replace q3:=Exts.cell q3
  replace q4:=Exts.cell q4
  go_wp2_with fail
  refine wp_region_ext (by kernel_rfl) (by kernel_rfl) ?_
  iterate 1 (refine BigFrame.wpQuiet_want rfl (fun K hK=>?_);go_big_quiet_op;refine hK _ ?_;clear hK K)
  (refine BigFrame.wpQuiet_want rfl (fun K hK=>?_);go_big_quiet_op;refine ⟨_,fun e=>Calls.ext_of (list_calls u a1 c1 e.val),hK _ ?_⟩;clear hK K)
  iterate 1 (refine BigFrame.wpQuiet_want rfl (fun K hK=>?_);go_big_quiet_op;refine hK _ ?_;clear hK K)
  (refine BigFrame.wpQuiet_want rfl (fun K hK=>?_);go_big_quiet_op;refine ⟨_,fun e=>Calls.ext_of (list_calls v a2 c2 e.val),hK _ ?_⟩;clear hK K)
  iterate 1 (refine BigFrame.wpQuiet_want rfl (fun K hK=>?_);go_big_quiet_op;refine hK _ ?_;clear hK K)
  refine wpQuiet_nil ?_
  intro e
  obtain ⟨w8,hE8⟩:=e
  have K8:=Lib.hid hE8
  clear p0 p1 p2 p3 p4 q0 q1 q2 q3 q4
  obtain ⟨p0,p1,p2,p3,p4⟩:=Blk5 (HWx.out.2.2.1.ext K8.out)
  obtain ⟨q0,q1,q2,q3,q4⟩:=Blk5 (HWx.out.2.2.2.1.ext K8.out)
  have lp:=cell_lt p0
  have lq:=cell_lt q0
  cases h1 : (lisK u.kind == lisK v.kind) with
  | false =>
   rw [bne,h1] at HQ
   go_wp2_with fail
   go_ret
   exact ⟨ret_bool (by rw [HQ.out];rfl),HWx.out.2.2.2.2.trans K8.out⟩
  | true =>
  rw [bne,h1,Bool.not_true,Bool.false_or] at HQ
  obtain ⟨m,hm⟩ : ∃ m : Nat,m=min u.kids.length v.kids.length:=⟨_,rfl⟩
  have hmi : min (u.kids.length : Int) (v.kids.length : Int)=(m : Int):=by omega
  have HMM:=Lib.hid (show m <= u.kids.length /\ m <= v.kids.length /\ (u.kids.length <= m \/ v.kids.length <= m) by omega)
  have hmu : m <= 40000:=by omega
  clear hm
  go_wp2_with fail
  go_loopw [22] (fun i wr=>∃ j : Nat,i=.int .i64 j /\ j <= m /\ Hid (∀ (i : Nat) (h1 : i < u.kids.length) (h2 : i < v.kids.length),i < j -> mixF u.kids[i] v.kids[i]=false) /\ Ext w8 wr) (fun i _=>m - (intOf i).toNat)
  case atStart=>exact ⟨0,rfl,Nat.zero_le _,Lib.hid (fun i h1 h2 h=>by omega),Ext.refl _⟩
  case round =>
   obtain ⟨j,rfl,hj,HD,hEr⟩:=hrel
   have KE:=Lib.hid hEr
   have f1:=Exts.cell (hEr.keep p4)
   have f2:=Exts.cell (hEr.keep q4)
   clear hEr
   by_cases hlt : j < m
   ·have hlu : j < u.kids.length:=by have:=HMM.out.1;omega
    have hlv : j < v.kids.length:=by have:=HMM.out.2.1;omega
    obtain ⟨g,o,a',c',rfl,-,-,e0,e1,e2,e3,e4,r1⟩:=HWx.out.1.kid j hlu
    obtain ⟨g',o',a'',c'',rfl,-,-,t0,t1,t2,t3,t4,r2⟩:=HWx.out.2.1.kid j hlv
    have hc1:=HWx.out.1.kids.1
    have hc2:=HWx.out.2.1.kids.1
    have hKK:=K8.out.trans KE.out
    replace e0:=Exts.cell (hKK.keep e0)
    replace e1:=Exts.cell (hKK.keep e1)
    replace e2:=Exts.cell (hKK.keep e2)
    replace e3:=Exts.cell (hKK.keep e3)
    replace e4:=Exts.cell (hKK.keep e4)
    replace t0:=Exts.cell (hKK.keep t0)
    replace t1:=Exts.cell (hKK.keep t1)
    replace t2:=Exts.cell (hKK.keep t2)
    replace t3:=Exts.cell (hKK.keep t3)
    replace t4:=Exts.cell (hKK.keep t4)
    have hsk : sizeS u.kids[j] < sizeS u:=by
     have:=sizeS_kid u.kids j hlu
     obtain ⟨k,nl,x,n,ks⟩:=u
     rw [sizeS_mk]
     simp only [skids_mk] at *
     omega
    have HJ:=Lib.hid (fun (wq : World) (hq : Ext wc wq)=>HI.out u.kids[j] (by have:=HZ.out;omega) v.kids[j] _ _ wq a' c' a'' c'' (HR1.out.1.kidE j hlu) (HR1.out.2.kidE j hlv) (by have:=HZ.out;omega) (r1.mono hq) (r2.mono hq))
    have HG:=Lib.hid (And.intro hlu hlv)
    have HKK:=Lib.hid hKK
    clear r1 r2 hsk hKK
    go_wp2_with fail
    refine wp_region_ext (by kernel_rfl) (by kernel_rfl) ?_
    iterate 10 (refine BigFrame.wpQuiet_want rfl (fun K hK=>?_);go_big_quiet_op;refine hK _ ?_;clear hK K)
    (refine BigFrame.wpQuiet_want rfl (fun K hK=>?_);go_big_quiet_op;refine ⟨_,fun e=>Calls.ext_of (HJ.out e.val (HKK.out.trans e.ext)),hK _ ?_⟩;clear hK K)
    refine wpQuiet_nil ?_
    intro e
    obtain ⟨w7,hE7⟩:=e
    clear e0 e1 e2 e3 e4 t0 t1 t2 t3 t4 f1 f2
    have HX:=Lib.hid (KE.out.trans hE7)
    cases hq : mixF u.kids[j] v.kids[j] with
    | true =>
     have HF:=Lib.hid hq
     clear hq
     go_wp2_with fail
     go_ret
     refine ⟨ret_bool ?_,(HWx.out.2.2.2.2.trans K8.out).trans HX.out⟩
     rw [HQ.out]
     cases hh : mixFL u.kids v.kids with
     | true=>rfl
     | false =>
      have:=mixFL_at _ _ hh j HG.out.1 HG.out.2
      rw [HF.out] at this
      cases this
    | false =>
     have HF:=Lib.hid hq
     clear hq
     go_wp2_with fail
     exact ⟨⟨j + 1,by go_num,by omega,Lib.hid (fun i g1 g2 hi=>by
      by_cases e : i=j
      ·subst e;exact HF.out
      ·exact HD.out i g1 g2 (by omega)),HX.out⟩,by simp [intOf];omega⟩
   ·obtain rfl : j=m:=by omega
    go_wp2_with fail
    go_ret
    exact ⟨ret_bool (by rw [HQ.out];exact (mixFL_no _ _ fun i g1 g2=>HD.out i g1 g2 (by have:=HMM.out.2.2;omega)).symm),(HWx.out.2.2.2.2.trans K8.out).trans KE.out⟩
theorem mix_all : ∀ (N : Nat) (a : Syn),sizeS a < N -> MixC a
 | 0,a,h=>absurd h (by omega)
 | N + 1,a,h=>mix_round a fun u hu=>mix_all N u (by omega)
theorem mixed_calls {a b : Syn} {X Y : Nat -> Prop} {w : World} {aa : Option Addr} {ac : Nat} {ba : Option Addr} {bc : Nat} (ha : RS a) (hb : RS b) (hz : sizeS a <= 40000) (hA : SynX X w aa ac a) (hB : SynX Y w ba bc b) :
  Calls Tryz.prog 79 #[synV a aa ac,synV b ba bc] w fun e w'=>e=.returned (.bool (mixF a b)) /\ Ext w w' :=
 mix_all _ a (Nat.lt_succ_self _) b X Y w aa ac ba bc ha hb hz hA hB
end Go.Proofs.YtigalkobmfbdaaaGreatDoor
