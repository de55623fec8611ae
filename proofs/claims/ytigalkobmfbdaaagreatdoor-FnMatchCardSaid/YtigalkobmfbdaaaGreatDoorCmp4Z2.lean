/- match of two lists of one kind; every two parts. -/
import Derived.Test.YtigalkobmfbdaaaGreatDoorCmp3Z2
set_option linter.unusedVariables false
set_option linter.unusedSimpArgs false
set_option maxRecDepth 100000
set_option maxHeartbeats 4000000
namespace Go.Proofs.YtigalkobmfbdaaaGreatDoor
open Go.RowKit
theorem Form.elems {k : ByteArray} {nl : Bool} {x : ByteArray} {n : Int} {ks : List Syn} (h : Form (.mk k nl x n ks)) (hk : lisK k=true:=by decide +kernel) : ∀ t ∈ ks,RS t /\ nodeK t.kind=true:=by
 have hlk : ∀ k ∈ expressions ++ statements,lisK k=false:=by decide +kernel
 cases h with
 | nothing=>exact absurd hk (by decide +kernel)
 | leaf k x n h=>exact absurd hk (by rcases h with ⟨rfl | rfl,-⟩ | ⟨rfl,-⟩ <;> decide +kernel)
 | list k nl ks h h1 h2=>exact h2
 | node k ks h=>rw [hlk k h] at hk;cases hk
theorem cmp_exprs {N : Nat} (hN : N <= 100000) (ih : CmpIH N) {nl nl' : Bool} {xs ys : List Syn} (hl : Form (.mk ⟨#[91,93,69,120,112,114]⟩ nl ⟨#[]⟩ 0 xs)) (hr : Form (.mk ⟨#[91,93,69,120,112,114]⟩ nl' ⟨#[]⟩ 0 ys)) (hs : sizeSs xs + sizeSs ys < N) (hm : mixC (.mk ⟨#[91,93,69,120,112,114]⟩ nl ⟨#[]⟩ 0 xs) (.mk ⟨#[91,93,69,120,112,114]⟩ nl' ⟨#[]⟩ 0 ys)=false) : CmpC (.mk ⟨#[91,93,69,120,112,114]⟩ nl ⟨#[]⟩ 0 xs) (.mk ⟨#[91,93,69,120,112,114]⟩ nl' ⟨#[]⟩ 0 ys):=by
 intro X mb w lv rv m3 hL hR
 have ltm:=cell_lt m3
 obtain ⟨t1,t2,t3,t4,t5,t6,t7,t8,t9,t10,t11,t12⟩:=ta_nil
 have HE:=Lib.hid (eqS_list ⟨#[91,93,69,120,112,114]⟩ (.inl rfl) nl nl' xs ys)
 obtain ⟨b1,a1,c1,rfl,p0,p1,p4,hc1,hP1,-,-⟩:=flat_at hl hL (by rw [skind_mk];decide +kernel) (by rw [skind_mk];decide +kernel)
 obtain ⟨b2,a2,c2,rfl,q0,q1,q4,hc2,hP2,-,-⟩:=flat_at hr hR (by rw [skind_mk];decide +kernel) (by rw [skind_mk];decide +kernel)
 simp only [skind_mk,snull_mk,skids_mk] at p0 p1 p4 q0 q1 q4 hc1 hc2 hP1 hP2
 have lt1:=cell_lt p0
 have lt2:=cell_lt q0
 have hmx : mixL xs ys=false:=by rwa [mixC_list ⟨#[91,93,69,120,112,114]⟩ (.inl rfl)] at hm
 have hbx : xs.length <= 100000 /\ ys.length <= 100000:=by have:=sizeSs_len xs;have:=sizeSs_len ys;omega
 obtain ⟨hbx,hby⟩:=hbx
 have HX:=Lib.hid (And.intro hmx (And.intro hl.elems hr.elems))
 have HI:=Lib.hid ih
 have HQ:=Lib.hid (And.intro hP1 hP2)
 have HB : Hid (bareS (.mk ⟨#[91,93,69,120,112,114]⟩ nl' ⟨#[]⟩ 0 ys)=.mk ⟨#[91,93,69,120,112,114]⟩ nl' ⟨#[]⟩ 0 ys):=Lib.hid (bareS_none (by decide +kernel))
 have HR:=Lib.hid hR
 clear hL hR hl hr hP1 hP2 hm hmx ih
 go_enter Tryz.func95,Tryz.ntmps95
 go_wp2_with fail
 refine (is_node_no p0 (by decide +kernel)).mono ?_
 rintro e w2 ⟨rfl,hE1⟩
 have K2:=Lib.hid hE1
 replace m3:=hE1.keep m3
 replace p0:=hE1.keep p0
 replace q0:=hE1.keep q0
 replace p4:=hE1.keep p4
 replace q4:=hE1.keep q4
 replace lt1:=cell_lt p0
 replace lt2:=cell_lt q0
 clear hE1 p1 q1
 go_wp2_with fail
 go_loopw [229] (fun i wr=>i=.int .i64 0 /\ wr=w2.alloc (.cells #[.string ⟨#[91,93,69,120,112,114]⟩,.string ⟨#[91,93,83,116,109,116]⟩,.string ⟨#[91,93,70,105,101,108,100]⟩] 9)) (fun _ _=>0)
 case atStart=>exact ⟨rfl,rfl⟩
 case round =>
   obtain ⟨rfl,rfl⟩:=hrel
   have W5e:=Ext.alloc w2 (.cells #[.string ⟨#[91,93,69,120,112,114]⟩,.string ⟨#[91,93,83,116,109,116]⟩,.string ⟨#[91,93,70,105,101,108,100]⟩] 9)
   replace m3:=W5e.keep m3
   replace p0:=W5e.keep p0
   replace q0:=W5e.keep q0
   replace p4:=W5e.keep p4
   replace q4:=W5e.keep q4
   have lt1':=cell_lt p0
   have lt2':=cell_lt q0
   by_cases hlen : xs.length=ys.length
   ·have hlen' : ((xs.length : Int) == (ys.length : Int))=true:=by rw [beq_iff_eq];omega
    go_wp2_with fail
    go_quiet (fail)
    have W6e:=Ext.drewN (w2.alloc (.cells #[.string ⟨#[91,93,69,120,112,114]⟩,.string ⟨#[91,93,83,116,109,116]⟩,.string ⟨#[91,93,70,105,101,108,100]⟩] 9)) nq
    have K6:=Lib.hid (K2.out.trans (W5e.trans W6e))
    replace m3:=W6e.keep m3
    replace p0:=W6e.keep p0
    replace q0:=W6e.keep q0
    replace p4:=W6e.keep p4
    replace q4:=W6e.keep q4
    clear W5e W6e lt1' lt2'
    generalize (w2.alloc (.cells #[.string ⟨#[91,93,69,120,112,114]⟩,.string ⟨#[91,93,83,116,109,116]⟩,.string ⟨#[91,93,70,105,101,108,100]⟩] 9)).drewN nq=w5 at *
    have lt1':=cell_lt p0
    have lt2':=cell_lt q0
    go_wp2_with fail
    go_loopw [291] (fun i2 w'=>∃ j2 : Nat,i2=.int .i64 j2 /\ j2 <= xs.length /\ Ext w5 w' /\ Hid (eqL (xs.take j2) (ys.take j2)=true)) (fun i2 _=>xs.length - (intOf i2).toNat)
    case atStart=>exact ⟨0,rfl,Nat.zero_le _,Ext.refl _,Lib.hid (by simp [eqL])⟩
    case round =>
     obtain ⟨j2,rfl,hj2,hEr2,hT2⟩:=hrel
     replace m3:=hEr2.keep m3
     replace p4:=hEr2.keep p4
     replace q4:=hEr2.keep q4
     replace lt1':=cell_lt p4
     replace lt2':=cell_lt q4
     have K7:=Lib.hid (K6.out.trans hEr2)
     by_cases hlt3 : j2 < xs.length
     ·have hlt4 : j2 < ys.length:=by omega
      obtain ⟨g1,o1,v1,rfl,-,kc1,kp1⟩:=HQ.out.1.get j2 hlt3
      obtain ⟨z1,rfl⟩:=ptr_shape kp1
      obtain ⟨g2,o2,v2,rfl,-,kc2,kp2⟩:=HQ.out.2.get j2 hlt4
      obtain ⟨z2,rfl⟩:=ptr_shape kp2
      replace kc1:=K7.out.keep kc1
      replace kc2:=K7.out.keep kc2
      have hx3:=HX.out.2.1 _ (List.getElem_mem hlt3)
      have hy3:=HX.out.2.2 _ (List.getElem_mem hlt4)
      have HC2:=Lib.hid (HI.out xs[j2] ys[j2] (by have:=sizeS_kid xs j2 hlt3;have:=sizeS_kid ys j2 hlt4;have:=hs;omega) hx3.1 hy3.1 (leaf_of_other (.inr hx3.2)) (leaf_of_other (.inr hy3.2)) (mixL_no xs ys j2 hlt3 hlt4 HX.out.1))
      have HQ2:=Lib.hid (And.intro (kp1.mono (K7.out.keeps X)) (kp2.mono (K7.out.keeps X)))
      have HM2:=Lib.hid (And.intro (eqL_take xs ys j2 hlt3 hlt4) (eqL_no xs ys j2 hlt3 hlt4))
      clear kp1 kp2 hx3 hy3
      generalize xs[j2]=x2 at *
      generalize ys[j2]=y2 at *
      go_wp2_with fail
      refine (HC2.out X mb _ _ _ m3 HQ2.out.1 HQ2.out.2).mono ?_
      rintro e w7 ⟨⟨q,rfl,hq1⟩,hE7⟩
      have K8:=Lib.hid hE7
      clear hE7 hq1
      cases hb : eqS x2 y2
      ·go_wp2_with fail
       go_ret2
       rw [HE.out,HM2.out.2 hb,Bool.and_false]
       exact ⟨⟨_,rfl,fun h=>by cases h⟩,K7.out.trans K8.out⟩
      ·go_wp2_with fail
       exact ⟨⟨j2 + 1,by go_num,by omega,hEr2.trans K8.out,Lib.hid (by rw [HM2.out.1,hT2.out,hb];rfl)⟩,by simp [intOf];omega⟩
     ·obtain rfl : j2=xs.length:=by omega
      have hb : Hid ((xs.length == ys.length && eqL xs ys)=true):=Lib.hid (by
       have h1:=hT2.out
       rw [List.take_of_length_le (Nat.le_refl _),List.take_of_length_le (by omega)] at h1
       rw [h1,hlen];simp)
      go_wp2_with fail
      go_ret2
      rw [HE.out,hb.out]
      exact ⟨⟨_,rfl,fun _=>by rw [HB.out];exact HR.out.mono (K7.out.keeps X)⟩,K7.out⟩
   ·have hlen' : ((xs.length : Int) == (ys.length : Int))=false:=by rw [beq_eq_false_iff_ne];omega
    have hb : Hid ((xs.length == ys.length && eqL xs ys)=false):=Lib.hid (by rw [beq_eq_false_iff_ne.2 hlen,Bool.false_and])
    go_wp2_with fail
    go_quiet (fail)
    go_wp2_with fail
    go_ret2
    rw [HE.out,hb.out]
    exact ⟨⟨_,rfl,fun h=>by cases h⟩,(K2.out.trans W5e).trans (Ext.drewN _ _)⟩
theorem cmp_stmts {N : Nat} (hN : N <= 100000) (ih : CmpIH N) {nl nl' : Bool} {xs ys : List Syn} (hl : Form (.mk ⟨#[91,93,83,116,109,116]⟩ nl ⟨#[]⟩ 0 xs)) (hr : Form (.mk ⟨#[91,93,83,116,109,116]⟩ nl' ⟨#[]⟩ 0 ys)) (hs : sizeSs xs + sizeSs ys < N) (hm : mixC (.mk ⟨#[91,93,83,116,109,116]⟩ nl ⟨#[]⟩ 0 xs) (.mk ⟨#[91,93,83,116,109,116]⟩ nl' ⟨#[]⟩ 0 ys)=false) : CmpC (.mk ⟨#[91,93,83,116,109,116]⟩ nl ⟨#[]⟩ 0 xs) (.mk ⟨#[91,93,83,116,109,116]⟩ nl' ⟨#[]⟩ 0 ys):=by
 intro X mb w lv rv m3 hL hR
 have ltm:=cell_lt m3
 obtain ⟨t1,t2,t3,t4,t5,t6,t7,t8,t9,t10,t11,t12⟩:=ta_nil
 have HE:=Lib.hid (eqS_list ⟨#[91,93,83,116,109,116]⟩ (.inr rfl) nl nl' xs ys)
 obtain ⟨b1,a1,c1,rfl,p0,p1,p4,hc1,hP1,-,-⟩:=flat_at hl hL (by rw [skind_mk];decide +kernel) (by rw [skind_mk];decide +kernel)
 obtain ⟨b2,a2,c2,rfl,q0,q1,q4,hc2,hP2,-,-⟩:=flat_at hr hR (by rw [skind_mk];decide +kernel) (by rw [skind_mk];decide +kernel)
 simp only [skind_mk,snull_mk,skids_mk] at p0 p1 p4 q0 q1 q4 hc1 hc2 hP1 hP2
 have lt1:=cell_lt p0
 have lt2:=cell_lt q0
 have hmx : mixL xs ys=false:=by rwa [mixC_list ⟨#[91,93,83,116,109,116]⟩ (.inr rfl)] at hm
 have hbx : xs.length <= 100000 /\ ys.length <= 100000:=by have:=sizeSs_len xs;have:=sizeSs_len ys;omega
 obtain ⟨hbx,hby⟩:=hbx
 have HX:=Lib.hid (And.intro hmx (And.intro hl.elems hr.elems))
 have HI:=Lib.hid ih
 have HQ:=Lib.hid (And.intro hP1 hP2)
 have HB : Hid (bareS (.mk ⟨#[91,93,83,116,109,116]⟩ nl' ⟨#[]⟩ 0 ys)=.mk ⟨#[91,93,83,116,109,116]⟩ nl' ⟨#[]⟩ 0 ys):=Lib.hid (bareS_none (by decide +kernel))
 have HR:=Lib.hid hR
 clear hL hR hl hr hP1 hP2 hm hmx ih
 go_enter Tryz.func95,Tryz.ntmps95
 go_wp2_with fail
 refine (is_node_no p0 (by decide +kernel)).mono ?_
 rintro e w2 ⟨rfl,hE1⟩
 have K2:=Lib.hid hE1
 replace m3:=hE1.keep m3
 replace p0:=hE1.keep p0
 replace q0:=hE1.keep q0
 replace p4:=hE1.keep p4
 replace q4:=hE1.keep q4
 replace lt1:=cell_lt p0
 replace lt2:=cell_lt q0
 clear hE1 p1 q1
 go_wp2_with fail
 go_loopw [229] (fun i wr=>∃ j0 : Nat,i=.int .i64 j0 /\ j0 <= 1 /\ wr=w2.alloc (.cells #[.string ⟨#[91,93,69,120,112,114]⟩,.string ⟨#[91,93,83,116,109,116]⟩,.string ⟨#[91,93,70,105,101,108,100]⟩] 9)) (fun i _=>2 - (intOf i).toNat)
 case atStart=>exact ⟨0,rfl,Nat.zero_le _,rfl⟩
 case round =>
  obtain ⟨j0,rfl,hj0,rfl⟩:=hrel
  by_cases h00 : j0=0
  ·subst h00
   have W5e:=Ext.alloc w2 (.cells #[.string ⟨#[91,93,69,120,112,114]⟩,.string ⟨#[91,93,83,116,109,116]⟩,.string ⟨#[91,93,70,105,101,108,100]⟩] 9)
   replace p0:=W5e.keep p0
   replace q0:=W5e.keep q0
   have lt1':=cell_lt p0
   have lt2':=cell_lt q0
   go_wp2_with fail
   exact ⟨⟨1,by go_num,Nat.le_refl _,by trivial⟩,by simp [intOf]⟩
  ·obtain rfl : j0=1:=by omega
   clear h00
   have W5e:=Ext.alloc w2 (.cells #[.string ⟨#[91,93,69,120,112,114]⟩,.string ⟨#[91,93,83,116,109,116]⟩,.string ⟨#[91,93,70,105,101,108,100]⟩] 9)
   replace m3:=W5e.keep m3
   replace p0:=W5e.keep p0
   replace q0:=W5e.keep q0
   replace p4:=W5e.keep p4
   replace q4:=W5e.keep q4
   have lt1':=cell_lt p0
   have lt2':=cell_lt q0
   by_cases hlen : xs.length=ys.length
   ·have hlen' : ((xs.length : Int) == (ys.length : Int))=true:=by rw [beq_iff_eq];omega
    go_wp2_with fail
    go_quiet (fail)
    have W6e:=Ext.drewN (w2.alloc (.cells #[.string ⟨#[91,93,69,120,112,114]⟩,.string ⟨#[91,93,83,116,109,116]⟩,.string ⟨#[91,93,70,105,101,108,100]⟩] 9)) nq
    have K6:=Lib.hid (K2.out.trans (W5e.trans W6e))
    replace m3:=W6e.keep m3
    replace p0:=W6e.keep p0
    replace q0:=W6e.keep q0
    replace p4:=W6e.keep p4
    replace q4:=W6e.keep q4
    clear W5e W6e lt1' lt2'
    generalize (w2.alloc (.cells #[.string ⟨#[91,93,69,120,112,114]⟩,.string ⟨#[91,93,83,116,109,116]⟩,.string ⟨#[91,93,70,105,101,108,100]⟩] 9)).drewN nq=w5 at *
    have lt1':=cell_lt p0
    have lt2':=cell_lt q0
    go_wp2_with fail
    go_loopw [291] (fun i2 w'=>∃ j2 : Nat,i2=.int .i64 j2 /\ j2 <= xs.length /\ Ext w5 w' /\ Hid (eqL (xs.take j2) (ys.take j2)=true)) (fun i2 _=>xs.length - (intOf i2).toNat)
    case atStart=>exact ⟨0,rfl,Nat.zero_le _,Ext.refl _,Lib.hid (by simp [eqL])⟩
    case round =>
     obtain ⟨j2,rfl,hj2,hEr2,hT2⟩:=hrel
     replace m3:=hEr2.keep m3
     replace p4:=hEr2.keep p4
     replace q4:=hEr2.keep q4
     replace lt1':=cell_lt p4
     replace lt2':=cell_lt q4
     have K7:=Lib.hid (K6.out.trans hEr2)
     by_cases hlt3 : j2 < xs.length
     ·have hlt4 : j2 < ys.length:=by omega
      obtain ⟨g1,o1,v1,rfl,-,kc1,kp1⟩:=HQ.out.1.get j2 hlt3
      obtain ⟨z1,rfl⟩:=ptr_shape kp1
      obtain ⟨g2,o2,v2,rfl,-,kc2,kp2⟩:=HQ.out.2.get j2 hlt4
      obtain ⟨z2,rfl⟩:=ptr_shape kp2
      replace kc1:=K7.out.keep kc1
      replace kc2:=K7.out.keep kc2
      have hx3:=HX.out.2.1 _ (List.getElem_mem hlt3)
      have hy3:=HX.out.2.2 _ (List.getElem_mem hlt4)
      have HC2:=Lib.hid (HI.out xs[j2] ys[j2] (by have:=sizeS_kid xs j2 hlt3;have:=sizeS_kid ys j2 hlt4;have:=hs;omega) hx3.1 hy3.1 (leaf_of_other (.inr hx3.2)) (leaf_of_other (.inr hy3.2)) (mixL_no xs ys j2 hlt3 hlt4 HX.out.1))
      have HQ2:=Lib.hid (And.intro (kp1.mono (K7.out.keeps X)) (kp2.mono (K7.out.keeps X)))
      have HM2:=Lib.hid (And.intro (eqL_take xs ys j2 hlt3 hlt4) (eqL_no xs ys j2 hlt3 hlt4))
      clear kp1 kp2 hx3 hy3
      generalize xs[j2]=x2 at *
      generalize ys[j2]=y2 at *
      go_wp2_with fail
      refine (HC2.out X mb _ _ _ m3 HQ2.out.1 HQ2.out.2).mono ?_
      rintro e w7 ⟨⟨q,rfl,hq1⟩,hE7⟩
      have K8:=Lib.hid hE7
      clear hE7 hq1
      cases hb : eqS x2 y2
      ·go_wp2_with fail
       go_ret2
       rw [HE.out,HM2.out.2 hb,Bool.and_false]
       exact ⟨⟨_,rfl,fun h=>by cases h⟩,K7.out.trans K8.out⟩
      ·go_wp2_with fail
       exact ⟨⟨j2 + 1,by go_num,by omega,hEr2.trans K8.out,Lib.hid (by rw [HM2.out.1,hT2.out,hb];rfl)⟩,by simp [intOf];omega⟩
     ·obtain rfl : j2=xs.length:=by omega
      have hb : Hid ((xs.length == ys.length && eqL xs ys)=true):=Lib.hid (by
       have h1:=hT2.out
       rw [List.take_of_length_le (Nat.le_refl _),List.take_of_length_le (by omega)] at h1
       rw [h1,hlen];simp)
      go_wp2_with fail
      go_ret2
      rw [HE.out,hb.out]
      exact ⟨⟨_,rfl,fun _=>by rw [HB.out];exact HR.out.mono (K7.out.keeps X)⟩,K7.out⟩
   ·have hlen' : ((xs.length : Int) == (ys.length : Int))=false:=by rw [beq_eq_false_iff_ne];omega
    have hb : Hid ((xs.length == ys.length && eqL xs ys)=false):=Lib.hid (by rw [beq_eq_false_iff_ne.2 hlen,Bool.false_and])
    go_wp2_with fail
    go_quiet (fail)
    go_wp2_with fail
    go_ret2
    rw [HE.out,hb.out]
    exact ⟨⟨_,rfl,fun h=>by cases h⟩,(K2.out.trans W5e).trans (Ext.drewN _ _)⟩
theorem mix_no {k k' : ByteArray} {nl nl' : Bool} {x x' : ByteArray} {n n' : Int} {ks ks' : List Syn} (hw : wrapIx k=none) (hw' : wrapIx k'=none) (h : (lisK k != lisK k')=true) (hm : mixC (.mk k nl x n ks) (.mk k' nl' x' n' ks')=false) : False:=by
 rw [mixC_none hw,bareS_none hw',skind_mk,if_pos h] at hm
 cases hm
theorem cmp_all : ∀ N,N <= 100000 -> CmpIH N:=by
 intro N
 induction N with
 | zero=>intro _ l r h;omega
 | succ N ih =>
  intro hN l r hs hl hr hll hlr hm
  have ih:=ih (by omega)
  cases hw : wrapIx l.kind with
  | some i =>
   refine cmp_left hl.form hw (fun hi=>?_)
   obtain ⟨k,ks,rfl,hk,hi',hrk,hlf⟩:=hl.form.wrap hw
   rw [skind_mk] at hw
   rw [mixC_wrap hw hi'] at hm
   rw [sizeS_mk] at hs
   have:=sizeS_kid ks i hi'
   exact ih _ _ (by simp only [skids_mk];omega) hrk hr hlf hlr hm
  | none =>
   cases hw2 : wrapIx r.kind with
   | some i =>
    refine cmp_right hl.form hll hw hr.form hw2 (fun hi=>?_)
    obtain ⟨k,ks,rfl,hk,hi',hrk,hlf⟩:=hr.form.wrap hw2
    rw [skind_mk] at hw2
    rw [mixC_bare hw (bareS_wrap hw2 hi')] at hm
    rw [sizeS_mk] at hs
    have:=sizeS_kid ks i hi'
    exact ih _ _ (by simp only [skids_mk];omega) hl hrk hll hlf hm
   | none =>
    have hlk : ∀ k ∈ expressions ++ statements,lisK k=false:=by decide +kernel
    have h00 : (⟨#[]⟩ : ByteArray).toList=[]:=by decide +kernel
    have fl:=hl.form
    have fr:=hr.form
    have hne : ∀ {k : ByteArray},k ∈ expressions ++ statements -> (k.toList == ([] : List UInt8))=false:=fun h=>beq_eq_false_iff_ne.2 (node_ne _ h)
    cases fl with
    | leaf k x n h=>rw [skind_mk] at hll;exact absurd hll (by rcases h with ⟨rfl | rfl,-⟩ | ⟨rfl,-⟩ <;> decide +kernel)
    | nothing =>
     cases fr with
     | leaf k x n h=>rw [skind_mk] at hlr;exact absurd hlr (by rcases h with ⟨rfl | rfl,-⟩ | ⟨rfl,-⟩ <;> decide +kernel)
     | nothing=>exact cmp_nothing hl.form hr.form hll hlr hw hw2 (.inl (by decide +kernel)) (by decide +kernel)
     | list k nl ks hk=>exact (mix_no hw hw2 (by simp only [skind_mk];rcases hk with rfl | rfl <;> decide +kernel) hm).elim
     | node k ks hk h1 h2 =>
      refine cmp_nothing hl.form hr.form hll hlr hw hw2 (.inl (by decide +kernel)) ?_
      rw [skind_mk] at hw2
      rw [eqS_none (by decide +kernel),bareS_none hw2,skind_mk,skind_mk]
      have e : ((⟨#[]⟩ : ByteArray).toList == k.toList)=false:=by
       have:=hne hk
       rw [h00]
       rw [beq_eq_false_iff_ne] at this ⊢
       exact fun e=>this e.symm
      rw [e]
      simp
    | list k nl ks hk hnl hel =>
     cases fr with
     | leaf k x n h=>rw [skind_mk] at hlr;exact absurd hlr (by rcases h with ⟨rfl | rfl,-⟩ | ⟨rfl,-⟩ <;> decide +kernel)
     | nothing=>exact (mix_no hw hw2 (by simp only [skind_mk];rcases hk with rfl | rfl <;> decide +kernel) hm).elim
     | node k' ks' hk' h1 h2=>exact (mix_no hw hw2 (by simp only [skind_mk];rw [hlk k' hk'];rcases hk with rfl | rfl <;> decide +kernel) hm).elim
     | list k' nl' ks' hk' hnl' hel' =>
      rw [sizeS_mk,sizeS_mk] at hs
      rcases hk with rfl | rfl <;> rcases hk' with rfl | rfl
      ·exact cmp_exprs (by omega) ih hl.form hr.form (by omega) hm
      ·exact cmp_mixed (.inl ⟨rfl,rfl⟩) hl.form hr.form
      ·exact cmp_mixed (.inr ⟨rfl,rfl⟩) hl.form hr.form
      ·exact cmp_stmts (by omega) ih hl.form hr.form (by omega) hm
    | node k ks hk h1 h2 =>
     cases fr with
     | leaf k x n h=>rw [skind_mk] at hlr;exact absurd hlr (by rcases h with ⟨rfl | rfl,-⟩ | ⟨rfl,-⟩ <;> decide +kernel)
     | nothing =>
      refine cmp_nothing hl.form hr.form hll hlr hw hw2 (.inr (by decide +kernel)) ?_
      rw [skind_mk] at hw
      rw [eqS_none hw,bareS_none (by decide +kernel),skind_mk,skind_mk]
      have e : (k.toList == (⟨#[]⟩ : ByteArray).toList)=false:=by rw [h00];exact hne hk
      rw [e]
      simp
     | list k' nl' ks' hk'=>exact (mix_no hw hw2 (by simp only [skind_mk];rw [hlk k hk];rcases hk' with rfl | rfl <;> decide +kernel) hm).elim
     | node k' ks' hk' h1' h2' =>
      rw [sizeS_mk,sizeS_mk] at hs
      rw [skind_mk] at hw hw2
      exact cmp_nodes (by omega) ih hl.form hr.form hk hk' hw hw2 (by omega) hm
end Go.Proofs.YtigalkobmfbdaaaGreatDoor
