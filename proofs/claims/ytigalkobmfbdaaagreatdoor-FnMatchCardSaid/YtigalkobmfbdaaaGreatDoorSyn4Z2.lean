/- Is a part of a syntax right? Nodes; all letters. -/
import Derived.Test.YtigalkobmfbdaaaGreatDoorSyn3Z2
set_option linter.unusedVariables false
set_option linter.unusedSimpArgs false
set_option maxRecDepth 100000
set_option maxHeartbeats 8000000
namespace Go.Proofs.YtigalkobmfbdaaaGreatDoor
open Go.RowKit
def letters : List Int:=[116,110,98,108,109,69,83,101,115,105,99,66]
theorem asked_letters (k : ByteArray) : ∀ c ∈ (asked k).toList,(c.toNat : Int) ∈ letters:=by
 have h : ∀ x ∈ askedT,∀ c ∈ x.2.toList,(c.toNat : Int) ∈ letters:=by decide +kernel
 rcases sw_cases k askedT ⟨#[]⟩ with ⟨e,-⟩ | ⟨x,hx,-,e⟩
 ·intro c hc
  have e' : asked k=⟨#[]⟩:=e
  rw [e',toList_mk] at hc;cases hc
 ·intro c hc
  have e' : asked k=x.2:=e
  rw [e'] at hc
  exact h x hx c hc
theorem asked_get (k : ByteArray) (j : Nat) (h : j < (asked k).size) : (((asked k)[j]).toNat : Int) ∈ letters:=by
 rw [<- get_toList (asked k) j h]
 exact asked_letters k _ (List.getElem_mem _)
theorem asked_small (k : ByteArray) : (asked k).size <= 5:=by
 have h : ∀ x ∈ askedT,x.2.size <= 5:=by decide +kernel
 rcases sw_cases k askedT ⟨#[]⟩ with ⟨e,-⟩ | ⟨x,hx,-,e⟩
 ·have e' : asked k=⟨#[]⟩:=e
  rw [e'];decide
 ·have e' : asked k=x.2:=e
  rw [e'];exact h x hx
theorem rightArgs_take (ks : List Syn) (l : List UInt8) (k : ByteArray) (j : Nat) (h : j < ks.length) (hl : j < l.length) (h0 : rightArgs (ks.take j) l k=true) (h1 : right ks[j] l[j].toNat k=true) : rightArgs (ks.take (j + 1)) l k=true:=by
 induction ks generalizing j l with
 | nil=>simp at h
 | cons t ts ih =>
  cases l with
  | nil=>simp at hl
  | cons c cs =>
   cases j with
   | zero=>simp only [List.take_succ_cons,List.take_zero,rightArgs,Bool.and_true];exact h1
   | succ j =>
    simp only [List.take_succ_cons,rightArgs,Bool.and_eq_true] at h0 ⊢
    exact ⟨h0.1,ih cs j (by simpa using h) (by simpa using hl) h0.2 (by simpa using h1)⟩
theorem right_105 (t : Syn) (of : ByteArray) (ih : ∀ (j : Nat) (hj : j < t.kids.length) (c : Int),c ∈ letters -> ∀ of,RightC c of t.kids[j]) : RightC 105 of t:=by
 intro X a cap w hT
 obtain ⟨k,nl,x,n,ks⟩:=t
 have hs:=hT.sizes
 have hK:=hT.kids
 simp only [synV,skind_mk,snull_mk,stext_mk,snum_mk,skids_mk] at *
 have HI:=Lib.hid ih
 have HR:=Lib.hid (right_mk k nl x n ks 105 of)
 have HKs:=Lib.hid hK.2.2
 have hbx:=Blk.new w #[.string k,.bool nl,.string x,.int .i64 n,.slice a ks.length cap] 52
 have KX:=Lib.hid hbx
 have HAS:=Lib.hid (asked_small k)
 have HAL:=Lib.hid (asked_get k)
 have HAC:=Lib.hid (asked_calls k)
 generalize asked k=ak at *
 clear hT ih hbx
 have hlen:=And.intro hK.1 hK.2.1
 clear hK
 cases nl
 ·cases hf : (k.toList == [73,100,101,110,116]) <;> cases h0 : (x.toList == []) <;> cases h2 : (n == 0) <;> cases h3 : ((ks.length : Int) == (ak.size : Int))
  all_goals
   go_enter Tryz.func41,Tryz.ntmps41
   go_big_wp2_with fail
   refine (HAC.out _).mono ?_
   rintro e w1 ⟨rfl,rfl⟩
   go_big_wp2_with fail
   obtain ⟨W0,hW0⟩ : ∃ W0,W0=w.alloc (.cells #[.string k,.bool false,.string x,.int .i64 n,.slice a ks.length cap] 52):=⟨_,rfl⟩
   have KE0 : Hid (Ext w W0):=Lib.hid (by rw [hW0];exact Ext.alloc _ _)
   have KX1 : Hid (Blk W0 w.heap.size #[.string k,.bool false,.string x,.int .i64 n,.slice a ks.length cap] 52):=Lib.hid (by rw [hW0];exact KX.out)
   rw [<- hW0]
   have b5:=Blk5 KX1.out
   have bl5:=KX1.out.lt
   clear hW0
   go_big_wp2_with fail
   first
    | (go_ret
       exact ⟨⟨false,rfl,fun h=>by cases h⟩,KE0.out⟩)
    | skip
  all_goals
   have H3:=Lib.hid (show ks.length=ak.size by have:=eq_of_beq h3;omega)
   have H02:=Lib.hid (And.intro h0 h2)
   clear h0 h2 h3
   go_loopw [202] (fun i wr=>∃ j : Nat,i=.int .i64 j /\ j <= ks.length /\ rightArgs (ks.take j) ak.toList k=true /\ Ext W0 wr) (fun i _=>ks.length - (intOf i).toNat)
   case atStart=>exact ⟨0,rfl,Nat.zero_le _,by rw [List.take_zero,rightArgs],Ext.refl _⟩
   case round =>
    obtain ⟨j,rfl,hj,hra,hE⟩:=hrel
    have HA:=Lib.hid hra
    have KE:=Lib.hid (KE0.out.trans hE)
    have KEW:=Lib.hid hE
    have bk:=(Blk5 (KX1.out.ext hE)).1
    have bks:=(Blk5 (KX1.out.ext hE)).2.2.2.2
    clear hra hE
    by_cases hlt : j < ks.length
    ·obtain ⟨b,o,a',c',e0,hbl,-,p0,p1,p2,p3,p4,hkt⟩:=HKs.out.get j hlt
     subst e0
     replace p0:=KE.out.keep p0
     replace p1:=KE.out.keep p1
     replace p2:=KE.out.keep p2
     replace p3:=KE.out.keep p3
     replace p4:=KE.out.keep p4
     have hbl1:=Nat.lt_of_lt_of_le hbl KE.out.size
     have HT:=Lib.hid hkt
     have hja : j < ak.size:=by have:=H3.out;omega
     clear hkt
     have hnb:=Blk.new wr #[.string ks[j].kind,.bool ks[j].null,.string ks[j].text,.int .i64 ks[j].num,.slice a' ks[j].kids.length c'] 52
     have KE1:=Lib.hid (KE.out.trans (Ext.alloc wr (.cells #[.string ks[j].kind,.bool ks[j].null,.string ks[j].text,.int .i64 ks[j].num,.slice a' ks[j].kids.length c'] 52)))
     obtain ⟨q0,q1,q2,q3,q4⟩:=Blk5 hnb
     have bk1:=(Ext.alloc wr (.cells #[.string ks[j].kind,.bool ks[j].null,.string ks[j].text,.int .i64 ks[j].num,.slice a' ks[j].kids.length c'] 52)).keep bk
     have bks1:=(Ext.alloc wr (.cells #[.string ks[j].kind,.bool ks[j].null,.string ks[j].text,.int .i64 ks[j].num,.slice a' ks[j].kids.length c'] 52)).keep bks
     clear hnb
     go_big_wp2_with fail
     go_region_held3 (fun w'=>w'.cell? ⟨w.heap.size,0,none⟩=some (.string k) /\ w'.cell? ⟨wr.heap.size,0,none⟩=some (.string ks[j].kind) /\ w'.cell? ⟨wr.heap.size,1,none⟩=some (.bool ks[j].null) /\ w'.cell? ⟨wr.heap.size,2,none⟩=some (.string ks[j].text) /\ w'.cell? ⟨wr.heap.size,3,none⟩=some (.int .i64 ks[j].num) /\ w'.cell? ⟨wr.heap.size,4,none⟩=some (.slice a' ks[j].kids.length c')) (go_keep)
      ((go_at_call 41;refine (HI.out j hlt _ (HAL.out j hja) k X a' c' _ (HT.out.mono (KE1.out.trans (Ext.drew _)))).mono ?_;rintro e w3 ⟨⟨bb,rfl,hbb⟩,hE3⟩;have KE3:=Lib.hid ((KE1.out.trans (Ext.drew _)).trans hE3);have HBB:=Lib.hid hbb;have KE3b:=Lib.hid hE3;have g0:=hE3.keep ((Ext.drew _).keep q0);have g1:=hE3.keep ((Ext.drew _).keep q1);have g2:=hE3.keep ((Ext.drew _).keep q2);have g3:=hE3.keep ((Ext.drew _).keep q3);have g4:=hE3.keep ((Ext.drew _).keep q4);have gk:=hE3.keep ((Ext.drew _).keep bk1);clear hE3 hbb))
     cases bb
     ·go_big_wp2_with fail
      go_ret
      exact ⟨⟨false,rfl,fun h=>by cases h⟩,KE3.out⟩
     ·go_big_wp2_with fail
      go_roundw
      case rel =>
       refine ⟨_,_,_,_,⟨j + 1,by go_num,by omega,rightArgs_take _ _ _ _ hlt (by rw [size_toList];exact hja) HA.out ?_,KEW.out.trans (((Ext.alloc wr _).trans (Ext.drew _)).trans KE3b.out)⟩,rfl,rfl,rfl,rfl⟩
       rw [get_toList ak j hja]
       exact HBB.out trivial
      case measure=>simp [intOf];omega
    ·obtain rfl : j=ks.length:=by omega
     rw [List.take_length] at HA
     go_big_wp2_with fail
     go_ret
     refine ⟨⟨_,rfl,fun _=>?_⟩,KE.out⟩
     have e9 : (ks.length == ak.size)=true:=by rw [H3.out];exact beq_self_eq_true _
     rw [HR.out]
     simp only [show ((105 : Int) == 116)=false from rfl,show ((105 : Int) == 110)=false from rfl,show ((105 : Int) == 98)=false from rfl,show ((105 : Int) == 108)=false from rfl,show ((105 : Int) == 109)=false from rfl,show ((105 : Int) == 69)=false from rfl,show ((105 : Int) == 83)=false from rfl,show ((105 : Int) == 101)=false from rfl,show ((105 : Int) == 115)=false from rfl,show ((105 : Int) == 105)=true from rfl,show ((105 : Int) == 99)=false from rfl,show ((105 : Int) == 66)=false from rfl,fitsL,hf,H02.out.1,H02.out.2,e9,HA.out,Bool.false_eq_true,if_false,if_true,Bool.and_true,Bool.not_false,Bool.false_and,Bool.or_false,Bool.or_self]
 ·go_enter Tryz.func41,Tryz.ntmps41
  go_big_wp2_with fail
  go_ret
  exact ⟨⟨false,rfl,fun h=>by cases h⟩,Ext.alloc _ _⟩
theorem right_99 (t : Syn) (of : ByteArray) (ih : ∀ (j : Nat) (hj : j < t.kids.length) (c : Int),c ∈ letters -> ∀ of,RightC c of t.kids[j]) : RightC 99 of t:=by
 intro X a cap w hT
 obtain ⟨k,nl,x,n,ks⟩:=t
 have hs:=hT.sizes
 have hK:=hT.kids
 simp only [synV,skind_mk,snull_mk,stext_mk,snum_mk,skids_mk] at *
 have HI:=Lib.hid ih
 have HR:=Lib.hid (right_mk k nl x n ks 99 of)
 have HKs:=Lib.hid hK.2.2
 have hbx:=Blk.new w #[.string k,.bool nl,.string x,.int .i64 n,.slice a ks.length cap] 52
 have KX:=Lib.hid hbx
 have HAS:=Lib.hid (asked_small k)
 have HAL:=Lib.hid (asked_get k)
 have HAC:=Lib.hid (asked_calls k)
 generalize asked k=ak at *
 clear hT ih hbx
 have hlen:=And.intro hK.1 hK.2.1
 clear hK
 cases nl
 ·cases hf : (k.toList == [67,97,108,108,69,120,112,114]) <;> cases h0 : (x.toList == []) <;> cases h2 : (n == 0) <;> cases h3 : ((ks.length : Int) == (ak.size : Int))
  all_goals
   go_enter Tryz.func41,Tryz.ntmps41
   go_big_wp2_with fail
   refine (HAC.out _).mono ?_
   rintro e w1 ⟨rfl,rfl⟩
   go_big_wp2_with fail
   obtain ⟨W0,hW0⟩ : ∃ W0,W0=w.alloc (.cells #[.string k,.bool false,.string x,.int .i64 n,.slice a ks.length cap] 52):=⟨_,rfl⟩
   have KE0 : Hid (Ext w W0):=Lib.hid (by rw [hW0];exact Ext.alloc _ _)
   have KX1 : Hid (Blk W0 w.heap.size #[.string k,.bool false,.string x,.int .i64 n,.slice a ks.length cap] 52):=Lib.hid (by rw [hW0];exact KX.out)
   rw [<- hW0]
   have b5:=Blk5 KX1.out
   have bl5:=KX1.out.lt
   clear hW0
   go_big_wp2_with fail
   first
    | (go_ret
       exact ⟨⟨false,rfl,fun h=>by cases h⟩,KE0.out⟩)
    | skip
  all_goals
   have H3:=Lib.hid (show ks.length=ak.size by have:=eq_of_beq h3;omega)
   have H02:=Lib.hid (And.intro h0 h2)
   clear h0 h2 h3
   go_loopw [202] (fun i wr=>∃ j : Nat,i=.int .i64 j /\ j <= ks.length /\ rightArgs (ks.take j) ak.toList k=true /\ Ext W0 wr) (fun i _=>ks.length - (intOf i).toNat)
   case atStart=>exact ⟨0,rfl,Nat.zero_le _,by rw [List.take_zero,rightArgs],Ext.refl _⟩
   case round =>
    obtain ⟨j,rfl,hj,hra,hE⟩:=hrel
    have HA:=Lib.hid hra
    have KE:=Lib.hid (KE0.out.trans hE)
    have KEW:=Lib.hid hE
    have bk:=(Blk5 (KX1.out.ext hE)).1
    have bks:=(Blk5 (KX1.out.ext hE)).2.2.2.2
    clear hra hE
    by_cases hlt : j < ks.length
    ·obtain ⟨b,o,a',c',e0,hbl,-,p0,p1,p2,p3,p4,hkt⟩:=HKs.out.get j hlt
     subst e0
     replace p0:=KE.out.keep p0
     replace p1:=KE.out.keep p1
     replace p2:=KE.out.keep p2
     replace p3:=KE.out.keep p3
     replace p4:=KE.out.keep p4
     have hbl1:=Nat.lt_of_lt_of_le hbl KE.out.size
     have HT:=Lib.hid hkt
     have hja : j < ak.size:=by have:=H3.out;omega
     clear hkt
     have hnb:=Blk.new wr #[.string ks[j].kind,.bool ks[j].null,.string ks[j].text,.int .i64 ks[j].num,.slice a' ks[j].kids.length c'] 52
     have KE1:=Lib.hid (KE.out.trans (Ext.alloc wr (.cells #[.string ks[j].kind,.bool ks[j].null,.string ks[j].text,.int .i64 ks[j].num,.slice a' ks[j].kids.length c'] 52)))
     obtain ⟨q0,q1,q2,q3,q4⟩:=Blk5 hnb
     have bk1:=(Ext.alloc wr (.cells #[.string ks[j].kind,.bool ks[j].null,.string ks[j].text,.int .i64 ks[j].num,.slice a' ks[j].kids.length c'] 52)).keep bk
     have bks1:=(Ext.alloc wr (.cells #[.string ks[j].kind,.bool ks[j].null,.string ks[j].text,.int .i64 ks[j].num,.slice a' ks[j].kids.length c'] 52)).keep bks
     clear hnb
     go_big_wp2_with fail
     go_region_held3 (fun w'=>w'.cell? ⟨w.heap.size,0,none⟩=some (.string k) /\ w'.cell? ⟨wr.heap.size,0,none⟩=some (.string ks[j].kind) /\ w'.cell? ⟨wr.heap.size,1,none⟩=some (.bool ks[j].null) /\ w'.cell? ⟨wr.heap.size,2,none⟩=some (.string ks[j].text) /\ w'.cell? ⟨wr.heap.size,3,none⟩=some (.int .i64 ks[j].num) /\ w'.cell? ⟨wr.heap.size,4,none⟩=some (.slice a' ks[j].kids.length c')) (go_keep)
      ((go_at_call 41;refine (HI.out j hlt _ (HAL.out j hja) k X a' c' _ (HT.out.mono (KE1.out.trans (Ext.drew _)))).mono ?_;rintro e w3 ⟨⟨bb,rfl,hbb⟩,hE3⟩;have KE3:=Lib.hid ((KE1.out.trans (Ext.drew _)).trans hE3);have HBB:=Lib.hid hbb;have KE3b:=Lib.hid hE3;have g0:=hE3.keep ((Ext.drew _).keep q0);have g1:=hE3.keep ((Ext.drew _).keep q1);have g2:=hE3.keep ((Ext.drew _).keep q2);have g3:=hE3.keep ((Ext.drew _).keep q3);have g4:=hE3.keep ((Ext.drew _).keep q4);have gk:=hE3.keep ((Ext.drew _).keep bk1);clear hE3 hbb))
     cases bb
     ·go_big_wp2_with fail
      go_ret
      exact ⟨⟨false,rfl,fun h=>by cases h⟩,KE3.out⟩
     ·go_big_wp2_with fail
      go_roundw
      case rel =>
       refine ⟨_,_,_,_,⟨j + 1,by go_num,by omega,rightArgs_take _ _ _ _ hlt (by rw [size_toList];exact hja) HA.out ?_,KEW.out.trans (((Ext.alloc wr _).trans (Ext.drew _)).trans KE3b.out)⟩,rfl,rfl,rfl,rfl⟩
       rw [get_toList ak j hja]
       exact HBB.out trivial
      case measure=>simp [intOf];omega
    ·obtain rfl : j=ks.length:=by omega
     rw [List.take_length] at HA
     go_big_wp2_with fail
     go_ret
     refine ⟨⟨_,rfl,fun _=>?_⟩,KE.out⟩
     have e9 : (ks.length == ak.size)=true:=by rw [H3.out];exact beq_self_eq_true _
     rw [HR.out]
     simp only [show ((99 : Int) == 116)=false from rfl,show ((99 : Int) == 110)=false from rfl,show ((99 : Int) == 98)=false from rfl,show ((99 : Int) == 108)=false from rfl,show ((99 : Int) == 109)=false from rfl,show ((99 : Int) == 69)=false from rfl,show ((99 : Int) == 83)=false from rfl,show ((99 : Int) == 101)=false from rfl,show ((99 : Int) == 115)=false from rfl,show ((99 : Int) == 105)=false from rfl,show ((99 : Int) == 99)=true from rfl,show ((99 : Int) == 66)=false from rfl,fitsL,hf,H02.out.1,H02.out.2,e9,HA.out,Bool.false_eq_true,if_false,if_true,Bool.and_true,Bool.not_false,Bool.false_and,Bool.or_false,Bool.or_self]
 ·go_enter Tryz.func41,Tryz.ntmps41
  go_big_wp2_with fail
  go_ret
  exact ⟨⟨false,rfl,fun h=>by cases h⟩,Ext.alloc _ _⟩
theorem right_66 (t : Syn) (of : ByteArray) (ih : ∀ (j : Nat) (hj : j < t.kids.length) (c : Int),c ∈ letters -> ∀ of,RightC c of t.kids[j]) : RightC 66 of t:=by
 intro X a cap w hT
 obtain ⟨k,nl,x,n,ks⟩:=t
 have hs:=hT.sizes
 have hK:=hT.kids
 simp only [synV,skind_mk,snull_mk,stext_mk,snum_mk,skids_mk] at *
 have HI:=Lib.hid ih
 have HR:=Lib.hid (right_mk k nl x n ks 66 of)
 have HKs:=Lib.hid hK.2.2
 have hbx:=Blk.new w #[.string k,.bool nl,.string x,.int .i64 n,.slice a ks.length cap] 52
 have KX:=Lib.hid hbx
 have HAS:=Lib.hid (asked_small k)
 have HAL:=Lib.hid (asked_get k)
 have HAC:=Lib.hid (asked_calls k)
 generalize asked k=ak at *
 clear hT ih hbx
 have hlen:=And.intro hK.1 hK.2.1
 clear hK
 cases nl
 ·cases hf : (k.toList == [66,108,111,99,107,83,116,109,116]) <;> cases h0 : (x.toList == []) <;> cases h2 : (n == 0) <;> cases h3 : ((ks.length : Int) == (ak.size : Int))
  all_goals
   go_enter Tryz.func41,Tryz.ntmps41
   go_big_wp2_with fail
   refine (HAC.out _).mono ?_
   rintro e w1 ⟨rfl,rfl⟩
   go_big_wp2_with fail
   obtain ⟨W0,hW0⟩ : ∃ W0,W0=w.alloc (.cells #[.string k,.bool false,.string x,.int .i64 n,.slice a ks.length cap] 52):=⟨_,rfl⟩
   have KE0 : Hid (Ext w W0):=Lib.hid (by rw [hW0];exact Ext.alloc _ _)
   have KX1 : Hid (Blk W0 w.heap.size #[.string k,.bool false,.string x,.int .i64 n,.slice a ks.length cap] 52):=Lib.hid (by rw [hW0];exact KX.out)
   rw [<- hW0]
   have b5:=Blk5 KX1.out
   have bl5:=KX1.out.lt
   clear hW0
   go_big_wp2_with fail
   first
    | (go_ret
       exact ⟨⟨false,rfl,fun h=>by cases h⟩,KE0.out⟩)
    | skip
  all_goals
   have H3:=Lib.hid (show ks.length=ak.size by have:=eq_of_beq h3;omega)
   have H02:=Lib.hid (And.intro h0 h2)
   clear h0 h2 h3
   go_loopw [202] (fun i wr=>∃ j : Nat,i=.int .i64 j /\ j <= ks.length /\ rightArgs (ks.take j) ak.toList k=true /\ Ext W0 wr) (fun i _=>ks.length - (intOf i).toNat)
   case atStart=>exact ⟨0,rfl,Nat.zero_le _,by rw [List.take_zero,rightArgs],Ext.refl _⟩
   case round =>
    obtain ⟨j,rfl,hj,hra,hE⟩:=hrel
    have HA:=Lib.hid hra
    have KE:=Lib.hid (KE0.out.trans hE)
    have KEW:=Lib.hid hE
    have bk:=(Blk5 (KX1.out.ext hE)).1
    have bks:=(Blk5 (KX1.out.ext hE)).2.2.2.2
    clear hra hE
    by_cases hlt : j < ks.length
    ·obtain ⟨b,o,a',c',e0,hbl,-,p0,p1,p2,p3,p4,hkt⟩:=HKs.out.get j hlt
     subst e0
     replace p0:=KE.out.keep p0
     replace p1:=KE.out.keep p1
     replace p2:=KE.out.keep p2
     replace p3:=KE.out.keep p3
     replace p4:=KE.out.keep p4
     have hbl1:=Nat.lt_of_lt_of_le hbl KE.out.size
     have HT:=Lib.hid hkt
     have hja : j < ak.size:=by have:=H3.out;omega
     clear hkt
     have hnb:=Blk.new wr #[.string ks[j].kind,.bool ks[j].null,.string ks[j].text,.int .i64 ks[j].num,.slice a' ks[j].kids.length c'] 52
     have KE1:=Lib.hid (KE.out.trans (Ext.alloc wr (.cells #[.string ks[j].kind,.bool ks[j].null,.string ks[j].text,.int .i64 ks[j].num,.slice a' ks[j].kids.length c'] 52)))
     obtain ⟨q0,q1,q2,q3,q4⟩:=Blk5 hnb
     have bk1:=(Ext.alloc wr (.cells #[.string ks[j].kind,.bool ks[j].null,.string ks[j].text,.int .i64 ks[j].num,.slice a' ks[j].kids.length c'] 52)).keep bk
     have bks1:=(Ext.alloc wr (.cells #[.string ks[j].kind,.bool ks[j].null,.string ks[j].text,.int .i64 ks[j].num,.slice a' ks[j].kids.length c'] 52)).keep bks
     clear hnb
     go_big_wp2_with fail
     go_region_held3 (fun w'=>w'.cell? ⟨w.heap.size,0,none⟩=some (.string k) /\ w'.cell? ⟨wr.heap.size,0,none⟩=some (.string ks[j].kind) /\ w'.cell? ⟨wr.heap.size,1,none⟩=some (.bool ks[j].null) /\ w'.cell? ⟨wr.heap.size,2,none⟩=some (.string ks[j].text) /\ w'.cell? ⟨wr.heap.size,3,none⟩=some (.int .i64 ks[j].num) /\ w'.cell? ⟨wr.heap.size,4,none⟩=some (.slice a' ks[j].kids.length c')) (go_keep)
      ((go_at_call 41;refine (HI.out j hlt _ (HAL.out j hja) k X a' c' _ (HT.out.mono (KE1.out.trans (Ext.drew _)))).mono ?_;rintro e w3 ⟨⟨bb,rfl,hbb⟩,hE3⟩;have KE3:=Lib.hid ((KE1.out.trans (Ext.drew _)).trans hE3);have HBB:=Lib.hid hbb;have KE3b:=Lib.hid hE3;have g0:=hE3.keep ((Ext.drew _).keep q0);have g1:=hE3.keep ((Ext.drew _).keep q1);have g2:=hE3.keep ((Ext.drew _).keep q2);have g3:=hE3.keep ((Ext.drew _).keep q3);have g4:=hE3.keep ((Ext.drew _).keep q4);have gk:=hE3.keep ((Ext.drew _).keep bk1);clear hE3 hbb))
     cases bb
     ·go_big_wp2_with fail
      go_ret
      exact ⟨⟨false,rfl,fun h=>by cases h⟩,KE3.out⟩
     ·go_big_wp2_with fail
      go_roundw
      case rel =>
       refine ⟨_,_,_,_,⟨j + 1,by go_num,by omega,rightArgs_take _ _ _ _ hlt (by rw [size_toList];exact hja) HA.out ?_,KEW.out.trans (((Ext.alloc wr _).trans (Ext.drew _)).trans KE3b.out)⟩,rfl,rfl,rfl,rfl⟩
       rw [get_toList ak j hja]
       exact HBB.out trivial
      case measure=>simp [intOf];omega
    ·obtain rfl : j=ks.length:=by omega
     rw [List.take_length] at HA
     go_big_wp2_with fail
     go_ret
     refine ⟨⟨_,rfl,fun _=>?_⟩,KE.out⟩
     have e9 : (ks.length == ak.size)=true:=by rw [H3.out];exact beq_self_eq_true _
     rw [HR.out]
     simp only [show ((66 : Int) == 116)=false from rfl,show ((66 : Int) == 110)=false from rfl,show ((66 : Int) == 98)=false from rfl,show ((66 : Int) == 108)=false from rfl,show ((66 : Int) == 109)=false from rfl,show ((66 : Int) == 69)=false from rfl,show ((66 : Int) == 83)=false from rfl,show ((66 : Int) == 101)=false from rfl,show ((66 : Int) == 115)=false from rfl,show ((66 : Int) == 105)=false from rfl,show ((66 : Int) == 99)=false from rfl,show ((66 : Int) == 66)=true from rfl,fitsL,hf,H02.out.1,H02.out.2,e9,HA.out,Bool.false_eq_true,if_false,if_true,Bool.and_true,Bool.not_false,Bool.false_and,Bool.or_false,Bool.or_self]
 ·go_enter Tryz.func41,Tryz.ntmps41
  go_big_wp2_with fail
  go_ret
  exact ⟨⟨false,rfl,fun h=>by cases h⟩,Ext.alloc _ _⟩
theorem right_101 (t : Syn) (of : ByteArray) (ih : ∀ (j : Nat) (hj : j < t.kids.length) (c : Int),c ∈ letters -> ∀ of,RightC c of t.kids[j]) : RightC 101 of t:=by
 intro X a cap w hT
 obtain ⟨k,nl,x,n,ks⟩:=t
 have hs:=hT.sizes
 have hK:=hT.kids
 simp only [synV,skind_mk,snull_mk,stext_mk,snum_mk,skids_mk] at *
 have HI:=Lib.hid ih
 have HR:=Lib.hid (right_mk k nl x n ks 101 of)
 have HKs:=Lib.hid hK.2.2
 have hbx:=Blk.new w #[.string k,.bool nl,.string x,.int .i64 n,.slice a ks.length cap] 52
 have KX:=Lib.hid hbx
 have HAS:=Lib.hid (asked_small k)
 have HAL:=Lib.hid (asked_get k)
 have HAC:=Lib.hid (asked_calls k)
 generalize asked k=ak at *
 clear hT ih hbx
 have hlen:=And.intro hK.1 hK.2.1
 clear hK
 cases nl
 ·cases hf : (expressions.any (fun y=>y.toList == k.toList)) <;> cases h0 : (x.toList == []) <;> cases h2 : (n == 0) <;> cases h3 : ((ks.length : Int) == (ak.size : Int))
  all_goals
   go_enter Tryz.func41,Tryz.ntmps41
   go_big_wp2_with fail
   refine (HAC.out _).mono ?_
   rintro e w1 ⟨rfl,rfl⟩
   go_big_wp2_with fail
   have b0:=(Blk5 KX.out).1
   have KA:=Lib.hid (Ext.alloc w (.cells #[.string k,.bool false,.string x,.int .i64 n,.slice a ks.length cap] 52))
   go_region_held3 (fun w'=>w'.cell? ⟨w.heap.size,0,none⟩=some (.string k)) (go_keep)
    ((first
     | (go_at_call 58;refine (among_calls _ _ _ _ _ HS.out (by decide)).mono ?_;rintro e w2 ⟨rfl,rfl⟩)
     | (go_at_call 71;refine (expressions_calls _).mono ?_;rintro e W0 ⟨a1,c1,rfl,hl,hl',hs1,hE1⟩;have HS:=Lib.hid hs1;have k0:=hE1.keep ((Ext.drew _).keep b0);have KE0:=Lib.hid ((KA.out.trans (Ext.drew _)).trans hE1);have KX1:=Lib.hid ((KX.out.ext (Ext.drew _)).ext hE1);clear hs1 hE1)))
   have b5:=Blk5 KX1.out
   have bl5:=KX1.out.lt
   go_big_wp2_with fail
   first
    | (go_ret
       exact ⟨⟨false,rfl,fun h=>by cases h⟩,KE0.out⟩)
    | skip
  all_goals
   have H3:=Lib.hid (show ks.length=ak.size by have:=eq_of_beq h3;omega)
   have H02:=Lib.hid (And.intro h0 h2)
   clear h0 h2 h3
   go_loopw [202] (fun i wr=>∃ j : Nat,i=.int .i64 j /\ j <= ks.length /\ rightArgs (ks.take j) ak.toList k=true /\ Ext W0 wr) (fun i _=>ks.length - (intOf i).toNat)
   case atStart=>exact ⟨0,rfl,Nat.zero_le _,by rw [List.take_zero,rightArgs],Ext.refl _⟩
   case round =>
    obtain ⟨j,rfl,hj,hra,hE⟩:=hrel
    have HA:=Lib.hid hra
    have KE:=Lib.hid (KE0.out.trans hE)
    have KEW:=Lib.hid hE
    have bk:=(Blk5 (KX1.out.ext hE)).1
    have bks:=(Blk5 (KX1.out.ext hE)).2.2.2.2
    clear hra hE
    by_cases hlt : j < ks.length
    ·obtain ⟨b,o,a',c',e0,hbl,-,p0,p1,p2,p3,p4,hkt⟩:=HKs.out.get j hlt
     subst e0
     replace p0:=KE.out.keep p0
     replace p1:=KE.out.keep p1
     replace p2:=KE.out.keep p2
     replace p3:=KE.out.keep p3
     replace p4:=KE.out.keep p4
     have hbl1:=Nat.lt_of_lt_of_le hbl KE.out.size
     have HT:=Lib.hid hkt
     have hja : j < ak.size:=by have:=H3.out;omega
     clear hkt
     have hnb:=Blk.new wr #[.string ks[j].kind,.bool ks[j].null,.string ks[j].text,.int .i64 ks[j].num,.slice a' ks[j].kids.length c'] 52
     have KE1:=Lib.hid (KE.out.trans (Ext.alloc wr (.cells #[.string ks[j].kind,.bool ks[j].null,.string ks[j].text,.int .i64 ks[j].num,.slice a' ks[j].kids.length c'] 52)))
     obtain ⟨q0,q1,q2,q3,q4⟩:=Blk5 hnb
     have bk1:=(Ext.alloc wr (.cells #[.string ks[j].kind,.bool ks[j].null,.string ks[j].text,.int .i64 ks[j].num,.slice a' ks[j].kids.length c'] 52)).keep bk
     have bks1:=(Ext.alloc wr (.cells #[.string ks[j].kind,.bool ks[j].null,.string ks[j].text,.int .i64 ks[j].num,.slice a' ks[j].kids.length c'] 52)).keep bks
     clear hnb
     go_big_wp2_with fail
     go_region_held3 (fun w'=>w'.cell? ⟨w.heap.size,0,none⟩=some (.string k) /\ w'.cell? ⟨wr.heap.size,0,none⟩=some (.string ks[j].kind) /\ w'.cell? ⟨wr.heap.size,1,none⟩=some (.bool ks[j].null) /\ w'.cell? ⟨wr.heap.size,2,none⟩=some (.string ks[j].text) /\ w'.cell? ⟨wr.heap.size,3,none⟩=some (.int .i64 ks[j].num) /\ w'.cell? ⟨wr.heap.size,4,none⟩=some (.slice a' ks[j].kids.length c')) (go_keep)
      ((go_at_call 41;refine (HI.out j hlt _ (HAL.out j hja) k X a' c' _ (HT.out.mono (KE1.out.trans (Ext.drew _)))).mono ?_;rintro e w3 ⟨⟨bb,rfl,hbb⟩,hE3⟩;have KE3:=Lib.hid ((KE1.out.trans (Ext.drew _)).trans hE3);have HBB:=Lib.hid hbb;have KE3b:=Lib.hid hE3;have g0:=hE3.keep ((Ext.drew _).keep q0);have g1:=hE3.keep ((Ext.drew _).keep q1);have g2:=hE3.keep ((Ext.drew _).keep q2);have g3:=hE3.keep ((Ext.drew _).keep q3);have g4:=hE3.keep ((Ext.drew _).keep q4);have gk:=hE3.keep ((Ext.drew _).keep bk1);clear hE3 hbb))
     cases bb
     ·go_big_wp2_with fail
      go_ret
      exact ⟨⟨false,rfl,fun h=>by cases h⟩,KE3.out⟩
     ·go_big_wp2_with fail
      go_roundw
      case rel =>
       refine ⟨_,_,_,_,⟨j + 1,by go_num,by omega,rightArgs_take _ _ _ _ hlt (by rw [size_toList];exact hja) HA.out ?_,KEW.out.trans (((Ext.alloc wr _).trans (Ext.drew _)).trans KE3b.out)⟩,rfl,rfl,rfl,rfl⟩
       rw [get_toList ak j hja]
       exact HBB.out trivial
      case measure=>simp [intOf];omega
    ·obtain rfl : j=ks.length:=by omega
     rw [List.take_length] at HA
     go_big_wp2_with fail
     go_ret
     refine ⟨⟨_,rfl,fun _=>?_⟩,KE.out⟩
     have e9 : (ks.length == ak.size)=true:=by rw [H3.out];exact beq_self_eq_true _
     rw [HR.out]
     simp only [show ((101 : Int) == 116)=false from rfl,show ((101 : Int) == 110)=false from rfl,show ((101 : Int) == 98)=false from rfl,show ((101 : Int) == 108)=false from rfl,show ((101 : Int) == 109)=false from rfl,show ((101 : Int) == 69)=false from rfl,show ((101 : Int) == 83)=false from rfl,show ((101 : Int) == 101)=true from rfl,show ((101 : Int) == 115)=false from rfl,show ((101 : Int) == 105)=false from rfl,show ((101 : Int) == 99)=false from rfl,show ((101 : Int) == 66)=false from rfl,fitsL,hf,H02.out.1,H02.out.2,e9,HA.out,Bool.false_eq_true,if_false,if_true,Bool.and_true,Bool.not_false,Bool.false_and,Bool.or_false,Bool.or_self]
 ·go_enter Tryz.func41,Tryz.ntmps41
  go_big_wp2_with fail
  go_ret
  exact ⟨⟨false,rfl,fun h=>by cases h⟩,Ext.alloc _ _⟩
theorem right_115 (t : Syn) (of : ByteArray) (ih : ∀ (j : Nat) (hj : j < t.kids.length) (c : Int),c ∈ letters -> ∀ of,RightC c of t.kids[j]) : RightC 115 of t:=by
 intro X a cap w hT
 obtain ⟨k,nl,x,n,ks⟩:=t
 have hs:=hT.sizes
 have hK:=hT.kids
 simp only [synV,skind_mk,snull_mk,stext_mk,snum_mk,skids_mk] at *
 have HI:=Lib.hid ih
 have HR:=Lib.hid (right_mk k nl x n ks 115 of)
 have HKs:=Lib.hid hK.2.2
 have hbx:=Blk.new w #[.string k,.bool nl,.string x,.int .i64 n,.slice a ks.length cap] 52
 have KX:=Lib.hid hbx
 have HAS:=Lib.hid (asked_small k)
 have HAL:=Lib.hid (asked_get k)
 have HAC:=Lib.hid (asked_calls k)
 generalize asked k=ak at *
 clear hT ih hbx
 have hlen:=And.intro hK.1 hK.2.1
 clear hK
 cases nl
 ·cases hf : (statements.any (fun y=>y.toList == k.toList)) <;> cases h0 : (x.toList == []) <;> cases h2 : (n == 0) <;> cases h3 : ((ks.length : Int) == (ak.size : Int))
  all_goals
   go_enter Tryz.func41,Tryz.ntmps41
   go_big_wp2_with fail
   refine (HAC.out _).mono ?_
   rintro e w1 ⟨rfl,rfl⟩
   go_big_wp2_with fail
   have b0:=(Blk5 KX.out).1
   have KA:=Lib.hid (Ext.alloc w (.cells #[.string k,.bool false,.string x,.int .i64 n,.slice a ks.length cap] 52))
   go_region_held3 (fun w'=>w'.cell? ⟨w.heap.size,0,none⟩=some (.string k)) (go_keep)
    ((first
     | (go_at_call 58;refine (among_calls _ _ _ _ _ HS.out (by decide)).mono ?_;rintro e w2 ⟨rfl,rfl⟩)
     | (go_at_call 72;refine (statements_calls _).mono ?_;rintro e W0 ⟨a1,c1,rfl,hl,hl',hs1,hE1⟩;have HS:=Lib.hid hs1;have k0:=hE1.keep ((Ext.drew _).keep b0);have KE0:=Lib.hid ((KA.out.trans (Ext.drew _)).trans hE1);have KX1:=Lib.hid ((KX.out.ext (Ext.drew _)).ext hE1);clear hs1 hE1)))
   have b5:=Blk5 KX1.out
   have bl5:=KX1.out.lt
   go_big_wp2_with fail
   first
    | (go_ret
       exact ⟨⟨false,rfl,fun h=>by cases h⟩,KE0.out⟩)
    | skip
  all_goals
   have H3:=Lib.hid (show ks.length=ak.size by have:=eq_of_beq h3;omega)
   have H02:=Lib.hid (And.intro h0 h2)
   clear h0 h2 h3
   go_loopw [202] (fun i wr=>∃ j : Nat,i=.int .i64 j /\ j <= ks.length /\ rightArgs (ks.take j) ak.toList k=true /\ Ext W0 wr) (fun i _=>ks.length - (intOf i).toNat)
   case atStart=>exact ⟨0,rfl,Nat.zero_le _,by rw [List.take_zero,rightArgs],Ext.refl _⟩
   case round =>
    obtain ⟨j,rfl,hj,hra,hE⟩:=hrel
    have HA:=Lib.hid hra
    have KE:=Lib.hid (KE0.out.trans hE)
    have KEW:=Lib.hid hE
    have bk:=(Blk5 (KX1.out.ext hE)).1
    have bks:=(Blk5 (KX1.out.ext hE)).2.2.2.2
    clear hra hE
    by_cases hlt : j < ks.length
    ·obtain ⟨b,o,a',c',e0,hbl,-,p0,p1,p2,p3,p4,hkt⟩:=HKs.out.get j hlt
     subst e0
     replace p0:=KE.out.keep p0
     replace p1:=KE.out.keep p1
     replace p2:=KE.out.keep p2
     replace p3:=KE.out.keep p3
     replace p4:=KE.out.keep p4
     have hbl1:=Nat.lt_of_lt_of_le hbl KE.out.size
     have HT:=Lib.hid hkt
     have hja : j < ak.size:=by have:=H3.out;omega
     clear hkt
     have hnb:=Blk.new wr #[.string ks[j].kind,.bool ks[j].null,.string ks[j].text,.int .i64 ks[j].num,.slice a' ks[j].kids.length c'] 52
     have KE1:=Lib.hid (KE.out.trans (Ext.alloc wr (.cells #[.string ks[j].kind,.bool ks[j].null,.string ks[j].text,.int .i64 ks[j].num,.slice a' ks[j].kids.length c'] 52)))
     obtain ⟨q0,q1,q2,q3,q4⟩:=Blk5 hnb
     have bk1:=(Ext.alloc wr (.cells #[.string ks[j].kind,.bool ks[j].null,.string ks[j].text,.int .i64 ks[j].num,.slice a' ks[j].kids.length c'] 52)).keep bk
     have bks1:=(Ext.alloc wr (.cells #[.string ks[j].kind,.bool ks[j].null,.string ks[j].text,.int .i64 ks[j].num,.slice a' ks[j].kids.length c'] 52)).keep bks
     clear hnb
     go_big_wp2_with fail
     go_region_held3 (fun w'=>w'.cell? ⟨w.heap.size,0,none⟩=some (.string k) /\ w'.cell? ⟨wr.heap.size,0,none⟩=some (.string ks[j].kind) /\ w'.cell? ⟨wr.heap.size,1,none⟩=some (.bool ks[j].null) /\ w'.cell? ⟨wr.heap.size,2,none⟩=some (.string ks[j].text) /\ w'.cell? ⟨wr.heap.size,3,none⟩=some (.int .i64 ks[j].num) /\ w'.cell? ⟨wr.heap.size,4,none⟩=some (.slice a' ks[j].kids.length c')) (go_keep)
      ((go_at_call 41;refine (HI.out j hlt _ (HAL.out j hja) k X a' c' _ (HT.out.mono (KE1.out.trans (Ext.drew _)))).mono ?_;rintro e w3 ⟨⟨bb,rfl,hbb⟩,hE3⟩;have KE3:=Lib.hid ((KE1.out.trans (Ext.drew _)).trans hE3);have HBB:=Lib.hid hbb;have KE3b:=Lib.hid hE3;have g0:=hE3.keep ((Ext.drew _).keep q0);have g1:=hE3.keep ((Ext.drew _).keep q1);have g2:=hE3.keep ((Ext.drew _).keep q2);have g3:=hE3.keep ((Ext.drew _).keep q3);have g4:=hE3.keep ((Ext.drew _).keep q4);have gk:=hE3.keep ((Ext.drew _).keep bk1);clear hE3 hbb))
     cases bb
     ·go_big_wp2_with fail
      go_ret
      exact ⟨⟨false,rfl,fun h=>by cases h⟩,KE3.out⟩
     ·go_big_wp2_with fail
      go_roundw
      case rel =>
       refine ⟨_,_,_,_,⟨j + 1,by go_num,by omega,rightArgs_take _ _ _ _ hlt (by rw [size_toList];exact hja) HA.out ?_,KEW.out.trans (((Ext.alloc wr _).trans (Ext.drew _)).trans KE3b.out)⟩,rfl,rfl,rfl,rfl⟩
       rw [get_toList ak j hja]
       exact HBB.out trivial
      case measure=>simp [intOf];omega
    ·obtain rfl : j=ks.length:=by omega
     rw [List.take_length] at HA
     go_big_wp2_with fail
     go_ret
     refine ⟨⟨_,rfl,fun _=>?_⟩,KE.out⟩
     have e9 : (ks.length == ak.size)=true:=by rw [H3.out];exact beq_self_eq_true _
     rw [HR.out]
     simp only [show ((115 : Int) == 116)=false from rfl,show ((115 : Int) == 110)=false from rfl,show ((115 : Int) == 98)=false from rfl,show ((115 : Int) == 108)=false from rfl,show ((115 : Int) == 109)=false from rfl,show ((115 : Int) == 69)=false from rfl,show ((115 : Int) == 83)=false from rfl,show ((115 : Int) == 101)=false from rfl,show ((115 : Int) == 115)=true from rfl,show ((115 : Int) == 105)=false from rfl,show ((115 : Int) == 99)=false from rfl,show ((115 : Int) == 66)=false from rfl,fitsL,hf,H02.out.1,H02.out.2,e9,HA.out,Bool.false_eq_true,if_false,if_true,Bool.and_true,Bool.not_false,Bool.false_and,Bool.or_false,Bool.or_self]
 ·go_enter Tryz.func41,Tryz.ntmps41
  go_big_wp2_with fail
  go_ret
  exact ⟨⟨false,rfl,fun h=>by cases h⟩,Ext.alloc _ _⟩
end Go.Proofs.YtigalkobmfbdaaaGreatDoor
