/- Is a part of a syntax right? Lists and nodes. -/
import Derived.Test.YtigalkobmfbdaaaGreatDoorMix2g
set_option linter.unusedVariables false
set_option linter.unusedSimpArgs false
set_option maxRecDepth 100000
set_option maxHeartbeats 4000000
namespace Go.Proofs.YtigalkobmfbdaaaGreatDoor
open Go.RowKit
theorem rightAll_take (ks : List Syn) (c : Int) (j : Nat) (h : j < ks.length) (h0 : rightAll (ks.take j) c=true) (h1 : right ks[j] c ⟨#[]⟩=true) : rightAll (ks.take (j + 1)) c=true:=by
 induction ks generalizing j with
 | nil=>simp at h
 | cons t ts ih =>
  cases j with
  | zero=>simp only [List.take_succ_cons,List.take_zero,rightAll,Bool.and_true];exact h1
  | succ j =>
   simp only [List.take_succ_cons,rightAll,Bool.and_eq_true] at h0 ⊢
   exact ⟨h0.1,ih j (by simpa using h) h0.2 (by simpa using h1)⟩
theorem right_l (t : Syn) (of : ByteArray) (ih : ∀ (j : Nat) (hj : j < t.kids.length),RightC 101 ⟨#[]⟩ t.kids[j]) : RightC 108 of t:=by
 intro X a cap w hT
 obtain ⟨k,nl,x,n,ks⟩:=t
 have hs:=hT.sizes
 have hK:=hT.kids
 simp only [synV,skind_mk,snull_mk,stext_mk,snum_mk,skids_mk] at *
 have HI:=Lib.hid ih
 have HR:=Lib.hid (right_mk k nl x n ks 108 of)
 have HKs:=Lib.hid hK.2.2
 clear hT ih
 have hlen:=And.intro hK.1 hK.2.1
 clear hK
 cases h1 : (k.toList == [91,93,69,120,112,114]) <;> cases h0 : (x.toList == []) <;> cases h2 : (n == 0)
 all_goals
  have H012:=Lib.hid (And.intro h0 (And.intro h1 h2))
  cases nl
  ·go_enter Tryz.func41,Tryz.ntmps41
   go_big_wp2_with fail
   first
    | (go_ret
       exact ⟨⟨false,rfl,fun h=>by cases h⟩,Ext.alloc _ _⟩)
    | skip
   all_goals
    clear h0 h1 h2 hs
    go_loopw [127] (fun i wr=>∃ j : Nat,i=.int .i64 j /\ j <= ks.length /\ rightAll (ks.take j) 101=true /\ Ext w wr) (fun i _=>ks.length - (intOf i).toNat)
    case atStart=>exact ⟨0,rfl,Nat.zero_le _,rfl,Ext.alloc _ _⟩
    case round =>
     obtain ⟨j,rfl,hj,hra,hE⟩:=hrel
     have HA:=Lib.hid hra
     have KE:=Lib.hid hE
     clear hra hE
     by_cases hlt : j < ks.length
     ·obtain ⟨b,o,a',c',e0,hbl,-,p0,p1,p2,p3,p4,hkt⟩:=HKs.out.get j hlt
      subst e0
      replace p0:=KE.out.keep p0
      replace p1:=KE.out.keep p1
      replace p2:=KE.out.keep p2
      replace p3:=KE.out.keep p3
      replace p4:=KE.out.keep p4
      have hbl1:=Nat.lt_of_lt_of_le hbl KE.out.size
      have HT:=Lib.hid hkt
      clear hkt
      go_big_wp2_with fail
      refine (HI.out j hlt X a' c' _ (HT.out.mono (KE.out.trans (Ext.alloc _ _)))).mono ?_
      rintro e w3 ⟨⟨bb,rfl,hbb⟩,hE3⟩
      have KE3:=Lib.hid ((KE.out.trans (Ext.alloc _ _)).trans hE3)
      have HBB:=Lib.hid hbb
      clear hE3 hbb
      cases bb
      ·go_big_wp2_with fail
       go_ret
       exact ⟨⟨false,rfl,fun h=>by cases h⟩,KE3.out⟩
      ·go_big_wp2_with fail
       exact ⟨⟨j + 1,by go_num,by omega,rightAll_take _ _ _ hlt HA.out (HBB.out trivial),KE3.out⟩,by simp [intOf];omega⟩
     ·obtain rfl : j=ks.length:=by omega
      rw [List.take_length] at HA
      go_big_wp2_with fail
      go_ret
      refine ⟨⟨_,rfl,fun _=>?_⟩,KE.out⟩
      rw [HR.out]
      simp only [H012.out.1,H012.out.2.1,H012.out.2.2,HA.out,show ((108 : Int) == 116)=false from rfl,show ((108 : Int) == 110)=false from rfl,show ((108 : Int) == 98)=false from rfl,show ((108 : Int) == 108)=true from rfl,Bool.false_eq_true,if_false,if_true,Bool.and_true,Bool.not_false,Bool.true_or]
  ·cases ks with
   | cons u us =>
    have hpos : (0 : Int) < ((u :: us).length : Int):=by simp only [List.length_cons];omega
    clear HI HR HKs
    generalize (u :: us).length=m at *
    go_enter Tryz.func41,Tryz.ntmps41
    go_big_wp2_with fail
    go_ret
    exact ⟨⟨false,rfl,fun h=>by cases h⟩,Ext.alloc _ _⟩
   | nil =>
    simp only [List.length_nil] at *
    go_enter Tryz.func41,Tryz.ntmps41
    go_big_wp2_with fail
    first
     | (go_ret
        exact ⟨⟨false,rfl,fun h=>by cases h⟩,Ext.alloc _ _⟩)
     | skip
    all_goals
     go_loopw [127] (fun i wr=>i=.int .i64 0 /\ Ext w wr) (fun _ _=>0)
     case atStart=>exact ⟨rfl,Ext.alloc _ _⟩
     case round =>
      obtain ⟨rfl,hE⟩:=hrel
      have KE:=Lib.hid hE
      clear hE
      go_big_wp2_with fail
      go_ret
      refine ⟨⟨_,rfl,fun _=>?_⟩,KE.out⟩
      rw [HR.out]
      simp only [H012.out.1,H012.out.2.1,H012.out.2.2,show ((108 : Int) == 116)=false from rfl,show ((108 : Int) == 110)=false from rfl,show ((108 : Int) == 98)=false from rfl,show ((108 : Int) == 108)=true from rfl,Bool.false_eq_true,if_false,if_true,Bool.and_true,rightAll]
      rfl
theorem right_m (t : Syn) (of : ByteArray) (ih : ∀ (j : Nat) (hj : j < t.kids.length),RightC 115 ⟨#[]⟩ t.kids[j]) : RightC 109 of t:=by
 intro X a cap w hT
 obtain ⟨k,nl,x,n,ks⟩:=t
 have hs:=hT.sizes
 have hK:=hT.kids
 simp only [synV,skind_mk,snull_mk,stext_mk,snum_mk,skids_mk] at *
 have HI:=Lib.hid ih
 have HR:=Lib.hid (right_mk k nl x n ks 109 of)
 have HKs:=Lib.hid hK.2.2
 clear hT ih
 have hlen:=And.intro hK.1 hK.2.1
 clear hK
 cases h1 : (k.toList == [91,93,83,116,109,116]) <;> cases h0 : (x.toList == []) <;> cases h2 : (n == 0)
 all_goals
  have H012:=Lib.hid (And.intro h0 (And.intro h1 h2))
  cases nl
  ·go_enter Tryz.func41,Tryz.ntmps41
   go_big_wp2_with fail
   first
    | (go_ret
       exact ⟨⟨false,rfl,fun h=>by cases h⟩,Ext.alloc _ _⟩)
    | skip
   all_goals
    clear h0 h1 h2 hs
    go_loopw [127] (fun i wr=>∃ j : Nat,i=.int .i64 j /\ j <= ks.length /\ rightAll (ks.take j) 115=true /\ Ext w wr) (fun i _=>ks.length - (intOf i).toNat)
    case atStart=>exact ⟨0,rfl,Nat.zero_le _,rfl,Ext.alloc _ _⟩
    case round =>
     obtain ⟨j,rfl,hj,hra,hE⟩:=hrel
     have HA:=Lib.hid hra
     have KE:=Lib.hid hE
     clear hra hE
     by_cases hlt : j < ks.length
     ·obtain ⟨b,o,a',c',e0,hbl,-,p0,p1,p2,p3,p4,hkt⟩:=HKs.out.get j hlt
      subst e0
      replace p0:=KE.out.keep p0
      replace p1:=KE.out.keep p1
      replace p2:=KE.out.keep p2
      replace p3:=KE.out.keep p3
      replace p4:=KE.out.keep p4
      have hbl1:=Nat.lt_of_lt_of_le hbl KE.out.size
      have HT:=Lib.hid hkt
      clear hkt
      go_big_wp2_with fail
      refine (HI.out j hlt X a' c' _ (HT.out.mono (KE.out.trans (Ext.alloc _ _)))).mono ?_
      rintro e w3 ⟨⟨bb,rfl,hbb⟩,hE3⟩
      have KE3:=Lib.hid ((KE.out.trans (Ext.alloc _ _)).trans hE3)
      have HBB:=Lib.hid hbb
      clear hE3 hbb
      cases bb
      ·go_big_wp2_with fail
       go_ret
       exact ⟨⟨false,rfl,fun h=>by cases h⟩,KE3.out⟩
      ·go_big_wp2_with fail
       exact ⟨⟨j + 1,by go_num,by omega,rightAll_take _ _ _ hlt HA.out (HBB.out trivial),KE3.out⟩,by simp [intOf];omega⟩
     ·obtain rfl : j=ks.length:=by omega
      rw [List.take_length] at HA
      go_big_wp2_with fail
      go_ret
      refine ⟨⟨_,rfl,fun _=>?_⟩,KE.out⟩
      rw [HR.out]
      simp only [H012.out.1,H012.out.2.1,H012.out.2.2,HA.out,show ((109 : Int) == 116)=false from rfl,show ((109 : Int) == 110)=false from rfl,show ((109 : Int) == 98)=false from rfl,show ((109 : Int) == 108)=false from rfl,show ((109 : Int) == 109)=true from rfl,Bool.false_eq_true,if_false,if_true,Bool.and_true,Bool.not_false,Bool.true_or]
  ·cases ks with
   | cons u us =>
    have hpos : (0 : Int) < ((u :: us).length : Int):=by simp only [List.length_cons];omega
    clear HI HR HKs
    generalize (u :: us).length=m at *
    go_enter Tryz.func41,Tryz.ntmps41
    go_big_wp2_with fail
    go_ret
    exact ⟨⟨false,rfl,fun h=>by cases h⟩,Ext.alloc _ _⟩
   | nil =>
    simp only [List.length_nil] at *
    go_enter Tryz.func41,Tryz.ntmps41
    go_big_wp2_with fail
    first
     | (go_ret
        exact ⟨⟨false,rfl,fun h=>by cases h⟩,Ext.alloc _ _⟩)
     | skip
    all_goals
     go_loopw [127] (fun i wr=>i=.int .i64 0 /\ Ext w wr) (fun _ _=>0)
     case atStart=>exact ⟨rfl,Ext.alloc _ _⟩
     case round =>
      obtain ⟨rfl,hE⟩:=hrel
      have KE:=Lib.hid hE
      clear hE
      go_big_wp2_with fail
      go_ret
      refine ⟨⟨_,rfl,fun _=>?_⟩,KE.out⟩
      rw [HR.out]
      simp only [H012.out.1,H012.out.2.1,H012.out.2.2,show ((109 : Int) == 116)=false from rfl,show ((109 : Int) == 110)=false from rfl,show ((109 : Int) == 98)=false from rfl,show ((109 : Int) == 108)=false from rfl,show ((109 : Int) == 109)=true from rfl,Bool.false_eq_true,if_false,if_true,Bool.and_true,rightAll]
      rfl
end Go.Proofs.YtigalkobmfbdaaaGreatDoor
