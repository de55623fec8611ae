/- The thin package's part: all letters. -/
import Derived.Test.YtigalkobmfbdaaaGreatDoorMix2i
import Derived.Test.YtigalkobmfbdaaaGreatDoorSyn4Z2
set_option linter.unusedVariables false
set_option linter.unusedSimpArgs false
set_option maxRecDepth 100000
set_option maxHeartbeats 4000000
namespace Go.Proofs.YtigalkobmfbdaaaGreatDoor
open Go.RowKit
theorem part_null {k x : ByteArray} {n : Int} (hk : k=⟨#[91,93,69,120,112,114]⟩ \/ k=⟨#[91,93,83,116,109,116]⟩) : PartC k (.mk k true x n []):=by
 intro X a c dp m lb w0 w hT hE0 hlb hB hd0 hd hc hm
 rw [countS_mk,depthS_mk] at *
 simp only [countSs,depthSs] at *
 simp only [synV,skind_mk,snull_mk,stext_mk,snum_mk,skids_mk,List.length_nil] at *
 have c0 : w.cell? ⟨lb,0,none⟩=some (.int .i64 m):=by rw [hB.cell];rfl
 have f0:=hB.frozen 0
 have lt0:=hB.lt
 have hd30 : ¬ (30 : Int) < dp:=by omega
 have hm0 : ¬ m - 1 < 0:=by omega
 have g1 : (k.toList == [])=false:=by rcases hk with rfl | rfl <;> decide +kernel
 have g2 : 0 < k.size:=by rcases hk with rfl | rfl <;> decide
 have g3' : ∀ h : 0 < k.size,((k[0].toNat : Int) == 42)=false:=by rcases hk with rfl | rfl <;> decide +kernel
 have g3:=g3' g2
 clear g3'
 have g4 : (2 : Int) < (k.size : Int):=by rcases hk with rfl | rfl <;> decide
 have g5 : ((k.extract 0 2).toList == [91,93])=true:=by rcases hk with rfl | rfl <;> decide +kernel
 have g6:=beq_self_eq_true k.toList
 have g7:=iasked_small k
 have HC:=Lib.hid (iasked_calls k)
 have HK:=Lib.hid hk
 generalize iasked k=ik at *
 clear hk
 go_enter Tryz.func62,Tryz.ntmps62
 go_big_wp2_with fail
 obtain ⟨W,hW⟩ : ∃ W,W=((w.setCell ⟨lb,0,none⟩ (.int .i64 (m - 1))).alloc (.cells #[.string k,.bool true,.string x,.int .i64 n,.slice a 0 c] 52)).alloc (.cells #[.string k,.bool true,.string x,.int .i64 n,.slice none 0 0] 145):=⟨_,rfl⟩
 have KB : Hid (Blk W lb #[.int .i64 (m - 1)] 3):=Lib.hid (by rw [hW];exact ((hB.set 0 _).ext (Ext.alloc _ _)).ext (Ext.alloc _ _))
 have KX : Hid (Blk W w.heap.size #[.string k,.bool true,.string x,.int .i64 n,.slice a 0 c] 52):=Lib.hid (by rw [hW];have:=Blk.new (w.setCell ⟨lb,0,none⟩ (.int .i64 (m - 1))) #[.string k,.bool true,.string x,.int .i64 n,.slice a 0 c] 52;rw [World.size_setCell] at this;exact this.ext (Ext.alloc _ _))
 have KO : Hid (Blk W (w.heap.size + 1) #[.string k,.bool true,.string x,.int .i64 n,.slice none 0 0] 145):=Lib.hid (by rw [hW];have:=Blk.second (w.setCell ⟨lb,0,none⟩ (.int .i64 (m - 1))) (.cells #[.string k,.bool true,.string x,.int .i64 n,.slice a 0 c] 52) #[.string k,.bool true,.string x,.int .i64 n,.slice none 0 0] 145;rwa [World.size_setCell] at this)
 have KE : Hid (ExtM (·=lb) w W):=Lib.hid (by rw [hW];exact (((ExtM.refl (·=lb) w).setCell (p:=⟨lb,0,none⟩) (.inl rfl) _).ext (Ext.alloc _ _)).ext (Ext.alloc _ _))
 rw [<- hW]
 clear hW hB c0 f0 lt0
 refine (HC.out _).mono ?_
 rintro e w1 ⟨rfl,rfl⟩
 go_big_wp2_with fail
 refine (words_calls ik (by omega) _).mono ?_
 rintro e w1 ⟨⟨wa,wc,rfl,hwc,hws⟩,hE1⟩
 have hbx:=KX.out.ext hE1
 have b5:=Blk5 hbx
 have bl:=hbx.lt
 have KF:=Lib.hid (And.intro (KB.out.ext hE1) (And.intro (KO.out.ext hE1) (KE.out.ext hE1)))
 clear hE1 hbx hws hwc
 go_big_wp2_with fail
 go_loopw [104] (fun i wr=>i=.int .i64 0 /\ wr=w1) (fun _ _=>0)
 case atStart=>exact ⟨rfl,rfl⟩
 case round =>
  obtain ⟨rfl,rfl⟩:=hrel
  go_big_wp2_with fail
  go_ret2
  refine ⟨⟨.pointer (some ⟨w.heap.size + 1,0,none⟩),rfl,?_⟩,?_,KF.out.2.2⟩
  ·exact ptr_of_blk (ks:=[]) (Nat.le_succ _) KF.out.2.1 (Nat.le_refl _) (by rw [PtrsIn];trivial) (by intro e;rw [e] at g1;cases g1)
  ·have e : m - ((0 + 1 : Nat) : Int)=m - 1:=by omega
   rw [e]
   exact KF.out.1
theorem rightArgs_get : ∀ (ks : List Syn) (l : List UInt8) (k : ByteArray),rightArgs ks l k=true -> ∀ (j : Nat) (hj : j < ks.length) (hl : j < l.length),right ks[j] (l[j].toNat : Int) k=true
 | t :: ts,c :: cs,k,h,0,_,_=>by rw [rightArgs,Bool.and_eq_true] at h;exact h.1
 | t :: ts,c :: cs,k,h,j + 1,hj,hl=>by
  rw [rightArgs,Bool.and_eq_true] at h
  simpa using rightArgs_get ts cs k h.2 j (by simpa using hj) (by simpa using hl)
theorem rightAll_get : ∀ (ks : List Syn) (c : Int),rightAll ks c=true -> ∀ (j : Nat) (hj : j < ks.length),right ks[j] c ⟨#[]⟩=true
 | t :: ts,c,h,0,_=>by rw [rightAll,Bool.and_eq_true] at h;exact h.1
 | t :: ts,c,h,j + 1,hj=>by
  rw [rightAll,Bool.and_eq_true] at h
  simpa using rightAll_get ts c h.2 j (by simpa using hj)
def KindOK (k : ByteArray) : Prop:=(k.toList == [])=false /\ ((iasked k).toList == [])=false /\ asked k ≠ ⟨#[]⟩
theorem kind_ok : ∀ k ∈ expressions ++ statements,KindOK k:=by
 have h : ∀ k ∈ expressions ++ statements,(k.toList == [])=false /\ ((iasked k).toList == [])=false /\ ((asked k).toList == [])=false:=by decide +kernel
 intro k hk
 obtain ⟨h1,h2,h3⟩:=h k hk
 exact ⟨h1,h2,fun e=>by rw [e] at h3;simp [toList_mk] at h3⟩
theorem what_expr {k : ByteArray} (hk : k ∈ expressions) : WhatOK ⟨#[101,120,112,114]⟩ k :=
 ⟨by decide +kernel,by decide,by decide +kernel,by decide,by decide +kernel,by decide +kernel,by decide +kernel,by decide +kernel,by decide +kernel,is_expr hk⟩
theorem what_stmt {k : ByteArray} (hk : k ∈ statements) : WhatOK ⟨#[115,116,109,116]⟩ k :=
 ⟨by decide +kernel,by decide,by decide +kernel,by decide,by decide +kernel,by decide +kernel,by decide +kernel,by decide +kernel,by decide +kernel,is_stmt hk⟩
theorem what_self : ∀ k ∈ expressions ++ statements,WhatOK k k:=by
 have h : ∀ k ∈ expressions ++ statements,(k.toList == [])=false /\ 0 < k.size /\ (∀ h : 0 < k.size,((k[0].toNat : Int) == 42)=false) /\ (2 : Int) < (k.size : Int) /\ ((k.extract 0 2).toList == [91,93])=false /\ (k.toList == [115,116,114,105,110,103])=false /\ (k.toList == [84,111,107,101,110])=false /\ (k.toList == [67,104,97,110,68,105,114])=false /\ (k.toList == [98,111,111,108])=false /\ (k.toList == [101,120,112,114])=false /\ (k.toList == [115,116,109,116])=false:=by decide +kernel
 intro k hk
 obtain ⟨h1,h2,h3,h4,h5,h6,h7,h8,h9,h10,h11⟩:=h k hk
 exact ⟨h1,h2,h3,h4,h5,h6,h7,h8,h9,is_same k h10 h11⟩
theorem ext_star : (⟨#[42,73,100,101,110,116]⟩ : ByteArray).extract 1 (⟨#[42,73,100,101,110,116]⟩ : ByteArray).size=⟨#[73,100,101,110,116]⟩ /\ (⟨#[42,67,97,108,108,69,120,112,114]⟩ : ByteArray).extract 1 (⟨#[42,67,97,108,108,69,120,112,114]⟩ : ByteArray).size=⟨#[67,97,108,108,69,120,112,114]⟩ /\ (⟨#[42,66,108,111,99,107,83,116,109,116]⟩ : ByteArray).extract 1 (⟨#[42,66,108,111,99,107,83,116,109,116]⟩ : ByteArray).size=⟨#[66,108,111,99,107,83,116,109,116]⟩:=by decide +kernel
theorem star_ident : StarOK ⟨#[42,73,100,101,110,116]⟩ ⟨#[73,100,101,110,116]⟩ :=
 ⟨by decide +kernel,by decide,by decide +kernel,by decide,by decide +kernel,by decide +kernel,by decide +kernel,by decide +kernel,by decide +kernel,fun w=>by rw [ext_star.1];exact is_same _ (by decide +kernel) (by decide +kernel) w⟩
theorem star_call : StarOK ⟨#[42,67,97,108,108,69,120,112,114]⟩ ⟨#[67,97,108,108,69,120,112,114]⟩ :=
 ⟨by decide +kernel,by decide,by decide +kernel,by decide,by decide +kernel,by decide +kernel,by decide +kernel,by decide +kernel,by decide +kernel,fun w=>by rw [ext_star.2.1];exact is_same _ (by decide +kernel) (by decide +kernel) w⟩
theorem star_block : StarOK ⟨#[42,66,108,111,99,107,83,116,109,116]⟩ ⟨#[66,108,111,99,107,83,116,109,116]⟩ :=
 ⟨by decide +kernel,by decide,by decide +kernel,by decide,by decide +kernel,by decide +kernel,by decide +kernel,by decide +kernel,by decide +kernel,fun w=>by rw [ext_star.2.2];exact is_same _ (by decide +kernel) (by decide +kernel) w⟩
theorem kids_ok {k : ByteArray} {ks : List Syn} (hk : KindOK k) (hl : (ks.length == (asked k).size)=true) (ha : rightArgs ks (asked k).toList k=true) (ih : ∀ (j : Nat) (hj : j < ks.length) (c : Int),c ∈ letters -> ∀ of,right ks[j] c of=true -> PartC (whatOf c) ks[j]) :
  ks.length=(words (iasked k)).length /\ ∀ (j : Nat) (hj : j < ks.length) (hw : j < (words (iasked k)).length),PartC (words (iasked k))[j] ks[j]:=by
 have hw:=words_of hk.2.2
 have hl' : ks.length=(asked k).size:=eq_of_beq hl
 refine ⟨by rw [hw,List.length_map,size_toList];exact hl',fun j hj hjw=>?_⟩
 have hjl : j < (asked k).toList.length:=by rw [size_toList];omega
 have e : (words (iasked k))[j]=whatOf ((asked k).toList[j].toNat : Int):=by simp only [hw,List.getElem_map]
 rw [e]
 exact ih j hj _ (asked_letters k _ (List.getElem_mem hjl)) k (rightArgs_get ks _ k ha j hj hjl)
end Go.Proofs.YtigalkobmfbdaaaGreatDoor
set_option maxRecDepth 100000
set_option maxHeartbeats 4000000
namespace Go.Proofs.YtigalkobmfbdaaaGreatDoor
open Go.RowKit
theorem right_low_69 (k : ByteArray) (nl : Bool) (x : ByteArray) (n : Int) (ks : List Syn) (of : ByteArray) (h : (k.toList == [])=false) : right (.mk k nl x n ks) 69 of=right (.mk k nl x n ks) 101 of:=by
 rw [right_mk,right_mk,h]
 simp only [show ((69 : Int) == 116)=false from rfl,show ((69 : Int) == 110)=false from rfl,show ((69 : Int) == 98)=false from rfl,show ((69 : Int) == 108)=false from rfl,show ((69 : Int) == 109)=false from rfl,show ((101 : Int) == 116)=false from rfl,show ((101 : Int) == 110)=false from rfl,show ((101 : Int) == 98)=false from rfl,show ((101 : Int) == 108)=false from rfl,show ((101 : Int) == 109)=false from rfl,show ((101 : Int) == 69)=false from rfl,show ((101 : Int) == 83)=false from rfl,show ((69 : Int) == 69)=true from rfl,Bool.and_false,Bool.false_eq_true,if_false,if_true]
theorem right_69 (t : Syn) (of : ByteArray) (hlow : RightC 101 of t) : RightC 69 of t:=by
 intro X a cap w hT
 have HT:=Lib.hid hT
 have HL:=Lib.hid hlow
 obtain ⟨k,nl,x,n,ks⟩:=t
 have hs:=hT.sizes
 have hK:=hT.kids
 simp only [synV,skind_mk,snull_mk,stext_mk,snum_mk,skids_mk] at hs hK ⊢
 have HR:=Lib.hid (right_mk k nl x n ks 69 of)
 have HE:=Lib.hid (right_low_69 k nl x n ks of)
 have hlen:=And.intro hK.1 hK.2.1
 clear hT hK hlow
 cases nl
 ·cases h1 : (k.toList == [])
  ·cases h0 : (x.toList == []) <;> cases h2 : (n == 0)
   all_goals
    have H1:=Lib.hid h1
    go_enter Tryz.func41,Tryz.ntmps41
    go_big_wp2_with fail
    refine (HL.out X a cap _ (HT.out.mono (Ext.alloc _ _))).mono ?_
    rintro e w1 ⟨⟨bb,rfl,hbb⟩,hE1⟩
    have HBB:=Lib.hid hbb
    have KE:=Lib.hid ((Ext.alloc _ _).trans hE1)
    clear hbb hE1
    go_big_wp2_with fail
    go_ret
    exact ⟨⟨bb,rfl,fun h=>by rw [HE.out H1.out];exact HBB.out h⟩,KE.out⟩
  ·cases h0 : (x.toList == []) <;> cases h2 : (n == 0) <;> cases h3 : ((ks.length : Int) == 0)
   all_goals
    have H1:=Lib.hid (And.intro h1 (And.intro h0 (And.intro h2 h3)))
    go_enter Tryz.func41,Tryz.ntmps41
    go_big_wp2_with fail
    go_ret
    refine ⟨⟨_,rfl,fun h=>?_⟩,Ext.alloc _ _⟩
    first
     | (cases h;done)
     | (have h3' : (ks.length == 0)=true:=by simpa using H1.out.2.2.2
        rw [HR.out,H1.out.1,H1.out.2.1,H1.out.2.2.1,h3']
        rfl)
 ·go_enter Tryz.func41,Tryz.ntmps41
  go_big_wp2_with fail
  go_ret
  exact ⟨⟨false,rfl,fun h=>by cases h⟩,Ext.alloc _ _⟩
theorem right_low_83 (k : ByteArray) (nl : Bool) (x : ByteArray) (n : Int) (ks : List Syn) (of : ByteArray) (h : (k.toList == [])=false) : right (.mk k nl x n ks) 83 of=right (.mk k nl x n ks) 115 of:=by
 rw [right_mk,right_mk,h]
 simp only [show ((83 : Int) == 116)=false from rfl,show ((83 : Int) == 110)=false from rfl,show ((83 : Int) == 98)=false from rfl,show ((83 : Int) == 108)=false from rfl,show ((83 : Int) == 109)=false from rfl,show ((115 : Int) == 116)=false from rfl,show ((115 : Int) == 110)=false from rfl,show ((115 : Int) == 98)=false from rfl,show ((115 : Int) == 108)=false from rfl,show ((115 : Int) == 109)=false from rfl,show ((115 : Int) == 69)=false from rfl,show ((115 : Int) == 83)=false from rfl,show ((83 : Int) == 69)=false from rfl,show ((83 : Int) == 83)=true from rfl,Bool.and_false,Bool.false_eq_true,if_false,if_true]
theorem right_83 (t : Syn) (of : ByteArray) (hlow : RightC 115 of t) : RightC 83 of t:=by
 intro X a cap w hT
 have HT:=Lib.hid hT
 have HL:=Lib.hid hlow
 obtain ⟨k,nl,x,n,ks⟩:=t
 have hs:=hT.sizes
 have hK:=hT.kids
 simp only [synV,skind_mk,snull_mk,stext_mk,snum_mk,skids_mk] at hs hK ⊢
 have HR:=Lib.hid (right_mk k nl x n ks 83 of)
 have HE:=Lib.hid (right_low_83 k nl x n ks of)
 have hlen:=And.intro hK.1 hK.2.1
 clear hT hK hlow
 cases nl
 ·cases h1 : (k.toList == [])
  ·cases h0 : (x.toList == []) <;> cases h2 : (n == 0)
   all_goals
    have H1:=Lib.hid h1
    go_enter Tryz.func41,Tryz.ntmps41
    go_big_wp2_with fail
    refine (HL.out X a cap _ (HT.out.mono (Ext.alloc _ _))).mono ?_
    rintro e w1 ⟨⟨bb,rfl,hbb⟩,hE1⟩
    have HBB:=Lib.hid hbb
    have KE:=Lib.hid ((Ext.alloc _ _).trans hE1)
    clear hbb hE1
    go_big_wp2_with fail
    go_ret
    exact ⟨⟨bb,rfl,fun h=>by rw [HE.out H1.out];exact HBB.out h⟩,KE.out⟩
  ·cases h0 : (x.toList == []) <;> cases h2 : (n == 0) <;> cases h3 : ((ks.length : Int) == 0)
   all_goals
    have H1:=Lib.hid (And.intro h1 (And.intro h0 (And.intro h2 h3)))
    go_enter Tryz.func41,Tryz.ntmps41
    go_big_wp2_with fail
    go_ret
    refine ⟨⟨_,rfl,fun h=>?_⟩,Ext.alloc _ _⟩
    first
     | (cases h;done)
     | (have h3' : (ks.length == 0)=true:=by simpa using H1.out.2.2.2
        rw [HR.out,H1.out.1,H1.out.2.1,H1.out.2.2.1,h3']
        rfl)
 ·go_enter Tryz.func41,Tryz.ntmps41
  go_big_wp2_with fail
  go_ret
  exact ⟨⟨false,rfl,fun h=>by cases h⟩,Ext.alloc _ _⟩
theorem right_all (t : Syn) : ∀ c ∈ letters,∀ of,RightC c of t:=by
 induction t using Syn.ind with | h t ih=>?_
 intro c hc of
 have h101:=right_101 t of ih
 have h115:=right_115 t of ih
 simp only [letters,List.mem_cons,List.not_mem_nil,or_false] at hc
 rcases hc with rfl | rfl | rfl | rfl | rfl | rfl | rfl | rfl | rfl | rfl | rfl | rfl
 ·exact right_t t of
 ·exact right_n t of
 ·exact right_b t of
 ·exact right_l t of fun j hj=>ih j hj 101 (by decide) _
 ·exact right_m t of fun j hj=>ih j hj 115 (by decide) _
 ·exact right_69 t of h101
 ·exact right_83 t of h115
 ·exact h101
 ·exact h115
 ·exact right_105 t of ih
 ·exact right_99 t of ih
 ·exact right_66 t of ih
end Go.Proofs.YtigalkobmfbdaaaGreatDoor
namespace Go.Proofs.YtigalkobmfbdaaaGreatDoor
open Go.RowKit
theorem rs_t {k : ByteArray} {nl : Bool} {x : ByteArray} {n : Int} {ks : List Syn} {of : ByteArray} (h : right (.mk k nl x n ks) 116 of=true) : nl=false /\ (k.toList == [84,111,107,101,110])=true /\ (n == 0)=true /\ ks.length=0 /\ ((tokens of).any fun y=>y.toList == x.toList)=true:=by
 rw [right_mk,if_pos (by decide)] at h
 simp only [Bool.and_eq_true,Bool.not_eq_true',beq_iff_eq] at h
 simp only [beq_iff_eq]
 exact ⟨h.1.1,h.1.2.1.1,h.1.2.1.2,h.1.2.2,h.2⟩
theorem rs_n {k : ByteArray} {nl : Bool} {x : ByteArray} {n : Int} {ks : List Syn} {of : ByteArray} (h : right (.mk k nl x n ks) 110 of=true) : nl=false /\ (k.toList == [115,116,114,105,110,103])=true /\ (n == 0)=true /\ ks.length=0 /\ word x.toList=true:=by
 rw [right_mk,if_neg (by decide),if_pos (by decide)] at h
 simp only [Bool.and_eq_true,Bool.not_eq_true',beq_iff_eq] at h
 simp only [beq_iff_eq]
 exact ⟨h.1.1,h.1.2.1.1,h.1.2.1.2,h.1.2.2,h.2⟩
theorem rs_b {k : ByteArray} {nl : Bool} {x : ByteArray} {n : Int} {ks : List Syn} {of : ByteArray} (h : right (.mk k nl x n ks) 98 of=true) : nl=false /\ (k.toList == [98,111,111,108])=true /\ x.toList=[] /\ (n=0 \/ n=1) /\ ks.length=0:=by
 rw [right_mk,if_neg (by decide),if_neg (by decide),if_pos (by decide)] at h
 simp only [Bool.and_eq_true,Bool.not_eq_true',beq_iff_eq,Bool.or_eq_true] at h
 simp only [beq_iff_eq]
 exact ⟨h.1,h.2.1.1.1,h.2.1.1.2,h.2.1.2,h.2.2⟩
theorem rs_l {k : ByteArray} {nl : Bool} {x : ByteArray} {n : Int} {ks : List Syn} {of : ByteArray} (h : right (.mk k nl x n ks) 108 of=true) : (nl=false \/ ks.length=0) /\ (k.toList == [91,93,69,120,112,114])=true /\ (x.toList=[] /\ n=0) /\ rightAll ks 101=true:=by
 rw [right_mk,if_neg (by decide),if_neg (by decide),if_neg (by decide),if_pos (by decide)] at h
 simp only [Bool.and_eq_true,Bool.not_eq_true',beq_iff_eq,Bool.or_eq_true] at h
 simp only [beq_iff_eq]
 exact ⟨h.1.1.1,h.1.1.2,h.1.2,h.2⟩
theorem rs_m {k : ByteArray} {nl : Bool} {x : ByteArray} {n : Int} {ks : List Syn} {of : ByteArray} (h : right (.mk k nl x n ks) 109 of=true) : (nl=false \/ ks.length=0) /\ (k.toList == [91,93,83,116,109,116])=true /\ (x.toList=[] /\ n=0) /\ rightAll ks 115=true:=by
 rw [right_mk,if_neg (by decide),if_neg (by decide),if_neg (by decide),if_neg (by decide),if_pos (by decide)] at h
 simp only [Bool.and_eq_true,Bool.not_eq_true',beq_iff_eq,Bool.or_eq_true] at h
 simp only [beq_iff_eq]
 exact ⟨h.1.1.1,h.1.1.2,h.1.2,h.2⟩
def nodeL (c : Int) : Prop:=c=101 \/ c=115 \/ c=105 \/ c=99 \/ c=66
theorem rs_node {c : Int} (hc : nodeL c) {k : ByteArray} {nl : Bool} {x : ByteArray} {n : Int} {ks : List Syn} {of : ByteArray} (h : right (.mk k nl x n ks) c of=true) : nl=false /\ fitsL c k=true /\ (x.toList=[] /\ n=0) /\ (ks.length == (asked k).size)=true /\ rightArgs ks (asked k).toList k=true:=by
 have e : right (.mk k nl x n ks) c of=(!nl && fitsL c k && (x.toList == [] && n == 0) && ks.length == (asked k).size && rightArgs ks (asked k).toList k):=by
  rw [right_mk]
  rcases hc with rfl | rfl | rfl | rfl | rfl <;>
   rw [if_neg (by decide),if_neg (by decide),if_neg (by decide),if_neg (by decide),if_neg (by decide),if_neg (by simp)] <;> rfl
 rw [e] at h
 simp only [Bool.and_eq_true,Bool.not_eq_true',beq_iff_eq] at h
 simp only [beq_iff_eq]
 exact ⟨h.1.1.1.1,h.1.1.1.2,h.1.1.2,h.1.2,h.2⟩
theorem fits_101 {k : ByteArray} (h : fitsL 101 k=true) : k ∈ expressions:=any_mem h
theorem fits_115 {k : ByteArray} (h : fitsL 115 k=true) : k ∈ statements:=any_mem h
theorem fits_105 {k : ByteArray} (h : fitsL 105 k=true) : k=⟨#[73,100,101,110,116]⟩:=beq_lit h
theorem fits_99 {k : ByteArray} (h : fitsL 99 k=true) : k=⟨#[67,97,108,108,69,120,112,114]⟩:=beq_lit h
theorem fits_66 {k : ByteArray} (h : fitsL 66 k=true) : k=⟨#[66,108,111,99,107,83,116,109,116]⟩:=beq_lit h
theorem nil_of {l : List Syn} (h : l.length=0) : l=[]:=List.eq_nil_of_length_eq_zero h
theorem right_kind {t : Syn} {c : Int} (hc : c=101 \/ c=115) {of : ByteArray} (h : right t c of=true) : t.kind ∈ expressions ++ statements:=by
 obtain ⟨k,nl,x,n,ks⟩:=t
 rcases hc with rfl | rfl
 ·exact List.mem_append_left _ (fits_101 (rs_node (.inl rfl) h).2.1)
 ·exact List.mem_append_right _ (fits_115 (rs_node (.inr (.inl rfl)) h).2.1)
theorem part_all (t : Syn) : ∀ c ∈ letters,∀ of,right t c of=true -> PartC (whatOf c) t:=by
 induction t using Syn.ind with | h t ih=>?_
 intro c hc of h
 obtain ⟨k,nl,x,n,ks⟩:=t
 have hn : ∀ (c : Int),nodeL c -> ∀ {what : ByteArray},right (.mk k nl x n ks) c of=true -> KindOK k -> (WhatOK what k \/ StarOK what k) -> PartC what (.mk k nl x n ks):=by
  intro c hc what h hk hw
  obtain ⟨rfl,-,-,h1,h2⟩:=rs_node hc h
  obtain ⟨e1,e2⟩:=kids_ok hk h1 h2 (fun j hj c hc of h=>ih j hj c hc of h)
  rcases hw with hw | hw
  ·exact part_node hw hk.1 hk.2.1 e1 e2
  ·exact part_star hw hk.1 hk.2.1 e1 e2
 have he : right (.mk k nl x n ks) 101 of=true -> PartC ⟨#[101,120,112,114]⟩ (.mk k nl x n ks):=fun h=>by
  have hk:=fits_101 (rs_node (.inl rfl) h).2.1
  exact hn 101 (.inl rfl) h (kind_ok k (List.mem_append_left _ hk)) (.inl (what_expr hk))
 have hs : right (.mk k nl x n ks) 115 of=true -> PartC ⟨#[115,116,109,116]⟩ (.mk k nl x n ks):=fun h=>by
  have hk:=fits_115 (rs_node (.inr (.inl rfl)) h).2.1
  exact hn 115 (.inr (.inl rfl)) h (kind_ok k (List.mem_append_right _ hk)) (.inl (what_stmt hk))
 simp only [letters,List.mem_cons,List.not_mem_nil,or_false] at hc
 rcases hc with rfl | rfl | rfl | rfl | rfl | rfl | rfl | rfl | rfl | rfl | rfl | rfl
 ·obtain ⟨rfl,hk,-,hks,-⟩:=rs_t h
  obtain rfl:=beq_lit hk
  obtain rfl:=nil_of hks
  exact part_leaf (.inr (.inl rfl))
 ·obtain ⟨rfl,hk,-,hks,-⟩:=rs_n h
  obtain rfl:=beq_lit hk
  obtain rfl:=nil_of hks
  exact part_leaf (.inl rfl)
 ·obtain ⟨rfl,hk,-,-,hks⟩:=rs_b h
  obtain rfl:=beq_lit hk
  obtain rfl:=nil_of hks
  exact part_leaf (.inr (.inr rfl))
 ·obtain ⟨hnl,hk,-,ha⟩:=rs_l h
  obtain rfl:=beq_lit hk
  cases nl
  ·refine part_list (.inl ⟨rfl,rfl⟩) (fun j hj=>ih j hj 101 (by decide) _ (rightAll_get _ _ ha j hj)) (fun t ht=>?_)
   obtain ⟨j,hj,rfl⟩:=List.getElem_of_mem ht
   have:=(kind_ok _ (right_kind (.inl rfl) (rightAll_get _ _ ha j hj))).1
   simpa using this
  ·obtain rfl:=nil_of (hnl.resolve_left (by simp))
   have:=rs_l h
   exact part_null (.inl rfl)
 ·obtain ⟨hnl,hk,-,ha⟩:=rs_m h
  obtain rfl:=beq_lit hk
  cases nl
  ·refine part_list (.inr ⟨rfl,rfl⟩) (fun j hj=>ih j hj 115 (by decide) _ (rightAll_get _ _ ha j hj)) (fun t ht=>?_)
   obtain ⟨j,hj,rfl⟩:=List.getElem_of_mem ht
   have:=(kind_ok _ (right_kind (.inr rfl) (rightAll_get _ _ ha j hj))).1
   simpa using this
  ·obtain rfl:=nil_of (hnl.resolve_left (by simp))
   exact part_null (.inr rfl)
 ·cases hk : (k.toList == [])
  ·rw [right_low_69 _ _ _ _ _ _ hk] at h
   exact he h
  ·have hk' : k=⟨#[]⟩:=beq_lit hk
   subst hk'
   rw [right_mk,if_neg (by decide),if_neg (by decide),if_neg (by decide),if_neg (by decide),if_neg (by decide),if_pos (by decide +kernel)] at h
   simp only [Bool.and_eq_true,Bool.not_eq_true',beq_iff_eq] at h
   obtain ⟨⟨rfl,-⟩,hks⟩:=h
   obtain rfl:=nil_of hks
   exact part_nil (.inl rfl)
 ·cases hk : (k.toList == [])
  ·rw [right_low_83 _ _ _ _ _ _ hk] at h
   exact hs h
  ·have hk' : k=⟨#[]⟩:=beq_lit hk
   subst hk'
   rw [right_mk,if_neg (by decide),if_neg (by decide),if_neg (by decide),if_neg (by decide),if_neg (by decide),if_pos (by decide +kernel)] at h
   simp only [Bool.and_eq_true,Bool.not_eq_true',beq_iff_eq] at h
   obtain ⟨⟨rfl,-⟩,hks⟩:=h
   obtain rfl:=nil_of hks
   exact part_nil (.inr rfl)
 ·exact he h
 ·exact hs h
 ·obtain rfl:=fits_105 (rs_node (.inr (.inr (.inl rfl))) h).2.1
  exact hn 105 (.inr (.inr (.inl rfl))) h (kind_ok _ (any_mem (by decide +kernel))) (.inr star_ident)
 ·obtain rfl:=fits_99 (rs_node (.inr (.inr (.inr (.inl rfl)))) h).2.1
  exact hn 99 (.inr (.inr (.inr (.inl rfl)))) h (kind_ok _ (any_mem (by decide +kernel))) (.inr star_call)
 ·obtain rfl:=fits_66 (rs_node (.inr (.inr (.inr (.inr rfl)))) h).2.1
  exact hn 66 (.inr (.inr (.inr (.inr rfl)))) h (kind_ok _ (any_mem (by decide +kernel))) (.inr star_block)
theorem part_top (t : Syn) {c : Int} (hc : c=101 \/ c=115) {of : ByteArray} (h : right t c of=true) : PartC t.kind t:=by
 have hk:=right_kind hc h
 obtain ⟨k,nl,x,n,ks⟩:=t
 have hc' : nodeL c:=by rcases hc with rfl | rfl;exact .inl rfl;exact .inr (.inl rfl)
 obtain ⟨rfl,-,-,h1,h2⟩:=rs_node hc' h
 have hK:=kind_ok _ hk
 obtain ⟨e1,e2⟩:=kids_ok hK h1 h2 (fun j hj c hc of h=>part_all _ c hc of h)
 exact part_node (what_self _ hk) hK.1 hK.2.1 e1 e2
end Go.Proofs.YtigalkobmfbdaaaGreatDoor
