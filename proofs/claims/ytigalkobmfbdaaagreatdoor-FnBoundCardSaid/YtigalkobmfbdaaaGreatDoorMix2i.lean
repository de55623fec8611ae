/- The thin package's part: a part of a syntax as the package has it. Leaves. -/
import Derived.Test.YtigalkobmfbdaaaGreatDoorPtr1Z2
import Derived.Test.YtigalkobmfbdaaaGreatDoorMix2h
import Derived.Test.YtigalkobmfbdaaaGreatDoorMix2g
import Derived.Test.YtigalkobmfbdaaaGreatDoorMix2e
set_option linter.unusedVariables false
set_option linter.unusedSimpArgs false
set_option maxRecDepth 100000
set_option maxHeartbeats 4000000
namespace Go.Proofs.YtigalkobmfbdaaaGreatDoor
open Go.RowKit
mutual
def countS : Syn -> Nat
 | .mk _ _ _ _ ks=>countSs ks + 1
def countSs : List Syn -> Nat
 | []=>0
 | t :: ts=>countS t + countSs ts
end
mutual
def depthS : Syn -> Nat
 | .mk _ _ _ _ ks=>depthSs ks + 1
def depthSs : List Syn -> Nat
 | []=>0
 | t :: ts=>max (depthS t) (depthSs ts)
end
theorem countS_mk (k b x n ks) : countS (.mk k b x n ks)=countSs ks + 1:=by rw [countS]
theorem depthS_mk (k b x n ks) : depthS (.mk k b x n ks)=depthSs ks + 1:=by rw [depthS]
theorem countSs_len (ks : List Syn) : ks.length <= countSs ks:=by
 induction ks with
 | nil=>simp
 | cons t ts ih=>cases t;simp only [countSs,countS_mk,List.length_cons];omega
theorem depthSs_get : ∀ {ts : List Syn} (j : Nat) (hj : j < ts.length),depthS ts[j] <= depthSs ts
 | t :: ts,0,_=>by simp only [depthSs,List.getElem_cons_zero];omega
 | t :: ts,j + 1,hj=>by have:=depthSs_get (ts:=ts) j (by simpa using hj);simp only [depthSs,List.getElem_cons_succ];omega
theorem countSs_take (ks : List Syn) (j : Nat) (h : j < ks.length) : countSs (ks.take (j + 1))=countSs (ks.take j) + countS ks[j]:=by
 induction ks generalizing j with
 | nil=>simp at h
 | cons t ts ih =>
  cases j with
  | zero=>simp [countSs]
  | succ j=>have:=ih j (by simpa using h);simp only [List.take_succ_cons,countSs,List.getElem_cons_succ,this];omega
theorem countSs_take_le (ks : List Syn) (j : Nat) : countSs (ks.take j) <= countSs ks:=by
 induction ks generalizing j with
 | nil=>simp [countSs]
 | cons t ts ih =>
  cases j with
  | zero=>simp [countSs]
  | succ j=>have:=ih j;simp only [List.take_succ_cons,countSs];omega
theorem ptr_of_blk {X : Nat -> Prop} {w : World} {b : Nat} {k : ByteArray} {nl : Bool} {x : ByteArray} {n : Int} {a : Option Addr} {c : Nat} {ks : List Syn} {t : TypeId} (hb : X b) (hB : Blk w b #[.string k,.bool nl,.string x,.int .i64 n,.slice a ks.length c] t) (hc : ks.length <= c) (hP : PtrsIn X w a ks) (hk : k.toList ≠ []) : PtrIn X w (.pointer (some ⟨b,0,none⟩)) (.mk k nl x n ks):=by
 obtain ⟨h0,h1,h2,h3,h4⟩:=Blk5 hB
 rw [PtrIn]
 exact ⟨fun h=>absurd h hk,fun _=>⟨b,a,c,rfl,hb,h0,h1,h2,h3,h4,hc,hP⟩⟩
def PartRes (base : Nat) (t : Syn) (e : Ending) (w : World) : Prop:=∃ v,e=.returned (.tuple #[v,.bool true]) /\ PtrIn (fun b=>base <= b) w v t
def PartC (what : ByteArray) (t : Syn) : Prop:=∀ (X : Nat -> Prop) (a : Option Addr) (c : Nat) (dp m : Int) (lb : Nat) (w0 w : World),SynIn X w0 a c t -> Ext w0 w -> w0.heap.size <= lb -> Blk w lb #[.int .i64 m] 3 -> 0 <= dp -> dp + depthS t <= 31 -> (countS t : Int) <= m -> m <= 300 →
 Calls Tryz.prog 62 #[synV t a c,.string what,.int .i64 dp,.pointer (some ⟨lb,0,none⟩)] w fun e w'=>PartRes w.heap.size t e w' /\ Blk w' lb #[.int .i64 (m - countS t)] 3 /\ ExtM (·=lb) w w'
theorem part_leaf {k x : ByteArray} {n : Int} (hk : k=⟨#[115,116,114,105,110,103]⟩ \/ k=⟨#[84,111,107,101,110]⟩ \/ k=⟨#[98,111,111,108]⟩) : PartC k (.mk k false x n []):=by
 intro X a c dp m lb w0 w hT hE0 hlb hB hd0 hd hc hm
 rw [countS_mk,depthS_mk] at *
 simp only [countSs,depthSs] at *
 simp only [synV,skind_mk,snull_mk,stext_mk,snum_mk,skids_mk,List.length_nil] at *
 have c0 : w.cell? ⟨lb,0,none⟩=some (.int .i64 m):=by rw [hB.cell];rfl
 have f0:=hB.frozen 0
 have lt0:=hB.lt
 have hd30 : ¬ (30 : Int) < dp:=by omega
 have hm0 : ¬ m - 1 < 0:=by omega
 have g1 : (k.toList == [])=false:=by rcases hk with rfl | rfl | rfl <;> decide +kernel
 have g2 : 0 < k.size:=by rcases hk with rfl | rfl | rfl <;> decide
 have g3' : ∀ h : 0 < k.size,((k[0].toNat : Int) == 42)=false:=by rcases hk with rfl | rfl | rfl <;> decide +kernel
 have g3:=g3' g2
 clear g3'
 have g4 : (2 : Int) < (k.size : Int):=by rcases hk with rfl | rfl | rfl <;> decide
 have g5 : ((k.extract 0 2).toList == [91,93])=false:=by rcases hk with rfl | rfl | rfl <;> decide +kernel
 have g6:=beq_self_eq_true k.toList
 have g7:=iasked_small k
 have HC:=Lib.hid (iasked_calls k)
 have HK:=Lib.hid hk
 have gk : ((k.toList == [115,116,114,105,110,103])=true) \/ ((k.toList == [115,116,114,105,110,103])=false /\ (k.toList == [84,111,107,101,110])=true) \/ ((k.toList == [115,116,114,105,110,103])=false /\ (k.toList == [84,111,107,101,110])=false /\ (k.toList == [67,104,97,110,68,105,114])=false /\ (k.toList == [98,111,111,108])=true):=by
  rcases hk with rfl | rfl | rfl <;> decide +kernel
 generalize iasked k=ik at *
 clear hk
 go_enter Tryz.func62,Tryz.ntmps62
 go_big_wp2_with fail
 obtain ⟨W,hW⟩ : ∃ W,W=((w.setCell ⟨lb,0,none⟩ (.int .i64 (m - 1))).alloc (.cells #[.string k,.bool false,.string x,.int .i64 n,.slice a 0 c] 52)).alloc (.cells #[.string k,.bool false,.string x,.int .i64 n,.slice none 0 0] 145):=⟨_,rfl⟩
 have KB : Hid (Blk W lb #[.int .i64 (m - 1)] 3):=Lib.hid (by rw [hW];exact ((hB.set 0 _).ext (Ext.alloc _ _)).ext (Ext.alloc _ _))
 have KX : Hid (Blk W w.heap.size #[.string k,.bool false,.string x,.int .i64 n,.slice a 0 c] 52):=Lib.hid (by rw [hW];have:=Blk.new (w.setCell ⟨lb,0,none⟩ (.int .i64 (m - 1))) #[.string k,.bool false,.string x,.int .i64 n,.slice a 0 c] 52;rw [World.size_setCell] at this;exact this.ext (Ext.alloc _ _))
 have KO : Hid (Blk W (w.heap.size + 1) #[.string k,.bool false,.string x,.int .i64 n,.slice none 0 0] 145):=Lib.hid (by rw [hW];have:=Blk.second (w.setCell ⟨lb,0,none⟩ (.int .i64 (m - 1))) (.cells #[.string k,.bool false,.string x,.int .i64 n,.slice a 0 c] 52) #[.string k,.bool false,.string x,.int .i64 n,.slice none 0 0] 145;rwa [World.size_setCell] at this)
 have KE : Hid (ExtM (·=lb) w W):=Lib.hid (by rw [hW];exact (((ExtM.refl (·=lb) w).setCell (p:=⟨lb,0,none⟩) (.inl rfl) _).ext (Ext.alloc _ _)).ext (Ext.alloc _ _))
 rw [<- hW]
 clear hW hB c0 f0 lt0
 refine (HC.out _).mono ?_
 rintro e w1 ⟨rfl,rfl⟩
 go_big_wp2_with fail
 refine (words_calls ik (by omega) _).mono ?_
 rintro e w1 ⟨⟨wa,wc,rfl,hwc,hws⟩,hE1⟩
 have hbx:=KX.out.ext hE1
 have b5:=Blk5 hbx
 have bl:=hbx.lt
 have KF:=Lib.hid (And.intro (KB.out.ext hE1) (And.intro (KO.out.ext hE1) (KE.out.ext hE1)))
 clear hE1 hbx hws hwc
 rcases gk with gk | ⟨gk,gk2⟩ | ⟨gk,gk2,gk3,gk4⟩
 all_goals
  go_big_wp2_with fail
  go_quiet (fail)
  go_big_wp2_with fail
  go_ret2
  refine ⟨⟨.pointer (some ⟨w.heap.size + 1,0,none⟩),rfl,?_⟩,?_,KF.out.2.2.ext (Ext.drewN _ _)⟩
  ·exact ptr_of_blk (Nat.le_succ _) (KF.out.2.1.ext (Ext.drewN _ _)) (Nat.le_refl _) (by rw [PtrsIn];trivial) (by intro e;rw [e] at g1;cases g1)
  ·have e : m - ((0 + 1 : Nat) : Int)=m - 1:=by omega
   rw [e]
   exact KF.out.1.ext (Ext.drewN _ _)
end Go.Proofs.YtigalkobmfbdaaaGreatDoor
set_option maxRecDepth 100000
set_option maxHeartbeats 8000000
namespace Go.Proofs.YtigalkobmfbdaaaGreatDoor
open Go.RowKit
theorem inf96 : (Tryz.prog.info? 96).map (fun i=>(i.zero,i.size,i.bytes))=some (some (.pointer none),1,8):=by kernel_rfl
theorem und143 : Tryz.prog.underlying 143=some (.slice 96):=by kernel_rfl
theorem part_nil {what x : ByteArray} {n : Int} (hw : what=⟨#[101,120,112,114]⟩ \/ what=⟨#[115,116,109,116]⟩) : PartC what (.mk ⟨#[]⟩ false x n []):=by
 intro X a c dp m lb w0 w hT hE0 hlb hB hd0 hd hc hm
 rw [countS_mk,depthS_mk] at *
 simp only [countSs,depthSs] at *
 simp only [synV,skind_mk,snull_mk,stext_mk,snum_mk,skids_mk,List.length_nil] at *
 have c0 : w.cell? ⟨lb,0,none⟩=some (.int .i64 m):=by rw [hB.cell];rfl
 have f0:=hB.frozen 0
 have lt0:=hB.lt
 have hd30 : ¬ (30 : Int) < dp:=by omega
 have hm0 : ¬ m - 1 < 0:=by omega
 have g1 : (what.toList == [])=false:=by rcases hw with rfl | rfl <;> decide +kernel
 have g2 : 0 < what.size:=by rcases hw with rfl | rfl <;> decide
 have g3' : ∀ h : 0 < what.size,((what[0].toNat : Int) == 42)=false:=by rcases hw with rfl | rfl <;> decide +kernel
 have g3:=g3' g2
 clear g3'
 have gw : (what.toList == [101,120,112,114])=true \/ ((what.toList == [101,120,112,114])=false /\ (what.toList == [115,116,109,116])=true):=by rcases hw with rfl | rfl <;> decide +kernel
 clear hw
 rcases gw with gw | ⟨gw,gw2⟩
 all_goals
  go_enter Tryz.func62,Tryz.ntmps62
  go_big_wp2_with fail
  go_quiet (fail)
  go_big_wp2_with fail
  go_ret2
  have hE:=((ExtM.refl (·=lb) w).setCell (p:=⟨lb,0,none⟩) (.inl rfl) (.int .i64 (m - 1))).ext (Ext.alloc _ (.cells #[.string ⟨#[]⟩,.bool false,.string x,.int .i64 n,.slice a 0 c] 52))
  refine ⟨⟨.pointer none,rfl,?_⟩,?_,hE.ext (Ext.drewN _ _)⟩
  ·rw [PtrIn]
   exact ⟨fun _=>rfl,fun h=>absurd (toList_mk []) h⟩
  ·have e : m - ((0 + 1 : Nat) : Int)=m - 1:=by omega
   rw [e]
   exact ((hB.set 0 _).ext (Ext.alloc _ _)).ext (Ext.drewN _ _)
theorem part_list {k x el : ByteArray} {n : Int} {ks : List Syn} (hk : (k=⟨#[91,93,69,120,112,114]⟩ /\ el=⟨#[101,120,112,114]⟩) \/ (k=⟨#[91,93,83,116,109,116]⟩ /\ el=⟨#[115,116,109,116]⟩)) (ih : ∀ (j : Nat) (hj : j < ks.length),PartC el ks[j]) (hne : ∀ t ∈ ks,t.kind.toList ≠ []) : PartC k (.mk k false x n ks):=by
 intro X a c dp m lb w0 w hT hE0 hlb hB hd0 hd hc hm
 obtain ⟨i0,hi,hz0,hz1,hz2⟩:=info_parts inf96
 have hkk:=hT.kids
 rw [countS_mk,depthS_mk] at *
 simp only [synV,skind_mk,snull_mk,stext_mk,snum_mk,skids_mk] at *
 have hln:=countSs_len ks
 have HKs:=Lib.hid (And.intro hkk.2.2 (And.intro ih hne))
 have c0 : w.cell? ⟨lb,0,none⟩=some (.int .i64 m):=by rw [hB.cell];rfl
 have f0:=hB.frozen 0
 have lt0:=hB.lt
 have hd30 : ¬ (30 : Int) < dp:=by omega
 have hm0 : ¬ m - 1 < 0:=by omega
 have g1 : (k.toList == [])=false:=by rcases hk with ⟨rfl,-⟩ | ⟨rfl,-⟩ <;> decide +kernel
 have g2 : 0 < k.size:=by rcases hk with ⟨rfl,-⟩ | ⟨rfl,-⟩ <;> decide
 have g3' : ∀ h : 0 < k.size,((k[0].toNat : Int) == 42)=false:=by rcases hk with ⟨rfl,-⟩ | ⟨rfl,-⟩ <;> decide +kernel
 have g3:=g3' g2
 have g4 : (2 : Int) < (k.size : Int):=by rcases hk with ⟨rfl,-⟩ | ⟨rfl,-⟩ <;> decide
 have g5 : ((k.extract 0 2).toList == [91,93])=true:=by rcases hk with ⟨rfl,-⟩ | ⟨rfl,-⟩ <;> decide +kernel
 have g6:=beq_self_eq_true k.toList
 have g7:=iasked_small k
 have g8 : (el.toList == [83,112,101,99])=false:=by rcases hk with ⟨-,rfl⟩ | ⟨-,rfl⟩ <;> decide +kernel
 have HEL : Hid (∀ w,Calls Tryz.prog 81 #[.string k] w fun e w'=>e=.returned (.string el) /\ w=w'):=Lib.hid (fun w=>by
  rcases hk with ⟨rfl,rfl⟩ | ⟨rfl,rfl⟩
  ·exact elem_expr w
  ·exact elem_stmt w)
 have HC:=Lib.hid (iasked_calls k)
 have HG1:=Lib.hid g1
 generalize iasked k=ik at *
 clear hk g3' ih hne hT
 go_enter Tryz.func62,Tryz.ntmps62
 go_big_wp2_with fail
 obtain ⟨W,hW⟩ : ∃ W,W=((w.setCell ⟨lb,0,none⟩ (.int .i64 (m - 1))).alloc (.cells #[.string k,.bool false,.string x,.int .i64 n,.slice a ks.length c] 52)).alloc (.cells #[.string k,.bool false,.string x,.int .i64 n,.slice none 0 0] 145):=⟨_,rfl⟩
 have KB : Hid (Blk W lb #[.int .i64 (m - 1)] 3):=Lib.hid (by rw [hW];exact ((hB.set 0 _).ext (Ext.alloc _ _)).ext (Ext.alloc _ _))
 have KX : Hid (Blk W w.heap.size #[.string k,.bool false,.string x,.int .i64 n,.slice a ks.length c] 52):=Lib.hid (by rw [hW];have:=Blk.new (w.setCell ⟨lb,0,none⟩ (.int .i64 (m - 1))) #[.string k,.bool false,.string x,.int .i64 n,.slice a ks.length c] 52;rw [World.size_setCell] at this;exact this.ext (Ext.alloc _ _))
 have KO : Hid (Blk W (w.heap.size + 1) #[.string k,.bool false,.string x,.int .i64 n,.slice none 0 0] 145):=Lib.hid (by rw [hW];have:=Blk.second (w.setCell ⟨lb,0,none⟩ (.int .i64 (m - 1))) (.cells #[.string k,.bool false,.string x,.int .i64 n,.slice a ks.length c] 52) #[.string k,.bool false,.string x,.int .i64 n,.slice none 0 0] 145;rwa [World.size_setCell] at this)
 have KE : Hid (ExtM (·=lb) w W):=Lib.hid (by rw [hW];exact (((ExtM.refl (·=lb) w).setCell (p:=⟨lb,0,none⟩) (.inl rfl) _).ext (Ext.alloc _ _)).ext (Ext.alloc _ _))
 rw [<- hW]
 clear hW hB c0 f0
 refine (HC.out _).mono ?_
 rintro e w1 ⟨rfl,rfl⟩
 go_big_wp2_with fail
 refine (words_calls ik (by omega) _).mono ?_
 rintro e w1 ⟨⟨wa,wc,rfl,hwc,hws⟩,hE1⟩
 have hbx:=KX.out.ext hE1
 have b5:=Blk5 hbx
 have bl:=hbx.lt
 have KF:=Lib.hid (And.intro (KB.out.ext hE1) (And.intro (KO.out.ext hE1) (KE.out.ext hE1)))
 have KX1:=Lib.hid hbx
 clear hE1 hbx hws hwc
 go_big_wp2_with fail
 go_loopw [104] (fun i wr=>∃ (j : Nat) (v : Value) (vs : List Value),i=.int .i64 j /\ j <= ks.length /\ RowP wr (w.heap.size + 1 + 1) v (ks.take j) vs /\ Blk wr (w.heap.size + 1) #[.string k,.bool false,.string x,.int .i64 n,v] 145 /\ Blk wr lb #[.int .i64 (m - 1 - countSs (ks.take j))] 3 /\ ExtM (·=lb) w wr) (fun i _=>ks.length - (intOf i).toNat)
 case atStart=>exact ⟨0,_,[],rfl,Nat.zero_le _,RowP.nil _ _,KF.out.2.1,by simpa [countSs] using KF.out.1,KF.out.2.2⟩
 case round =>
  obtain ⟨j,v,vs,rfl,hj,hR,hO,hB,hE⟩:=hrel
  have hvl : vs.length=j:=by rw [<- hR.len,List.length_take,Nat.min_eq_left hj]
  have hcl:=countSs_take_le ks j
  have KR:=Lib.hid (And.intro hR (And.intro hO (And.intro hB hE)))
  have hsz:=hE.size
  have E0:=Lib.hid (hE.toExt hE0 (fun i hi h=>by omega))
  have o5:=Blk5 hO
  have ol:=hO.lt
  have of:=hO.frozen
  have KV:=Lib.hid hvl
  clear hR hO hB hE
  by_cases hlt : j < ks.length
  ·obtain ⟨b,o,a',c',e0,hbl,-,p0,p1,p2,p3,p4,hkt⟩:=HKs.out.1.get j hlt
   subst e0
   replace p0:=E0.out.keep p0
   replace p1:=E0.out.keep p1
   replace p2:=E0.out.keep p2
   replace p3:=E0.out.keep p3
   replace p4:=E0.out.keep p4
   have hbl1:=Nat.lt_of_lt_of_le hbl E0.out.size
   have HT:=Lib.hid hkt
   have hd2:=depthSs_get j hlt
   have hct2:=countSs_take ks j hlt
   have hct3:=countSs_take_le ks (j + 1)
   have hvj : vs.length <= 300:=by omega
   have HNE:=Lib.hid (HKs.out.2.2 ks[j] (List.getElem_mem hlt))
   clear hkt hvl
   go_big_wp2_with fail
   refine (HEL.out _).mono ?_
   rintro e w2 ⟨rfl,rfl⟩
   go_big_wp2_with fail
   refine (HKs.out.2.1 j hlt X a' c' (dp + 1) (m - 1 - countSs (ks.take j)) lb w0 _ HT.out (E0.out.trans (Ext.alloc _ _)) hlb (KR.out.2.2.1.ext (Ext.alloc _ _)) (by omega) (by omega) (by omega) (by omega)).mono ?_
   rintro e w3 ⟨⟨kv,rfl,hN⟩,hB3,hE3⟩
   have hws:=hE3.size
   rcases hN.shape with ⟨rfl,e9⟩ | ⟨kb,rfl,-⟩
   ·exact absurd e9 HNE.out
   have HR3:=Lib.hid (KR.out.1.extM ((Ext.alloc _ _).extM hE3) (fun k hk e=>by omega))
   have HO3:=Lib.hid ((KR.out.2.1.ext (Ext.alloc _ (.cells #[.string ks[j].kind,.bool ks[j].null,.string ks[j].text,.int .i64 ks[j].num,.slice a' ks[j].kids.length c'] 52))).extM hE3 (by omega))
   have HN2 : Hid (PtrIn (RX (w.heap.size + 1 + 1) v) w3 (.pointer (some ⟨kb,0,none⟩)) ks[j]):=Lib.hid (hN.imp fun b hb _=>⟨by simp at hb;omega,fun e=>by
    have:=(KR.out.1.own.lt b e).2
    simp at hb
    omega⟩)
   have HF3:=Lib.hid (And.intro hB3 (KR.out.2.2.2.trans' ((Ext.alloc _ _).extM hE3)))
   have hw3 : w.heap.size + 1 + 1 <= w3.heap.size:=by simp at hws;omega
   have o5b:=Blk5 HO3.out
   have olb:=HO3.out.lt
   have ofb:=HO3.out.frozen
   clear hN hB3 hE3 hws o5 ol of
   go_big_wp2_with (at_builtin;refine wpList_append_own_at _ rfl _ _ 143 rfl (w.heap.size + 1 + 1) 96 i0 _ 1 8 und143 hi hz0 hz1 hz2 rfl (by decide) _ _ _ rfl (HR3.out.own.alloc _) ⟨w3.heap.size,0,none⟩ 1 1 [.pointer (some ⟨kb,0,none⟩)] rfl rfl (cell_one_new _ _ _) (by intro u hu;simp at hu;subst hu;rfl) (by unfold maxLen;omega) (by omega) (by simp;omega) ?_)
   intro v' w4 hO4 hG hnil hloc
   have hne : ∀ q,v.ownBlock=some q -> w.heap.size + 1 + 1 <= q:=fun q hq=>(HR3.out.own.lt q hq).1
   have HO4:=Lib.hid ((HO3.out.ext (Ext.alloc _ (.cells #[.pointer (some ⟨kb,0,none⟩)] 96))).grown hG (fun e=>by have:=hne _ e.symm;omega))
   have HB4:=Lib.hid ((HF3.out.1.ext (Ext.alloc _ (.cells #[.pointer (some ⟨kb,0,none⟩)] 96))).grown hG (fun e=>by have:=hne _ e.symm;omega))
   have HE4:=Lib.hid ((HF3.out.2.ext (Ext.alloc _ (.cells #[.pointer (some ⟨kb,0,none⟩)] 96))).grown hG (fun q hq=>by have:=hne q hq;omega))
   have HR4 : Hid (RowP w4 (w.heap.size + 1 + 1) v' (ks.take j ++ [ks[j]]) (vs ++ [.pointer (some ⟨kb,0,none⟩)])):=Lib.hid (RowP.snoc (w:=w3.alloc (.cells #[.pointer (some ⟨kb,0,none⟩)] 96)) (HR3.out.extM ((Ext.alloc _ _).toM (fun _=>False)) (fun _ _ h=>h)) (HN2.out.mono ((Ext.alloc _ _).keeps _)) hG hO4 (fun g hg=>by
    rcases hloc with e | e
    ·exact .inl (e ▸ hg)
    ·rw [e] at hg
     obtain rfl:=Option.some.inj hg
     exact .inr (by simp)))
   have o5e:=Blk5 HO4.out
   have ole:=HO4.out.lt
   have ofe:=HO4.out.frozen
   obtain ⟨g,cap,rfl⟩ : ∃ g cap,v'=.slice (some ⟨g,0,none⟩) (vs.length + 1) cap:=by
    rcases hO4.2 with ⟨e,-⟩ | ⟨g,cap,cur,e,-⟩
    ·exact absurd e hnil
    ·exact ⟨g,cap,e⟩
   clear hO4 hG hnil hloc hne o5b olb ofb
   go_big_wp2_with fail
   refine ⟨⟨j + 1,.slice (some ⟨g,0,none⟩) (vs.length + 1) cap,vs ++ [.pointer (some ⟨kb,0,none⟩)],by go_num,by omega,?_,HO4.out.set 4 _,?_,HE4.out.setNew (by omega) _ _⟩,by simp [intOf];omega⟩
   ·rw [List.take_succ_eq_append_getElem hlt]
    exact HR4.out.extM ((ExtM.refl (·=w.heap.size + 1) w4).set1 4 _) (fun k hk e=>by omega)
   ·have e : m - 1 - (countSs (ks.take (j + 1)) : Int)=m - 1 - countSs (ks.take j) - countS ks[j]:=by omega
    rw [e]
    exact HB4.out.set_other (by simp;omega) _
  ·obtain rfl : j=ks.length:=by omega
   rw [List.take_length] at KR
   have e9 : m - 1 - (countSs ks : Int)=m - ((countSs ks + 1 : Nat) : Int):=by omega
   have HE9:=Lib.hid e9
   clear e9
   go_big_wp2_with fail
   go_ret2
   obtain ⟨ra,rc,rfl,hrc,hP⟩:=KR.out.1.ptrs
   refine ⟨⟨.pointer (some ⟨w.heap.size + 1,0,none⟩),rfl,?_⟩,?_,KR.out.2.2.2⟩
   ·exact ptr_of_blk (Nat.le_succ _) KR.out.2.1 hrc (hP.imp fun b hb _=>by omega) (by intro e;have:=HG1.out;rw [e] at this;cases this)
   ·rw [<- HE9.out]
    exact KR.out.2.2.1
end Go.Proofs.YtigalkobmfbdaaaGreatDoor
set_option maxRecDepth 100000
set_option maxHeartbeats 8000000
namespace Go.Proofs.YtigalkobmfbdaaaGreatDoor
open Go.RowKit
theorem StrsAt.turnW {M : Nat -> Prop} {w w' : World} {b o : Nat} {l : List ByteArray} (h : StrsAt w (some ⟨b,o,none⟩) l) (hE : ExtM M w w') (hb : ¬ M b) : StrsAt w' (some ⟨b,o,none⟩) l:=fun j hj=>by
 obtain ⟨b',o',e,hlt,hc⟩:=h j hj
 obtain ⟨rfl,rfl⟩ : b=b' /\ o=o':=by simpa using e
 exact ⟨b,o,rfl,Nat.lt_of_lt_of_le hlt hE.size,hE.keep hb hc⟩
theorem ExtM.of_row' {w w' : World} {row : Option Nat} (hg : w.grownBy w' row) : ExtM (fun k=>row=some k) w w':=⟨hg.os,hg.tape,hg.output,hg.size,fun k hk hM=>hg.block k hk (fun e=>hM e.symm)⟩
structure WhatOK (what k : ByteArray) : Prop where
 ne : (what.toList == [])=false
 pos : 0 < what.size
 star : ∀ h : 0 < what.size,((what[0].toNat : Int) == 42)=false
 two : (2 : Int) < (what.size : Int)
 br : ((what.extract 0 2).toList == [91,93])=false
 s1 : (what.toList == [115,116,114,105,110,103])=false
 s2 : (what.toList == [84,111,107,101,110])=false
 s3 : (what.toList == [67,104,97,110,68,105,114])=false
 s4 : (what.toList == [98,111,111,108])=false
 is : ∀ w,Calls Tryz.prog 82 #[.string k,.string what] w fun e w'=>e=.returned (.bool true) /\ w=w'
theorem part_node {what k x : ByteArray} {n : Int} {ks : List Syn} (hW : WhatOK what k) (hk1 : (k.toList == [])=false) (hia : ((iasked k).toList == [])=false) (hwl : ks.length=(words (iasked k)).length) (ih : ∀ (j : Nat) (hj : j < ks.length) (hw : j < (words (iasked k)).length),PartC (words (iasked k))[j] ks[j]) : PartC what (.mk k false x n ks):=by
 intro X a c dp m lb w0 w hT hE0 hlb hB hd0 hd hc hm
 obtain ⟨i0,hi,hz0,hz1,hz2⟩:=info_parts inf96
 have hkk:=hT.kids
 rw [countS_mk,depthS_mk] at *
 simp only [synV,skind_mk,snull_mk,stext_mk,snum_mk,skids_mk] at *
 have hln:=countSs_len ks
 have c0 : w.cell? ⟨lb,0,none⟩=some (.int .i64 m):=by rw [hB.cell];rfl
 have f0:=hB.frozen 0
 have lt0:=hB.lt
 have hd30 : ¬ (30 : Int) < dp:=by omega
 have hm0 : ¬ m - 1 < 0:=by omega
 obtain ⟨g1,g2,g3',g4,g5,g6,g7,g8,g9,his⟩:=hW
 have g3:=g3' g2
 have HIS:=Lib.hid his
 have hism:=iasked_small k
 have HC:=Lib.hid (iasked_calls k)
 have HG1:=Lib.hid hk1
 have hlB : ((ks.length : Int) != ((words (iasked k)).length : Int))=false:=by rw [hwl];simp
 have HKs:=Lib.hid (And.intro hkk.2.2 (And.intro hwl ih))
 generalize iasked k=ik at *
 clear g3' ih hT his hwl
 go_enter Tryz.func62,Tryz.ntmps62
 go_big_wp2_with fail
 obtain ⟨W,hW⟩ : ∃ W,W=((w.setCell ⟨lb,0,none⟩ (.int .i64 (m - 1))).alloc (.cells #[.string k,.bool false,.string x,.int .i64 n,.slice a ks.length c] 52)).alloc (.cells #[.string k,.bool false,.string x,.int .i64 n,.slice none 0 0] 145):=⟨_,rfl⟩
 have KB : Hid (Blk W lb #[.int .i64 (m - 1)] 3):=Lib.hid (by rw [hW];exact ((hB.set 0 _).ext (Ext.alloc _ _)).ext (Ext.alloc _ _))
 have KX : Hid (Blk W w.heap.size #[.string k,.bool false,.string x,.int .i64 n,.slice a ks.length c] 52):=Lib.hid (by rw [hW];have:=Blk.new (w.setCell ⟨lb,0,none⟩ (.int .i64 (m - 1))) #[.string k,.bool false,.string x,.int .i64 n,.slice a ks.length c] 52;rw [World.size_setCell] at this;exact this.ext (Ext.alloc _ _))
 have KO : Hid (Blk W (w.heap.size + 1) #[.string k,.bool false,.string x,.int .i64 n,.slice none 0 0] 145):=Lib.hid (by rw [hW];have:=Blk.second (w.setCell ⟨lb,0,none⟩ (.int .i64 (m - 1))) (.cells #[.string k,.bool false,.string x,.int .i64 n,.slice a ks.length c] 52) #[.string k,.bool false,.string x,.int .i64 n,.slice none 0 0] 145;rwa [World.size_setCell] at this)
 have KE : Hid (ExtM (·=lb) w W):=Lib.hid (by rw [hW];exact (((ExtM.refl (·=lb) w).setCell (p:=⟨lb,0,none⟩) (.inl rfl) _).ext (Ext.alloc _ _)).ext (Ext.alloc _ _))
 have hWz : W.heap.size=w.heap.size + 1 + 1:=by rw [hW];simp
 rw [<- hW]
 clear hW hB c0 f0
 refine (HC.out _).mono ?_
 rintro e w1 ⟨rfl,rfl⟩
 go_big_wp2_with fail
 refine (words_calls ik (by omega) _).mono ?_
 rintro e w1 ⟨⟨wa,wc,rfl,hwc,hws,hwf⟩,hE1⟩
 have hbx:=KX.out.ext hE1
 have b5:=Blk5 hbx
 have bl:=hbx.lt
 have KF:=Lib.hid (And.intro (KB.out.ext hE1) (And.intro (KO.out.ext hE1) (KE.out.ext hE1)))
 have KX1:=Lib.hid hbx
 have HWS:=Lib.hid hws
 obtain ⟨B,hBz⟩ : ∃ B,B=w1.heap.size:=⟨_,rfl⟩
 have hBlow : w.heap.size + 1 + 1 <= B:=by have:=hE1.size;omega
 have HBW:=Lib.hid hBz
 have HWF : Hid (∀ b o,wa=some ⟨b,o,none⟩ -> w.heap.size + 1 + 1 <= b):=Lib.hid (fun b o e=>by have:=hwf b o e;omega)
 clear hE1 hbx hws hBz hwf
 generalize words ik=ws at *
 go_big_wp2_with fail
 refine (HIS.out _).mono ?_
 rintro e w2 ⟨rfl,rfl⟩
 go_big_wp2_with fail
 refine (HC.out _).mono ?_
 rintro e w2 ⟨rfl,rfl⟩
 go_big_wp2_with fail
 go_loopw [209] (fun i wr=>∃ (j : Nat) (v : Value) (vs : List Value),i=.int .i64 j /\ j <= ks.length /\ RowP wr (B) v (ks.take j) vs /\ Blk wr (w.heap.size + 1) #[.string k,.bool false,.string x,.int .i64 n,v] 145 /\ Blk wr lb #[.int .i64 (m - 1 - countSs (ks.take j))] 3 /\ ExtM (·=lb) w wr /\ StrsAt wr wa ws /\ B <= wr.heap.size) (fun i _=>ks.length - (intOf i).toNat)
 case atStart=>exact ⟨0,_,[],rfl,Nat.zero_le _,RowP.nil _ _,KF.out.2.1,by simpa [countSs] using KF.out.1,KF.out.2.2,HWS.out,by rw [HBW.out];exact Nat.le_refl _⟩
 case round =>
  obtain ⟨j,v,vs,rfl,hj,hR,hO,hB,hE,hws,hBr⟩:=hrel
  have hvl : vs.length=j:=by rw [<- hR.len,List.length_take,Nat.min_eq_left hj]
  have hcl:=countSs_take_le ks j
  have KR:=Lib.hid (And.intro hR (And.intro hO (And.intro hB hE)))
  have hsz:=hE.size
  have E0:=Lib.hid (hE.toExt hE0 (fun i hi h=>by omega))
  have KV:=Lib.hid hvl
  have HWR:=Lib.hid hws
  clear hR hO hB hE hws
  by_cases hlt : j < ks.length
  ·obtain ⟨b,o,a',c',e0,hbl,-,p0,p1,p2,p3,p4,hkt⟩:=HKs.out.1.get j hlt
   subst e0
   replace p0:=E0.out.keep p0
   replace p1:=E0.out.keep p1
   replace p2:=E0.out.keep p2
   replace p3:=E0.out.keep p3
   replace p4:=E0.out.keep p4
   have hbl1:=Nat.lt_of_lt_of_le hbl E0.out.size
   have hjw : j < ws.length:=by have:=HKs.out.2.1;omega
   obtain ⟨wb,wo,e0,hwb,hwcell⟩:=HWR.out j hjw
   obtain ⟨wb',wo',e8,hwb8,-⟩:=HWS.out j hjw
   obtain ⟨e81,e82⟩ : wb'=wb /\ wo'=wo:=by rw [e0] at e8;simpa using e8.symm
   have HWB : Hid (wb < B):=Lib.hid (by rw [HBW.out,<- e81];exact hwb8)
   have HB5 : Hid (w.heap.size + 1 < wb /\ B <= wr.heap.size):=Lib.hid ⟨by have:=HWF.out wb wo e0;omega,hBr⟩
   clear e8 e81 e82 hwb8
   subst e0
   have hne2 : wb ≠ lb:=fun e=>by
    subst e
    rw [KR.out.2.2.1.cell] at hwcell
    rcases Nat.eq_zero_or_pos (wo + j) with h0 | h0
    ·rw [h0] at hwcell;cases hwcell
    ·rw [show (#[Value.int .i64 (m - 1 - countSs (ks.take j))])[wo + j]?=none from by simp;omega] at hwcell
     cases hwcell
   have HT:=Lib.hid hkt
   have hd2:=depthSs_get j hlt
   have hct2:=countSs_take ks j hlt
   have hct3:=countSs_take_le ks (j + 1)
   have hvj : vs.length <= 300:=by omega
   have hnb:=Blk.new wr #[.string ks[j].kind,.bool ks[j].null,.string ks[j].text,.int .i64 ks[j].num,.slice a' ks[j].kids.length c'] 52
   obtain ⟨q0,q1,q2,q3,q4⟩:=Blk5 hnb
   have HA1:=Lib.hid (Ext.alloc wr (.cells #[.string ks[j].kind,.bool ks[j].null,.string ks[j].text,.int .i64 ks[j].num,.slice a' ks[j].kids.length c'] 52))
   have qw:=HA1.out.keep hwcell
   have hwl1 : wr.heap.size ≠ lb:=by omega
   have HWR2 : Hid (IntKind.i64.wrap (dp + 1)=dp + 1):=Lib.hid (by rw [IntKind.wrap_i64];omega)
   clear hkt hvl hnb
   go_big_wp2_with fail
   go_region_held3 (fun w'=>w'.cell? ⟨wb,wo + j,none⟩=some (.string ws[j]) /\ w'.cell? ⟨wr.heap.size,0,none⟩=some (.string ks[j].kind) /\ w'.cell? ⟨wr.heap.size,1,none⟩=some (.bool ks[j].null) /\ w'.cell? ⟨wr.heap.size,2,none⟩=some (.string ks[j].text) /\ w'.cell? ⟨wr.heap.size,3,none⟩=some (.int .i64 ks[j].num) /\ w'.cell? ⟨wr.heap.size,4,none⟩=some (.slice a' ks[j].kids.length c')) (go_keep)
    ((go_at_call 62;rw [HWR2.out];refine (HKs.out.2.2 j hlt hjw X a' c' (dp + 1) (m - 1 - countSs (ks.take j)) lb w0 _ HT.out (E0.out.trans (HA1.out.trans (Ext.drew _))) hlb (KR.out.2.2.1.ext (HA1.out.trans (Ext.drew _))) (by omega) (by omega) (by omega) (by omega)).mono ?_;rintro e w3 ⟨⟨kv,rfl,hN⟩,hB3,hE3⟩;have HN:=Lib.hid hN;have HB3:=Lib.hid hB3;have HE3:=Lib.hid hE3;have r0:=hE3.keep hwl1 ((Ext.drew _).keep q0);have r1:=hE3.keep hwl1 ((Ext.drew _).keep q1);have r2:=hE3.keep hwl1 ((Ext.drew _).keep q2);have r3:=hE3.keep hwl1 ((Ext.drew _).keep q3);have r4:=hE3.keep hwl1 ((Ext.drew _).keep q4);have rw5:=hE3.keep hne2 ((Ext.drew _).keep qw);clear hN hB3 hE3))
   have hws3:=HE3.out.size
   have HR3:=Lib.hid (KR.out.1.extM ((HA1.out.trans (Ext.drew _)).extM HE3.out) (fun k hk e=>by omega))
   have HO3:=Lib.hid ((KR.out.2.1.ext (HA1.out.trans (Ext.drew _))).extM HE3.out (by omega))
   have HN2 : Hid (PtrIn (RX (B) v) w3 kv ks[j]):=Lib.hid (HN.out.imp fun b hb _=>⟨by simp [World.drew] at hb;omega,fun e=>by
    have:=(KR.out.1.own.lt b e).2
    simp [World.drew] at hb
    omega⟩)
   have HEW:=Lib.hid (KR.out.2.2.2.trans' ((HA1.out.trans (Ext.drew _)).extM HE3.out))
   have HS3 : Hid (StrsAt w3 (some ⟨wb,wo,none⟩) ws):=Lib.hid (HWR.out.turnW ((HA1.out.trans (Ext.drew _)).extM HE3.out) hne2)
   have hw3 : B <= w3.heap.size:=by simp [World.drew] at hws3;omega
   have o5b:=Blk5 HO3.out
   have olb:=HO3.out.lt
   have ofb:=HO3.out.frozen
   rcases HN.out.shape with ⟨rfl,-⟩ | ⟨kb,rfl,-⟩
   ·
    go_big_wp2_with (at_builtin;refine wpList_append_own_at _ rfl _ _ 143 rfl (B) 96 i0 _ 1 8 und143 hi hz0 hz1 hz2 rfl (by decide) _ _ _ rfl (HR3.out.own.alloc _) ⟨w3.heap.size,0,none⟩ 1 1 [.pointer none] rfl rfl (cell_one_new _ _ _) (by intro u hu;simp at hu;subst hu;rfl) (by unfold maxLen;omega) (by omega) (by simp;omega) ?_)
    intro v' w4 hO4 hG hnil hloc
    have hne : ∀ q,v.ownBlock=some q -> B <= q:=fun q hq=>(HR3.out.own.lt q hq).1
    have HO4:=Lib.hid ((HO3.out.ext (Ext.alloc _ (.cells #[.pointer none] 96))).grown hG (fun e=>by have:=hne _ e.symm;omega))
    have HB4:=Lib.hid ((HB3.out.ext (Ext.alloc _ (.cells #[.pointer none] 96))).grown hG (fun e=>by have:=hne _ e.symm;omega))
    have HE4:=Lib.hid ((HEW.out.ext (Ext.alloc _ (.cells #[.pointer none] 96))).grown hG (fun q hq=>by have:=hne q hq;omega))
    have HS4 : Hid (StrsAt w4 (some ⟨wb,wo,none⟩) ws):=Lib.hid (HS3.out.turnW (((Ext.alloc w3 (.cells #[.pointer none] 96)).toM (fun b=>v.ownBlock=some b)).trans' (ExtM.of_row' hG)) (fun e=>by have:=hne wb e;have:=HWB.out;omega))
    have HR4 : Hid (RowP w4 (B) v' (ks.take j ++ [ks[j]]) (vs ++ [.pointer none])):=Lib.hid (RowP.snoc (w:=w3.alloc (.cells #[.pointer none] 96)) (HR3.out.extM ((Ext.alloc _ _).toM (fun _=>False)) (fun _ _ h=>h)) (HN2.out.mono ((Ext.alloc _ _).keeps _)) hG hO4 (fun g hg=>by
     rcases hloc with e | e
     ·exact .inl (e ▸ hg)
     ·rw [e] at hg
      obtain rfl:=Option.some.inj hg
      exact .inr (by simp)))
    have hz4 : w3.heap.size + 1 <= w4.heap.size:=by have:=hG.size;simpa using this
    have o5e:=Blk5 HO4.out
    have ole:=HO4.out.lt
    have ofe:=HO4.out.frozen
    obtain ⟨g,cap,rfl⟩ : ∃ g cap,v'=.slice (some ⟨g,0,none⟩) (vs.length + 1) cap:=by
     rcases hO4.2 with ⟨e,-⟩ | ⟨g,cap,cur,e,-⟩
     ·exact absurd e hnil
     ·exact ⟨g,cap,e⟩
    clear hO4 hG hnil hloc hne o5b olb ofb
    go_big_wp2_with fail
    go_roundw
    case measure=>simp [intOf];omega
    case rel =>
     ·refine ⟨j + 1,.slice (some ⟨g,0,none⟩) (vs.length + 1) cap,vs ++ [.pointer none],by go_num,by omega,?_,HO4.out.set 4 _,?_,HE4.out.setNew (by omega) _ _,?_,?_⟩
      ·rw [List.take_succ_eq_append_getElem hlt]
       exact HR4.out.extM ((ExtM.refl (·=w.heap.size + 1) w4).set1 4 _) (fun k hk e=>by omega)
      ·have e : m - 1 - (countSs (ks.take (j + 1)) : Int)=m - 1 - countSs (ks.take j) - countS ks[j]:=by omega
       rw [e]
       exact HB4.out.set_other (by simp;omega) _
      ·exact HS4.out.turnW ((ExtM.refl (·=w.heap.size + 1) w4).set1 4 _) (fun e=>by have:=HB5.out.1;omega)
      ·simp;omega
   ·
    go_big_wp2_with (at_builtin;refine wpList_append_own_at _ rfl _ _ 143 rfl (B) 96 i0 _ 1 8 und143 hi hz0 hz1 hz2 rfl (by decide) _ _ _ rfl (HR3.out.own.alloc _) ⟨w3.heap.size,0,none⟩ 1 1 [.pointer (some ⟨kb,0,none⟩)] rfl rfl (cell_one_new _ _ _) (by intro u hu;simp at hu;subst hu;rfl) (by unfold maxLen;omega) (by omega) (by simp;omega) ?_)
    intro v' w4 hO4 hG hnil hloc
    have hne : ∀ q,v.ownBlock=some q -> B <= q:=fun q hq=>(HR3.out.own.lt q hq).1
    have HO4:=Lib.hid ((HO3.out.ext (Ext.alloc _ (.cells #[.pointer (some ⟨kb,0,none⟩)] 96))).grown hG (fun e=>by have:=hne _ e.symm;omega))
    have HB4:=Lib.hid ((HB3.out.ext (Ext.alloc _ (.cells #[.pointer (some ⟨kb,0,none⟩)] 96))).grown hG (fun e=>by have:=hne _ e.symm;omega))
    have HE4:=Lib.hid ((HEW.out.ext (Ext.alloc _ (.cells #[.pointer (some ⟨kb,0,none⟩)] 96))).grown hG (fun q hq=>by have:=hne q hq;omega))
    have HS4 : Hid (StrsAt w4 (some ⟨wb,wo,none⟩) ws):=Lib.hid (HS3.out.turnW (((Ext.alloc w3 (.cells #[.pointer (some ⟨kb,0,none⟩)] 96)).toM (fun b=>v.ownBlock=some b)).trans' (ExtM.of_row' hG)) (fun e=>by have:=hne wb e;have:=HWB.out;omega))
    have HR4 : Hid (RowP w4 (B) v' (ks.take j ++ [ks[j]]) (vs ++ [.pointer (some ⟨kb,0,none⟩)])):=Lib.hid (RowP.snoc (w:=w3.alloc (.cells #[.pointer (some ⟨kb,0,none⟩)] 96)) (HR3.out.extM ((Ext.alloc _ _).toM (fun _=>False)) (fun _ _ h=>h)) (HN2.out.mono ((Ext.alloc _ _).keeps _)) hG hO4 (fun g hg=>by
     rcases hloc with e | e
     ·exact .inl (e ▸ hg)
     ·rw [e] at hg
      obtain rfl:=Option.some.inj hg
      exact .inr (by simp)))
    have hz4 : w3.heap.size + 1 <= w4.heap.size:=by have:=hG.size;simpa using this
    have o5e:=Blk5 HO4.out
    have ole:=HO4.out.lt
    have ofe:=HO4.out.frozen
    obtain ⟨g,cap,rfl⟩ : ∃ g cap,v'=.slice (some ⟨g,0,none⟩) (vs.length + 1) cap:=by
     rcases hO4.2 with ⟨e,-⟩ | ⟨g,cap,cur,e,-⟩
     ·exact absurd e hnil
     ·exact ⟨g,cap,e⟩
    clear hO4 hG hnil hloc hne o5b olb ofb
    go_big_wp2_with fail
    go_roundw
    case measure=>simp [intOf];omega
    case rel =>
     ·refine ⟨j + 1,.slice (some ⟨g,0,none⟩) (vs.length + 1) cap,vs ++ [.pointer (some ⟨kb,0,none⟩)],by go_num,by omega,?_,HO4.out.set 4 _,?_,HE4.out.setNew (by omega) _ _,?_,?_⟩
      ·rw [List.take_succ_eq_append_getElem hlt]
       exact HR4.out.extM ((ExtM.refl (·=w.heap.size + 1) w4).set1 4 _) (fun k hk e=>by omega)
      ·have e : m - 1 - (countSs (ks.take (j + 1)) : Int)=m - 1 - countSs (ks.take j) - countS ks[j]:=by omega
       rw [e]
       exact HB4.out.set_other (by simp;omega) _
      ·exact HS4.out.turnW ((ExtM.refl (·=w.heap.size + 1) w4).set1 4 _) (fun e=>by have:=HB5.out.1;omega)
      ·simp;omega
  ·obtain rfl : j=ks.length:=by omega
   rw [List.take_length] at KR
   have e9 : m - 1 - (countSs ks : Int)=m - ((countSs ks + 1 : Nat) : Int):=by omega
   have HE9:=Lib.hid e9
   clear e9
   go_big_wp2_with fail
   go_ret2
   obtain ⟨ra,rc,rfl,hrc,hP⟩:=KR.out.1.ptrs
   refine ⟨⟨.pointer (some ⟨w.heap.size + 1,0,none⟩),rfl,?_⟩,?_,KR.out.2.2.2⟩
   ·exact ptr_of_blk (Nat.le_succ _) KR.out.2.1 hrc (hP.imp fun b hb _=>by omega) (by intro e;have:=HG1.out;rw [e] at this;cases this)
   ·rw [<- HE9.out]
    exact KR.out.2.2.1
end Go.Proofs.YtigalkobmfbdaaaGreatDoor
set_option maxRecDepth 100000
set_option maxHeartbeats 8000000
namespace Go.Proofs.YtigalkobmfbdaaaGreatDoor
open Go.RowKit
structure StarOK (what k : ByteArray) : Prop where
 ne : (what.toList == [])=false
 pos : 0 < what.size
 star : ∀ h : 0 < what.size,((what[0].toNat : Int) == 42)=true
 two : (2 : Int) < ((what.size - 1 : Nat) : Int)
 br : (((what.extract 1 what.size).extract 0 2).toList == [91,93])=false
 s1 : ((what.extract 1 what.size).toList == [115,116,114,105,110,103])=false
 s2 : ((what.extract 1 what.size).toList == [84,111,107,101,110])=false
 s3 : ((what.extract 1 what.size).toList == [67,104,97,110,68,105,114])=false
 s4 : ((what.extract 1 what.size).toList == [98,111,111,108])=false
 is : ∀ w,Calls Tryz.prog 82 #[.string k,.string (what.extract 1 what.size)] w fun e w'=>e=.returned (.bool true) /\ w=w'
theorem part_star {what k x : ByteArray} {n : Int} {ks : List Syn} (hW : StarOK what k) (hk1 : (k.toList == [])=false) (hia : ((iasked k).toList == [])=false) (hwl : ks.length=(words (iasked k)).length) (ih : ∀ (j : Nat) (hj : j < ks.length) (hw : j < (words (iasked k)).length),PartC (words (iasked k))[j] ks[j]) : PartC what (.mk k false x n ks):=by
 intro X a c dp m lb w0 w hT hE0 hlb hB hd0 hd hc hm
 obtain ⟨i0,hi,hz0,hz1,hz2⟩:=info_parts inf96
 have hkk:=hT.kids
 rw [countS_mk,depthS_mk] at *
 simp only [synV,skind_mk,snull_mk,stext_mk,snum_mk,skids_mk] at *
 have hln:=countSs_len ks
 have c0 : w.cell? ⟨lb,0,none⟩=some (.int .i64 m):=by rw [hB.cell];rfl
 have f0:=hB.frozen 0
 have lt0:=hB.lt
 have hd30 : ¬ (30 : Int) < dp:=by omega
 have hm0 : ¬ m - 1 < 0:=by omega
 obtain ⟨g1,g2,g3',g4,g5,g6,g7,g8,g9,his⟩:=hW
 have g3:=g3' g2
 have HIS:=Lib.hid his
 have hism:=iasked_small k
 have HC:=Lib.hid (iasked_calls k)
 have HG1:=Lib.hid hk1
 have hlB : ((ks.length : Int) != ((words (iasked k)).length : Int))=false:=by rw [hwl];simp
 have HKs:=Lib.hid (And.intro hkk.2.2 (And.intro hwl ih))
 generalize iasked k=ik at *
 clear g3' ih hT his hwl
 go_enter Tryz.func62,Tryz.ntmps62
 go_big_wp2_with fail
 obtain ⟨W,hW⟩ : ∃ W,W=((w.setCell ⟨lb,0,none⟩ (.int .i64 (m - 1))).alloc (.cells #[.string k,.bool false,.string x,.int .i64 n,.slice a ks.length c] 52)).alloc (.cells #[.string k,.bool false,.string x,.int .i64 n,.slice none 0 0] 145):=⟨_,rfl⟩
 have KB : Hid (Blk W lb #[.int .i64 (m - 1)] 3):=Lib.hid (by rw [hW];exact ((hB.set 0 _).ext (Ext.alloc _ _)).ext (Ext.alloc _ _))
 have KX : Hid (Blk W w.heap.size #[.string k,.bool false,.string x,.int .i64 n,.slice a ks.length c] 52):=Lib.hid (by rw [hW];have:=Blk.new (w.setCell ⟨lb,0,none⟩ (.int .i64 (m - 1))) #[.string k,.bool false,.string x,.int .i64 n,.slice a ks.length c] 52;rw [World.size_setCell] at this;exact this.ext (Ext.alloc _ _))
 have KO : Hid (Blk W (w.heap.size + 1) #[.string k,.bool false,.string x,.int .i64 n,.slice none 0 0] 145):=Lib.hid (by rw [hW];have:=Blk.second (w.setCell ⟨lb,0,none⟩ (.int .i64 (m - 1))) (.cells #[.string k,.bool false,.string x,.int .i64 n,.slice a ks.length c] 52) #[.string k,.bool false,.string x,.int .i64 n,.slice none 0 0] 145;rwa [World.size_setCell] at this)
 have KE : Hid (ExtM (·=lb) w W):=Lib.hid (by rw [hW];exact (((ExtM.refl (·=lb) w).setCell (p:=⟨lb,0,none⟩) (.inl rfl) _).ext (Ext.alloc _ _)).ext (Ext.alloc _ _))
 have hWz : W.heap.size=w.heap.size + 1 + 1:=by rw [hW];simp
 rw [<- hW]
 clear hW hB c0 f0
 refine (HC.out _).mono ?_
 rintro e w1 ⟨rfl,rfl⟩
 go_big_wp2_with fail
 refine (words_calls ik (by omega) _).mono ?_
 rintro e w1 ⟨⟨wa,wc,rfl,hwc,hws,hwf⟩,hE1⟩
 have hbx:=KX.out.ext hE1
 have b5:=Blk5 hbx
 have bl:=hbx.lt
 have KF:=Lib.hid (And.intro (KB.out.ext hE1) (And.intro (KO.out.ext hE1) (KE.out.ext hE1)))
 have KX1:=Lib.hid hbx
 have HWS:=Lib.hid hws
 obtain ⟨B,hBz⟩ : ∃ B,B=w1.heap.size:=⟨_,rfl⟩
 have hBlow : w.heap.size + 1 + 1 <= B:=by have:=hE1.size;omega
 have HBW:=Lib.hid hBz
 have HWF : Hid (∀ b o,wa=some ⟨b,o,none⟩ -> w.heap.size + 1 + 1 <= b):=Lib.hid (fun b o e=>by have:=hwf b o e;omega)
 clear hE1 hbx hws hBz hwf
 generalize words ik=ws at *
 go_big_wp2_with fail
 refine (HIS.out _).mono ?_
 rintro e w2 ⟨rfl,rfl⟩
 go_big_wp2_with fail
 refine (HC.out _).mono ?_
 rintro e w2 ⟨rfl,rfl⟩
 go_big_wp2_with fail
 go_loopw [209] (fun i wr=>∃ (j : Nat) (v : Value) (vs : List Value),i=.int .i64 j /\ j <= ks.length /\ RowP wr (B) v (ks.take j) vs /\ Blk wr (w.heap.size + 1) #[.string k,.bool false,.string x,.int .i64 n,v] 145 /\ Blk wr lb #[.int .i64 (m - 1 - countSs (ks.take j))] 3 /\ ExtM (·=lb) w wr /\ StrsAt wr wa ws /\ B <= wr.heap.size) (fun i _=>ks.length - (intOf i).toNat)
 case atStart=>exact ⟨0,_,[],rfl,Nat.zero_le _,RowP.nil _ _,KF.out.2.1,by simpa [countSs] using KF.out.1,KF.out.2.2,HWS.out,by rw [HBW.out];exact Nat.le_refl _⟩
 case round =>
  obtain ⟨j,v,vs,rfl,hj,hR,hO,hB,hE,hws,hBr⟩:=hrel
  have hvl : vs.length=j:=by rw [<- hR.len,List.length_take,Nat.min_eq_left hj]
  have hcl:=countSs_take_le ks j
  have KR:=Lib.hid (And.intro hR (And.intro hO (And.intro hB hE)))
  have hsz:=hE.size
  have E0:=Lib.hid (hE.toExt hE0 (fun i hi h=>by omega))
  have KV:=Lib.hid hvl
  have HWR:=Lib.hid hws
  clear hR hO hB hE hws
  by_cases hlt : j < ks.length
  ·obtain ⟨b,o,a',c',e0,hbl,-,p0,p1,p2,p3,p4,hkt⟩:=HKs.out.1.get j hlt
   subst e0
   replace p0:=E0.out.keep p0
   replace p1:=E0.out.keep p1
   replace p2:=E0.out.keep p2
   replace p3:=E0.out.keep p3
   replace p4:=E0.out.keep p4
   have hbl1:=Nat.lt_of_lt_of_le hbl E0.out.size
   have hjw : j < ws.length:=by have:=HKs.out.2.1;omega
   obtain ⟨wb,wo,e0,hwb,hwcell⟩:=HWR.out j hjw
   obtain ⟨wb',wo',e8,hwb8,-⟩:=HWS.out j hjw
   obtain ⟨e81,e82⟩ : wb'=wb /\ wo'=wo:=by rw [e0] at e8;simpa using e8.symm
   have HWB : Hid (wb < B):=Lib.hid (by rw [HBW.out,<- e81];exact hwb8)
   have HB5 : Hid (w.heap.size + 1 < wb /\ B <= wr.heap.size):=Lib.hid ⟨by have:=HWF.out wb wo e0;omega,hBr⟩
   clear e8 e81 e82 hwb8
   subst e0
   have hne2 : wb ≠ lb:=fun e=>by
    subst e
    rw [KR.out.2.2.1.cell] at hwcell
    rcases Nat.eq_zero_or_pos (wo + j) with h0 | h0
    ·rw [h0] at hwcell;cases hwcell
    ·rw [show (#[Value.int .i64 (m - 1 - countSs (ks.take j))])[wo + j]?=none from by simp;omega] at hwcell
     cases hwcell
   have HT:=Lib.hid hkt
   have hd2:=depthSs_get j hlt
   have hct2:=countSs_take ks j hlt
   have hct3:=countSs_take_le ks (j + 1)
   have hvj : vs.length <= 300:=by omega
   have hnb:=Blk.new wr #[.string ks[j].kind,.bool ks[j].null,.string ks[j].text,.int .i64 ks[j].num,.slice a' ks[j].kids.length c'] 52
   obtain ⟨q0,q1,q2,q3,q4⟩:=Blk5 hnb
   have HA1:=Lib.hid (Ext.alloc wr (.cells #[.string ks[j].kind,.bool ks[j].null,.string ks[j].text,.int .i64 ks[j].num,.slice a' ks[j].kids.length c'] 52))
   have qw:=HA1.out.keep hwcell
   have hwl1 : wr.heap.size ≠ lb:=by omega
   have HWR2 : Hid (IntKind.i64.wrap (dp + 1)=dp + 1):=Lib.hid (by rw [IntKind.wrap_i64];omega)
   clear hkt hvl hnb
   go_big_wp2_with fail
   go_region_held3 (fun w'=>w'.cell? ⟨wb,wo + j,none⟩=some (.string ws[j]) /\ w'.cell? ⟨wr.heap.size,0,none⟩=some (.string ks[j].kind) /\ w'.cell? ⟨wr.heap.size,1,none⟩=some (.bool ks[j].null) /\ w'.cell? ⟨wr.heap.size,2,none⟩=some (.string ks[j].text) /\ w'.cell? ⟨wr.heap.size,3,none⟩=some (.int .i64 ks[j].num) /\ w'.cell? ⟨wr.heap.size,4,none⟩=some (.slice a' ks[j].kids.length c')) (go_keep)
    ((go_at_call 62;rw [HWR2.out];refine (HKs.out.2.2 j hlt hjw X a' c' (dp + 1) (m - 1 - countSs (ks.take j)) lb w0 _ HT.out (E0.out.trans (HA1.out.trans (Ext.drew _))) hlb (KR.out.2.2.1.ext (HA1.out.trans (Ext.drew _))) (by omega) (by omega) (by omega) (by omega)).mono ?_;rintro e w3 ⟨⟨kv,rfl,hN⟩,hB3,hE3⟩;have HN:=Lib.hid hN;have HB3:=Lib.hid hB3;have HE3:=Lib.hid hE3;have r0:=hE3.keep hwl1 ((Ext.drew _).keep q0);have r1:=hE3.keep hwl1 ((Ext.drew _).keep q1);have r2:=hE3.keep hwl1 ((Ext.drew _).keep q2);have r3:=hE3.keep hwl1 ((Ext.drew _).keep q3);have r4:=hE3.keep hwl1 ((Ext.drew _).keep q4);have rw5:=hE3.keep hne2 ((Ext.drew _).keep qw);clear hN hB3 hE3))
   have hws3:=HE3.out.size
   have HR3:=Lib.hid (KR.out.1.extM ((HA1.out.trans (Ext.drew _)).extM HE3.out) (fun k hk e=>by omega))
   have HO3:=Lib.hid ((KR.out.2.1.ext (HA1.out.trans (Ext.drew _))).extM HE3.out (by omega))
   have HN2 : Hid (PtrIn (RX (B) v) w3 kv ks[j]):=Lib.hid (HN.out.imp fun b hb _=>⟨by simp [World.drew] at hb;omega,fun e=>by
    have:=(KR.out.1.own.lt b e).2
    simp [World.drew] at hb
    omega⟩)
   have HEW:=Lib.hid (KR.out.2.2.2.trans' ((HA1.out.trans (Ext.drew _)).extM HE3.out))
   have HS3 : Hid (StrsAt w3 (some ⟨wb,wo,none⟩) ws):=Lib.hid (HWR.out.turnW ((HA1.out.trans (Ext.drew _)).extM HE3.out) hne2)
   have hw3 : B <= w3.heap.size:=by simp [World.drew] at hws3;omega
   have o5b:=Blk5 HO3.out
   have olb:=HO3.out.lt
   have ofb:=HO3.out.frozen
   rcases HN.out.shape with ⟨rfl,-⟩ | ⟨kb,rfl,-⟩
   ·
    go_big_wp2_with (at_builtin;refine wpList_append_own_at _ rfl _ _ 143 rfl (B) 96 i0 _ 1 8 und143 hi hz0 hz1 hz2 rfl (by decide) _ _ _ rfl (HR3.out.own.alloc _) ⟨w3.heap.size,0,none⟩ 1 1 [.pointer none] rfl rfl (cell_one_new _ _ _) (by intro u hu;simp at hu;subst hu;rfl) (by unfold maxLen;omega) (by omega) (by simp;omega) ?_)
    intro v' w4 hO4 hG hnil hloc
    have hne : ∀ q,v.ownBlock=some q -> B <= q:=fun q hq=>(HR3.out.own.lt q hq).1
    have HO4:=Lib.hid ((HO3.out.ext (Ext.alloc _ (.cells #[.pointer none] 96))).grown hG (fun e=>by have:=hne _ e.symm;omega))
    have HB4:=Lib.hid ((HB3.out.ext (Ext.alloc _ (.cells #[.pointer none] 96))).grown hG (fun e=>by have:=hne _ e.symm;omega))
    have HE4:=Lib.hid ((HEW.out.ext (Ext.alloc _ (.cells #[.pointer none] 96))).grown hG (fun q hq=>by have:=hne q hq;omega))
    have HS4 : Hid (StrsAt w4 (some ⟨wb,wo,none⟩) ws):=Lib.hid (HS3.out.turnW (((Ext.alloc w3 (.cells #[.pointer none] 96)).toM (fun b=>v.ownBlock=some b)).trans' (ExtM.of_row' hG)) (fun e=>by have:=hne wb e;have:=HWB.out;omega))
    have HR4 : Hid (RowP w4 (B) v' (ks.take j ++ [ks[j]]) (vs ++ [.pointer none])):=Lib.hid (RowP.snoc (w:=w3.alloc (.cells #[.pointer none] 96)) (HR3.out.extM ((Ext.alloc _ _).toM (fun _=>False)) (fun _ _ h=>h)) (HN2.out.mono ((Ext.alloc _ _).keeps _)) hG hO4 (fun g hg=>by
     rcases hloc with e | e
     ·exact .inl (e ▸ hg)
     ·rw [e] at hg
      obtain rfl:=Option.some.inj hg
      exact .inr (by simp)))
    have hz4 : w3.heap.size + 1 <= w4.heap.size:=by have:=hG.size;simpa using this
    have o5e:=Blk5 HO4.out
    have ole:=HO4.out.lt
    have ofe:=HO4.out.frozen
    obtain ⟨g,cap,rfl⟩ : ∃ g cap,v'=.slice (some ⟨g,0,none⟩) (vs.length + 1) cap:=by
     rcases hO4.2 with ⟨e,-⟩ | ⟨g,cap,cur,e,-⟩
     ·exact absurd e hnil
     ·exact ⟨g,cap,e⟩
    clear hO4 hG hnil hloc hne o5b olb ofb
    go_big_wp2_with fail
    go_roundw
    case measure=>simp [intOf];omega
    case rel =>
     ·refine ⟨j + 1,.slice (some ⟨g,0,none⟩) (vs.length + 1) cap,vs ++ [.pointer none],by go_num,by omega,?_,HO4.out.set 4 _,?_,HE4.out.setNew (by omega) _ _,?_,?_⟩
      ·rw [List.take_succ_eq_append_getElem hlt]
       exact HR4.out.extM ((ExtM.refl (·=w.heap.size + 1) w4).set1 4 _) (fun k hk e=>by omega)
      ·have e : m - 1 - (countSs (ks.take (j + 1)) : Int)=m - 1 - countSs (ks.take j) - countS ks[j]:=by omega
       rw [e]
       exact HB4.out.set_other (by simp;omega) _
      ·exact HS4.out.turnW ((ExtM.refl (·=w.heap.size + 1) w4).set1 4 _) (fun e=>by have:=HB5.out.1;omega)
      ·simp;omega
   ·
    go_big_wp2_with (at_builtin;refine wpList_append_own_at _ rfl _ _ 143 rfl (B) 96 i0 _ 1 8 und143 hi hz0 hz1 hz2 rfl (by decide) _ _ _ rfl (HR3.out.own.alloc _) ⟨w3.heap.size,0,none⟩ 1 1 [.pointer (some ⟨kb,0,none⟩)] rfl rfl (cell_one_new _ _ _) (by intro u hu;simp at hu;subst hu;rfl) (by unfold maxLen;omega) (by omega) (by simp;omega) ?_)
    intro v' w4 hO4 hG hnil hloc
    have hne : ∀ q,v.ownBlock=some q -> B <= q:=fun q hq=>(HR3.out.own.lt q hq).1
    have HO4:=Lib.hid ((HO3.out.ext (Ext.alloc _ (.cells #[.pointer (some ⟨kb,0,none⟩)] 96))).grown hG (fun e=>by have:=hne _ e.symm;omega))
    have HB4:=Lib.hid ((HB3.out.ext (Ext.alloc _ (.cells #[.pointer (some ⟨kb,0,none⟩)] 96))).grown hG (fun e=>by have:=hne _ e.symm;omega))
    have HE4:=Lib.hid ((HEW.out.ext (Ext.alloc _ (.cells #[.pointer (some ⟨kb,0,none⟩)] 96))).grown hG (fun q hq=>by have:=hne q hq;omega))
    have HS4 : Hid (StrsAt w4 (some ⟨wb,wo,none⟩) ws):=Lib.hid (HS3.out.turnW (((Ext.alloc w3 (.cells #[.pointer (some ⟨kb,0,none⟩)] 96)).toM (fun b=>v.ownBlock=some b)).trans' (ExtM.of_row' hG)) (fun e=>by have:=hne wb e;have:=HWB.out;omega))
    have HR4 : Hid (RowP w4 (B) v' (ks.take j ++ [ks[j]]) (vs ++ [.pointer (some ⟨kb,0,none⟩)])):=Lib.hid (RowP.snoc (w:=w3.alloc (.cells #[.pointer (some ⟨kb,0,none⟩)] 96)) (HR3.out.extM ((Ext.alloc _ _).toM (fun _=>False)) (fun _ _ h=>h)) (HN2.out.mono ((Ext.alloc _ _).keeps _)) hG hO4 (fun g hg=>by
     rcases hloc with e | e
     ·exact .inl (e ▸ hg)
     ·rw [e] at hg
      obtain rfl:=Option.some.inj hg
      exact .inr (by simp)))
    have hz4 : w3.heap.size + 1 <= w4.heap.size:=by have:=hG.size;simpa using this
    have o5e:=Blk5 HO4.out
    have ole:=HO4.out.lt
    have ofe:=HO4.out.frozen
    obtain ⟨g,cap,rfl⟩ : ∃ g cap,v'=.slice (some ⟨g,0,none⟩) (vs.length + 1) cap:=by
     rcases hO4.2 with ⟨e,-⟩ | ⟨g,cap,cur,e,-⟩
     ·exact absurd e hnil
     ·exact ⟨g,cap,e⟩
    clear hO4 hG hnil hloc hne o5b olb ofb
    go_big_wp2_with fail
    go_roundw
    case measure=>simp [intOf];omega
    case rel =>
     ·refine ⟨j + 1,.slice (some ⟨g,0,none⟩) (vs.length + 1) cap,vs ++ [.pointer (some ⟨kb,0,none⟩)],by go_num,by omega,?_,HO4.out.set 4 _,?_,HE4.out.setNew (by omega) _ _,?_,?_⟩
      ·rw [List.take_succ_eq_append_getElem hlt]
       exact HR4.out.extM ((ExtM.refl (·=w.heap.size + 1) w4).set1 4 _) (fun k hk e=>by omega)
      ·have e : m - 1 - (countSs (ks.take (j + 1)) : Int)=m - 1 - countSs (ks.take j) - countS ks[j]:=by omega
       rw [e]
       exact HB4.out.set_other (by simp;omega) _
      ·exact HS4.out.turnW ((ExtM.refl (·=w.heap.size + 1) w4).set1 4 _) (fun e=>by have:=HB5.out.1;omega)
      ·simp;omega
  ·obtain rfl : j=ks.length:=by omega
   rw [List.take_length] at KR
   have e9 : m - 1 - (countSs ks : Int)=m - ((countSs ks + 1 : Nat) : Int):=by omega
   have HE9:=Lib.hid e9
   clear e9
   go_big_wp2_with fail
   go_ret2
   obtain ⟨ra,rc,rfl,hrc,hP⟩:=KR.out.1.ptrs
   refine ⟨⟨.pointer (some ⟨w.heap.size + 1,0,none⟩),rfl,?_⟩,?_,KR.out.2.2.2⟩
   ·exact ptr_of_blk (Nat.le_succ _) KR.out.2.1 hrc (hP.imp fun b hb _=>by omega) (by intro e;have:=HG1.out;rw [e] at this;cases this)
   ·rw [<- HE9.out]
    exact KR.out.2.2.1
end Go.Proofs.YtigalkobmfbdaaaGreatDoor
