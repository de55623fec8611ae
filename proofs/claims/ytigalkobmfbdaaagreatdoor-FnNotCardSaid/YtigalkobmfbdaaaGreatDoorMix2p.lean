/- The package's Match: a fresh matcher, pushed, matched, merged. -/
import Derived.Test.YtigalkobmfbdaaaGreatDoorMix2o
set_option linter.unusedVariables false
set_option linter.unusedSimpArgs false
set_option maxRecDepth 100000
set_option maxHeartbeats 4000000
namespace Go.Proofs.YtigalkobmfbdaaaGreatDoor
open Go.RowKit Go.WideMaps Go.Sort
abbrev patV (rv : Value) (ea : Option Addr) (en ec : Nat) (sv : Value) (ca : Option Addr) (cn cc : Nat) (ba : Option Addr) (bn bc : Nat) : Value:=.agg #[rv,.slice ea en ec,sv,.slice ca cn cc,.slice ba bn bc]
theorem MAt.start {nm : Names} (hn : nm.Nodup /\ nm.length <= 64 /\ ∀ s ∈ nm,s.length <= 100) {w : World} {mb tb bc : Nat} {ba : Option Addr} (hB : Blk w mb #[.map (some tb),.slice ba nm.length bc,.slice none 0 0,.bool false] 106) (hbc : nm.length <= bc) (hm : RawMap w tb []) (hne : mb ≠ tb) (hb : BsAt w ba nm) (hbm : nm ≠ [] -> ∀ b o,ba=some ⟨b,o,none⟩ -> b ≠ mb /\ b ≠ tb) : MAt nm mb tb w (.slice none 0 0) [] [] :=
 ⟨⟨ba,bc,hB,hbc,fun j hj=>by
  obtain ⟨b,o,e,hc⟩:=hb j hj
  have hbm:=hbm (fun h=>by subst h;cases hj)
  exact ⟨b,o,e,⟨(hbm b o e).1,(hbm b o e).2,fun h=>by cases h⟩,hc⟩⟩,⟨[],hm,VS.nil _ _⟩,World.ownsRow_nil _ _ _ _,⟨hne,(fun h=>by cases h),(fun h=>by cases h)⟩,Keyed.nil nm,hn⟩
theorem start_world {nm : Names} (hnm : nm.Nodup /\ nm.length <= 64 /\ ∀ s ∈ nm,s.length <= 100) {w W : World} {mb bc : Nat} {ba : Option Addr} {v0 v1 v2 v3 v4 : Value} (hB : Blk w mb #[.map none,.slice none 0 0,.slice none 0 0,.bool false] 106) (hb : BsAt w ba nm) (hbm : nm ≠ [] -> ∀ b o,ba=some ⟨b,o,none⟩ -> b < mb) (hbc : nm.length <= bc)
  (hW : W=(((w.setCell ⟨mb,1,none⟩ (.slice ba nm.length bc)).setCell ⟨mb,0,none⟩ (.map (some (w.heap.size + 1)))).alloc (.cells #[v0,v1,v2,v3,v4] 81)).alloc (.map #[] 0)) :
  MAt nm mb (w.heap.size + 1) W (.slice none 0 0) [] [] /\ ExtM (·=mb) w W /\ W.cell? ⟨w.heap.size,0,none⟩=some v0:=by
 have hml:=hB.lt
 have h1 : Blk ((w.setCell ⟨mb,1,none⟩ (.slice ba nm.length bc)).setCell ⟨mb,0,none⟩ (.map (some (w.heap.size + 1)))) mb #[.map (some (w.heap.size + 1)),.slice ba nm.length bc,.slice none 0 0,.bool false] 106:=(hB.set 1 _).set 0 _
 have hX : ExtM (·=mb) w ((w.setCell ⟨mb,1,none⟩ (.slice ba nm.length bc)).setCell ⟨mb,0,none⟩ (.map (some (w.heap.size + 1)))):=((ExtM.refl (·=mb) w).set1 1 _).set1 0 _
 have hs : ((w.setCell ⟨mb,1,none⟩ (.slice ba nm.length bc)).setCell ⟨mb,0,none⟩ (.map (some (w.heap.size + 1)))).heap.size=w.heap.size:=by simp
 generalize (w.setCell ⟨mb,1,none⟩ (.slice ba nm.length bc)).setCell ⟨mb,0,none⟩ (.map (some (w.heap.size + 1)))=w0 at *
 have hE1:=Ext.alloc w0 (.cells #[v0,v1,v2,v3,v4] 81)
 have hB1 : Blk (w0.alloc (.cells #[v0,v1,v2,v3,v4] 81)) w.heap.size #[v0,v1,v2,v3,v4] 81:=by rw [<- hs];exact Blk.new _ _ _
 have hs1 : (w0.alloc (.cells #[v0,v1,v2,v3,v4] 81)).heap.size=w.heap.size + 1:=by simp [hs]
 generalize w0.alloc (.cells #[v0,v1,v2,v3,v4] 81)=w1 at *
 have hE2:=Ext.alloc w1 (.map #[] 0)
 have hR:=RawMap.made w1
 rw [hs1] at hR
 subst hW
 have hE:=hE1.trans hE2
 have hXX : ExtM (·=mb) w (w1.alloc (.map #[] 0)):=hX.ext hE
 refine ⟨MAt.start hnm (h1.ext hE) hbc hR (by omega) (fun j hj=>by obtain ⟨b,o,e,hc⟩:=hb j hj;exact ⟨b,o,e,hXX.keep (fun h=>by have:=hbm (fun h=>by subst h;cases hj) b o e;simp only at h;omega) hc⟩) (fun hn b o e=>by have:=hbm hn b o e;omega),hXX,?_⟩
 rw [(hB1.ext hE2).cell]
 rfl
theorem matcher_calls {nm : Names} (hnm : nm.Nodup /\ nm.length <= 64 /\ ∀ s ∈ nm,s.length <= 100) {n : PN} (hcn : n.cnt <= 900) {r o : Syn} {S : SL} {ok : Bool} (hr : RZ r) (hm : mt nm false n r []=some (ok,o,S)) {w : World} {mb en ec cn cc bc : Nat} {ea ca ba : Option Addr} {rv sv pv : Value} (hsv : NV sv)
  (hB : Blk w mb #[.map none,.slice none 0 0,.slice none 0 0,.bool false] 106) (hN : NodeAt (fun b=>b < mb) w rv n) (hP : PtrIn (fun b=>b < mb) w pv r) (hb : BsAt w ba nm) (hbm : nm ≠ [] -> ∀ b o,ba=some ⟨b,o,none⟩ -> b < mb) (hbc : nm.length <= bc) :
  Calls Tryz.prog 83 #[.pointer (some ⟨mb,0,none⟩),patV rv ea en ec sv ca cn cc ba nm.length bc,pv] w fun e w'=>e=.returned (.bool ok) /\ (∃ tb rv' st,MAt nm mb tb w' rv' S st /\ w.heap.size <= tb) /\ ExtM (·=mb) w w':=by
 obtain ⟨p,rfl⟩:=hP.ptr
 have hml:=hB.lt
 have hsh:=hN.shape
 have HW:=Lib.hid (And.intro hN (And.intro hP (And.intro hb (And.intro hbm hbc))))
 have HM:=Lib.hid hm
 have hf:=hB.frozen
 have hB0:=Lib.hid hB
 have c0 : w.cell? ⟨mb,0,none⟩=some (.map none):=by rw [hB.cell];rfl
 have c1 : w.cell? ⟨mb,1,none⟩=some (.slice none 0 0):=by rw [hB.cell];rfl
 clear hN hP hb hbm hbc hm hB
 rcases hsh with rfl | ⟨tt,xx,rfl⟩
 ·have:=HW.out.1
  exfalso
  cases n <;> rw [NodeAt] at this
  all_goals first
   | (have h2:=HM.out;rw [mt] at h2;cases h2;done)
   | (cases this;done)
   | (obtain ⟨a,c,e,-⟩:=this;cases e;done)
   | (obtain ⟨nv,e,-⟩:=this;cases e;done)
 have hmm:=@run_makeMap Tryz.prog
 rcases hsv with rfl | ⟨ts,xs,rfl⟩
 ·go_enter Tryz.func83,Tryz.ntmps83
  go_wp2_with fail
  obtain ⟨W,hW⟩ : ∃ W,W=(((w.setCell ⟨mb,1,none⟩ (.slice ba nm.length bc)).setCell ⟨mb,0,none⟩ (.map (some (w.heap.size + 1)))).alloc (.cells #[.iface tt xx,.slice ea en ec,.nilIface,.slice ca cn cc,.slice ba nm.length bc] 81)).alloc (.map #[] 0):=⟨_,rfl⟩
  have hSt:=start_world hnm hB0.out HW.out.2.2.1 HW.out.2.2.2.1 HW.out.2.2.2.2 hW
  rw [<- hW]
  clear hW
  have KS:=Lib.hid hSt
  clear hSt c0 c1 hf
  refine (push_calls KS.out.1 (by simp)).mono ?_
  rintro e w2 ⟨rfl,rv2,hM2,hT2⟩
  have hb0:=KS.out.2.2
  have hbx : XB mb (w.heap.size + 1) (.slice none 0 0) w.heap.size:=⟨by omega,by omega,fun h=>by cases h⟩
  have hb2:=(hT2.keep _ _ _ hbx hb0).2
  have hb2l:=cell_lt hb2
  have K2:=Lib.hid (And.intro hM2 hT2)
  clear hM2 hT2 hb0
  have hin : ∀ b o v,b < mb -> w.cell? ⟨b,o,none⟩=some v -> XB mb (w.heap.size + 1) rv2 b /\ w2.cell? ⟨b,o,none⟩=some v:=fun b o v hb hc =>
   K2.out.2.keep b o v ⟨by omega,by omega,fun h=>by cases h⟩ (KS.out.2.1.keep (by simp only;omega) hc)
  have HC:=Lib.hid (mt_all nm _ n (Nat.lt_succ_self _) false r [] ok o S hr HM.out mb (w.heap.size + 1) w2 rv2 [] 0#64 _ _ (by simp;omega) K2.out.1 (HW.out.1.turn hin) (HW.out.2.1.turn hin))
  clear hin
  go_wp2_with fail
  refine HC.out.mono ?_
  rintro e w3 ⟨p3,bb,rfl,rfl,rv3,T3,hq3,hM3,hA3,hT3⟩
  have K3:=Lib.hid (And.intro hM3 hT3)
  clear hq3 hM3 hA3 hT3
  go_wp2_with fail
  refine (merge_calls (st:=[]) K3.out.1 (by simp)).mono ?_
  rintro e w4 ⟨rfl,rv4,hM4,hT4⟩
  obtain ⟨ba4,bc4,-,-,d2,-,-⟩:=hM4.cells
  obtain ⟨va,vc,ev⟩:=owns_slice hM4.row
  rw [ev] at d2
  simp only [List.length_nil] at d2
  have dl:=cell_lt d2
  have K4:=Lib.hid (And.intro hM4 hT4)
  clear hM4 hT4
  go_wp2_with fail
  go_ret
  refine ⟨rfl,⟨w.heap.size + 1,rv4,[],K4.out.1,by omega⟩,?_⟩
  have hT:=(K2.out.2.trans K3.out.2).trans K4.out.2
  exact KS.out.2.1.trans hT.1 (fun i hi e=>by
   rcases e with e | e | e
   ·exact e
   ·omega
   ·cases e)
 ·go_enter Tryz.func83,Tryz.ntmps83
  go_wp2_with fail
  obtain ⟨W,hW⟩ : ∃ W,W=(((w.setCell ⟨mb,1,none⟩ (.slice ba nm.length bc)).setCell ⟨mb,0,none⟩ (.map (some (w.heap.size + 1)))).alloc (.cells #[.iface tt xx,.slice ea en ec,.iface ts xs,.slice ca cn cc,.slice ba nm.length bc] 81)).alloc (.map #[] 0):=⟨_,rfl⟩
  have hSt:=start_world hnm hB0.out HW.out.2.2.1 HW.out.2.2.2.1 HW.out.2.2.2.2 hW
  rw [<- hW]
  clear hW
  have KS:=Lib.hid hSt
  clear hSt c0 c1 hf
  refine (push_calls KS.out.1 (by simp)).mono ?_
  rintro e w2 ⟨rfl,rv2,hM2,hT2⟩
  have hb0:=KS.out.2.2
  have hbx : XB mb (w.heap.size + 1) (.slice none 0 0) w.heap.size:=⟨by omega,by omega,fun h=>by cases h⟩
  have hb2:=(hT2.keep _ _ _ hbx hb0).2
  have hb2l:=cell_lt hb2
  have K2:=Lib.hid (And.intro hM2 hT2)
  clear hM2 hT2 hb0
  have hin : ∀ b o v,b < mb -> w.cell? ⟨b,o,none⟩=some v -> XB mb (w.heap.size + 1) rv2 b /\ w2.cell? ⟨b,o,none⟩=some v:=fun b o v hb hc =>
   K2.out.2.keep b o v ⟨by omega,by omega,fun h=>by cases h⟩ (KS.out.2.1.keep (by simp only;omega) hc)
  have HC:=Lib.hid (mt_all nm _ n (Nat.lt_succ_self _) false r [] ok o S hr HM.out mb (w.heap.size + 1) w2 rv2 [] 0#64 _ _ (by simp;omega) K2.out.1 (HW.out.1.turn hin) (HW.out.2.1.turn hin))
  clear hin
  go_wp2_with fail
  refine HC.out.mono ?_
  rintro e w3 ⟨p3,bb,rfl,rfl,rv3,T3,hq3,hM3,hA3,hT3⟩
  have K3:=Lib.hid (And.intro hM3 hT3)
  clear hq3 hM3 hA3 hT3
  go_wp2_with fail
  refine (merge_calls (st:=[]) K3.out.1 (by simp)).mono ?_
  rintro e w4 ⟨rfl,rv4,hM4,hT4⟩
  obtain ⟨ba4,bc4,-,-,d2,-,-⟩:=hM4.cells
  obtain ⟨va,vc,ev⟩:=owns_slice hM4.row
  rw [ev] at d2
  simp only [List.length_nil] at d2
  have dl:=cell_lt d2
  have K4:=Lib.hid (And.intro hM4 hT4)
  clear hM4 hT4
  go_wp2_with fail
  go_ret
  refine ⟨rfl,⟨w.heap.size + 1,rv4,[],K4.out.1,by omega⟩,?_⟩
  have hT:=(K2.out.2.trans K3.out.2).trans K4.out.2
  exact KS.out.2.1.trans hT.1 (fun i hi e=>by
   rcases e with e | e | e
   ·exact e
   ·omega
   ·cases e)
end Go.Proofs.YtigalkobmfbdaaaGreatDoor
set_option maxRecDepth 100000
set_option maxHeartbeats 4000000
namespace Go.Proofs.YtigalkobmfbdaaaGreatDoor
open Go.RowKit Go.WideMaps Go.Sort
def PatPost (nm : Names) (w : World) (ok : Bool) (S : SL) (e : Ending) (w' : World) : Prop :=
 (∃ mb tb rv' st,e=.returned (.tuple #[.pointer (some ⟨mb,0,none⟩),.bool ok]) /\ MAt nm mb tb w' rv' S st /\ w.heap.size <= mb /\ w.heap.size <= tb) /\ Ext w w'
theorem pattern_calls {nm : Names} (hnm : nm.Nodup /\ nm.length <= 64 /\ ∀ s ∈ nm,s.length <= 100) {n : PN} (hcn : n.cnt <= 900) {r o : Syn} {S : SL} {ok : Bool} (hr : RZ r) (hm : mt nm false n r []=some (ok,o,S)) {w : World} {en ec cn cc bc : Nat} {ea ca ba : Option Addr} {rv sv pv : Value} (hsv : NV sv)
  {X Y : Nat -> Prop} (hN : NodeAt X w rv n) (hP : PtrIn Y w pv r) (hb : BsAt w ba nm) (hbl : nm ≠ [] -> ∀ b o,ba=some ⟨b,o,none⟩ -> b < w.heap.size) (hbc : nm.length <= bc) :
  Calls Tryz.prog 64 #[patV rv ea en ec sv ca cn cc ba nm.length bc,pv] w (PatPost nm w ok S):=by
 have hE1:=Ext.alloc w (.cells #[rv,.slice ea en ec,sv,.slice ca cn cc,.slice ba nm.length bc] 81)
 have hB1:=Blk.new w #[rv,.slice ea en ec,sv,.slice ca cn cc,.slice ba nm.length bc] 81
 have hs1 : (w.alloc (.cells #[rv,.slice ea en ec,sv,.slice ca cn cc,.slice ba nm.length bc] 81)).heap.size=w.heap.size + 1:=by simp
 have HP:=Lib.hid (And.intro hP (And.intro hN (And.intro hb (And.intro hbl (And.intro hbc hm)))))
 have H1:=Lib.hid (And.intro hE1 (And.intro hB1 hs1))
 obtain ⟨p,rfl⟩:=hP.ptr
 have hsh:=hN.shape
 clear hE1 hB1 hs1 hP hN hb hbl hbc hm
 have hE2:=Ext.alloc (w.alloc (.cells #[rv,.slice ea en ec,sv,.slice ca cn cc,.slice ba nm.length bc] 81)) (.cells #[.map none,.slice none 0 0,.slice none 0 0,.bool false] 106)
 have hB2:=Blk.new (w.alloc (.cells #[rv,.slice ea en ec,sv,.slice ca cn cc,.slice ba nm.length bc] 81)) #[.map none,.slice none 0 0,.slice none 0 0,.bool false] 106
 rw [H1.out.2.2] at hB2
 have hEE:=H1.out.1.trans hE2
 have HC:=Lib.hid (matcher_calls hnm hcn hr HP.out.2.2.2.2.2 hsv hB2 ((HP.out.2.1.turn (Y:=fun b=>b < w.heap.size) fun b o v _ hc=>⟨cell_lt hc,hEE.keep hc⟩).imp (fun b hb _=>by omega)) ((HP.out.1.turn (Y:=fun b=>b < w.heap.size) fun b o v _ hc=>⟨cell_lt hc,hEE.keep hc⟩).imp (fun b hb _=>by omega)) (HP.out.2.2.1.extM (hEE.toM fun _=>False) (fun _ _ _ h=>h)) (fun hn b o e=>by have:=HP.out.2.2.2.1 hn b o e;omega) HP.out.2.2.2.2.1 (ea:=ea) (en:=en) (ec:=ec) (ca:=ca) (cn:=cn) (cc:=cc))
 have HB:=Lib.hid (And.intro hEE hB2)
 clear hE2 hB2 hEE
 rcases hsh with rfl | ⟨tt,xx,rfl⟩ <;> rcases hsv with rfl | ⟨ts,xs,rfl⟩
 all_goals
  go_enter Tryz.func64,Tryz.ntmps64
  go_wp2_with fail
  refine HC.out.mono ?_
  rintro e w2 ⟨rfl,⟨tb,rv',st,hM,htb⟩,hX⟩
  have K:=Lib.hid (And.intro hM (And.intro htb hX))
  clear hM htb hX
  go_wp2_with fail
  have hsz:=HB.out.1.size
  go_ret2
  exact ⟨⟨_,tb,rv',st,rfl,K.out.1,by omega,by have:=K.out.2.1;omega⟩,K.out.2.2.toExt HB.out.1 (fun i hi e=>by omega)⟩
end Go.Proofs.YtigalkobmfbdaaaGreatDoor
