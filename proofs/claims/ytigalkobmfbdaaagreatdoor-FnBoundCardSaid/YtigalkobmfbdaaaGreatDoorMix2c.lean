/- The parser's walks: node, object, array. -/
import Derived.Test.YtigalkobmfbdaaaGreatDoorMix2b
import Derived.Maps.AppendAt
import Derived.Deep.RegionHeld3
set_option linter.unusedVariables false
set_option linter.unusedSimpArgs false
set_option maxRecDepth 100000
set_option maxHeartbeats 4000000
namespace Go.Proofs.YtigalkobmfbdaaaGreatDoor
open Go.RowKit
def PPost (pb hi : Nat) (al : Bool) (q : Bool -> Prop) (mp : Option Nat) (w : World) (r : Option (PN × List Item × Names)) (e : Ending) (w' : World) : Prop :=
 ∃ mp',Step pb mp mp' w w' /\ match r with
 | none=>∃ v p,e=.returned (.tuple #[v,.iface 184 (.pointer p)])
 | some (n,S',nm')=>∃ v fl' cur',e=.returned (.tuple #[v,.nilIface]) /\ NodeAt (fun b=>w.heap.size <= b) w' v n /\ q fl' /\ PSt w' pb hi al fl' cur' S' mp' nm'
def NodeC (al : Bool) (f : Nat) : Prop:=∀ (S : List Item) (nm : Names) r,nodeM al f S nm=some r -> S.length + nm.length <= 300000 -> ∀ (pb hi : Nat) (fl : Bool) (cur : Item) (mp : Option Nat) (w : World),PSt w pb hi al fl cur S mp nm →
 Calls Tryz.prog 87 #[.pointer (some ⟨pb,0,none⟩)] w fun e w'=>PPost pb hi al (·=false) mp w r e w'
def ObjectC (al : Bool) (f : Nat) : Prop:=∀ (S : List Item) (nm : Names) r,objectM al f S nm=some r -> S.length + nm.length <= 300000 -> ∀ (pb hi : Nat) (fl : Bool) (cur : Item) (mp : Option Nat) (w : World),PSt w pb hi al fl cur S mp nm →
 Calls Tryz.prog 113 #[.pointer (some ⟨pb,0,none⟩)] w fun e w'=>PPost pb hi al (fun _=>True) mp w r e w'
def ArrayC (al : Bool) (f : Nat) : Prop:=∀ (S : List Item) (nm : Names) r,arrayM al f S nm=some r -> S.length + nm.length <= 300000 -> ∀ (pb hi : Nat) (fl : Bool) (cur : Item) (mp : Option Nat) (w : World),PSt w pb hi al fl cur S mp nm →
 Calls Tryz.prog 140 #[.pointer (some ⟨pb,0,none⟩)] w fun e w'=>PPost pb hi al (fun _=>True) mp w r e w'
theorem andThen_some {α β : Type} {r : PRes α} {k : α -> List Item -> Names -> PRes β} {x : Option (β × List Item × Names)} (h : r.andThen k=some x) : (r=some none /\ x=none) \/ ∃ a S nm,r=some (some (a,S,nm)) /\ k a S nm=some x:=by
 unfold PRes.andThen at h
 split at h
 ·cases h
 ·cases h;exact .inl ⟨rfl,rfl⟩
 ·exact .inr ⟨_,_,_,rfl,h⟩
theorem ownsRow_step {pb hi : Nat} {al fl : Bool} {cur : Item} {S : List Item} {mp mp' : Option Nat} {names : Names} {w w' : World} (h : Step pb mp mp' w w') (hP : PSt w pb hi al fl cur S mp names) {base : Nat} {v : Value} {n : Nat} {xs : List Value} (hO : w.ownsRow base 78 1 v n xs) (hb : pb < base) : w'.ownsRow base 78 1 v n xs:=by
 obtain ⟨h1,h2⟩:=hO
 refine ⟨h1,?_⟩
 rcases h2 with h2 | ⟨g,cap,cur,rfl,hg,hgg,r⟩
 ·exact .inl h2
 ·refine .inr ⟨g,cap,cur,rfl,hg,?_,r⟩
  refine (h.1.block g (Array.getElem?_eq_some_iff.1 hgg).1 ?_).trans hgg
  rintro (e | e)
  ·omega
  ·have hM:=hP.2.1
   rw [<- e] at hM
   obtain ⟨D,⟨es,clock,hm,-⟩,-⟩:=hM
   rw [hgg] at hm;cases hm
theorem Row.step {pb hi : Nat} {al fl : Bool} {cur : Item} {S : List Item} {mp mp' : Option Nat} {names : Names} {w w' : World} (h : Step pb mp mp' w w') (hP : PSt w pb hi al fl cur S mp names) {base : Nat} {v : Value} {ns : List PN} {vs : List Value} (hR : Row w base v ns vs) (hb : pb < base) : Row w' base v ns vs :=
 ⟨ownsRow_step h hP hR.own hb,hR.len,fun j h1 h2=>(hR.node j h1 h2).mono (h.keeps hP (fun b hx=>by have:=hx.1;omega))⟩
theorem Row.snoc {w w' : World} {base : Nat} {v v' : Value} {ns : List PN} {vs : List Value} {n : PN} {x : Value} (hR : Row w base v ns vs) (hn : NodeAt (RX base v) w x n) (hG : w.grownBy w' v.ownBlock) (hO : w'.ownsRow base 78 1 v' (vs.length + 1) (vs ++ [x])) (hv' : ∀ g,v'.ownBlock=some g -> v.ownBlock=some g \/ w.heap.size <= g) : Row w' base v' (ns ++ [n]) (vs ++ [x]):=by
 have hk : ∀ {m : PN} {u : Value},NodeAt (RX base v) w u m -> NodeAt (RX base v') w' u m:=by
  intro m u hu
  refine ((hu.imp (Y:=fun b=>RX base v b /\ b < w.heap.size) (fun b hb hl=>⟨hb,hl⟩)).mono (w':=w') ?_).imp ?_
  ·intro b o c hb hc
   exact hG.cell hc (fun e=>hb.1.2 e.symm)
  ·rintro b ⟨⟨hb,hne⟩,hl⟩ -
   refine ⟨hb,fun e=>?_⟩
   rcases hv' b e with h | h
   ·exact hne h
   ·omega
 refine ⟨by simpa using hO,by simp [hR.len],fun j h1 h2=>?_⟩
 by_cases hj : j < ns.length
 ·have hj' : j < vs.length:=by rw [<- hR.len];exact hj
  rw [List.getElem_append_left hj,List.getElem_append_left hj']
  exact hk (hR.node j hj hj')
 ·have e1 : j=ns.length:=by simp at h1;omega
  have e2 : j=vs.length:=by rw [<- hR.len];exact e1
  rw [List.getElem_append_right (by omega),List.getElem_append_right (by omega)]
  simp [e1,hR.len]
  exact hk hn
theorem PSt.lt {w : World} {pb hi : Nat} {al fl : Bool} {cur : Item} {S : List Item} {mp : Option Nat} {names : Names} (h : PSt w pb hi al fl cur S mp names) : pb < w.heap.size:=h.1.lt.1
theorem acceptP_yes {w : World} {pb hi : Nat} {al fl : Bool} {cur x : Item} {S : List Item} {mp : Option Nat} {names : Names} (t : Int) (h : PSt w pb hi al fl cur (x :: S) mp names) (ht : (x.typ == t)=true) :
  Calls Tryz.prog 110 #[.pointer (some ⟨pb,0,none⟩),.int .i64 t] w fun e w'=>e=.returned (.tuple #[itemV x,.bool true]) /\ Step pb mp mp w w' /\ PSt w' pb hi al false x S mp names :=
 (accept_yes t h.1 (eq_of_beq ht)).mono fun e w' ⟨he,hX,hP⟩=>⟨he,Step.of_pb hX,h.step hX hP⟩
theorem acceptP_no {w : World} {pb hi : Nat} {al fl : Bool} {cur x : Item} {S : List Item} {mp : Option Nat} {names : Names} (t : Int) (h : PSt w pb hi al fl cur (x :: S) mp names) (ht : (x.typ == t)=false) :
  Calls Tryz.prog 110 #[.pointer (some ⟨pb,0,none⟩),.int .i64 t] w fun e w'=>e=.returned (.tuple #[itemV ⟨0,⟨#[]⟩,0⟩,.bool false]) /\ Step pb mp mp w w' /\ PSt w' pb hi al true x (x :: S) mp names :=
 (accept_no t h.1 (by simpa using ht)).mono fun e w' ⟨he,hX,hP⟩=>⟨he,Step.of_pb hX,h.step hX hP⟩
theorem rewindP {w : World} {pb hi : Nat} {al : Bool} {cur : Item} {S : List Item} {mp : Option Nat} {names : Names} (h : PSt w pb hi al true cur S mp names) :
  Calls Tryz.prog 112 #[.pointer (some ⟨pb,0,none⟩)] w fun e w'=>e=.returned (.tuple #[]) /\ Step pb mp mp w w' /\ PSt w' pb hi al true cur S mp names :=
 (rewind_calls h.1).mono fun e w' ⟨he,hX,hP⟩=>⟨he,Step.of_pb hX,h.step hX hP⟩
theorem rewindP' {w : World} {pb hi : Nat} {al : Bool} {cur : Item} {S : List Item} {mp : Option Nat} {names : Names} (h : PSt w pb hi al false cur S mp names) :
  Calls Tryz.prog 112 #[.pointer (some ⟨pb,0,none⟩)] w fun e w'=>e=.returned (.tuple #[]) /\ Step pb mp mp w w' /\ PSt w' pb hi al true cur (cur :: S) mp names :=
 (rewind_calls h.1).mono fun e w' ⟨he,hX,hP⟩=>⟨he,Step.of_pb hX,h.step hX hP⟩
theorem nextP {w : World} {pb hi : Nat} {al fl : Bool} {cur x : Item} {S : List Item} {mp : Option Nat} {names : Names} (h : PSt w pb hi al fl cur (x :: S) mp names) :
  Calls Tryz.prog 138 #[.pointer (some ⟨pb,0,none⟩)] w fun e w'=>e=.returned (itemV x) /\ Step pb mp mp w w' /\ PSt w' pb hi al false x S mp names :=
 (next_calls h.1).mono fun e w' ⟨he,hX,hP⟩=>⟨he,Step.of_pb hX,h.step hX hP⟩
theorem peekP {w : World} {pb hi : Nat} {al fl : Bool} {cur x : Item} {S : List Item} {mp : Option Nat} {names : Names} (h : PSt w pb hi al fl cur (x :: S) mp names) :
  Calls Tryz.prog 139 #[.pointer (some ⟨pb,0,none⟩)] w fun e w'=>e=.returned (itemV x) /\ Step pb mp mp w w' /\ PSt w' pb hi al true x (x :: S) mp names :=
 (peek_calls h.1).mono fun e w' ⟨he,hX,hP⟩=>⟨he,Step.of_pb hX,h.step hX hP⟩
theorem unexpectedP {w : World} {pb hi : Nat} {al fl : Bool} {cur : Item} {S : List Item} {mp : Option Nat} {names : Names} (h : PSt w pb hi al fl cur S mp names) (s : ByteArray) (hs : s.size <= 100) :
  Calls Tryz.prog 111 #[.pointer (some ⟨pb,0,none⟩),.string s] w fun e w'=>(∃ p,e=.returned (.iface 184 (.pointer p))) /\ Ext w w':=unexpected_calls h.1 s hs
theorem Step.grown {pb : Nat} {mp mp' : Option Nat} {a b c : World} {row : Option Nat} (h : Step pb mp mp' a b) (hg : b.grownBy c row) (hr : ∀ k,row=some k -> a.heap.size <= k) : Step pb mp mp' a c:=⟨h.1.grown hg hr,h.2⟩
theorem PSt.grown {w w' : World} {pb hi : Nat} {al fl : Bool} {cur : Item} {S : List Item} {mp : Option Nat} {names : Names} (h : PSt w pb hi al fl cur S mp names) {base : Nat} {v : Value} {n : Nat} {xs : List Value} (hO : w.ownsRow base 78 1 v n xs) (hg : w.grownBy w' v.ownBlock) (hb : pb < base) (hh : hi <= base) : PSt w' pb hi al fl cur S mp names:=by
 have hE : ExtM (fun k=>v.ownBlock=some k) w w':=⟨hg.os,hg.tape,hg.output,hg.size,fun k hk hm=>hg.block k hk (fun e=>hm e.symm)⟩
 have hlo : ∀ k,v.ownBlock=some k -> base <= k:=fun k hk=>(hO.lt k hk).1
 refine ⟨h.1.extM hE (fun e=>by have:=hlo _ e;omega) (fun b hb' e=>by have:=hlo _ e;omega),h.2.1.extM hE ?_,h.2.2⟩
 intro mb e hm
 have hM:=h.2.1
 rw [e] at hM
 obtain ⟨D,⟨es,clock,hmb,-⟩,-⟩:=hM
 rcases hO.2 with ⟨rfl,-⟩ | ⟨g,cap,cur,rfl,hg',hgg,-⟩
 ·cases hm
 ·obtain rfl : g=mb:=by simpa [Value.ownBlock] using hm
  rw [hgg] at hmb;cases hmb
theorem PPost.err {pb hi : Nat} {al : Bool} {q : Bool -> Prop} {mp mp' : Option Nat} {w w' : World} {v : Value} {p : Option Addr} (h : Step pb mp mp' w w') : PPost pb hi al q mp w none (.returned (.tuple #[v,.iface 184 (.pointer p)])) w':=⟨mp',h,v,p,rfl⟩
theorem errne (p : Option Addr) (w : World) : (binOp BinOp.neq 122 (.iface 184 (.pointer p)) .nilIface).run Tryz.prog w=.ok (.bool true) w:=by kernel_rfl
theorem nilne (w : World) : (binOp BinOp.neq 122 .nilIface .nilIface).run Tryz.prog w=.ok (.bool false) w:=by kernel_rfl
theorem ta_no {T : Nat} (h : T=127 \/ T=130 \/ T=136 \/ T=140) (x : Value) (w : World) : (Instr.typeAssert (.iface T x) 78 138 true).run Tryz.prog w=.ok (.tuple #[.agg #[.string ⟨#[]⟩,.nilIface,.int .i64 0],.bool false]) w:=by
 rcases h with rfl | rfl | rfl | rfl <;> kernel_rfl
theorem populate_shape {X : Nat -> Prop} {w : World} {al : Bool} {nm : ByteArray} {ks : List PN} {n : PN} {v : Value} (h : populate al nm ks=some n) (hv : NodeAt X w v n) : ∃ T x,v=.iface T x /\ (T=127 \/ T=130 \/ T=136 \/ T=140):=by
 unfold populate at h
 split at h
 ·cases h
 ·split at h
  ·cases h
  ·split at h
   ·cases h;rw [NodeAt] at hv;obtain ⟨a,c,rfl,-⟩:=hv;exact ⟨_,_,rfl,by simp⟩
   ·split at h
    ·cases h
    ·split at h
     ·cases h;rw [NodeAt] at hv;subst hv;exact ⟨_,_,rfl,by simp⟩
     ·split at h
      ·split at h
       ·cases h;rw [NodeAt] at hv;obtain ⟨a,c,rfl,-⟩:=hv;exact ⟨_,_,rfl,by simp⟩
       ·cases h
      ·cases h;rw [NodeAt] at hv;obtain ⟨a,c,rfl,-⟩:=hv;exact ⟨_,_,rfl,by simp⟩
theorem node_walk {al : Bool} {f : Nat} (hf : f <= 100000) (hObj : ∀ g,g < f + 1 -> ObjectC al g) : NodeC al (f + 1):=by
 intro S nm r hr hlen pb hi fl cur mp w hP
 obtain ⟨i0,hi0,hz0,hz1,hz2⟩:=info_parts info78
 cases S with
 | nil=>rw [nodeM] at hr;cases hr
 | cons x S1 =>
 rw [nodeM_cons] at hr
 have HP:=Lib.hid hP
 have HO:=Lib.hid hObj
 clear hP hObj
 have q5:=nilne
 cases hx : (x.typ == 1)
 ·rw [hx] at hr
  obtain rfl : r=none:=by simpa using hr.symm
  have HX:=Lib.hid hx
  clear hx hr
  go_enter Tryz.func87,Tryz.ntmps87
  go_wp2_with fail
  refine (acceptP_no 1 HP.out HX.out).mono ?_
  rintro e w1 ⟨rfl,hS1,hP1⟩
  have HS1:=Lib.hid hS1
  have HP1:=Lib.hid hP1
  clear hS1 hP1
  go_wp2_with fail
  refine (unexpectedP (HP1.out.ext (Ext.alloc _ _)) _ (by decide)).mono ?_
  rintro e w2 ⟨⟨p,rfl⟩,hE⟩
  go_wp2_with fail
  go_ret2
  exact PPost.err (HS1.out.trans (Step.of_ext ((Ext.alloc _ _).trans hE)))
 ·rw [hx,if_pos rfl] at hr
  cases S1 with
  | nil=>cases hr
  | cons t S2 =>
  simp only at hr
  cases ht : (t.typ == 5)
  ·rw [ht] at hr
   obtain rfl : r=none:=by simpa using hr.symm
   have HX:=Lib.hid hx
   have HT:=Lib.hid ht
   clear hx hr ht
   go_enter Tryz.func87,Tryz.ntmps87
   go_wp2_with fail
   refine (acceptP_yes 1 HP.out HX.out).mono ?_
   rintro e w1 ⟨rfl,hS1,hP1⟩
   have HS1:=Lib.hid hS1
   have HP1:=Lib.hid hP1
   clear hS1 hP1
   go_wp2_with fail
   refine (acceptP_no 5 (HP1.out.ext (Ext.alloc _ _)) HT.out).mono ?_
   rintro e w2 ⟨rfl,hS2,hP2⟩
   have HS2:=Lib.hid (HS1.out.trans ((Step.of_ext (Ext.alloc _ _)).trans hS2))
   have HP2:=Lib.hid hP2
   clear hS2 hP2
   go_wp2_with fail
   refine (unexpectedP (HP2.out.ext (Ext.alloc _ _)) _ (by decide)).mono ?_
   rintro e w3 ⟨⟨p,rfl⟩,hE⟩
   go_wp2_with fail
   go_ret2
   exact PPost.err (HS2.out.trans (Step.of_ext ((Ext.alloc _ _).trans hE)))
  ·rw [ht,if_pos rfl] at hr
   have HR:=Lib.hid hr
   have HX:=Lib.hid hx
   have HT:=Lib.hid ht
   clear hx hr ht
   go_enter Tryz.func87,Tryz.ntmps87
   go_wp2_with fail
   refine (acceptP_yes 1 HP.out HX.out).mono ?_
   rintro e w1 ⟨rfl,hS1,hP1⟩
   have HS1:=Lib.hid hS1
   have HP1:=Lib.hid hP1
   clear hS1 hP1
   go_wp2_with fail
   refine (acceptP_yes 5 (HP1.out.ext (Ext.alloc _ _)) HT.out).mono ?_
   rintro e w2 ⟨rfl,hS2,hP2⟩
   have HS2:=Lib.hid (HS1.out.trans ((Step.of_ext (Ext.alloc _ _)).trans hS2))
   have HP2:=Lib.hid hP2
   clear hS2 hP2
   go_wp2_with fail
   have hE3:=Ext.alloc w2 (.cells #[.int .i64 t.typ,.string t.val,.int .i64 t.pos] 115)
   have HT2:=Lib.hid (Blk.new w2 #[.int .i64 t.typ,.string t.val,.int .i64 t.pos] 115)
   have HP3:=Lib.hid (HP2.out.ext hE3)
   have HS3:=Lib.hid (HS2.out.trans (Step.of_ext hE3))
   have hpb2 : pb < w2.heap.size:=HP2.out.lt
   obtain ⟨R0,HR0⟩ : ∃ R0,Hid (objsM al f 2 S2 nm=some R0):=by
    rcases andThen_some HR.out with ⟨e,-⟩ | ⟨a,S,nm',e,-⟩
    ·exact ⟨_,Lib.hid e⟩
    ·exact ⟨_,Lib.hid e⟩
   clear hE3
   go_loopg [8] f (fun k v w'=>∃ S' nm' fl' cur' mp' ks vs r',objsM al k 2 S' nm'=some r' /\ k <= f /\ Step pb mp mp' w w' /\ PSt w' pb hi al fl' cur' S' mp' nm' /\ Row w' (w2.heap.size + 1) v ks vs /\ (ks=[] -> v=.slice none 0 0) /\ R0=r'.map (fun q=>(ks ++ q.1,q.2.1,q.2.2)) /\ S'.length + nm'.length <= 300000 /\ ks.length + k=f /\ Blk w' w2.heap.size #[.int .i64 t.typ,.string t.val,.int .i64 t.pos] 115)
   case atStart =>
    refine ⟨S2,nm,_,_,mp,[],[],R0,HR0.out,Nat.le_refl _,HS3.out,HP3.out,⟨World.ownsRow_nil _ _ _ _,rfl,fun j h1=>absurd h1 (by simp)⟩,fun _=>rfl,by cases R0 <;> simp,?_,?_,HT2.out⟩
    ·simp at hlen ⊢;omega
    ·simp
   case round =>
    obtain ⟨S',nm',fl',cur',mp',ks,vs,r',hM,hkf,hS,hP,hRow,hnl,hR0,hl1,hl2,hB⟩:=hrel
    cases gk with
    | zero=>rw [objsM] at hM;cases hM
    | succ k =>
    cases S' with
    | nil=>rw [objsM] at hM;cases hM
    | cons y S4 =>
    rw [objsM_cons] at hM
    have KS:=Lib.hid hS
    have KP:=Lib.hid hP
    have KR:=Lib.hid hRow
    have K0:=Lib.hid hR0
    have KB:=Lib.hid hB
    have KN:=Lib.hid hnl
    have hlt:=hB.lt
    clear hS hP hRow hR0 hB hnl
    cases hy : (y.typ == 2)
    ·rw [hy] at hM
     simp only [Bool.false_eq_true,if_false] at hM
     have HY:=Lib.hid hy
     have HM:=Lib.hid hM
     clear hy hM
     go_wp2_with fail
     refine (acceptP_no 2 KP.out HY.out).mono ?_
     rintro e w4 ⟨rfl,s4,p4⟩
     have HS4:=Lib.hid s4
     have HP4:=Lib.hid p4
     clear s4 p4
     go_wp2_with fail
     refine (rewindP (HP4.out.ext (Ext.alloc _ _))).mono ?_
     rintro e w5 ⟨rfl,s5,p5⟩
     have HS5:=Lib.hid (HS4.out.trans ((Step.of_ext (Ext.alloc _ _)).trans s5))
     have HP5:=Lib.hid p5
     clear s5 p5
     have q6:=errne
     rcases andThen_some HM.out with ⟨ho,rfl⟩ | ⟨n,S5,nm5,ho,hM2⟩
     ·have HOO:=Lib.hid ho
      clear ho
      go_wp2_with fail
      refine (HO.out k (by omega) (y :: S4) nm' _ HOO.out hl1 pb hi _ _ _ _ HP5.out).mono ?_
      rintro e w6 ⟨mp6,s6,v,p,rfl⟩
      have HS6:=Lib.hid (KS.out.trans (HS5.out.trans s6))
      clear s6
      go_wp2_with fail
      go_ret2
      have e1 : R0=none:=K0.out
      have e2:=HR.out
      rw [HR0.out,e1] at e2
      obtain rfl : r=none:=by simpa [PRes.andThen] using e2.symm
      exact PPost.err HS6.out
     ·have HOO:=Lib.hid ho
      have HM2:=Lib.hid hM2
      clear ho hM2
      go_wp2_with fail
      refine (HO.out k (by omega) (y :: S4) nm' _ HOO.out hl1 pb hi _ _ _ _ HP5.out).mono ?_
      rintro e w6 ⟨mp6,s6,v,fl6,cur6,rfl,hv,-,p6⟩
      have hless:=(model_len al k).2.2.1 _ _ _ _ _ HOO.out
      have HS56:=Lib.hid (HS5.out.trans s6)
      have HP6:=Lib.hid p6
      have HV:=Lib.hid hv
      clear s6 p6 hv
      have HR6:=Lib.hid (KR.out.step HS56.out KP.out (by omega))
      rcases HV.out.shape with rfl | ⟨tt,xx,rfl⟩
      ·go_wp2_with (first
        | (at_builtin;refine wpList_append_own_at _ rfl _ _ 125 rfl (w2.heap.size + 1) 78 i0 _ 1 16 underlying125 hi0 hz0 hz1 hz2 rfl (by decide) _ _ _ rfl (HR6.out.own.alloc _) ⟨w6.heap.size,0,none⟩ 1 1 [.nilIface] rfl rfl ?c1 ?c2 ?c3 ?c4 ?c5 ?_)
        | go_in)
       case c1=>exact cell_one_new _ _ _
       case c2=>intro u hu;simp at hu;subst hu;rfl
       case c3=>have:=HR6.out.len;unfold maxLen;omega
       case c4=>have:=HR6.out.len;omega
       case c5=>have:=HS56.out.1.size;simp;omega
       intro v' w7 hO7 hG hnil hloc
       clear hnil
       have HFin:=Lib.hid (And.intro hO7 (And.intro hG hloc))
       clear hO7 hG hloc
       go_wp2_with fail
       go_roundg k
       case measure=>omega
       case rel =>
        obtain ⟨hO7,hG,hloc⟩:=HFin.out
        have hEa:=Ext.alloc w6 (.cells #[.nilIface] 78)
        have hPa:=HP6.out.ext hEa
        have hown : ∀ q,u8.ownBlock=some q -> w2.heap.size + 1 <= q:=fun q hq=>(HR6.out.own.lt q hq).1
        have h26:=HS56.out.1.size
        have hw2:=HS2.out.1.size
        have hhi:=HP2.out.1.lt.2
        have hB7 : Blk w7 w2.heap.size #[.int .i64 t.typ,.string t.val,.int .i64 t.pos] 115:=by
         refine Blk.grown' (Blk.ext ?_ hEa) hG (by intro e;have:=hown _ e.symm;omega)
         refine KB.out.extM HS56.out.1 ?_
         rintro (e | e)
         ·omega
         ·have hM:=KP.out.2.1
          rw [<- e] at hM
          obtain ⟨D,⟨es,clock,hm,-⟩,-⟩:=hM
          have:=KB.out
          unfold Blk at this
          rw [hm] at this;cases this
        have hS7 : Step pb mp mp6 w w7:=((KS.out.trans HS56.out).trans (Step.of_ext hEa)).grown hG (fun q hq=>by have:=hown q hq;omega)
        have hP7 : PSt w7 pb hi al fl6 cur6 S5 mp6 nm5:=hPa.grown (HR6.out.own.alloc _) hG (by omega) (by omega)
        have hR7 : Row w7 (w2.heap.size + 1) v' (ks ++ [n]) (vs ++ [.nilIface]):=by
         have hRa : Row (w6.alloc (.cells #[.nilIface] 78)) (w2.heap.size + 1) u8 ks vs:=⟨HR6.out.own.alloc _,HR6.out.len,fun j h1 h2=>(HR6.out.node j h1 h2).mono (hEa.keeps _)⟩
         refine hRa.snoc ?_ hG hO7 ?_
         ·refine ((HV.out.imp ?_).mono (hEa.keeps _))
          intro b hb hbl
          have h5:=HS5.out.1.size
          refine ⟨by omega,fun e=>?_⟩
          have:=(KR.out.own.lt b e).2
          omega
         ·intro g hg
          rcases hloc with h | h
          ·exact .inl (h ▸ hg)
          ·rw [h] at hg;cases hg;exact .inr (by simp)
        rcases andThen_some HM2.out with ⟨e2,rfl⟩ | ⟨ks2,S6,nm6,e2,e3⟩
        ·refine ⟨S5,nm5,fl6,cur6,mp6,ks ++ [n],_,none,e2,by omega,hS7,hP7,hR7,fun e=>absurd e (by simp),by rw [K0.out];rfl,by omega,by simp;omega,hB7⟩
        ·cases e3
         refine ⟨S5,nm5,fl6,cur6,mp6,ks ++ [n],_,some (ks2,S6,nm6),e2,by omega,hS7,hP7,hR7,fun e=>absurd e (by simp),by rw [K0.out];simp,by omega,by simp;omega,hB7⟩
      ·go_wp2_with (first
        | (at_builtin;refine wpList_append_own_at _ rfl _ _ 125 rfl (w2.heap.size + 1) 78 i0 _ 1 16 underlying125 hi0 hz0 hz1 hz2 rfl (by decide) _ _ _ rfl (HR6.out.own.alloc _) ⟨w6.heap.size,0,none⟩ 1 1 [.iface tt xx] rfl rfl ?c1 ?c2 ?c3 ?c4 ?c5 ?_)
        | go_in)
       case c1=>exact cell_one_new _ _ _
       case c2=>intro u hu;simp at hu;subst hu;rfl
       case c3=>have:=HR6.out.len;unfold maxLen;omega
       case c4=>have:=HR6.out.len;omega
       case c5=>have:=HS56.out.1.size;simp;omega
       intro v' w7 hO7 hG hnil hloc
       clear hnil
       have HFin:=Lib.hid (And.intro hO7 (And.intro hG hloc))
       clear hO7 hG hloc
       go_wp2_with fail
       go_roundg k
       case measure=>omega
       case rel =>
        obtain ⟨hO7,hG,hloc⟩:=HFin.out
        have hEa:=Ext.alloc w6 (.cells #[.iface tt xx] 78)
        have hPa:=HP6.out.ext hEa
        have hown : ∀ q,u8.ownBlock=some q -> w2.heap.size + 1 <= q:=fun q hq=>(HR6.out.own.lt q hq).1
        have h26:=HS56.out.1.size
        have hw2:=HS2.out.1.size
        have hhi:=HP2.out.1.lt.2
        have hB7 : Blk w7 w2.heap.size #[.int .i64 t.typ,.string t.val,.int .i64 t.pos] 115:=by
         refine Blk.grown' (Blk.ext ?_ hEa) hG (by intro e;have:=hown _ e.symm;omega)
         refine KB.out.extM HS56.out.1 ?_
         rintro (e | e)
         ·omega
         ·have hM:=KP.out.2.1
          rw [<- e] at hM
          obtain ⟨D,⟨es,clock,hm,-⟩,-⟩:=hM
          have:=KB.out
          unfold Blk at this
          rw [hm] at this;cases this
        have hS7 : Step pb mp mp6 w w7:=((KS.out.trans HS56.out).trans (Step.of_ext hEa)).grown hG (fun q hq=>by have:=hown q hq;omega)
        have hP7 : PSt w7 pb hi al fl6 cur6 S5 mp6 nm5:=hPa.grown (HR6.out.own.alloc _) hG (by omega) (by omega)
        have hR7 : Row w7 (w2.heap.size + 1) v' (ks ++ [n]) (vs ++ [.iface tt xx]):=by
         have hRa : Row (w6.alloc (.cells #[.iface tt xx] 78)) (w2.heap.size + 1) u8 ks vs:=⟨HR6.out.own.alloc _,HR6.out.len,fun j h1 h2=>(HR6.out.node j h1 h2).mono (hEa.keeps _)⟩
         refine hRa.snoc ?_ hG hO7 ?_
         ·refine ((HV.out.imp ?_).mono (hEa.keeps _))
          intro b hb hbl
          have h5:=HS5.out.1.size
          refine ⟨by omega,fun e=>?_⟩
          have:=(KR.out.own.lt b e).2
          omega
         ·intro g hg
          rcases hloc with h | h
          ·exact .inl (h ▸ hg)
          ·rw [h] at hg;cases hg;exact .inr (by simp)
        rcases andThen_some HM2.out with ⟨e2,rfl⟩ | ⟨ks2,S6,nm6,e2,e3⟩
        ·refine ⟨S5,nm5,fl6,cur6,mp6,ks ++ [n],_,none,e2,by omega,hS7,hP7,hR7,fun e=>absurd e (by simp),by rw [K0.out];rfl,by omega,by simp;omega,hB7⟩
        ·cases e3
         refine ⟨S5,nm5,fl6,cur6,mp6,ks ++ [n],_,some (ks2,S6,nm6),e2,by omega,hS7,hP7,hR7,fun e=>absurd e (by simp),by rw [K0.out];simp,by omega,by simp;omega,hB7⟩
    ·rw [hy,if_pos rfl] at hM
     obtain rfl:=Option.some.inj hM
     have e0 : R0=some (ks,S4,nm'):=by rw [K0.out];simp
     have e2:=HR.out
     rw [HR0.out,e0] at e2
     simp only [PRes.andThen] at e2
     cases hsd : said t.val ks
     ·rw [hsd] at e2;cases e2
     rw [hsd,if_pos rfl] at e2
     have ER:=Lib.hid (Option.some.inj e2)
     have HSD:=Lib.hid hsd
     have HY:=Lib.hid hy
     obtain ⟨a,c,rfl,hc,hV,-⟩:=KR.out.vals
     have HV:=Lib.hid hV
     have KN2 : Hid (ks=[] -> a=none /\ c=0):=Lib.hid (fun e=>by subst e;have:=KN.out rfl;simp at this;exact this)
     clear hM e0 e2 hsd hy hV
     go_wp2_with fail
     refine (acceptP_yes 2 KP.out HY.out).mono ?_
     rintro e w4 ⟨rfl,s4,p4⟩
     have HS4:=Lib.hid s4
     have HP4:=Lib.hid p4
     clear s4 p4
     have hkp : Keeps (fun b=>b ≠ pb) wr w4:=HS4.out.keeps KP.out (fun b h=>h)
     have ct : w4.cell? ⟨w2.heap.size,1,none⟩=some (.string t.val):=hkp _ _ _ (by omega) (by rw [KB.out.cell];rfl)
     have hctl:=cell_lt ct
     simp only at hctl
     have hEb:=Ext.alloc w4 (.cells #[.int .i64 y.typ,.string y.val,.int .i64 y.pos] 115)
     have HV4 : Hid (ValsAt (RX (w2.heap.size + 1) (.slice a ks.length c)) (w4.alloc (.cells #[.int .i64 y.typ,.string y.val,.int .i64 y.pos] 115)) a ks):=by
      obtain ⟨vs',g1,g2,g3⟩:=HV.out
      refine Lib.hid ⟨vs',g1,fun j h1 h2=>(g2 j h1 h2).mono ((HS4.out.keeps KP.out (fun b h=>by have:=h.1;omega)).trans (hEb.keeps _)),fun hne=>?_⟩
      obtain ⟨b,o,rfl,hcc⟩:=g3 hne
      refine ⟨b,o,rfl,fun j u hu=>hEb.keep (hkp _ _ _ ?_ (hcc j u hu))⟩
      have:=(KR.out.own.lt b rfl).1
      omega
     go_wp2_with fail
     refine (populateM_calls (HP4.out.ext hEb) t.val ks HSD.out HV4.out hc KN2.out (by omega)).mono ?_
     rintro e w5 ⟨hr,hE5⟩
     have ER2:=ER.out
     have hS5 : Step pb mp mp' w w5:=(KS.out.trans HS4.out).trans (Step.of_ext (hEb.trans hE5))
     have hP5 : PSt w5 pb hi al false y S4 mp' nm':=(HP4.out.ext hEb).ext hE5
     have hw02 : w.heap.size <= w2.heap.size:=HS2.out.1.size
     have hw2r : w2.heap.size < w4.heap.size:=hctl
     cases hpop : populate al t.val ks with
     | none =>
      rw [hpop] at hr ER2
      obtain rfl : r=none:=by simpa using ER2.symm
      obtain ⟨v,p,rfl⟩:=hr
      have HS5:=Lib.hid hS5
      have q6:=errne p
      clear hpop ER2 hS5 hP5
      go_wp2_with fail
      go_ret2
      exact PPost.err HS5.out
     | some n =>
      rw [hpop] at hr ER2
      obtain rfl : r=some (n,S4,nm'):=by simpa using ER2.symm
      obtain ⟨v,rfl,hv⟩:=hr
      have hv2:=hv.imp (Y:=fun b=>w.heap.size <= b) (fun b hb _=>by
       rcases hb with hb | hb
       ·have:=hb.1;omega
       ·simp at hb;omega)
      obtain ⟨T,xx,rfl,hT⟩:=populate_shape hpop hv
      have HF:=Lib.hid (And.intro hS5 (And.intro hP5 hv2))
      clear hpop ER2 hS5 hP5 hv hv2
      have hta:=ta_no hT xx
      clear hT
      go_wp2_with fail
      go_ret2
      obtain ⟨f1,f2,f3⟩:=HF.out
      exact ⟨mp',f1.trans (Step.of_ext (Ext.alloc _ _)),_,false,y,rfl,f3.mono ((Ext.alloc _ _).keeps _),rfl,f2.ext (Ext.alloc _ _)⟩
end Go.Proofs.YtigalkobmfbdaaaGreatDoor
set_option maxRecDepth 100000
set_option maxHeartbeats 4000000
namespace Go.Proofs.YtigalkobmfbdaaaGreatDoor
open Go.RowKit
theorem obj_string {al : Bool} {pb hi : Nat} {fl : Bool} {cur x : Item} {S : List Item} {nm : Names} {mp : Option Nat} {w : World} (hx : x.typ=10) (hP : PSt w pb hi al fl cur (x :: S) mp nm) :
  Calls Tryz.prog 113 #[.pointer (some ⟨pb,0,none⟩)] w fun e w'=>PPost pb hi al (fun _=>True) mp w (some (.str x.val,S,nm)) e w':=by
 have HP:=Lib.hid hP
 clear hP
 go_enter Tryz.func113,Tryz.ntmps113
 go_wp2_with fail
 refine (nextP HP.out).mono ?_
 rintro e w1 ⟨rfl,s1,p1⟩
 have HS1:=Lib.hid s1
 have HP1:=Lib.hid p1
 clear s1 p1
 go_wp2_with fail
 go_ret2
 exact ⟨mp,HS1.out.trans (Step.of_ext (Ext.alloc _ _)),_,false,x,rfl,by rw [NodeAt];rfl,trivial,HP1.out.ext (Ext.alloc _ _)⟩
theorem obj_nil {al : Bool} {pb hi : Nat} {fl : Bool} {cur x : Item} {S : List Item} {nm : Names} {mp : Option Nat} {w : World} (hx : x.typ=6) (hv : (x.val.toList == [110,105,108])=true) (hP : PSt w pb hi al fl cur (x :: S) mp nm) :
  Calls Tryz.prog 113 #[.pointer (some ⟨pb,0,none⟩)] w fun e w'=>PPost pb hi al (fun _=>True) mp w (some (.nil,S,nm)) e w':=by
 have HP:=Lib.hid hP
 clear hP
 go_enter Tryz.func113,Tryz.ntmps113
 go_wp2_with fail
 refine (nextP HP.out).mono ?_
 rintro e w1 ⟨rfl,s1,p1⟩
 have HS1:=Lib.hid s1
 have HP1:=Lib.hid p1
 clear s1 p1
 go_wp2_with fail
 go_ret2
 exact ⟨mp,HS1.out.trans (Step.of_ext ((Ext.alloc _ _).trans (Ext.alloc _ _))),_,false,x,rfl,by rw [NodeAt];rfl,trivial,HP1.out.ext ((Ext.alloc _ _).trans (Ext.alloc _ _))⟩
theorem obj_err {al : Bool} {pb hi : Nat} {fl : Bool} {cur x : Item} {S : List Item} {nm : Names} {mp : Option Nat} {w : World} (h1 : (x.typ == 1)=false) (h2 : (x.typ == 3)=false) (h3 : (x.typ == 6)=false) (h4 : (x.typ == 9)=false) (h5 : (x.typ == 10)=false) (hP : PSt w pb hi al fl cur (x :: S) mp nm) :
  Calls Tryz.prog 113 #[.pointer (some ⟨pb,0,none⟩)] w fun e w'=>PPost pb hi al (fun _=>True) mp w none e w':=by
 have HP:=Lib.hid hP
 clear hP
 go_enter Tryz.func113,Tryz.ntmps113
 go_wp2_with fail
 refine (nextP HP.out).mono ?_
 rintro e w1 ⟨rfl,s1,p1⟩
 have HS1:=Lib.hid s1
 have HP1:=Lib.hid p1
 clear s1 p1
 go_wp2_with fail
 refine (unexpectedP (HP1.out.ext (Ext.alloc _ _)) _ (by decide)).mono ?_
 rintro e w2 ⟨⟨p,rfl⟩,hE⟩
 go_wp2_with fail
 go_ret2
 exact PPost.err (HS1.out.trans (Step.of_ext ((Ext.alloc _ _).trans hE)))
theorem obj_array {al : Bool} {pb hi : Nat} {fl : Bool} {cur x : Item} {S : List Item} {nm : Names} {mp : Option Nat} {w : World} {r : Option (PN × List Item × Names)} (hx : x.typ=3) (hA : ∀ (fl : Bool) (cur : Item) (w : World),PSt w pb hi al fl cur (x :: S) mp nm -> Calls Tryz.prog 140 #[.pointer (some ⟨pb,0,none⟩)] w fun e w'=>PPost pb hi al (fun _=>True) mp w r e w') (hP : PSt w pb hi al fl cur (x :: S) mp nm) :
  Calls Tryz.prog 113 #[.pointer (some ⟨pb,0,none⟩)] w fun e w'=>PPost pb hi al (fun _=>True) mp w r e w':=by
 have HP:=Lib.hid hP
 clear hP
 have HA:=Lib.hid hA
 clear hA
 go_enter Tryz.func113,Tryz.ntmps113
 go_wp2_with fail
 refine (nextP HP.out).mono ?_
 rintro e w1 ⟨rfl,s1,p1⟩
 have HS1:=Lib.hid s1
 have HP1:=Lib.hid p1
 clear s1 p1
 go_wp2_with fail
 refine (rewindP' (HP1.out.ext (Ext.alloc _ _))).mono ?_
 rintro e w2 ⟨rfl,s2,p2⟩
 have HS2:=Lib.hid (HS1.out.trans ((Step.of_ext (Ext.alloc _ _)).trans s2))
 have HP2:=Lib.hid p2
 clear s2 p2
 go_wp2_with fail
 refine (HA.out _ _ _ HP2.out).mono ?_
 rintro e w3 ⟨mp3,s3,hr⟩
 have HS3:=Lib.hid (HS2.out.trans s3)
 cases r with
 | none =>
  obtain ⟨v,p,rfl⟩:=hr
  clear s3
  go_wp2_with fail
  go_ret2
  exact PPost.err HS3.out
 | some q =>
  obtain ⟨n,S',nm'⟩:=q
  obtain ⟨v,fl',cur',rfl,hv,-,p3⟩:=hr
  have HV:=Lib.hid (And.intro hv p3)
  clear hv p3 s3
  go_wp2_with fail
  go_ret2
  refine ⟨mp3,HS3.out,v,fl',cur',rfl,?_,trivial,HV.out.2⟩
  have:=HS2.out.1.size
  exact HV.out.1.imp (fun b hb _=>by omega)
theorem field_typ (z : Item) (w : World) : (Instr.field 115 (itemV z) 0).run Tryz.prog w=.ok (.int .i64 z.typ) w:=by kernel_rfl
theorem obj_paren {al : Bool} {pb hi : Nat} {fl : Bool} {cur x : Item} {S : List Item} {nm : Names} {mp : Option Nat} {w : World} {f : Nat} {r : Option (PN × List Item × Names)} (hx : x.typ=1) (hN : NodeC al f) (hO : ∀ g,g < f -> ObjectC al g) (hM : ((nodeM al f (x :: S) nm).andThen fun n S2 nm2=>tailM al f n S2 nm2)=some r) (hl : (x :: S).length + nm.length <= 300000) (hP : PSt w pb hi al fl cur (x :: S) mp nm) :
  Calls Tryz.prog 113 #[.pointer (some ⟨pb,0,none⟩)] w fun e w'=>PPost pb hi al (fun _=>True) mp w r e w':=by
 have HP:=Lib.hid hP
 clear hP
 have HN:=Lib.hid hN
 have HO:=Lib.hid hO
 have HM0:=Lib.hid hM
 clear hN hO hM
 have KX : ∀ b,w.heap.size <= b -> b ≠ pb:=fun b hb=>by have:=HP.out.lt;omega
 have q5:=nilne
 go_enter Tryz.func113,Tryz.ntmps113
 go_wp2_with fail
 refine (nextP HP.out).mono ?_
 rintro e w1 ⟨rfl,s1,p1⟩
 have HS1:=Lib.hid s1
 have HP1:=Lib.hid p1
 clear s1 p1
 go_wp2_with fail
 refine (rewindP' (HP1.out.ext (Ext.alloc _ _))).mono ?_
 rintro e w2 ⟨rfl,s2,p2⟩
 have HS2:=Lib.hid (HS1.out.trans ((Step.of_ext (Ext.alloc _ _)).trans s2))
 have HP2:=Lib.hid p2
 clear s2 p2
 go_wp2_with fail
 rcases andThen_some HM0.out with ⟨e1,rfl⟩ | ⟨n,S2,nm2,e1,hM⟩
 ·refine (HN.out _ _ _ e1 hl pb hi _ _ _ _ HP2.out).mono ?_
  rintro e w3 ⟨mp3,s3,v,p,rfl⟩
  have HS3:=Lib.hid (HS2.out.trans s3)
  have q6:=errne p
  clear s3 e1
  go_wp2_with fail
  go_ret2
  exact PPost.err HS3.out
 ·refine (HN.out _ _ _ e1 hl pb hi _ _ _ _ HP2.out).mono ?_
  rintro e w3 ⟨mp3,s3,v,fl3,cur3,rfl,hv,-,p3⟩
  have hless:=(model_len al f).1 _ _ _ _ _ e1
  have HS3:=Lib.hid (HS2.out.trans s3)
  have HP3:=Lib.hid p3
  have HN3:=Lib.hid (hv.imp (Y:=fun b=>w.heap.size <= b) (fun b hb _=>by have:=HS2.out.1.size;omega))
  clear s3 p3 hv e1
  cases f with
  | zero=>rw [tailM] at hM;cases hM
  | succ g =>
  cases S2 with
  | nil=>rw [tailM] at hM;cases hM
  | cons z S3 =>
  rw [tailM_cons] at hM
  have qf:=field_typ z
  rcases HN3.out.shape with rfl | ⟨tt,xx,rfl⟩
  all_goals
   go_wp2_with fail
   refine (peekP HP3.out).mono ?_
   rintro e wp ⟨rfl,sp,pp⟩
   have HSp:=Lib.hid (HS3.out.trans sp)
   have HPp:=Lib.hid pp
   have HNp:=Lib.hid (HN3.out.mono (sp.keeps HP3.out KX))
   clear sp pp
   cases hz : (z.typ == 8)
   ·rw [hz] at hM
    simp only [Bool.false_eq_true,if_false] at hM
    have HR:=Lib.hid (Option.some.inj hM)
    clear hM
    go_wp2_with fail
    go_ret2
    rw [<- HR.out]
    exact ⟨_,HSp.out,_,_,_,rfl,HNp.out,trivial,HPp.out⟩
   ·rw [hz,if_pos rfl] at hM
    have h8 : z.typ=8:=eq_of_beq hz
    clear hz
    have HM:=Lib.hid hM
    clear hM
    go_wp2_with fail
    refine (nextP HPp.out).mono ?_
    rintro e wn ⟨rfl,sn,pn⟩
    have HSn:=Lib.hid (HSp.out.trans sn)
    have HPn:=Lib.hid pn
    have HNn:=Lib.hid (HNp.out.mono (sn.keeps HPp.out KX))
    clear sn pn
    go_wp2_with fail
    rcases andThen_some HM.out with ⟨e1,rfl⟩ | ⟨t,S4,nm4,e1,e2⟩
    ·refine (HO.out g (by omega) _ _ _ e1 (by simp only [List.length_cons] at hless hl ⊢;omega) pb hi _ _ _ _ HPn.out).mono ?_
     rintro e wt ⟨mpt,st,vt,p,rfl⟩
     have HSt:=Lib.hid (HSn.out.trans st)
     have q6:=errne p
     clear st e1
     go_wp2_with fail
     go_ret2
     exact PPost.err HSt.out
    ·cases e2
     refine (HO.out g (by omega) _ _ _ e1 (by simp only [List.length_cons] at hless hl ⊢;omega) pb hi _ _ _ _ HPn.out).mono ?_
     rintro e wt ⟨mpt,st,vt,flt,curt,rfl,ht,-,pt⟩
     have HSt:=Lib.hid (HSn.out.trans st)
     have HPt:=Lib.hid pt
     have HNt:=Lib.hid (HNn.out.mono (st.keeps HPn.out KX))
     have HTt:=Lib.hid (ht.imp (Y:=fun b=>w.heap.size <= b) (fun b hb _=>by have:=HSn.out.1.size;omega))
     clear st pt ht e1
     rcases HTt.out.shape with rfl | ⟨t2,x2,rfl⟩
     all_goals
      go_wp2_with fail
      go_ret2
      exact ⟨_,HSt.out,_,_,_,rfl,by rw [NodeAt];exact ⟨_,_,rfl,HNt.out,HTt.out⟩,trivial,HPt.out⟩
theorem obj_blank {al : Bool} {pb hi : Nat} {fl : Bool} {cur x : Item} {S : List Item} {nm : Names} {mp : Option Nat} {w : World} {f : Nat} {r : Option (PN × List Item × Names)} (hx : x.typ=9) (hO : ∀ g,g < f -> ObjectC al g) (hM : tailM al f .any S nm=some r) (hl : (x :: S).length + nm.length <= 300000) (hP : PSt w pb hi al fl cur (x :: S) mp nm) :
  Calls Tryz.prog 113 #[.pointer (some ⟨pb,0,none⟩)] w fun e w'=>PPost pb hi al (fun _=>True) mp w r e w':=by
 have HP:=Lib.hid hP
 clear hP
 have HO:=Lib.hid hO
 clear hO
 have KX : ∀ b,w.heap.size <= b -> b ≠ pb:=fun b hb=>by have:=HP.out.lt;omega
 have q5:=nilne
 cases f with
 | zero=>rw [tailM] at hM;cases hM
 | succ g =>
 cases S with
 | nil=>rw [tailM] at hM;cases hM
 | cons z S3 =>
 rw [tailM_cons] at hM
 have qf:=field_typ z
 have hless : (z :: S3).length + nm.length <= (x :: z :: S3).length + nm.length:=by simp only [List.length_cons];omega
 go_enter Tryz.func113,Tryz.ntmps113
 go_wp2_with fail
 refine (nextP HP.out).mono ?_
 rintro e w1 ⟨rfl,s1,p1⟩
 have HS1:=Lib.hid s1
 have HP1:=Lib.hid p1
 clear s1 p1
 go_wp2_with fail
 have HS3:=Lib.hid (HS1.out.trans (Step.of_ext (Ext.alloc w1 (.cells #[.int .i64 x.typ,.string x.val,.int .i64 x.pos] 115))))
 have HP3:=Lib.hid (HP1.out.ext (Ext.alloc w1 (.cells #[.int .i64 x.typ,.string x.val,.int .i64 x.pos] 115)))
 have HN3 : Hid (NodeAt (fun b=>w.heap.size <= b) (w1.alloc (.cells #[.int .i64 x.typ,.string x.val,.int .i64 x.pos] 115)) (.iface 130 (.agg #[])) .any):=Lib.hid (by rw [NodeAt])
 rw [hx] at HS3 HP3 HN3
 refine (peekP HP3.out).mono ?_
 rintro e wp ⟨rfl,sp,pp⟩
 have HSp:=Lib.hid (HS3.out.trans sp)
 have HPp:=Lib.hid pp
 have HNp:=Lib.hid (HN3.out.mono (sp.keeps HP3.out KX))
 clear sp pp
 cases hz : (z.typ == 8)
 ·rw [hz] at hM
  simp only [Bool.false_eq_true,if_false] at hM
  have HR:=Lib.hid (Option.some.inj hM)
  clear hM
  go_wp2_with fail
  go_ret2
  rw [<- HR.out]
  exact ⟨_,HSp.out,_,_,_,rfl,HNp.out,trivial,HPp.out⟩
 ·rw [hz,if_pos rfl] at hM
  have h8 : z.typ=8:=eq_of_beq hz
  clear hz
  have HM:=Lib.hid hM
  clear hM
  go_wp2_with fail
  refine (nextP HPp.out).mono ?_
  rintro e wn ⟨rfl,sn,pn⟩
  have HSn:=Lib.hid (HSp.out.trans sn)
  have HPn:=Lib.hid pn
  have HNn:=Lib.hid (HNp.out.mono (sn.keeps HPp.out KX))
  clear sn pn
  go_wp2_with fail
  rcases andThen_some HM.out with ⟨e1,rfl⟩ | ⟨t,S4,nm4,e1,e2⟩
  ·refine (HO.out g (by omega) _ _ _ e1 (by simp only [List.length_cons] at hless hl ⊢;omega) pb hi _ _ _ _ HPn.out).mono ?_
   rintro e wt ⟨mpt,st,vt,p,rfl⟩
   have HSt:=Lib.hid (HSn.out.trans st)
   have q6:=errne p
   clear st e1
   go_wp2_with fail
   go_ret2
   exact PPost.err HSt.out
  ·cases e2
   refine (HO.out g (by omega) _ _ _ e1 (by simp only [List.length_cons] at hless hl ⊢;omega) pb hi _ _ _ _ HPn.out).mono ?_
   rintro e wt ⟨mpt,st,vt,flt,curt,rfl,ht,-,pt⟩
   have HSt:=Lib.hid (HSn.out.trans st)
   have HPt:=Lib.hid pt
   have HNt:=Lib.hid (HNn.out.mono (st.keeps HPn.out KX))
   have HTt:=Lib.hid (ht.imp (Y:=fun b=>w.heap.size <= b) (fun b hb _=>by have:=HSn.out.1.size;omega))
   clear st pt ht e1
   rcases HTt.out.shape with rfl | ⟨t2,x2,rfl⟩
   all_goals
    go_wp2_with fail
    go_ret2
    exact ⟨_,HSt.out,_,_,_,rfl,by rw [NodeAt];exact ⟨_,_,rfl,HNt.out,HTt.out⟩,trivial,HPt.out⟩
end Go.Proofs.YtigalkobmfbdaaaGreatDoor
set_option maxRecDepth 100000
set_option maxHeartbeats 4000000
namespace Go.Proofs.YtigalkobmfbdaaaGreatDoor
open Go.RowKit
theorem Blk.step {pb hi : Nat} {al fl : Bool} {cur : Item} {S : List Item} {mp mp' : Option Nat} {names : Names} {w w' : World} {b : Nat} {cs : Array Value} {t : TypeId} (hB : Blk w b cs t) (h : Step pb mp mp' w w') (hP : PSt w pb hi al fl cur S mp names) (hne : b ≠ pb) : Blk w' b cs t:=by
 refine hB.extM h.1 ?_
 rintro (e | e)
 ·exact hne e
 ·have hM:=hP.2.1
  rw [<- e] at hM
  obtain ⟨D,⟨es,clock,hm,-⟩,-⟩:=hM
  rw [Blk,hm] at hB;cases hB
theorem PSt.setNew {pb hi : Nat} {al fl : Bool} {cur : Item} {S : List Item} {mp : Option Nat} {names : Names} {w : World} {b : Nat} {cs : Array Value} {t : TypeId} (hP : PSt w pb hi al fl cur S mp names) (hB : Blk w b cs t) (hb : hi <= b) (hne : b ≠ pb) (o : Nat) (v : Value) : PSt (w.setCell ⟨b,o,none⟩ v) pb hi al fl cur S mp names:=by
 have hX : ExtM (·=b) w (w.setCell ⟨b,o,none⟩ v):=(ExtM.refl (·=b) w).set1 o v
 refine ⟨hP.1.extM hX (fun e=>hne e.symm) (fun k hk e=>by omega),hP.2.1.extM hX ?_,hP.2.2⟩
 intro mb e hm
 have hM:=hP.2.1
 rw [e] at hM
 obtain ⟨D,⟨es,clock,hmb,-⟩,-⟩:=hM
 rw [hm] at hmb
 rw [Blk,hmb] at hB;cases hB
theorem Step.setNew {pb : Nat} {mp mp' : Option Nat} {a b : World} (h : Step pb mp mp' a b) {k : Nat} (hk : a.heap.size <= k) (o : Nat) (v : Value) : Step pb mp mp' a (b.setCell ⟨k,o,none⟩ v):=⟨h.1.setCell (.inr hk) v,h.2⟩
theorem Blk3 {w : World} {b : Nat} {p q r : Value} {t : TypeId} (h : Blk w b #[p,q,r] t) : w.cell? ⟨b,0,none⟩=some p /\ w.cell? ⟨b,1,none⟩=some q /\ w.cell? ⟨b,2,none⟩=some r:=⟨by rw [h.cell];rfl,by rw [h.cell];rfl,by rw [h.cell];rfl⟩
theorem NodeAt.setNew {X : Nat -> Prop} {w : World} {v : Value} {n : PN} (h : NodeAt X w v n) {b : Nat} {cs : Array Value} {t : TypeId} (hB : Blk w b cs t) (hb : ¬ X b) (o : Nat) (u : Value) : NodeAt X (w.setCell ⟨b,o,none⟩ u) v n :=
 h.mono (((ExtM.refl (·=b) w).set1 o u).keeps (fun k hk e=>hb (e ▸ hk)))
theorem PAt.fit {w : World} {pb hi : Nat} {al fl : Bool} {cur : Item} {S : List Item} {mp : Option Nat} (h : PAt w pb hi al fl cur S mp) : cur.val.size <= 100000:=by
 obtain ⟨its,ia,ic,hB,h1,⟨h2,hF⟩,-⟩:=h
 exact hF cur (List.mem_cons_self ..)
theorem obj_var {al : Bool} {pb hi : Nat} {fl : Bool} {cur x : Item} {S : List Item} {nm : Names} {mp : Option Nat} {w : World} {f : Nat} {y : Item} {S2 : List Item} {r : Option (PN × List Item × Names)} (hS : S=y :: S2) (hx : x.typ=6) (hv : (x.val.toList == [110,105,108])=false) (hy : (y.typ == 7)=false) (hO : ∀ g,g < f -> ObjectC al g) (hM : tailM al f (.bind x.val .nul (nm.idxOf x.val.toList)) (y :: S2) (addName nm x.val.toList)=some r) (hl : (x :: S).length + nm.length <= 300000) (hP : PSt w pb hi al fl cur (x :: S) mp nm) :
  Calls Tryz.prog 113 #[.pointer (some ⟨pb,0,none⟩)] w fun e w'=>PPost pb hi al (fun _=>True) mp w r e w':=by
 have HP:=Lib.hid hP
 clear hP
 subst hS
 have HO:=Lib.hid hO
 have HY:=Lib.hid hy
 clear hO hy
 have KX : ∀ b,w.heap.size <= b -> b ≠ pb:=fun b hb=>by have:=HP.out.lt;omega
 have q5:=nilne
 cases f with
 | zero=>rw [tailM] at hM;cases hM
 | succ g =>
 rw [tailM_cons] at hM
 have qf:=field_typ y
 have hless : (y :: S2).length + (addName nm x.val.toList).length <= (x :: y :: S2).length + nm.length:=by have:=addName_len nm x.val.toList;simp only [List.length_cons];omega
 go_enter Tryz.func113,Tryz.ntmps113
 go_wp2_with fail
 refine (nextP HP.out).mono ?_
 rintro e w1 ⟨rfl,s1,p1⟩
 have HS1:=Lib.hid s1
 have HP1:=Lib.hid p1
 clear s1 p1
 go_wp2_with fail
 have hw1 : w.heap.size <= w1.heap.size:=HS1.out.1.size
 have hpb:=HP.out.lt
 have hhi:=HP1.out.1.lt.2
 have hWv : Blk (((w1.alloc (.cells #[.int .i64 x.typ,.string x.val,.int .i64 x.pos] 115)).alloc (.cells #[.int .i64 x.typ,.string x.val,.int .i64 x.pos] 115)).alloc (.cells #[.string ⟨#[]⟩,.nilIface,.int .i64 0] 138)) (w1.heap.size + 1) #[.int .i64 x.typ,.string x.val,.int .i64 x.pos] 115:=by
  have:=(Blk.new (w1.alloc (.cells #[.int .i64 x.typ,.string x.val,.int .i64 x.pos] 115)) #[.int .i64 x.typ,.string x.val,.int .i64 x.pos] 115).ext (Ext.alloc _ (.cells #[.string ⟨#[]⟩,.nilIface,.int .i64 0] 138))
  simpa using this
 have hWb : Blk (((w1.alloc (.cells #[.int .i64 x.typ,.string x.val,.int .i64 x.pos] 115)).alloc (.cells #[.int .i64 x.typ,.string x.val,.int .i64 x.pos] 115)).alloc (.cells #[.string ⟨#[]⟩,.nilIface,.int .i64 0] 138)) (w1.heap.size + 1 + 1) #[.string ⟨#[]⟩,.nilIface,.int .i64 0] 138:=by
  have:=Blk.new ((w1.alloc (.cells #[.int .i64 x.typ,.string x.val,.int .i64 x.pos] 115)).alloc (.cells #[.int .i64 x.typ,.string x.val,.int .i64 x.pos] 115)) #[.string ⟨#[]⟩,.nilIface,.int .i64 0] 138
  simpa using this
 rw [hx] at hWv hWb
 have hPW:=HP1.out.ext (((Ext.alloc w1 (.cells #[.int .i64 6,.string x.val,.int .i64 x.pos] 115)).trans (Ext.alloc _ (.cells #[.int .i64 6,.string x.val,.int .i64 x.pos] 115))).trans (Ext.alloc _ (.cells #[.string ⟨#[]⟩,.nilIface,.int .i64 0] 138)))
 have hSW : Step pb mp mp w (((w1.alloc (.cells #[.int .i64 6,.string x.val,.int .i64 x.pos] 115)).alloc (.cells #[.int .i64 6,.string x.val,.int .i64 x.pos] 115)).alloc (.cells #[.string ⟨#[]⟩,.nilIface,.int .i64 0] 138)):=HS1.out.trans (Step.of_ext (((Ext.alloc _ _).trans (Ext.alloc _ _)).trans (Ext.alloc _ _)))
 have hxz : x.val.size <= 100000:=HP1.out.1.fit
 have HSW:=Lib.hid hSW
 have HPW:=Lib.hid hPW
 have HWv:=Lib.hid hWv
 have HWb:=Lib.hid hWb
 have HW1:=Lib.hid hw1
 clear hSW hPW hWv hWb
 refine (acceptP_no 7 HPW.out HY.out).mono ?_
 rintro e w2 ⟨rfl,s2,p2⟩
 have HS2:=Lib.hid (HSW.out.trans s2)
 have HP2:=Lib.hid p2
 have HV2:=Lib.hid (HWv.out.step s2 HPW.out (by omega))
 have HB2:=Lib.hid (HWb.out.step s2 HPW.out (by omega))
 clear s2 p2
 go_wp2_with fail
 refine (rewindP (HP2.out.ext (Ext.alloc _ _))).mono ?_
 rintro e w3 ⟨rfl,s3,p3⟩
 have hE2:=Ext.alloc w2 (.cells #[.int .i64 0,.string ⟨#[]⟩,.int .i64 0] 115)
 have HS3:=Lib.hid (HS2.out.trans ((Step.of_ext hE2).trans s3))
 have HP3:=Lib.hid p3
 have HV3:=Lib.hid ((HV2.out.ext hE2).step s3 (HP2.out.ext hE2) (by omega))
 have HB3:=Lib.hid ((HB2.out.ext hE2).step s3 (HP2.out.ext hE2) (by omega))
 clear s3 p3 hE2
 obtain ⟨-,cv,-⟩:=Blk3 HV3.out
 have fv:=HB3.out.frozen
 have HMM:=Lib.hid hM
 clear hM
 go_wp2_with fail
 go_region_held3 (fun w'=>w'.cell? ⟨w1.heap.size + 1,1,none⟩=some (.string x.val)) (go_keep)
  ((go_at_call 115;refine (bindIndex_calls (HP3.out.ext (Ext.drew _)) x.val hxz (by simp only [List.length_cons] at hl;omega)).mono ?_;rintro e w4 ⟨rfl,mp4,s4,p4⟩;have HS4:=Lib.hid (HS3.out.trans ((Step.of_ext (Ext.drew _)).trans s4));have HP4:=Lib.hid p4;have HV4:=Blk3 ((HV3.out.ext (Ext.drew _)).step s4 (HP3.out.ext (Ext.drew _)) (by omega));have HB4:=Lib.hid ((HB3.out.ext (Ext.drew _)).step s4 (HP3.out.ext (Ext.drew _)) (by omega));have cv4:=HV4.2.1;have fb4:=HB4.out.frozen;have lb4:=HB4.out.lt;have cb4:=Blk3 HB4.out;clear s4 p4 HV4))
 have hM:=HMM.out
 have HS5:=Lib.hid (((HS4.out.setNew (k:=w1.heap.size + 1 + 1) (by have:=HW1.out;omega) 0 (.string x.val)).setNew (k:=w1.heap.size + 1 + 1) (by have:=HW1.out;omega) 1 (.nilIface)).setNew (k:=w1.heap.size + 1 + 1) (by have:=HW1.out;omega) 2 (.int .i64 (nm.idxOf x.val.toList)))
 have HP5:=Lib.hid (((HP4.out.setNew HB4.out (by omega) (by omega) 0 (.string x.val)).setNew (HB4.out.set 0 _) (by omega) (by omega) 1 (.nilIface)).setNew ((HB4.out.set 0 _).set 1 _) (by omega) (by omega) 2 (.int .i64 (nm.idxOf x.val.toList)))
 have HB5 : Hid (Blk (((w4.setCell ⟨w1.heap.size + 1 + 1,0,none⟩ (.string x.val)).setCell ⟨w1.heap.size + 1 + 1,1,none⟩ (.nilIface)).setCell ⟨w1.heap.size + 1 + 1,2,none⟩ (.int .i64 (nm.idxOf x.val.toList))) (w1.heap.size + 1 + 1) #[.string x.val,.nilIface,.int .i64 (nm.idxOf x.val.toList)] 138):=Lib.hid (((HB4.out.set 0 _).set 1 _).set 2 _)
 generalize (((w4.setCell ⟨w1.heap.size + 1 + 1,0,none⟩ (.string x.val)).setCell ⟨w1.heap.size + 1 + 1,1,none⟩ (.nilIface)).setCell ⟨w1.heap.size + 1 + 1,2,none⟩ (.int .i64 (nm.idxOf x.val.toList)))=w5 at HS5 HP5 HB5 ⊢
 clear HMM cv4 fb4 lb4 cb4 fv cv
 have HN5 : Hid (NodeAt (fun b=>w.heap.size <= b) w5 (.nilIface) (.nul)):=Lib.hid (by rw [NodeAt])
 go_wp2_with fail
 refine (peekP HP5.out).mono ?_
 rintro e wp ⟨rfl,sp,pp⟩
 have HSp:=Lib.hid (HS5.out.trans sp)
 have HPp:=Lib.hid pp
 have HNp:=Lib.hid (HN5.out.mono (sp.keeps HP5.out KX))
 have HBp:=Lib.hid (HB5.out.step sp HP5.out (by omega))
 clear sp pp
 cases hz : (y.typ == 8)
 ·rw [hz] at hM
  simp only [Bool.false_eq_true,if_false] at hM
  have HR:=Lib.hid (Option.some.inj hM)
  clear hM
  obtain ⟨b0,b1,b2⟩:=Blk3 HBp.out
  go_wp2_with fail
  go_ret2
  rw [<- HR.out]
  exact ⟨_,HSp.out,_,_,_,rfl,by rw [NodeAt];exact ⟨_,rfl,HNp.out⟩,trivial,HPp.out⟩
 ·rw [hz,if_pos rfl] at hM
  have h8 : y.typ=8:=eq_of_beq hz
  clear hz
  have HM:=Lib.hid hM
  clear hM
  go_wp2_with fail
  refine (nextP HPp.out).mono ?_
  rintro e wn ⟨rfl,sn,pn⟩
  have HSn:=Lib.hid (HSp.out.trans sn)
  have HPn:=Lib.hid pn
  have HNn:=Lib.hid (HNp.out.mono (sn.keeps HPp.out KX))
  have HBn:=Lib.hid (HBp.out.step sn HPp.out (by omega))
  clear sn pn
  go_wp2_with fail
  rcases andThen_some HM.out with ⟨e1,rfl⟩ | ⟨t,S4,nm4,e1,e2⟩
  ·refine (HO.out g (by omega) _ _ _ e1 (by simp only [List.length_cons] at hless hl ⊢;omega) pb hi _ _ _ _ HPn.out).mono ?_
   rintro e wt ⟨mpt,st,vt,p,rfl⟩
   have HSt:=Lib.hid (HSn.out.trans st)
   obtain ⟨b0,b1,b2⟩:=Blk3 (HBn.out.step st HPn.out (by omega))
   have q6:=errne p
   clear st e1
   go_wp2_with fail
   go_ret2
   exact PPost.err HSt.out
  ·cases e2
   refine (HO.out g (by omega) _ _ _ e1 (by simp only [List.length_cons] at hless hl ⊢;omega) pb hi _ _ _ _ HPn.out).mono ?_
   rintro e wt ⟨mpt,st,vt,flt,curt,rfl,ht,-,pt⟩
   have HSt:=Lib.hid (HSn.out.trans st)
   have HPt:=Lib.hid pt
   have HNt:=Lib.hid (HNn.out.mono (st.keeps HPn.out KX))
   obtain ⟨b0,b1,b2⟩:=Blk3 (HBn.out.step st HPn.out (by omega))
   have HTt:=Lib.hid (ht.imp (Y:=fun b=>w.heap.size <= b) (fun b hb _=>by have:=HSn.out.1.size;omega))
   clear st pt ht e1
   rcases HTt.out.shape with rfl | ⟨t2,x2,rfl⟩
   all_goals
    go_wp2_with fail
    go_ret2
    exact ⟨_,HSt.out,_,_,_,rfl,by rw [NodeAt];exact ⟨_,_,rfl,by rw [NodeAt];exact ⟨_,rfl,HNt.out⟩,HTt.out⟩,trivial,HPt.out⟩
theorem obj_at {al : Bool} {pb hi : Nat} {fl : Bool} {cur x : Item} {S : List Item} {nm : Names} {mp : Option Nat} {w : World} {f : Nat} {y : Item} {S2 : List Item} {r : Option (PN × List Item × Names)} (hS : S=y :: S2) (hx : x.typ=6) (hv : (x.val.toList == [110,105,108])=false) (hy : (y.typ == 7)=true) (hN : NodeC al f) (hO : ∀ g,g < f -> ObjectC al g) (hM : ((nodeM al f S2 nm).andThen fun o S3 nm3=>tailM al f (.bind x.val o (nm3.idxOf x.val.toList)) S3 (addName nm3 x.val.toList))=some r) (hl : (x :: S).length + nm.length <= 300000) (hP : PSt w pb hi al fl cur (x :: S) mp nm) :
  Calls Tryz.prog 113 #[.pointer (some ⟨pb,0,none⟩)] w fun e w'=>PPost pb hi al (fun _=>True) mp w r e w':=by
 have HP:=Lib.hid hP
 clear hP
 subst hS
 have HO:=Lib.hid hO
 have HY:=Lib.hid hy
 clear hO hy
 have KX : ∀ b,w.heap.size <= b -> b ≠ pb:=fun b hb=>by have:=HP.out.lt;omega
 have q5:=nilne
 have HN:=Lib.hid hN
 have HM0:=Lib.hid hM
 clear hN hM
 go_enter Tryz.func113,Tryz.ntmps113
 go_wp2_with fail
 refine (nextP HP.out).mono ?_
 rintro e w1 ⟨rfl,s1,p1⟩
 have HS1:=Lib.hid s1
 have HP1:=Lib.hid p1
 clear s1 p1
 go_wp2_with fail
 have hw1 : w.heap.size <= w1.heap.size:=HS1.out.1.size
 have hpb:=HP.out.lt
 have hhi:=HP1.out.1.lt.2
 have hWv : Blk (((w1.alloc (.cells #[.int .i64 x.typ,.string x.val,.int .i64 x.pos] 115)).alloc (.cells #[.int .i64 x.typ,.string x.val,.int .i64 x.pos] 115)).alloc (.cells #[.string ⟨#[]⟩,.nilIface,.int .i64 0] 138)) (w1.heap.size + 1) #[.int .i64 x.typ,.string x.val,.int .i64 x.pos] 115:=by
  have:=(Blk.new (w1.alloc (.cells #[.int .i64 x.typ,.string x.val,.int .i64 x.pos] 115)) #[.int .i64 x.typ,.string x.val,.int .i64 x.pos] 115).ext (Ext.alloc _ (.cells #[.string ⟨#[]⟩,.nilIface,.int .i64 0] 138))
  simpa using this
 have hWb : Blk (((w1.alloc (.cells #[.int .i64 x.typ,.string x.val,.int .i64 x.pos] 115)).alloc (.cells #[.int .i64 x.typ,.string x.val,.int .i64 x.pos] 115)).alloc (.cells #[.string ⟨#[]⟩,.nilIface,.int .i64 0] 138)) (w1.heap.size + 1 + 1) #[.string ⟨#[]⟩,.nilIface,.int .i64 0] 138:=by
  have:=Blk.new ((w1.alloc (.cells #[.int .i64 x.typ,.string x.val,.int .i64 x.pos] 115)).alloc (.cells #[.int .i64 x.typ,.string x.val,.int .i64 x.pos] 115)) #[.string ⟨#[]⟩,.nilIface,.int .i64 0] 138
  simpa using this
 rw [hx] at hWv hWb
 have hPW:=HP1.out.ext (((Ext.alloc w1 (.cells #[.int .i64 6,.string x.val,.int .i64 x.pos] 115)).trans (Ext.alloc _ (.cells #[.int .i64 6,.string x.val,.int .i64 x.pos] 115))).trans (Ext.alloc _ (.cells #[.string ⟨#[]⟩,.nilIface,.int .i64 0] 138)))
 have hSW : Step pb mp mp w (((w1.alloc (.cells #[.int .i64 6,.string x.val,.int .i64 x.pos] 115)).alloc (.cells #[.int .i64 6,.string x.val,.int .i64 x.pos] 115)).alloc (.cells #[.string ⟨#[]⟩,.nilIface,.int .i64 0] 138)):=HS1.out.trans (Step.of_ext (((Ext.alloc _ _).trans (Ext.alloc _ _)).trans (Ext.alloc _ _)))
 have hxz : x.val.size <= 100000:=HP1.out.1.fit
 have HSW:=Lib.hid hSW
 have HPW:=Lib.hid hPW
 have HWv:=Lib.hid hWv
 have HWb:=Lib.hid hWb
 have HW1:=Lib.hid hw1
 clear hSW hPW hWv hWb
 refine (acceptP_yes 7 HPW.out HY.out).mono ?_
 rintro e w2 ⟨rfl,s2,p2⟩
 have HS2:=Lib.hid (HSW.out.trans s2)
 have HP2:=Lib.hid p2
 have HV2:=Lib.hid (HWv.out.step s2 HPW.out (by omega))
 have HB2:=Lib.hid (HWb.out.step s2 HPW.out (by omega))
 clear s2 p2
 go_wp2_with fail
 have hE2:=Lib.hid (Ext.alloc w2 (.cells #[.int .i64 y.typ,.string y.val,.int .i64 y.pos] 115))
 rcases andThen_some HM0.out with ⟨e1,rfl⟩ | ⟨o,S3,nm3,e1,hM⟩
 ·refine (HN.out _ _ _ e1 (by simp only [List.length_cons] at hl ⊢;omega) pb hi _ _ _ _ (HP2.out.ext hE2.out)).mono ?_
  rintro e w3 ⟨mp3,s3,v,p,rfl⟩
  have HS3:=Lib.hid (HS2.out.trans ((Step.of_ext hE2.out).trans s3))
  have q6:=errne p
  clear s3 e1
  go_wp2_with fail
  go_ret2
  exact PPost.err HS3.out
 ·refine (HN.out _ _ _ e1 (by simp only [List.length_cons] at hl ⊢;omega) pb hi _ _ _ _ (HP2.out.ext hE2.out)).mono ?_
  rintro e w3 ⟨mp3,s3,v,fl3,cur3,rfl,hv3,-,p3⟩
  have hless0:=(model_len al f).1 _ _ _ _ _ e1
  have hbw : w1.heap.size + 1 + 1 < w2.heap.size:=HB2.out.lt
  have HS3:=Lib.hid (HS2.out.trans ((Step.of_ext hE2.out).trans s3))
  have HP3:=Lib.hid p3
  have HV3:=Lib.hid ((HV2.out.ext hE2.out).step s3 (HP2.out.ext hE2.out) (by omega))
  have HB3:=Lib.hid ((HB2.out.ext hE2.out).step s3 (HP2.out.ext hE2.out) (by omega))
  have hsz2 : (w2.alloc (.cells #[.int .i64 y.typ,.string y.val,.int .i64 y.pos] 115)).heap.size=w2.heap.size + 1:=by simp
  have HN3 : Hid (NodeAt (fun b=>w.heap.size <= b /\ b ≠ w1.heap.size + 1 + 1) w3 v o):=Lib.hid (hv3.imp (fun b hb _=>by have:=HW1.out;omega))
  clear s3 p3 hv3 e1 hsz2
  cases f with
  | zero=>rw [tailM] at hM;cases hM
  | succ g =>
  cases S3 with
  | nil=>rw [tailM] at hM;cases hM
  | cons z S4 =>
  rw [tailM_cons] at hM
  have qf:=field_typ z
  have hless : (z :: S4).length + (addName nm3 x.val.toList).length <= (x :: y :: S2).length + nm.length:=by have:=addName_len nm3 x.val.toList;simp only [List.length_cons] at hless0 ⊢;omega
  simp only [List.length_cons] at hless0 hl
  obtain ⟨-,cv,-⟩:=Blk3 HV3.out
  have fv:=HB3.out.frozen
  have HMM:=Lib.hid hM
  clear hM
  rcases HN3.out.shape with rfl | ⟨tt,xx,rfl⟩
  ·go_wp2_with fail
   go_region_held3 (fun w'=>w'.cell? ⟨w1.heap.size + 1,1,none⟩=some (.string x.val)) (go_keep)
    ((go_at_call 115;refine (bindIndex_calls (HP3.out.ext (Ext.drew _)) x.val hxz (by omega)).mono ?_;rintro e w4 ⟨rfl,mp4,s4,p4⟩;have HS4:=Lib.hid (HS3.out.trans ((Step.of_ext (Ext.drew _)).trans s4));have HP4:=Lib.hid p4;have HN4:=Lib.hid (NodeAt.mono (s4.keeps (HP3.out.ext (Ext.drew _)) (fun b h=>by omega)) (NodeAt.mono ((Ext.drew _).keeps _) HN3.out));have HV4:=Blk3 ((HV3.out.ext (Ext.drew _)).step s4 (HP3.out.ext (Ext.drew _)) (by omega));have HB4:=Lib.hid ((HB3.out.ext (Ext.drew _)).step s4 (HP3.out.ext (Ext.drew _)) (by omega));have cv4:=HV4.2.1;have fb4:=HB4.out.frozen;have lb4:=HB4.out.lt;have cb4:=Blk3 HB4.out;clear s4 p4 HV4))
   have hM:=HMM.out
   have HS5:=Lib.hid (((HS4.out.setNew (k:=w1.heap.size + 1 + 1) (by have:=HW1.out;omega) 0 (.string x.val)).setNew (k:=w1.heap.size + 1 + 1) (by have:=HW1.out;omega) 1 (.nilIface)).setNew (k:=w1.heap.size + 1 + 1) (by have:=HW1.out;omega) 2 (.int .i64 (nm3.idxOf x.val.toList)))
   have HP5:=Lib.hid (((HP4.out.setNew HB4.out (by omega) (by omega) 0 (.string x.val)).setNew (HB4.out.set 0 _) (by omega) (by omega) 1 (.nilIface)).setNew ((HB4.out.set 0 _).set 1 _) (by omega) (by omega) 2 (.int .i64 (nm3.idxOf x.val.toList)))
   have HB5 : Hid (Blk (((w4.setCell ⟨w1.heap.size + 1 + 1,0,none⟩ (.string x.val)).setCell ⟨w1.heap.size + 1 + 1,1,none⟩ (.nilIface)).setCell ⟨w1.heap.size + 1 + 1,2,none⟩ (.int .i64 (nm3.idxOf x.val.toList))) (w1.heap.size + 1 + 1) #[.string x.val,.nilIface,.int .i64 (nm3.idxOf x.val.toList)] 138):=Lib.hid (((HB4.out.set 0 _).set 1 _).set 2 _)
   have HN5:=Lib.hid (((HN4.out.setNew HB4.out (fun h=>by omega) 0 (.string x.val)).setNew (HB4.out.set 0 _) (fun h=>by omega) 1 (.nilIface)).setNew ((HB4.out.set 0 _).set 1 _) (fun h=>by omega) 2 (.int .i64 (nm3.idxOf x.val.toList)))
   generalize (((w4.setCell ⟨w1.heap.size + 1 + 1,0,none⟩ (.string x.val)).setCell ⟨w1.heap.size + 1 + 1,1,none⟩ (.nilIface)).setCell ⟨w1.heap.size + 1 + 1,2,none⟩ (.int .i64 (nm3.idxOf x.val.toList)))=w5 at HS5 HP5 HB5 HN5 ⊢
   clear HMM cv4 fb4 lb4 cb4 fv cv
   go_wp2_with fail
   have HN5:=Lib.hid (HN5.out.imp (Y:=fun b=>w.heap.size <= b) (fun b hb _=>by have:=hb.1;omega))
   refine (peekP HP5.out).mono ?_
   rintro e wp ⟨rfl,sp,pp⟩
   have HSp:=Lib.hid (HS5.out.trans sp)
   have HPp:=Lib.hid pp
   have HNp:=Lib.hid (HN5.out.mono (sp.keeps HP5.out KX))
   have HBp:=Lib.hid (HB5.out.step sp HP5.out (by omega))
   clear sp pp
   cases hz : (z.typ == 8)
   ·rw [hz] at hM
    simp only [Bool.false_eq_true,if_false] at hM
    have HR:=Lib.hid (Option.some.inj hM)
    clear hM
    obtain ⟨b0,b1,b2⟩:=Blk3 HBp.out
    go_wp2_with fail
    go_ret2
    rw [<- HR.out]
    exact ⟨_,HSp.out,_,_,_,rfl,by rw [NodeAt];exact ⟨_,rfl,HNp.out⟩,trivial,HPp.out⟩
   ·rw [hz,if_pos rfl] at hM
    have h8 : z.typ=8:=eq_of_beq hz
    clear hz
    have HM:=Lib.hid hM
    clear hM
    go_wp2_with fail
    refine (nextP HPp.out).mono ?_
    rintro e wn ⟨rfl,sn,pn⟩
    have HSn:=Lib.hid (HSp.out.trans sn)
    have HPn:=Lib.hid pn
    have HNn:=Lib.hid (HNp.out.mono (sn.keeps HPp.out KX))
    have HBn:=Lib.hid (HBp.out.step sn HPp.out (by omega))
    clear sn pn
    go_wp2_with fail
    rcases andThen_some HM.out with ⟨e1,rfl⟩ | ⟨t,S4,nm4,e1,e2⟩
    ·refine (HO.out g (by omega) _ _ _ e1 (by simp only [List.length_cons] at hless hl ⊢;omega) pb hi _ _ _ _ HPn.out).mono ?_
     rintro e wt ⟨mpt,st,vt,p,rfl⟩
     have HSt:=Lib.hid (HSn.out.trans st)
     obtain ⟨b0,b1,b2⟩:=Blk3 (HBn.out.step st HPn.out (by omega))
     have q6:=errne p
     clear st e1
     go_wp2_with fail
     go_ret2
     exact PPost.err HSt.out
    ·cases e2
     refine (HO.out g (by omega) _ _ _ e1 (by simp only [List.length_cons] at hless hl ⊢;omega) pb hi _ _ _ _ HPn.out).mono ?_
     rintro e wt ⟨mpt,st,vt,flt,curt,rfl,ht,-,pt⟩
     have HSt:=Lib.hid (HSn.out.trans st)
     have HPt:=Lib.hid pt
     have HNt:=Lib.hid (HNn.out.mono (st.keeps HPn.out KX))
     obtain ⟨b0,b1,b2⟩:=Blk3 (HBn.out.step st HPn.out (by omega))
     have HTt:=Lib.hid (ht.imp (Y:=fun b=>w.heap.size <= b) (fun b hb _=>by have:=HSn.out.1.size;omega))
     clear st pt ht e1
     rcases HTt.out.shape with rfl | ⟨t2,x2,rfl⟩
     all_goals
      go_wp2_with fail
      go_ret2
      exact ⟨_,HSt.out,_,_,_,rfl,by rw [NodeAt];exact ⟨_,_,rfl,by rw [NodeAt];exact ⟨_,rfl,HNt.out⟩,HTt.out⟩,trivial,HPt.out⟩
  ·go_wp2_with fail
   go_region_held3 (fun w'=>w'.cell? ⟨w1.heap.size + 1,1,none⟩=some (.string x.val)) (go_keep)
    ((go_at_call 115;refine (bindIndex_calls (HP3.out.ext (Ext.drew _)) x.val hxz (by omega)).mono ?_;rintro e w4 ⟨rfl,mp4,s4,p4⟩;have HS4:=Lib.hid (HS3.out.trans ((Step.of_ext (Ext.drew _)).trans s4));have HP4:=Lib.hid p4;have HN4:=Lib.hid (NodeAt.mono (s4.keeps (HP3.out.ext (Ext.drew _)) (fun b h=>by omega)) (NodeAt.mono ((Ext.drew _).keeps _) HN3.out));have HV4:=Blk3 ((HV3.out.ext (Ext.drew _)).step s4 (HP3.out.ext (Ext.drew _)) (by omega));have HB4:=Lib.hid ((HB3.out.ext (Ext.drew _)).step s4 (HP3.out.ext (Ext.drew _)) (by omega));have cv4:=HV4.2.1;have fb4:=HB4.out.frozen;have lb4:=HB4.out.lt;have cb4:=Blk3 HB4.out;clear s4 p4 HV4))
   have hM:=HMM.out
   have HS5:=Lib.hid (((HS4.out.setNew (k:=w1.heap.size + 1 + 1) (by have:=HW1.out;omega) 0 (.string x.val)).setNew (k:=w1.heap.size + 1 + 1) (by have:=HW1.out;omega) 1 (.iface tt xx)).setNew (k:=w1.heap.size + 1 + 1) (by have:=HW1.out;omega) 2 (.int .i64 (nm3.idxOf x.val.toList)))
   have HP5:=Lib.hid (((HP4.out.setNew HB4.out (by omega) (by omega) 0 (.string x.val)).setNew (HB4.out.set 0 _) (by omega) (by omega) 1 (.iface tt xx)).setNew ((HB4.out.set 0 _).set 1 _) (by omega) (by omega) 2 (.int .i64 (nm3.idxOf x.val.toList)))
   have HB5 : Hid (Blk (((w4.setCell ⟨w1.heap.size + 1 + 1,0,none⟩ (.string x.val)).setCell ⟨w1.heap.size + 1 + 1,1,none⟩ (.iface tt xx)).setCell ⟨w1.heap.size + 1 + 1,2,none⟩ (.int .i64 (nm3.idxOf x.val.toList))) (w1.heap.size + 1 + 1) #[.string x.val,.iface tt xx,.int .i64 (nm3.idxOf x.val.toList)] 138):=Lib.hid (((HB4.out.set 0 _).set 1 _).set 2 _)
   have HN5:=Lib.hid (((HN4.out.setNew HB4.out (fun h=>by omega) 0 (.string x.val)).setNew (HB4.out.set 0 _) (fun h=>by omega) 1 (.iface tt xx)).setNew ((HB4.out.set 0 _).set 1 _) (fun h=>by omega) 2 (.int .i64 (nm3.idxOf x.val.toList)))
   generalize (((w4.setCell ⟨w1.heap.size + 1 + 1,0,none⟩ (.string x.val)).setCell ⟨w1.heap.size + 1 + 1,1,none⟩ (.iface tt xx)).setCell ⟨w1.heap.size + 1 + 1,2,none⟩ (.int .i64 (nm3.idxOf x.val.toList)))=w5 at HS5 HP5 HB5 HN5 ⊢
   clear HMM cv4 fb4 lb4 cb4 fv cv
   go_wp2_with fail
   have HN5:=Lib.hid (HN5.out.imp (Y:=fun b=>w.heap.size <= b) (fun b hb _=>by have:=hb.1;omega))
   refine (peekP HP5.out).mono ?_
   rintro e wp ⟨rfl,sp,pp⟩
   have HSp:=Lib.hid (HS5.out.trans sp)
   have HPp:=Lib.hid pp
   have HNp:=Lib.hid (HN5.out.mono (sp.keeps HP5.out KX))
   have HBp:=Lib.hid (HB5.out.step sp HP5.out (by omega))
   clear sp pp
   cases hz : (z.typ == 8)
   ·rw [hz] at hM
    simp only [Bool.false_eq_true,if_false] at hM
    have HR:=Lib.hid (Option.some.inj hM)
    clear hM
    obtain ⟨b0,b1,b2⟩:=Blk3 HBp.out
    go_wp2_with fail
    go_ret2
    rw [<- HR.out]
    exact ⟨_,HSp.out,_,_,_,rfl,by rw [NodeAt];exact ⟨_,rfl,HNp.out⟩,trivial,HPp.out⟩
   ·rw [hz,if_pos rfl] at hM
    have h8 : z.typ=8:=eq_of_beq hz
    clear hz
    have HM:=Lib.hid hM
    clear hM
    go_wp2_with fail
    refine (nextP HPp.out).mono ?_
    rintro e wn ⟨rfl,sn,pn⟩
    have HSn:=Lib.hid (HSp.out.trans sn)
    have HPn:=Lib.hid pn
    have HNn:=Lib.hid (HNp.out.mono (sn.keeps HPp.out KX))
    have HBn:=Lib.hid (HBp.out.step sn HPp.out (by omega))
    clear sn pn
    go_wp2_with fail
    rcases andThen_some HM.out with ⟨e1,rfl⟩ | ⟨t,S4,nm4,e1,e2⟩
    ·refine (HO.out g (by omega) _ _ _ e1 (by simp only [List.length_cons] at hless hl ⊢;omega) pb hi _ _ _ _ HPn.out).mono ?_
     rintro e wt ⟨mpt,st,vt,p,rfl⟩
     have HSt:=Lib.hid (HSn.out.trans st)
     obtain ⟨b0,b1,b2⟩:=Blk3 (HBn.out.step st HPn.out (by omega))
     have q6:=errne p
     clear st e1
     go_wp2_with fail
     go_ret2
     exact PPost.err HSt.out
    ·cases e2
     refine (HO.out g (by omega) _ _ _ e1 (by simp only [List.length_cons] at hless hl ⊢;omega) pb hi _ _ _ _ HPn.out).mono ?_
     rintro e wt ⟨mpt,st,vt,flt,curt,rfl,ht,-,pt⟩
     have HSt:=Lib.hid (HSn.out.trans st)
     have HPt:=Lib.hid pt
     have HNt:=Lib.hid (HNn.out.mono (st.keeps HPn.out KX))
     obtain ⟨b0,b1,b2⟩:=Blk3 (HBn.out.step st HPn.out (by omega))
     have HTt:=Lib.hid (ht.imp (Y:=fun b=>w.heap.size <= b) (fun b hb _=>by have:=HSn.out.1.size;omega))
     clear st pt ht e1
     rcases HTt.out.shape with rfl | ⟨t2,x2,rfl⟩
     all_goals
      go_wp2_with fail
      go_ret2
      exact ⟨_,HSt.out,_,_,_,rfl,by rw [NodeAt];exact ⟨_,_,rfl,by rw [NodeAt];exact ⟨_,rfl,HNt.out⟩,HTt.out⟩,trivial,HPt.out⟩
end Go.Proofs.YtigalkobmfbdaaaGreatDoor
set_option maxRecDepth 100000
set_option maxHeartbeats 4000000
namespace Go.Proofs.YtigalkobmfbdaaaGreatDoor
open Go.RowKit
theorem array_walk {al : Bool} {f : Nat} (hf : f <= 100000) (hObj : ∀ g,g < f + 1 -> ObjectC al g) : ArrayC al (f + 1):=by
 intro S nm r hr hlen pb hi fl cur mp w hP
 obtain ⟨i0,hi0,hz0,hz1,hz2⟩:=info_parts info78
 cases S with
 | nil=>rw [arrayM] at hr;cases hr
 | cons x S1 =>
 rw [arrayM_cons] at hr
 have HP:=Lib.hid hP
 have HO:=Lib.hid hObj
 clear hP hObj
 have q5:=nilne
 cases hx : (x.typ == 3)
 ·rw [hx] at hr
  obtain rfl : r=none:=by simpa using hr.symm
  have HX:=Lib.hid hx
  clear hx hr
  go_enter Tryz.func140,Tryz.ntmps140
  go_wp2_with fail
  refine (acceptP_no 3 HP.out HX.out).mono ?_
  rintro e w1 ⟨rfl,hS1,hP1⟩
  have HS1:=Lib.hid hS1
  have HP1:=Lib.hid hP1
  clear hS1 hP1
  go_wp2_with fail
  refine (unexpectedP (HP1.out.ext (Ext.alloc _ _)) _ (by decide)).mono ?_
  rintro e w2 ⟨⟨p,rfl⟩,hE⟩
  go_wp2_with fail
  go_ret2
  exact PPost.err (HS1.out.trans (Step.of_ext ((Ext.alloc _ _).trans hE)))
 ·rw [hx,if_pos rfl] at hr
  have HX:=Lib.hid hx
  have HR:=Lib.hid hr
  clear hx hr
  ·go_enter Tryz.func140,Tryz.ntmps140
   go_wp2_with fail
   refine (acceptP_yes 3 HP.out HX.out).mono ?_
   rintro e w1 ⟨rfl,hS1,hP1⟩
   have HS1:=Lib.hid hS1
   have HP1:=Lib.hid hP1
   clear hS1 hP1
   go_wp2_with fail
   have hE3:=Ext.alloc w1 (.cells #[.int .i64 x.typ,.string x.val,.int .i64 x.pos] 115)
   have HT2:=Lib.hid (Blk.new w1 #[.int .i64 x.typ,.string x.val,.int .i64 x.pos] 115)
   have HP3:=Lib.hid (HP1.out.ext hE3)
   have HS3:=Lib.hid (HS1.out.trans (Step.of_ext hE3))
   have hpb2 : pb < w1.heap.size:=HP1.out.lt
   obtain ⟨R0,HR0⟩ : ∃ R0,Hid (objsM al f 4 S1 nm=some R0):=by
    rcases andThen_some HR.out with ⟨e,-⟩ | ⟨a,S,nm',e,-⟩
    ·exact ⟨_,Lib.hid e⟩
    ·exact ⟨_,Lib.hid e⟩
   clear hE3
   go_loopg [6] f (fun k v w'=>∃ S' nm' fl' cur' mp' ks vs r',objsM al k 4 S' nm'=some r' /\ k <= f /\ Step pb mp mp' w w' /\ PSt w' pb hi al fl' cur' S' mp' nm' /\ Row w' (w1.heap.size + 1) v ks vs /\ (ks=[] -> v=.slice none 0 0) /\ R0=r'.map (fun q=>(ks ++ q.1,q.2.1,q.2.2)) /\ S'.length + nm'.length <= 300000 /\ ks.length + k=f /\ Blk w' w1.heap.size #[.int .i64 x.typ,.string x.val,.int .i64 x.pos] 115)
   case atStart =>
    refine ⟨S1,nm,_,_,mp,[],[],R0,HR0.out,Nat.le_refl _,HS3.out,HP3.out,⟨World.ownsRow_nil _ _ _ _,rfl,fun j h1=>absurd h1 (by simp)⟩,fun _=>rfl,by cases R0 <;> simp,?_,?_,HT2.out⟩
    ·simp at hlen ⊢;omega
    ·simp
   case round =>
    obtain ⟨S',nm',fl',cur',mp',ks,vs,r',hM,hkf,hS,hP,hRow,hnl,hR0,hl1,hl2,hB⟩:=hrel
    cases gk with
    | zero=>rw [objsM] at hM;cases hM
    | succ k =>
    cases S' with
    | nil=>rw [objsM] at hM;cases hM
    | cons y S4 =>
    rw [objsM_cons] at hM
    have KS:=Lib.hid hS
    have KP:=Lib.hid hP
    have KR:=Lib.hid hRow
    have K0:=Lib.hid hR0
    have KB:=Lib.hid hB
    have KN:=Lib.hid hnl
    have hlt:=hB.lt
    clear hS hP hRow hR0 hB hnl
    cases hy : (y.typ == 4)
    ·rw [hy] at hM
     simp only [Bool.false_eq_true,if_false] at hM
     have HY:=Lib.hid hy
     have HM:=Lib.hid hM
     clear hy hM
     go_wp2_with fail
     refine (acceptP_no 4 KP.out HY.out).mono ?_
     rintro e w4 ⟨rfl,s4,p4⟩
     have HS4:=Lib.hid s4
     have HP4:=Lib.hid p4
     clear s4 p4
     go_wp2_with fail
     refine (rewindP (HP4.out.ext (Ext.alloc _ _))).mono ?_
     rintro e w5 ⟨rfl,s5,p5⟩
     have HS5:=Lib.hid (HS4.out.trans ((Step.of_ext (Ext.alloc _ _)).trans s5))
     have HP5:=Lib.hid p5
     clear s5 p5
     have q6:=errne
     rcases andThen_some HM.out with ⟨ho,rfl⟩ | ⟨n,S5,nm5,ho,hM2⟩
     ·have HOO:=Lib.hid ho
      clear ho
      go_wp2_with fail
      refine (HO.out k (by omega) (y :: S4) nm' _ HOO.out hl1 pb hi _ _ _ _ HP5.out).mono ?_
      rintro e w6 ⟨mp6,s6,v,p,rfl⟩
      have HS6:=Lib.hid (KS.out.trans (HS5.out.trans s6))
      clear s6
      go_wp2_with fail
      go_ret2
      have e1 : R0=none:=K0.out
      have e2:=HR.out
      rw [HR0.out,e1] at e2
      obtain rfl : r=none:=by simpa [PRes.andThen] using e2.symm
      exact PPost.err HS6.out
     ·have HOO:=Lib.hid ho
      have HM2:=Lib.hid hM2
      clear ho hM2
      go_wp2_with fail
      refine (HO.out k (by omega) (y :: S4) nm' _ HOO.out hl1 pb hi _ _ _ _ HP5.out).mono ?_
      rintro e w6 ⟨mp6,s6,v,fl6,cur6,rfl,hv,-,p6⟩
      have hless:=(model_len al k).2.2.1 _ _ _ _ _ HOO.out
      have HS56:=Lib.hid (HS5.out.trans s6)
      have HP6:=Lib.hid p6
      have HV:=Lib.hid hv
      clear s6 p6 hv
      have HR6:=Lib.hid (KR.out.step HS56.out KP.out (by omega))
      rcases HV.out.shape with rfl | ⟨tt,xx,rfl⟩
      ·go_wp2_with (first
        | (at_builtin;refine wpList_append_own_at _ rfl _ _ 125 rfl (w1.heap.size + 1) 78 i0 _ 1 16 underlying125 hi0 hz0 hz1 hz2 rfl (by decide) _ _ _ rfl (HR6.out.own.alloc _) ⟨w6.heap.size,0,none⟩ 1 1 [.nilIface] rfl rfl ?c1 ?c2 ?c3 ?c4 ?c5 ?_)
        | go_in)
       case c1=>exact cell_one_new _ _ _
       case c2=>intro u hu;simp at hu;subst hu;rfl
       case c3=>have:=HR6.out.len;unfold maxLen;omega
       case c4=>have:=HR6.out.len;omega
       case c5=>have:=HS56.out.1.size;simp;omega
       intro v' w7 hO7 hG hnil hloc
       clear hnil
       have HFin:=Lib.hid (And.intro hO7 (And.intro hG hloc))
       clear hO7 hG hloc
       go_wp2_with fail
       go_roundg k
       case measure=>omega
       case rel =>
        obtain ⟨hO7,hG,hloc⟩:=HFin.out
        have hEa:=Ext.alloc w6 (.cells #[.nilIface] 78)
        have hPa:=HP6.out.ext hEa
        have hown : ∀ q,u6.ownBlock=some q -> w1.heap.size + 1 <= q:=fun q hq=>(HR6.out.own.lt q hq).1
        have h26:=HS56.out.1.size
        have hw1:=HS1.out.1.size
        have hhi:=HP1.out.1.lt.2
        have hB7 : Blk w7 w1.heap.size #[.int .i64 x.typ,.string x.val,.int .i64 x.pos] 115:=by
         refine Blk.grown' (Blk.ext ?_ hEa) hG (by intro e;have:=hown _ e.symm;omega)
         refine KB.out.extM HS56.out.1 ?_
         rintro (e | e)
         ·omega
         ·have hM:=KP.out.2.1
          rw [<- e] at hM
          obtain ⟨D,⟨es,clock,hm,-⟩,-⟩:=hM
          have:=KB.out
          unfold Blk at this
          rw [hm] at this;cases this
        have hS7 : Step pb mp mp6 w w7:=((KS.out.trans HS56.out).trans (Step.of_ext hEa)).grown hG (fun q hq=>by have:=hown q hq;omega)
        have hP7 : PSt w7 pb hi al fl6 cur6 S5 mp6 nm5:=hPa.grown (HR6.out.own.alloc _) hG (by omega) (by omega)
        have hR7 : Row w7 (w1.heap.size + 1) v' (ks ++ [n]) (vs ++ [.nilIface]):=by
         have hRa : Row (w6.alloc (.cells #[.nilIface] 78)) (w1.heap.size + 1) u6 ks vs:=⟨HR6.out.own.alloc _,HR6.out.len,fun j h1 h2=>(HR6.out.node j h1 h2).mono (hEa.keeps _)⟩
         refine hRa.snoc ?_ hG hO7 ?_
         ·refine ((HV.out.imp ?_).mono (hEa.keeps _))
          intro b hb hbl
          have h5:=HS5.out.1.size
          refine ⟨by omega,fun e=>?_⟩
          have:=(KR.out.own.lt b e).2
          omega
         ·intro g hg
          rcases hloc with h | h
          ·exact .inl (h ▸ hg)
          ·rw [h] at hg;cases hg;exact .inr (by simp)
        rcases andThen_some HM2.out with ⟨e2,rfl⟩ | ⟨ks2,S6,nm6,e2,e3⟩
        ·refine ⟨S5,nm5,fl6,cur6,mp6,ks ++ [n],_,none,e2,by omega,hS7,hP7,hR7,fun e=>absurd e (by simp),by rw [K0.out];rfl,by omega,by simp;omega,hB7⟩
        ·cases e3
         refine ⟨S5,nm5,fl6,cur6,mp6,ks ++ [n],_,some (ks2,S6,nm6),e2,by omega,hS7,hP7,hR7,fun e=>absurd e (by simp),by rw [K0.out];simp,by omega,by simp;omega,hB7⟩
      ·go_wp2_with (first
        | (at_builtin;refine wpList_append_own_at _ rfl _ _ 125 rfl (w1.heap.size + 1) 78 i0 _ 1 16 underlying125 hi0 hz0 hz1 hz2 rfl (by decide) _ _ _ rfl (HR6.out.own.alloc _) ⟨w6.heap.size,0,none⟩ 1 1 [.iface tt xx] rfl rfl ?c1 ?c2 ?c3 ?c4 ?c5 ?_)
        | go_in)
       case c1=>exact cell_one_new _ _ _
       case c2=>intro u hu;simp at hu;subst hu;rfl
       case c3=>have:=HR6.out.len;unfold maxLen;omega
       case c4=>have:=HR6.out.len;omega
       case c5=>have:=HS56.out.1.size;simp;omega
       intro v' w7 hO7 hG hnil hloc
       clear hnil
       have HFin:=Lib.hid (And.intro hO7 (And.intro hG hloc))
       clear hO7 hG hloc
       go_wp2_with fail
       go_roundg k
       case measure=>omega
       case rel =>
        obtain ⟨hO7,hG,hloc⟩:=HFin.out
        have hEa:=Ext.alloc w6 (.cells #[.iface tt xx] 78)
        have hPa:=HP6.out.ext hEa
        have hown : ∀ q,u6.ownBlock=some q -> w1.heap.size + 1 <= q:=fun q hq=>(HR6.out.own.lt q hq).1
        have h26:=HS56.out.1.size
        have hw1:=HS1.out.1.size
        have hhi:=HP1.out.1.lt.2
        have hB7 : Blk w7 w1.heap.size #[.int .i64 x.typ,.string x.val,.int .i64 x.pos] 115:=by
         refine Blk.grown' (Blk.ext ?_ hEa) hG (by intro e;have:=hown _ e.symm;omega)
         refine KB.out.extM HS56.out.1 ?_
         rintro (e | e)
         ·omega
         ·have hM:=KP.out.2.1
          rw [<- e] at hM
          obtain ⟨D,⟨es,clock,hm,-⟩,-⟩:=hM
          have:=KB.out
          unfold Blk at this
          rw [hm] at this;cases this
        have hS7 : Step pb mp mp6 w w7:=((KS.out.trans HS56.out).trans (Step.of_ext hEa)).grown hG (fun q hq=>by have:=hown q hq;omega)
        have hP7 : PSt w7 pb hi al fl6 cur6 S5 mp6 nm5:=hPa.grown (HR6.out.own.alloc _) hG (by omega) (by omega)
        have hR7 : Row w7 (w1.heap.size + 1) v' (ks ++ [n]) (vs ++ [.iface tt xx]):=by
         have hRa : Row (w6.alloc (.cells #[.iface tt xx] 78)) (w1.heap.size + 1) u6 ks vs:=⟨HR6.out.own.alloc _,HR6.out.len,fun j h1 h2=>(HR6.out.node j h1 h2).mono (hEa.keeps _)⟩
         refine hRa.snoc ?_ hG hO7 ?_
         ·refine ((HV.out.imp ?_).mono (hEa.keeps _))
          intro b hb hbl
          have h5:=HS5.out.1.size
          refine ⟨by omega,fun e=>?_⟩
          have:=(KR.out.own.lt b e).2
          omega
         ·intro g hg
          rcases hloc with h | h
          ·exact .inl (h ▸ hg)
          ·rw [h] at hg;cases hg;exact .inr (by simp)
        rcases andThen_some HM2.out with ⟨e2,rfl⟩ | ⟨ks2,S6,nm6,e2,e3⟩
        ·refine ⟨S5,nm5,fl6,cur6,mp6,ks ++ [n],_,none,e2,by omega,hS7,hP7,hR7,fun e=>absurd e (by simp),by rw [K0.out];rfl,by omega,by simp;omega,hB7⟩
        ·cases e3
         refine ⟨S5,nm5,fl6,cur6,mp6,ks ++ [n],_,some (ks2,S6,nm6),e2,by omega,hS7,hP7,hR7,fun e=>absurd e (by simp),by rw [K0.out];simp,by omega,by simp;omega,hB7⟩
    ·rw [hy,if_pos rfl] at hM
     obtain rfl:=Option.some.inj hM
     have e0 : R0=some (ks,S4,nm'):=by rw [K0.out];simp
     have e2:=HR.out
     rw [HR0.out,e0] at e2
     simp only [PRes.andThen] at e2
     have ER:=Lib.hid (Option.some.inj e2)
     have HY:=Lib.hid hy
     obtain ⟨a,c,rfl,hc,hV,-⟩:=KR.out.vals
     have HV:=Lib.hid hV
     have hkl : ks.length <= 100000:=by omega
     clear hM e0 e2 hy hV
     go_wp2_with fail
     refine (acceptP_yes 4 KP.out HY.out).mono ?_
     rintro e w4 ⟨rfl,s4,p4⟩
     have HS4:=Lib.hid s4
     have HP4:=Lib.hid p4
     clear s4 p4
     have hkp : Keeps (fun b=>b ≠ pb) wr w4:=HS4.out.keeps KP.out (fun b h=>h)
     have hbase : ∀ g,a=some ⟨g,0,none⟩ -> w1.heap.size + 1 <= g /\ g < wr.heap.size:=fun g hg=>KR.out.own.lt g (by rw [hg];rfl)
     obtain ⟨vs',g1,g2,g3⟩:=HV.out
     have hw14 : wr.heap.size <= w4.heap.size:=HS4.out.1.size
     have hww1 : w.heap.size <= w1.heap.size:=HS1.out.1.size
     have HN4 : Hid (∀ (j : Nat) (h1 : j < ks.length) (h2 : j < vs'.length),NodeAt (fun b=>w.heap.size <= b /\ b < w4.heap.size) w4 vs'[j] ks[j]):=Lib.hid (fun j h1 h2=>((g2 j h1 h2).mono (HS4.out.keeps KP.out (fun b h=>by have:=h.1;omega))).imp (fun b hb hl=>⟨by have:=hb.1;omega,hl⟩))
     have HC4 : Hid (ks ≠ [] -> ∃ b o,a=some ⟨b,o,none⟩ /\ b < w4.heap.size /\ ∀ j u,vs'[j]?=some u -> w4.cell? ⟨b,o + j,none⟩=some u):=Lib.hid (fun hne=>by
      obtain ⟨b,o,hab,hcc⟩:=g3 hne
      have h0 : 0 < vs'.length:=by rw [<- g1];exact List.length_pos_iff.2 hne
      have hc0:=hcc 0 vs'[0] (by simp [h0])
      have hb1:=cell_lt hc0
      have hbp : b ≠ pb:=by
       rintro rfl
       rw [hab] at KR
       have:=(KR.out.own.lt b rfl).1
       omega
      exact ⟨b,o,hab,by simp only at hb1;omega,fun j u hu=>hkp _ _ _ hbp (hcc j u hu)⟩)
     have HG1:=Lib.hid g1
     clear g1 g2 g3 hbase
     go_wp2_with fail
     have hEy:=Ext.alloc w4 (.cells #[.int .i64 y.typ,.string y.val,.int .i64 y.pos] 115)
     have hEt:=Ext.alloc (w4.alloc (.cells #[.int .i64 y.typ,.string y.val,.int .i64 y.pos] 115)) (.cells #[.nilIface,.nilIface] 136)
     have HBT : Hid (Blk ((w4.alloc (.cells #[.int .i64 y.typ,.string y.val,.int .i64 y.pos] 115)).alloc (.cells #[.nilIface,.nilIface] 136)) (w4.heap.size + 1) #[.nilIface,.nilIface] 136):=Lib.hid (by
      have:=Blk.new (w4.alloc (.cells #[.int .i64 y.typ,.string y.val,.int .i64 y.pos] 115)) #[.nilIface,.nilIface] 136
      simpa using this)
     have HEE:=Lib.hid (hEy.trans hEt)
     clear hEy hEt
     go_loopg [12] ks.length (fun k v wz=>v=(match k with | 0=>.int .i64 (-1) | m + 1=>.int .i64 m) /\ k <= ks.length /\ ∃ p q,Blk wz (w4.heap.size + 1) #[p,q] 136 /\ Ext w4 wz /\ NodeAt (fun b=>w.heap.size <= b /\ b < w4.heap.size) wz (.iface 136 (.agg #[p,q])) ((ks.drop k).foldr PN.list (.list .nul .nul)))
     case atStart =>
      refine ⟨?_,Nat.le_refl _,_,_,HBT.out,HEE.out,?_⟩
      ·cases ks.length with
       | zero=>rfl
       | succ m=>simp
      ·rw [List.drop_length]
       simp only [List.foldr_nil]
       rw [NodeAt]
       exact ⟨_,_,rfl,by rw [NodeAt],by rw [NodeAt]⟩
     case round =>
      obtain ⟨rfl,hk,p,q,hB,hE,hN⟩:=hrel
      have KB:=Lib.hid hB
      have KE:=Lib.hid hE
      have KNN:=Lib.hid hN
      obtain ⟨t0,t1⟩ : wr.cell? ⟨w4.heap.size + 1,0,none⟩=some p /\ wr.cell? ⟨w4.heap.size + 1,1,none⟩=some q:=⟨by rw [hB.cell];rfl,by rw [hB.cell];rfl⟩
      have ft:=hB.frozen
      have lt:=hB.lt
      clear hB hE hN
      cases gk with
      | zero =>
       go_wp2_with fail
       go_ret2
       rw [<- ER.out]
       exact ⟨mp',(KS.out.trans HS4.out).trans (Step.of_ext KE.out),_,false,y,rfl,by have:=KNN.out;rw [List.drop_zero] at this;exact this.imp (fun b hb _=>hb.1),trivial,HP4.out.ext KE.out⟩
      | succ m =>
       have hm : m < ks.length:=by omega
       have hm' : m < vs'.length:=by rw [<- HG1.out];exact hm
       obtain ⟨b,o,rfl,hb4,hcc⟩:=HC4.out (by rintro rfl;simp at hm)
       have hcm : wr.cell? ⟨b,o + m,none⟩=some vs'[m]:=KE.out.keep (hcc m _ (by simp [hm']))
       have hnm:=HN4.out m hm hm'
       have hmi : (0 : Int) <= (m : Int):=Int.natCast_nonneg _
       have hmi2 : (m : Int) < (ks.length : Int):=by omega
       have HCC:=Lib.hid hcc
       clear hcc
       rcases hnm.shape with hu | ⟨tt,xx,hu⟩
       ·rw [hu] at hcm hnm
        have HNM:=Lib.hid hnm
        clear hu hnm
        go_wp2_with fail
        go_region_held3 (fun w'=>w'.cell? ⟨w4.heap.size + 1,0,none⟩=some p /\ w'.cell? ⟨w4.heap.size + 1,1,none⟩=some q /\ w'.cell? ⟨b,o + m,none⟩=some (.nilIface)) (go_keep) (fail)
        go_wp2_with fail
        go_roundg m
        case measure=>omega
        case rel =>
         have hE' : Ext w4 (((wr.setCell ⟨w4.heap.size + 1,0,none⟩ (.nilIface)).setCell ⟨w4.heap.size + 1,1,none⟩ (.iface 136 (.agg #[p,q]))).alloc (.cells #[.nilIface,.iface 136 (.agg #[p,q])] 136)).drew:=(((KE.out.setCell (p:=⟨w4.heap.size + 1,0,none⟩) (Nat.le_succ _) _).setCell (p:=⟨w4.heap.size + 1,1,none⟩) (Nat.le_succ _) _).trans (Ext.alloc _ _)).trans (Ext.drew _)
         have hKP : Keeps (fun b=>w.heap.size <= b /\ b < w4.heap.size) wr (((wr.setCell ⟨w4.heap.size + 1,0,none⟩ (.nilIface)).setCell ⟨w4.heap.size + 1,1,none⟩ (.iface 136 (.agg #[p,q]))).alloc (.cells #[.nilIface,.iface 136 (.agg #[p,q])] 136)).drew:=fun c d v hb hv=>(hE'.cell (p:=⟨c,d,none⟩) hb.2).trans ((KE.out.cell (p:=⟨c,d,none⟩) hb.2).symm.trans hv)
         refine ⟨?_,by omega,.nilIface,.iface 136 (.agg #[p,q]),(((KB.out.set 0 _).set 1 _).ext (Ext.alloc _ _)).ext (Ext.drew _),hE',?_⟩
         ·cases m with
          | zero=>rfl
          | succ m'=>simp
         ·rw [List.drop_eq_getElem_cons hm,List.foldr_cons,NodeAt]
          exact ⟨_,_,rfl,HNM.out.mono (hE'.keeps _),KNN.out.mono hKP⟩
       ·rw [hu] at hcm hnm
        have HNM:=Lib.hid hnm
        clear hu hnm
        go_wp2_with fail
        go_region_held3 (fun w'=>w'.cell? ⟨w4.heap.size + 1,0,none⟩=some p /\ w'.cell? ⟨w4.heap.size + 1,1,none⟩=some q /\ w'.cell? ⟨b,o + m,none⟩=some (.iface tt xx)) (go_keep) (fail)
        go_wp2_with fail
        go_roundg m
        case measure=>omega
        case rel =>
         have hE' : Ext w4 (((wr.setCell ⟨w4.heap.size + 1,0,none⟩ (.iface tt xx)).setCell ⟨w4.heap.size + 1,1,none⟩ (.iface 136 (.agg #[p,q]))).alloc (.cells #[.iface tt xx,.iface 136 (.agg #[p,q])] 136)).drew:=(((KE.out.setCell (p:=⟨w4.heap.size + 1,0,none⟩) (Nat.le_succ _) _).setCell (p:=⟨w4.heap.size + 1,1,none⟩) (Nat.le_succ _) _).trans (Ext.alloc _ _)).trans (Ext.drew _)
         have hKP : Keeps (fun b=>w.heap.size <= b /\ b < w4.heap.size) wr (((wr.setCell ⟨w4.heap.size + 1,0,none⟩ (.iface tt xx)).setCell ⟨w4.heap.size + 1,1,none⟩ (.iface 136 (.agg #[p,q]))).alloc (.cells #[.iface tt xx,.iface 136 (.agg #[p,q])] 136)).drew:=fun c d v hb hv=>(hE'.cell (p:=⟨c,d,none⟩) hb.2).trans ((KE.out.cell (p:=⟨c,d,none⟩) hb.2).symm.trans hv)
         refine ⟨?_,by omega,.iface tt xx,.iface 136 (.agg #[p,q]),(((KB.out.set 0 _).set 1 _).ext (Ext.alloc _ _)).ext (Ext.drew _),hE',?_⟩
         ·cases m with
          | zero=>rfl
          | succ m'=>simp
         ·rw [List.drop_eq_getElem_cons hm,List.foldr_cons,NodeAt]
          exact ⟨_,_,rfl,HNM.out.mono (hE'.keeps _),KNN.out.mono hKP⟩
theorem object_walk {al : Bool} {f : Nat} (hN : NodeC al f) (hA : ArrayC al f) (hO : ∀ g,g < f -> ObjectC al g) : ObjectC al (f + 1):=by
 intro S nm r hr hl pb hi fl cur mp w hP
 cases S with
 | nil=>rw [objectM] at hr;cases hr
 | cons x S1 =>
 rw [objectM_cons] at hr
 cases h1 : (x.typ == 1)
 ·rw [h1] at hr
  simp only [Bool.false_eq_true,if_false] at hr
  cases h3 : (x.typ == 3)
  ·rw [h3] at hr
   simp only [Bool.false_eq_true,if_false] at hr
   cases h6 : (x.typ == 6)
   ·rw [h6] at hr
    simp only [Bool.false_eq_true,if_false] at hr
    cases h9 : (x.typ == 9)
    ·rw [h9] at hr
     simp only [Bool.false_eq_true,if_false] at hr
     cases h10 : (x.typ == 10)
     ·rw [h10] at hr
      simp only [Bool.false_eq_true,if_false] at hr
      cases hr
      exact obj_err h1 h3 h6 h9 h10 hP
     ·rw [h10,if_pos rfl] at hr
      cases hr
      exact obj_string (eq_of_beq h10) hP
    ·rw [h9,if_pos rfl] at hr
     exact obj_blank (eq_of_beq h9) hO hr hl hP
   ·rw [h6,if_pos rfl] at hr
    cases hv : (x.val.toList == [110,105,108])
    ·rw [hv] at hr
     simp only [Bool.false_eq_true,if_false] at hr
     cases S1 with
     | nil=>cases hr
     | cons y S2 =>
      simp only at hr
      cases h7 : (y.typ == 7)
      ·rw [h7] at hr
       simp only [Bool.false_eq_true,if_false] at hr
       exact obj_var rfl (eq_of_beq h6) hv h7 hO hr hl hP
      ·rw [h7,if_pos rfl] at hr
       exact obj_at rfl (eq_of_beq h6) hv h7 hN hO hr hl hP
    ·rw [hv,if_pos rfl] at hr
     cases hr
     exact obj_nil (eq_of_beq h6) hv hP
  ·rw [h3,if_pos rfl] at hr
   exact obj_array (eq_of_beq h3) (fun fl cur w hP=>hA (x :: S1) nm r hr hl pb hi fl cur mp w hP) hP
 ·rw [h1,if_pos rfl] at hr
  exact obj_paren (eq_of_beq h1) hN hO hr hl hP
theorem parser_all (al : Bool) : ∀ f : Nat,f <= 100000 -> (∀ g,g <= f -> NodeC al g /\ ArrayC al g /\ ObjectC al g)
 | 0,_,g,hg=>by
  obtain rfl : g=0:=by omega
  exact ⟨fun S nm r hr=>(by rw [nodeM] at hr;cases hr),fun S nm r hr=>(by rw [arrayM] at hr;cases hr),fun S nm r hr=>(by rw [objectM] at hr;cases hr)⟩
 | f + 1,hf,g,hg=>by
  have ih:=parser_all al f (by omega)
  by_cases h : g <= f
  ·exact ih g h
  ·obtain rfl : g=f + 1:=by omega
   have hobj : ∀ k,k < f + 1 -> ObjectC al k:=fun k hk=>(ih k (by omega)).2.2
   have hN:=node_walk (al:=al) (f:=f) (by omega) hobj
   have hA:=array_walk (al:=al) (f:=f) (by omega) hobj
   exact ⟨hN,hA,object_walk (ih f (Nat.le_refl _)).1 (ih f (Nat.le_refl _)).2.1 (fun k hk=>hobj k (by omega))⟩
theorem node_calls (al : Bool) (f : Nat) (hf : f <= 100000) : NodeC al f:=(parser_all al f hf f (Nat.le_refl _)).1
end Go.Proofs.YtigalkobmfbdaaaGreatDoor
