/- Parts of a syntax as the package has them: pointers to blocks. -/
import Derived.Test.YtigalkobmfbdaaaGreatDoorMix2g
import Derived.Test.YtigalkobmfbdaaaGreatDoorMix2c
set_option linter.unusedVariables false
set_option linter.unusedSimpArgs false
namespace Go.Proofs.YtigalkobmfbdaaaGreatDoor
open Go.RowKit
mutual
def PtrIn (X : Nat -> Prop) (w : World) : Value -> Syn -> Prop
 | v,.mk k nl x n ks=>(k.toList=[] -> v=.pointer none) /\ (k.toList ≠ [] -> ∃ b a c,v=.pointer (some ⟨b,0,none⟩) /\ X b /\ w.cell? ⟨b,0,none⟩=some (.string k) /\ w.cell? ⟨b,1,none⟩=some (.bool nl) /\ w.cell? ⟨b,2,none⟩=some (.string x) /\ w.cell? ⟨b,3,none⟩=some (.int .i64 n) /\ w.cell? ⟨b,4,none⟩=some (.slice a ks.length c) /\ ks.length <= c /\ PtrsIn X w a ks)
def PtrsIn (X : Nat -> Prop) (w : World) : Option Addr -> List Syn -> Prop
 | _,[]=>True
 | a,t :: ts=>∃ b o v,a=some ⟨b,o,none⟩ /\ X b /\ w.cell? ⟨b,o,none⟩=some v /\ PtrIn X w v t /\ PtrsIn X w (some ⟨b,o + 1,none⟩) ts
end
mutual
theorem PtrIn.turn {X Y : Nat -> Prop} {w w' : World} (h : ∀ b o v,X b -> w.cell? ⟨b,o,none⟩=some v -> Y b /\ w'.cell? ⟨b,o,none⟩=some v) : ∀ {v : Value} {t : Syn},PtrIn X w v t -> PtrIn Y w' v t
 | _,.mk _ _ _ _ _,e=>by
  rw [PtrIn] at e ⊢
  refine ⟨e.1,fun hk=>?_⟩
  obtain ⟨b,a,c,e0,hb,h0,h1,h2,h3,h4,hc,hP⟩:=e.2 hk
  exact ⟨b,a,c,e0,(h _ _ _ hb h0).1,(h _ _ _ hb h0).2,(h _ _ _ hb h1).2,(h _ _ _ hb h2).2,(h _ _ _ hb h3).2,(h _ _ _ hb h4).2,hc,PtrsIn.turn h hP⟩
theorem PtrsIn.turn {X Y : Nat -> Prop} {w w' : World} (h : ∀ b o v,X b -> w.cell? ⟨b,o,none⟩=some v -> Y b /\ w'.cell? ⟨b,o,none⟩=some v) : ∀ {a : Option Addr} {ts : List Syn},PtrsIn X w a ts -> PtrsIn Y w' a ts
 | _,[],_=>by rw [PtrsIn];trivial
 | _,_ :: _,e=>by
  rw [PtrsIn] at e ⊢
  obtain ⟨b,o,v,e0,hb,h0,hP,hPs⟩:=e
  exact ⟨b,o,v,e0,(h _ _ _ hb h0).1,(h _ _ _ hb h0).2,PtrIn.turn h hP,PtrsIn.turn h hPs⟩
end
theorem PtrIn.mono {X : Nat -> Prop} {w w' : World} (h : Keeps X w w') {v : Value} {t : Syn} (ht : PtrIn X w v t) : PtrIn X w' v t:=ht.turn fun _ _ _ hb hc=>⟨hb,h _ _ _ hb hc⟩
theorem PtrsIn.mono {X : Nat -> Prop} {w w' : World} (h : Keeps X w w') {a : Option Addr} {ts : List Syn} (ht : PtrsIn X w a ts) : PtrsIn X w' a ts:=ht.turn fun _ _ _ hb hc=>⟨hb,h _ _ _ hb hc⟩
theorem PtrIn.imp {X Y : Nat -> Prop} {w : World} (h : ∀ b,X b -> b < w.heap.size -> Y b) {v : Value} {t : Syn} (ht : PtrIn X w v t) : PtrIn Y w v t:=ht.turn fun b _ _ hb hc=>⟨h b hb (cell_lt hc),hc⟩
theorem PtrsIn.imp {X Y : Nat -> Prop} {w : World} (h : ∀ b,X b -> b < w.heap.size -> Y b) {a : Option Addr} {ts : List Syn} (ht : PtrsIn X w a ts) : PtrsIn Y w a ts:=ht.turn fun b _ _ hb hc=>⟨h b hb (cell_lt hc),hc⟩
theorem PtrsIn.get {X : Nat -> Prop} {w : World} : ∀ {ts : List Syn} {a : Option Addr} (_ : PtrsIn X w a ts) (j : Nat) (hj : j < ts.length),∃ b o v,a=some ⟨b,o,none⟩ /\ X b /\ w.cell? ⟨b,o + j,none⟩=some v /\ PtrIn X w v ts[j]
 | t :: ts,a,e,0,_=>by
  rw [PtrsIn] at e
  obtain ⟨b,o,v,e,hb,hc,h1,h2⟩:=e
  exact ⟨b,o,v,e,hb,hc,h1⟩
 | t :: ts,a,e,j + 1,hj=>by
  rw [PtrsIn] at e
  obtain ⟨b,o,v,e,hb,hc,h1,h2⟩:=e
  obtain ⟨b',o',v',e',hb',hc',h1'⟩:=PtrsIn.get h2 j (by simpa using hj)
  obtain ⟨rfl,rfl⟩ : b=b' /\ o + 1=o':=by simpa using e'
  refine ⟨b,o,v',e,hb,?_,h1'⟩
  rw [show o + (j + 1)=o + 1 + j by omega];exact hc'
theorem PtrIn.shape {X : Nat -> Prop} {w : World} {v : Value} {t : Syn} (h : PtrIn X w v t) : (v=.pointer none /\ t.kind.toList=[]) \/ ∃ b,v=.pointer (some ⟨b,0,none⟩) /\ t.kind.toList ≠ []:=by
 cases t
 rw [PtrIn] at h
 rename_i k _ _ _ _
 by_cases hk : k.toList=[]
 ·exact .inl ⟨h.1 hk,hk⟩
 ·obtain ⟨b,a,c,e,-⟩:=h.2 hk
  exact .inr ⟨b,e,hk⟩
theorem PtrIn.one {X : Nat -> Prop} {w : World} {v : Value} {t : Syn} (h : PtrIn X w v t) : v.oneCell'=true:=by
 rcases h.shape with ⟨rfl,-⟩ | ⟨b,rfl,-⟩ <;> rfl
theorem ptrsIn_of {X : Nat -> Prop} {w : World} {b : Nat} (hb : X b) : ∀ (ns : List Syn) (vs : List Value) (o : Nat),ns.length=vs.length -> (∀ (j : Nat) (h1 : j < ns.length) (h2 : j < vs.length),PtrIn X w vs[j] ns[j]) -> (∀ j u,vs[j]?=some u -> w.cell? ⟨b,o + j,none⟩=some u) -> PtrsIn X w (some ⟨b,o,none⟩) ns
 | [],_,_,_,_,_=>by rw [PtrsIn];trivial
 | n :: ns,[],_,h,_,_=>by simp at h
 | n :: ns,v :: vs,o,hl,hN,hc=>by
  rw [PtrsIn]
  refine ⟨b,o,v,rfl,hb,by simpa using hc 0 v rfl,hN 0 (by simp) (by simp),?_⟩
  refine ptrsIn_of hb ns vs (o + 1) (by simpa using hl) (fun j h1 h2=>hN (j + 1) (by simpa using h1) (by simpa using h2)) (fun j u hu=>?_)
  have:=hc (j + 1) u (by simpa using hu)
  rw [show o + (j + 1)=o + 1 + j by omega] at this
  exact this
structure RowP (w : World) (base : Nat) (v : Value) (ns : List Syn) (vs : List Value) : Prop where
 own : w.ownsRow base 96 1 v vs.length vs
 len : ns.length=vs.length
 node : ∀ (j : Nat) (h1 : j < ns.length) (h2 : j < vs.length),PtrIn (RX base v) w vs[j] ns[j]
theorem RowP.nil (w : World) (base : Nat) : RowP w base (.slice none 0 0) [] []:=⟨World.ownsRow_nil _ _ _ _,rfl,fun j h1=>absurd h1 (by simp)⟩
theorem RowP.extM {M : Nat -> Prop} {w w' : World} {base : Nat} {v : Value} {ns : List Syn} {vs : List Value} (h : RowP w base v ns vs) (hE : ExtM M w w') (hM : ∀ k,base <= k -> ¬ M k) : RowP w' base v ns vs :=
 ⟨ownsRow_extM h.own hE hM,h.len,fun j h1 h2=>(h.node j h1 h2).mono (hE.keeps fun b hb=>hM b hb.1)⟩
theorem RowP.snoc {w w' : World} {base : Nat} {v v' : Value} {ns : List Syn} {vs : List Value} {n : Syn} {x : Value} (hR : RowP w base v ns vs) (hn : PtrIn (RX base v) w x n) (hG : w.grownBy w' v.ownBlock) (hO : w'.ownsRow base 96 1 v' (vs.length + 1) (vs ++ [x])) (hv' : ∀ g,v'.ownBlock=some g -> v.ownBlock=some g \/ w.heap.size <= g) : RowP w' base v' (ns ++ [n]) (vs ++ [x]):=by
 have hk : ∀ {m : Syn} {u : Value},PtrIn (RX base v) w u m -> PtrIn (RX base v') w' u m:=by
  intro m u hu
  refine hu.turn fun b o c hb hc=>⟨⟨hb.1,fun e=>?_⟩,hG.cell hc (fun e=>hb.2 e.symm)⟩
  rcases hv' b e with h | h
  ·exact hb.2 h
  ·have:=cell_lt hc
   simp only at this
   omega
 refine ⟨by simpa using hO,by simp [hR.len],fun j h1 h2=>?_⟩
 by_cases hj : j < ns.length
 ·have hj' : j < vs.length:=by rw [<- hR.len];exact hj
  rw [List.getElem_append_left hj,List.getElem_append_left hj']
  exact hk (hR.node j hj hj')
 ·have e1 : j=ns.length:=by simp at h1;omega
  have e2 : j=vs.length:=by rw [<- hR.len];exact e1
  rw [List.getElem_append_right (by omega),List.getElem_append_right (by omega)]
  simp [e1,hR.len]
  exact hk hn
theorem RowP.ptrs {w : World} {base : Nat} {v : Value} {ns : List Syn} {vs : List Value} (h : RowP w base v ns vs) : ∃ a c,v=.slice a ns.length c /\ ns.length <= c /\ PtrsIn (fun b=>base <= b) w a ns:=by
 rcases h.own.2 with ⟨rfl,hn⟩ | ⟨g,cap,cur,rfl,hg,hgg,hnc,-⟩
 ·obtain rfl : ns=[]:=List.eq_nil_of_length_eq_zero (by rw [h.len,hn])
  exact ⟨none,0,rfl,Nat.le_refl _,by rw [PtrsIn];trivial⟩
 ·refine ⟨_,_,by rw [h.len],by rw [h.len];exact hnc,ptrsIn_of hg ns vs 0 h.len (fun j h1 h2=>(h.node j h1 h2).imp (fun b hb _=>hb.1)) (fun j u hu=>?_)⟩
  have:=h.own.cells (g:=g) rfl j u hu
  have hadd : (⟨g,0,none⟩ : Addr).add j=⟨g,0 + j,none⟩:=by unfold Addr.add;split <;> simp_all
  rw [hadd] at this
  exact this
end Go.Proofs.YtigalkobmfbdaaaGreatDoor
