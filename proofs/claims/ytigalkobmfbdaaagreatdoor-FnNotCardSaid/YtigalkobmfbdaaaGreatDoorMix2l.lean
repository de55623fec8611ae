/- The package's matcher in memory: what is bound, and the sets of places; push, merge. -/
import Derived.Test.YtigalkobmfbdaaaGreatDoorMix2k
import Derived.Test.YtigalkobmfbdaaaGreatDoorPtr1Z2
import Derived.Test.YtigalkobmfbdaaaGreatDoorParse3Z2
import Derived.Maps.AppendAt
set_option linter.unusedVariables false
set_option linter.unusedSimpArgs false
namespace Go.Proofs.YtigalkobmfbdaaaGreatDoor
open Go.RowKit Go.WideMaps Go.Sort
abbrev XB (mb tb : Nat) (rv : Value) : Nat -> Prop:=fun b=>b ≠ mb /\ b ≠ tb /\ rv.ownBlock ≠ some b
def stV (st : List (BitVec 64)) : List Value:=st.map fun t=>.int .u64 (t.toNat : Int)
def VS (X : Nat -> Prop) (w : World) (V : VL) (S : SL) : Prop:=V.length=S.length /\ ∀ (j : Nat) (h1 : j < V.length) (h2 : j < S.length),V[j].1=S[j].1 /\ PtrIn X w V[j].2 S[j].2
theorem VS.turn {X Y : Nat -> Prop} {w w' : World} {V : VL} {S : SL} (h : VS X w V S) (hk : ∀ b o v,X b -> w.cell? ⟨b,o,none⟩=some v -> Y b /\ w'.cell? ⟨b,o,none⟩=some v) : VS Y w' V S :=
 ⟨h.1,fun j h1 h2=>⟨(h.2 j h1 h2).1,(h.2 j h1 h2).2.turn hk⟩⟩
theorem VS.nil (X : Nat -> Prop) (w : World) : VS X w [] []:=⟨rfl,fun j h=>absurd h (by simp)⟩
theorem VS.cons {X : Nat -> Prop} {w : World} {v : List UInt8 × Value} {s : List UInt8 × Syn} {V : VL} {S : SL} (h : VS X w (v :: V) (s :: S)) : v.1=s.1 /\ PtrIn X w v.2 s.2 /\ VS X w V S:=by
 obtain ⟨h1,h2⟩:=h
 exact ⟨(h2 0 (by simp) (by simp)).1,(h2 0 (by simp) (by simp)).2,by simpa using h1,fun j h3 h4=>h2 (j + 1) (by simpa using h3) (by simpa using h4)⟩
theorem VS.mk_cons {X : Nat -> Prop} {w : World} {v : List UInt8 × Value} {s : List UInt8 × Syn} {V : VL} {S : SL} (h1 : v.1=s.1) (h2 : PtrIn X w v.2 s.2) (h : VS X w V S) : VS X w (v :: V) (s :: S):=by
 refine ⟨by simpa using h.1,fun j h3 h4=>?_⟩
 cases j with
 | zero=>exact ⟨h1,h2⟩
 | succ j=>exact h.2 j (by simpa using h3) (by simpa using h4)
theorem VS.get {X : Nat -> Prop} {w : World} : ∀ {V : VL} {S : SL},VS X w V S -> ∀ (s : List UInt8),(getB S s=none -> getB V s=none) /\ (∀ t,getB S s=some t -> ∃ v,getB V s=some v /\ PtrIn X w v t)
 | [],[],_,s=>⟨fun _=>rfl,fun t h=>by cases h⟩
 | [],_ :: _,h,_=>by have:=h.1;simp at this
 | _ :: _,[],h,_=>by have:=h.1;simp at this
 | v :: V,x :: S,h,s=>by
  obtain ⟨h1,h2,h3⟩:=h.cons
  have ih:=VS.get h3 s
  unfold getB
  rw [h1]
  by_cases e : x.1=s
  ·rw [if_pos e,if_pos e]
   refine ⟨fun h=>(by cases h),fun t ht=>?_⟩
   cases ht
   exact ⟨_,rfl,h2⟩
  ·rw [if_neg e,if_neg e]
   exact ih
theorem VS.filter {X : Nat -> Prop} {w : World} (p : List UInt8 -> Bool) : ∀ {V : VL} {S : SL},VS X w V S -> VS X w (V.filter fun x=>p x.1) (S.filter fun x=>p x.1)
 | [],[],h=>h
 | [],_ :: _,h=>by have:=h.1;simp at this
 | _ :: _,[],h=>by have:=h.1;simp at this
 | v :: V,x :: S,h=>by
  obtain ⟨h1,h2,h3⟩:=h.cons
  have ih:=VS.filter p h3
  rw [List.filter_cons,List.filter_cons,h1]
  split
  ·exact VS.mk_cons h1 h2 ih
  ·exact ih
theorem VS.snoc {X : Nat -> Prop} {w : World} : ∀ {V : VL} {S : SL},VS X w V S -> ∀ (s : List UInt8) {v : Value} {t : Syn},PtrIn X w v t -> VS X w (V ++ [(s,v)]) (S ++ [(s,t)])
 | [],[],h,s,v,t,hp=>VS.mk_cons rfl hp (VS.nil X w)
 | [],_ :: _,h,_,_,_,_=>by have:=h.1;simp at this
 | _ :: _,[],h,_,_,_,_=>by have:=h.1;simp at this
 | v :: V,x :: S,h,s,u,t,hp=>by
  obtain ⟨h1,h2,h3⟩:=h.cons
  exact VS.mk_cons h1 h2 (VS.snoc h3 s hp)
theorem VS.keys {X : Nat -> Prop} {w : World} : ∀ {V : VL} {S : SL},VS X w V S -> V.map Prod.fst=S.map Prod.fst
 | [],[],h=>rfl
 | [],_ :: _,h=>by have:=h.1;simp at this
 | _ :: _,[],h=>by have:=h.1;simp at this
 | v :: V,x :: S,h=>by
  obtain ⟨h1,h2,h3⟩:=h.cons
  rw [List.map_cons,List.map_cons,h1,VS.keys h3]
theorem nodup_le : ∀ (l nm : Names),l.Nodup -> (∀ x ∈ l,x ∈ nm) -> l.length <= nm.length
 | l,[],_,h=>by
  cases l with
  | nil=>simp
  | cons a t=>exact absurd (h a (by simp)) (by simp)
 | l,a :: nm,hn,h=>by
  have ih:=nodup_le (l.erase a) nm (hn.erase a) (fun x hx=>by
   have h1:=(List.Nodup.mem_erase_iff hn).1 hx
   rcases List.mem_cons.1 (h x h1.2) with e | e
   ·exact absurd e h1.1
   ·exact e)
  have:=List.length_erase_le (a:=a) (l:=l)
  by_cases ha : a ∈ l
  ·have:=List.length_erase_of_mem ha
   simp only [List.length_cons]
   omega
  ·rw [List.erase_of_not_mem ha] at ih
   simp only [List.length_cons]
   omega
def BsIn (X : Nat -> Prop) (w : World) (a : Option Addr) (l : Names) : Prop:=∀ (j : Nat) (h : j < l.length),∃ b o,a=some ⟨b,o,none⟩ /\ X b /\ w.cell? ⟨b,o + j,none⟩=some (encStr l[j])
theorem BsIn.turn {X Y : Nat -> Prop} {w w' : World} {a : Option Addr} {l : Names} (h : BsIn X w a l) (hk : ∀ b o v,X b -> w.cell? ⟨b,o,none⟩=some v -> Y b /\ w'.cell? ⟨b,o,none⟩=some v) : BsIn Y w' a l:=fun j hj=>by
 obtain ⟨b,o,e,hb,hc⟩:=h j hj
 exact ⟨b,o,e,(hk _ _ _ hb hc).1,(hk _ _ _ hb hc).2⟩
structure MAt (nm : Names) (mb tb : Nat) (w : World) (rv : Value) (S : SL) (st : List (BitVec 64)) : Prop where
 blk : ∃ ba bc,Blk w mb #[.map (some tb),.slice ba nm.length bc,rv,.bool false] 106 /\ nm.length <= bc /\ BsIn (XB mb tb rv) w ba nm
 tab : ∃ V,RawMap w tb V /\ VS (XB mb tb rv) w V S
 row : w.ownsRow 0 175 1 rv st.length (stV st)
 apart : mb ≠ tb /\ rv.ownBlock ≠ some mb /\ rv.ownBlock ≠ some tb
 keyed : Keyed nm S
 names : nm.Nodup /\ nm.length <= 64 /\ ∀ s ∈ nm,s.length <= 100
def Trn (mb tb : Nat) (rv rv' : Value) (w w' : World) : Prop:=ExtM (fun b=>b=mb \/ b=tb \/ rv.ownBlock=some b) w w' /\ (rv'.ownBlock=rv.ownBlock \/ ∃ g,rv'.ownBlock=some g /\ w.heap.size <= g)
theorem Trn.refl (mb tb : Nat) (rv : Value) (w : World) : Trn mb tb rv rv w w:=⟨ExtM.refl _ _,.inl rfl⟩
theorem Trn.of_ext {mb tb : Nat} {rv : Value} {w w' : World} (h : Ext w w') : Trn mb tb rv rv w w':=⟨h.toM _,.inl rfl⟩
theorem Trn.trans {mb tb : Nat} {rv rv' rv'' : Value} {a b c : World} (h : Trn mb tb rv rv' a b) (k : Trn mb tb rv' rv'' b c) : Trn mb tb rv rv'' a c:=by
 refine ⟨h.1.trans k.1 ?_,?_⟩
 ·rintro i hi (e | e | e)
  ·exact .inl e
  ·exact .inr (.inl e)
  ·rcases h.2 with e2 | ⟨g,e2,hg⟩
   ·exact .inr (.inr (e2 ▸ e))
   ·rw [e] at e2;cases e2;omega
 ·rcases k.2 with e | ⟨g,e,hg⟩
  ·rcases h.2 with e2 | ⟨g,e2,hg⟩
   ·exact .inl (e.trans e2)
   ·exact .inr ⟨g,e.trans e2,hg⟩
  ·exact .inr ⟨g,e,Nat.le_trans h.1.size hg⟩
theorem Trn.keep {mb tb : Nat} {rv rv' : Value} {w w' : World} (h : Trn mb tb rv rv' w w') : ∀ b o v,XB mb tb rv b -> w.cell? ⟨b,o,none⟩=some v -> XB mb tb rv' b /\ w'.cell? ⟨b,o,none⟩=some v:=by
 intro b o v hb hc
 refine ⟨⟨hb.1,hb.2.1,?_⟩,h.1.keep (fun e=>?_) hc⟩
 ·have hlt:=cell_lt hc
  rcases h.2 with e | ⟨g,e,hg⟩
  ·rw [e];exact hb.2.2
  ·rw [e];intro e2;cases e2;simp only at hlt;omega
 ·rcases e with e | e | e
  ·exact hb.1 e
  ·exact hb.2.1 e
  ·exact hb.2.2 e
theorem XB.turn {mb tb : Nat} {rv rv' : Value} {w w' : World} (hT : Trn mb tb rv rv' w w') {b : Nat} (hb : XB mb tb rv b) (hlt : b < w.heap.size) : XB mb tb rv' b:=by
 refine ⟨hb.1,hb.2.1,?_⟩
 rcases hT.2 with e | ⟨g,e,hg⟩
 ·rw [e];exact hb.2.2
 ·rw [e];intro e2;cases e2;omega
theorem MAt.ext {nm : Names} {mb tb : Nat} {w w' : World} {rv : Value} {S : SL} {st : List (BitVec 64)} (h : MAt nm mb tb w rv S st) (hE : Ext w w') : MAt nm mb tb w' rv S st:=by
 obtain ⟨⟨ba,bc,hB,hbc,hb⟩,⟨V,hV,hVS⟩,hr,ha,hk,hn⟩:=h
 refine ⟨⟨ba,bc,hB.ext hE,hbc,hb.turn fun b o v hb hc=>⟨hb,hE.keep hc⟩⟩,⟨V,hV.ext hE,hVS.turn fun b o v hb hc=>⟨hb,hE.keep hc⟩⟩,ownsRow_extM hr (hE.toM fun _=>False) (fun _ _ h=>h),ha,hk,hn⟩
theorem PtrIn.trn {mb tb : Nat} {rv rv' : Value} {w w' : World} {v : Value} {t : Syn} (h : PtrIn (XB mb tb rv) w v t) (hT : Trn mb tb rv rv' w w') : PtrIn (XB mb tb rv') w' v t:=h.turn hT.keep
mutual
theorem NodeAt.turn {X Y : Nat -> Prop} {w w' : World} (h : ∀ b o v,X b -> w.cell? ⟨b,o,none⟩=some v -> Y b /\ w'.cell? ⟨b,o,none⟩=some v) : ∀ {n : PN} {v : Value},NodeAt X w v n -> NodeAt Y w' v n
 | .nul,_,e=>by rw [NodeAt] at e ⊢;exact e
 | .any,_,e=>by rw [NodeAt] at e ⊢;exact e
 | .nil,_,e=>by rw [NodeAt] at e ⊢;exact e
 | .str s,_,e=>by rw [NodeAt] at e ⊢;exact e
 | .tok s,_,e=>by rw [NodeAt] at e ⊢;exact e
 | .struct nm ks,_,e=>by rw [NodeAt] at e ⊢;obtain ⟨a,c,e,hc,hk⟩:=e;exact ⟨a,c,e,hc,NodesAt.turn h hk⟩
 | .list x y,_,e=>by rw [NodeAt] at e ⊢;obtain ⟨hv,tv,e,h1,h2⟩:=e;exact ⟨hv,tv,e,NodeAt.turn h h1,NodeAt.turn h h2⟩
 | .bind nm n i,_,e=>by rw [NodeAt] at e ⊢;obtain ⟨nv,e,h1⟩:=e;exact ⟨nv,e,NodeAt.turn h h1⟩
 | .or ks,_,e=>by rw [NodeAt] at e ⊢;obtain ⟨a,c,e,hc,hk⟩:=e;exact ⟨a,c,e,hc,NodesAt.turn h hk⟩
 | .and ks,_,e=>by rw [NodeAt] at e ⊢;obtain ⟨a,c,e,hc,hk⟩:=e;exact ⟨a,c,e,hc,NodesAt.turn h hk⟩
 | .index p t i,_,e=>by rw [NodeAt] at e ⊢;exact e
theorem NodesAt.turn {X Y : Nat -> Prop} {w w' : World} (h : ∀ b o v,X b -> w.cell? ⟨b,o,none⟩=some v -> Y b /\ w'.cell? ⟨b,o,none⟩=some v) : ∀ {ns : List PN} {a : Option Addr},NodesAt X w a ns -> NodesAt Y w' a ns
 | [],_,_=>by rw [NodesAt];trivial
 | n :: ns,_,e=>by
  rw [NodesAt] at e ⊢
  obtain ⟨b,o,v,e,hb,hc,h1,h2⟩:=e
  exact ⟨b,o,v,e,(h _ _ _ hb hc).1,(h _ _ _ hb hc).2,NodeAt.turn h h1,NodesAt.turn h h2⟩
end
theorem NodeAt.trn {mb tb : Nat} {rv rv' : Value} {w w' : World} {v : Value} {n : PN} (h : NodeAt (XB mb tb rv) w v n) (hT : Trn mb tb rv rv' w w') : NodeAt (XB mb tb rv') w' v n:=h.turn hT.keep
theorem NodesAt.trn {mb tb : Nat} {rv rv' : Value} {w w' : World} {a : Option Addr} {ns : List PN} (h : NodesAt (XB mb tb rv) w a ns) (hT : Trn mb tb rv rv' w w') : NodesAt (XB mb tb rv') w' a ns:=h.turn hT.keep
theorem MAt.cells {nm : Names} {mb tb : Nat} {w : World} {rv : Value} {S : SL} {st : List (BitVec 64)} (h : MAt nm mb tb w rv S st) : ∃ ba bc,w.cell? ⟨mb,0,none⟩=some (.map (some tb)) /\ w.cell? ⟨mb,1,none⟩=some (.slice ba nm.length bc) /\ w.cell? ⟨mb,2,none⟩=some rv /\ w.cell? ⟨mb,3,none⟩=some (.bool false) /\ nm.length <= bc /\ (∀ o,w.frozen? ⟨mb,o,none⟩=false):=by
 obtain ⟨ba,bc,hB,hbc,-⟩:=h.blk
 exact ⟨ba,bc,by rw [hB.cell];rfl,by rw [hB.cell];rfl,by rw [hB.cell];rfl,by rw [hB.cell];rfl,hbc,hB.frozen⟩
theorem MAt.lt {nm : Names} {mb tb : Nat} {w : World} {rv : Value} {S : SL} {st : List (BitVec 64)} (h : MAt nm mb tb w rv S st) : mb < w.heap.size:=by
 obtain ⟨ba,bc,hB,-⟩:=h.blk
 exact hB.lt
end Go.Proofs.YtigalkobmfbdaaaGreatDoor
set_option maxRecDepth 100000
set_option maxHeartbeats 1000000
namespace Go.Proofs.YtigalkobmfbdaaaGreatDoor
open Go.RowKit Go.WideMaps Go.Sort
theorem underlying104 : Tryz.prog.underlying 104=some (.slice 175):=by kernel_rfl
theorem info175 : (Tryz.prog.info? 175).map (fun i=>(i.zero,i.size,i.bytes))=some (some (.int .u64 0),1,8):=by kernel_rfl
theorem underlying103 : Tryz.prog.underlying 103=some (.map 9 96):=by kernel_rfl
theorem zero96 (w : World) : (zeroValue 96).run Tryz.prog w=.ok (.pointer none) w:=by kernel_rfl
theorem stV_len (st : List (BitVec 64)) : (stV st).length=st.length:=by simp [stV]
theorem stV_snoc (st : List (BitVec 64)) (T : BitVec 64) : stV (st ++ [T])=stV st ++ [.int .u64 (T.toNat : Int)]:=by simp [stV]
theorem row_shape {w : World} {rv : Value} {st : List (BitVec 64)} {T : BitVec 64} (h : w.ownsRow 0 175 1 rv (st ++ [T]).length (stV (st ++ [T]))) :
  ∃ g cap cur,rv=.slice (some ⟨g,0,none⟩) (st.length + 1) cap /\ Blk w g cur 175 /\ st.length + 1 <= cap /\ cap <= maxLen /\ cur.size=cap /\ cur.toList.take (st.length + 1)=stV st ++ [.int .u64 (T.toNat : Int)]:=by
 rcases h.2 with ⟨-,h0⟩ | ⟨g,cap,cur,e,-,hg,hn,hm,hs,ht⟩
 ·simp at h0
 ·refine ⟨g,cap,cur,by simpa using e,hg,by simpa using hn,hm,by simpa using hs,?_⟩
  rw [stV_snoc] at ht
  simpa using ht
theorem Trn.set {mb tb : Nat} {rv rv' : Value} {w w' : World} (h : Trn mb tb rv rv' w w') (o : Nat) (u : Value) : Trn mb tb rv rv' w (w'.setCell ⟨mb,o,none⟩ u):=⟨h.1.setCell (p:=⟨mb,o,none⟩) (.inl (.inl rfl)) u,h.2⟩
theorem row_keep {M : Nat -> Prop} {w w' : World} {base : Nat} {e : TypeId} {size : Nat} {v : Value} {n : Nat} {xs : List Value} (h : w.ownsRow base e size v n xs) (hE : ExtM M w w') (hM : ∀ k,v.ownBlock=some k -> ¬ M k) : w'.ownsRow base e size v n xs:=by
 obtain ⟨h1,h2⟩:=h
 refine ⟨h1,?_⟩
 rcases h2 with h2 | ⟨g,cap,cur,rfl,hb,hg,r⟩
 ·exact .inl h2
 ·exact .inr ⟨g,cap,cur,rfl,hb,(hE.block g (Array.getElem?_eq_some_iff.1 hg).1 (hM g rfl)).trans hg,r⟩
theorem MAt.rowed {nm : Names} {mb tb : Nat} {w w0 w1 : World} {rv v' : Value} {S : SL} {st st' : List (BitVec 64)} (h : MAt nm mb tb w rv S st) (hE : Ext w w0) (hG : ExtM (fun b=>rv.ownBlock=some b) w0 w1) (hO : w1.ownsRow 0 175 1 v' st'.length (stV st')) (hloc : v'.ownBlock=rv.ownBlock \/ v'.ownBlock=some w0.heap.size) :
  MAt nm mb tb (w1.setCell ⟨mb,2,none⟩ v') v' S st' /\ Trn mb tb rv v' w (w1.setCell ⟨mb,2,none⟩ v'):=by
 have hs0:=hE.size
 have hT1 : Trn mb tb rv v' w w1:=by
  refine ⟨(hE.toM _).trans (hG.mono fun _ _ e=>.inr (.inr e)) (fun i hi e=>e),?_⟩
  rcases hloc with e | e
  ·exact .inl e
  ·exact .inr ⟨_,e,hs0⟩
 have hT:=hT1.set 2 v'
 obtain ⟨⟨ba,bc,hB,hbc,hb⟩,⟨V,hV,hVS⟩,hr,ha,hk,hn⟩:=h
 have hmb:=hB.lt
 have htb:=hV.lt
 have hne : ∀ {b : Nat},b < w.heap.size -> rv.ownBlock ≠ some b -> v'.ownBlock ≠ some b:=by
  intro b hlt h1 e
  rcases hloc with e2 | e2
  ·exact h1 (e2 ▸ e)
  ·rw [e2] at e;cases e;omega
 have hB1 : Blk w1 mb #[.map (some tb),.slice ba nm.length bc,rv,.bool false] 106:=(hB.ext hE).extM hG ha.2.1
 refine ⟨⟨⟨ba,bc,?_,hbc,hb.turn hT.keep⟩,⟨V,?_,hVS.turn hT.keep⟩,row_keep hO ((ExtM.refl (·=mb) w1).setCell (p:=⟨mb,2,none⟩) (.inl rfl) v') (fun k hk e=>hne hmb ha.2.1 (e ▸ hk)),⟨ha.1,hne hmb ha.2.1,hne htb ha.2.2⟩,hk,hn⟩,hT⟩
 ·simpa using hB1.set 2 v'
 ·refine RawMap.extM (M:=fun b=>b=mb \/ rv.ownBlock=some b) (hV.ext hE) ?_ ?_
  ·exact (hG.mono fun _ _ e=>.inr e).setCell (p:=⟨mb,2,none⟩) (.inl (.inl rfl)) v'
  ·rintro (e | e)
   ·exact ha.1 e.symm
   ·exact ha.2.2 e
theorem push_calls {nm : Names} {mb tb : Nat} {w : World} {rv : Value} {S : SL} {st : List (BitVec 64)} (h : MAt nm mb tb w rv S st) (hst : st.length <= 1000) :
  Calls Tryz.prog 94 #[.pointer (some ⟨mb,0,none⟩)] w fun e w'=>e=.returned (.tuple #[]) /\ ∃ rv',MAt nm mb tb w' rv' S (st ++ [0#64]) /\ Trn mb tb rv rv' w w':=by
 obtain ⟨i0,hi,hz0,hz1,hz2⟩:=info_parts info175
 obtain ⟨ba,bc,c0,c1,c2,c3,hbc,hf⟩:=h.cells
 have hlt:=h.lt
 have hO:=h.row
 have hO2:=owns_slice hO
 have H:=Lib.hid h
 clear h
 obtain ⟨ra,rc,rfl⟩:=hO2
 have KO:=Lib.hid hO
 clear hO
 go_enter Tryz.func94,Tryz.ntmps94
 go_wp2_with (first
  | (at_builtin;refine wpList_append_own_at _ rfl _ _ 104 rfl 0 175 i0 (.int .u64 0) 1 8 underlying104 hi hz0 hz1 hz2 rfl (by decide) _ _ _ rfl (KO.out.alloc _) ⟨w.heap.size,0,none⟩ 1 1 [.int .u64 0] rfl rfl (cell_one_new _ _ _) ?c2 ?c3 ?c4 ?c5 ?_)
  | go_in)
 case c2=>intro u hu;simp at hu;subst hu;rfl
 case c3=>unfold maxLen;omega
 case c4=>omega
 case c5=>omega
 intro v' w1 hO1 hG hnil hloc
 obtain ⟨va,vc,rfl⟩:=owns_slice hO1
 have hO3 : w1.ownsRow 0 175 1 (.slice va (st.length + 1) vc) (st ++ [0#64]).length (stV (st ++ [0#64])):=by
  rw [stV_snoc,List.length_append];exact hO1
 have hE:=Ext.alloc w (.cells #[.int .u64 0] 175)
 have HR:=Lib.hid (H.out.rowed hE (ExtM.of_row' hG) hO3 (by simpa using hloc))
 have hB : ∃ cs,Blk w1 mb cs 106 /\ cs[2]?=some (.slice ra st.length rc):=by
  obtain ⟨ba',bc',hB',-⟩:=H.out.blk
  exact ⟨_,(hB'.ext hE).extM (ExtM.of_row' hG) H.out.apart.2.1,rfl⟩
 obtain ⟨cs,hB,hcs⟩:=hB
 have k2 : w1.cell? ⟨mb,2,none⟩=some (.slice ra st.length rc):=by rw [hB.cell];exact hcs
 have hf2:=hB.frozen 2
 have hlt2:=hB.lt
 clear hnil hO1 hO3 hE hloc hB hcs
 go_wp2_with fail
 go_end0
 exact ⟨rfl,_,HR.out⟩
theorem row_pop {w : World} {g cap : Nat} {cur : Array Value} {st : List (BitVec 64)} {T : BitVec 64} (hB : Blk w g cur 175) (hn : st.length + 1 <= cap) (hm : cap <= maxLen) (hs : cur.size=cap) (ht : cur.toList.take (st.length + 1)=stV st ++ [.int .u64 (T.toNat : Int)]) : w.ownsRow 0 175 1 (.slice (some ⟨g,0,none⟩) st.length cap) st.length (stV st):=by
 refine ⟨by rw [stV_len];simp,.inr ⟨g,cap,cur,rfl,Nat.zero_le _,hB,by omega,hm,by simpa using hs,?_⟩⟩
 have:=congrArg (List.take st.length) ht
 rw [List.take_take,Nat.min_eq_left (by omega)] at this
 rw [Nat.mul_one,this,List.take_append_of_le_length (by rw [stV_len];exact Nat.le_refl _),List.take_of_length_le (by rw [stV_len];exact Nat.le_refl _)]
theorem merge_calls {nm : Names} {mb tb : Nat} {w : World} {rv : Value} {S : SL} {st : List (BitVec 64)} {T : BitVec 64} (h : MAt nm mb tb w rv S (st ++ [T])) (hst : st.length <= 1000) :
  Calls Tryz.prog 96 #[.pointer (some ⟨mb,0,none⟩)] w fun e w'=>e=.returned (.tuple #[]) /\ ∃ rv',MAt nm mb tb w' rv' S st /\ Trn mb tb rv rv' w w':=by
 obtain ⟨ba,bc,c0,c1,c2,c3,hbc,hf⟩:=h.cells
 have hlt:=h.lt
 obtain ⟨g,cap,cur,rfl,hB,hn,hm,hs,ht⟩:=row_shape h.row
 have hE : Ext w w.drew:=Ext.drew w
 have HR:=Lib.hid (h.rowed hE (ExtM.refl _ _) (row_pop (hB.ext hE) hn hm hs ht) (.inl rfl))
 have hw : IntKind.i64.wrap (st.length : Int)=(st.length : Int):=by rw [IntKind.wrap_i64];omega
 have hb1 : (st.length : Int) <= (cap : Int):=by omega
 have hb2 : st.length <= cap:=by omega
 clear h hB ht hE
 go_enter Tryz.func96,Tryz.ntmps96
 go_wp2_with fail
 refine wp_region_still_tail 14 (by kernel_rfl) (by kernel_rfl) ?_
 simp only [List.take_succ_cons,List.take_zero,List.drop_succ_cons,List.drop_zero]
 change wpStill _ _ (World.drew _) (fun a'=>wpList _ _ _ _ a' (World.drew _)) _ _
 repeat still_step
 refine wpStill_nil ?_
 go_wp2_with fail
 go_end0
 exact ⟨rfl,_,HR.out⟩
theorem PtrIn.ptr {X : Nat -> Prop} {w : World} {v : Value} {t : Syn} (h : PtrIn X w v t) : ∃ p,v=.pointer p:=by
 rcases h.shape with ⟨rfl,-⟩ | ⟨b,rfl,-⟩
 ·exact ⟨_,rfl⟩
 ·exact ⟨_,rfl⟩
theorem row_set {w : World} {g cap : Nat} {cur : Array Value} {st : List (BitVec 64)} {T T' : BitVec 64} (hB : Blk w g cur 175) (hn : st.length + 1 <= cap) (hm : cap <= maxLen) (hs : cur.size=cap) (ht : cur.toList.take (st.length + 1)=stV st ++ [.int .u64 (T.toNat : Int)]) : (w.setCell ⟨g,st.length,none⟩ (.int .u64 (T'.toNat : Int))).ownsRow 0 175 1 (.slice (some ⟨g,0,none⟩) (st.length + 1) cap) (st ++ [T']).length (stV (st ++ [T'])):=by
 refine ⟨by rw [stV_len];simp,.inr ⟨g,cap,_,by simp,Nat.zero_le _,hB.set st.length _,by simpa using hn,hm,by simpa using hs,?_⟩⟩
 have h1:=congrArg (List.take st.length) ht
 have e1 : (stV st).take st.length=stV st:=List.take_of_length_le (by rw [stV_len];exact Nat.le_refl _)
 rw [List.take_take,Nat.min_eq_left (by omega),List.take_append_of_le_length (by rw [stV_len];exact Nat.le_refl _),e1] at h1
 rw [stV_snoc,<- h1]
 simp only [Array.toList_setIfInBounds,List.length_append,List.length_singleton,Nat.mul_one]
 rw [List.take_add_one,List.take_set_of_le (Nat.le_refl _),List.getElem?_set_self (by simp;omega)]
 rfl
theorem MAt.bound {nm : Names} {mb tb : Nat} {w w0 w1 w2 : World} {g cap : Nat} {S : SL} {st : List (BitVec 64)} {T T' : BitVec 64} {cur : Array Value} (h : MAt nm mb tb w (.slice (some ⟨g,0,none⟩) (st.length + 1) cap) S (st ++ [T])) {V : VL} (hVS : VS (XB mb tb (.slice (some ⟨g,0,none⟩) (st.length + 1) cap)) w V S) {x : List UInt8} {v : Value} {t : Syn} (hp : PtrIn (XB mb tb (.slice (some ⟨g,0,none⟩) (st.length + 1) cap)) w v t) (hrs : RZ t) (hx : x ∈ nm)
  (hB : Blk w g cur 175) (hn : st.length + 1 <= cap) (hm : cap <= maxLen) (hs : cur.size=cap) (ht : cur.toList.take (st.length + 1)=stV st ++ [.int .u64 (T.toNat : Int)])
  (hE : Ext w w0) (hM : ExtM (·=tb) w0 w1) (hV : RawMap w1 tb ((V.filter fun y=>y.1 != x) ++ [(x,v)])) (hE2 : Ext w1 w2) :
  MAt nm mb tb (w2.setCell ⟨g,st.length,none⟩ (.int .u64 (T'.toNat : Int))) (.slice (some ⟨g,0,none⟩) (st.length + 1) cap) (setB S x t) (st ++ [T']) /\ Trn mb tb (.slice (some ⟨g,0,none⟩) (st.length + 1) cap) (.slice (some ⟨g,0,none⟩) (st.length + 1) cap) w (w2.setCell ⟨g,st.length,none⟩ (.int .u64 (T'.toNat : Int))):=by
 obtain ⟨⟨ba,bc,hBm,hbc,hb⟩,-,hr,ha,hk,hnm⟩:=h
 have hgm : g ≠ mb:=fun e=>ha.2.1 (by rw [e];rfl)
 have hgt : g ≠ tb:=fun e=>ha.2.2 (by rw [e];rfl)
 have h1 : ExtM (·=tb) w w2:=((hE.toM _).trans hM (fun i hi e=>e)).ext hE2
 have hT : Trn mb tb (.slice (some ⟨g,0,none⟩) (st.length + 1) cap) (.slice (some ⟨g,0,none⟩) (st.length + 1) cap) w (w2.setCell ⟨g,st.length,none⟩ (.int .u64 (T'.toNat : Int))) :=
  ⟨(h1.mono fun _ _ e=>.inr (.inl e)).setCell (p:=⟨g,st.length,none⟩) (.inl (.inr (.inr rfl))) _,.inl rfl⟩
 have hset : ExtM (·=g) w2 (w2.setCell ⟨g,st.length,none⟩ (.int .u64 (T'.toNat : Int))):=(ExtM.refl (·=g) w2).setCell (p:=⟨g,st.length,none⟩) (.inl rfl) _
 refine ⟨⟨⟨ba,bc,(hBm.extM h1 ha.1).extM hset (fun e=>hgm e.symm),hbc,hb.turn hT.keep⟩,⟨_,(hV.ext hE2).extM hset (fun e=>hgt e.symm),?_⟩,row_set (hB.extM h1 hgt) hn hm hs ht,ha,hk.bindB hx hrs,hnm⟩,hT⟩
 unfold setB
 exact (VS.snoc (VS.filter (fun y=>y != x) hVS) x hp).turn hT.keep
theorem keys_size {nm : Names} {S : SL} (h : Keyed nm S) (hn : nm.length <= 64) : S.length <= 64:=by
 have:=nodup_le (S.map Prod.fst) nm h.1 (fun x hx=>by
  obtain ⟨y,hy,rfl⟩:=List.mem_map.1 hx
  exact h.2.1 y hy)
 rw [List.length_map] at this
 omega
theorem set_calls {nm : Names} {mb tb : Nat} {w : World} {rv : Value} {S : SL} {st : List (BitVec 64)} {T : BitVec 64} (h : MAt nm mb tb w rv S (st ++ [T])) (hst : st.length <= 1000) {x : ByteArray} (hx : x.toList ∈ nm) (hxs : x.size <= 1000) {ty : TypeId} {nx v : Value} {t : Syn} (hp : PtrIn (XB mb tb rv) w v t) (hrs : RZ t) :
  Calls Tryz.prog 246 #[.pointer (some ⟨mb,0,none⟩),.agg #[.string x,.iface ty nx,.int .i64 (nm.idxOf x.toList : Nat)],v] w fun e w'=>e=.returned (.tuple #[]) /\ MAt nm mb tb w' rv (setB S x.toList t) (st ++ [T ||| BitVec.twoPow 64 (nm.idxOf x.toList)]) /\ Trn mb tb rv rv w w':=by
 obtain ⟨ba,bc,c0,c1,c2,c3,hbc,hf⟩:=h.cells
 have hlt:=h.lt
 obtain ⟨g,cap,cur,rfl,hB,hn,hm,hs,ht⟩:=row_shape h.row
 have hi:=List.idxOf_lt_length_iff.2 hx
 have hnm:=h.names
 obtain ⟨V,hV,hVS⟩:=h.tab
 have hnd : (V.map Prod.fst).Nodup:=by rw [hVS.keys];exact h.keyed.1
 have hVl : V.length <= 64:=by have:=keys_size h.keyed hnm.2.1;have:=hVS.1;omega
 have hor:=or_set T (nm.idxOf x.toList) (by omega)
 rw [Int.one_mul] at hor
 have HO:=Lib.hid hor
 clear hor
 have hw : IntKind.i64.wrap (st.length : Int)=(st.length : Int):=by rw [IntKind.wrap_i64];omega
 have hgc : w.cell? ⟨g,st.length,none⟩=some (.int .u64 (T.toNat : Int)):=by
  rw [hB.cell]
  have h1:=congrArg (fun l=>l[st.length]?) ht
  rw [List.getElem?_take_of_lt (by omega),List.getElem?_append_right (by rw [stV_len];exact Nat.le_refl _),stV_len] at h1
  simpa using h1
 have hgf:=hB.frozen st.length
 have hgl:=hB.lt
 have hgt : g ≠ tb:=fun e=>h.apart.2.2 (by rw [e];rfl)
 have hmt:=h.apart.1
 obtain ⟨p,rfl⟩:=hp.ptr
 have HB:=Lib.hid (fun (w0 w1 w2 : World)=>h.bound (w0:=w0) (w1:=w1) (w2:=w2) (T':=T ||| BitVec.twoPow 64 (nm.idxOf x.toList)) hVS hp hrs hx hB hn hm hs ht)
 have KV:=Lib.hid hV
 clear h hB ht hV hVS hp
 go_enter Tryz.func246,Tryz.ntmps246
 go_wp2_with fail
 refine wp_region_still_tail 7 (by kernel_rfl) (by kernel_rfl) ?_
 simp only [List.take_succ_cons,List.take_zero,List.drop_succ_cons,List.drop_zero]
 change wpStill _ _ (World.drew _) (fun a'=>wpList _ _ _ _ a' (World.drew _)) _ _
 repeat still_step
 refine wpStill_nil ?_
 have hE0 : Ext w (w.alloc (.cells #[.string x,.iface ty nx,.int .i64 (nm.idxOf x.toList : Nat)] 138)).drew:=(Ext.alloc _ _).trans (Ext.drew _)
 have b2 : (w.alloc (.cells #[.string x,.iface ty nx,.int .i64 (nm.idxOf x.toList : Nat)] 138)).drew.cell? ⟨w.heap.size,2,none⟩=some (.int .i64 (nm.idxOf x.toList : Nat)):=by simp
 have htb:=KV.out.lt
 generalize (w.alloc (.cells #[.string x,.iface ty nx,.int .i64 (nm.idxOf x.toList : Nat)] 138)).drew=W0 at *
 have KE:=Lib.hid hE0
 clear hE0
 go_wp2_with (first
  | (at_mapUpdate;refine wpList_set_raw _ rfl _ _ _ 103 rfl 96 underlying103 rfl (KV.out.ext KE.out) (by omega) _ _ rfl rfl (by unfold maxLen;omega) hnd ?_;intro w1 hV1 hT1)
  | fail)
 have hM1:=turned_extM hT1
 replace c2:=hM1.keep hmt (KE.out.keep c2)
 replace hgc:=hM1.keep hgt (KE.out.keep hgc)
 replace b2:=hM1.keep (show ¬ w.heap.size=tb by omega) b2
 replace hgf:=(hM1.frozen (p:=⟨g,st.length,none⟩) (Nat.lt_of_lt_of_le hgl KE.out.size) hgt).trans ((KE.out.frozen (p:=⟨g,st.length,none⟩) hgl).trans hgf)
 have hgl1:=cell_lt hgc
 have hml1:=cell_lt c2
 have hbl1:=cell_lt b2
 have HR:=Lib.hid (HB.out W0 w1 w1.drew KE.out hM1 hV1 (Ext.drew _))
 have hb1 : (st.length : Int) < (st.length : Int) + 1:=by omega
 have hb2 : st.length < st.length + 1:=by omega
 clear hM1 hT1 hV1 c0 c1 c3 hf
 refine wp_region_still_tail 17 (by kernel_rfl) (by kernel_rfl) ?_
 simp only [List.take_succ_cons,List.take_zero,List.drop_succ_cons,List.drop_zero]
 change wpStill _ _ (World.drew _) (fun a'=>wpList _ _ _ _ a' (World.drew _)) _ _
 repeat still_step
 refine wpStill_nil ?_
 go_wp2_with fail
 go_end0
 rw [HO.out]
 exact ⟨rfl,HR.out⟩
end Go.Proofs.YtigalkobmfbdaaaGreatDoor
set_option maxRecDepth 100000
set_option maxHeartbeats 1000000
namespace Go.Proofs.YtigalkobmfbdaaaGreatDoor
open Go.RowKit Go.WideMaps Go.Sort
theorem MAt.mapped {nm : Names} {mb tb : Nat} {w w1 : World} {rv : Value} {S S' : SL} {st : List (BitVec 64)} (h : MAt nm mb tb w rv S st) (hM : ExtM (·=tb) w w1) {V : VL} (hV : RawMap w1 tb V) (hVS : VS (XB mb tb rv) w V S') (hk : Keyed nm S') : MAt nm mb tb w1 rv S' st /\ Trn mb tb rv rv w w1:=by
 have hT : Trn mb tb rv rv w w1:=⟨hM.mono fun _ _ e=>.inr (.inl e),.inl rfl⟩
 obtain ⟨⟨ba,bc,hBm,hbc,hb⟩,-,hr,ha,-,hnm⟩:=h
 exact ⟨⟨⟨ba,bc,hBm.extM hM ha.1,hbc,hb.turn hT.keep⟩,⟨V,hV,hVS.turn hT.keep⟩,row_keep hr hM (fun k hk e=>ha.2.2 (e ▸ hk)),ha,hk,hnm⟩,hT⟩
theorem MAt.cells' {nm : Names} {mb tb : Nat} {w : World} {rv : Value} {S : SL} {st : List (BitVec 64)} (h : MAt nm mb tb w rv S st) : ∃ ba bc,w.cell? ⟨mb,0,none⟩=some (.map (some tb)) /\ w.cell? ⟨mb,1,none⟩=some (.slice ba nm.length bc) /\ w.cell? ⟨mb,2,none⟩=some rv /\ w.cell? ⟨mb,3,none⟩=some (.bool false) /\ nm.length <= bc /\ (∀ o,w.frozen? ⟨mb,o,none⟩=false) /\ BsIn (XB mb tb rv) w ba nm:=by
 obtain ⟨ba,bc,hB,hbc,hb⟩:=h.blk
 exact ⟨ba,bc,by rw [hB.cell];rfl,by rw [hB.cell];rfl,by rw [hB.cell];rfl,by rw [hB.cell];rfl,hbc,hB.frozen,hb⟩
theorem popF_nodup {α : Type} {nm : Names} {T : BitVec 64} {i : Nat} {V : List (List UInt8 × α)} (h : (V.map Prod.fst).Nodup) : ((popF nm T i V).map Prod.fst).Nodup:=h.sublist (List.filter_sublist.map _)
theorem popF_none {α : Type} {nm : Names} {T : BitVec 64} (h : ((T.toNat : Int) != 0)=false) (i : Nat) (V : List (List UInt8 × α)) : popF nm T i V=V:=by
 have h0 : T.toNat=0:=by simpa using h
 have hT : T=0#64:=BitVec.eq_of_toNat_eq (by simpa using h0)
 subst hT
 unfold popF
 rw [List.filter_eq_self]
 intro x _
 simp
theorem pop_calls {nm : Names} {mb tb : Nat} {w : World} {rv : Value} {S A : SL} {st : List (BitVec 64)} {T : BitVec 64} (h : MAt nm mb tb w rv (S ++ A) (st ++ [T])) (hst : st.length <= 1000) (hT : ∀ i < 64,T.getLsbD i=A.any fun x=>nm.idxOf x.1 == i) :
  Calls Tryz.prog 250 #[.pointer (some ⟨mb,0,none⟩)] w fun e w'=>e=.returned (.tuple #[]) /\ ∃ rv',MAt nm mb tb w' rv' S st /\ Trn mb tb rv rv' w w':=by
 obtain ⟨ba,bc,c0,c1,c2,c3,hbc,hf,hbn⟩:=h.cells'
 have hlt:=h.lt
 obtain ⟨g,cap,cur,rfl,hB,hn,hm,hs,ht⟩:=row_shape h.row
 have hnm:=h.names
 obtain ⟨V,hV,hVS⟩:=h.tab
 have hnd : (V.map Prod.fst).Nodup:=by rw [hVS.keys];exact h.keyed.1
 have hVm : ∀ x ∈ V,x.1 ∈ nm:=fun x hx=>by
  have h1 : x.1 ∈ V.map Prod.fst:=List.mem_map_of_mem hx
  rw [hVS.keys] at h1
  obtain ⟨y,hy,e⟩:=List.mem_map.1 h1
  rw [<- e]
  exact h.keyed.2.1 y hy
 have hw : IntKind.i64.wrap (st.length : Int)=(st.length : Int):=by rw [IntKind.wrap_i64];omega
 have hgc : w.cell? ⟨g,st.length,none⟩=some (.int .u64 (T.toNat : Int)):=by
  rw [hB.cell]
  have h1:=congrArg (fun l=>l[st.length]?) ht
  rw [List.getElem?_take_of_lt (by omega),List.getElem?_append_right (by rw [stV_len];exact Nat.le_refl _),stV_len] at h1
  simpa using h1
 have hgl:=hB.lt
 have hgt : g ≠ tb:=fun e=>h.apart.2.2 (by rw [e];rfl)
 have hmt:=h.apart.1
 have hdone:=popF_done hnm.2.1 h.keyed.1 h.keyed.2.1 hT
 have hks:=h.keyed.left
 have hb1 : (st.length : Int) < (st.length : Int) + 1:=by omega
 have hb2 : st.length < st.length + 1:=by omega
 have hb3 : (st.length : Int) <= (cap : Int):=by omega
 have hb4 : st.length <= cap:=by omega
 have HB:=Lib.hid (And.intro hB ht)
 have HH:=Lib.hid h
 have HV:=Lib.hid (And.intro hV hVS)
 have HN:=Lib.hid (And.intro hdone (And.intro hks hT))
 have HBs:=Lib.hid hbn
 clear h hB ht hV hVS hdone hks hT
 go_enter Tryz.func250,Tryz.ntmps250
 go_wp2_with fail
 go_quiet (fail)
 have hE0:=Ext.drewN w nq
 generalize w.drewN nq=w0 at *
 replace c1:=hE0.keep c1
 replace c2:=hE0.keep c2
 replace c0:=hE0.keep c0
 have KE:=Lib.hid hE0
 have hf2 : w0.frozen? ⟨mb,2,none⟩=false:=(hE0.frozen (p:=⟨mb,2,none⟩) hlt).trans (hf 2)
 have hlt0:=Nat.lt_of_lt_of_le hlt hE0.size
 clear hE0
 cases hz : ((T.toNat : Int) != 0)
 ·go_wp2_with fail
  refine wp_region_still_tail 14 (by kernel_rfl) (by kernel_rfl) ?_
  simp only [List.take_succ_cons,List.take_zero,List.drop_succ_cons,List.drop_zero]
  change wpStill _ _ (World.drew _) (fun a'=>wpList _ _ _ _ a' (World.drew _)) _ _
  repeat still_step
  refine wpStill_nil ?_
  have hS : S ++ A=S:=by
   have h1:=HN.out.1
   rwa [popF_none hz] at h1
  have h0 : MAt nm mb tb w0 (.slice (some ⟨g,0,none⟩) (st.length + 1) cap) S (st ++ [T]):=by
   have:=HH.out.ext KE.out
   rwa [hS] at this
  have HR:=Lib.hid (h0.rowed (Ext.drew w0) (ExtM.refl _ _) (row_pop ((HB.out.1.ext KE.out).ext (Ext.drew _)) hn hm hs HB.out.2) (.inl rfl))
  clear hS h0
  go_wp2_with fail
  go_end0
  exact ⟨rfl,_,HR.out.1,(Trn.of_ext KE.out).trans HR.out.2⟩
 ·go_wp2_with fail
  go_loopw [3] (fun iv wr=>∃ i : Nat,iv=.int .i64 i /\ i <= nm.length /\ ExtM (·=tb) w0 wr /\ RawMap wr tb (popF nm T i V)) (fun iv _=>nm.length - (intOf iv).toNat)
  case atStart=>exact ⟨0,rfl,Nat.zero_le _,ExtM.refl _ _,by rw [popF_zero];exact HV.out.1.ext KE.out⟩
  case round =>
   obtain ⟨i,rfl,hi,hM,hVr⟩:=hrel
   replace c1:=hM.keep hmt c1
   replace c2:=hM.keep hmt c2
   replace c0:=hM.keep hmt c0
   have KM:=Lib.hid hM
   have KV:=Lib.hid hVr
   have hltr:=cell_lt c1
   by_cases hil : i < nm.length
   ·have hi64 : i < 64:=by omega
    have hi64' : (i : Int) <= 64:=by omega
    have hag:=and_get T i hi64
    rw [Int.one_mul] at hag
    obtain ⟨nb,no,rfl,hnx,hnc⟩:=HBs.out i hil
    replace hnc:=KM.out.keep hnx.2.1 (KE.out.keep hnc)
    have hnl:=cell_lt hnc
    simp only [encStr] at hnc
    have hsz : (⟨(nm[i]).toArray⟩ : ByteArray).size <= maxLen:=by
     have h1:=hnm.2.2 _ (List.getElem_mem hil)
     show (nm[i]).toArray.size <= maxLen
     unfold maxLen
     simp
     omega
    have hst2:=popF_step (α:=Value) hnm.1 hil (T:=T) (V:=V)
    have hvm2:=hVm
    cases hb : T.getLsbD i
    ·rw [hb] at hag
     go_wp2_with fail
     exact ⟨⟨i + 1,by go_num,by omega,KM.out,by rw [popF_skip hb];exact KV.out⟩,by simp [intOf];omega⟩
    ·rw [hb] at hag
     have HP:=Lib.hid (hst2 hb hvm2)
     clear hst2 hvm2
     go_wp2_with (first
      | (at_delete;refine wpList_delete_raw _ rfl _ _ 103 rfl 96 underlying103 rfl KV.out _ rfl hsz (popF_nodup hnd) ?_;intro w2 hV2 hT2)
      | fail)
     have hM2:=KM.out.trans (turned_extM hT2) (fun i hi e=>e)
     have hV3 : RawMap w2 tb (popF nm T (i + 1) V):=by
      rw [HP.out]
      simpa [toList_mk] using hV2
     clear hV2 hT2
     exact ⟨⟨i + 1,by go_num,by omega,hM2,hV3⟩,by simp [intOf];omega⟩
   ·obtain rfl : i=nm.length:=by omega
    have hVS2 : VS (XB mb tb (.slice (some ⟨g,0,none⟩) (st.length + 1) cap)) w0 (popF nm T nm.length V) S:=by
     have h1:=VS.filter (fun y=>!(T.getLsbD (nm.idxOf y) && decide (nm.idxOf y < nm.length))) HV.out.2
     have h2:=HN.out.1
     unfold popF at h2 ⊢
     rw [h2] at h1
     exact h1.turn fun b o v hb hc=>⟨hb,KE.out.keep hc⟩
    have hM1:=(HH.out.ext KE.out).mapped KM.out KV.out hVS2 HN.out.2.1
    have HR:=Lib.hid (hM1.1.rowed (Ext.drew wr) (ExtM.refl _ _) (row_pop (((HB.out.1.ext KE.out).extM KM.out hgt).ext (Ext.drew _)) hn hm hs HB.out.2) (.inl rfl))
    have HT:=Lib.hid ((Trn.of_ext KE.out).trans hM1.2)
    have hf3 : wr.frozen? ⟨mb,2,none⟩=false:=(KM.out.frozen (p:=⟨mb,2,none⟩) hlt0 hmt).trans hf2
    clear hVS2 hM1
    go_wp2_with fail
    refine wp_region_still_tail 14 (by kernel_rfl) (by kernel_rfl) ?_
    simp only [List.take_succ_cons,List.take_zero,List.drop_succ_cons,List.drop_zero]
    change wpStill _ _ (World.drew _) (fun a'=>wpList _ _ _ _ a' (World.drew _)) _ _
    repeat still_step
    refine wpStill_nil ?_
    go_wp2_with fail
    go_end0
    exact ⟨rfl,_,HR.out.1,HT.out.trans HR.out.2⟩
end Go.Proofs.YtigalkobmfbdaaaGreatDoor
