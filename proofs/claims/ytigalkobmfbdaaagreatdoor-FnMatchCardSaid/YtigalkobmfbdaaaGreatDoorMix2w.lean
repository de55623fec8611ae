/- The reference's matcher in memory. -/
import Derived.Test.YtigalkobmfbdaaaGreatDoorMix2u
import Derived.Test.YtigalkobmfbdaaaGreatDoorEq1Z2
import Derived.Deep.RegionLaw
set_option linter.unusedVariables false
set_option linter.unusedSimpArgs false
namespace Go.Proofs.YtigalkobmfbdaaaGreatDoor
open Go.RowKit Go.WideMaps
def VR (R : Value -> Syn -> Prop) (V : VL) (S : SL) : Prop:=V.length=S.length /\ ∀ (j : Nat) (h1 : j < V.length) (h2 : j < S.length),V[j].1=S[j].1 /\ R V[j].2 S[j].2
theorem VR.nil (R : Value -> Syn -> Prop) : VR R [] []:=⟨rfl,fun j h=>absurd h (by simp)⟩
theorem VR.cons {R : Value -> Syn -> Prop} {v : List UInt8 × Value} {s : List UInt8 × Syn} {V : VL} {S : SL} (h : VR R (v :: V) (s :: S)) : v.1=s.1 /\ R v.2 s.2 /\ VR R V S:=by
 obtain ⟨h1,h2⟩:=h
 exact ⟨(h2 0 (by simp) (by simp)).1,(h2 0 (by simp) (by simp)).2,by simpa using h1,fun j h3 h4=>h2 (j + 1) (by simpa using h3) (by simpa using h4)⟩
theorem VR.mk_cons {R : Value -> Syn -> Prop} {v : List UInt8 × Value} {s : List UInt8 × Syn} {V : VL} {S : SL} (h1 : v.1=s.1) (h2 : R v.2 s.2) (h : VR R V S) : VR R (v :: V) (s :: S):=by
 refine ⟨by simpa using h.1,fun j h3 h4=>?_⟩
 cases j with
 | zero=>exact ⟨h1,h2⟩
 | succ j=>exact h.2 j (by simpa using h3) (by simpa using h4)
theorem VR.get {R : Value -> Syn -> Prop} : ∀ {V : VL} {S : SL},VR R V S -> ∀ (s : List UInt8),(getB S s=none -> getB V s=none) /\ (∀ t,getB S s=some t -> ∃ v,getB V s=some v /\ R v t)
 | [],[],_,s=>⟨fun _=>rfl,fun t h=>by cases h⟩
 | [],_ :: _,h,_=>by have:=h.1;simp at this
 | _ :: _,[],h,_=>by have:=h.1;simp at this
 | v :: V,x :: S,h,s=>by
  obtain ⟨h1,h2,h3⟩:=h.cons
  have ih:=VR.get h3 s
  unfold getB
  rw [h1]
  by_cases e : x.1=s
  ·rw [if_pos e,if_pos e]
   refine ⟨fun h=>(by cases h),fun t ht=>?_⟩
   cases ht
   exact ⟨_,rfl,h2⟩
  ·rw [if_neg e,if_neg e]
   exact ih
theorem VR.filter {R : Value -> Syn -> Prop} (p : List UInt8 -> Bool) : ∀ {V : VL} {S : SL},VR R V S -> VR R (V.filter fun x=>p x.1) (S.filter fun x=>p x.1)
 | [],[],h=>h
 | [],_ :: _,h=>by have:=h.1;simp at this
 | _ :: _,[],h=>by have:=h.1;simp at this
 | v :: V,x :: S,h=>by
  obtain ⟨h1,h2,h3⟩:=h.cons
  have ih:=VR.filter p h3
  rw [List.filter_cons,List.filter_cons,h1]
  split
  ·exact VR.mk_cons h1 h2 ih
  ·exact ih
theorem VR.snoc {R : Value -> Syn -> Prop} : ∀ {V : VL} {S : SL},VR R V S -> ∀ (s : List UInt8) {v : Value} {t : Syn},R v t -> VR R (V ++ [(s,v)]) (S ++ [(s,t)])
 | [],[],h,s,v,t,hp=>VR.mk_cons rfl hp (VR.nil R)
 | [],_ :: _,h,_,_,_,_=>by have:=h.1;simp at this
 | _ :: _,[],h,_,_,_,_=>by have:=h.1;simp at this
 | v :: V,x :: S,h,s,u,t,hp=>by
  obtain ⟨h1,h2,h3⟩:=h.cons
  exact VR.mk_cons h1 h2 (VR.snoc h3 s hp)
theorem VR.keys {R : Value -> Syn -> Prop} : ∀ {V : VL} {S : SL},VR R V S -> V.map Prod.fst=S.map Prod.fst
 | [],[],h=>rfl
 | [],_ :: _,h=>by have:=h.1;simp at this
 | _ :: _,[],h=>by have:=h.1;simp at this
 | v :: V,x :: S,h=>by
  obtain ⟨h1,h2,h3⟩:=h.cons
  rw [List.map_cons,List.map_cons,h1,VR.keys h3]
def SynR (w0 : World) (v : Value) (t : Syn) : Prop:=∃ a c,v=synV t a c /\ SynX (fun _=>True) w0 a c t
theorem VR.setB {R : Value -> Syn -> Prop} {V : VL} {S : SL} (h : VR R V S) (s : List UInt8) {v : Value} {t : Syn} (hp : R v t) : VR R ((V.filter fun x=>x.1 != s) ++ [(s,v)]) (Go.Proofs.YtigalkobmfbdaaaGreatDoor.setB S s t) :=
 (h.filter (fun y=>y != s)).snoc s hp
structure MSt (w0 : World) (nm : Names) (mb tb : Nat) (w : World) (S : SL) (op : Bool) : Prop where
 ext : Ext w0 w
 lo : w0.heap.size <= mb /\ w0.heap.size <= tb
 ne : mb ≠ tb
 blk : Blk w mb #[.map (some tb),.bool op] 94
 tab : ∃ V,RawMap w tb V /\ VR (SynR w0) V S
 keyed : Keyed nm S
theorem MSt.grow {w0 : World} {nm : Names} {mb tb : Nat} {w w' : World} {S : SL} {op : Bool} (h : MSt w0 nm mb tb w S op) (hE : Ext w w') : MSt w0 nm mb tb w' S op:=by
 obtain ⟨V,hV,hR⟩:=h.tab
 exact ⟨h.ext.trans hE,h.lo,h.ne,h.blk.ext hE,⟨V,hV.ext hE,hR⟩,h.keyed⟩
def MTrn (mb tb tb' : Nat) (w w' : World) : Prop:=ExtM (fun b=>b=mb \/ b=tb) w w' /\ (tb'=tb \/ w.heap.size <= tb')
theorem MTrn.refl (mb tb : Nat) (w : World) : MTrn mb tb tb w w:=⟨ExtM.refl _ _,.inl rfl⟩
theorem MTrn.of_ext {mb tb : Nat} {w w' : World} (h : Ext w w') : MTrn mb tb tb w w':=⟨h.toM _,.inl rfl⟩
theorem MTrn.trans {mb tb tb' tb'' : Nat} {a b c : World} (h : MTrn mb tb tb' a b) (k : MTrn mb tb' tb'' b c) : MTrn mb tb tb'' a c:=by
 have hs:=h.1.size
 refine ⟨h.1.trans k.1 ?_,?_⟩
 ·rintro i hi (e | e)
  ·exact .inl e
  ·rcases h.2 with e2 | e2
   ·exact .inr (e.trans e2)
   ·omega
 ·rcases k.2 with e | e
  ·rcases h.2 with e2 | e2
   ·exact .inl (e.trans e2)
   ·exact .inr (by omega)
  ·exact .inr (by omega)
def SpP (w0 : World) (nm : Names) (mb tb : Nat) (w : World) (r : SpR) (e : Ending) (w' : World) : Prop :=
 (∃ o a c,e=.returned (.tuple #[synV o a c,.bool r.ok]) /\ (r.ok=true -> o=r.out /\ RZ r.out /\ SynX (fun _=>True) w0 a c r.out)) /\ ∃ tb',MSt w0 nm mb tb' w' r.S r.op /\ MTrn mb tb tb' w w'
def SpN (p : Tree) (n : Syn) : Prop:=∀ (nm : Names),nm.length <= 64 -> (∀ x ∈ namesT p,x ∈ nm) -> ∀ (S : SL) (op : Bool) (w0 w : World) (mb tb : Nat) (ta : Option Addr) (tc : Nat) (a : Option Addr) (c : Nat),TreeAt w0 ta tc p -> SynX (fun _=>True) w0 a c n -> MSt w0 nm mb tb w S op →
 Calls Tryz.prog 61 #[.pointer (some ⟨mb,0,none⟩),treeV p ta tc,synV n a c] w (SpP w0 nm mb tb w (sp p n S op))
def SpC (p : Tree) : Prop:=∀ n,RZ n -> SpN p n
structure SpS (w0 : World) (nm : Names) (mb tb0 tb : Nat) (w : World) (S : SL) (op : Bool) (k x : ByteArray) (ks : List Tree) (ta : Option Addr) (tc : Nat) (n : Syn) (a : Option Addr) (c : Nat) (w1 : World) : Prop where
 st : MSt w0 nm mb tb w1 S op
 pat : Blk w1 w.heap.size #[.string k,.string x,.slice ta ks.length tc] 24
 part : Blk w1 (w.heap.size + 1) (synC n a c) 52
 out : Blk w1 (w.heap.size + 2) #[.string ⟨#[]⟩,.bool false,.string ⟨#[]⟩,.int .i64 0,.slice none 0 0] 52
 syn : SynX (fun _=>True) w0 a c n
 grown : MTrn mb tb0 tb w w1
 far : mb < w.heap.size /\ (tb < w.heap.size \/ w.heap.size + 3 <= tb)
theorem sp_begin {w0 : World} {nm : Names} {mb tb : Nat} {w : World} {S : SL} {op : Bool} {k x : ByteArray} {ks : List Tree} {ta : Option Addr} {tc : Nat} {n : Syn} {a : Option Addr} {c : Nat} (hM : MSt w0 nm mb tb w S op) {w1 : World}
  (h1 : w1=((w.alloc (.cells #[.string k,.string x,.slice ta ks.length tc] 24)).alloc (.cells (synC n a c) 52)).alloc (.cells #[.string ⟨#[]⟩,.bool false,.string ⟨#[]⟩,.int .i64 0,.slice none 0 0] 52)) (hS : SynX (fun _=>True) w0 a c n) : SpS w0 nm mb tb tb w S op k x ks ta tc n a c w1:=by
 subst h1
 have hml:=hM.blk.lt
 have htl : tb < w.heap.size:=by obtain ⟨V,hV,-⟩:=hM.tab;exact hV.lt
 have e1:=Ext.alloc w (.cells #[.string k,.string x,.slice ta ks.length tc] 24)
 have s1 : (w.alloc (.cells #[.string k,.string x,.slice ta ks.length tc] 24)).heap.size=w.heap.size + 1:=by simp
 have b1:=Blk.new w #[.string k,.string x,.slice ta ks.length tc] 24
 generalize w.alloc (.cells #[.string k,.string x,.slice ta ks.length tc] 24)=w1 at *
 have e2:=Ext.alloc w1 (.cells (synC n a c) 52)
 have s2 : (w1.alloc (.cells (synC n a c) 52)).heap.size=w.heap.size + 2:=by simp [s1]
 have b2:=Blk.new w1 (synC n a c) 52
 rw [s1] at b2
 generalize w1.alloc (.cells (synC n a c) 52)=w2 at *
 have e3:=Ext.alloc w2 (.cells #[.string ⟨#[]⟩,.bool false,.string ⟨#[]⟩,.int .i64 0,.slice none 0 0] 52)
 have b3:=Blk.new w2 #[.string ⟨#[]⟩,.bool false,.string ⟨#[]⟩,.int .i64 0,.slice none 0 0] 52
 rw [s2] at b3
 have eall:=(e1.trans e2).trans e3
 exact ⟨hM.grow eall,(b1.ext e2).ext e3,b2.ext e3,b3,hS,MTrn.of_ext eall,hml,.inl htl⟩
section
variable {w0 : World} {nm : Names} {mb tb0 tb : Nat} {w : World} {S : SL} {op : Bool} {k x : ByteArray} {ks : List Tree} {ta : Option Addr} {tc : Nat} {n : Syn} {a : Option Addr} {c : Nat} {w1 : World}
theorem SpS.grow (h : SpS w0 nm mb tb0 tb w S op k x ks ta tc n a c w1) {w2 : World} (hE : Ext w1 w2) : SpS w0 nm mb tb0 tb w S op k x ks ta tc n a c w2 :=
 ⟨h.st.grow hE,h.pat.ext hE,h.part.ext hE,h.out.ext hE,h.syn,h.grown.trans (MTrn.of_ext hE),h.far⟩
theorem SpS.after (h : SpS w0 nm mb tb0 tb w S op k x ks ta tc n a c w1) {w2 : World} {tb' : Nat} {S' : SL} {op' : Bool} (hM : MSt w0 nm mb tb' w2 S' op') (hT : MTrn mb tb tb' w1 w2) : SpS w0 nm mb tb0 tb' w S' op' k x ks ta tc n a c w2:=by
 have hf:=h.far
 have h1:=h.out.lt
 have hne : ∀ b,w.heap.size <= b -> b < w.heap.size + 3 -> ¬ (b=mb \/ b=tb):=fun b h1 h2 e=>by omega
 refine ⟨hM,h.pat.extM hT.1 (hne _ (by omega) (by omega)),h.part.extM hT.1 (hne _ (by omega) (by omega)),h.out.extM hT.1 (hne _ (by omega) (by omega)),h.syn,h.grown.trans hT,hf.1,?_⟩
 rcases hT.2 with e | e
 ·rw [e];exact hf.2
 ·exact .inr (by omega)
theorem SpS.part5 (h : SpS w0 nm mb tb0 tb w S op k x ks ta tc n a c w1) {u : Syn} {a' : Option Addr} {c' : Nat} (hS : SynX (fun _=>True) w0 a' c' u) :
  SpS w0 nm mb tb0 tb w S op k x ks ta tc u a' c' (((((w1.setCell ⟨w.heap.size + 1,0,none⟩ (.string u.kind)).setCell ⟨w.heap.size + 1,1,none⟩ (.bool u.null)).setCell ⟨w.heap.size + 1,2,none⟩ (.string u.text)).setCell ⟨w.heap.size + 1,3,none⟩ (.int .i64 u.num)).setCell ⟨w.heap.size + 1,4,none⟩ (.slice a' u.kids.length c')):=by
 have hf:=h.far
 have hM:=h.st
 have hlo:=hM.lo
 have hml:=hM.blk.lt
 have hs0:=hM.ext.size
 obtain ⟨V,hV,hR⟩:=hM.tab
 have hX : ExtM (·=w.heap.size + 1) w1 (((((w1.setCell ⟨w.heap.size + 1,0,none⟩ (.string u.kind)).setCell ⟨w.heap.size + 1,1,none⟩ (.bool u.null)).setCell ⟨w.heap.size + 1,2,none⟩ (.string u.text)).setCell ⟨w.heap.size + 1,3,none⟩ (.int .i64 u.num)).setCell ⟨w.heap.size + 1,4,none⟩ (.slice a' u.kids.length c')) :=
  (((((ExtM.refl (·=w.heap.size + 1) w1).set1 0 _).set1 1 _).set1 2 _).set1 3 _).set1 4 _
 refine ⟨⟨hM.ext.set5 (by omega) _ _ _ _ _,hlo,hM.ne,hM.blk.other5 (by omega) _ _ _ _ _,⟨V,hV.extM hX (by omega),hR⟩,hM.keyed⟩,h.pat.other5 (by omega) _ _ _ _ _,Blk.set5 h.part rfl _ _ _ _ _,h.out.other5 (by omega) _ _ _ _ _,hS,⟨?_,h.grown.2⟩,hf⟩
 exact h.grown.1.trans hX (fun i hi e=>by omega)
theorem SpS.out5 (h : SpS w0 nm mb tb0 tb w S op k x ks ta tc n a c w1) (v0 v1 v2 v3 v4 : Value) :
  Blk (((((w1.setCell ⟨w.heap.size + 2,0,none⟩ v0).setCell ⟨w.heap.size + 2,1,none⟩ v1).setCell ⟨w.heap.size + 2,2,none⟩ v2).setCell ⟨w.heap.size + 2,3,none⟩ v3).setCell ⟨w.heap.size + 2,4,none⟩ v4) (w.heap.size + 2) #[v0,v1,v2,v3,v4] 52 ∧
  ∃ tb',MSt w0 nm mb tb' (((((w1.setCell ⟨w.heap.size + 2,0,none⟩ v0).setCell ⟨w.heap.size + 2,1,none⟩ v1).setCell ⟨w.heap.size + 2,2,none⟩ v2).setCell ⟨w.heap.size + 2,3,none⟩ v3).setCell ⟨w.heap.size + 2,4,none⟩ v4) S op /\ MTrn mb tb0 tb' w (((((w1.setCell ⟨w.heap.size + 2,0,none⟩ v0).setCell ⟨w.heap.size + 2,1,none⟩ v1).setCell ⟨w.heap.size + 2,2,none⟩ v2).setCell ⟨w.heap.size + 2,3,none⟩ v3).setCell ⟨w.heap.size + 2,4,none⟩ v4):=by
 have hf:=h.far
 have hM:=h.st
 have hlo:=hM.lo
 have hml:=hM.blk.lt
 have hs0:=hM.ext.size
 obtain ⟨V,hV,hR⟩:=hM.tab
 have hX : ExtM (·=w.heap.size + 2) w1 (((((w1.setCell ⟨w.heap.size + 2,0,none⟩ v0).setCell ⟨w.heap.size + 2,1,none⟩ v1).setCell ⟨w.heap.size + 2,2,none⟩ v2).setCell ⟨w.heap.size + 2,3,none⟩ v3).setCell ⟨w.heap.size + 2,4,none⟩ v4) :=
  (((((ExtM.refl (·=w.heap.size + 2) w1).set1 0 _).set1 1 _).set1 2 _).set1 3 _).set1 4 _
 refine ⟨Blk.set5 h.out rfl _ _ _ _ _,tb,⟨hM.ext.set5 (by omega) _ _ _ _ _,hlo,hM.ne,hM.blk.other5 (by omega) _ _ _ _ _,⟨V,hV.extM hX (by omega),hR⟩,hM.keyed⟩,?_,h.grown.2⟩
 exact h.grown.1.trans hX (fun i hi e=>by omega)
end
end Go.Proofs.YtigalkobmfbdaaaGreatDoor
set_option maxRecDepth 100000
set_option maxHeartbeats 4000000
namespace Go.Proofs.YtigalkobmfbdaaaGreatDoor
open Go.RowKit Go.WideMaps
theorem SpS.opened {w0 : World} {nm : Names} {mb tb0 tb : Nat} {w : World} {S : SL} {op : Bool} {k x : ByteArray} {ks : List Tree} {ta : Option Addr} {tc : Nat} {n : Syn} {a : Option Addr} {c : Nat} {w1 : World} (h : SpS w0 nm mb tb0 tb w S op k x ks ta tc n a c w1) : SpS w0 nm mb tb0 tb w S true k x ks ta tc n a c (w1.setCell ⟨mb,1,none⟩ (.bool true)):=by
 have hf:=h.far
 have hM:=h.st
 have hlo:=hM.lo
 obtain ⟨V,hV,hR⟩:=hM.tab
 have hX : ExtM (·=mb) w1 (w1.setCell ⟨mb,1,none⟩ (.bool true)):=(ExtM.refl (·=mb) w1).set1 1 _
 have hne:=hM.ne
 refine ⟨⟨hM.ext.setCell (p:=⟨mb,1,none⟩) hlo.1 _,hlo,hne,by simpa using hM.blk.set 1 (.bool true),⟨V,hV.extM hX (by omega),hR⟩,hM.keyed⟩,h.pat.extM hX (by omega),h.part.extM hX (by omega),h.out.extM hX (by omega),h.syn,⟨?_,h.grown.2⟩,hf⟩
 exact h.grown.1.trans hX (fun i hi e=>.inl e)
theorem beq_nil (l : List UInt8) : (l == [])=l.isEmpty:=by cases l <;> rfl
theorem SpS.out5d {w0 : World} {nm : Names} {mb tb0 tb : Nat} {w : World} {S : SL} {op : Bool} {k x : ByteArray} {ks : List Tree} {ta : Option Addr} {tc : Nat} {n : Syn} {a : Option Addr} {c : Nat} {w1 : World} (h : SpS w0 nm mb tb0 tb w S op k x ks ta tc n a c w1) (v0 v1 v2 v3 v4 : Value) :
  Blk (((((w1.setCell ⟨w.heap.size + 2,0,none⟩ v0).setCell ⟨w.heap.size + 2,1,none⟩ v1).setCell ⟨w.heap.size + 2,2,none⟩ v2).setCell ⟨w.heap.size + 2,3,none⟩ v3).setCell ⟨w.heap.size + 2,4,none⟩ v4).drew (w.heap.size + 2) #[v0,v1,v2,v3,v4] 52 ∧
  ∃ tb',MSt w0 nm mb tb' (((((w1.setCell ⟨w.heap.size + 2,0,none⟩ v0).setCell ⟨w.heap.size + 2,1,none⟩ v1).setCell ⟨w.heap.size + 2,2,none⟩ v2).setCell ⟨w.heap.size + 2,3,none⟩ v3).setCell ⟨w.heap.size + 2,4,none⟩ v4).drew S op /\ MTrn mb tb0 tb' w (((((w1.setCell ⟨w.heap.size + 2,0,none⟩ v0).setCell ⟨w.heap.size + 2,1,none⟩ v1).setCell ⟨w.heap.size + 2,2,none⟩ v2).setCell ⟨w.heap.size + 2,3,none⟩ v3).setCell ⟨w.heap.size + 2,4,none⟩ v4).drew:=by
 obtain ⟨h1,tb',h2,h3⟩:=h.out5 v0 v1 v2 v3 v4
 exact ⟨h1.ext (Ext.drew _),tb',h2.grow (Ext.drew _),h3.trans (MTrn.of_ext (Ext.drew _))⟩
theorem sp_any {k x : ByteArray} {ks : List Tree} (h1 : (k.toList == [65,110,121])=true) : SpC (.mk k x ks):=by
 intro n hr nm h64 hnm S op w0 w mb tb ta tc a c hT hS hM
 have HR:=Lib.hid (show sp (.mk k x ks) n S op=⟨true,bareS n,S,op⟩ by rw [sp_mk];simp only [h1,if_true])
 have HZ:=Lib.hid (And.intro hr hr.bare.1)
 simp only [treeV,kind_mk,txt_mk,kids_mk] at *
 have HB:=Lib.hid (sp_begin (k:=k) (x:=x) (ks:=ks) (ta:=ta) (tc:=tc) hM rfl hS)
 have HT:=Lib.hid hT
 have HNM:=Lib.hid (And.intro h64 hnm)
 clear hT hS hM hnm hr h64
 go_enter Tryz.func61,Tryz.ntmps61
 go_wp2_with fail
 obtain ⟨w1,hw1⟩ : ∃ w1,w1=((w.alloc (.cells #[.string k,.string x,.slice ta ks.length tc] 24)).alloc (.cells (synC n a c) 52)).alloc (.cells #[.string ⟨#[]⟩,.bool false,.string ⟨#[]⟩,.int .i64 0,.slice none 0 0] 52):=⟨_,rfl⟩
 have hb:=HB.out
 rw [<- hw1] at hb ⊢
 clear HB hw1
 refine (bare_calls HZ.out.1.1 (hb.syn.fore hb.st.ext)).mono ?_
 rintro e w2 ⟨⟨a',c',rfl,hS'⟩,hE2⟩
 have hb2:=hb.grow hE2
 obtain ⟨p0,p1,p2⟩:=Blk3 hb2.pat
 obtain ⟨q0,q1,q2,q3,q4⟩:=Blk5 hb2.part
 have lp:=cell_lt p0
 have lq:=cell_lt q0
 have fp:=hb2.pat.frozen
 have fq:=hb2.part.frozen
 have K3:=Lib.hid (hb2.part5 (hS'.back hb.st.ext))
 obtain ⟨w3,hw3⟩ : ∃ w3,w3=(((((w2.setCell ⟨w.heap.size + 1,0,none⟩ (.string (bareS n).kind)).setCell ⟨w.heap.size + 1,1,none⟩ (.bool (bareS n).null)).setCell ⟨w.heap.size + 1,2,none⟩ (.string (bareS n).text)).setCell ⟨w.heap.size + 1,3,none⟩ (.int .i64 (bareS n).num)).setCell ⟨w.heap.size + 1,4,none⟩ (.slice a' (bareS n).kids.length c')):=⟨_,rfl⟩
 rw [<- hw3] at K3
 have H3:=Lib.hid hw3
 clear hb hb2 hE2 hS' hw3
 go_upto_region 2 with fail
 rw [<- H3.out]
 clear H3 p0 p1 p2 q0 q1 q2 q3 q4 lp lq fp fq w2
 obtain ⟨p0,p1,p2⟩:=Blk3 K3.out.pat
 obtain ⟨q0,q1,q2,q3,q4⟩:=Blk5 K3.out.part
 obtain ⟨o0,o1,o2,o3,o4⟩:=Blk5 K3.out.out
 have lp:=cell_lt p0
 have lq:=cell_lt q0
 have lo:=cell_lt o0
 have fo:=K3.out.out.frozen
 go_wp2_with fail
 have ho:=K3.out.out5 (.string (bareS n).kind) (.bool (bareS n).null) (.string (bareS n).text) (.int .i64 (bareS n).num) (.slice a' (bareS n).kids.length c')
 refine bodyPost_ret (results_ct rfl _ _ (w.heap.size + 2) 52 (synC (bareS n) a' c') rfl ho.1 row52 size52) rfl ?_
 rw [HR.out]
 exact ⟨⟨bareS n,a',c',rfl,fun _=>⟨rfl,HZ.out.2,K3.out.syn⟩⟩,ho.2⟩
theorem sp_nil {k x : ByteArray} {ks : List Tree} (h1 : (k.toList == [65,110,121])=false) (h2 : (k.toList == [78,105,108])=true) : SpC (.mk k x ks):=by
 intro n hr nm h64 hnm S op w0 w mb tb ta tc a c hT hS hM
 have HR:=Lib.hid (show sp (.mk k x ks) n S op=⟨(bareS n).kind.toList.isEmpty,bareS n,S,op || (lisK (bareS n).kind && (bareS n).null)⟩ by rw [sp_mk];simp only [h1,h2,Bool.false_eq_true,if_false,if_true,beq_nil])
 have HZ:=Lib.hid (And.intro hr hr.bare.1)
 simp only [treeV,kind_mk,txt_mk,kids_mk] at *
 have HB:=Lib.hid (sp_begin (k:=k) (x:=x) (ks:=ks) (ta:=ta) (tc:=tc) hM rfl hS)
 have HT:=Lib.hid hT
 have HNM:=Lib.hid (And.intro h64 hnm)
 clear hT hS hM hnm hr h64
 go_enter Tryz.func61,Tryz.ntmps61
 go_wp2_with fail
 obtain ⟨w1,hw1⟩ : ∃ w1,w1=((w.alloc (.cells #[.string k,.string x,.slice ta ks.length tc] 24)).alloc (.cells (synC n a c) 52)).alloc (.cells #[.string ⟨#[]⟩,.bool false,.string ⟨#[]⟩,.int .i64 0,.slice none 0 0] 52):=⟨_,rfl⟩
 have hb:=HB.out
 rw [<- hw1] at hb ⊢
 clear HB hw1
 refine (bare_calls HZ.out.1.1 (hb.syn.fore hb.st.ext)).mono ?_
 rintro e w2 ⟨⟨a',c',rfl,hS'⟩,hE2⟩
 have hb2:=hb.grow hE2
 obtain ⟨p0,p1,p2⟩:=Blk3 hb2.pat
 obtain ⟨q0,q1,q2,q3,q4⟩:=Blk5 hb2.part
 have lp:=cell_lt p0
 have lq:=cell_lt q0
 have fp:=hb2.pat.frozen
 have fq:=hb2.part.frozen
 have K3:=Lib.hid (hb2.part5 (hS'.back hb.st.ext))
 obtain ⟨w3,hw3⟩ : ∃ w3,w3=(((((w2.setCell ⟨w.heap.size + 1,0,none⟩ (.string (bareS n).kind)).setCell ⟨w.heap.size + 1,1,none⟩ (.bool (bareS n).null)).setCell ⟨w.heap.size + 1,2,none⟩ (.string (bareS n).text)).setCell ⟨w.heap.size + 1,3,none⟩ (.int .i64 (bareS n).num)).setCell ⟨w.heap.size + 1,4,none⟩ (.slice a' (bareS n).kids.length c')):=⟨_,rfl⟩
 rw [<- hw3] at K3
 have H3:=Lib.hid hw3
 clear hb hb2 hE2 hS' hw3
 go_upto_region 2 with fail
 rw [<- H3.out]
 clear H3 p0 p1 p2 q0 q1 q2 q3 q4 lp lq fp fq w2
 obtain ⟨p0,p1,p2⟩:=Blk3 K3.out.pat
 obtain ⟨q0,q1,q2,q3,q4⟩:=Blk5 K3.out.part
 obtain ⟨o0,o1,o2,o3,o4⟩:=Blk5 K3.out.out
 have lp:=cell_lt p0
 have lq:=cell_lt q0
 have lo:=cell_lt o0
 have fo:=K3.out.out.frozen
 go_wp2_with fail
 refine (list_calls (bareS n) a' c' _).mono ?_
 rintro e w4 ⟨rfl,hE4⟩
 have K4:=Lib.hid (K3.out.grow hE4)
 clear hE4 p0 p1 p2 q0 q1 q2 q3 q4 o0 o1 o2 o3 o4 lp lq lo fo
 obtain ⟨p0,p1,p2⟩:=Blk3 K4.out.pat
 obtain ⟨q0,q1,q2,q3,q4⟩:=Blk5 K4.out.part
 obtain ⟨o0,o1,o2,o3,o4⟩:=Blk5 K4.out.out
 have lp:=cell_lt p0
 have lq:=cell_lt q0
 have lo:=cell_lt o0
 have fo:=K4.out.out.frozen
 have m0 : w4.cell? ⟨mb,0,none⟩=some (.map (some tb)):=by rw [K4.out.st.blk.cell];rfl
 have m1 : w4.cell? ⟨mb,1,none⟩=some (.bool op):=by rw [K4.out.st.blk.cell];rfl
 have lm:=K4.out.st.blk.lt
 have fm:=K4.out.st.blk.frozen
 cases hl : lisK (bareS n).kind with
 | false =>
  rw [hl] at HR
  clear hl
  go_wp2_with fail
  go_region
  all_goals
   go_wp2_with fail
   have ho:=K4.out.out5d (.string (bareS n).kind) (.bool (bareS n).null) (.string (bareS n).text) (.int .i64 (bareS n).num) (.slice a' (bareS n).kids.length c')
   refine bodyPost_ret (results_ct rfl _ _ (w.heap.size + 2) 52 #[.string (bareS n).kind,.bool (bareS n).null,.string (bareS n).text,.int .i64 (bareS n).num,.slice a' (bareS n).kids.length c'] rfl ho.1 row52 size52) rfl ?_
   rw [HR.out]
   obtain ⟨-,tb',ho2,ho3⟩:=ho
   refine ⟨⟨bareS n,a',c',?_,fun _=>⟨rfl,HZ.out.2,K3.out.syn⟩⟩,tb',?_,ho3⟩
   ·rfl
   ·simp only [Bool.or_false,Bool.or_true,Bool.and_false,Bool.and_self,Bool.false_and]
    exact ho2
 | true =>
  rw [hl] at HR
  clear hl
  cases hn : (bareS n).null with
  | false =>
   rw [hn] at HR q1
   have HN:=Lib.hid hn
   clear hn
   go_wp2_with fail
   go_region
   all_goals
    go_wp2_with fail
    have ho:=K4.out.out5d (.string (bareS n).kind) (.bool (bareS n).null) (.string (bareS n).text) (.int .i64 (bareS n).num) (.slice a' (bareS n).kids.length c')
    rw [HN.out] at ho
    refine bodyPost_ret (results_ct rfl _ _ (w.heap.size + 2) 52 #[.string (bareS n).kind,.bool false,.string (bareS n).text,.int .i64 (bareS n).num,.slice a' (bareS n).kids.length c'] rfl ho.1 row52 size52) rfl ?_
    rw [HR.out]
    obtain ⟨-,tb',ho2,ho3⟩:=ho
    refine ⟨⟨bareS n,a',c',?_,fun _=>⟨rfl,HZ.out.2,K3.out.syn⟩⟩,tb',?_,ho3⟩
    ·rw [show synV (bareS n) a' c'=.agg #[.string (bareS n).kind,.bool (bareS n).null,.string (bareS n).text,.int .i64 (bareS n).num,.slice a' (bareS n).kids.length c'] from rfl,HN.out]
     rfl
    ·simp only [Bool.or_false,Bool.or_true,Bool.and_false,Bool.and_self,Bool.false_and]
     exact ho2
  | true =>
   rw [hn] at HR q1
   have HN:=Lib.hid hn
   clear hn
   obtain ⟨w5,hw5⟩ : ∃ w5,w5=w4.setCell ⟨mb,1,none⟩ (.bool true):=⟨_,rfl⟩
   have K5:=Lib.hid K4.out.opened
   rw [<- hw5] at K5
   go_upto_region 8 with fail
   rw [<- hw5]
   clear hw5 m0 m1 lm fm p0 p1 p2 q0 q1 q2 q3 q4 o0 o1 o2 o3 o4 lp lq lo fo
   obtain ⟨p0,p1,p2⟩:=Blk3 K5.out.pat
   obtain ⟨q0,q1,q2,q3,q4⟩:=Blk5 K5.out.part
   obtain ⟨o0,o1,o2,o3,o4⟩:=Blk5 K5.out.out
   have lp:=cell_lt p0
   have lq:=cell_lt q0
   have lo:=cell_lt o0
   have fo:=K5.out.out.frozen
   go_region
   all_goals
    go_wp2_with fail
    have ho:=K5.out.out5d (.string (bareS n).kind) (.bool (bareS n).null) (.string (bareS n).text) (.int .i64 (bareS n).num) (.slice a' (bareS n).kids.length c')
    refine bodyPost_ret (results_ct rfl _ _ (w.heap.size + 2) 52 #[.string (bareS n).kind,.bool (bareS n).null,.string (bareS n).text,.int .i64 (bareS n).num,.slice a' (bareS n).kids.length c'] rfl ho.1 row52 size52) rfl ?_
    rw [HR.out]
    obtain ⟨-,tb',ho2,ho3⟩:=ho
    refine ⟨⟨bareS n,a',c',?_,fun _=>⟨rfl,HZ.out.2,K3.out.syn⟩⟩,tb',?_,ho3⟩
    ·rfl
    ·simp only [Bool.or_false,Bool.or_true,Bool.and_false,Bool.and_self,Bool.false_and]
     exact ho2
end Go.Proofs.YtigalkobmfbdaaaGreatDoor
set_option maxRecDepth 100000
set_option maxHeartbeats 4000000
namespace Go.Proofs.YtigalkobmfbdaaaGreatDoor
open Go.RowKit Go.WideMaps
theorem sp_str {k x : ByteArray} {ks : List Tree} (h1 : (k.toList == [65,110,121])=false) (h2 : (k.toList == [78,105,108])=false) (h3 : (k.toList == [83,116,114,105,110,103])=true) : SpC (.mk k x ks):=by
 intro n hr nm h64 hnm S op w0 w mb tb ta tc a c hT hS hM
 have HR:=Lib.hid (show sp (.mk k x ks) n S op=⟨((bareS n).kind.toList == [115,116,114,105,110,103] || (bareS n).kind.toList == [84,111,107,101,110]) && (bareS n).text.toList == x.toList,bareS n,S,op⟩ by rw [sp_mk];simp only [h1,h2,h3,Bool.false_eq_true,if_false,if_true])
 have HZ:=Lib.hid (And.intro hr hr.bare.1)
 simp only [treeV,kind_mk,txt_mk,kids_mk] at *
 have HB:=Lib.hid (sp_begin (k:=k) (x:=x) (ks:=ks) (ta:=ta) (tc:=tc) hM rfl hS)
 have HT:=Lib.hid hT
 have HNM:=Lib.hid (And.intro h64 hnm)
 clear hT hS hM hnm hr h64
 go_enter Tryz.func61,Tryz.ntmps61
 go_wp2_with fail
 obtain ⟨w1,hw1⟩ : ∃ w1,w1=((w.alloc (.cells #[.string k,.string x,.slice ta ks.length tc] 24)).alloc (.cells (synC n a c) 52)).alloc (.cells #[.string ⟨#[]⟩,.bool false,.string ⟨#[]⟩,.int .i64 0,.slice none 0 0] 52):=⟨_,rfl⟩
 have hb:=HB.out
 rw [<- hw1] at hb ⊢
 clear HB hw1
 refine (bare_calls HZ.out.1.1 (hb.syn.fore hb.st.ext)).mono ?_
 rintro e w2 ⟨⟨a',c',rfl,hS'⟩,hE2⟩
 have hb2:=hb.grow hE2
 obtain ⟨p0,p1,p2⟩:=Blk3 hb2.pat
 obtain ⟨q0,q1,q2,q3,q4⟩:=Blk5 hb2.part
 have lp:=cell_lt p0
 have lq:=cell_lt q0
 have fp:=hb2.pat.frozen
 have fq:=hb2.part.frozen
 have K3:=Lib.hid (hb2.part5 (hS'.back hb.st.ext))
 obtain ⟨w3,hw3⟩ : ∃ w3,w3=(((((w2.setCell ⟨w.heap.size + 1,0,none⟩ (.string (bareS n).kind)).setCell ⟨w.heap.size + 1,1,none⟩ (.bool (bareS n).null)).setCell ⟨w.heap.size + 1,2,none⟩ (.string (bareS n).text)).setCell ⟨w.heap.size + 1,3,none⟩ (.int .i64 (bareS n).num)).setCell ⟨w.heap.size + 1,4,none⟩ (.slice a' (bareS n).kids.length c')):=⟨_,rfl⟩
 rw [<- hw3] at K3
 have H3:=Lib.hid hw3
 clear hb hb2 hE2 hS' hw3
 go_upto_region 2 with fail
 rw [<- H3.out]
 clear H3 p0 p1 p2 q0 q1 q2 q3 q4 lp lq fp fq w2
 obtain ⟨p0,p1,p2⟩:=Blk3 K3.out.pat
 obtain ⟨q0,q1,q2,q3,q4⟩:=Blk5 K3.out.part
 obtain ⟨o0,o1,o2,o3,o4⟩:=Blk5 K3.out.out
 have lp:=cell_lt p0
 have lq:=cell_lt q0
 have lo:=cell_lt o0
 have fo:=K3.out.out.frozen
 cases g1 : ((bareS n).kind.toList == [115,116,114,105,110,103]) with
 | true =>
  rw [g1] at HR
  go_wp2_with fail
  go_region
  all_goals
   go_wp2_with fail
   have ho:=K3.out.out5d (.string (bareS n).kind) (.bool (bareS n).null) (.string (bareS n).text) (.int .i64 (bareS n).num) (.slice a' (bareS n).kids.length c')
   refine bodyPost_ret (results_ct rfl _ _ (w.heap.size + 2) 52 #[.string (bareS n).kind,.bool (bareS n).null,.string (bareS n).text,.int .i64 (bareS n).num,.slice a' (bareS n).kids.length c'] rfl ho.1 row52 size52) rfl ?_
   rw [HR.out]
   obtain ⟨-,tb',ho2,ho3⟩:=ho
   exact ⟨⟨bareS n,a',c',rfl,fun _=>⟨rfl,HZ.out.2,K3.out.syn⟩⟩,tb',ho2,ho3⟩
 | false =>
 cases g2 : ((bareS n).kind.toList == [84,111,107,101,110]) with
 | true =>
  rw [g1,g2] at HR
  go_wp2_with fail
  go_region
  all_goals
   go_wp2_with fail
   have ho:=K3.out.out5d (.string (bareS n).kind) (.bool (bareS n).null) (.string (bareS n).text) (.int .i64 (bareS n).num) (.slice a' (bareS n).kids.length c')
   refine bodyPost_ret (results_ct rfl _ _ (w.heap.size + 2) 52 #[.string (bareS n).kind,.bool (bareS n).null,.string (bareS n).text,.int .i64 (bareS n).num,.slice a' (bareS n).kids.length c'] rfl ho.1 row52 size52) rfl ?_
   rw [HR.out]
   obtain ⟨-,tb',ho2,ho3⟩:=ho
   exact ⟨⟨bareS n,a',c',rfl,fun _=>⟨rfl,HZ.out.2,K3.out.syn⟩⟩,tb',ho2,ho3⟩
 | false =>
  rw [g1,g2] at HR
  go_wp2_with fail
  go_region
  all_goals
   go_wp2_with fail
   have ho:=K3.out.out5d (.string (bareS n).kind) (.bool (bareS n).null) (.string (bareS n).text) (.int .i64 (bareS n).num) (.slice a' (bareS n).kids.length c')
   refine bodyPost_ret (results_ct rfl _ _ (w.heap.size + 2) 52 #[.string (bareS n).kind,.bool (bareS n).null,.string (bareS n).text,.int .i64 (bareS n).num,.slice a' (bareS n).kids.length c'] rfl ho.1 row52 size52) rfl ?_
   rw [HR.out]
   obtain ⟨-,tb',ho2,ho3⟩:=ho
   exact ⟨⟨bareS n,a',c',rfl,fun _=>⟨rfl,HZ.out.2,K3.out.syn⟩⟩,tb',ho2,ho3⟩
end Go.Proofs.YtigalkobmfbdaaaGreatDoor
set_option maxRecDepth 100000
set_option maxHeartbeats 4000000
namespace Go.Proofs.YtigalkobmfbdaaaGreatDoor
open Go.RowKit Go.WideMaps
theorem names_grow : ∀ (l : List (List UInt8)) (acc : Names) (s : List UInt8),s ∈ acc \/ s ∈ l -> s ∈ l.foldl addName acc
 | [],acc,s,h=>by rcases h with h | h;exact h;cases h
 | y :: l,acc,s,h=>by
  rw [List.foldl_cons]
  refine names_grow l _ s ?_
  rcases h with h | h
  ·exact .inl (mem_addName.2 (.inl h))
  ·rcases List.mem_cons.1 h with rfl | h
   ·exact .inl (mem_addName.2 (.inr rfl))
   ·exact .inr h
theorem namesTs_mem : ∀ (ks : List Tree) (acc : Names) (s : List UInt8),(s ∈ acc \/ ∃ q ∈ ks,s ∈ namesT q) -> s ∈ namesTs ks acc
 | [],acc,s,h=>by
  rw [namesTs]
  rcases h with h | ⟨q,hq,-⟩
  ·exact h
  ·cases hq
 | t :: ts,acc,s,h=>by
  rw [namesTs_cons]
  refine namesTs_mem ts _ s ?_
  rcases h with h | ⟨q,hq,hs⟩
  ·exact .inl (names_grow _ _ _ (.inl h))
  ·rcases List.mem_cons.1 hq with rfl | hq
   ·exact .inl (names_grow _ _ _ (.inr hs))
   ·exact .inr ⟨q,hq,hs⟩
theorem names_kid {k x : ByteArray} {ks : List Tree} {q : Tree} (hq : q ∈ ks) : ∀ s ∈ namesT q,s ∈ namesT (.mk k x ks):=fun s hs=>by
 have h:=namesTs_mem ks [] s (.inr ⟨q,hq,hs⟩)
 rw [namesT_mk]
 split
 ·exact mem_addName.2 (.inl h)
 ·exact h
section
variable {w0 : World} {nm : Names} {mb tb0 tb : Nat} {w : World} {S : SL} {op : Bool} {k x : ByteArray} {ks : List Tree} {ta : Option Addr} {tc : Nat} {n : Syn} {a : Option Addr} {c : Nat} {w1 : World}
def InP (w0 : World) (nm : Names) (mb tb0 tb : Nat) (w w' : World) (k x : ByteArray) (ks : List Tree) (ta : Option Addr) (tc : Nat) (n : Syn) (a : Option Addr) (c : Nat) (r : SpR) (e : Ending) (w2 : World) : Prop :=
 (∃ o a' c',e=.returned (.tuple #[.agg #[.string (Syn.kind o),.bool o.null,.string o.text,.int .i64 o.num,.slice a' o.kids.length c'],.bool r.ok]) /\ (r.ok=true -> o=r.out /\ RZ r.out /\ SynX (fun _=>True) w0 a' c' r.out)) /\ ∃ tb',SpS w0 nm mb tb0 tb' w r.S r.op k x ks ta tc n a c w2 /\ MTrn mb tb tb' w' w2
theorem SpS.aside (h : SpS w0 nm mb tb0 tb w S op k x ks ta tc n a c w1) {b : Nat} (hb : w.heap.size + 3 <= b) (h1 : b ≠ mb) (h2 : b ≠ tb) (v0 v1 v2 v3 v4 : Value) :
  SpS w0 nm mb tb0 tb w S op k x ks ta tc n a c (((((w1.setCell ⟨b,0,none⟩ v0).setCell ⟨b,1,none⟩ v1).setCell ⟨b,2,none⟩ v2).setCell ⟨b,3,none⟩ v3).setCell ⟨b,4,none⟩ v4):=by
 have hf:=h.far
 have hM:=h.st
 have hlo:=hM.lo
 obtain ⟨V,hV,hR⟩:=hM.tab
 have hX : ExtM (·=b) w1 (((((w1.setCell ⟨b,0,none⟩ v0).setCell ⟨b,1,none⟩ v1).setCell ⟨b,2,none⟩ v2).setCell ⟨b,3,none⟩ v3).setCell ⟨b,4,none⟩ v4) :=
  (((((ExtM.refl (·=b) w1).set1 0 _).set1 1 _).set1 2 _).set1 3 _).set1 4 _
 refine ⟨⟨hM.ext.set5 (by omega) _ _ _ _ _,hlo,hM.ne,hM.blk.extM hX (fun e=>h1 e.symm),⟨V,hV.extM hX (fun e=>h2 e.symm),hR⟩,hM.keyed⟩,h.pat.extM hX (by omega),h.part.extM hX (by omega),h.out.extM hX (by omega),h.syn,⟨?_,h.grown.2⟩,hf⟩
 exact h.grown.1.trans hX (fun i hi e=>by omega)
theorem SpS.lts (h : SpS w0 nm mb tb0 tb w S op k x ks ta tc n a c w1) : mb < w1.heap.size /\ tb < w1.heap.size:=by
 obtain ⟨V,hV,-⟩:=h.st.tab
 exact ⟨h.st.blk.lt,hV.lt⟩
theorem SpS.call (h : SpS w0 nm mb tb0 tb w S op k x ks ta tc n a c w1) {q : Tree} {y : Syn} (hq : SpC q) (hy : RZ y) (h64 : nm.length <= 64) (hnm : ∀ s ∈ namesT q,s ∈ nm) {qa : Option Addr} {qc : Nat} {ya : Option Addr} {yc : Nat} (hT : TreeAt w0 qa qc q) (hY : SynX (fun _=>True) w0 ya yc y) {w' : World} (hE : Ext w1 w') :
  Calls Tryz.prog 61 #[.pointer (some ⟨mb,0,none⟩),.agg #[.string q.kind,.string q.text,.slice qa q.kids.length qc],.agg #[.string y.kind,.bool y.null,.string y.text,.int .i64 y.num,.slice ya y.kids.length yc]] w' (InP w0 nm mb tb0 tb w w' k x ks ta tc n a c (sp q y S op)):=by
 have hg:=h.grow hE
 refine (hq y hy nm h64 hnm S op w0 w' mb tb qa qc ya yc hT hY hg.st).mono ?_
 rintro e w2 ⟨⟨o,a',c',rfl,ho⟩,tb',hM,hR⟩
 exact ⟨⟨o,a',c',rfl,ho⟩,tb',hg.after hM hR,hR⟩
end
theorem sp_not {k x : ByteArray} {ks : List Tree} (h0 : 0 < ks.length) (hl : ks.length=1) (ih : SpC ks[0]) (h1 : (k.toList == [65,110,121])=false) (h2 : (k.toList == [78,105,108])=false) (h3 : (k.toList == [83,116,114,105,110,103])=false) (h4 : (k.toList == [76,105,115,116])=false) (h5 : (k.toList == [66,105,110,100,105,110,103])=false) (h6 : (k.toList == [79,114])=false) (h7 : (k.toList == [78,111,116])=true) : SpC (.mk k x ks):=by
 have HL:=Lib.hid (And.intro hl ih)
 clear hl ih
 intro n hr nm h64 hnm S op w0 w mb tb ta tc a c hT hS hM
 have HR:=Lib.hid (show sp (.mk k x ks) n S op=⟨!(sp ks[0] (bareS n) S op).ok,bareS n,(sp ks[0] (bareS n) S op).S,(sp ks[0] (bareS n) S op).op⟩ by
  rw [sp_mk]
  simp only [h1,h2,h3,h4,h5,h6,h7,Bool.false_eq_true,if_false,if_true]
  match ks,h0 with
  | q :: qs,_=>rfl)
 have HZ:=Lib.hid (And.intro hr hr.bare.1)
 simp only [treeV,kind_mk,txt_mk,kids_mk] at *
 have HB:=Lib.hid (sp_begin (k:=k) (x:=x) (ks:=ks) (ta:=ta) (tc:=tc) hM rfl hS)
 have HT:=Lib.hid hT
 have HNM:=Lib.hid (And.intro h64 hnm)
 clear hT hS hM hnm hr h64
 go_enter Tryz.func61,Tryz.ntmps61
 go_wp2_with fail
 obtain ⟨w1,hw1⟩ : ∃ w1,w1=((w.alloc (.cells #[.string k,.string x,.slice ta ks.length tc] 24)).alloc (.cells (synC n a c) 52)).alloc (.cells #[.string ⟨#[]⟩,.bool false,.string ⟨#[]⟩,.int .i64 0,.slice none 0 0] 52):=⟨_,rfl⟩
 have hb:=HB.out
 rw [<- hw1] at hb ⊢
 clear HB hw1
 refine (bare_calls HZ.out.1.1 (hb.syn.fore hb.st.ext)).mono ?_
 rintro e w2 ⟨⟨a',c',rfl,hS'⟩,hE2⟩
 have hb2:=hb.grow hE2
 obtain ⟨p0,p1,p2⟩:=Blk3 hb2.pat
 obtain ⟨q0,q1,q2,q3,q4⟩:=Blk5 hb2.part
 have lp:=cell_lt p0
 have lq:=cell_lt q0
 have fp:=hb2.pat.frozen
 have fq:=hb2.part.frozen
 have K3:=Lib.hid (hb2.part5 (hS'.back hb.st.ext))
 obtain ⟨w3,hw3⟩ : ∃ w3,w3=(((((w2.setCell ⟨w.heap.size + 1,0,none⟩ (.string (bareS n).kind)).setCell ⟨w.heap.size + 1,1,none⟩ (.bool (bareS n).null)).setCell ⟨w.heap.size + 1,2,none⟩ (.string (bareS n).text)).setCell ⟨w.heap.size + 1,3,none⟩ (.int .i64 (bareS n).num)).setCell ⟨w.heap.size + 1,4,none⟩ (.slice a' (bareS n).kids.length c')):=⟨_,rfl⟩
 rw [<- hw3] at K3
 have H3:=Lib.hid hw3
 clear hb hb2 hE2 hS' hw3
 go_upto_region 2 with fail
 rw [<- H3.out]
 clear H3 p0 p1 p2 q0 q1 q2 q3 q4 lp lq fp fq w2
 obtain ⟨p0,p1,p2⟩:=Blk3 K3.out.pat
 obtain ⟨q0,q1,q2,q3,q4⟩:=Blk5 K3.out.part
 obtain ⟨o0,o1,o2,o3,o4⟩:=Blk5 K3.out.out
 have lp:=cell_lt p0
 have lq:=cell_lt q0
 have lo:=cell_lt o0
 have fo:=K3.out.out.frozen
 obtain ⟨qb,qo,qa,qc,rfl,-,t0,t1,t2,hq⟩:=HT.out.kid 0 (by simpa [kids_mk] using h0)
 have htc:=HT.out.kids.1
 simp only [kids_mk,Nat.zero_mul,Nat.add_zero] at t0 t1 t2 hq htc
 have T00:=Lib.hid (And.intro t0 (And.intro t1 t2))
 replace t0:=K3.out.st.ext.keep t0
 replace t1:=K3.out.st.ext.keep t1
 replace t2:=K3.out.st.ext.keep t2
 have tl:=cell_lt t0
 have HC:=Lib.hid (fun (w' : World) (hx : Ext w3 w')=>K3.out.call HL.out.2 (HZ.out.1.bare.1) HNM.out.1 (fun s hs=>HNM.out.2 s (names_kid (List.getElem_mem h0) s hs)) hq K3.out.syn hx)
 clear hq
 generalize sp ks[0] (bareS n) S op=r at *
 go_wp2_with fail
 have FF : ∀ (b : Nat),w3.heap.size ≠ b -> ∀ (W : World) (o o' : Nat) (v : Value),(W.setCell ⟨w3.heap.size,o,none⟩ v).cell? ⟨b,o',none⟩=W.cell? ⟨b,o',none⟩:=fun b hb W o o' v=>World.cell?_setCell_far W _ _ _ hb
 have F0:=FF (w.heap.size) (by omega)
 have F1:=FF (w.heap.size + 1) (by omega)
 have F2:=FF (qb) (by have:=tl;omega)
 clear FF
 go_region_held3 (fun w'=>w'.cell? ⟨w.heap.size,2,none⟩=some (.slice (some ⟨qb,qo,none⟩) ks.length tc) /\ w'.cell? ⟨qb,qo,none⟩=some (.string ks[0].kind) /\ w'.cell? ⟨qb,qo + 1,none⟩=some (.string ks[0].text) /\ w'.cell? ⟨qb,qo + 2,none⟩=some (.slice qa ks[0].kids.length qc) /\ w'.cell? ⟨w.heap.size + 1,0,none⟩=some (.string (bareS n).kind) /\ w'.cell? ⟨w.heap.size + 1,1,none⟩=some (.bool (bareS n).null) /\ w'.cell? ⟨w.heap.size + 1,2,none⟩=some (.string (bareS n).text) /\ w'.cell? ⟨w.heap.size + 1,3,none⟩=some (.int .i64 (bareS n).num) /\ w'.cell? ⟨w.heap.size + 1,4,none⟩=some (.slice a' (bareS n).kids.length c')) (first | go_keep | (simp only [F0,F1,F2];exact ⟨y5_0,y5_1,y5_2,y5_3,y5_4,y5_5,y5_6,y5_7,y5_8⟩))
  (first
   | (go_at_call 61;refine (HC.out _ (Ext.drew _)).mono ?_;rintro e w5 ⟨⟨o5,a5,c5,rfl,ho5⟩,tb5,hS5,hT5⟩;have K5:=Lib.hid hS5;have H5:=Lib.hid ho5;have KG5 : Hid (SpS w0 nm mb _ _ w _ _ _ _ _ _ _ _ _ _ (w5.alloc (.cells #[.string o5.kind,.bool o5.null,.string o5.text,.int .i64 o5.num,.slice a5 o5.kids.length c5] 52))):=Lib.hid (hS5.grow (Ext.alloc _ _));have y5_0:=(Blk3 K5.out.pat).2.2;have y5_1:=K5.out.st.ext.keep T00.out.1;have y5_2:=K5.out.st.ext.keep T00.out.2.1;have y5_3:=K5.out.st.ext.keep T00.out.2.2;have y5_4:=(Blk5 K5.out.part).1;have y5_5:=(Blk5 K5.out.part).2.1;have y5_6:=(Blk5 K5.out.part).2.2.1;have y5_7:=(Blk5 K5.out.part).2.2.2.1;have y5_8:=(Blk5 K5.out.part).2.2.2.2;clear hS5 ho5 hT5)
   | (go_at_call 61;refine (HC.out _ ((Ext.alloc _ _).trans (Ext.drew _))).mono ?_;rintro e w5 ⟨⟨o5,a5,c5,rfl,ho5⟩,tb5,hS5,hT5⟩;have K5:=Lib.hid hS5;have H5:=Lib.hid ho5;have hB5:=((Blk.new w3 #[.string ⟨#[]⟩,.bool false,.string ⟨#[]⟩,.int .i64 0,.slice none 0 0] 52).ext (Ext.drew _)).extM hT5.1 (by have:=K3.out.lts;omega);obtain ⟨z0,z1,z2,z3,z4⟩:=Blk5 hB5;have zl:=cell_lt z0;have zf:=hB5.frozen;have htn : tb5 ≠ w3.heap.size:=(hT5.2.elim (fun e=>by have h1:=K3.out.lts;omega) (fun e=>by have h3 : w3.heap.size + 1 <= tb5:=(by simpa using e);omega));have KG5:=Lib.hid (hS5.aside (b:=w3.heap.size) (by have:=K3.out.out.lt;omega) (by have:=K3.out.lts;omega) (fun e=>htn e.symm) (.string o5.kind) (.bool o5.null) (.string o5.text) (.int .i64 o5.num) (.slice a5 o5.kids.length c5));clear hB5 htn;have y5_0:=(Blk3 K5.out.pat).2.2;have y5_1:=K5.out.st.ext.keep T00.out.1;have y5_2:=K5.out.st.ext.keep T00.out.2.1;have y5_3:=K5.out.st.ext.keep T00.out.2.2;have y5_4:=(Blk5 K5.out.part).1;have y5_5:=(Blk5 K5.out.part).2.1;have y5_6:=(Blk5 K5.out.part).2.2.1;have y5_7:=(Blk5 K5.out.part).2.2.2.1;have y5_8:=(Blk5 K5.out.part).2.2.2.2;clear hS5 ho5 hT5)
   | fail)
 all_goals
  first
   | generalize w5.alloc (.cells #[.string o5.kind,.bool o5.null,.string o5.text,.int .i64 o5.num,.slice a5 o5.kids.length c5] 52)=w6 at KG5 ⊢
   | generalize (((((w5.setCell ⟨w3.heap.size,0,none⟩ (.string o5.kind)).setCell ⟨w3.heap.size,1,none⟩ (.bool o5.null)).setCell ⟨w3.heap.size,2,none⟩ (.string o5.text)).setCell ⟨w3.heap.size,3,none⟩ (.int .i64 o5.num)).setCell ⟨w3.heap.size,4,none⟩ (.slice a5 o5.kids.length c5))=w6 at KG5 ⊢
  clear p0 p1 p2 q0 q1 q2 q3 q4 o0 o1 o2 o3 o4 lp lq lo fo
  obtain ⟨p0,p1,p2⟩:=Blk3 KG5.out.pat
  obtain ⟨q0,q1,q2,q3,q4⟩:=Blk5 KG5.out.part
  obtain ⟨o0,o1,o2,o3,o4⟩:=Blk5 KG5.out.out
  have lp:=cell_lt p0
  have lq:=cell_lt q0
  have lo:=cell_lt o0
  have fo:=KG5.out.out.frozen
  go_wp2_with fail
  have ho:=KG5.out.out5 (.string (bareS n).kind) (.bool (bareS n).null) (.string (bareS n).text) (.int .i64 (bareS n).num) (.slice a' (bareS n).kids.length c')
  refine bodyPost_ret (results_ct rfl _ _ (w.heap.size + 2) 52 (synC (bareS n) a' c') rfl ho.1 row52 size52) rfl ?_
  rw [HR.out]
  obtain ⟨-,tb',ho2,ho3⟩:=ho
  exact ⟨⟨bareS n,a',c',rfl,fun _=>⟨rfl,HZ.out.2,K3.out.syn⟩⟩,tb',ho2,ho3⟩
end Go.Proofs.YtigalkobmfbdaaaGreatDoor
