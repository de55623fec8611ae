/- Parts of a syntax in memory, whatever their size and the room behind their kids. -/
import Derived.Test.YtigalkobmfbdaaaGreatDoorMix2g
import Derived.Test.YtigalkobmfbdaaaGreatDoorCmp3Z2
import Derived.Deep.AppendLies
import Derived.Deep.RegionLaw
import Derived.Test.YtigalkobmfbdaaaGreatDoorMix2i
import Derived.Test.YtigalkobmfbdaaaGreatDoorMix2k
set_option linter.unusedVariables false
set_option linter.unusedSimpArgs false
namespace Go.Proofs.YtigalkobmfbdaaaGreatDoor
open Go.RowKit
mutual
def SynX (X : Nat -> Prop) (w : World) : Option Addr -> Nat -> Syn -> Prop
 | a,c,.mk k _ x n ks=>ks.length <= c /\ SynsX X w a ks
def SynsX (X : Nat -> Prop) (w : World) : Option Addr -> List Syn -> Prop
 | _,[]=>True
 | a,t :: ts=>∃ b o a' c',a=some ⟨b,o,none⟩ /\ X b /\ w.cell? ⟨b,o,none⟩=some (.string t.kind) /\ w.cell? ⟨b,o + 1,none⟩=some (.bool t.null) /\ w.cell? ⟨b,o + 2,none⟩=some (.string t.text) /\ w.cell? ⟨b,o + 3,none⟩=some (.int .i64 t.num) /\ w.cell? ⟨b,o + 4,none⟩=some (.slice a' t.kids.length c') /\ SynX X w a' c' t /\ SynsX X w (some ⟨b,o + 5,none⟩) ts
end
mutual
theorem SynX.turn {X Y : Nat -> Prop} {w w' : World} (h : ∀ b o v,X b -> w.cell? ⟨b,o,none⟩=some v -> Y b /\ w'.cell? ⟨b,o,none⟩=some v) : ∀ {a : Option Addr} {c : Nat} {t : Syn},SynX X w a c t -> SynX Y w' a c t
 | _,_,.mk _ _ _ _ _,⟨hc,hk⟩=>⟨hc,SynsX.turn h hk⟩
theorem SynsX.turn {X Y : Nat -> Prop} {w w' : World} (h : ∀ b o v,X b -> w.cell? ⟨b,o,none⟩=some v -> Y b /\ w'.cell? ⟨b,o,none⟩=some v) : ∀ {a : Option Addr} {ts : List Syn},SynsX X w a ts -> SynsX Y w' a ts
 | _,[],_=>trivial
 | _,_ :: _,⟨b,o,a',c',ha,hb,h1,h2,h3,h4,h5,ht,hk⟩=>⟨b,o,a',c',ha,(h _ _ _ hb h1).1,(h _ _ _ hb h1).2,(h _ _ _ hb h2).2,(h _ _ _ hb h3).2,(h _ _ _ hb h4).2,(h _ _ _ hb h5).2,SynX.turn h ht,SynsX.turn h hk⟩
end
theorem SynX.mono {X : Nat -> Prop} {w w' : World} (h : Ext w w') {a : Option Addr} {c : Nat} {t : Syn} (ht : SynX X w a c t) : SynX X w' a c t:=ht.turn fun _ _ _ hb hc=>⟨hb,h.keep hc⟩
theorem SynX.imp {X Y : Nat -> Prop} {w : World} (h : ∀ b,X b -> b < w.heap.size -> Y b) {a : Option Addr} {c : Nat} {t : Syn} (ht : SynX X w a c t) : SynX Y w a c t:=ht.turn fun b _ _ hb hc=>⟨h b hb (cell_lt hc),hc⟩
theorem SynsX.get {X : Nat -> Prop} {w : World} : ∀ {ts : List Syn} {a : Option Addr} (_ : SynsX X w a ts) (j : Nat) (hj : j < ts.length),
  ∃ b o a' c',a=some ⟨b,o,none⟩ /\ b < w.heap.size /\ X b /\ w.cell? ⟨b,o + j * 5,none⟩=some (.string ts[j].kind) /\ w.cell? ⟨b,o + j * 5 + 1,none⟩=some (.bool ts[j].null) /\ w.cell? ⟨b,o + j * 5 + 2,none⟩=some (.string ts[j].text) /\ w.cell? ⟨b,o + j * 5 + 3,none⟩=some (.int .i64 ts[j].num) /\ w.cell? ⟨b,o + j * 5 + 4,none⟩=some (.slice a' ts[j].kids.length c') /\ SynX X w a' c' ts[j]
 | t :: ts,a,⟨b,o,a',c',ha,hb,h1,h2,h3,h4,h5,ht,hk⟩,0,_=>⟨b,o,a',c',ha,cell_lt h1,hb,by simpa using h1,by simpa using h2,by simpa using h3,by simpa using h4,by simpa using h5,ht⟩
 | t :: ts,a,⟨b,o,_,_,ha,hb,h1,h2,h3,h4,h5,ht,hk⟩,j + 1,hj=>by
  obtain ⟨b',o',a',c',ha',hlt,hb',h1',h2',h3',h4',h5',ht'⟩:=SynsX.get hk j (by simpa using hj)
  obtain ⟨rfl,rfl⟩ : b=b' /\ o + 5=o':=by simpa using ha'
  have e : o + 5 + j * 5=o + (j + 1) * 5:=by omega
  rw [e] at h1' h2' h3' h4' h5'
  exact ⟨b,o,a',c',ha,hlt,hb',h1',h2',h3',h4',h5',ht'⟩
theorem SynX.kids {X : Nat -> Prop} {w : World} {a : Option Addr} {c : Nat} {t : Syn} (h : SynX X w a c t) : t.kids.length <= c /\ SynsX X w a t.kids:=by cases t;exact h
theorem SynX.kid {X : Nat -> Prop} {w : World} {a : Option Addr} {c : Nat} {t : Syn} (h : SynX X w a c t) (j : Nat) (hj : j < t.kids.length) :
  ∃ b o a' c',a=some ⟨b,o,none⟩ /\ b < w.heap.size /\ X b /\ w.cell? ⟨b,o + j * 5,none⟩=some (.string t.kids[j].kind) /\ w.cell? ⟨b,o + j * 5 + 1,none⟩=some (.bool t.kids[j].null) /\ w.cell? ⟨b,o + j * 5 + 2,none⟩=some (.string t.kids[j].text) /\ w.cell? ⟨b,o + j * 5 + 3,none⟩=some (.int .i64 t.kids[j].num) /\ w.cell? ⟨b,o + j * 5 + 4,none⟩=some (.slice a' t.kids[j].kids.length c') /\ SynX X w a' c' t.kids[j] :=
 h.kids.2.get j hj
mutual
theorem SynIn.toX {X : Nat -> Prop} {w : World} : ∀ {a : Option Addr} {c : Nat} {t : Syn},SynIn X w a c t -> SynX X w a c t
 | _,_,.mk _ _ _ _ _,⟨_,hc,_,hk⟩=>⟨hc,SynsIn.toX hk⟩
theorem SynsIn.toX {X : Nat -> Prop} {w : World} : ∀ {a : Option Addr} {ts : List Syn},SynsIn X w a ts -> SynsX X w a ts
 | _,[],_=>trivial
 | _,_ :: _,⟨b,o,a',c',ha,hb,h1,h2,h3,h4,h5,ht,hk⟩=>⟨b,o,a',c',ha,hb,h1,h2,h3,h4,h5,SynIn.toX ht,SynsIn.toX hk⟩
end
end Go.Proofs.YtigalkobmfbdaaaGreatDoor
set_option maxRecDepth 100000
set_option maxHeartbeats 4000000
namespace Go.Proofs.YtigalkobmfbdaaaGreatDoor
open Go.RowKit
theorem row52 : (Tryz.prog.underlying 52).map (fun d=>match d with | .struct _ | .array _ _=>true | _=>false)=some true:=by kernel_rfl
theorem size52 : (Tryz.prog.info? 52).map (·.size)=some 5:=by kernel_rfl
abbrev synC (t : Syn) (a : Option Addr) (c : Nat) : Array Value:=#[.string t.kind,.bool t.null,.string t.text,.int .i64 t.num,.slice a t.kids.length c]
theorem wrap_kids {t : Syn} (hf : Form t) {i : Nat} (hw : wrapIx t.kind=some i) : ∃ hi : i < t.kids.length,RS t.kids[i] /\ leafK t.kids[i].kind=false /\ bareS t=bareS t.kids[i] /\ sizeS t.kids[i] < sizeS t:=by
 obtain ⟨k,ks,rfl,hk,hi,hr,hlf⟩:=hf.wrap hw
 rw [skind_mk] at hw
 refine ⟨hi,hr,hlf,bareS_wrap hw hi,?_⟩
 have:=sizeS_kid ks i hi
 simp only [skids_mk]
 rw [sizeS_mk]
 omega
theorem Blk.set5 {w : World} {b : Nat} {z : Array Value} {t : TypeId} (h : Blk w b z t) (hz : z.size=5) (v0 v1 v2 v3 v4 : Value) : Blk (((((w.setCell ⟨b,0,none⟩ v0).setCell ⟨b,1,none⟩ v1).setCell ⟨b,2,none⟩ v2).setCell ⟨b,3,none⟩ v3).setCell ⟨b,4,none⟩ v4) b #[v0,v1,v2,v3,v4] t:=by
 obtain ⟨a0,a1,a2,a3,a4,rfl⟩ : ∃ a0 a1 a2 a3 a4,z=#[a0,a1,a2,a3,a4]:=by
  clear h
  obtain ⟨l⟩:=z
  have hl : l.length=5:=hz
  match l,hl with
  | [a0,a1,a2,a3,a4],_=>exact ⟨_,_,_,_,_,rfl⟩
 have h1 : Blk (w.setCell ⟨b,0,none⟩ v0) b #[v0,a1,a2,a3,a4] t:=h.set 0 v0
 have h2 : Blk ((w.setCell ⟨b,0,none⟩ v0).setCell ⟨b,1,none⟩ v1) b #[v0,v1,a2,a3,a4] t:=h1.set 1 v1
 have h3 : Blk (((w.setCell ⟨b,0,none⟩ v0).setCell ⟨b,1,none⟩ v1).setCell ⟨b,2,none⟩ v2) b #[v0,v1,v2,a3,a4] t:=h2.set 2 v2
 have h4 : Blk ((((w.setCell ⟨b,0,none⟩ v0).setCell ⟨b,1,none⟩ v1).setCell ⟨b,2,none⟩ v2).setCell ⟨b,3,none⟩ v3) b #[v0,v1,v2,v3,a4] t:=h3.set 3 v3
 exact h4.set 4 v4
theorem Ext.set5 {w w' : World} (h : Ext w w') {b : Nat} (hb : w.heap.size <= b) (v0 v1 v2 v3 v4 : Value) : Ext w (((((w'.setCell ⟨b,0,none⟩ v0).setCell ⟨b,1,none⟩ v1).setCell ⟨b,2,none⟩ v2).setCell ⟨b,3,none⟩ v3).setCell ⟨b,4,none⟩ v4) :=
 ((((h.setCell hb v0).setCell hb v1).setCell hb v2).setCell hb v3).setCell hb v4
theorem Blk.other5 {w : World} {b b' : Nat} {z : Array Value} {t : TypeId} (h : Blk w b z t) (hne : b ≠ b') (v0 v1 v2 v3 v4 : Value) : Blk (((((w.setCell ⟨b',0,none⟩ v0).setCell ⟨b',1,none⟩ v1).setCell ⟨b',2,none⟩ v2).setCell ⟨b',3,none⟩ v3).setCell ⟨b',4,none⟩ v4) b z t :=
 ((((h.set_other (fun e=>hne e.symm) v0).set_other (fun e=>hne e.symm) v1).set_other (fun e=>hne e.symm) v2).set_other (fun e=>hne e.symm) v3).set_other (fun e=>hne e.symm) v4
theorem bare_calls {t : Syn} (ht : RS t) {X : Nat -> Prop} {a : Option Addr} {c : Nat} {w : World} (hT : SynX X w a c t) :
  Calls Tryz.prog 67 #[synV t a c] w fun e w'=>(∃ a' c',e=.returned (synV (bareS t) a' c') /\ SynX X w a' c' (bareS t)) /\ Ext w w':=by
 go_enter Tryz.func67,Tryz.ntmps67
 go_wp2_with fail
 go_loopg [4] (sizeS t) (fun k v wr=>∃ (u : Syn) (a' : Option Addr) (c' : Nat),k=sizeS u /\ bareS u=bareS t /\ RS u /\ SynX X w a' c' u /\ Blk wr w.heap.size (synC u a' c') 52 /\ (∃ z,Blk wr (w.heap.size + 1) z 52 /\ z.size=5) /\ Ext w wr)
 case atStart =>
  refine ⟨t,a,c,rfl,rfl,ht,hT,(Blk.new w _ _).ext (Ext.alloc _ _),⟨#[.string ⟨#[]⟩,.bool false,.string ⟨#[]⟩,.int .i64 0,.slice none 0 0],?_,rfl⟩,(Ext.alloc _ _).trans (Ext.alloc _ _)⟩
  have:=Blk.new (w.alloc (.cells (synC t a c) 52)) #[.string ⟨#[]⟩,.bool false,.string ⟨#[]⟩,.int .i64 0,.slice none 0 0] 52
  simpa using this
 case round =>
  obtain ⟨u,a',c',rfl,hb,hru,hU,hB,⟨z,hZ,hzs⟩,hE⟩:=hrel
  obtain ⟨b0,b1,b2,b3,b4⟩:=Blk5 hB
  have hbl:=hB.lt
  have hzl:=hZ.lt
  have hbf:=hB.frozen
  have hzf:=hZ.frozen
  have hzc : ∀ o < 5,∃ v,wr.cell? ⟨w.heap.size + 1,o,none⟩=some v:=fun o ho=>by
   rw [hZ.cell]
   exact ⟨_,Array.getElem?_eq_getElem (by omega)⟩
  obtain ⟨z0,e0⟩:=hzc 0 (by omega)
  obtain ⟨z1,e1⟩:=hzc 1 (by omega)
  obtain ⟨z2,e2⟩:=hzc 2 (by omega)
  obtain ⟨z3,e3⟩:=hzc 3 (by omega)
  obtain ⟨z4,e4⟩:=hzc 4 (by omega)
  have HH:=Lib.hid (And.intro hB (And.intro hZ (And.intro hzs (And.intro hE (And.intro hru hb)))))
  have HU:=Lib.hid hU
  clear hzc hB hZ hE hb
  cases hw : wrapIx u.kind with
  | none =>
   obtain ⟨n1,n2,n3,n4⟩:=wrap_no hw
   have hbu : Hid (bareS u=u):=Lib.hid (by cases u;exact bareS_none hw)
   clear hw hru hU
   go_wp2_with fail
   refine bodyPost_ret (results_c rfl _ _ (w.heap.size + 1) 52 (synC u a' c') rfl (Blk.set5 HH.out.2.1 HH.out.2.2.1 _ _ _ _ _) row52 size52) rfl ?_
   refine ⟨⟨a',c',?_,?_⟩,HH.out.2.2.2.1.set5 (Nat.le_succ _) _ _ _ _ _⟩
   ·rw [<- HH.out.2.2.2.2.2,hbu.out]
   ·rw [<- HH.out.2.2.2.2.2,hbu.out]
    exact HU.out
  | some i =>
   obtain ⟨hi,hrk,-,hbk,hsk⟩:=wrap_kids hru.form hw
   obtain ⟨g,o,ka,kc,rfl,hgl,-,p0,p1,p2,p3,p4,hkt⟩:=hU.kid i hi
   have hE:=HH.out.2.2.2.1
   replace p0:=hE.keep p0
   replace p1:=hE.keep p1
   replace p2:=hE.keep p2
   replace p3:=hE.keep p3
   replace p4:=hE.keep p4
   have hgl1:=cell_lt p0
   have hkl:=hU.kids.1
   have HW:=Lib.hid (And.intro hrk (And.intro hbk (And.intro hsk hkt)))
   clear hE hrk hbk hsk hkt hru hU
   generalize u.kids[i]=y at *
   rcases wrap_cases hw with ⟨hk,rfl⟩ | ⟨hk,rfl⟩ | ⟨hk,rfl⟩ | ⟨hk,rfl⟩
   all_goals
    rw [hk] at b0
    clear hk hw
    simp only [Nat.zero_mul,Nat.one_mul,Nat.add_zero] at p0 p1 p2 p3 p4
    go_wp2_with fail
    go_roundg (sizeS y)
    case measure=>exact HW.out.2.2.1
    case rel =>
     refine ⟨y,ka,kc,rfl,HW.out.2.1.symm.trans HH.out.2.2.2.2.2,HW.out.1,HW.out.2.2.2,?_,⟨z,?_,HH.out.2.2.1⟩,HH.out.2.2.2.1.set5 (Nat.le_refl _) _ _ _ _ _⟩
     ·exact Blk.set5 HH.out.1 rfl _ _ _ _ _
     ·exact Blk.other5 HH.out.2.1 (Nat.succ_ne_self _) _ _ _ _ _
end Go.Proofs.YtigalkobmfbdaaaGreatDoor
set_option maxRecDepth 100000
set_option maxHeartbeats 4000000
namespace Go.Proofs.YtigalkobmfbdaaaGreatDoor
open Go.RowKit
theorem underlying50 : Tryz.prog.underlying 50=some (.slice 52):=by kernel_rfl
theorem info52 : (Tryz.prog.info? 52).map (fun i=>(i.zero,i.size,i.bytes))=some (some (.agg #[.string ⟨#[]⟩,.bool false,.string ⟨#[]⟩,.int .i64 0,.slice none 0 0]),5,72):=by kernel_rfl
def rowC : List (Syn × Option Addr × Nat) -> List Value
 | []=>[]
 | x :: r=>[.string x.1.kind,.bool x.1.null,.string x.1.text,.int .i64 x.1.num,.slice x.2.1 x.1.kids.length x.2.2] ++ rowC r
theorem rowC_append (l m : List (Syn × Option Addr × Nat)) : rowC (l ++ m)=rowC l ++ rowC m:=by
 induction l with
 | nil=>rfl
 | cons x r ih=>simp only [List.cons_append,rowC,ih,List.append_assoc]
theorem synsX_of_cells {X : Nat -> Prop} {w : World} {b : Nat} (hb : X b) : ∀ (l : List (Syn × Option Addr × Nat)) (o : Nat),(∀ j u,(rowC l)[j]?=some u -> w.cell? ⟨b,o + j,none⟩=some u) -> (∀ x ∈ l,SynX X w x.2.1 x.2.2 x.1) -> SynsX X w (some ⟨b,o,none⟩) (l.map (·.1))
 | [],_,_,_=>trivial
 | x :: r,o,hc,hT=>by
  have h0:=hc 0 (.string x.1.kind) (by simp [rowC])
  have h1:=hc 1 (.bool x.1.null) (by simp [rowC])
  have h2:=hc 2 (.string x.1.text) (by simp [rowC])
  have h3:=hc 3 (.int .i64 x.1.num) (by simp [rowC])
  have h4:=hc 4 (.slice x.2.1 x.1.kids.length x.2.2) (by simp [rowC])
  refine ⟨b,o,x.2.1,x.2.2,rfl,hb,by simpa using h0,h1,h2,h3,h4,hT x (List.mem_cons_self ..),?_⟩
  refine synsX_of_cells hb r (o + 5) (fun j u hu=>?_) (fun y hy=>hT y (List.mem_cons_of_mem _ hy))
  have:=hc (5 + j) u (by simp only [rowC];rw [List.getElem?_append_right (by simp)];simpa using hu)
  rw [show o + 5 + j=o + (5 + j) by omega]
  exact this
theorem synsX_of_owns {w : World} {base : Nat} {v : Value} {l : List (Syn × Option Addr × Nat)} (h : w.ownsRow base 52 5 v l.length (rowC l)) (hT : ∀ x ∈ l,SynX (fun b=>base <= b) w x.2.1 x.2.2 x.1) :
  ∃ a c,v=.slice a l.length c /\ l.length <= c /\ c <= maxLen /\ SynsX (fun b=>base <= b) w a (l.map (·.1)):=by
 rcases h.2 with ⟨rfl,hn⟩ | ⟨g,cap,cur,rfl,hg,hgg,hnc,hm,-⟩
 ·have : l=[]:=List.eq_nil_of_length_eq_zero hn
  subst this
  exact ⟨none,0,rfl,Nat.le_refl _,Nat.zero_le _,trivial⟩
 ·refine ⟨_,_,rfl,hnc,hm,synsX_of_cells hg l 0 (fun j u hu=>?_) hT⟩
  have:=h.cells (g:=g) rfl j u hu
  have hadd : (⟨g,0,none⟩ : Addr).add j=⟨g,0 + j,none⟩:=by unfold Addr.add;split <;> simp_all
  rw [hadd] at this
  exact this
structure RowS (w : World) (base : Nat) (v : Value) (row : List (Syn × Option Addr × Nat)) : Prop where
 own : w.ownsRow base 52 5 v row.length (rowC row)
 syn : ∀ x ∈ row,SynX (fun b=>base <= b /\ v.ownBlock ≠ some b) w x.2.1 x.2.2 x.1
theorem RowS.snoc {wr w3 w5 : World} {base ob g2 cap va : Nat} {v u : Value} {o : Obj} {row : List (Syn × Option Addr × Nat)} {y : Syn} {ka : Option Addr} {kc : Nat} (hR : RowS wr base v row) (hE : Ext wr w3) (hk : SynX (fun b=>wr.heap.size <= b) w3 ka kc y) (hb : base <= wr.heap.size) (hob : ob < base)
  (hO : w5.ownsRow base 52 5 (.slice (some ⟨g2,0,none⟩) (row.length + 1) cap) (row.length + 1) (rowC row ++ [.string y.kind,.bool y.null,.string y.text,.int .i64 y.num,.slice ka y.kids.length kc])) (hG : (w3.alloc o).grownBy w5 v.ownBlock) (hat : v.ownBlock=some g2 \/ g2=(w3.alloc o).heap.size) :
  RowS (w5.setCell ⟨ob,4,none⟩ u) base (.slice (some ⟨g2,0,none⟩) (row.length + 1) cap) (row ++ [(y,ka,kc)]):=by
 have hX:=ExtM.of_row' hG
 have hset : ExtM (·=ob) w5 (w5.setCell ⟨ob,4,none⟩ u):=(ExtM.refl (·=ob) w5).setCell (p:=⟨ob,4,none⟩) (.inl rfl) u
 have hs3:=hE.size
 have hs4 : (w3.alloc o).heap.size=w3.heap.size + 1:=by simp
 have hkeep : ∀ {a : Option Addr} {c : Nat} {t : Syn},SynX (fun b=>base <= b /\ v.ownBlock ≠ some b) w3 a c t -> SynX (fun b=>base <= b /\ (Value.slice (some ⟨g2,0,none⟩) (row.length + 1) cap).ownBlock ≠ some b) (w5.setCell ⟨ob,4,none⟩ u) a c t:=by
  intro a c t h
  refine h.turn fun b o' v' hb' hc=>?_
  have hlt:=cell_lt hc
  simp only at hlt
  refine ⟨⟨hb'.1,fun e=>?_⟩,hset.keep (by simp only;omega) (hX.keep hb'.2 ((Ext.alloc _ _).keep hc))⟩
  have e2 : g2=b:=Option.some.inj e
  rcases hat with h1 | h1
  ·exact hb'.2 (by rw [h1,e2])
  ·omega
 refine ⟨?_,?_⟩
 ·rw [List.length_append,rowC_append]
  exact ownsRow_extM hO hset (fun k hk e=>by omega)
 ·intro x hx
  rcases List.mem_append.1 hx with hx | hx
  ·exact hkeep ((hR.syn x hx).mono hE)
  ·obtain rfl:=List.mem_singleton.1 hx
   refine hkeep (hk.imp fun b hb' _=>⟨by omega,fun e=>?_⟩)
   have:=(hR.own.lt b e).2
   omega
def ToldC (t : Syn) : Prop:=∀ (X : Nat -> Prop) (w : World) (pv : Value),PtrIn X w pv t -> Calls Tryz.prog 66 #[pv] w fun e w'=>(∃ a c,e=.returned (synV t a c) /\ SynX (fun b=>w.heap.size <= b) w' a c t) /\ Ext w w'
theorem cells5 (w : World) (v0 v1 v2 v3 v4 : Value) : ∀ j u,[v0,v1,v2,v3,v4][j]?=some u -> (w.alloc (.cells #[v0,v1,v2,v3,v4] 52)).cell? ((⟨w.heap.size,0,none⟩ : Addr).add j)=some u:=by
 intro j u hu
 match j,hu with
 | 0,hu=>simp at hu;subst hu;simp [Addr.add]
 | 1,hu=>simp at hu;subst hu;simp [Addr.add]
 | 2,hu=>simp at hu;subst hu;simp [Addr.add]
 | 3,hu=>simp at hu;subst hu;simp [Addr.add]
 | 4,hu=>simp at hu;subst hu;simp [Addr.add]
 | j + 5,hu=>simp at hu
theorem one5 (k : ByteArray) (b : Bool) (x : ByteArray) (n : Int) (a : Option Addr × Nat × Nat) : ∀ u ∈ [Value.string k,.bool b,.string x,.int .i64 n,.slice a.1 a.2.1 a.2.2],u.oneCell'=true:=by
 intro u hu
 simp at hu
 rcases hu with rfl | rfl | rfl | rfl | rfl <;> rfl
theorem told_walk {t : Syn} (ih : ∀ (j : Nat) (hj : j < t.kids.length),ToldC t.kids[j]) (hkl : t.kids.length <= 100000) {X : Nat -> Prop} {w : World} {b : Nat} (h0 : w.cell? ⟨b,0,none⟩=some (.string t.kind)) (h1 : w.cell? ⟨b,1,none⟩=some (.bool t.null)) (h2 : w.cell? ⟨b,2,none⟩=some (.string t.text)) (h3 : w.cell? ⟨b,3,none⟩=some (.int .i64 t.num)) {a : Option Addr} {c : Nat} (h4 : w.cell? ⟨b,4,none⟩=some (.slice a t.kids.length c)) (hlc : t.kids.length <= c) (hP : PtrsIn X w a t.kids) :
  Calls Tryz.prog 66 #[.pointer (some ⟨b,0,none⟩)] w fun e w'=>(∃ a c,e=.returned (synV t a c) /\ SynX (fun b=>w.heap.size <= b) w' a c t) /\ Ext w w':=by
 obtain ⟨i0,hi,hz0,hz1,hz2⟩:=info_parts info52
 have lt0:=cell_lt h0
 have hE0:=Ext.alloc w (.cells #[.string ⟨#[]⟩,.bool false,.string ⟨#[]⟩,.int .i64 0,.slice none 0 0] 52)
 have hZ0 : Blk (w.alloc (.cells #[.string ⟨#[]⟩,.bool false,.string ⟨#[]⟩,.int .i64 0,.slice none 0 0] 52)) w.heap.size #[.string ⟨#[]⟩,.bool false,.string ⟨#[]⟩,.int .i64 0,.slice none 0 0] 52:=Blk.new _ _ _
 have hs0 : (w.alloc (.cells #[.string ⟨#[]⟩,.bool false,.string ⟨#[]⟩,.int .i64 0,.slice none 0 0] 52)).heap.size=w.heap.size + 1:=by simp
 have k0:=hE0.keep h0
 have k1:=hE0.keep h1
 have k2:=hE0.keep h2
 have k3:=hE0.keep h3
 have k4:=hE0.keep h4
 have lt1:=cell_lt k0
 have HI:=Lib.hid ih
 have HP:=Lib.hid hP
 clear ih hP
 go_enter Tryz.func66,Tryz.ntmps66
 go_wp2_with fail
 generalize w.alloc (.cells #[.string ⟨#[]⟩,.bool false,.string ⟨#[]⟩,.int .i64 0,.slice none 0 0] 52)=w0 at *
 go_region_held3 (fun w'=>w'.cell? ⟨b,0,none⟩=some (.string t.kind) /\ w'.cell? ⟨b,1,none⟩=some (.bool t.null) /\ w'.cell? ⟨b,2,none⟩=some (.string t.text) /\ w'.cell? ⟨b,3,none⟩=some (.int .i64 t.num)) (go_keep) (first | fail)
 have hE1 : Ext w0 (w0.alloc (.cells #[.string t.kind,.bool t.null,.string t.text,.int .i64 t.num,.slice none 0 0] 52)).drew:=(Ext.alloc _ _).trans (Ext.drew _)
 have hO1 : Blk (w0.alloc (.cells #[.string t.kind,.bool t.null,.string t.text,.int .i64 t.num,.slice none 0 0] 52)).drew w0.heap.size #[.string t.kind,.bool t.null,.string t.text,.int .i64 t.num,.slice none 0 0] 52:=(Blk.new w0 _ 52).ext (Ext.drew _)
 generalize (w0.alloc (.cells #[.string t.kind,.bool t.null,.string t.text,.int .i64 t.num,.slice none 0 0] 52)).drew=w1 at *
 have hs1 : w.heap.size + 2 <= w1.heap.size:=by have:=hO1.lt;omega
 have HZ:=Lib.hid (hZ0.ext hE1)
 rw [hs0] at hO1
 have HO:=Lib.hid hO1
 have KE:=Lib.hid (hE0.trans hE1)
 replace k4:=hE1.keep k4
 have lt4:=cell_lt k4
 have H4:=Lib.hid h4
 have HS0:=Lib.hid (And.intro hs0 hs1)
 clear k0 k1 k2 k3 h0 h1 h2 h3 h4 hE1 hO1 hZ0 hE0 hs0 hs1
 go_wp2_with fail
 go_loopw [31] (fun iv wr=>∃ (j : Nat) (v : Value) (row : List (Syn × Option Addr × Nat)),iv=.int .i64 j /\ j <= t.kids.length /\ row.map (·.1)=t.kids.take j /\ Blk wr (w.heap.size + 1) #[.string t.kind,.bool t.null,.string t.text,.int .i64 t.num,v] 52 /\ RowS wr (w.heap.size + 2) v row /\ Blk wr w.heap.size #[.string ⟨#[]⟩,.bool false,.string ⟨#[]⟩,.int .i64 0,.slice none 0 0] 52 /\ Ext w wr) (fun iv _=>t.kids.length - (intOf iv).toNat)
 case atStart=>exact ⟨0,.slice none 0 0,[],rfl,Nat.zero_le _,rfl,HO.out,⟨World.ownsRow_nil _ _ _ _,by simp⟩,HZ.out,KE.out⟩
 case round =>
  obtain ⟨j,v,row,rfl,hj,hrow,hB,hR,hZr,hE⟩:=hrel
  have hrl : row.length=j:=by have:=congrArg List.length hrow;simpa [Nat.min_eq_left hj] using this
  obtain ⟨o0,o1,o2,o3,o4⟩:=Blk5 hB
  have ol:=hB.lt
  have hzl:=hZr.lt
  have KR:=Lib.hid (And.intro hR (And.intro hB (And.intro hZr (And.intro hE hrow))))
  have HRL:=Lib.hid hrl
  clear hrow hB hR hZr hE hrl
  by_cases hlt : j < t.kids.length
  ·obtain ⟨g,o,pv,rfl,-,hg,hp⟩:=HP.out.get j hlt
   replace hg:=KR.out.2.2.2.1.keep hg
   have hgl:=cell_lt hg
   have hone:=hp.one
   obtain ⟨p,rfl⟩:=ptr_shape hp
   have hv1 : ∃ va vc,v=.slice va j vc:=by
    obtain ⟨va,vc,e⟩:=owns_slice KR.out.1.own
    rw [HRL.out] at e
    exact ⟨va,vc,e⟩
   obtain ⟨va,vc,rfl⟩:=hv1
   have HC:=Lib.hid (fun (w2 : World) (hx : Ext wr w2)=>HI.out j hlt X w2 (.pointer p) ((hp.mono (KR.out.2.2.2.1.keeps _)).mono (hx.keeps _)))
   have HT:=Lib.hid (List.take_succ_eq_append_getElem hlt)
   have HB2:=Lib.hid (show w.heap.size + 2 <= wr.heap.size by have:=(KR.out.2.1).lt;omega)
   have HNE:=Lib.hid (fun k hk=>(KR.out.1.own.lt k hk).1)
   have HFZ:=Lib.hid KR.out.2.1
   clear hp
   generalize t.kids[j]=y at *
   go_wp2_with fail
   go_region_law (first
     | (refine step_append_lies _ rfl _ _ 50 rfl (w.heap.size + 2) 52 i0 _ 5 72 underlying50 hi hz0 hz1 hz2 rfl (by decide) _ _ _ rfl (HOW.out.alloc _) ⟨w3.heap.size,0,none⟩ 1 1 [.string y.kind,.bool y.null,.string y.text,.int .i64 y.num,.slice ka y.kids.length kc] rfl rfl (cells5 _ _ _ _ _ _) (one5 _ _ _ _ (ka,y.kids.length,kc)) (by decide) (by have:=HRL.out;unfold maxLen;omega) (by have:=HRL.out;omega) (by have:=HS0.out;have:=K3.out.2.size;have:=HB2.out;simp;omega) _ rfl ?_;intro g2 cap w5 hown hgrow hat hlt2;have KG:=Lib.hid (And.intro hown (And.intro hgrow hat));have q5:=(ExtM.of_row' hgrow).keep (fun e=>by have:=HNE.out _ e;simp only at this;omega) ((Ext.alloc _ _).keep q4);have B5:=Lib.hid (((HFZ.out.ext K3.out.2).ext (Ext.alloc _ _)).extM (ExtM.of_row' hgrow) (fun e=>by have:=HNE.out _ e;omega));have f5:=B5.out.frozen 4;have l5:=B5.out.lt;clear hown hgrow hat)
     | (go_simp;go_at_call 66;refine (HC.out _ (Ext.drew _)).mono ?_;rintro e w3 ⟨⟨ka,kc,rfl,hk⟩,hE3⟩;have K3:=Lib.hid (And.intro hk ((Ext.drew wr).trans hE3));have q4:=K3.out.2.keep o4;have q4a:=(Ext.alloc w3 (.cells #[.string y.kind,.bool y.null,.string y.text,.int .i64 y.num,.slice ka y.kids.length kc] 52)).keep q4;have HOW:=Lib.hid (ownsRow_extM KR.out.1.own (K3.out.2.toM (fun _=>False)) (fun _ _ h=>h));clear hk hE3))
   all_goals
    have KF:=Lib.hid (KR.out.1.snoc (ob:=w.heap.size + 1) (u:=.slice (some ⟨g2,0,none⟩) (row.length + 1) cap) (va:=0) K3.out.2 K3.out.1 HB2.out (Nat.lt_succ_self _) KG.out.1 KG.out.2.1 KG.out.2.2)
    have KX : Hid (Ext w (w5.setCell ⟨w.heap.size + 1,4,none⟩ (.slice (some ⟨g2,0,none⟩) (row.length + 1) cap))):=Lib.hid ((((KR.out.2.2.2.1.trans K3.out.2).trans (Ext.alloc _ _)).grown KG.out.2.1 (fun k hk=>by have:=HNE.out k hk;omega)).setCell (Nat.le_succ _) _)
    have KZ : Hid (Blk (w5.setCell ⟨w.heap.size + 1,4,none⟩ (.slice (some ⟨g2,0,none⟩) (row.length + 1) cap)) w.heap.size #[.string ⟨#[]⟩,.bool false,.string ⟨#[]⟩,.int .i64 0,.slice none 0 0] 52):=Lib.hid ((((KR.out.2.2.1.ext K3.out.2).ext (Ext.alloc _ _)).extM (ExtM.of_row' KG.out.2.1) (fun e=>by have:=HNE.out _ e;omega)).set_other (by simp only;omega) _)
    have KB : Hid (Blk (w5.setCell ⟨w.heap.size + 1,4,none⟩ (.slice (some ⟨g2,0,none⟩) (row.length + 1) cap)) (w.heap.size + 1) #[.string t.kind,.bool t.null,.string t.text,.int .i64 t.num,.slice (some ⟨g2,0,none⟩) (row.length + 1) cap] 52):=Lib.hid (by simpa using B5.out.set 4 (.slice (some ⟨g2,0,none⟩) (row.length + 1) cap))
    have KM : Hid ((row ++ [(y,ka,kc)]).map (·.1)=t.kids.take (j + 1)):=Lib.hid (by rw [HT.out,List.map_append,KR.out.2.2.2.2];rfl)
    clear o0 o1 o2 o3 o4 q4 q4a q5 f5 l5 hg hgl
    go_wp2_with fail
    exact ⟨⟨j + 1,_,row ++ [(y,ka,kc)],by simp,by omega,KM.out,KB.out,KF.out,KZ.out,KX.out⟩,by simp [intOf];omega⟩
  ·obtain rfl : j=t.kids.length:=by omega
   have hz:=KR.out.2.2.1
   have hzf:=hz.frozen
   obtain ⟨z0,z1,z2,z3,z4⟩:=Blk5 hz
   have hob:=KR.out.2.1
   have hof:=hob.frozen
   obtain ⟨va,vc,ev⟩:=owns_slice KR.out.1.own
   have hone : v.oneCell'=true:=by rw [ev];rfl
   subst ev
   have HRL2:=Lib.hid HRL.out
   clear hz hob
   go_wp2_with fail
   refine bodyPost_ret (results_c rfl _ _ w.heap.size 52 #[.string t.kind,.bool t.null,.string t.text,.int .i64 t.num,.slice va row.length vc] rfl (Blk.set5 KR.out.2.2.1 rfl _ _ _ _ _) row52 size52) rfl ?_
   obtain ⟨ra,rc,e1,hrc,-,hs⟩:=synsX_of_owns KR.out.1.own (fun x hx=>(KR.out.1.syn x hx).imp fun b hb _=>hb.1)
   have e2 : va=ra /\ vc=rc:=by simpa using e1
   obtain ⟨rfl,rfl⟩:=e2
   have hE9:=KR.out.2.2.2.1.set5 (Nat.le_refl _) (.string t.kind) (.bool t.null) (.string t.text) (.int .i64 t.num) (.slice va row.length vc)
   refine ⟨⟨va,vc,by rw [HRL.out],?_⟩,hE9⟩
   have hm:=KR.out.2.2.2.2
   rw [List.take_length] at hm
   rw [hm] at hs
   obtain ⟨tk,tn,tx,tm,tks⟩:=t
   simp only [skids_mk] at hs hrc HRL
   refine ⟨by rw [<- HRL.out];exact hrc,?_⟩
   have hset : ExtM (·=w.heap.size) wr (((((wr.setCell ⟨w.heap.size,0,none⟩ (.string tk)).setCell ⟨w.heap.size,1,none⟩ (.bool tn)).setCell ⟨w.heap.size,2,none⟩ (.string tx)).setCell ⟨w.heap.size,3,none⟩ (.int .i64 tm)).setCell ⟨w.heap.size,4,none⟩ (.slice va row.length vc)) :=
    (((((ExtM.refl (·=w.heap.size) wr).set1 0 _).set1 1 _).set1 2 _).set1 3 _).set1 4 _
   exact hs.turn fun b o v hb hc=>⟨by omega,hset.keep (by simp only;omega) hc⟩
theorem told_nil (w : World) : Calls Tryz.prog 66 #[.pointer none] w fun e w'=>e=.returned (synV nulS none 0) /\ Ext w w':=by
 have hZ0 : Blk (w.alloc (.cells #[.string ⟨#[]⟩,.bool false,.string ⟨#[]⟩,.int .i64 0,.slice none 0 0] 52)) w.heap.size #[.string ⟨#[]⟩,.bool false,.string ⟨#[]⟩,.int .i64 0,.slice none 0 0] 52:=Blk.new _ _ _
 have HZ:=Lib.hid hZ0
 clear hZ0
 go_enter Tryz.func66,Tryz.ntmps66
 go_wp2_with fail
 refine bodyPost_ret (results_c rfl _ _ w.heap.size 52 #[.string ⟨#[]⟩,.bool false,.string ⟨#[]⟩,.int .i64 0,.slice none 0 0] rfl ?_ row52 size52) rfl ?_
 ·first
   | exact HZ.out
   | exact Blk.set5 HZ.out rfl _ _ _ _ _
 ·exact ⟨rfl,by first | exact Ext.alloc _ _ | exact (Ext.alloc _ _).set5 (Nat.le_refl _) _ _ _ _ _⟩
theorem told_all (t : Syn) : RS t -> sizeS t <= 40000 -> ToldC t:=by
 induction t using Syn.ind with | h t ih=>?_
 intro hr hz X w pv hP
 by_cases hne : t.kind.toList=[]
 ·obtain rfl : pv=.pointer none:=hP.nil hne
  obtain rfl:=nul_form hr (beq_iff_eq.2 hne)
  refine (told_nil w).mono ?_
  rintro e w' ⟨rfl,hE⟩
  exact ⟨⟨none,0,rfl,Nat.le_refl _,trivial⟩,hE⟩
 ·obtain ⟨b,a,c,rfl,-,-,h0,h1,h2,h3,h4,hc,hPs⟩:=hP.blk hne
  have hl:=sizeSs_len t.kids
  have hsz : sizeS t=sizeSs t.kids + 1:=by cases t;exact sizeS_mk _ _ _ _ _
  refine told_walk (fun j hj=>ih j hj ?_ (by have:=sizeS_kid t.kids j hj;omega)) (by omega) h0 h1 h2 h3 h4 hc hPs
  have hf:=hr.form
  clear ih hP hPs h0 h1 h2 h3 h4 hc hr hne hz hl hsz
  cases hf with
  | nothing=>exact absurd hj (by simp [skids_mk])
  | leaf k x n h=>exact absurd hj (by simp [skids_mk])
  | list k nl ks h1 h2 h3=>exact (h3 _ (List.getElem_mem hj)).1
  | node k ks h1 h2 h3=>exact RS.args h2 h3 j hj
end Go.Proofs.YtigalkobmfbdaaaGreatDoor
namespace Go.Proofs.YtigalkobmfbdaaaGreatDoor
open Go.RowKit
theorem underlying58 : Tryz.prog.underlying 58=some (.slice 62):=by kernel_rfl
theorem info62 : (Tryz.prog.info? 62).map (fun i=>(i.zero,i.size,i.bytes))=some (some (.agg #[.string ⟨#[]⟩,.string ⟨#[]⟩,.bool false,.string ⟨#[]⟩,.int .i64 0,.slice none 0 0]),6,88):=by kernel_rfl
abbrev BndT:=ByteArray × Syn × Option Addr × Nat
abbrev bnd6 (x : BndT) : List Value:=[.string x.1,.string x.2.1.kind,.bool x.2.1.null,.string x.2.1.text,.int .i64 x.2.1.num,.slice x.2.2.1 x.2.1.kids.length x.2.2.2]
def rowB : List BndT -> List Value
 | []=>[]
 | x :: r=>bnd6 x ++ rowB r
theorem rowB_append (l m : List BndT) : rowB (l ++ m)=rowB l ++ rowB m:=by
 induction l with
 | nil=>rfl
 | cons x r ih=>simp only [List.cons_append,rowB,ih,List.append_assoc]
def BndsX (X : Nat -> Prop) (w : World) : Option Addr -> SL -> Prop
 | _,[]=>True
 | a,x :: r=>∃ b o k a' c',a=some ⟨b,o,none⟩ /\ X b /\ k.toList=x.1 /\ w.cell? ⟨b,o,none⟩=some (.string k) /\ w.cell? ⟨b,o + 1,none⟩=some (.string x.2.kind) /\ w.cell? ⟨b,o + 2,none⟩=some (.bool x.2.null) /\ w.cell? ⟨b,o + 3,none⟩=some (.string x.2.text) /\ w.cell? ⟨b,o + 4,none⟩=some (.int .i64 x.2.num) /\ w.cell? ⟨b,o + 5,none⟩=some (.slice a' x.2.kids.length c') /\ SynX X w a' c' x.2 /\ BndsX X w (some ⟨b,o + 6,none⟩) r
theorem bndsX_of_cells {X : Nat -> Prop} {w : World} {b : Nat} (hb : X b) : ∀ (l : List BndT) (o : Nat),(∀ j u,(rowB l)[j]?=some u -> w.cell? ⟨b,o + j,none⟩=some u) -> (∀ x ∈ l,SynX X w x.2.2.1 x.2.2.2 x.2.1) -> BndsX X w (some ⟨b,o,none⟩) (l.map fun x=>(x.1.toList,x.2.1))
 | [],_,_,_=>trivial
 | x :: r,o,hc,hT=>by
  have h0:=hc 0 (.string x.1) (by simp [rowB])
  have h1:=hc 1 (.string x.2.1.kind) (by simp [rowB])
  have h2:=hc 2 (.bool x.2.1.null) (by simp [rowB])
  have h3:=hc 3 (.string x.2.1.text) (by simp [rowB])
  have h4:=hc 4 (.int .i64 x.2.1.num) (by simp [rowB])
  have h5:=hc 5 (.slice x.2.2.1 x.2.1.kids.length x.2.2.2) (by simp [rowB])
  refine ⟨b,o,x.1,x.2.2.1,x.2.2.2,rfl,hb,rfl,by simpa using h0,h1,h2,h3,h4,h5,hT x (List.mem_cons_self ..),?_⟩
  refine bndsX_of_cells hb r (o + 6) (fun j u hu=>?_) (fun y hy=>hT y (List.mem_cons_of_mem _ hy))
  have:=hc (6 + j) u (by simp only [rowB];rw [List.getElem?_append_right (by simp)];simpa using hu)
  rw [show o + 6 + j=o + (6 + j) by omega]
  exact this
theorem bndsX_of_owns {w : World} {base : Nat} {v : Value} {l : List BndT} (h : w.ownsRow base 62 6 v l.length (rowB l)) (hT : ∀ x ∈ l,SynX (fun b=>base <= b) w x.2.2.1 x.2.2.2 x.2.1) :
  ∃ a c,v=.slice a l.length c /\ l.length <= c /\ c <= maxLen /\ BndsX (fun b=>base <= b) w a (l.map fun x=>(x.1.toList,x.2.1)):=by
 rcases h.2 with ⟨rfl,hn⟩ | ⟨g,cap,cur,rfl,hg,hgg,hnc,hm,-⟩
 ·have : l=[]:=List.eq_nil_of_length_eq_zero hn
  subst this
  exact ⟨none,0,rfl,Nat.le_refl _,Nat.zero_le _,trivial⟩
 ·refine ⟨_,_,rfl,hnc,hm,bndsX_of_cells hg l 0 (fun j u hu=>?_) hT⟩
  have:=h.cells (g:=g) rfl j u hu
  have hadd : (⟨g,0,none⟩ : Addr).add j=⟨g,0 + j,none⟩:=by unfold Addr.add;split <;> simp_all
  rw [hadd] at this
  exact this
structure RowB (w : World) (base : Nat) (v : Value) (row : List BndT) : Prop where
 own : w.ownsRow base 62 6 v row.length (rowB row)
 syn : ∀ x ∈ row,SynX (fun b=>base <= b /\ v.ownBlock ≠ some b) w x.2.2.1 x.2.2.2 x.2.1
theorem RowB.nil (w : World) (base : Nat) : RowB w base (.slice none 0 0) []:=⟨World.ownsRow_nil _ _ _ _,fun x h=>by cases h⟩
theorem RowB.snoc {wr w3 w5 : World} {base g2 cap : Nat} {v : Value} {o : Obj} {row : List BndT} {y : BndT} (hR : RowB wr base v row) (hE : Ext wr w3) (hk : SynX (fun b=>wr.heap.size <= b) w3 y.2.2.1 y.2.2.2 y.2.1) (hb : base <= wr.heap.size)
  (hO : w5.ownsRow base 62 6 (.slice (some ⟨g2,0,none⟩) (row.length + 1) cap) (row.length + 1) (rowB row ++ bnd6 y)) (hG : (w3.alloc o).grownBy w5 v.ownBlock) (hat : v.ownBlock=some g2 \/ g2=(w3.alloc o).heap.size) :
  RowB w5 base (.slice (some ⟨g2,0,none⟩) (row.length + 1) cap) (row ++ [y]):=by
 have hX:=ExtM.of_row' hG
 have hs3:=hE.size
 have hs4 : (w3.alloc o).heap.size=w3.heap.size + 1:=by simp
 have hkeep : ∀ {a : Option Addr} {c : Nat} {t : Syn},SynX (fun b=>base <= b /\ v.ownBlock ≠ some b) w3 a c t -> SynX (fun b=>base <= b /\ (Value.slice (some ⟨g2,0,none⟩) (row.length + 1) cap).ownBlock ≠ some b) w5 a c t:=by
  intro a c t h
  refine h.turn fun b o' v' hb' hc=>?_
  have hlt:=cell_lt hc
  simp only at hlt
  refine ⟨⟨hb'.1,fun e=>?_⟩,hX.keep hb'.2 ((Ext.alloc _ _).keep hc)⟩
  have e2 : g2=b:=Option.some.inj e
  rcases hat with h1 | h1
  ·exact hb'.2 (by rw [h1,e2])
  ·omega
 refine ⟨?_,?_⟩
 ·rw [List.length_append,rowB_append]
  simpa [rowB] using hO
 ·intro x hx
  rcases List.mem_append.1 hx with hx | hx
  ·exact hkeep ((hR.syn x hx).mono hE)
  ·obtain rfl:=List.mem_singleton.1 hx
   refine hkeep (hk.imp fun b hb' _=>⟨by omega,fun e=>?_⟩)
   have:=(hR.own.lt b e).2
   omega
theorem cells6 (w : World) (v0 v1 v2 v3 v4 v5 : Value) : ∀ j u,[v0,v1,v2,v3,v4,v5][j]?=some u -> (w.alloc (.cells #[v0,v1,v2,v3,v4,v5] 62)).cell? ((⟨w.heap.size,0,none⟩ : Addr).add j)=some u:=by
 intro j u hu
 match j,hu with
 | 0,hu=>simp at hu;subst hu;simp [Addr.add]
 | 1,hu=>simp at hu;subst hu;simp [Addr.add]
 | 2,hu=>simp at hu;subst hu;simp [Addr.add]
 | 3,hu=>simp at hu;subst hu;simp [Addr.add]
 | 4,hu=>simp at hu;subst hu;simp [Addr.add]
 | 5,hu=>simp at hu;subst hu;simp [Addr.add]
 | j + 6,hu=>simp at hu
theorem one6 (s k : ByteArray) (b : Bool) (x : ByteArray) (n : Int) (a : Option Addr × Nat × Nat) : ∀ u ∈ [Value.string s,Value.string k,.bool b,.string x,.int .i64 n,.slice a.1 a.2.1 a.2.2],u.oneCell'=true:=by
 intro u hu
 simp at hu
 rcases hu with rfl | rfl | rfl | rfl | rfl | rfl <;> rfl
def sortS (S : SL) : SL:=((S.map Prod.fst).mergeSort fun x y=>decide (x <= y)).map fun s=>(s,(getB S s).getD nulS)
theorem sortS_len (S : SL) : (sortS S).length=S.length:=by simp [sortS]
end Go.Proofs.YtigalkobmfbdaaaGreatDoor
