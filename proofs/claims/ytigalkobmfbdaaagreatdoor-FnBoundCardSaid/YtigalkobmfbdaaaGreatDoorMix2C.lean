/- The top of the laws: an argument of type Tree, opened as a tree in memory; the table that is laid; arguments read behind a call as ahead of it. -/
import Derived.Test.YtigalkobmfbdaaaGreatDoorTie
import Derived.Test.YtigalkobmfbdaaaGreatDoorCards
import Derived.Test.YtigalkobmfbdaaaGreatDoorLex2Z2
import Derived.Test.YtigalkobmfbdaaaGreatDoorTextZ2
import Derived.ProofKit
import Derived.OpenShut
import Derived.LaidMore
import Derived.LaidSub
import Derived.Lay
import Derived.SevenTiedAt
import Derived.Stop.Joined
import Derived.Carry
import Derived.Test.YtigalkobmfbdaaaGreatDoorMix2g
set_option linter.unusedVariables false
set_option linter.unusedSimpArgs false
set_option maxRecDepth 100000
namespace Go.Proofs.YtigalkobmfbdaaaGreatDoor
open Go.ChangeShapes Go.WideShapes Go.ChangeAt Go.RowKit
theorem own : ownKnob Tryz.prog.godebug=none:=by kernel_rfl
theorem laidOut : laidOutB Tryz.prog=true:=by kernel_rfl
abbrev laidL : List (String × DataW Unit):=[("unicode/utf8.acceptRanges",Rows.laid_unicode_utf8_acceptRanges),("unicode.White_Space",Rows.laid_unicode_White_Space),("unicode.properties",Rows.laid_unicode_properties),("unicode.Lower",Rows.laid_unicode_Lower),("unicode.Upper",Rows.laid_unicode_Upper),("unicode/utf8.first",Rows.laid_unicode_utf8_first)]
theorem props_laid : (Rows.laid_unicode_properties : DataW Unit)=.agg (props.map fun n=>.lit (.int .u8 n)):=by kernel_rfl
theorem tab_of_laid {W : World} (h : laidMetH Tryz.prog laidL W) : TabAt W:=by
 intro r hr
 replace h:=h.filter fun x=>x.1 == "unicode.properties"
 have e0 : (laidL.filter fun x=>x.1 == "unicode.properties")=[("unicode.properties",Rows.laid_unicode_properties)]:=by kernel_rfl
 rw [e0,MakeChecks.laidMetH_plain _ _ _ (by kernel_rfl),props_laid] at h
 obtain ⟨ps,⟨g,t,cs,fuel,p,q,hg,ht,hv,hd,_,_⟩,_,_⟩:=h
 obtain rfl:=Option.some.inj ((show Tryz.prog.globalNamed "unicode.properties"=some 1 by kernel_rfl).symm.trans hg)
 have hu : Tryz.prog.underlying 229=some (.array 256 5):=by kernel_rfl
 obtain rfl:=Option.some.inj ((show (Tryz.prog.globals[1]?).map (·.type)=some 229 by kernel_rfl).symm.trans ht)
 obtain ⟨xs,m,_,ex,_,hl,hel⟩:=DataW.trod_array hu hd
 have c5 : Tryz.prog.cellsOf 5=1:=by kernel_rfl
 have hE:=hel r hr
 rw [c5,Nat.mul_one,List.getElem?_eq_getElem (by omega)] at hE
 obtain ⟨z,e1,e2,_⟩:=DataW.trod_int (k:=.u8) (by kernel_rfl) hE
 have hlen : props.length=256:=by kernel_rfl
 have e3 : (xs.map (·.1))=props.map fun n=>.lit (.int .u8 n):=(DataW.agg.inj (Prod.mk.inj ex).1).symm
 have e4 : (xs.map (·.1))[r]?=(props.map fun n=>(DataW.lit (.int .u8 n) : DataW Unit))[r]?:=by rw [e3]
 rw [List.getElem?_map,List.getElem?_map,List.getElem?_eq_getElem (by omega : r < xs.length),List.getElem?_eq_getElem (by omega : r < props.length),e2] at e4
 have hz : z=props.getD r 0:=by
  simp only [Option.map_some,Option.some.injEq,DataW.lit.injEq,Lit.int.injEq,true_and] at e4
  rw [e4,List.getD,List.getElem?_eq_getElem (by omega : r < props.length)];rfl
 rw [World.var?_cell hg hv r,<- hz]
 have : cs.toList[r]?=some (.int .u8 z):=by
  have h0 : ((cs.toList.drop r).take 1)[0]?=some (.int .u8 z):=by rw [e1];rfl
  simpa using h0
 simpa using this
theorem struct_of_map {P : Program} {t : TypeId} {l : List (TypeId × Nat)} (h : (P.underlying t).map (fun d=>match d with | .struct fs=>some (fs.toList.map fun f=>(f.type,f.offset)) | _=>none)=some (some l)) : ∃ fs : Array Field,P.underlying t=some (.struct fs) /\ fs.toList.map (fun f=>(f.type,f.offset))=l:=by
 obtain ⟨d,hd,h2⟩:=Option.map_eq_some_iff.1 h
 cases d <;> simp at h2
 exact ⟨_,hd,h2⟩
theorem struct3_of_map {P : Program} {t : TypeId} {t0 o0 t1 o1 t2 o2 : Nat} (h : (P.underlying t).map (fun d=>match d with | .struct fs=>some (fs.toList.map fun f=>(f.type,f.offset)) | _=>none)=some (some [(t0,o0),(t1,o1),(t2,o2)])) : ∃ f0 f1 f2 : Field,P.underlying t=some (.struct #[f0,f1,f2]) /\ (f0.type=t0 /\ f0.offset=o0) /\ (f1.type=t1 /\ f1.offset=o1) /\ f2.type=t2 /\ f2.offset=o2:=by
 obtain ⟨fs,h,e⟩:=struct_of_map h
 obtain ⟨fs⟩:=fs
 match fs,e with
 | [f0,f1,f2],e =>
  simp at e
  exact ⟨f0,f1,f2,h,e.1,e.2.1,e.2.2.1,e.2.2.2⟩
theorem trod_tree_parts : ∃ f0 f1 f2 : Field,Tryz.prog.underlying 24=some (.struct #[f0,f1,f2]) /\ (f0.type=9 /\ f0.offset=0) /\ (f1.type=9 /\ f1.offset=1) /\ f2.type=22 /\ f2.offset=2:=struct3_of_map (by kernel_rfl)
theorem weightsAll_mem {H : Type} {P : Program} {e : TypeId} {n : Nat} {d : DataW H} (hn : n ∈ d.weights P e) : ∀ {l : List (DataW H)} (_ : d ∈ l),n ∈ DataW.weightsAll P e l
 | x :: l,h=>by
  simp only [DataW.weightsAll,List.mem_append]
  rcases List.mem_cons.1 h with rfl | h
  ·exact .inl hn
  ·exact .inr (weightsAll_mem hn h)
theorem bytes24 : Tryz.prog.bytesOf 24=56:=by kernel_rfl
theorem weights_string {H : Type} {P : Program} {t : TypeId} {l : List UInt8} : (DataW.lit (.string l) : DataW H).weights P t=[l.length]:=by unfold DataW.weights;rfl
theorem cells24 : Tryz.prog.cellsOf 24=3:=by kernel_rfl
theorem cells9 : Tryz.prog.cellsOf 9=1:=by kernel_rfl
theorem cells22 : Tryz.prog.cellsOf 22=1:=by kernel_rfl
theorem kids_of_cells {W : World} {b : Nat} : ∀ (n o : Nat),(∀ i,i < n -> ∃ t a' c',W.cell? ⟨b,o + i * 3,none⟩=some (.string (Tree.kind t)) /\ W.cell? ⟨b,o + i * 3 + 1,none⟩=some (.string t.text) /\ W.cell? ⟨b,o + i * 3 + 2,none⟩=some (.slice a' t.kids.length c') /\ TreeAt W a' c' t) -> ∃ ts : List Tree,ts.length=n /\ KidsAt W (some ⟨b,o,none⟩) ts
 | 0,o,_=>⟨[],rfl,trivial⟩
 | n + 1,o,h=>by
  obtain ⟨t,a',c',h1,h2,h3,h4⟩:=h 0 (by omega)
  obtain ⟨ts,hl,hk⟩:=kids_of_cells n (o + 3) (fun i hi=>by
   obtain ⟨t,a',c',h1,h2,h3,h4⟩:=h (i + 1) (by omega)
   have e : o + (i + 1) * 3=o + 3 + i * 3:=by omega
   rw [e] at h1 h2 h3
   exact ⟨t,a',c',h1,h2,h3,h4⟩)
  rw [Nat.zero_mul,Nat.add_zero] at h1 h2 h3
  exact ⟨t :: ts,by rw [List.length_cons,hl],b,o,a',c',rfl,h1,h2,h3,h4,hk⟩
theorem tree_of_trod {H : Type} {enc : TypeId × Value -> H} {W : World} : ∀ (N fuel : Nat) (_ : fuel < N) {cs : List Value} {x : DataW H × List MemPlace},DataW.trod enc Tryz.prog W 0 (fun _=>true) true fuel 24 cs=some x -> (∀ n ∈ x.1.weights Tryz.prog 24,n <= reachBytes) →
  ∃ (t : Tree) (a : Option Addr) (c : Nat),cs=[.string t.kind,.string t.text,.slice a t.kids.length c] /\ TreeAt W a c t
 | 0,_,hN,_,_,_,_=>by omega
 | N + 1,fuel,hN,cs,x,h,hw=>by
  obtain ⟨f0,f1,f2,hu,⟨t0,o0⟩,⟨t1,o1⟩,t2,o2⟩:=trod_tree_parts
  obtain ⟨xs,n,rfl,rfl,hl,hlen,hf⟩:=DataW.trod_struct hu h
  rw [cells24] at hl
  match cs,hl,xs,hlen with
  | [c0,c1,c2],_,[y0,y1,y2],_ =>
   have g0:=hf 0 f0 rfl
   have g1:=hf 1 f1 rfl
   have g2:=hf 2 f2 rfl
   rw [t0,o0,cells9] at g0
   rw [t1,o1,cells9] at g1
   rw [t2,o2,cells22] at g2
   simp at g0 g1 g2
   have hw3 : ∀ n ∈ y0.1.weights Tryz.prog 9 ++ (y1.1.weights Tryz.prog 9 ++ y2.1.weights Tryz.prog 22),n <= reachBytes:=by
    intro n hn
    refine hw n ?_
    simp only [List.map_cons,List.map_nil]
    unfold DataW.weights
    rw [hu]
    simp only [List.map_cons,List.map_nil,DataW.weightsEach,t0,t1,t2,List.append_nil]
    exact hn
   clear hw
   obtain ⟨s0,e0,v0,-⟩:=DataW.trod_string underlying9 g0
   obtain ⟨s1,e1,v1,-⟩:=DataW.trod_string underlying9 g1
   simp at e0 e1
   subst e0;subst e1
   subst v0;subst v1
   have z0 : s0.size <= 140737488351232:=by
    have:=hw3 s0.data.toList.length (List.mem_append_left _ (by rw [weights_string];exact List.mem_singleton.2 rfl))
    rw [Array.length_toList] at this
    exact this
   have z1 : s1.size <= 140737488351232:=by
    have:=hw3 s1.data.toList.length (List.mem_append_right _ (List.mem_append_left _ (by rw [weights_string];exact List.mem_singleton.2 rfl)))
    rw [Array.length_toList] at this
    exact this
   rcases DataW.trod_slice underlying22 g2 with ⟨e2,-⟩ | ⟨a,len,cap,elems,rest,m,rfl,e2,e3,-,hle,-,hel,helt,hsp,-⟩
   ·simp at e2
    subst e2
    exact ⟨.mk s0 s1 [],none,0,rfl,⟨z0,z1⟩,Nat.le_refl _,by omega,trivial⟩
   ·simp at e2
    subst e2
    subst e3
    have hw4 : ∀ n ∈ (elems.length + rest.length) * 56 :: (DataW.weightsAll Tryz.prog 24 (elems.map (·.1)) ++ DataW.weightsAll Tryz.prog 24 (rest.map (·.1))),n <= reachBytes:=by
     intro n hn
     refine hw3 n (List.mem_append_right _ (List.mem_append_right _ ?_))
     unfold DataW.weights
     rw [underlying22]
     simp only [bytes24,List.length_map]
     exact hn
    have hcap' : cap <= 140737488351232:=by
     have h1:=hw4 _ (List.mem_cons_self ..)
     have h2:=(hsp rfl).1
     have h3 : reachBytes=140737488351232:=rfl
     omega
    obtain ⟨b,o,sp⟩:=a
    have key : ∀ i,i < len -> ∃ (t : Tree) (a' : Option Addr) (c' : Nat),W.cells? 0 ((⟨b,o,sp⟩ : Addr).add (i * 3)) 3=some [.string t.kind,.string t.text,.slice a' t.kids.length c'] /\ TreeAt W a' c' t:=by
     intro i hi
     have hE:=helt i hi
     rw [cells24,List.getElem?_eq_getElem (by omega)] at hE
     obtain ⟨cs',h1,h2⟩:=Option.bind_eq_some_iff.1 hE
     obtain ⟨t,a',c',rfl,ht⟩:=tree_of_trod N m (by omega) h2 (fun n hn=>hw4 n (List.mem_cons_of_mem _ (List.mem_append_left _ (weightsAll_mem hn (List.mem_map.2 ⟨_,List.getElem_mem _,rfl⟩)))))
     exact ⟨t,a',c',h1,ht⟩
    by_cases h0 : len=0
    ·subst h0
     exact ⟨.mk s0 s1 [],some ⟨b,o,sp⟩,cap,rfl,⟨z0,z1⟩,Nat.zero_le _,hcap',trivial⟩
    ·have hsp : sp=none:=by
      obtain ⟨t,a',c',h1,-⟩:=key 0 (by omega)
      obtain ⟨-,-,hc⟩:=World.cells?_some h1
      have:=hc 0 (by omega)
      simpa [Addr.add] using World.cell?_spot this
     subst hsp
     obtain ⟨ts,hts,hk⟩:=kids_of_cells (W:=W) (b:=b) len o (fun i hi=>by
      obtain ⟨t,a',c',h1,ht⟩:=key i hi
      obtain ⟨-,-,hc⟩:=World.cells?_some h1
      rw [add_plain] at hc
      have q0:=hc 0 (by omega)
      have q1:=hc 1 (by omega)
      have q2:=hc 2 (by omega)
      rw [add_plain] at q0 q1 q2
      exact ⟨t,a',c',q0,q1,q2,ht⟩)
     subst hts
     exact ⟨.mk s0 s1 ts,some ⟨b,o,none⟩,cap,rfl,⟨z0,z1⟩,hle,hcap',hk⟩
theorem open_tree {H : Type} {enc : TypeId × Value -> H} {W : World} {r : Reach} {b0 : Nat} {v : Value} {d : DataW H} {p : List MemPlace} (hval : Value.okWide Tryz.prog W r b0 24 v) (h : DataW.Trod enc Tryz.prog W 0 (fun _=>true) true 24 v d p) (hw : ∀ n ∈ d.weights Tryz.prog 24,n <= reachBytes) :
  ∃ (t : Tree) (a : Option Addr) (c : Nat),v=treeV t a c /\ TreeAt W a c t:=by
 obtain ⟨f0,f1,f2,hu,-⟩:=trod_tree_parts
 obtain ⟨cs,rfl,hsz⟩:=okWide_struct hu hval
 obtain ⟨fuel,hf⟩:=h
 obtain ⟨t,a,c,e,ht⟩:=tree_of_trod (fuel + 1) fuel (Nat.lt_succ_self _) hf hw
 refine ⟨t,a,c,?_,ht⟩
 congr 1
 exact Array.ext' (by simpa [Value.cells] using e)
theorem trodAll_stays {H : Type} {enc : TypeId × Value -> H} {P : Program} (hl : laidOutB P=true) {W W' : World} (hE : Below W.heap.size W W') (ts : List TypeId) : ∀ {vs : List Value} {ds : List (DataW H)} {p : List MemPlace},(ts.all fun t=>P.readableRec t && decide (t < P.types.size))=true -> DataW.TrodAll enc P W 0 (fun _=>true) true ts vs ds p -> (∀ x ∈ p,x.block < W.heap.size) →
  DataW.TrodAll enc P W' 0 (fun b=>decide (b < W.heap.size)) true ts vs ds p:=by
 induction ts with
 | nil =>
  intro vs ds p _ h _
  cases vs <;> cases ds <;> exact h
 | cons t ts ih =>
  intro vs ds p hr h hlt
  cases vs with
  | nil=>cases ds <;> exact h.elim
  | cons v vs =>
   cases ds with
   | nil=>exact h.elim
   | cons d ds =>
    obtain ⟨p1,q,h1,h2,e⟩:=h
    subst e
    rw [List.all_cons,Bool.and_eq_true,Bool.and_eq_true,decide_eq_true_eq] at hr
    exact ⟨p1,q,Below.trod hl hr.1.1 hr.1.2 h1 hE (fun x hx=>hlt x (List.mem_append_left _ hx)),ih hr.2 h2 (fun x hx=>hlt x (List.mem_append_right _ hx)),rfl⟩
end Go.Proofs.YtigalkobmfbdaaaGreatDoor
set_option maxRecDepth 100000
set_option maxHeartbeats 1000000
namespace Go.Proofs.YtigalkobmfbdaaaGreatDoor
open Go.ChangeShapes Go.WideShapes Go.ChangeAt Go.RowKit
theorem struct5_of_map {P : Program} {t : TypeId} {t0 o0 t1 o1 t2 o2 t3 o3 t4 o4 : Nat} (h : (P.underlying t).map (fun d=>match d with | .struct fs=>some (fs.toList.map fun f=>(f.type,f.offset)) | _=>none)=some (some [(t0,o0),(t1,o1),(t2,o2),(t3,o3),(t4,o4)])) : ∃ f0 f1 f2 f3 f4 : Field,P.underlying t=some (.struct #[f0,f1,f2,f3,f4]) /\ (f0.type=t0 /\ f0.offset=o0) /\ (f1.type=t1 /\ f1.offset=o1) /\ (f2.type=t2 /\ f2.offset=o2) /\ (f3.type=t3 /\ f3.offset=o3) /\ f4.type=t4 /\ f4.offset=o4:=by
 obtain ⟨fs,h,e⟩:=struct_of_map h
 obtain ⟨fs⟩:=fs
 match fs,e with
 | [f0,f1,f2,f3,f4],e =>
  simp at e
  exact ⟨f0,f1,f2,f3,f4,h,e.1,e.2.1,e.2.2.1,e.2.2.2.1,e.2.2.2.2⟩
theorem trod_syn_parts : ∃ f0 f1 f2 f3 f4 : Field,Tryz.prog.underlying 52=some (.struct #[f0,f1,f2,f3,f4]) /\ (f0.type=9 /\ f0.offset=0) /\ (f1.type=4 /\ f1.offset=1) /\ (f2.type=9 /\ f2.offset=2) /\ (f3.type=3 /\ f3.offset=3) /\ f4.type=50 /\ f4.offset=4:=struct5_of_map (by kernel_rfl)
theorem bytes52 : Tryz.prog.bytesOf 52=72:=by kernel_rfl
theorem cells52 : Tryz.prog.cellsOf 52=5:=by kernel_rfl
theorem cells4 : Tryz.prog.cellsOf 4=1:=by kernel_rfl
theorem cells3 : Tryz.prog.cellsOf 3=1:=by kernel_rfl
theorem cells50 : Tryz.prog.cellsOf 50=1:=by kernel_rfl
theorem under50 : Tryz.prog.underlying 50=some (.slice 52):=by kernel_rfl
abbrev LiveIn (W : World) : Nat -> Prop:=fun b=>b < W.heap.size
theorem syns_of_cells {W : World} {b : Nat} : ∀ (n o : Nat),(∀ i,i < n -> ∃ t a' c',W.cell? ⟨b,o + i * 5,none⟩=some (.string (Syn.kind t)) /\ W.cell? ⟨b,o + i * 5 + 1,none⟩=some (.bool t.null) /\ W.cell? ⟨b,o + i * 5 + 2,none⟩=some (.string t.text) /\ W.cell? ⟨b,o + i * 5 + 3,none⟩=some (.int .i64 t.num) /\ W.cell? ⟨b,o + i * 5 + 4,none⟩=some (.slice a' t.kids.length c') /\ SynIn (LiveIn W) W a' c' t) -> ∃ ts : List Syn,ts.length=n /\ SynsIn (LiveIn W) W (some ⟨b,o,none⟩) ts
 | 0,o,_=>⟨[],rfl,trivial⟩
 | n + 1,o,h=>by
  obtain ⟨t,a',c',h0,h1,h2,h3,h4,h5⟩:=h 0 (by omega)
  obtain ⟨ts,hl,hk⟩:=syns_of_cells n (o + 5) (fun i hi=>by
   obtain ⟨t,a',c',h0,h1,h2,h3,h4,h5⟩:=h (i + 1) (by omega)
   have e : o + (i + 1) * 5=o + 5 + i * 5:=by omega
   rw [e] at h0 h1 h2 h3 h4
   exact ⟨t,a',c',h0,h1,h2,h3,h4,h5⟩)
  rw [Nat.zero_mul,Nat.add_zero] at h0 h1 h2 h3 h4
  exact ⟨t :: ts,by rw [List.length_cons,hl],b,o,a',c',rfl,cell_lt h0,h0,h1,h2,h3,h4,h5,hk⟩
theorem syn_of_trod {H : Type} {enc : TypeId × Value -> H} {W : World} : ∀ (N fuel : Nat) (_ : fuel < N) {cs : List Value} {x : DataW H × List MemPlace},DataW.trod enc Tryz.prog W 0 (fun _=>true) true fuel 52 cs=some x -> (∀ n ∈ x.1.weights Tryz.prog 52,n <= reachBytes) →
  ∃ (t : Syn) (a : Option Addr) (c : Nat),cs=[.string t.kind,.bool t.null,.string t.text,.int .i64 t.num,.slice a t.kids.length c] /\ SynIn (LiveIn W) W a c t
 | 0,_,hN,_,_,_,_=>by omega
 | N + 1,fuel,hN,cs,x,h,hw=>by
  obtain ⟨f0,f1,f2,f3,f4,hu,⟨t0,o0⟩,⟨t1,o1⟩,⟨t2,o2⟩,⟨t3,o3⟩,t4,o4⟩:=trod_syn_parts
  obtain ⟨xs,n,rfl,rfl,hl,hlen,hf⟩:=DataW.trod_struct hu h
  rw [cells52] at hl
  match cs,hl,xs,hlen with
  | [c0,c1,c2,c3,c4],_,[y0,y1,y2,y3,y4],_ =>
   have g0:=hf 0 f0 rfl
   have g1:=hf 1 f1 rfl
   have g2:=hf 2 f2 rfl
   have g3:=hf 3 f3 rfl
   have g4:=hf 4 f4 rfl
   rw [t0,o0,cells9] at g0
   rw [t1,o1,cells4] at g1
   rw [t2,o2,cells9] at g2
   rw [t3,o3,cells3] at g3
   rw [t4,o4,cells50] at g4
   simp at g0 g1 g2 g3 g4
   have hw3 : ∀ n ∈ y0.1.weights Tryz.prog 9 ++ (y1.1.weights Tryz.prog 4 ++ (y2.1.weights Tryz.prog 9 ++ (y3.1.weights Tryz.prog 3 ++ y4.1.weights Tryz.prog 50))),n <= reachBytes:=by
    intro n hn
    refine hw n ?_
    simp only [List.map_cons,List.map_nil]
    unfold DataW.weights
    rw [hu]
    simp only [List.map_cons,List.map_nil,DataW.weightsEach,t0,t1,t2,t3,t4,List.append_nil]
    exact hn
   clear hw
   obtain ⟨s0,e0,v0,-⟩:=DataW.trod_string underlying9 g0
   obtain ⟨b1,e1,v1⟩:=DataW.trod_bool (by kernel_rfl) g1
   obtain ⟨s2,e2,v2,-⟩:=DataW.trod_string underlying9 g2
   obtain ⟨n3,e3,v3,wf3⟩:=DataW.trod_int (k:=.i64) (by kernel_rfl) g3
   simp at e0 e1 e2 e3
   subst e0;subst e1;subst e2;subst e3
   subst v0;subst v2
   have z0 : s0.size <= 140737488351232:=by
    have:=hw3 s0.data.toList.length (List.mem_append_left _ (by rw [weights_string];exact List.mem_singleton.2 rfl))
    rw [Array.length_toList] at this
    exact this
   have z2 : s2.size <= 140737488351232:=by
    have:=hw3 s2.data.toList.length (List.mem_append_right _ (List.mem_append_right _ (List.mem_append_left _ (by rw [weights_string];exact List.mem_singleton.2 rfl))))
    rw [Array.length_toList] at this
    exact this
   have z3 : i64 n3:=by unfold i64;simpa [Lit.wf] using wf3
   rcases DataW.trod_slice under50 g4 with ⟨e4,-⟩ | ⟨a,len,cap,elems,rest,m,rfl,e4,e5,-,hle,-,hel,helt,hsp,-⟩
   ·simp at e4
    subst e4
    exact ⟨.mk s0 b1 s2 n3 [],none,0,rfl,⟨z0,z2,z3⟩,Nat.le_refl _,by omega,trivial⟩
   ·simp at e4
    subst e4
    subst e5
    have hw4 : ∀ n ∈ (elems.length + rest.length) * 72 :: (DataW.weightsAll Tryz.prog 52 (elems.map (·.1)) ++ DataW.weightsAll Tryz.prog 52 (rest.map (·.1))),n <= reachBytes:=by
     intro n hn
     refine hw3 n (List.mem_append_right _ (List.mem_append_right _ (List.mem_append_right _ (List.mem_append_right _ ?_))))
     unfold DataW.weights
     rw [under50]
     simp only [bytes52,List.length_map]
     exact hn
    have hcap' : cap <= 140737488351232:=by
     have h1:=hw4 _ (List.mem_cons_self ..)
     have h2:=(hsp rfl).1
     have h3 : reachBytes=140737488351232:=rfl
     omega
    obtain ⟨b,o,sp⟩:=a
    have key : ∀ i,i < len -> ∃ (t : Syn) (a' : Option Addr) (c' : Nat),W.cells? 0 ((⟨b,o,sp⟩ : Addr).add (i * 5)) 5=some [.string t.kind,.bool t.null,.string t.text,.int .i64 t.num,.slice a' t.kids.length c'] /\ SynIn (LiveIn W) W a' c' t:=by
     intro i hi
     have hE:=helt i hi
     rw [cells52,List.getElem?_eq_getElem (by omega)] at hE
     obtain ⟨cs',h1,h2⟩:=Option.bind_eq_some_iff.1 hE
     obtain ⟨t,a',c',rfl,ht⟩:=syn_of_trod N m (by omega) h2 (fun n hn=>hw4 n (List.mem_cons_of_mem _ (List.mem_append_left _ (weightsAll_mem hn (List.mem_map.2 ⟨_,List.getElem_mem _,rfl⟩)))))
     exact ⟨t,a',c',h1,ht⟩
    by_cases h0 : len=0
    ·subst h0
     exact ⟨.mk s0 b1 s2 n3 [],some ⟨b,o,sp⟩,cap,rfl,⟨z0,z2,z3⟩,Nat.zero_le _,hcap',trivial⟩
    ·have hsp : sp=none:=by
      obtain ⟨t,a',c',h1,-⟩:=key 0 (by omega)
      obtain ⟨-,-,hc⟩:=World.cells?_some h1
      have:=hc 0 (by omega)
      simpa [Addr.add] using World.cell?_spot this
     subst hsp
     obtain ⟨ts,hts,hk⟩:=syns_of_cells (W:=W) (b:=b) len o (fun i hi=>by
      obtain ⟨t,a',c',h1,ht⟩:=key i hi
      obtain ⟨-,-,hc⟩:=World.cells?_some h1
      rw [add_plain] at hc
      have q0:=hc 0 (by omega)
      have q1:=hc 1 (by omega)
      have q2:=hc 2 (by omega)
      have q3:=hc 3 (by omega)
      have q4:=hc 4 (by omega)
      rw [add_plain] at q0 q1 q2 q3 q4
      exact ⟨t,a',c',q0,q1,q2,q3,q4,ht⟩)
     subst hts
     exact ⟨.mk s0 b1 s2 n3 ts,some ⟨b,o,none⟩,cap,rfl,⟨z0,z2,z3⟩,hle,hcap',hk⟩
theorem open_syn {H : Type} {enc : TypeId × Value -> H} {W : World} {r : Reach} {b0 : Nat} {v : Value} {d : DataW H} {p : List MemPlace} (hval : Value.okWide Tryz.prog W r b0 52 v) (h : DataW.Trod enc Tryz.prog W 0 (fun _=>true) true 52 v d p) (hw : ∀ n ∈ d.weights Tryz.prog 52,n <= reachBytes) :
  ∃ (t : Syn) (a : Option Addr) (c : Nat),v=synV t a c /\ SynIn (LiveIn W) W a c t:=by
 obtain ⟨f0,f1,f2,f3,f4,hu,-⟩:=trod_syn_parts
 obtain ⟨cs,rfl,hsz⟩:=okWide_struct hu hval
 obtain ⟨fuel,hf⟩:=h
 obtain ⟨t,a,c,e,ht⟩:=syn_of_trod (fuel + 1) fuel (Nat.lt_succ_self _) hf hw
 refine ⟨t,a,c,?_,ht⟩
 congr 1
 exact Array.ext' (by simpa [Value.cells] using e)
end Go.Proofs.YtigalkobmfbdaaaGreatDoor
