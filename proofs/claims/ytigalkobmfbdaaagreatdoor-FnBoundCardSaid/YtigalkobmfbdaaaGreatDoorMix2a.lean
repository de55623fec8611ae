/- Words that all walks of this seat use: a world that only grows, trees (impl.Tree) in memory. Nothing here is about one function. -/
import Derived.Test.YtigalkobmfbdaaaGreatDoorRows
import Derived.WalkKit
import Derived.WalkSpells
import Derived.WalkLawsBesides
import Derived.Deep.QuietTactic
import Derived.BigQuiet
import Derived.Lib.Hide
import Derived.Outline
import Derived.StillTailTactics
import Derived.Deep.RegionHeld3
import Derived.Deep.RegionWith
import Derived.Deep.DeepCutAuto
namespace Go.Proofs.YtigalkobmfbdaaaGreatDoor
open Go.RowKit
def Ext (w w' : World) : Prop:=Below w.heap.size w w'
theorem Ext.refl (w : World) : Ext w w:=Below.refl _ _
theorem Ext.trans {a b c : World} (h : Ext a b) (k : Ext b c) : Ext a c:=Below.trans h (Below.mono k h.size)
theorem Ext.size {a b : World} (h : Ext a b) : a.heap.size <= b.heap.size:=Below.size h
theorem Ext.alloc (w : World) (o : Obj) : Ext w (w.alloc o):=(Below.refl _ _).alloc (Nat.le_refl _) o
theorem Ext.drew (w : World) : Ext w w.drew:=(Below.refl _ _).drew
theorem Ext.drewN (w : World) (n : Nat) : Ext w (w.drewN n):=⟨rfl,rfl,rfl,Nat.le_refl _,fun _ _=>rfl⟩
theorem Ext.of_alloc {w w' : World} {o : Obj} (h : Ext (w.alloc o) w') : Ext w w':=(Ext.alloc w o).trans h
theorem Ext.of_drew {w w' : World} (h : Ext w.drew w') : Ext w w':=(Ext.drew w).trans h
theorem Ext.setCell {a b : World} (h : Ext a b) {p : Addr} (hp : a.heap.size <= p.block) (u : Value) : Ext a (b.setCell p u):=Below.setCell h hp u
theorem Ext.grown {a b c : World} (h : Ext a b) {row : Option Nat} (hg : b.grownBy c row) (hr : ∀ k,row=some k -> a.heap.size <= k) : Ext a c:=Below.grown h hg h.size hr
theorem Ext.block {a b : World} (h : Ext a b) {k : Nat} (hk : k < a.heap.size) : b.heap[k]?=a.heap[k]?:=Below.block h k hk
theorem Ext.cell {a b : World} (h : Ext a b) {p : Addr} (hp : p.block < a.heap.size) : b.cell? p=a.cell? p:=Below.cell h hp
theorem Ext.frozen {a b : World} (h : Ext a b) {p : Addr} (hp : p.block < a.heap.size) : b.frozen? p=a.frozen? p:=Below.frozen h hp
theorem Ext.rules {a b : World} (h : Ext a b) : (∀ k o,k < a.heap.size -> b.cell? ⟨k,o,none⟩=a.cell? ⟨k,o,none⟩) /\ (∀ k o,k < a.heap.size -> b.frozen? ⟨k,o,none⟩=a.frozen? ⟨k,o,none⟩) /\ a.heap.size <= b.heap.size :=
 ⟨fun _ _ hk=>h.cell hk,fun _ _ hk=>h.frozen hk,h.size⟩
theorem cell_lt {w : World} {a : Addr} {v : Value} (h : w.cell? a=some v) : a.block < w.heap.size:=World.block_lt_of_cell? w _ h
theorem Ext.keep {a b : World} (h : Ext a b) {p : Addr} {v : Value} (hc : a.cell? p=some v) : b.cell? p=some v:=(h.cell (cell_lt hc)).trans hc
theorem ret_bool {a b : Bool} (h : a=b) : Ending.returned (.bool a)=.returned (.bool b):=by rw [h]
theorem ret_int {k : IntKind} {a b : Int} (h : a=b) : Ending.returned (.int k a)=.returned (.int k b):=by rw [h]
theorem ret_string {a b : ByteArray} (h : a=b) : Ending.returned (.string a)=.returned (.string b):=by rw [h]
inductive Tree where
 | mk (kind text : ByteArray) (kids : List Tree)
def Tree.kind : Tree -> ByteArray | .mk k _ _=>k
def Tree.text : Tree -> ByteArray | .mk _ t _=>t
def Tree.kids : Tree -> List Tree | .mk _ _ k=>k
mutual
def TreeAt (w : World) : Option Addr -> Nat -> Tree -> Prop
 | a,c,.mk k x ks=>(k.size <= 140737488351232 /\ x.size <= 140737488351232) /\ ks.length <= c /\ c <= 140737488351232 /\ KidsAt w a ks
def KidsAt (w : World) : Option Addr -> List Tree -> Prop
 | _,[]=>True
 | a,t :: ts=>∃ b o a' c',a=some ⟨b,o,none⟩ /\ w.cell? ⟨b,o,none⟩=some (.string t.kind) /\ w.cell? ⟨b,o + 1,none⟩=some (.string t.text) /\ w.cell? ⟨b,o + 2,none⟩=some (.slice a' t.kids.length c') /\ TreeAt w a' c' t /\ KidsAt w (some ⟨b,o + 3,none⟩) ts
end
abbrev treeV (t : Tree) (a : Option Addr) (c : Nat) : Value:=.agg #[.string t.kind,.string t.text,.slice a t.kids.length c]
mutual
theorem TreeAt.mono {w w' : World} (h : Ext w w') : ∀ {a : Option Addr} {c : Nat} {t : Tree},TreeAt w a c t -> TreeAt w' a c t
 | _,_,.mk _ _ _,⟨hs,hc,hl,hk⟩=>⟨hs,hc,hl,KidsAt.mono h hk⟩
theorem KidsAt.mono {w w' : World} (h : Ext w w') : ∀ {a : Option Addr} {ts : List Tree},KidsAt w a ts -> KidsAt w' a ts
 | _,[],_=>trivial
 | _,_ :: _,⟨b,o,a',c',ha,h1,h2,h3,ht,hk⟩=>⟨b,o,a',c',ha,h.keep h1,h.keep h2,h.keep h3,TreeAt.mono h ht,KidsAt.mono h hk⟩
end
theorem KidsAt.get {w : World} : ∀ {ts : List Tree} {a : Option Addr} (_ : KidsAt w a ts) (j : Nat) (hj : j < ts.length),
  ∃ b o a' c',a=some ⟨b,o,none⟩ /\ b < w.heap.size /\ w.cell? ⟨b,o + j * 3,none⟩=some (.string ts[j].kind) /\ w.cell? ⟨b,o + j * 3 + 1,none⟩=some (.string ts[j].text) /\ w.cell? ⟨b,o + j * 3 + 2,none⟩=some (.slice a' ts[j].kids.length c') /\ TreeAt w a' c' ts[j]
 | t :: ts,a,⟨b,o,a',c',ha,h1,h2,h3,ht,hk⟩,0,_=>⟨b,o,a',c',ha,cell_lt h1,by simpa using h1,by simpa using h2,by simpa using h3,ht⟩
 | t :: ts,a,⟨b,o,_,_,ha,h1,h2,h3,ht,hk⟩,j + 1,hj=>by
  obtain ⟨b',o',a',c',ha',hlt,h1',h2',h3',ht'⟩:=KidsAt.get hk j (by simpa using hj)
  obtain ⟨rfl,rfl⟩ : b=b' /\ o + 3=o':=by simpa using ha'
  have e : o + 3 + j * 3=o + (j + 1) * 3:=by omega
  rw [e] at h1' h2' h3'
  exact ⟨b,o,a',c',ha,hlt,h1',h2',h3',ht'⟩
theorem TreeAt.kids {w : World} {a : Option Addr} {c : Nat} {t : Tree} (h : TreeAt w a c t) : t.kids.length <= c /\ c <= 140737488351232 /\ KidsAt w a t.kids:=by
 cases t;exact h.2
theorem TreeAt.sizes {w : World} {a : Option Addr} {c : Nat} {t : Tree} (h : TreeAt w a c t) : t.kind.size <= 140737488351232 /\ t.text.size <= 140737488351232:=by
 cases t;exact h.1
theorem TreeAt.kid {w : World} {a : Option Addr} {c : Nat} {t : Tree} (h : TreeAt w a c t) (j : Nat) (hj : j < t.kids.length) :
  ∃ b o a' c',a=some ⟨b,o,none⟩ /\ b < w.heap.size /\ w.cell? ⟨b,o + j * 3,none⟩=some (.string t.kids[j].kind) /\ w.cell? ⟨b,o + j * 3 + 1,none⟩=some (.string t.kids[j].text) /\ w.cell? ⟨b,o + j * 3 + 2,none⟩=some (.slice a' t.kids[j].kids.length c') /\ TreeAt w a' c' t.kids[j] :=
 h.kids.2.2.get j hj
theorem Tree.ind {P : Tree -> Prop} (h : ∀ t : Tree,(∀ (j : Nat) (hj : j < t.kids.length),P t.kids[j]) -> P t) : ∀ t,P t:=by
 intro t
 refine Tree.rec (motive_1:=P) (motive_2:=fun ts=>∀ (j : Nat) (hj : j < ts.length),P ts[j]) ?_ ?_ ?_ t
 ·intro k x ks ih
  exact h (.mk k x ks) ih
 ·intro j hj
  exact absurd hj (by simp)
 ·intro t ts ht hts j hj
  cases j with
  | zero=>exact ht
  | succ j=>simpa using hts j (by simpa using hj)
end Go.Proofs.YtigalkobmfbdaaaGreatDoor
namespace Go.Proofs.YtigalkobmfbdaaaGreatDoor
open Go.RowKit
structure ExtM (M : Nat -> Prop) (w w' : World) : Prop where
 os : w'.os=w.os
 tape : w'.tape=w.tape
 output : w'.output=w.output
 size : w.heap.size <= w'.heap.size
 block : ∀ k,k < w.heap.size -> ¬ M k -> w'.heap[k]?=w.heap[k]?
theorem ExtM.refl (M : Nat -> Prop) (w : World) : ExtM M w w:=⟨rfl,rfl,rfl,Nat.le_refl _,fun _ _ _=>rfl⟩
theorem Ext.toM {w w' : World} (h : Ext w w') (M : Nat -> Prop) : ExtM M w w':=⟨Below.os h,Below.tape h,Below.output h,Below.size h,fun k hk _=>Below.block h k hk⟩
theorem ExtM.trans {M N : Nat -> Prop} {a b c : World} (h : ExtM M a b) (k : ExtM N b c) (hN : ∀ i,i < a.heap.size -> N i -> M i) : ExtM M a c :=
 ⟨k.os.trans h.os,k.tape.trans h.tape,k.output.trans h.output,Nat.le_trans h.size k.size,fun i hi hM =>
  (k.block i (Nat.lt_of_lt_of_le hi h.size) (fun hn=>hM (hN i hi hn))).trans (h.block i hi hM)⟩
theorem ExtM.trans' {M : Nat -> Prop} {a b c : World} (h : ExtM M a b) (k : ExtM M b c) : ExtM M a c:=h.trans k fun _ _ h=>h
theorem ExtM.ext {M : Nat -> Prop} {a b c : World} (h : ExtM M a b) (k : Ext b c) : ExtM M a c:=h.trans' (k.toM M)
theorem Ext.extM {M : Nat -> Prop} {a b c : World} (h : Ext a b) (k : ExtM M b c) : ExtM M a c:=(h.toM M).trans' k
theorem ExtM.setCell {M : Nat -> Prop} {a b : World} (h : ExtM M a b) {p : Addr} (hp : M p.block \/ a.heap.size <= p.block) (u : Value) : ExtM M a (b.setCell p u) :=
 ⟨h.os,h.tape,h.output,by simpa [World.setCell] using h.size,fun k hk hM=>(Below.heap_setCell b p u k (by
  rintro rfl
  rcases hp with hp | hp
  ·exact hM hp
  ·omega)).trans (h.block k hk hM)⟩
theorem ExtM.toExt {M : Nat -> Prop} {a b c : World} (h : ExtM M b c) (k : Ext a b) (hM : ∀ i,i < a.heap.size -> ¬ M i) : Ext a c :=
 ⟨h.os.trans (Below.os k),h.tape.trans (Below.tape k),h.output.trans (Below.output k),Nat.le_trans (Below.size k) h.size,fun i hi =>
  (h.block i (Nat.lt_of_lt_of_le hi (Below.size k)) (hM i hi)).trans (Below.block k i hi)⟩
theorem ExtM.mono {M N : Nat -> Prop} {a b : World} (h : ExtM M a b) (hN : ∀ i,i < a.heap.size -> M i -> N i) : ExtM N a b :=
 ⟨h.os,h.tape,h.output,h.size,fun k hk hn=>h.block k hk fun hm=>hn (hN k hk hm)⟩
theorem ExtM.cell {M : Nat -> Prop} {a b : World} (h : ExtM M a b) {p : Addr} (hp : p.block < a.heap.size) (hM : ¬ M p.block) : b.cell? p=a.cell? p:=World.cell?_of_block (w:=a) (h.block p.block hp hM)
theorem ExtM.frozen {M : Nat -> Prop} {a b : World} (h : ExtM M a b) {p : Addr} (hp : p.block < a.heap.size) (hM : ¬ M p.block) : b.frozen? p=a.frozen? p:=World.frozen?_of_block (w:=a) (h.block p.block hp hM)
theorem ExtM.keep {M : Nat -> Prop} {a b : World} (h : ExtM M a b) {p : Addr} {v : Value} (hM : ¬ M p.block) (hc : a.cell? p=some v) : b.cell? p=some v:=(h.cell (cell_lt hc) hM).trans hc
def Blk (w : World) (b : Nat) (cs : Array Value) (t : TypeId) : Prop:=w.heap[b]?=some (.cells cs t (0,0))
theorem Blk.lt {w : World} {b : Nat} {cs : Array Value} {t : TypeId} (h : Blk w b cs t) : b < w.heap.size:=by
 rcases Nat.lt_or_ge b w.heap.size with h' | h'
 ·exact h'
 ·rw [Blk,Array.getElem?_eq_none h'] at h;cases h
theorem Blk.cell {w : World} {b : Nat} {cs : Array Value} {t : TypeId} (h : Blk w b cs t) (o : Nat) : w.cell? ⟨b,o,none⟩=cs[o]?:=by
 simp only [World.cell?,show w.heap[b]?=_ from h];rfl
theorem Blk.frozen {w : World} {b : Nat} {cs : Array Value} {t : TypeId} (h : Blk w b cs t) (o : Nat) : w.frozen? ⟨b,o,none⟩=false:=by
 simp [World.frozen?,show w.heap[b]?=_ from h]
theorem Blk.ext {w w' : World} {b : Nat} {cs : Array Value} {t : TypeId} (h : Blk w b cs t) (hE : Ext w w') : Blk w' b cs t:=(hE.block h.lt).trans h
theorem Blk.extM {M : Nat -> Prop} {w w' : World} {b : Nat} {cs : Array Value} {t : TypeId} (h : Blk w b cs t) (hE : ExtM M w w') (hM : ¬ M b) : Blk w' b cs t:=(hE.block b h.lt hM).trans h
theorem Blk.set {w : World} {b : Nat} {cs : Array Value} {t : TypeId} (h : Blk w b cs t) (o : Nat) (v : Value) : Blk (w.setCell ⟨b,o,none⟩ v) b (cs.setIfInBounds o v) t:=by
 unfold Blk at *
 simp only [World.setCell,Array.getElem?_modify,h]
 simp
theorem Blk.set_other {w : World} {b : Nat} {cs : Array Value} {t : TypeId} (h : Blk w b cs t) {p : Addr} (hp : p.block ≠ b) (v : Value) : Blk (w.setCell p v) b cs t :=
 (Below.heap_setCell w p v b (Ne.symm hp)).trans h
theorem Blk.new (w : World) (cs : Array Value) (t : TypeId) : Blk (w.alloc (.cells cs t)) w.heap.size cs t:=by
 unfold Blk
 show (w.heap.push _)[w.heap.size]?=_
 simp
end Go.Proofs.YtigalkobmfbdaaaGreatDoor
namespace Go.Proofs.YtigalkobmfbdaaaGreatDoor
open Go.RowKit
def know (a : Act) (x : Operand) (b : Bool) : Act :=
 match x with
 | .tmp t=>a.put (some t) (.bool b)
 | _=>a
theorem know_same {a : Act} {x : Operand} {b : Bool} (h : a.eval x=.bool b) : know a x b=a:=by
 cases x with
 | tmp t =>
  have ht : t < a.tmps.size:=by
   rcases Nat.lt_or_ge t a.tmps.size with h1 | h1
   ·exact h1
   ·simp [Act.eval,Array.getElem?_eq_none h1,undef] at h
  have e : a.tmps[t]=.bool b:=by simpa [Act.eval,Array.getD_eq_getD_getElem?,Array.getElem?_eq_getElem ht] using h
  have hs : a.tmps.setIfInBounds t (.bool b)=a.tmps:=by
   refine Array.ext_getElem? fun i=>?_
   rw [Array.getElem?_setIfInBounds]
   split
   ·rename_i hi;subst hi;simp [Array.getElem?_eq_getElem ht,e]
   ·rfl
  show Act.mk (a.tmps.setIfInBounds t (.bool b)) a.defers=a
  rw [hs]
 | _=>rfl
section
variable {R : Type} (P : Program)
def opsK (ops : Array Oper) : List Oper -> Act -> World -> (Act -> World -> Option R) -> Option R
 | [],a,w,K=>K a w
 | o :: rest,a,w,K =>
  bif Region.wanted o (yielded ops a.tmps) then
   match (execOp a.eval o).run P w with
   | .ok (.value v) w'=>opsK ops rest (a.put o.dst v) w' K
   | .ok .skip w'=>opsK ops rest (a.put o.dst undef) w' K
   | _=>none
  else opsK ops rest (a.put o.dst undef) w K
def runK : Code -> Act -> World -> (Exit -> Act -> World -> Option R) -> Option R
 | .skip,a,w,K=>K .normal a w
 | .seq c d,a,w,K=>runK c a w fun e a w=>match e with
  | .normal=>runK d a w K
  | e=>K e a w
 | .cond x c d,a,w,K=>match a.eval x with
  | .bool b=>bif b then runK c (know a x true) w K else runK d (know a x false) w K
  | _=>none
 | .block id c,a,w,K=>runK c a w fun e a w=>match e with
  | .exit j=>if j=id then K .normal a w else K (.exit j) a w
  | e=>K e a w
 | .ret,a,w,K=>K .ret a w
 | .exit id,a,w,K=>K (.exit id) a w
 | .region _ ops false,a,w,K=>opsK P ops ops.toList a w fun a w=>K .normal a w
 | _,_,_,_=>none
end
section
variable {R : Type} {P : Program}
theorem opsK_sound {ops : Array Oper} {Q : Exit -> Act -> World -> Prop} {r : R} : ∀ (l : List Oper) (a : Act) (w : World) (K : Act -> World -> Option R),
  opsK P ops l a w K=some r -> (∀ a w,K a w=some r -> Q .normal a w) -> wpList P ops Q l a w
 | [],a,w,K,h,hq=>hq a w h
 | o :: rest,a,w,K,h,hq=>by
  simp only [opsK] at h
  unfold wpList
  split
  ·rename_i hw
   rw [hw,cond_true] at h
   refine .inl ?_
   unfold Oper.wp
   split at h
   ·rename_i hr;rw [hr];exact opsK_sound rest _ _ K h hq
   ·rename_i hr;rw [hr];exact opsK_sound rest _ _ K h hq
   ·cases h
  ·rename_i hw
   rw [Bool.not_eq_true] at hw
   rw [hw,cond_false] at h
   exact opsK_sound rest _ _ K h hq
theorem runK_sound {r : R} : ∀ (c : Code) (a : Act) (w : World) (K : Exit -> Act -> World -> Option R) (Q : Exit -> Act -> World -> Prop),
  runK P c a w K=some r -> (∀ e a w,K e a w=some r -> Q e a w) -> c.wp P Q a w
 | .skip,a,w,K,Q,h,hq=>wp_skip (hq _ _ _ h)
 | .seq c d,a,w,K,Q,h,hq=>wp_seq (runK_sound c a w _ _ h fun e a w he=>by
   cases e with
   | normal=>exact runK_sound d a w K Q he hq
   | _=>exact hq _ _ _ he)
 | .cond x c d,a,w,K,Q,h,hq=>by
  simp only [runK] at h
  split at h
  ·rename_i b hb
   refine wp_cond hb ?_
   cases b
   ·rw [cond_false,know_same hb] at h;exact runK_sound d a w K Q h hq
   ·rw [cond_true,know_same hb] at h;exact runK_sound c a w K Q h hq
  ·cases h
 | .block id c,a,w,K,Q,h,hq=>wp_block (runK_sound c a w _ _ h fun e a w he=>by
   cases e with
   | exit j =>
    simp only at he
    unfold Exit.inBlock
    split at he
    ·rename_i hj;simp only [hj,if_true];exact hq _ _ _ he
    ·rename_i hj;simp only [hj,if_false];exact hq _ _ _ he
   | _=>exact hq _ _ _ he)
 | .ret,a,w,K,Q,h,hq=>wp_ret (hq _ _ _ h)
 | .exit id,a,w,K,Q,h,hq=>wp_exit (hq _ _ _ h)
 | .region id ops false,a,w,K,Q,h,hq=>wp_region_list (opsK_sound ops.toList a w _ h fun a w he=>hq _ _ _ he)
 | .region id ops true,_,_,_,_,h,_=>by simp [runK] at h
 | .loop _,_,_,_,_,h,_=>by simp [runK] at h
 | .rangeFunc ..,_,_,_,_,h,_=>by simp [runK] at h
 | .scope _,_,_,_,_,h,_=>by simp [runK] at h
 | .label _,_,_,_,_,h,_=>by simp [runK] at h
 | .goto _,_,_,_,_,h,_=>by simp [runK] at h
 | .refuse _,_,_,_,_,h,_=>by simp [runK] at h
def resK (rs : List ResultVar) (tmps : Array Value) : Option Value :=
 match rs with
 | [.tmp t]=>some (tmps.getD t undef)
 | [.tmp t,.tmp u]=>some (.tuple #[tmps.getD t undef,tmps.getD u undef])
 | _=>none
theorem resK_sound {fn : Func} {tmps : Array Value} {v : Value} (h : resK fn.results.toList tmps=some v) (w : World) : (results fn tmps).run P w=.ok v w:=by
 unfold resK at h
 split at h
 ·rename_i t he
  have e : fn.results=#[.tmp t]:=by rw [<- Array.toArray_toList (xs:=fn.results),he]
  injection h with h
  rw [<- h]
  exact results_tmp e tmps P w
 ·rename_i t u he
  have e : fn.results=#[.tmp t,.tmp u]:=by rw [<- Array.toArray_toList (xs:=fn.results),he]
  injection h with h
  rw [<- h]
  exact results_tmp2 e tmps P w
 ·cases h
def callK (P : Program) (fn : Func) (args : Array Value) (w : World) : Option (Value × World) :=
 match fn.body with
 | none=>none
 | some c=>runK P c { tmps:=args ++ Array.replicate (fn.ntmps - args.size) undef,defers:=[] } w fun e a w =>
  match e,a.defers with
  | .ret,[]=>(resK fn.results.toList a.tmps).map fun v=>(v,w)
  | _,_=>none
theorem callK_sound {f : FuncId} {fn : Func} {args : Array Value} {w w1 : World} {v : Value} (hf : P.funcs[f]?=some fn)
  (h : callK P fn args w=some (v,w1)) : Calls P f args w fun e w'=>e=.returned v /\ w1=w':=by
 unfold callK at h
 cases hb : fn.body with
 | none=>rw [hb] at h;cases h
 | some c =>
  rw [hb] at h
  refine calls_of_wp hf hb (runK_sound c _ w _ _ h fun e a w' he=>?_)
  split at he
  ·rename_i hd
   simp only [Option.map_eq_some_iff,Prod.mk.injEq] at he
   obtain ⟨v',hr,rfl,rfl⟩:=he
   exact ⟨hd,v',resK_sound hr w',rfl,rfl⟩
  ·cases he
end
end Go.Proofs.YtigalkobmfbdaaaGreatDoor
