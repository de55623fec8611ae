/- The thin package's treeOf: a node as data. -/
import Derived.Test.YtigalkobmfbdaaaGreatDoorMix2e
import Derived.Deep.RegionHeld3
import Derived.Maps.AppendAt
import Derived.Shelf.Sort.Plain
import Derived.Shelf.Strings.Prefix
import Derived.Ground.Names2Prog
import Derived.Shelf.Slices.Clone
import Derived.Shelf.Slices.In.SortNone
import Derived.Test.YtigalkobmfbdaaaGreatDoorProg
set_option linter.unusedVariables false
set_option linter.unusedSimpArgs false
namespace Go.Proofs.YtigalkobmfbdaaaGreatDoor
open Go.RowKit
mutual
def TreeIn (X : Nat -> Prop) (w : World) : Option Addr -> Nat -> Tree -> Prop
 | a,c,.mk k x ks=>(k.size <= 140737488351232 /\ x.size <= 140737488351232) /\ ks.length <= c /\ KidsIn X w a ks
def KidsIn (X : Nat -> Prop) (w : World) : Option Addr -> List Tree -> Prop
 | _,[]=>True
 | a,t :: ts=>∃ b o a' c',a=some ⟨b,o,none⟩ /\ X b /\ w.cell? ⟨b,o,none⟩=some (.string t.kind) /\ w.cell? ⟨b,o + 1,none⟩=some (.string t.text) /\ w.cell? ⟨b,o + 2,none⟩=some (.slice a' t.kids.length c') /\ TreeIn X w a' c' t /\ KidsIn X w (some ⟨b,o + 3,none⟩) ts
end
mutual
theorem TreeIn.turn {X Y : Nat -> Prop} {w w' : World} (h : ∀ b o v,X b -> w.cell? ⟨b,o,none⟩=some v -> Y b /\ w'.cell? ⟨b,o,none⟩=some v) : ∀ {a : Option Addr} {c : Nat} {t : Tree},TreeIn X w a c t -> TreeIn Y w' a c t
 | _,_,.mk _ _ _,⟨hs,hc,hk⟩=>⟨hs,hc,KidsIn.turn h hk⟩
theorem KidsIn.turn {X Y : Nat -> Prop} {w w' : World} (h : ∀ b o v,X b -> w.cell? ⟨b,o,none⟩=some v -> Y b /\ w'.cell? ⟨b,o,none⟩=some v) : ∀ {a : Option Addr} {ts : List Tree},KidsIn X w a ts -> KidsIn Y w' a ts
 | _,[],_=>trivial
 | _,_ :: _,⟨b,o,a',c',ha,hb,h1,h2,h3,ht,hk⟩=>⟨b,o,a',c',ha,(h _ _ _ hb h1).1,(h _ _ _ hb h1).2,(h _ _ _ hb h2).2,(h _ _ _ hb h3).2,TreeIn.turn h ht,KidsIn.turn h hk⟩
end
theorem TreeIn.mono {X : Nat -> Prop} {w w' : World} (h : Ext w w') {a : Option Addr} {c : Nat} {t : Tree} (ht : TreeIn X w a c t) : TreeIn X w' a c t:=ht.turn fun _ _ _ hb hc=>⟨hb,h.keep hc⟩
theorem TreeIn.imp {X Y : Nat -> Prop} {w : World} (h : ∀ b,X b -> b < w.heap.size -> Y b) {a : Option Addr} {c : Nat} {t : Tree} (ht : TreeIn X w a c t) : TreeIn Y w a c t:=ht.turn fun b _ _ hb hc=>⟨h b hb (by simpa using cell_lt hc),hc⟩
theorem KidsIn.get {X : Nat -> Prop} {w : World} : ∀ {ts : List Tree} {a : Option Addr} (_ : KidsIn X w a ts) (j : Nat) (hj : j < ts.length),
  ∃ b o a' c',a=some ⟨b,o,none⟩ /\ b < w.heap.size /\ X b /\ w.cell? ⟨b,o + j * 3,none⟩=some (.string ts[j].kind) /\ w.cell? ⟨b,o + j * 3 + 1,none⟩=some (.string ts[j].text) /\ w.cell? ⟨b,o + j * 3 + 2,none⟩=some (.slice a' ts[j].kids.length c') /\ TreeIn X w a' c' ts[j]
 | t :: ts,a,⟨b,o,a',c',ha,hb,h1,h2,h3,ht,hk⟩,0,_=>⟨b,o,a',c',ha,cell_lt h1,hb,by simpa using h1,by simpa using h2,by simpa using h3,ht⟩
 | t :: ts,a,⟨b,o,_,_,ha,hb,h1,h2,h3,ht,hk⟩,j + 1,hj=>by
  obtain ⟨b',o',a',c',ha',hlt,hb',h1',h2',h3',ht'⟩:=KidsIn.get hk j (by simpa using hj)
  obtain ⟨rfl,rfl⟩ : b=b' /\ o + 3=o':=by simpa using ha'
  have e : o + 3 + j * 3=o + (j + 1) * 3:=by omega
  rw [e] at h1' h2' h3'
  exact ⟨b,o,a',c',ha,hlt,hb',h1',h2',h3',ht'⟩
theorem TreeIn.kids {X : Nat -> Prop} {w : World} {a : Option Addr} {c : Nat} {t : Tree} (h : TreeIn X w a c t) : t.kids.length <= c /\ KidsIn X w a t.kids:=by cases t;exact h.2
theorem TreeIn.sizes {X : Nat -> Prop} {w : World} {a : Option Addr} {c : Nat} {t : Tree} (h : TreeIn X w a c t) : t.kind.size <= 140737488351232 /\ t.text.size <= 140737488351232:=by cases t;exact h.1
end Go.Proofs.YtigalkobmfbdaaaGreatDoor
namespace Go.Proofs.YtigalkobmfbdaaaGreatDoor
open Go.RowKit
theorem NodeAt.nul {X : Nat -> Prop} {w : World} {v : Value} {n : PN} (h : NodeAt X w v n) : (n.isNul=true /\ v=.nilIface) \/ (n.isNul=false /\ ∃ t x,v=.iface t x):=by
 cases n <;> rw [NodeAt] at h
 all_goals first
  | (exact .inl ⟨rfl,h⟩)
  | (exact .inr ⟨rfl,_,_,h⟩)
  | (obtain ⟨a,c,e,-⟩:=h;exact .inr ⟨rfl,_,_,e⟩)
  | (obtain ⟨nv,e,-⟩:=h;exact .inr ⟨rfl,_,_,e⟩)
mutual
def okN : PN -> Bool
 | .struct _ ks=>okNs ks
 | .or ks=>okNs ks
 | .list h t=>(h.isNul && t.isNul) || (!h.isNul && !t.isNul && okN h && okN t)
 | .bind _ n _=>okN n
 | .and _=>false
 | .index _ _ _=>false
 | _=>true
def okNs : List PN -> Bool
 | []=>true
 | n :: ns=>okN n && okNs ns
end
end Go.Proofs.YtigalkobmfbdaaaGreatDoor
namespace Go.Proofs
open Go.Shelf
def Tryz.lays190_ren : Go.Shelf.Ren:=⟨fun | 190=>65 | 125=>85 | 258=>84 | 128=>106 | 129=>107 | 302=>97 | 303=>98 | 304=>99 | 305=>100 | 306=>101 | 307=>102 | 308=>103 | 309=>104 | 310=>105 | 333=>131 | 329=>132 | 330=>133 | 334=>134 | 335=>135 | 336=>136 | 344=>150 | n=>n,fun | 31=>31 | 9=>9 | 3=>3 | 46=>150 | 0=>0 | 51=>173 | 53=>175 | 4=>4 | 183=>167 | 182=>166 | 131=>162 | 5=>5 | 218=>206 | 222=>73 | 228=>217 | 229=>26 | n=>n,fun | n=>n⟩
theorem Tryz.lays190 : Go.Proofs.Lays.n190 Tryz.prog Tryz.lays190_ren:={
 mixed:=by kernel_rfl
 f125:=Tryz.func85.trans (congrArg some (by kernel_rfl))
 f128:=Tryz.func106.trans (congrArg some (by kernel_rfl))
 f129:=Tryz.func107.trans (congrArg some (by kernel_rfl))
 f190:=Tryz.func65.trans (congrArg some (by kernel_rfl))
 f258:=Tryz.func84.trans (congrArg some (by kernel_rfl))
 f302:=Tryz.func97.trans (congrArg some (by kernel_rfl))
 f303:=Tryz.func98.trans (congrArg some (by kernel_rfl))
 f304:=Tryz.func99.trans (congrArg some (by kernel_rfl))
 f305:=Tryz.func100.trans (congrArg some (by kernel_rfl))
 f306:=Tryz.func101.trans (congrArg some (by kernel_rfl))
 f307:=Tryz.func102.trans (congrArg some (by kernel_rfl))
 f308:=Tryz.func103.trans (congrArg some (by kernel_rfl))
 f309:=Tryz.func104.trans (congrArg some (by kernel_rfl))
 f310:=Tryz.func105.trans (congrArg some (by kernel_rfl))
 f329:=Tryz.func132.trans (congrArg some (by kernel_rfl))
 f330:=Tryz.func133.trans (congrArg some (by kernel_rfl))
 f333:=Tryz.func131.trans (congrArg some (by kernel_rfl))
 f334:=Tryz.func134.trans (congrArg some (by kernel_rfl))
 f335:=Tryz.func135.trans (congrArg some (by kernel_rfl))
 f336:=Tryz.func136.trans (congrArg some (by kernel_rfl))
 f344:=Tryz.func150.trans (congrArg some (by kernel_rfl))
 t0:=Tryz.underlying0
 a0:=Tryz.isAgg0
 z0:=Tryz.sizeOf0
 v0:=Tryz.zeroValue0
 t3:=Tryz.underlying3
 a3:=Tryz.isAgg3
 z3:=Tryz.sizeOf3
 v3:=Tryz.zeroValue3
 t4:=Tryz.underlying4
 a4:=Tryz.isAgg4
 z4:=Tryz.sizeOf4
 v4:=Tryz.zeroValue4
 t5:=Tryz.underlying5
 a5:=Tryz.isAgg5
 z5:=Tryz.sizeOf5
 v5:=Tryz.zeroValue5
 t9:=Tryz.underlying9
 a9:=Tryz.isAgg9
 z9:=Tryz.sizeOf9
 v9:=Tryz.zeroValue9
 t31:=Tryz.underlying31
 a31:=Tryz.isAgg31
 z31:=Tryz.sizeOf31
 v31:=Tryz.zeroValue31
 t46:=Tryz.underlying150
 a46:=Tryz.isAgg150
 z46:=Tryz.sizeOf150
 v46:=Tryz.zeroValue150
 t51:=Tryz.underlying173
 a51:=Tryz.isAgg173
 z51:=Tryz.sizeOf173
 v51:=Tryz.zeroValue173
 t53:=Tryz.underlying175
 a53:=Tryz.isAgg175
 z53:=Tryz.sizeOf175
 v53:=Tryz.zeroValue175
 t131:=Tryz.underlying162
 a131:=Tryz.isAgg162
 z131:=Tryz.sizeOf162
 v131:=Tryz.zeroValue162
 t182:=Tryz.underlying166
 a182:=Tryz.isAgg166
 z182:=Tryz.sizeOf166
 v182:=Tryz.zeroValue166
 t183:=Tryz.underlying167
 a183:=Tryz.isAgg167
 z183:=Tryz.sizeOf167
 v183:=Tryz.zeroValue167
 t218:=Tryz.underlying206
 a218:=Tryz.isAgg206
 z218:=Tryz.sizeOf206
 v218:=Tryz.zeroValue206
 t222:=Tryz.underlying73
 a222:=Tryz.isAgg73
 z222:=Tryz.sizeOf73
 v222:=Tryz.zeroValue73
 t228:=Tryz.underlying217
 a228:=Tryz.isAgg217
 z228:=Tryz.sizeOf217
 v228:=Tryz.zeroValue217
 t229:=Tryz.underlying26
 a229:=Tryz.isAgg26
 z229:=Tryz.sizeOf26
 v229:=Tryz.zeroValue26 }
open Go.Sort Go.RowKit in
theorem Tryz.slices_Sort_string (blk off cap : Nat) (ss : List (List UInt8)) (w : World) (hH : Holds encStr w blk off ss.toArray) (hblk : blk < w.heap.size) (hsz : ss.length < 4611686018427387904) :
  Calls Tryz.prog 65 #[.slice (some ⟨blk,off,none⟩) ss.length cap] w fun e w' =>
   e=.returned (.tuple #[]) /\ ∃ n os,w'=grow (putRow encStr (Sort.ahead w n) blk off (ss.mergeSort fun x y=>decide (x <= y)).toArray) os:=Any.slices_Sort_string Tryz.lays190 blk off cap ss w hH hblk hsz
open Go.RowKit Go.Lib in
open Go.RowKit Go.Lib in
open Go.RowKit Go.Lib in
open Go.RowKit Go.Lib in
open Go.RowKit Go.Lib in
open Go.RowKit Go.Lib in
open Go.RowKit Go.Sort in
theorem Tryz.slices_Sort_string_none (p : Option Addr) (cap : Nat) (w : World) :
  Calls Tryz.prog 65 #[.slice p 0 cap] w fun e w'=>e=.returned (.tuple #[]) /\ w'=w:=Any.slices_Sort_string_none Tryz.lays190 p cap w
end Go.Proofs
