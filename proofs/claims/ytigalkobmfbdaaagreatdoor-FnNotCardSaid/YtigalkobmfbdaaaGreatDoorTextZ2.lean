/- Text: a pattern (a tree) as text: the reference's function as a Lean function, and that the Go text computes it; whole, heavy, bracketed beside it. -/
import Derived.Test.YtigalkobmfbdaaaGreatDoorNodesZ2
import Derived.Laws.AppendOwn
import Derived.Deep.LoopGhost
set_option linter.unusedVariables false
set_option linter.unusedSimpArgs false
set_option maxRecDepth 100000
set_option maxHeartbeats 20000000
namespace Go.Proofs.YtigalkobmfbdaaaGreatDoor
open Go.RowKit
def heavy (t : Tree) : Bool:=t.kind.toList == [78,105,108] || t.kind.toList == [76,105,115,116]
theorem heavy_calls (t : Tree) (a : Option Addr) (c : Nat) (w : World) : Calls Tryz.prog 53 #[treeV t a c] w fun e w'=>e=.returned (.bool (heavy t)) /\ Ext w w':=by
 have HF : Hid (heavy t=(t.kind.toList == [78,105,108] || t.kind.toList == [76,105,115,116])):=Lib.hid rfl
 cases h1 : (t.kind.toList == [78,105,108])
 ·cases h2 : (t.kind.toList == [76,105,115,116])
  ·have H1:=Lib.hid h1
   have H2:=Lib.hid h2
   go_enter Tryz.func53,Tryz.ntmps53
   go_wp2_with fail
   go_ret
   exact ⟨ret_bool (by rw [HF.out,H1.out,H2.out];rfl),Ext.alloc _ _⟩
  ·have H1:=Lib.hid h1
   have H2:=Lib.hid h2
   go_enter Tryz.func53,Tryz.ntmps53
   go_wp2_with fail
   go_ret
   exact ⟨ret_bool (by rw [HF.out,H1.out,H2.out];rfl),Ext.alloc _ _⟩
 ·have H1:=Lib.hid h1
  go_enter Tryz.func53,Tryz.ntmps53
  go_wp2_with fail
  go_ret
  exact ⟨ret_bool (by rw [HF.out,H1.out];rfl),Ext.alloc _ _⟩
def whole : Tree -> Option (List Tree)
 | .mk k _ ks=>if k.toList == [76,105,115,116] then (match ks with
  | []=>some []
  | a :: b :: _=>(whole b).map (a :: ·)
  | [_]=>none) else none
theorem whole_mk (k x : ByteArray) (ks : List Tree) : whole (.mk k x ks)=if k.toList == [76,105,115,116] then (match ks with
  | []=>some []
  | a :: b :: _=>(whole b).map (a :: ·)
  | [_]=>none) else none:=by
 conv=>lhs;unfold whole
mutual
def count : Tree -> Nat
 | .mk _ _ ks=>countAll ks + 1
def countAll : List Tree -> Nat
 | []=>0
 | t :: ts=>count t + countAll ts
end
theorem count_pos (t : Tree) : 0 < count t:=by cases t;simp [count]
theorem countAll_get : ∀ {ts : List Tree} (j : Nat) (hj : j < ts.length),count ts[j] <= countAll ts
 | t :: ts,0,_=>by simp [countAll]
 | t :: ts,j + 1,hj=>by have:=countAll_get (ts:=ts) j (by simpa using hj);simp only [countAll,List.getElem_cons_succ];omega
theorem count_kid (t : Tree) (j : Nat) (hj : j < t.kids.length) : count t.kids[j] < count t:=by
 cases t;have:=countAll_get j hj;simp only [count,Tree.kids] at *;omega
mutual
def tame : Tree -> Bool
 | .mk k x ks=>!(k.toList == [76,105,115,116] && ks.length == 1) && decide (k.size <= 40) && decide (x.size <= 48) && tameAll ks
def tameAll : List Tree -> Bool
 | []=>true
 | t :: ts=>tame t && tameAll ts
end
theorem tameAll_get : ∀ {ts : List Tree} (_ : tameAll ts=true) (j : Nat) (hj : j < ts.length),tame ts[j]=true
 | t :: ts,h,0,_=>by simp only [tameAll,Bool.and_eq_true] at h;exact h.1
 | t :: ts,h,j + 1,hj=>by simp only [tameAll,Bool.and_eq_true] at h;simpa using tameAll_get h.2 j (by simpa using hj)
theorem tame_kid {t : Tree} (h : tame t=true) (j : Nat) (hj : j < t.kids.length) : tame t.kids[j]=true:=by
 cases t;simp only [tame,Bool.and_eq_true] at h;exact tameAll_get h.2 j hj
theorem tame_sizes {t : Tree} (h : tame t=true) : t.kind.size <= 40 /\ t.text.size <= 48:=by
 cases t;simp only [tame,Bool.and_eq_true,decide_eq_true_eq] at h;exact ⟨h.1.1.2,h.1.2⟩
theorem tame_one {t : Tree} (h : tame t=true) (hk : (t.kind.toList == [76,105,115,116])=true) : t.kids.length ≠ 1:=by
 cases t with | mk k x ks =>
 simp only [tame,Bool.and_eq_true,Tree.kind] at h hk
 rw [hk] at h
 intro he
 simp only [Tree.kids] at he
 rw [he] at h
 exact absurd h.1.1.1 (by decide)
def rowV : List (Tree × Option Addr × Nat) -> List Value
 | []=>[]
 | (t,a,c) :: l=>.string t.kind :: .string t.text :: .slice a t.kids.length c :: rowV l
theorem rowV_append (l m : List (Tree × Option Addr × Nat)) : rowV (l ++ m)=rowV l ++ rowV m:=by
 induction l with
 | nil=>rfl
 | cons x l ih=>obtain ⟨t,a,c⟩:=x;simp [rowV,ih]
theorem kidsAt_of_cells {w : World} {b : Nat} : ∀ (l : List (Tree × Option Addr × Nat)) (o : Nat),(∀ x ∈ l,TreeAt w x.2.1 x.2.2 x.1) -> (∀ j u,(rowV l)[j]?=some u -> w.cell? ⟨b,o + j,none⟩=some u) -> KidsAt w (some ⟨b,o,none⟩) (l.map (·.1))
 | [],_,_,_=>trivial
 | (t,a,c) :: l,o,hT,hc=>by
  refine ⟨b,o,a,c,rfl,hc 0 _ rfl,hc 1 _ rfl,hc 2 _ rfl,hT _ (List.mem_cons_self ..),?_⟩
  refine kidsAt_of_cells l (o + 3) (fun x hx=>hT x (List.mem_cons_of_mem _ hx)) (fun j u hu=>?_)
  have:=hc (j + 3) u (by simpa [rowV] using hu)
  rw [show o + (j + 3)=o + 3 + j by omega] at this
  exact this
theorem kidsAt_of_owns {w : World} {base : Nat} {v : Value} {l : List (Tree × Option Addr × Nat)} (h : w.ownsRow base 24 3 v l.length (rowV l)) (hT : ∀ x ∈ l,TreeAt w x.2.1 x.2.2 x.1) :
  ∃ a c,v=.slice a l.length c /\ l.length <= c /\ KidsAt w a (l.map (·.1)):=by
 rcases h.2 with ⟨rfl,hn⟩ | ⟨g,cap,cur,rfl,hb,hg,hnc,-⟩
 ·obtain rfl : l=[]:=List.eq_nil_of_length_eq_zero hn
  exact ⟨none,0,rfl,Nat.le_refl _,trivial⟩
 ·refine ⟨_,_,rfl,hnc,kidsAt_of_cells l 0 hT (fun j u hu=>?_)⟩
  have:=h.cells (g:=g) rfl j u hu
  have hadd : (⟨g,0,none⟩ : Addr).add j=⟨g,0 + j,none⟩:=by unfold Addr.add;split <;> simp_all
  rw [hadd] at this
  exact this
theorem underlying22 : Tryz.prog.underlying 22=some (.slice 24):=by kernel_rfl
theorem info24 : (Tryz.prog.info? 24).map (fun i=>(i.zero,i.size,i.bytes))=some (some (.agg #[.string ⟨#[]⟩,.string ⟨#[]⟩,.slice none 0 0]),3,56):=by kernel_rfl
theorem Blk.grown {w w' : World} {row : Option Nat} {b : Nat} {cs : Array Value} {t : TypeId} (h : Blk w b cs t) (hg : w.grownBy w' row) (hne : some b ≠ row) : Blk w' b cs t:=(hg.block b h.lt hne).trans h
theorem count_two (u : Tree) (h2 : 2 <= u.kids.length) : count u.kids[0] + count u.kids[1] < count u:=by
 obtain ⟨k,x,ks⟩:=u
 match ks,h2 with
 | a :: b :: l,_=>simp only [Tree.kids,count,countAll,List.getElem_cons_zero,List.getElem_cons_succ];omega
theorem whole_step {u : Tree} (hk : (u.kind.toList == [76,105,115,116])=true) (h2 : 2 <= u.kids.length) : whole u=(whole u.kids[1]).map (u.kids[0] :: ·):=by
 obtain ⟨k,x,ks⟩:=u
 simp only [Tree.kind,Tree.kids] at hk h2 ⊢
 rw [whole_mk,if_pos hk]
 match ks,h2 with
 | a :: b :: l,_=>rfl
theorem whole_empty {u : Tree} (hk : (u.kind.toList == [76,105,115,116])=true) (h0 : u.kids.length=0) : whole u=some []:=by
 obtain ⟨k,x,ks⟩:=u
 simp only [Tree.kind,Tree.kids] at hk h0 ⊢
 obtain rfl:=List.eq_nil_of_length_eq_zero h0
 rw [whole_mk,if_pos hk]
theorem whole_none {u : Tree} (hk : (u.kind.toList == [76,105,115,116])=false) : whole u=none:=by
 obtain ⟨k,x,ks⟩:=u
 rw [whole_mk,if_neg]
 intro h
 rw [show (Tree.mk k x ks).kind=k from rfl,h] at hk
 cases hk
theorem whole_calls (t : Tree) (a : Option Addr) (c : Nat) (w : World) (hT : TreeAt w a c t) (hL : tame t=true) (hn : count t <= 1000) :
  Calls Tryz.prog 52 #[treeV t a c] w fun e w'=>(∃ a' c',e=.returned (.tuple #[.slice a' ((whole t).getD []).length c',.bool (whole t).isSome]) /\ ((whole t).getD []).length <= c' /\ KidsAt w' a' ((whole t).getD [])) /\ Ext w w':=by
 obtain ⟨i0,hi,hz0,hz1,hz2⟩:=info_parts info24
 go_enter Tryz.func52,Tryz.ntmps52
 go_wp2_with fail
 have HK:=Lib.hid hL
 have HN:=Lib.hid hn
 clear hL hn
 go_loopg [4] (count t) (fun k v w'=>∃ (u : Tree) (a' : Option Addr) (c' : Nat) (row : List (Tree × Option Addr × Nat)),k=count u /\ count u + row.length <= count t /\ tame u=true /\ whole t=(whole u).map (row.map (·.1) ++ ·) /\ Blk w' w.heap.size #[.string u.kind,.string u.text,.slice a' u.kids.length c'] 24 /\ TreeAt w a' c' u /\ w'.ownsRow (w.heap.size + 1) 24 3 v row.length (rowV row) /\ (∀ x ∈ row,TreeAt w x.2.1 x.2.2 x.1) /\ Ext w w')
 case atStart =>
  exact ⟨t,a,c,[],rfl,by simp,HK.out,by simp,(Blk.new w _ _).ext (Ext.alloc _ _),hT,⟨rfl,.inr ⟨w.heap.size + 1,0,#[],rfl,Nat.le_refl _,by simpa [Blk] using Blk.new (w.alloc (.cells #[.string t.kind,.string t.text,.slice a t.kids.length c] 24)) #[] 24,Nat.le_refl _,by decide,rfl,rfl⟩⟩,by simp,(Ext.alloc _ _).trans (Ext.alloc _ _)⟩
 case round =>
  obtain ⟨u,a',c',row,rfl,hcn,hL,hW,hB,hU,hO,hR,hE⟩:=hrel
  have HW:=Lib.hid hW
  have HC:=Lib.hid hcn
  have hc0 : wr.cell? ⟨w.heap.size,0,none⟩=some (.string u.kind):=by rw [hB.cell];rfl
  have hc1 : wr.cell? ⟨w.heap.size,1,none⟩=some (.string u.text):=by rw [hB.cell];rfl
  have hc2 : wr.cell? ⟨w.heap.size,2,none⟩=some (.slice a' u.kids.length c'):=by rw [hB.cell];rfl
  have hf:=hB.frozen
  have hlt:=hB.lt
  have hz:=hE.size
  clear hW hcn
  obtain ⟨hcc,hl,-⟩:=hU.kids
  cases hk : (u.kind.toList == [76,105,115,116])
  ·have H1:=Lib.hid hk
   go_wp2_with fail
   go_ret2
   rw [HW.out,whole_none H1.out]
   exact ⟨⟨none,0,rfl,Nat.le_refl _,trivial⟩,hE⟩
  ·have H1:=Lib.hid hk
   by_cases h0 : u.kids.length=0
   ·go_wp2_with fail
    go_ret2
    obtain ⟨ra,rc,rfl,hrc,hrk⟩:=kidsAt_of_owns hO (fun x hx=>(hR x hx).mono hE)
    rw [HW.out,whole_empty H1.out h0]
    exact ⟨⟨ra,rc,by simp,by simpa using hrc,by simpa using hrk⟩,hE⟩
   ·have h2 : 2 <= u.kids.length:=by have:=tame_one hL hk;omega
    obtain ⟨b,o,a1,c1,rfl,hbl,p0,p1,p2,ht1⟩:=hU.kid 0 (by omega)
    obtain ⟨b',o',a2,c2,hbo,-,q0,q1,q2,ht2⟩:=hU.kid 1 (by omega)
    obtain ⟨rfl,rfl⟩ : b=b' /\ o=o':=by simpa using hbo
    replace p0:=hE.keep p0
    replace p1:=hE.keep p1
    replace p2:=hE.keep p2
    have hbl:=Nat.lt_of_lt_of_le hbl hE.size
    simp only [Nat.zero_mul,Nat.add_zero] at p0 p1 p2
    go_wp2_with (first
     | (at_builtin;refine wpList_append_own _ rfl _ _ 22 rfl (w.heap.size + 1) 24 i0 _ 3 56 underlying22 hi hz0 hz1 hz2 rfl (by decide) _ _ _ rfl (hO.alloc _) ⟨wr.heap.size,0,none⟩ 1 1 [.string u.kids[0].kind,.string u.kids[0].text,.slice a1 u.kids[0].kids.length c1] rfl rfl ?c1 ?c2 ?c3 ?c4 ?c5 ?_)
     | go_in)
    case c2=>exact ⟨rfl,rfl,rfl⟩
    case c3=>unfold maxLen;have:=HC.out;have:=HN.out;omega
    case c4=>have:=HC.out;have:=HN.out;omega
    all_goals try (have:=hE.size;simp;omega)
    intro v' w2 hO2 hG hnil
    have hown : ∀ k,u4.ownBlock=some k -> w.heap.size + 1 <= k:=fun k hk=>(hO.lt k hk).1
    have HB2:=(hB.ext (Ext.alloc wr _)).grown hG (by intro e;have:=hown _ e.symm;omega)
    have hE2 : Ext w w2:=(hE.trans (Ext.alloc wr _)).grown hG (fun k hk=>by have:=hown k hk;omega)
    clear hnil hc0 hc1 hc2 p0 p1 p2 hlt hz
    replace q0:=hE2.keep q0
    replace q1:=hE2.keep q1
    replace q2:=hE2.keep q2
    have hf2:=HB2.frozen
    have hlt2:=HB2.lt
    have HO2:=Lib.hid hO2
    have HG:=Lib.hid hG
    have HR:=Lib.hid hR
    have HB:=Lib.hid hB
    have HO:=Lib.hid hO
    have HU:=Lib.hid hU
    clear hO2 hG hR hB hO hU hf
    have c0 : w2.cell? ⟨w.heap.size,0,none⟩=some (.string u.kind):=by rw [HB2.cell];rfl
    have c1' : w2.cell? ⟨w.heap.size,1,none⟩=some (.string u.text):=by rw [HB2.cell];rfl
    have c2' : w2.cell? ⟨w.heap.size,2,none⟩=some (.slice (some ⟨b,o,none⟩) u.kids.length c'):=by rw [HB2.cell];rfl
    simp only [Nat.one_mul] at q0 q1 q2
    go_wp2_with fail
    go_roundg (count u.kids[1])
    case measure=>exact count_kid u 1 (by omega)
    case rel =>
     have hcu:=HU.out
     have hck:=count_two u h2
     refine ⟨u.kids[1],a2,c2,row ++ [(u.kids[0],a1,c1)],rfl,?_,tame_kid hL 1 (by omega),?_,?_,ht2,?_,?_,?_⟩
     ·have:=HC.out;simp;omega
     ·rw [HW.out,whole_step H1.out h2];simp [Option.map_map,Function.comp_def]
     ·simpa using ((HB2.set 0 _).set 1 _).set 2 _
     ·rw [rowV_append,List.length_append]
      exact ownsRow_setCell_below (ownsRow_setCell_below (ownsRow_setCell_below HO2.out (by simp) _) (by simp) _) (by simp) _
     ·intro x hx
      rcases List.mem_append.1 hx with hx | hx
      ·exact HR.out x hx
      ·obtain rfl:=List.mem_singleton.1 hx;exact ht1
     ·exact ((hE2.setCell (by simp) _).setCell (by simp) _).setCell (by simp) _
structure Exts (w : World) where
 val : World
 ext : Ext w val
instance exts_nonempty (w : World) : Nonempty (Exts w):=⟨⟨w,Ext.refl w⟩⟩
theorem wp_region_ext {P : Program} {id : Nat} {Q : Exit -> Act -> World -> Prop} {a : Act} {w : World} {l : List Oper} (hm : P.follows .mixedOrders=true) (hB : Region.lexB .any l.toArray=true)
  (h : wpQuiet P l.toArray (fun w'=>∃ e : Exts w,w'=e.val) (fun a'=>∀ e : Exts w,Q .normal a' e.val) l a) : (Code.region id l.toArray true).wp P Q a w:=by
 refine wp_region_quiet (C:=fun w'=>∃ e : Exts w,w'=e.val) hm hB ⟨⟨_,Ext.drew w⟩,rfl⟩ ?_
 have e : (fun a'=>∀ w',(∃ e : Exts w,w'=e.val) -> Q .normal a' w')=(fun a'=>∀ e : Exts w,Q .normal a' e.val):=by
  funext a'
  exact propext ⟨fun h e=>h _ ⟨e,rfl⟩,fun h w' ⟨e,he⟩=>he ▸ h e⟩
 rw [e]
 simpa using h
theorem Calls.ext_of {P : Program} {f : FuncId} {args : Array Value} {w : World} {e : Exts w} {v : Value}
  (h : Calls P f args e.val fun r w'=>r=.returned v /\ Ext e.val w') : Calls P f args e.val fun r w'=>r=.returned v /\ ∃ e2 : Exts w,w'=e2.val :=
 h.mono fun _ _ ⟨he,hx⟩=>⟨he,⟨_,e.ext.trans hx⟩,rfl⟩
theorem Exts.cell {w : World} {p : Addr} {v : Value} (h : w.cell? p=some v) : ∀ e : Exts w,e.val.cell? p=some v:=fun e=>e.ext.keep h
def bit (s m : Int) : Bool:=bits BinOp.and .i64 s m != 0
def gapOf (s : Int) : ByteArray:=if bit s 8 then ⟨#[32,32,10,9]⟩ else ⟨#[32]⟩
mutual
def text (s : Int) : Tree -> ByteArray
 | .mk k x ks =>
  if k.toList == [65,110,121] then (if bit s 1 then ⟨#[40,65,110,121,41]⟩ else ⟨#[95]⟩)
  else if k.toList == [78,105,108] then ⟨#[110,105,108]⟩
  else if k.toList == [83,116,114,105,110,103] then ⟨#[34]⟩ ++ x ++ ⟨#[34]⟩
  else if k.toList == [76,105,115,116] then (match ks with
   | []=>⟨#[91,93]⟩
   | a :: b :: _ =>
    if bit s 4 || (heavy a && (!(whole b).isSome || bit s 2)) then ⟨#[40,76,105,115,116]⟩ ++ gapOf s ++ text s a ++ gapOf s ++ text s b ++ ⟨#[41]⟩
    else if !(whole b).isSome || bit s 2 then text s a ++ ⟨#[58]⟩ ++ text s b
    else ⟨#[91]⟩ ++ (text s a ++ spine s b) ++ ⟨#[93]⟩
   | [_]=>⟨#[]⟩)
  else if k.toList == [66,105,110,100,105,110,103] then (match ks with
   | []=>x
   | a :: _=>x ++ ⟨#[64]⟩ ++ text s a)
  else ⟨#[40]⟩ ++ k ++ textAll s ks ++ ⟨#[41]⟩
def textAll (s : Int) : List Tree -> ByteArray
 | []=>⟨#[]⟩
 | t :: ts=>gapOf s ++ text s t ++ textAll s ts
def spine (s : Int) : Tree -> ByteArray
 | .mk _ _ ks=>(match ks with
  | a :: b :: _=>gapOf s ++ text s a ++ spine s b
  | _=>⟨#[]⟩)
end
theorem text_mk (s : Int) (k x : ByteArray) (ks : List Tree) : text s (.mk k x ks)=(
  if k.toList == [65,110,121] then (if bit s 1 then ⟨#[40,65,110,121,41]⟩ else ⟨#[95]⟩)
  else if k.toList == [78,105,108] then ⟨#[110,105,108]⟩
  else if k.toList == [83,116,114,105,110,103] then ⟨#[34]⟩ ++ x ++ ⟨#[34]⟩
  else if k.toList == [76,105,115,116] then (match ks with
   | []=>⟨#[91,93]⟩
   | a :: b :: _ =>
    if bit s 4 || (heavy a && (!(whole b).isSome || bit s 2)) then ⟨#[40,76,105,115,116]⟩ ++ gapOf s ++ text s a ++ gapOf s ++ text s b ++ ⟨#[41]⟩
    else if !(whole b).isSome || bit s 2 then text s a ++ ⟨#[58]⟩ ++ text s b
    else ⟨#[91]⟩ ++ (text s a ++ spine s b) ++ ⟨#[93]⟩
   | [_]=>⟨#[]⟩)
  else if k.toList == [66,105,110,100,105,110,103] then (match ks with
   | []=>x
   | a :: _=>x ++ ⟨#[64]⟩ ++ text s a)
  else ⟨#[40]⟩ ++ k ++ textAll s ks ++ ⟨#[41]⟩):=by
 conv=>lhs;unfold text
theorem textAll_append (s : Int) (l m : List Tree) : textAll s (l ++ m)=textAll s l ++ textAll s m:=by
 induction l with
 | nil=>simp [textAll];exact (ByteArray.empty_append (b:=textAll s m)).symm
 | cons t l ih=>simp [textAll,ih,ByteArray.append_assoc]
theorem spine_eq (s : Int) (b : Tree) (l : List Tree) (h : whole b=some l) : spine s b=textAll s l:=by
 induction l generalizing b with
 | nil =>
  obtain ⟨k,x,ks⟩:=b
  rw [whole_mk] at h
  split at h
  ·split at h
   ·simp [spine,textAll]
   ·rename_i b' _
    cases hb : whole b' <;> rw [hb] at h <;> simp at h
   ·cases h
  ·cases h
 | cons t l ih =>
  obtain ⟨k,x,ks⟩:=b
  rw [whole_mk] at h
  split at h
  ·split at h
   ·cases h
   ·rename_i a b' _
    cases hb : whole b' with
    | none=>rw [hb] at h;simp at h
    | some l' =>
     rw [hb] at h
     simp at h
     obtain ⟨rfl,rfl⟩:=h
     simp [spine,textAll,ih b' hb]
   ·cases h
  ·cases h
theorem gap_size (s : Int) : (gapOf s).size <= 4:=by unfold gapOf;split <;> decide
theorem app_size (a b : ByteArray) : (a ++ b).size=a.size + b.size:=ByteArray.size_append
theorem tame_parts {k x : ByteArray} {ks : List Tree} (h : tame (.mk k x ks)=true) : k.size <= 40 /\ x.size <= 48 /\ tameAll ks=true:=by
 simp only [tame,Bool.and_eq_true,decide_eq_true_eq] at h;exact ⟨h.1.1.2,h.1.2,h.2⟩
theorem text_size (s : Int) (t : Tree) : tame t=true -> (text s t).size + 4 <= 60 * count t /\ (spine s t).size <= 60 * count t:=by
 refine Tree.rec (motive_1:=fun t=>tame t=true -> (text s t).size + 4 <= 60 * count t /\ (spine s t).size <= 60 * count t) (motive_2:=fun ts=>tameAll ts=true -> (∀ t ∈ ts,tame t=true /\ (text s t).size + 4 <= 60 * count t /\ (spine s t).size <= 60 * count t) /\ (textAll s ts).size <= 60 * countAll ts) ?_ ?_ ?_ t
 ·intro k x ks ih ht
  obtain ⟨hk,hx,ha⟩:=tame_parts ht
  obtain ⟨hm,hall⟩:=ih ha
  have hg:=gap_size s
  have l1 : ∀ (l : Array UInt8),(ByteArray.mk l).size=l.size:=fun _=>rfl
  match ks,hm,hall with
  | [],_,hall =>
   constructor
   ·rw [text_mk]
    have e1 : (textAll s []).size=0:=rfl
    simp only [count,countAll]
    repeat' split
    all_goals simp only [app_size,l1,e1]
    all_goals simp
    all_goals omega
   ·simp [spine,l1]
  | [a],hm,hall =>
   have ha:=(hm a (by simp)).2
   simp only [countAll] at hall
   constructor
   ·rw [text_mk]
    simp only [count,countAll]
    repeat' split
    all_goals simp only [app_size,l1]
    all_goals simp
    all_goals first | done | omega | (rename_i h;cases h;omega)
   ·simp [spine,l1]
  | a :: b :: l,hm,hall =>
   have ha:=(hm a (by simp)).2
   have hb:=(hm b (by simp)).2
   constructor
   ·rw [text_mk]
    simp only [count,countAll] at *
    split
    ·split <;> simp only [l1] <;> simp <;> omega
    split
    ·simp only [l1];simp;omega
    split
    ·simp only [app_size,l1];simp;omega
    split
    ·split
     ·simp only [app_size,l1];simp;omega
     ·split
      ·simp only [app_size,l1];simp;omega
      ·simp only [app_size,l1];simp;omega
    split
    ·simp only [app_size,l1];simp;omega
    ·simp only [app_size,l1];simp;omega
   ·simp only [spine,count,countAll,app_size]
    omega
 ·intro _
  exact ⟨by simp,by simp [textAll,countAll];rfl⟩
 ·intro t ts h1 h2 h3
  simp only [tameAll,Bool.and_eq_true] at h3
  obtain ⟨q1,q2⟩:=h2 h3.2
  refine ⟨fun u hu=>?_,?_⟩
  ·rcases List.mem_cons.1 hu with rfl | hu
   ·exact ⟨h3.1,h1 h3.1⟩
   ·exact q1 u hu
  ·have hg:=gap_size s
   have:=(h1 h3.1).1
   simp only [textAll,app_size,countAll]
   omega
def TextC (s : Int) (t : Tree) : Prop:=tame t=true -> count t <= 1000 -> ∀ (a : Option Addr) (c : Nat) (w : World),TreeAt w a c t -> Calls Tryz.prog 23 #[treeV t a c,.int .i64 s] w fun e w'=>e=.returned (.string (text s t)) /\ Ext w w'
theorem bracketed_of {s : Int} {t : Tree} (h : TextC s t) (hm : tame t=true) (hn : count t <= 1000) (a : Option Addr) (c : Nat) (w : World) (hT : TreeAt w a c t) :
  Calls Tryz.prog 54 #[treeV t a c,.int .i64 s] w fun e w'=>e=.returned (.string (text s t)) /\ Ext w w':=by
 go_enter Tryz.func54,Tryz.ntmps54
 go_wp2_with fail
 refine (h hm hn a c _ (hT.mono (Ext.alloc _ _))).mono ?_
 rintro e w' ⟨rfl,hE⟩
 go_wp2_with fail
 go_ret
 exact ⟨rfl,hE.of_alloc⟩
theorem text_any (s : Int) (x : ByteArray) (ks : List Tree) : TextC s (.mk ⟨#[65,110,121]⟩ x ks):=by
 intro hm hn a c w hT
 have HF:=Lib.hid (show text s (.mk ⟨#[65,110,121]⟩ x ks)=if bit s 1 then ⟨#[40,65,110,121,41]⟩ else ⟨#[95]⟩ by rw [text_mk,toList_mk];rfl)
 simp only [treeV,Tree.kind,Tree.text,Tree.kids]
 go_enter Tryz.func23,Tryz.ntmps23
 cases h1 : (bits BinOp.and IntKind.i64 s 1 != 0)
 all_goals
  have H1:=Lib.hid (show bit s 1=_ from h1)
  cases h8 : (bits BinOp.and IntKind.i64 s 8 != 0)
  all_goals
   go_wp2_with fail
   go_ret
   exact ⟨ret_string (by rw [HF.out,H1.out];rfl),Ext.alloc _ _⟩
theorem text_nil (s : Int) (x : ByteArray) (ks : List Tree) : TextC s (.mk ⟨#[78,105,108]⟩ x ks):=by
 intro hm hn a c w hT
 have HF:=Lib.hid (show text s (.mk ⟨#[78,105,108]⟩ x ks)=⟨#[110,105,108]⟩ by rw [text_mk,toList_mk];rfl)
 simp only [treeV,Tree.kind,Tree.text,Tree.kids]
 go_enter Tryz.func23,Tryz.ntmps23
 cases h8 : (bits BinOp.and IntKind.i64 s 8 != 0)
 all_goals
  go_wp2_with fail
  go_ret
  exact ⟨ret_string (by rw [HF.out]),Ext.alloc _ _⟩
theorem text_string (s : Int) (x : ByteArray) (ks : List Tree) : TextC s (.mk ⟨#[83,116,114,105,110,103]⟩ x ks):=by
 intro hm hn a c w hT
 have HF:=Lib.hid (show text s (.mk ⟨#[83,116,114,105,110,103]⟩ x ks)=⟨#[34]⟩ ++ x ++ ⟨#[34]⟩ by rw [text_mk,toList_mk];rfl)
 have hx:=(tame_sizes hm).2
 simp only [treeV,Tree.kind,Tree.text,Tree.kids] at hx ⊢
 go_enter Tryz.func23,Tryz.ntmps23
 cases h8 : (bits BinOp.and IntKind.i64 s 8 != 0)
 all_goals
  go_wp2_with fail
  go_ret
  exact ⟨ret_string (by rw [HF.out]),Ext.alloc _ _⟩
theorem text_binding (s : Int) (x : ByteArray) (ks : List Tree) (ih : ∀ (j : Nat) (hj : j < ks.length),TextC s ks[j]) : TextC s (.mk ⟨#[66,105,110,100,105,110,103]⟩ x ks):=by
 intro hm hn a c w hT
 have hx:=(tame_sizes hm).2
 match ks,ih,hm,hn,hT with
 | [],_,_,_,_ =>
  have HF:=Lib.hid (show text s (.mk ⟨#[66,105,110,100,105,110,103]⟩ x [])=x by rw [text_mk,toList_mk];rfl)
  simp only [treeV,Tree.kind,Tree.text,Tree.kids] at hx ⊢
  go_enter Tryz.func23,Tryz.ntmps23
  cases h8 : (bits BinOp.and IntKind.i64 s 8 != 0)
  all_goals
   go_wp2_with fail
   go_ret
   exact ⟨ret_string (by rw [HF.out]),Ext.alloc _ _⟩
 | k :: l,ih,hm,hn,hT =>
  have HF:=Lib.hid (show text s (.mk ⟨#[66,105,110,100,105,110,103]⟩ x (k :: l))=x ++ ⟨#[64]⟩ ++ text s k by rw [text_mk,toList_mk];rfl)
  have hk:=tame_kid hm 0 (by simp [Tree.kids])
  have hc:=count_kid (.mk ⟨#[66,105,110,100,105,110,103]⟩ x (k :: l)) 0 (by simp [Tree.kids])
  obtain ⟨b,o,a1,c1,rfl,hbl,p0,p1,p2,ht1⟩:=hT.kid 0 (by simp [Tree.kids])
  simp only [treeV,Tree.kind,Tree.text,Tree.kids,List.getElem_cons_zero,Nat.zero_mul,Nat.add_zero] at hx hk hc p0 p1 p2 ht1 ⊢
  have hz:=(text_size s k hk).1
  replace ih:=ih 0 (by simp) hk (by simpa using (by omega : count k <= 1000))
  simp only [List.getElem_cons_zero] at ih
  have HI:=Lib.hid ih
  have HT:=Lib.hid hT
  clear ih hT hm
  go_enter Tryz.func23,Tryz.ntmps23
  cases h8 : (bits BinOp.and IntKind.i64 s 8 != 0)
  all_goals
   go_wp2_with fail
   have e1 : ∀ e : Exts (w.alloc (.cells #[.string ⟨#[66,105,110,100,105,110,103]⟩,.string x,.slice (some ⟨b,o,none⟩) (l.length + 1) c] 24)),e.val.cell? ⟨w.heap.size,1,none⟩=some (.string x):=Exts.cell (by simp)
   have e2 : ∀ e : Exts (w.alloc (.cells #[.string ⟨#[66,105,110,100,105,110,103]⟩,.string x,.slice (some ⟨b,o,none⟩) (l.length + 1) c] 24)),e.val.cell? ⟨w.heap.size,2,none⟩=some (.slice (some ⟨b,o,none⟩) (l.length + 1) c):=Exts.cell (by simp)
   have f0 : ∀ e : Exts (w.alloc (.cells #[.string ⟨#[66,105,110,100,105,110,103]⟩,.string x,.slice (some ⟨b,o,none⟩) (l.length + 1) c] 24)),e.val.cell? ⟨b,o,none⟩=some (.string k.kind):=Exts.cell ((Ext.alloc _ _).keep p0)
   have f1 : ∀ e : Exts (w.alloc (.cells #[.string ⟨#[66,105,110,100,105,110,103]⟩,.string x,.slice (some ⟨b,o,none⟩) (l.length + 1) c] 24)),e.val.cell? ⟨b,o + 1,none⟩=some (.string k.text):=Exts.cell ((Ext.alloc _ _).keep p1)
   have f2 : ∀ e : Exts (w.alloc (.cells #[.string ⟨#[66,105,110,100,105,110,103]⟩,.string x,.slice (some ⟨b,o,none⟩) (l.length + 1) c] 24)),e.val.cell? ⟨b,o + 2,none⟩=some (.slice a1 k.kids.length c1):=Exts.cell ((Ext.alloc _ _).keep p2)
   refine wp_region_ext (by kernel_rfl) (by kernel_rfl) ?_
   repeat (refine BigFrame.wpQuiet_want rfl (fun K hK=>?_);go_big_quiet_op;first | (refine hK _ ?_;clear hK K) | (refine ⟨_,fun e=>Calls.ext_of (HI.out a1 c1 e.val (ht1.mono ((Ext.alloc _ _).trans e.ext))),hK _ ?_⟩;clear hK K))
   refine wpQuiet_nil ?_
   intro e
   obtain ⟨w1,hE1⟩:=e
   clear e1 e2 f0 f1 f2
   go_wp2_with fail
   go_ret
   exact ⟨ret_string (by rw [HF.out]),hE1.of_alloc⟩
theorem textAll_take (s : Int) (l : List Tree) (j : Nat) (hj : j < l.length) : textAll s (l.take (j + 1))=textAll s (l.take j) ++ (gapOf s ++ text s l[j]):=by
 have e : ∀ b : ByteArray,b ++ (ByteArray.mk #[])=b:=fun b=>ByteArray.append_empty
 rw [List.take_succ_eq_append_getElem hj,textAll_append];simp only [textAll,e]
theorem textAll_bound (s : Int) (l : List Tree) (h : tameAll l=true) : (textAll s l).size <= 60 * countAll l:=by
 induction l with
 | nil=>simp [textAll,countAll];rfl
 | cons t l ih =>
  simp only [tameAll,Bool.and_eq_true] at h
  have:=ih h.2
  have:=(text_size s t h.1).1
  have:=gap_size s
  simp only [textAll,countAll,app_size]
  omega
theorem textAll_take_bound (s : Int) (l : List Tree) (h : tameAll l=true) (j : Nat) : (textAll s (l.take j)).size <= 60 * countAll l:=by
 have:=textAll_bound s l h
 have e : textAll s l=textAll s (l.take j) ++ textAll s (l.drop j):=by rw [<- textAll_append,List.take_append_drop]
 rw [e,app_size] at this
 omega
theorem tameAll_of {t : Tree} (h : tame t=true) : tameAll t.kids=true:=by
 cases t;simp only [tame,Bool.and_eq_true] at h;exact h.2
theorem countAll_of (t : Tree) : countAll t.kids + 1=count t:=by cases t;rfl
def special (k : ByteArray) : Bool:=k.toList == [65,110,121] || k.toList == [78,105,108] || k.toList == [83,116,114,105,110,103] || k.toList == [76,105,115,116] || k.toList == [66,105,110,100,105,110,103]
theorem text_struct (s : Int) (t : Tree) (hsp : special t.kind=false) (ih : ∀ (j : Nat) (hj : j < t.kids.length),TextC s t.kids[j]) : TextC s t:=by
 intro hm hn a c w hT
 have HI:=Lib.hid ih
 have HM:=Lib.hid hm
 have hAll:=tameAll_of hm
 have hcnt:=countAll_of t
 have hb:=textAll_take_bound s t.kids hAll
 have hg:=gap_size s
 obtain ⟨hkz,-⟩:=tame_sizes hm
 obtain ⟨hcc,hl,-⟩:=hT.kids
 simp only [special,Bool.or_eq_false_iff] at hsp
 obtain ⟨⟨⟨⟨h1,h2⟩,h3⟩,h4⟩,h5⟩:=hsp
 have HF:=Lib.hid (show text s t=⟨#[40]⟩ ++ t.kind ++ textAll s t.kids ++ ⟨#[41]⟩ by
  cases t;simp only [Tree.kind] at h1 h2 h3 h4 h5;rw [text_mk,h1,h2,h3,h4,h5];rfl)
 have HA : Hid (∀ j,(textAll s (t.kids.take j)).size <= 60 * countAll t.kids):=Lib.hid hb
 clear ih hm hAll hb
 go_enter Tryz.func23,Tryz.ntmps23
 cases h8 : (bits BinOp.and IntKind.i64 s 8 != 0)
 all_goals
  have HG:=Lib.hid (show gapOf s=_ by rw [gapOf,show bit s 8=_ from h8])
  go_wp2_with fail
  go_loopw [12,152] (fun v i w'=>∃ j : Nat,i=.int .i64 j /\ j <= t.kids.length /\ v=.string (⟨#[40]⟩ ++ t.kind ++ textAll s (t.kids.take j)) /\ Ext (w.alloc (.cells #[.string t.kind,.string t.text,.slice a t.kids.length c] 24)) w') (fun _ i _=>t.kids.length - (intOf i).toNat)
  case atStart=>exact ⟨0,rfl,Nat.zero_le _,by simp [textAll];exact ByteArray.append_empty.symm,Ext.refl _⟩
  case round =>
   obtain ⟨j,rfl,hj,rfl,hE⟩:=hrel
   have hbj:=HA.out j
   by_cases hlt : j < t.kids.length
   ·obtain ⟨b,o,a',c',rfl,hbl,p0,p1,p2,ht⟩:=hT.kid j hlt
    have hE2:=hE.of_alloc
    replace p0:=hE2.keep p0
    replace p1:=hE2.keep p1
    replace p2:=hE2.keep p2
    have hk:=tame_kid HM.out j hlt
    have hck:=count_kid t j hlt
    have hsz:=(text_size s t.kids[j] hk).1
    have hTk:=Lib.hid (textAll_take s t.kids j hlt)
    have hbl:=Nat.lt_of_lt_of_le hbl hE2.size
    go_wp2_with fail
    refine (bracketed_of (HI.out j hlt) hk (by omega) a' c' _ (ht.mono (hE2.trans (Ext.alloc _ _)))).mono ?_
    rintro e w2 ⟨rfl,hE3⟩
    go_wp2_with fail
    exact ⟨⟨j + 1,by go_num,by omega,by rw [hTk.out,HG.out];simp [ByteArray.append_assoc],hE.trans hE3.of_alloc⟩,by simp [intOf];omega⟩
   ·obtain rfl : j=t.kids.length:=by omega
    rw [any_kids_take] at hbj
    go_wp2_with fail
    go_ret
    exact ⟨ret_string (by rw [HF.out]),hE.of_alloc⟩
theorem kids_mk (k x : ByteArray) (ks : List Tree) : (Tree.mk k x ks).kids=ks:=rfl
theorem kind_mk (k x : ByteArray) (ks : List Tree) : (Tree.mk k x ks).kind=k:=rfl
theorem txt_mk (k x : ByteArray) (ks : List Tree) : (Tree.mk k x ks).text=x:=rfl
theorem countAll_len : ∀ l : List Tree,l.length <= countAll l
 | []=>Nat.le_refl _
 | t :: l=>by have:=countAll_len l;have:=count_pos t;simp only [countAll,List.length_cons];omega
def rowT (s : Int) : List Tree -> ByteArray
 | []=>⟨#[]⟩
 | t :: ts=>text s t ++ textAll s ts
theorem rowT_take (s : Int) (l : List Tree) (j : Nat) (hj : j < l.length) : rowT s (l.take (j + 1))=rowT s (l.take j) ++ (if j=0 then text s l[j] else gapOf s ++ text s l[j]):=by
 have e : ∀ b : ByteArray,ByteArray.mk #[] ++ b=b:=fun b=>ByteArray.empty_append
 have e' : ∀ b : ByteArray,b ++ ByteArray.mk #[]=b:=fun b=>ByteArray.append_empty
 match l,hj with
 | t :: l,hj =>
  cases j with
  | zero=>simp [rowT,textAll,e,e']
  | succ j =>
   have:=textAll_take s l j (by simpa using hj)
   simp [rowT,this,ByteArray.append_assoc]
theorem whole_list (t : Tree) : ∀ l,whole t=some l -> tame t=true -> tameAll l=true /\ countAll l < count t /\ ∀ u ∈ l,count u < count t:=by
 induction t using Tree.ind with | h t ih=>?_
 intro l h ht
 cases hk : (t.kind.toList == [76,105,115,116])
 ·rw [whole_none hk] at h;cases h
 ·by_cases h0 : t.kids.length=0
  ·rw [whole_empty hk h0] at h;cases h;exact ⟨rfl,by have:=count_pos t;simp [countAll];omega,by simp⟩
  ·have h2 : 2 <= t.kids.length:=by have:=tame_one ht hk;omega
   rw [whole_step hk h2] at h
   cases hw : whole t.kids[1] with
   | none=>rw [hw] at h;cases h
   | some l' =>
    rw [hw] at h
    simp at h
    subst h
    obtain ⟨q1,q2,q3⟩:=ih 1 (by omega) l' hw (tame_kid ht 1 (by omega))
    have hc:=count_two t h2
    refine ⟨by simp [tameAll,q1,tame_kid ht 0 (by omega)],by simp only [countAll];omega,?_⟩
    intro u hu
    rcases List.mem_cons.1 hu with rfl | hu
    ·omega
    ·have:=q3 u hu;omega
theorem rowT_bound (s : Int) (l : List Tree) (h : tameAll l=true) (j : Nat) : (rowT s (l.take j)).size <= 60 * countAll l:=by
 cases l with
 | nil=>simp [rowT,countAll];rfl
 | cons t l =>
  cases j with
  | zero=>simp [rowT];exact Nat.zero_le _
  | succ j =>
   simp only [tameAll,Bool.and_eq_true] at h
   have:=textAll_take_bound s l h.2 j
   have:=(text_size s t h.1).1
   simp only [List.take_succ_cons,rowT,app_size,countAll]
   omega
theorem text_list (s : Int) (x : ByteArray) (p q : Tree) (l : List Tree) (ih : ∀ u,count u < count (.mk ⟨#[76,105,115,116]⟩ x (p :: q :: l)) -> TextC s u) : TextC s (.mk ⟨#[76,105,115,116]⟩ x (p :: q :: l)):=by
 intro hm hn a c w hT
 have hW:=Lib.hid (show whole (.mk ⟨#[76,105,115,116]⟩ x (p :: q :: l))=(whole q).map (p :: ·) by rw [whole_mk,toList_mk];rfl)
 have HF:=Lib.hid (show text s (.mk ⟨#[76,105,115,116]⟩ x (p :: q :: l))=(if bit s 4 || (heavy p && (!(whole q).isSome || bit s 2)) then ⟨#[40,76,105,115,116]⟩ ++ gapOf s ++ text s p ++ gapOf s ++ text s q ++ ⟨#[41]⟩
    else if !(whole q).isSome || bit s 2 then text s p ++ ⟨#[58]⟩ ++ text s q
    else ⟨#[91]⟩ ++ (text s p ++ spine s q) ++ ⟨#[93]⟩) by rw [text_mk,toList_mk];rfl)
 have hg:=gap_size s
 have hmp:=tame_kid hm 0 (by simp [kids_mk])
 have hmq:=tame_kid hm 1 (by simp [kids_mk])
 have hcp:=count_kid _ 0 (show 0 < (Tree.mk ⟨#[76,105,115,116]⟩ x (p :: q :: l)).kids.length by simp [kids_mk])
 have hcq:=count_kid _ 1 (show 1 < (Tree.mk ⟨#[76,105,115,116]⟩ x (p :: q :: l)).kids.length by simp [kids_mk])
 obtain ⟨b,o,a1,c1,rfl,hbl,p0,p1,p2,ht1⟩:=hT.kid 0 (by simp [kids_mk])
 obtain ⟨b',o',a2,c2,hbo,-,q0,q1,q2,ht2⟩:=hT.kid 1 (by simp [kids_mk])
 obtain ⟨rfl,rfl⟩ : b=b' /\ o=o':=by simpa using hbo
 obtain ⟨hcc,hl,-⟩:=hT.kids
 clear hbo
 have HI:=Lib.hid ih
 have HM:=Lib.hid hm
 have HN:=Lib.hid hn
 have HT:=Lib.hid hT
 simp only [kids_mk,List.getElem_cons_zero,List.getElem_cons_succ,Nat.zero_mul,Nat.one_mul,Nat.add_zero,List.length_cons] at hmp hmq hcp hcq p0 p1 p2 q0 q1 q2 ht1 ht2 hcc
 have hsp:=(text_size s p hmp).1
 have hsq:=(text_size s q hmq).1
 have hwl:=Lib.hid (whole_list (.mk ⟨#[76,105,115,116]⟩ x (p :: q :: l)))
 generalize hD : count (.mk ⟨#[76,105,115,116]⟩ x (p :: q :: l))=D at *
 generalize hE : Tree.mk ⟨#[76,105,115,116]⟩ x (p :: q :: l)=T at *
 simp only [treeV,<- hE,kind_mk,txt_mk,kids_mk,List.length_cons]
 have hwc : ∀ W,Ext w W -> Calls Tryz.prog 52 #[.agg #[.string ⟨#[76,105,115,116]⟩,.string x,.slice (some ⟨b,o,none⟩) (l.length + 1 + 1) c]] W fun e w'=>(∃ a' c',e=.returned (.tuple #[.slice a' ((whole T).getD []).length c',.bool (whole T).isSome]) /\ ((whole T).getD []).length <= c' /\ KidsAt w' a' ((whole T).getD [])) /\ Ext W w':=by
  intro W hW
  have:=whole_calls T _ c W (hT.mono hW) hm (by rw [hD];exact hn)
  rw [<- hE] at this ⊢
  exact this
 have HC:=Lib.hid hwc
 clear hwc ih hm hT
 rw [show (whole T).isSome=(whole q).isSome by rw [hW.out];simp] at HC
 go_enter Tryz.func23,Tryz.ntmps23
 cases h8 : (bits BinOp.and IntKind.i64 s 8 != 0)
 all_goals
  have HG:=Lib.hid (show gapOf s=_ by rw [gapOf,show bit s 8=_ from h8])
  go_wp2_with fail
  have HWh:=Lib.hid hW.out
  refine (HC.out _ (Ext.alloc _ _)).mono ?_
  rintro e w1 ⟨⟨a3,c3,rfl,hc3,hK3⟩,hE1⟩
  have k0 : w1.cell? ⟨w.heap.size,0,none⟩=some (.string ⟨#[76,105,115,116]⟩):=hE1.keep (by simp)
  have k1 : w1.cell? ⟨w.heap.size,1,none⟩=some (.string x):=hE1.keep (by simp)
  have k2 : w1.cell? ⟨w.heap.size,2,none⟩=some (.slice (some ⟨b,o,none⟩) (l.length + 1 + 1) c):=hE1.keep (by simp)
  have hE1':=hE1.of_alloc
  replace p0:=hE1'.keep p0
  replace p1:=hE1'.keep p1
  replace p2:=hE1'.keep p2
  replace q0:=hE1'.keep q0
  replace q1:=hE1'.keep q1
  replace q2:=hE1'.keep q2
  have hbw:=cell_lt p0
  have hww:=cell_lt k0
  simp only at hbw hww
  clear hK3 hc3
  cases h4 : (bits BinOp.and IntKind.i64 s 4 != 0)
  ·have H4:=Lib.hid (show bit s 4=false from h4)
   cases hv : heavy p
   ·have HV:=Lib.hid hv
    cases hok : (whole q).isSome
    ·have HO:=Lib.hid hok
     go_wp2_with fail
     refine (heavy_calls p a1 c1 _).mono ?_
     rintro e w2 ⟨rfl,hE2⟩
     rw [hv]
     have hE2':=hE1'.trans hE2
     replace k0:=hE2.keep k0
     replace k1:=hE2.keep k1
     replace k2:=hE2.keep k2
     replace p0:=hE2.keep p0
     replace p1:=hE2.keep p1
     replace p2:=hE2.keep p2
     replace q0:=hE2.keep q0
     replace q1:=hE2.keep q1
     replace q2:=hE2.keep q2
     have hbw:=cell_lt p0
     have hww:=cell_lt k0
     simp only at hbw hww
     have HX1:=Lib.hid (show (bit s 4 || (heavy p && (!(whole q).isSome || bit s 2)))=false by rw [H4.out,HV.out];rfl)
     have HX:=Lib.hid (show (!(whole q).isSome || bit s 2)=true by rw [HO.out];rfl)
     go_wp2_with fail
     refine (HC.out _ hE2').mono ?_
     rintro e w3 ⟨⟨a4,c4,rfl,hc4,hK4⟩,hE3⟩
     try rw [hok]
     have hE3':=hE2'.trans hE3
     replace k0:=hE3.keep k0
     replace k1:=hE3.keep k1
     replace k2:=hE3.keep k2
     replace p0:=hE3.keep p0
     replace p1:=hE3.keep p1
     replace p2:=hE3.keep p2
     replace q0:=hE3.keep q0
     replace q1:=hE3.keep q1
     replace q2:=hE3.keep q2
     have hbw:=cell_lt p0
     have hww:=cell_lt k0
     simp only at hbw hww
     clear hK4 hc4
     go_wp2_with fail
     have HE:=Lib.hid (show Ext w w3 from hE3')
     generalize w3=W at *
     have g2 : ∀ e : Exts W,e.val.cell? ⟨w.heap.size,2,none⟩=some (.slice (some ⟨b,o,none⟩) (l.length + 1 + 1) c):=Exts.cell k2
     have f0 : ∀ e : Exts W,e.val.cell? ⟨b,o,none⟩=some (.string p.kind):=Exts.cell p0
     have f1 : ∀ e : Exts W,e.val.cell? ⟨b,o + 1,none⟩=some (.string p.text):=Exts.cell p1
     have f2 : ∀ e : Exts W,e.val.cell? ⟨b,o + 2,none⟩=some (.slice a1 p.kids.length c1):=Exts.cell p2
     have f3 : ∀ e : Exts W,e.val.cell? ⟨b,o + 3,none⟩=some (.string q.kind):=Exts.cell q0
     have f4 : ∀ e : Exts W,e.val.cell? ⟨b,o + 3 + 1,none⟩=some (.string q.text):=Exts.cell q1
     have f5 : ∀ e : Exts W,e.val.cell? ⟨b,o + 3 + 2,none⟩=some (.slice a2 q.kids.length c2):=Exts.cell q2
     refine wp_region_ext (by kernel_rfl) (by kernel_rfl) ?_
     repeat (refine BigFrame.wpQuiet_want rfl (fun K hK=>?_);go_big_quiet_op;refine hK _ ?_;clear hK K)
     refine BigFrame.wpQuiet_want rfl (fun K hK=>?_)
     go_big_quiet_op
     refine ⟨_,fun e=>Calls.ext_of (HI.out p hcp hmp (by omega) a1 c1 e.val (ht1.mono (HE.out.trans e.ext))),hK _ ?_⟩
     clear hK K
     repeat (refine BigFrame.wpQuiet_want rfl (fun K hK=>?_);go_big_quiet_op;refine hK _ ?_;clear hK K)
     refine BigFrame.wpQuiet_want rfl (fun K hK=>?_)
     go_big_quiet_op
     refine ⟨_,fun e=>Calls.ext_of (HI.out q hcq hmq (by omega) a2 c2 e.val (ht2.mono (HE.out.trans e.ext))),hK _ ?_⟩
     clear hK K
     repeat (refine BigFrame.wpQuiet_want rfl (fun K hK=>?_);go_big_quiet_op;refine hK _ ?_;clear hK K)
     refine wpQuiet_nil ?_
     intro e
     obtain ⟨w3,hE3⟩:=e
     clear g2 f0 f1 f2 f3 f4 f5
     go_wp2_with fail
     go_ret
     exact ⟨ret_string (by rw [hE,HF.out,HX1.out,if_neg Bool.false_ne_true,HX.out,if_pos rfl]),HE.out.trans hE3⟩
    ·have HO:=Lib.hid hok
     cases h2 : (bits BinOp.and IntKind.i64 s 2 != 0)
     ·have H2:=Lib.hid (show bit s 2=false from h2)
      go_wp2_with fail
      refine (heavy_calls p a1 c1 _).mono ?_
      rintro e w2 ⟨rfl,hE2⟩
      rw [hv]
      have hE2':=hE1'.trans hE2
      replace k0:=hE2.keep k0
      replace k1:=hE2.keep k1
      replace k2:=hE2.keep k2
      replace p0:=hE2.keep p0
      replace p1:=hE2.keep p1
      replace p2:=hE2.keep p2
      replace q0:=hE2.keep q0
      replace q1:=hE2.keep q1
      replace q2:=hE2.keep q2
      have hbw:=cell_lt p0
      have hww:=cell_lt k0
      simp only at hbw hww
      have HX1:=Lib.hid (show (bit s 4 || (heavy p && (!(whole q).isSome || bit s 2)))=false by rw [H4.out,HV.out];rfl)
      have HX:=Lib.hid (show (!(whole q).isSome || bit s 2)=false by rw [HO.out,H2.out];rfl)
      go_wp2_with fail
      refine (HC.out _ hE2').mono ?_
      rintro e w3 ⟨⟨a4,c4,rfl,hc4,hK4⟩,hE3⟩
      try rw [hok]
      have hE3':=hE2'.trans hE3
      replace k0:=hE3.keep k0
      replace k1:=hE3.keep k1
      replace k2:=hE3.keep k2
      replace p0:=hE3.keep p0
      replace p1:=hE3.keep p1
      replace p2:=hE3.keep p2
      replace q0:=hE3.keep q0
      replace q1:=hE3.keep q1
      replace q2:=hE3.keep q2
      have hbw:=cell_lt p0
      have hww:=cell_lt k0
      simp only at hbw hww
      obtain ⟨l',hl'⟩:=Option.isSome_iff_exists.1 hok
      have hL : whole T=some (p :: l'):=by rw [hW.out,hl'];rfl
      have hLd : (whole T).getD []=p :: l':=by rw [hL];rfl
      rw [hLd] at hK4 hc4 ⊢
      obtain ⟨htm,hcL,hcu⟩:=hwl.out _ hL HM.out
      have HSP:=Lib.hid (spine_eq s q l' hl')
      have HR : Hid (∀ j,(rowT s ((p :: l').take j)).size <= 60 * countAll (p :: l')):=Lib.hid (rowT_bound s _ htm)
      have HRL : Hid (rowT s (p :: l')=text s p ++ textAll s l'):=Lib.hid rfl
      have hll:=countAll_len (p :: l')
      generalize p :: l'=L at *
      have HK4:=Lib.hid hK4
      have HTM:=Lib.hid htm
      have HCU:=Lib.hid hcu
      clear hK4 htm hcu hL hLd hl'
      have HE:=Lib.hid (show Ext w w3 from hE3')
      clear hE1' hE2' hE3' hE1 hE2 hE3
      generalize w3=W at *
      go_wp2_with fail
      go_loopw [9,110] (fun v i w'=>∃ j : Nat,i=.int .i64 j /\ j <= L.length /\ v=.string (⟨#[91]⟩ ++ rowT s (L.take j)) /\ Ext W w') (fun _ i _=>L.length - (intOf i).toNat)
      case atStart=>exact ⟨0,rfl,Nat.zero_le _,by simp [rowT];exact ByteArray.append_empty.symm,Ext.refl _⟩
      case round =>
       obtain ⟨j,rfl,hj,rfl,hEj⟩:=hrel
       have hbj:=HR.out j
       by_cases hlt : j < L.length
       ·obtain ⟨lb,lo,a',c',rfl,hbl2,r0,r1,r2,ht⟩:=HK4.out.get j hlt
        replace r0:=hEj.keep r0
        replace r1:=hEj.keep r1
        replace r2:=hEj.keep r2
        have hk:=tameAll_get HTM.out j hlt
        have hck:=HCU.out _ (List.getElem_mem hlt)
        have hsz:=(text_size s L[j] hk).1
        have hTk:=Lib.hid (rowT_take s L j hlt)
        have hbl3:=Nat.lt_of_lt_of_le hbl2 hEj.size
        by_cases h0 : j=0
        ·subst h0
         simp only [Nat.zero_mul,Nat.add_zero] at r0 r1 r2
         have h00 : (rowT s []).size=0:=rfl
         go_wp2_with fail
         refine (bracketed_of (HI.out _ hck) hk (by omega) a' c' _ (ht.mono (hEj.trans (Ext.alloc _ _)))).mono ?_
         rintro e w5 ⟨rfl,hE5⟩
         go_wp2_with fail
         exact ⟨⟨1,by go_num,by omega,by rw [hTk.out,if_pos trivial,List.take_zero];simp [ByteArray.append_assoc],hEj.trans hE5.of_alloc⟩,by simp [intOf];omega⟩
        ·have h0' : 0 < j:=by omega
         go_wp2_with fail
         refine (bracketed_of (HI.out _ hck) hk (by omega) a' c' _ (ht.mono (hEj.trans (Ext.alloc _ _)))).mono ?_
         rintro e w5 ⟨rfl,hE5⟩
         go_wp2_with fail
         exact ⟨⟨j + 1,by go_num,by omega,by rw [hTk.out,if_neg h0,HG.out];simp [ByteArray.append_assoc],hEj.trans hE5.of_alloc⟩,by simp [intOf];omega⟩
       ·obtain rfl : j=L.length:=by omega
        rw [List.take_of_length_le (Nat.le_refl _)] at hbj
        go_wp2_with fail
        go_ret
        exact ⟨ret_string (by rw [hE,HF.out,HX1.out,if_neg Bool.false_ne_true,HX.out,if_neg Bool.false_ne_true,HSP.out,HRL.out]),HE.out.trans hEj⟩
     ·have H2:=Lib.hid (show bit s 2=true from h2)
      go_wp2_with fail
      refine (heavy_calls p a1 c1 _).mono ?_
      rintro e w2 ⟨rfl,hE2⟩
      rw [hv]
      have hE2':=hE1'.trans hE2
      replace k0:=hE2.keep k0
      replace k1:=hE2.keep k1
      replace k2:=hE2.keep k2
      replace p0:=hE2.keep p0
      replace p1:=hE2.keep p1
      replace p2:=hE2.keep p2
      replace q0:=hE2.keep q0
      replace q1:=hE2.keep q1
      replace q2:=hE2.keep q2
      have hbw:=cell_lt p0
      have hww:=cell_lt k0
      simp only at hbw hww
      have HX1:=Lib.hid (show (bit s 4 || (heavy p && (!(whole q).isSome || bit s 2)))=false by rw [H4.out,HV.out];rfl)
      have HX:=Lib.hid (show (!(whole q).isSome || bit s 2)=true by rw [HO.out,H2.out];rfl)
      go_wp2_with fail
      refine (HC.out _ hE2').mono ?_
      rintro e w3 ⟨⟨a4,c4,rfl,hc4,hK4⟩,hE3⟩
      try rw [hok]
      have hE3':=hE2'.trans hE3
      replace k0:=hE3.keep k0
      replace k1:=hE3.keep k1
      replace k2:=hE3.keep k2
      replace p0:=hE3.keep p0
      replace p1:=hE3.keep p1
      replace p2:=hE3.keep p2
      replace q0:=hE3.keep q0
      replace q1:=hE3.keep q1
      replace q2:=hE3.keep q2
      have hbw:=cell_lt p0
      have hww:=cell_lt k0
      simp only at hbw hww
      clear hK4 hc4
      go_wp2_with fail
      have HE:=Lib.hid (show Ext w w3 from hE3')
      generalize w3=W at *
      have g2 : ∀ e : Exts W,e.val.cell? ⟨w.heap.size,2,none⟩=some (.slice (some ⟨b,o,none⟩) (l.length + 1 + 1) c):=Exts.cell k2
      have f0 : ∀ e : Exts W,e.val.cell? ⟨b,o,none⟩=some (.string p.kind):=Exts.cell p0
      have f1 : ∀ e : Exts W,e.val.cell? ⟨b,o + 1,none⟩=some (.string p.text):=Exts.cell p1
      have f2 : ∀ e : Exts W,e.val.cell? ⟨b,o + 2,none⟩=some (.slice a1 p.kids.length c1):=Exts.cell p2
      have f3 : ∀ e : Exts W,e.val.cell? ⟨b,o + 3,none⟩=some (.string q.kind):=Exts.cell q0
      have f4 : ∀ e : Exts W,e.val.cell? ⟨b,o + 3 + 1,none⟩=some (.string q.text):=Exts.cell q1
      have f5 : ∀ e : Exts W,e.val.cell? ⟨b,o + 3 + 2,none⟩=some (.slice a2 q.kids.length c2):=Exts.cell q2
      refine wp_region_ext (by kernel_rfl) (by kernel_rfl) ?_
      repeat (refine BigFrame.wpQuiet_want rfl (fun K hK=>?_);go_big_quiet_op;refine hK _ ?_;clear hK K)
      refine BigFrame.wpQuiet_want rfl (fun K hK=>?_)
      go_big_quiet_op
      refine ⟨_,fun e=>Calls.ext_of (HI.out p hcp hmp (by omega) a1 c1 e.val (ht1.mono (HE.out.trans e.ext))),hK _ ?_⟩
      clear hK K
      repeat (refine BigFrame.wpQuiet_want rfl (fun K hK=>?_);go_big_quiet_op;refine hK _ ?_;clear hK K)
      refine BigFrame.wpQuiet_want rfl (fun K hK=>?_)
      go_big_quiet_op
      refine ⟨_,fun e=>Calls.ext_of (HI.out q hcq hmq (by omega) a2 c2 e.val (ht2.mono (HE.out.trans e.ext))),hK _ ?_⟩
      clear hK K
      repeat (refine BigFrame.wpQuiet_want rfl (fun K hK=>?_);go_big_quiet_op;refine hK _ ?_;clear hK K)
      refine wpQuiet_nil ?_
      intro e
      obtain ⟨w3,hE3⟩:=e
      clear g2 f0 f1 f2 f3 f4 f5
      go_wp2_with fail
      go_ret
      exact ⟨ret_string (by rw [hE,HF.out,HX1.out,if_neg Bool.false_ne_true,HX.out,if_pos rfl]),HE.out.trans hE3⟩
   ·have HV:=Lib.hid hv
    cases hok : (whole q).isSome
    ·have HO:=Lib.hid hok
     go_wp2_with fail
     refine (heavy_calls p a1 c1 _).mono ?_
     rintro e w2 ⟨rfl,hE2⟩
     rw [hv]
     have hE2':=hE1'.trans hE2
     replace k0:=hE2.keep k0
     replace k1:=hE2.keep k1
     replace k2:=hE2.keep k2
     replace p0:=hE2.keep p0
     replace p1:=hE2.keep p1
     replace p2:=hE2.keep p2
     replace q0:=hE2.keep q0
     replace q1:=hE2.keep q1
     replace q2:=hE2.keep q2
     have hbw:=cell_lt p0
     have hww:=cell_lt k0
     simp only at hbw hww
     have HX:=Lib.hid (show (bit s 4 || (heavy p && (!(whole q).isSome || bit s 2)))=true by rw [H4.out,HV.out,HO.out];rfl)
     go_wp2_with fail
     have HE:=Lib.hid (show Ext w w2 from hE2')
     generalize w2=W at *
     have g2 : ∀ e : Exts W,e.val.cell? ⟨w.heap.size,2,none⟩=some (.slice (some ⟨b,o,none⟩) (l.length + 1 + 1) c):=Exts.cell k2
     have f0 : ∀ e : Exts W,e.val.cell? ⟨b,o,none⟩=some (.string p.kind):=Exts.cell p0
     have f1 : ∀ e : Exts W,e.val.cell? ⟨b,o + 1,none⟩=some (.string p.text):=Exts.cell p1
     have f2 : ∀ e : Exts W,e.val.cell? ⟨b,o + 2,none⟩=some (.slice a1 p.kids.length c1):=Exts.cell p2
     have f3 : ∀ e : Exts W,e.val.cell? ⟨b,o + 3,none⟩=some (.string q.kind):=Exts.cell q0
     have f4 : ∀ e : Exts W,e.val.cell? ⟨b,o + 3 + 1,none⟩=some (.string q.text):=Exts.cell q1
     have f5 : ∀ e : Exts W,e.val.cell? ⟨b,o + 3 + 2,none⟩=some (.slice a2 q.kids.length c2):=Exts.cell q2
     refine wp_region_ext (by kernel_rfl) (by kernel_rfl) ?_
     repeat (refine BigFrame.wpQuiet_want rfl (fun K hK=>?_);go_big_quiet_op;refine hK _ ?_;clear hK K)
     refine BigFrame.wpQuiet_want rfl (fun K hK=>?_)
     go_big_quiet_op
     refine ⟨_,fun e=>Calls.ext_of (HI.out p hcp hmp (by omega) a1 c1 e.val (ht1.mono (HE.out.trans e.ext))),hK _ ?_⟩
     clear hK K
     repeat (refine BigFrame.wpQuiet_want rfl (fun K hK=>?_);go_big_quiet_op;refine hK _ ?_;clear hK K)
     refine BigFrame.wpQuiet_want rfl (fun K hK=>?_)
     go_big_quiet_op
     refine ⟨_,fun e=>Calls.ext_of (HI.out q hcq hmq (by omega) a2 c2 e.val (ht2.mono (HE.out.trans e.ext))),hK _ ?_⟩
     clear hK K
     repeat (refine BigFrame.wpQuiet_want rfl (fun K hK=>?_);go_big_quiet_op;refine hK _ ?_;clear hK K)
     refine wpQuiet_nil ?_
     intro e
     obtain ⟨w3,hE3⟩:=e
     clear g2 f0 f1 f2 f3 f4 f5
     go_wp2_with fail
     go_ret
     exact ⟨ret_string (by rw [hE,HF.out,HX.out,if_pos rfl,HG.out];simp [ByteArray.append_assoc]),HE.out.trans hE3⟩
    ·have HO:=Lib.hid hok
     cases h2 : (bits BinOp.and IntKind.i64 s 2 != 0)
     ·have H2:=Lib.hid (show bit s 2=false from h2)
      go_wp2_with fail
      refine (heavy_calls p a1 c1 _).mono ?_
      rintro e w2 ⟨rfl,hE2⟩
      rw [hv]
      have hE2':=hE1'.trans hE2
      replace k0:=hE2.keep k0
      replace k1:=hE2.keep k1
      replace k2:=hE2.keep k2
      replace p0:=hE2.keep p0
      replace p1:=hE2.keep p1
      replace p2:=hE2.keep p2
      replace q0:=hE2.keep q0
      replace q1:=hE2.keep q1
      replace q2:=hE2.keep q2
      have hbw:=cell_lt p0
      have hww:=cell_lt k0
      simp only at hbw hww
      have HX1:=Lib.hid (show (bit s 4 || (heavy p && (!(whole q).isSome || bit s 2)))=false by rw [H4.out,HV.out,HO.out,H2.out];rfl)
      have HX:=Lib.hid (show (!(whole q).isSome || bit s 2)=false by rw [HO.out,H2.out];rfl)
      go_wp2_with fail
      refine (HC.out _ hE2').mono ?_
      rintro e w3 ⟨⟨a4,c4,rfl,hc4,hK4⟩,hE3⟩
      try rw [hok]
      have hE3':=hE2'.trans hE3
      replace k0:=hE3.keep k0
      replace k1:=hE3.keep k1
      replace k2:=hE3.keep k2
      replace p0:=hE3.keep p0
      replace p1:=hE3.keep p1
      replace p2:=hE3.keep p2
      replace q0:=hE3.keep q0
      replace q1:=hE3.keep q1
      replace q2:=hE3.keep q2
      have hbw:=cell_lt p0
      have hww:=cell_lt k0
      simp only at hbw hww
      obtain ⟨l',hl'⟩:=Option.isSome_iff_exists.1 hok
      have hL : whole T=some (p :: l'):=by rw [hW.out,hl'];rfl
      have hLd : (whole T).getD []=p :: l':=by rw [hL];rfl
      rw [hLd] at hK4 hc4 ⊢
      obtain ⟨htm,hcL,hcu⟩:=hwl.out _ hL HM.out
      have HSP:=Lib.hid (spine_eq s q l' hl')
      have HR : Hid (∀ j,(rowT s ((p :: l').take j)).size <= 60 * countAll (p :: l')):=Lib.hid (rowT_bound s _ htm)
      have HRL : Hid (rowT s (p :: l')=text s p ++ textAll s l'):=Lib.hid rfl
      have hll:=countAll_len (p :: l')
      generalize p :: l'=L at *
      have HK4:=Lib.hid hK4
      have HTM:=Lib.hid htm
      have HCU:=Lib.hid hcu
      clear hK4 htm hcu hL hLd hl'
      have HE:=Lib.hid (show Ext w w3 from hE3')
      clear hE1' hE2' hE3' hE1 hE2 hE3
      generalize w3=W at *
      go_wp2_with fail
      go_loopw [9,110] (fun v i w'=>∃ j : Nat,i=.int .i64 j /\ j <= L.length /\ v=.string (⟨#[91]⟩ ++ rowT s (L.take j)) /\ Ext W w') (fun _ i _=>L.length - (intOf i).toNat)
      case atStart=>exact ⟨0,rfl,Nat.zero_le _,by simp [rowT];exact ByteArray.append_empty.symm,Ext.refl _⟩
      case round =>
       obtain ⟨j,rfl,hj,rfl,hEj⟩:=hrel
       have hbj:=HR.out j
       by_cases hlt : j < L.length
       ·obtain ⟨lb,lo,a',c',rfl,hbl2,r0,r1,r2,ht⟩:=HK4.out.get j hlt
        replace r0:=hEj.keep r0
        replace r1:=hEj.keep r1
        replace r2:=hEj.keep r2
        have hk:=tameAll_get HTM.out j hlt
        have hck:=HCU.out _ (List.getElem_mem hlt)
        have hsz:=(text_size s L[j] hk).1
        have hTk:=Lib.hid (rowT_take s L j hlt)
        have hbl3:=Nat.lt_of_lt_of_le hbl2 hEj.size
        by_cases h0 : j=0
        ·subst h0
         simp only [Nat.zero_mul,Nat.add_zero] at r0 r1 r2
         have h00 : (rowT s []).size=0:=rfl
         go_wp2_with fail
         refine (bracketed_of (HI.out _ hck) hk (by omega) a' c' _ (ht.mono (hEj.trans (Ext.alloc _ _)))).mono ?_
         rintro e w5 ⟨rfl,hE5⟩
         go_wp2_with fail
         exact ⟨⟨1,by go_num,by omega,by rw [hTk.out,if_pos trivial,List.take_zero];simp [ByteArray.append_assoc],hEj.trans hE5.of_alloc⟩,by simp [intOf];omega⟩
        ·have h0' : 0 < j:=by omega
         go_wp2_with fail
         refine (bracketed_of (HI.out _ hck) hk (by omega) a' c' _ (ht.mono (hEj.trans (Ext.alloc _ _)))).mono ?_
         rintro e w5 ⟨rfl,hE5⟩
         go_wp2_with fail
         exact ⟨⟨j + 1,by go_num,by omega,by rw [hTk.out,if_neg h0,HG.out];simp [ByteArray.append_assoc],hEj.trans hE5.of_alloc⟩,by simp [intOf];omega⟩
       ·obtain rfl : j=L.length:=by omega
        rw [List.take_of_length_le (Nat.le_refl _)] at hbj
        go_wp2_with fail
        go_ret
        exact ⟨ret_string (by rw [hE,HF.out,HX1.out,if_neg Bool.false_ne_true,HX.out,if_neg Bool.false_ne_true,HSP.out,HRL.out]),HE.out.trans hEj⟩
     ·have H2:=Lib.hid (show bit s 2=true from h2)
      go_wp2_with fail
      refine (heavy_calls p a1 c1 _).mono ?_
      rintro e w2 ⟨rfl,hE2⟩
      rw [hv]
      have hE2':=hE1'.trans hE2
      replace k0:=hE2.keep k0
      replace k1:=hE2.keep k1
      replace k2:=hE2.keep k2
      replace p0:=hE2.keep p0
      replace p1:=hE2.keep p1
      replace p2:=hE2.keep p2
      replace q0:=hE2.keep q0
      replace q1:=hE2.keep q1
      replace q2:=hE2.keep q2
      have hbw:=cell_lt p0
      have hww:=cell_lt k0
      simp only at hbw hww
      have HX:=Lib.hid (show (bit s 4 || (heavy p && (!(whole q).isSome || bit s 2)))=true by rw [H4.out,HV.out,HO.out,H2.out];rfl)
      go_wp2_with fail
      have HE:=Lib.hid (show Ext w w2 from hE2')
      generalize w2=W at *
      have g2 : ∀ e : Exts W,e.val.cell? ⟨w.heap.size,2,none⟩=some (.slice (some ⟨b,o,none⟩) (l.length + 1 + 1) c):=Exts.cell k2
      have f0 : ∀ e : Exts W,e.val.cell? ⟨b,o,none⟩=some (.string p.kind):=Exts.cell p0
      have f1 : ∀ e : Exts W,e.val.cell? ⟨b,o + 1,none⟩=some (.string p.text):=Exts.cell p1
      have f2 : ∀ e : Exts W,e.val.cell? ⟨b,o + 2,none⟩=some (.slice a1 p.kids.length c1):=Exts.cell p2
      have f3 : ∀ e : Exts W,e.val.cell? ⟨b,o + 3,none⟩=some (.string q.kind):=Exts.cell q0
      have f4 : ∀ e : Exts W,e.val.cell? ⟨b,o + 3 + 1,none⟩=some (.string q.text):=Exts.cell q1
      have f5 : ∀ e : Exts W,e.val.cell? ⟨b,o + 3 + 2,none⟩=some (.slice a2 q.kids.length c2):=Exts.cell q2
      refine wp_region_ext (by kernel_rfl) (by kernel_rfl) ?_
      repeat (refine BigFrame.wpQuiet_want rfl (fun K hK=>?_);go_big_quiet_op;refine hK _ ?_;clear hK K)
      refine BigFrame.wpQuiet_want rfl (fun K hK=>?_)
      go_big_quiet_op
      refine ⟨_,fun e=>Calls.ext_of (HI.out p hcp hmp (by omega) a1 c1 e.val (ht1.mono (HE.out.trans e.ext))),hK _ ?_⟩
      clear hK K
      repeat (refine BigFrame.wpQuiet_want rfl (fun K hK=>?_);go_big_quiet_op;refine hK _ ?_;clear hK K)
      refine BigFrame.wpQuiet_want rfl (fun K hK=>?_)
      go_big_quiet_op
      refine ⟨_,fun e=>Calls.ext_of (HI.out q hcq hmq (by omega) a2 c2 e.val (ht2.mono (HE.out.trans e.ext))),hK _ ?_⟩
      clear hK K
      repeat (refine BigFrame.wpQuiet_want rfl (fun K hK=>?_);go_big_quiet_op;refine hK _ ?_;clear hK K)
      refine wpQuiet_nil ?_
      intro e
      obtain ⟨w3,hE3⟩:=e
      clear g2 f0 f1 f2 f3 f4 f5
      go_wp2_with fail
      go_ret
      exact ⟨ret_string (by rw [hE,HF.out,HX.out,if_pos rfl,HG.out];simp [ByteArray.append_assoc]),HE.out.trans hE3⟩
  ·have H4:=Lib.hid (show bit s 4=true from h4)
   have HX:=Lib.hid (show (bit s 4 || (heavy p && (!(whole q).isSome || bit s 2)))=true by rw [H4.out];rfl)
   go_wp2_with fail
   have HE:=Lib.hid (show Ext w w1 from hE1')
   generalize w1=W at *
   have g2 : ∀ e : Exts W,e.val.cell? ⟨w.heap.size,2,none⟩=some (.slice (some ⟨b,o,none⟩) (l.length + 1 + 1) c):=Exts.cell k2
   have f0 : ∀ e : Exts W,e.val.cell? ⟨b,o,none⟩=some (.string p.kind):=Exts.cell p0
   have f1 : ∀ e : Exts W,e.val.cell? ⟨b,o + 1,none⟩=some (.string p.text):=Exts.cell p1
   have f2 : ∀ e : Exts W,e.val.cell? ⟨b,o + 2,none⟩=some (.slice a1 p.kids.length c1):=Exts.cell p2
   have f3 : ∀ e : Exts W,e.val.cell? ⟨b,o + 3,none⟩=some (.string q.kind):=Exts.cell q0
   have f4 : ∀ e : Exts W,e.val.cell? ⟨b,o + 3 + 1,none⟩=some (.string q.text):=Exts.cell q1
   have f5 : ∀ e : Exts W,e.val.cell? ⟨b,o + 3 + 2,none⟩=some (.slice a2 q.kids.length c2):=Exts.cell q2
   refine wp_region_ext (by kernel_rfl) (by kernel_rfl) ?_
   repeat (refine BigFrame.wpQuiet_want rfl (fun K hK=>?_);go_big_quiet_op;refine hK _ ?_;clear hK K)
   refine BigFrame.wpQuiet_want rfl (fun K hK=>?_)
   go_big_quiet_op
   refine ⟨_,fun e=>Calls.ext_of (HI.out p hcp hmp (by omega) a1 c1 e.val (ht1.mono (HE.out.trans e.ext))),hK _ ?_⟩
   clear hK K
   repeat (refine BigFrame.wpQuiet_want rfl (fun K hK=>?_);go_big_quiet_op;refine hK _ ?_;clear hK K)
   refine BigFrame.wpQuiet_want rfl (fun K hK=>?_)
   go_big_quiet_op
   refine ⟨_,fun e=>Calls.ext_of (HI.out q hcq hmq (by omega) a2 c2 e.val (ht2.mono (HE.out.trans e.ext))),hK _ ?_⟩
   clear hK K
   repeat (refine BigFrame.wpQuiet_want rfl (fun K hK=>?_);go_big_quiet_op;refine hK _ ?_;clear hK K)
   refine wpQuiet_nil ?_
   intro e
   obtain ⟨w3,hE3⟩:=e
   clear g2 f0 f1 f2 f3 f4 f5
   go_wp2_with fail
   go_ret
   exact ⟨ret_string (by rw [hE,HF.out,HX.out,if_pos rfl,HG.out];simp [ByteArray.append_assoc]),HE.out.trans hE3⟩
theorem text_list0 (s : Int) (x : ByteArray) : TextC s (.mk ⟨#[76,105,115,116]⟩ x []):=by
 intro hm hn a c w hT
 have HF:=Lib.hid (show text s (.mk ⟨#[76,105,115,116]⟩ x [])=⟨#[91,93]⟩ by rw [text_mk,toList_mk];rfl)
 simp only [treeV,kind_mk,txt_mk,kids_mk]
 go_enter Tryz.func23,Tryz.ntmps23
 cases h8 : (bits BinOp.and IntKind.i64 s 8 != 0)
 all_goals
  go_wp2_with fail
  go_ret
  exact ⟨ret_string (by rw [HF.out]),Ext.alloc _ _⟩
theorem text_all (s : Int) : ∀ (n : Nat) (t : Tree),count t < n -> TextC s t
 | 0,t,h=>absurd h (Nat.not_lt_zero _)
 | n + 1,.mk k x ks,h=>by
  have ih : ∀ (j : Nat) (hj : j < ks.length),TextC s ks[j]:=fun j hj=>text_all s n _ (by have:=count_kid (.mk k x ks) j hj;simp only [kids_mk] at this;omega)
  cases h1 : (k.toList == [65,110,121])
  ·cases h2 : (k.toList == [78,105,108])
   ·cases h3 : (k.toList == [83,116,114,105,110,103])
    ·cases h4 : (k.toList == [76,105,115,116])
     ·cases h5 : (k.toList == [66,105,110,100,105,110,103])
      ·exact text_struct s _ (by simp only [special,kind_mk,h1,h2,h3,h4,h5];rfl) ih
      ·obtain rfl:=beq_lit h5
       exact text_binding s x ks ih
     ·obtain rfl:=beq_lit h4
      match ks,h with
      | [],_=>exact text_list0 s x
      | [u],_=>intro hm;exact absurd rfl (tame_one hm (by rw [kind_mk,toList_mk];rfl))
      | p :: q :: l,h=>exact text_list s x p q l (fun u hu=>text_all s n u (by omega))
    ·obtain rfl:=beq_lit h3
     exact text_string s x ks
   ·obtain rfl:=beq_lit h2
    exact text_nil s x ks
  ·obtain rfl:=beq_lit h1
   exact text_any s x ks
theorem text_calls (t : Tree) (s : Int) (hm : tame t=true) (hn : count t <= 1000) (a : Option Addr) (c : Nat) (w : World) (hT : TreeAt w a c t) :
  Calls Tryz.prog 23 #[treeV t a c,.int .i64 s] w fun e w'=>e=.returned (.string (text s t)) /\ Ext w w':=text_all s _ t (Nat.lt_succ_self _) hm hn a c w hT
end Go.Proofs.YtigalkobmfbdaaaGreatDoor
