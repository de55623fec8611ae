/- The parser's state in memory, and its small functions. -/
import Derived.Test.YtigalkobmfbdaaaGreatDoorLex2Z2
import Derived.Maps.OwnSet
import Derived.Carry
set_option linter.unusedVariables false
set_option linter.unusedSimpArgs false
set_option maxRecDepth 100000
set_option maxHeartbeats 1000000
namespace Go.Proofs.YtigalkobmfbdaaaGreatDoor
open Go.RowKit
abbrev itemV (i : Item) : Value:=.agg #[.int .i64 i.typ,.string i.val,.int .i64 i.pos]
def PBlk (w : World) (pb : Nat) (al fl : Bool) (cur : Item) (ia : Option Addr) (n ic : Nat) (mp : Option Nat) : Prop :=
 Blk w pb #[.bool al,.int .i64 cur.typ,.string cur.val,.int .i64 cur.pos,.pointer (if fl then some ⟨pb,1,none⟩ else none),.slice ia n ic,.map mp] 120
def ItemsIn (w : World) (pb hi : Nat) (ia : Option Addr) (its : List Item) : Prop:=ItemsAt w ia its /\ ∀ b o,ia=some ⟨b,o,none⟩ -> its ≠ [] -> b ≠ pb /\ b < hi
def PAt (w : World) (pb hi : Nat) (al fl : Bool) (cur : Item) (S : List Item) (mp : Option Nat) : Prop :=
 ∃ (its : List Item) (ia : Option Addr) (ic : Nat),PBlk w pb al fl cur ia its.length ic mp /\ its.length <= ic /\ (its.length <= 100000 /\ Fit (cur :: its)) /\ ItemsIn w pb hi ia its /\ hi <= w.heap.size /\ S=(if fl then [cur] else []) ++ its
theorem ItemsAt.head {w : World} {a : Option Addr} {x : Item} {l : List Item} (h : ItemsAt w a (x :: l)) : ∃ b o,a=some ⟨b,o,none⟩ /\ w.cell? ⟨b,o,none⟩=some (.int .i64 x.typ) /\ w.cell? ⟨b,o + 1,none⟩=some (.string x.val) /\ w.cell? ⟨b,o + 2,none⟩=some (.int .i64 x.pos) /\ ItemsAt w (some ⟨b,o + 3,none⟩) l:=by
 rcases h with h | ⟨b,o,ha,h⟩
 ·cases h
 ·obtain ⟨h1,h2,h3⟩:=h 0 (by simp)
  refine ⟨b,o,ha,by simpa using h1,by simpa using h2,by simpa using h3,.inr ⟨b,o + 3,rfl,fun j hj=>?_⟩⟩
  have:=h (j + 1) (by simpa using hj)
  rw [show o + (j + 1) * 3=o + 3 + j * 3 by omega] at this
  simpa using this
theorem ItemsAt.extM {M : Nat -> Prop} {w w' : World} {a : Option Addr} {l : List Item} (h : ItemsAt w a l) (hE : ExtM M w w') (hM : ∀ b o,a=some ⟨b,o,none⟩ -> l ≠ [] -> ¬ M b) : ItemsAt w' a l:=by
 rcases h with h | ⟨b,o,ha,h⟩
 ·exact .inl h
 ·by_cases hl : l=[]
  ·exact .inl hl
  ·have hb:=hM b o ha hl
   exact .inr ⟨b,o,ha,fun j hj=>⟨hE.keep hb (h j hj).1,hE.keep hb (h j hj).2.1,hE.keep hb (h j hj).2.2⟩⟩
theorem ItemsIn.extM {M : Nat -> Prop} {w w' : World} {pb hi : Nat} {a : Option Addr} {l : List Item} (h : ItemsIn w pb hi a l) (hE : ExtM M w w') (hM : ∀ b,M b -> b=pb) : ItemsIn w' pb hi a l :=
 ⟨h.1.extM hE (fun b o ha hl hb=>(h.2 b o ha hl).1 (hM b hb)),h.2⟩
theorem results_ct {P : Program} {fn : Func} {p u : Tmp} {ty : TypeId} (h : fn.results=#[.cell p ty,.tmp u]) (tmps : Array Value) (w : World) (g : Nat) (t : TypeId) (cs : Array Value)
  (hp : tmps.getD p undef=.pointer (some ⟨g,0,none⟩)) (hg : Blk w g cs t)
  (hu : (P.underlying ty).map (fun d=>match d with | .struct _ | .array _ _=>true | _=>false)=some true) (hi : (P.info? ty).map (·.size)=some cs.size) :
  (results fn tmps).run P w=.ok (.tuple #[.agg cs,tmps.getD u undef]) w:=by
 obtain ⟨d,hd,hd'⟩:=Option.map_eq_some_iff.1 hu
 have hp' : tmps[p]?.getD undef=.pointer (some ⟨g,0,none⟩):=by simpa using hp
 simp [results,h,hp',asAddr,run_loadVar_row w g t ty cs (0,0) d hg hd (by cases d <;> first | rfl | cases hd') hi]
theorem results_c {P : Program} {fn : Func} {p : Tmp} {ty : TypeId} (h : fn.results=#[.cell p ty]) (tmps : Array Value) (w : World) (g : Nat) (t : TypeId) (cs : Array Value)
  (hp : tmps.getD p undef=.pointer (some ⟨g,0,none⟩)) (hg : Blk w g cs t)
  (hu : (P.underlying ty).map (fun d=>match d with | .struct _ | .array _ _=>true | _=>false)=some true) (hi : (P.info? ty).map (·.size)=some cs.size) :
  (results fn tmps).run P w=.ok (.agg cs) w:=by
 obtain ⟨d,hd,hd'⟩:=Option.map_eq_some_iff.1 hu
 exact results_cell_row h tmps w g t cs (0,0) d hp hg hd (by cases d <;> first | rfl | cases hd') hi
theorem row115 : (Tryz.prog.underlying 115).map (fun d=>match d with | .struct _ | .array _ _=>true | _=>false)=some true:=by kernel_rfl
theorem size115 : (Tryz.prog.info? 115).map (·.size)=some 3:=by kernel_rfl
theorem nextItem_calls {w : World} {pb hi : Nat} {al fl : Bool} {cur x : Item} {ia : Option Addr} {its : List Item} {ic : Nat} {mp : Option Nat} (h : PBlk w pb al fl cur ia (its.length + 1) ic mp) (hc : its.length + 1 <= ic) (hl : its.length <= 100000) (hI : ItemsIn w pb hi ia (x :: its)) :
  Calls Tryz.prog 88 #[.pointer (some ⟨pb,0,none⟩)] w fun e w'=>e=.returned (.tuple #[itemV x,.bool true]) /\ ExtM (·=pb) w w' /\ ∃ ia' ic',PBlk w' pb al fl cur ia' its.length ic' mp /\ its.length <= ic' /\ ∀ W,ItemsIn W pb hi ia (x :: its) -> ItemsIn W pb hi ia' its:=by
 obtain ⟨b,o,rfl,c0,c1,c2,hrest⟩:=hI.1.head
 obtain ⟨hbp,hbh⟩:=hI.2 b o rfl (by simp)
 have p5 : w.cell? ⟨pb,5,none⟩=some (.slice (some ⟨b,o,none⟩) (its.length + 1) ic):=by rw [h.cell];rfl
 have hf:=h.frozen
 have hlt:=h.lt
 have hbl:=cell_lt c0
 have H:=Lib.hid h
 have HI:=Lib.hid hI
 have HR:=Lib.hid hrest
 clear h hI hrest
 simp only at hbl
 go_enter Tryz.func88,Tryz.ntmps88
 go_wp2_with fail
 ·refine bodyPost_ret (results_ct rfl _ _ w.heap.size 115 #[.int .i64 x.typ,.string x.val,.int .i64 x.pos] rfl ?_ row115 size115) rfl ?_
  ·have:=(Blk.new (w.setCell ⟨pb,5,none⟩ (.slice (some ⟨b,o,none⟩) its.length 0)) #[.int .i64 x.typ,.string x.val,.int .i64 x.pos] 115).ext (Ext.alloc _ (.cells #[.int .i64 x.typ,.string x.val,.int .i64 x.pos] 115))
   simpa using this
  obtain rfl : its=[]:=List.eq_nil_of_length_eq_zero (by omega)
  refine ⟨rfl,(((ExtM.refl _ w).set1 5 _).ext (Ext.alloc _ _)).ext (Ext.alloc _ _),some ⟨b,o,none⟩,0,?_,Nat.zero_le _,fun W _=>⟨.inl rfl,fun _ _ _ h=>absurd rfl h⟩⟩
  exact ((H.out.set 5 _).ext (Ext.alloc _ _)).ext (Ext.alloc _ _)
 ·refine bodyPost_ret (results_ct rfl _ _ w.heap.size 115 #[.int .i64 x.typ,.string x.val,.int .i64 x.pos] rfl ?_ row115 size115) rfl ?_
  ·have:=(Blk.new (w.setCell ⟨pb,5,none⟩ (.slice (some ⟨b,o + 3,none⟩) its.length (ic - 1))) #[.int .i64 x.typ,.string x.val,.int .i64 x.pos] 115).ext (Ext.alloc _ (.cells #[.int .i64 x.typ,.string x.val,.int .i64 x.pos] 115))
   simpa using this
  have hX:=(((ExtM.refl (·=pb) w).set1 5 (.slice (some ⟨b,o + 3,none⟩) its.length (ic - 1))).ext (Ext.alloc _ (.cells #[.int .i64 x.typ,.string x.val,.int .i64 x.pos] 115))).ext (Ext.alloc _ (.cells #[.int .i64 x.typ,.string x.val,.int .i64 x.pos] 115))
  refine ⟨rfl,hX,some ⟨b,o + 3,none⟩,ic - 1,((H.out.set 5 _).ext (Ext.alloc _ _)).ext (Ext.alloc _ _),by omega,fun W hW=>?_⟩
  obtain ⟨b',o',e,-,-,-,hr⟩:=hW.1.head
  obtain ⟨rfl,rfl⟩ : b=b' /\ o=o':=by simpa using e
  refine ⟨hr,fun b' o' e _=>?_⟩
  rw [<- show b=b' from congrArg Addr.block (Option.some.inj e)]
  exact ⟨hbp,hbh⟩
theorem PAt.lt {w : World} {pb hi : Nat} {al fl : Bool} {cur : Item} {S : List Item} {mp : Option Nat} (h : PAt w pb hi al fl cur S mp) : pb < w.heap.size /\ hi <= w.heap.size:=by
 obtain ⟨its,ia,ic,hB,h1,h2,h3,h4,rfl⟩:=h;exact ⟨hB.lt,h4⟩
theorem PAt.extM {M : Nat -> Prop} {w w' : World} {pb hi : Nat} {al fl : Bool} {cur : Item} {S : List Item} {mp : Option Nat} (h : PAt w pb hi al fl cur S mp) (hE : ExtM M w w') (hp : ¬ M pb) (hM : ∀ b,b < hi -> ¬ M b) : PAt w' pb hi al fl cur S mp:=by
 obtain ⟨its,ia,ic,hB,h1,h2,h3,h4,rfl⟩:=h
 exact ⟨its,ia,ic,hB.extM hE hp,h1,h2,⟨h3.1.extM hE (fun b o ha hl=>hM b (h3.2 b o ha hl).2),h3.2⟩,Nat.le_trans h4 hE.size,rfl⟩
theorem PAt.ext {w w' : World} {pb hi : Nat} {al fl : Bool} {cur : Item} {S : List Item} {mp : Option Nat} (h : PAt w pb hi al fl cur S mp) (hE : Ext w w') : PAt w' pb hi al fl cur S mp :=
 h.extM (hE.toM fun _=>False) (fun h=>h) (fun _ _ h=>h)
theorem rewind_calls {w : World} {pb hi : Nat} {al fl : Bool} {cur : Item} {S : List Item} {mp : Option Nat} (h : PAt w pb hi al fl cur S mp) :
  Calls Tryz.prog 112 #[.pointer (some ⟨pb,0,none⟩)] w fun e w'=>e=.returned (.tuple #[]) /\ ExtM (·=pb) w w' /\ PAt w' pb hi al true cur (if fl then S else cur :: S) mp:=by
 obtain ⟨its,ia,ic,hB,h1,h2,h3,h4,rfl⟩:=h
 have hf:=hB.frozen
 have hlt:=hB.lt
 have hX:=(ExtM.refl (·=pb) w).set1 4 (.pointer (some ⟨pb,1,none⟩))
 have HG:=Lib.hid (show PAt (w.setCell ⟨pb,4,none⟩ (.pointer (some ⟨pb,1,none⟩))) pb hi al true cur (if fl then (if fl then [cur] else []) ++ its else cur :: ((if fl then [cur] else []) ++ its)) mp from
  ⟨its,ia,ic,hB.set 4 _,h1,h2,h3.extM hX (fun _ h=>h),Nat.le_trans h4 hX.size,by cases fl <;> rfl⟩)
 have HX:=Lib.hid hX
 cases fl
 ·have p4 : w.cell? ⟨pb,4,none⟩=some (.pointer none):=by rw [hB.cell];rfl
  clear hB h3 hX
  go_enter Tryz.func112,Tryz.ntmps112
  go_wp2_with fail
  go_end0
  exact ⟨rfl,HX.out,HG.out⟩
 ·have p4 : w.cell? ⟨pb,4,none⟩=some (.pointer (some ⟨pb,1,none⟩)):=by rw [hB.cell];rfl
  clear hB h3 hX
  go_enter Tryz.func112,Tryz.ntmps112
  go_wp2_with fail
  go_end0
  exact ⟨rfl,HX.out,HG.out⟩
theorem ExtM.setNew {M : Nat -> Prop} {a b : World} (h : ExtM M a b) {g : Nat} (hg : a.heap.size <= g) (o : Nat) (u : Value) : ExtM M a (b.setCell ⟨g,o,none⟩ u):=h.setCell (.inr hg) u
theorem next_true {w : World} {pb hi : Nat} {al : Bool} {cur : Item} {S : List Item} {mp : Option Nat} (h : PAt w pb hi al true cur S mp) :
  Calls Tryz.prog 138 #[.pointer (some ⟨pb,0,none⟩)] w fun e w'=>∃ S',S=cur :: S' /\ e=.returned (itemV cur) /\ ExtM (·=pb) w w' /\ PAt w' pb hi al false cur S' mp:=by
 obtain ⟨its,ia,ic,hB,h1,h2,h3,h4,rfl⟩:=h
 have hf:=hB.frozen
 have hlt:=hB.lt
 have p1 : w.cell? ⟨pb,1,none⟩=some (.int .i64 cur.typ):=by rw [hB.cell];rfl
 have p2 : w.cell? ⟨pb,2,none⟩=some (.string cur.val):=by rw [hB.cell];rfl
 have p3 : w.cell? ⟨pb,3,none⟩=some (.int .i64 cur.pos):=by rw [hB.cell];rfl
 have p4 : w.cell? ⟨pb,4,none⟩=some (.pointer (some ⟨pb,1,none⟩)):=by rw [hB.cell];rfl
 have HB:=Lib.hid hB
 have H3:=Lib.hid h3
 clear hB h3
 go_enter Tryz.func138,Tryz.ntmps138
 go_wp2_with fail
 refine bodyPost_ret (results_c rfl _ _ w.heap.size 115 #[.int .i64 cur.typ,.string cur.val,.int .i64 cur.pos] rfl ?_ row115 size115) rfl ?_
 ·have:=(Blk.new (w.setCell ⟨pb,4,none⟩ (.pointer none)) #[.int .i64 cur.typ,.string cur.val,.int .i64 cur.pos] 115).ext (Ext.alloc _ (.cells #[.int .i64 cur.typ,.string cur.val,.int .i64 cur.pos] 115))
  simpa using this
 have hX:=(((ExtM.refl (·=pb) w).set1 4 (.pointer none)).ext (Ext.alloc _ (.cells #[.int .i64 cur.typ,.string cur.val,.int .i64 cur.pos] 115))).ext (Ext.alloc _ (.cells #[.int .i64 cur.typ,.string cur.val,.int .i64 cur.pos] 115))
 exact ⟨rfl,hX,its,ia,ic,((HB.out.set 4 _).ext (Ext.alloc _ _)).ext (Ext.alloc _ _),h1,h2,H3.out.extM hX (fun _ h=>h),Nat.le_trans h4 hX.size,rfl⟩
theorem next_false {w : World} {pb hi : Nat} {al : Bool} {cur x : Item} {S : List Item} {mp : Option Nat} (h : PAt w pb hi al false cur (x :: S) mp) :
  Calls Tryz.prog 138 #[.pointer (some ⟨pb,0,none⟩)] w fun e w'=>e=.returned (itemV x) /\ ExtM (·=pb) w w' /\ PAt w' pb hi al false x S mp:=by
 obtain ⟨its,ia,ic,hB,h1,h2,h3,h4,he⟩:=h
 obtain rfl : its=x :: S:=by simpa using he.symm
 have hf:=hB.frozen
 have hlt:=hB.lt
 have p4 : w.cell? ⟨pb,4,none⟩=some (.pointer none):=by rw [hB.cell];rfl
 have HB:=Lib.hid hB
 have H3:=Lib.hid h3
 clear hB h3 he
 go_enter Tryz.func138,Tryz.ntmps138
 go_wp2_with fail
 have hEa:=Ext.alloc w (.cells #[.int .i64 0,.string ⟨#[]⟩,.int .i64 0] 115)
 refine (nextItem_calls (x:=x) (its:=S) (Blk.ext HB.out hEa) (by simpa using h1) (by have:=h2.1;simp at this;omega) (H3.out.extM (hEa.toM (·=pb)) (fun _ h=>h))).mono ?_
 rintro e w1 ⟨rfl,hX,ia',ic',hB',hc',hI'⟩
 have hR:=(Blk.new w #[.int .i64 0,.string ⟨#[]⟩,.int .i64 0] 115).extM hX (by omega)
 have hX2:=hEa.extM hX
 have f1:=hB'.frozen
 have l1:=hB'.lt
 have f2:=hR.frozen
 have l2:=hR.lt
 have hne : w.heap.size ≠ pb:=by omega
 have d0 : w1.cell? ⟨w.heap.size,0,none⟩=some (.int .i64 0):=by rw [hR.cell];rfl
 have d1 : w1.cell? ⟨w.heap.size,1,none⟩=some (.string ⟨#[]⟩):=by rw [hR.cell];rfl
 have d2 : w1.cell? ⟨w.heap.size,2,none⟩=some (.int .i64 0):=by rw [hR.cell];rfl
 have p1 : w1.cell? ⟨pb,1,none⟩=some (.int .i64 cur.typ):=by rw [hB'.cell];rfl
 have p2 : w1.cell? ⟨pb,2,none⟩=some (.string cur.val):=by rw [hB'.cell];rfl
 have p3 : w1.cell? ⟨pb,3,none⟩=some (.int .i64 cur.pos):=by rw [hB'.cell];rfl
 have HB':=Lib.hid hB'
 have HI':=Lib.hid hI'
 have HR:=Lib.hid hR
 have HX:=Lib.hid hX2
 clear hB' hI' hR hX hX2 hf hlt p4
 go_wp2_with fail
 refine bodyPost_ret (results_c rfl _ _ w.heap.size 115 #[.int .i64 x.typ,.string x.val,.int .i64 x.pos] rfl ?_ row115 size115) rfl ?_
 ·exact ((((((HR.out.set_other hne.symm _).set_other hne.symm _).set_other hne.symm _).set 0 _).set 1 _).set 2 _)
 have hX:=(((((HX.out.set1 1 (.int .i64 x.typ)).set1 2 (.string x.val)).set1 3 (.int .i64 x.pos)).setNew (Nat.le_refl w.heap.size) 0 (.int .i64 x.typ)).setNew (Nat.le_refl w.heap.size) 1 (.string x.val)).setNew (Nat.le_refl w.heap.size) 2 (.int .i64 x.pos)
 exact ⟨rfl,hX,S,ia',ic',(((Blk.set (Blk.set (Blk.set HB'.out 1 _) 2 _) 3 _).set_other hne _).set_other hne _).set_other hne _,hc',⟨by have:=h2.1;simp at this;omega,fun i hi=>h2.2 i (List.mem_cons_of_mem _ hi)⟩,(HI'.out w H3.out).extM hX (fun _ h=>h),Nat.le_trans h4 hX.size,rfl⟩
theorem next_calls {w : World} {pb hi : Nat} {al fl : Bool} {cur x : Item} {S : List Item} {mp : Option Nat} (h : PAt w pb hi al fl cur (x :: S) mp) :
  Calls Tryz.prog 138 #[.pointer (some ⟨pb,0,none⟩)] w fun e w'=>e=.returned (itemV x) /\ ExtM (·=pb) w w' /\ PAt w' pb hi al false x S mp:=by
 cases fl
 ·exact next_false h
 ·refine (next_true h).mono ?_
  rintro e w' ⟨S',hS,he,hX,hP⟩
  obtain ⟨rfl,rfl⟩:=List.cons.inj hS
  exact ⟨he,hX,hP⟩
theorem peek_calls {w : World} {pb hi : Nat} {al fl : Bool} {cur x : Item} {S : List Item} {mp : Option Nat} (h : PAt w pb hi al fl cur (x :: S) mp) :
  Calls Tryz.prog 139 #[.pointer (some ⟨pb,0,none⟩)] w fun e w'=>e=.returned (itemV x) /\ ExtM (·=pb) w w' /\ PAt w' pb hi al true x (x :: S) mp:=by
 obtain ⟨hlp,hhi⟩:=h.lt
 have H:=Lib.hid h
 clear h
 have hEa:=Ext.alloc w (.cells #[.int .i64 0,.string ⟨#[]⟩,.int .i64 0] 115)
 have HP:=Lib.hid (H.out.ext hEa)
 go_enter Tryz.func139,Tryz.ntmps139
 go_wp2_with fail
 refine (next_calls HP.out).mono ?_
 rintro e w1 ⟨rfl,hX,hP⟩
 have hR:=(Blk.new w #[.int .i64 0,.string ⟨#[]⟩,.int .i64 0] 115).extM hX (by omega)
 have hX2:=Lib.hid (hEa.extM hX)
 have hP1:=Lib.hid hP
 have HR:=Lib.hid hR
 have HXs:=hX.size
 clear hX hP hR
 go_wp2_with fail
 refine (rewind_calls (hP1.out.ext (Ext.alloc w1 (.cells #[.int .i64 x.typ,.string x.val,.int .i64 x.pos] 115)))).mono ?_
 rintro e w2 ⟨rfl,hX3,hP3⟩
 have hL:=(Blk.new w1 #[.int .i64 x.typ,.string x.val,.int .i64 x.pos] 115).extM hX3 (by have:=hX2.out.size;omega)
 have hR2:=(HR.out.ext (Ext.alloc w1 (.cells #[.int .i64 x.typ,.string x.val,.int .i64 x.pos] 115))).extM hX3 (by omega)
 have a0 : w2.cell? ⟨w1.heap.size,0,none⟩=some (.int .i64 x.typ):=by rw [hL.cell];rfl
 have a1 : w2.cell? ⟨w1.heap.size,1,none⟩=some (.string x.val):=by rw [hL.cell];rfl
 have a2 : w2.cell? ⟨w1.heap.size,2,none⟩=some (.int .i64 x.pos):=by rw [hL.cell];rfl
 have f2:=hR2.frozen
 have l2:=hR2.lt
 have d0 : w2.cell? ⟨w.heap.size,0,none⟩=some (.int .i64 0):=by rw [hR2.cell];rfl
 have d1 : w2.cell? ⟨w.heap.size,1,none⟩=some (.string ⟨#[]⟩):=by rw [hR2.cell];rfl
 have d2 : w2.cell? ⟨w.heap.size,2,none⟩=some (.int .i64 0):=by rw [hR2.cell];rfl
 have HR2:=Lib.hid hR2
 have HXX:=Lib.hid ((hX2.out.ext (Ext.alloc w1 (.cells #[.int .i64 x.typ,.string x.val,.int .i64 x.pos] 115))).trans' hX3)
 have HP3:=Lib.hid hP3
 have hl1:=hL.lt
 clear hR2 hX3 hP3 hL
 go_wp2_with fail
 refine bodyPost_ret (results_c rfl _ _ w.heap.size 115 #[.int .i64 x.typ,.string x.val,.int .i64 x.pos] rfl ?_ row115 size115) rfl ?_
 ·exact ((HR2.out.set 0 _).set 1 _).set 2 _
 have hX4 : ExtM (·=w.heap.size) w2 (((w2.setCell ⟨w.heap.size,0,none⟩ (.int .i64 x.typ)).setCell ⟨w.heap.size,1,none⟩ (.string x.val)).setCell ⟨w.heap.size,2,none⟩ (.int .i64 x.pos)):=(((ExtM.refl (·=w.heap.size) w2).set1 0 _).set1 1 _).set1 2 _
 refine ⟨rfl,HXX.out.trans hX4 (fun i hi e=>by omega),?_⟩
 exact HP3.out.extM hX4 (by omega) (fun b hb e=>by omega)
theorem accept_yes {w : World} {pb hi : Nat} {al fl : Bool} {cur x : Item} {S : List Item} {mp : Option Nat} (t : Int) (h : PAt w pb hi al fl cur (x :: S) mp) (ht : x.typ=t) :
  Calls Tryz.prog 110 #[.pointer (some ⟨pb,0,none⟩),.int .i64 t] w fun e w'=>e=.returned (.tuple #[itemV x,.bool true]) /\ ExtM (·=pb) w w' /\ PAt w' pb hi al false x S mp:=by
 subst ht
 obtain ⟨hlp,hhi⟩:=h.lt
 have H:=Lib.hid h
 clear h
 have hEa:=Ext.alloc w (.cells #[.int .i64 0,.string ⟨#[]⟩,.int .i64 0] 115)
 have HP:=Lib.hid (H.out.ext hEa)
 go_enter Tryz.func110,Tryz.ntmps110
 go_wp2_with fail
 refine (next_calls HP.out).mono ?_
 rintro e w1 ⟨rfl,hX,hP⟩
 have hR:=(Blk.new w #[.int .i64 0,.string ⟨#[]⟩,.int .i64 0] 115).extM hX (by omega)
 have hX2:=Lib.hid (hEa.extM hX)
 have hP1:=Lib.hid hP
 have HR:=Lib.hid hR
 have HXs:=hX.size
 have f2:=hR.frozen
 have l2:=hR.lt
 have d0 : w1.cell? ⟨w.heap.size,0,none⟩=some (.int .i64 0):=by rw [hR.cell];rfl
 have d1 : w1.cell? ⟨w.heap.size,1,none⟩=some (.string ⟨#[]⟩):=by rw [hR.cell];rfl
 have d2 : w1.cell? ⟨w.heap.size,2,none⟩=some (.int .i64 0):=by rw [hR.cell];rfl
 clear hX hP hR
 go_wp2_with fail
 refine bodyPost_ret (results_ct rfl _ _ w.heap.size 115 #[.int .i64 x.typ,.string x.val,.int .i64 x.pos] rfl ?_ row115 size115) rfl ?_
 ·exact (((HR.out.set 0 _).set 1 _).set 2 _).ext (Ext.alloc _ _)
 have hX4 : ExtM (·=w.heap.size) w1 (((w1.setCell ⟨w.heap.size,0,none⟩ (.int .i64 x.typ)).setCell ⟨w.heap.size,1,none⟩ (.string x.val)).setCell ⟨w.heap.size,2,none⟩ (.int .i64 x.pos)):=(((ExtM.refl (·=w.heap.size) w1).set1 0 _).set1 1 _).set1 2 _
 have hX5:=hX4.ext (Ext.alloc _ (.cells #[.int .i64 x.typ,.string x.val,.int .i64 x.pos] 115))
 exact ⟨rfl,hX2.out.trans hX5 (fun i hi e=>by omega),hP1.out.extM hX5 (by omega) (fun b hb e=>by omega)⟩
theorem accept_no {w : World} {pb hi : Nat} {al fl : Bool} {cur x : Item} {S : List Item} {mp : Option Nat} (t : Int) (h : PAt w pb hi al fl cur (x :: S) mp) (ht : x.typ ≠ t) :
  Calls Tryz.prog 110 #[.pointer (some ⟨pb,0,none⟩),.int .i64 t] w fun e w'=>e=.returned (.tuple #[itemV ⟨0,⟨#[]⟩,0⟩,.bool false]) /\ ExtM (·=pb) w w' /\ PAt w' pb hi al true x (x :: S) mp:=by
 obtain ⟨hlp,hhi⟩:=h.lt
 have H:=Lib.hid h
 clear h
 have hEa:=Ext.alloc w (.cells #[.int .i64 0,.string ⟨#[]⟩,.int .i64 0] 115)
 have HP:=Lib.hid (H.out.ext hEa)
 go_enter Tryz.func110,Tryz.ntmps110
 go_wp2_with fail
 refine (next_calls HP.out).mono ?_
 rintro e w1 ⟨rfl,hX,hP⟩
 have hR:=(Blk.new w #[.int .i64 0,.string ⟨#[]⟩,.int .i64 0] 115).extM hX (by omega)
 have hX2:=Lib.hid (hEa.extM hX)
 have hP1:=Lib.hid hP
 have HR:=Lib.hid hR
 have HXs:=hX.size
 clear hX hP hR
 go_wp2_with fail
 refine (rewind_calls (hP1.out.ext (Ext.alloc w1 (.cells #[.int .i64 x.typ,.string x.val,.int .i64 x.pos] 115)))).mono ?_
 rintro e w2 ⟨rfl,hX3,hP3⟩
 have hL:=(Blk.new w1 #[.int .i64 x.typ,.string x.val,.int .i64 x.pos] 115).extM hX3 (by have:=hX2.out.size;omega)
 have hR2:=(HR.out.ext (Ext.alloc w1 (.cells #[.int .i64 x.typ,.string x.val,.int .i64 x.pos] 115))).extM hX3 (by omega)
 have a0 : w2.cell? ⟨w1.heap.size,0,none⟩=some (.int .i64 x.typ):=by rw [hL.cell];rfl
 have a1 : w2.cell? ⟨w1.heap.size,1,none⟩=some (.string x.val):=by rw [hL.cell];rfl
 have a2 : w2.cell? ⟨w1.heap.size,2,none⟩=some (.int .i64 x.pos):=by rw [hL.cell];rfl
 have f2:=hR2.frozen
 have l2:=hR2.lt
 have d0 : w2.cell? ⟨w.heap.size,0,none⟩=some (.int .i64 0):=by rw [hR2.cell];rfl
 have d1 : w2.cell? ⟨w.heap.size,1,none⟩=some (.string ⟨#[]⟩):=by rw [hR2.cell];rfl
 have d2 : w2.cell? ⟨w.heap.size,2,none⟩=some (.int .i64 0):=by rw [hR2.cell];rfl
 have HR2:=Lib.hid hR2
 have HXX:=Lib.hid ((hX2.out.ext (Ext.alloc w1 (.cells #[.int .i64 x.typ,.string x.val,.int .i64 x.pos] 115))).trans' hX3)
 have HP3:=Lib.hid hP3
 have hl1:=hL.lt
 clear hR2 hX3 hP3 hL
 go_wp2_with fail
 refine bodyPost_ret (results_ct rfl _ _ w.heap.size 115 #[.int .i64 0,.string ⟨#[]⟩,.int .i64 0] rfl ?_ row115 size115) rfl ?_
 ·exact ((HR2.out.set 0 _).set 1 _).set 2 _
 have hX4 : ExtM (·=w.heap.size) w2 (((w2.setCell ⟨w.heap.size,0,none⟩ (.int .i64 0)).setCell ⟨w.heap.size,1,none⟩ (.string ⟨#[]⟩)).setCell ⟨w.heap.size,2,none⟩ (.int .i64 0)):=(((ExtM.refl (·=w.heap.size) w2).set1 0 _).set1 1 _).set1 2 _
 exact ⟨rfl,HXX.out.trans hX4 (fun i hi e=>by omega),HP3.out.extM hX4 (by omega) (fun b hb e=>by omega)⟩
theorem errnew_calls (s : ByteArray) (w : World) : Calls Tryz.prog 89 #[.string s] w fun e w'=>(∃ p,e=.returned (.iface 184 (.pointer p))) /\ Ext w w':=by
 go_enter Tryz.func89,Tryz.ntmps89
 go_wp2_with fail
 go_ret
 exact ⟨⟨_,rfl⟩,Ext.alloc _ _⟩
theorem unexpected_calls {w : World} {pb hi : Nat} {al fl : Bool} {cur : Item} {S : List Item} {mp : Option Nat} (h : PAt w pb hi al fl cur S mp) (s : ByteArray) (hs : s.size <= 100) :
  Calls Tryz.prog 111 #[.pointer (some ⟨pb,0,none⟩),.string s] w fun e w'=>(∃ p,e=.returned (.iface 184 (.pointer p))) /\ Ext w w':=by
 obtain ⟨its,ia,ic,hB,h1,⟨h2,hF⟩,h3,h4,rfl⟩:=h
 have hf:=hB.frozen
 have hlt:=hB.lt
 have hz : cur.val.size <= 100000:=hF cur (List.mem_cons_self ..)
 have p1 : w.cell? ⟨pb,1,none⟩=some (.int .i64 cur.typ):=by rw [hB.cell];rfl
 have p2 : w.cell? ⟨pb,2,none⟩=some (.string cur.val):=by rw [hB.cell];rfl
 clear hB h3
 cases ht : (cur.typ == 0)
 ·go_enter Tryz.func111,Tryz.ntmps111
  go_wp2_with fail
  refine (errnew_calls _ _).mono ?_
  rintro e w' ⟨⟨p,rfl⟩,hE⟩
  go_wp2_with fail
  go_ret
  exact ⟨⟨_,rfl⟩,hE⟩
 ·go_enter Tryz.func111,Tryz.ntmps111
  go_wp2_with fail
  refine (errnew_calls _ _).mono ?_
  rintro e w' ⟨⟨p,rfl⟩,hE⟩
  go_wp2_with fail
  go_ret
  exact ⟨⟨_,rfl⟩,hE⟩
end Go.Proofs.YtigalkobmfbdaaaGreatDoor
set_option maxRecDepth 100000
set_option maxHeartbeats 1000000
namespace Go.Proofs.YtigalkobmfbdaaaGreatDoor
open Go.RowKit Go.WideMaps
theorem law9 : Maps.Keyed Tryz.prog 9:=Maps.string_keyed underlying9
theorem underlying118 : Tryz.prog.underlying 118=some (.map 9 3):=by kernel_rfl
theorem underlying3 : Tryz.prog.underlying 3=some (.int .i64):=by kernel_rfl
theorem zero3 (w : World) : (zeroValue 3).run Tryz.prog w=.ok (.int .i64 0) w:=by kernel_rfl
abbrev keyL (s : List UInt8) : Lit:=.string s
theorem keyL_ne {s t : List UInt8} (h : s ≠ t) : keyL s ≠ keyL t:=fun e=>h (Lit.string.inj e)
def NamesD (D : DataW Unit) (names : List (List UInt8)) : Prop :=
 Maps.size D=names.length /\ (∀ s,Maps.has D (keyL s)=decide (s ∈ names)) /\ (∀ s,s ∈ names -> D.atKey (keyL s) (.lit (.int .i64 0))=.lit (.int .i64 (names.idxOf s)))
theorem NamesD.nil : NamesD (.map []) []:=⟨rfl,fun s=>rfl,fun s h=>absurd h (by simp)⟩
theorem NamesD.snoc {D : DataW Unit} {names : List (List UInt8)} (h : NamesD D names) (hT : Maps.Tidy D) {s : List UInt8} (hs : s ∉ names) : NamesD (D.put (keyL s) (.lit (.int .i64 names.length))) (names ++ [s]):=by
 obtain ⟨h1,h2,h3⟩:=h
 have hh : Maps.has D (keyL s)=false:=by rw [h2];simpa using hs
 refine ⟨?_,fun t=>?_,fun t ht=>?_⟩
 ·rw [Maps.size_put hT,hh];simp [h1]
 ·by_cases e : t=s
  ·subst e;rw [Maps.has_put_same hT.isMap (k:=keyL t) trivial];simp
  ·rw [Maps.has_put_other (keyL_ne e),h2];simp [e]
 ·by_cases e : t=s
  ·subst e
   rw [Maps.atKey_put_same hT.isMap (k:=keyL t) trivial,List.idxOf_append,if_neg hs];simp
  ·have ht' : t ∈ names:=by simpa [e] using ht
   rw [Maps.atKey_put_other (keyL_ne e),h3 t ht',List.idxOf_append,if_pos ht']
theorem ExtM.of_grown {mb : Nat} {w w' : World} (h : w.grownBy w' (some mb)) : ExtM (·=mb) w w' :=
 ⟨h.os,h.tape,h.output,h.size,fun k hk hm=>h.block k hk (fun e=>hm (Option.some.inj e))⟩
def addName (names : List (List UInt8)) (s : List UInt8) : List (List UInt8):=if s ∈ names then names else names ++ [s]
def MapIs (w : World) : Option Nat -> List (List UInt8) -> Prop
 | none,names=>names=[]
 | some mb,names=>∃ D : DataW Unit,w.ownsMap Tryz.prog 9 (plainElem Tryz.prog 3) mb names.length D /\ NamesD D names
theorem ownsMap_extM {M : Nat -> Prop} {w w' : World} {mb n : Nat} {D : DataW Unit} (h : w.ownsMap Tryz.prog 9 (plainElem Tryz.prog 3) mb n D) (hE : ExtM M w w') (hM : ¬ M mb) : w'.ownsMap Tryz.prog 9 (plainElem Tryz.prog 3) mb n D:=by
 have hlt:=h.lt
 obtain ⟨es,clock,hb,r⟩:=h
 exact ⟨es,clock,(hE.block mb hlt hM).trans hb,r⟩
theorem MapIs.extM {M : Nat -> Prop} {w w' : World} {mp : Option Nat} {names : List (List UInt8)} (h : MapIs w mp names) (hE : ExtM M w w') (hM : ∀ mb,mp=some mb -> ¬ M mb) : MapIs w' mp names:=by
 cases mp with
 | none=>exact h
 | some mb=>obtain ⟨D,h1,h2⟩:=h;exact ⟨D,ownsMap_extM h1 hE (hM mb rfl),h2⟩
theorem ownsMap_not_cells {w : World} {mb n b : Nat} {D : DataW Unit} (h : w.ownsMap Tryz.prog 9 (plainElem Tryz.prog 3) mb n D) {o : Nat} {v : Value} (hc : w.cell? ⟨b,o,none⟩=some v) : mb ≠ b:=by
 rintro rfl
 obtain ⟨es,clock,hb,r⟩:=h
 simp [World.cell?,hb] at hc
theorem PAt.cell {w : World} {pb hi : Nat} {al fl : Bool} {cur : Item} {S : List Item} {mp : Option Nat} (h : PAt w pb hi al fl cur S mp) : w.cell? ⟨pb,0,none⟩=some (.bool al) /\ w.cell? ⟨pb,6,none⟩=some (.map mp) /\ (∀ o,w.frozen? ⟨pb,o,none⟩=false):=by
 obtain ⟨its,ia,ic,hB,-⟩:=h
 exact ⟨by rw [hB.cell];rfl,by rw [hB.cell];rfl,hB.frozen⟩
theorem PAt.setMap {w : World} {pb hi : Nat} {al fl : Bool} {cur : Item} {S : List Item} {mp : Option Nat} (h : PAt w pb hi al fl cur S mp) (mp' : Option Nat) : PAt (w.setCell ⟨pb,6,none⟩ (.map mp')) pb hi al fl cur S mp':=by
 obtain ⟨its,ia,ic,hB,h1,h2,h3,h4,rfl⟩:=h
 have hX:=(ExtM.refl (·=pb) w).set1 6 (.map mp')
 exact ⟨its,ia,ic,hB.set 6 _,h1,h2,h3.extM hX (fun _ h=>h),Nat.le_trans h4 hX.size,rfl⟩
abbrev PM (pb : Nat) (mp : Option Nat) : Nat -> Prop:=fun k=>k=pb \/ some k=mp
theorem map_some (mb : Nat) (w : World) : (binOp BinOp.eql 118 (.map (some mb)) (.map none)).run Tryz.prog w=.ok (.bool false) w:=by kernel_rfl
theorem map_none (w : World) : (binOp BinOp.eql 118 (.map none) (.map none)).run Tryz.prog w=.ok (.bool true) w:=by kernel_rfl
theorem index_there {w : World} {pb hi : Nat} {al fl : Bool} {cur : Item} {S : List Item} {mb : Nat} {names : List (List UInt8)} (h : PAt w pb hi al fl cur S (some mb)) (hm : MapIs w (some mb) names) (s : ByteArray) (hs : s.size <= 100000) (hin : s.toList ∈ names) :
  Calls Tryz.prog 115 #[.pointer (some ⟨pb,0,none⟩),.string s] w fun e w'=>e=.returned (.int .i64 (names.idxOf s.toList)) /\ w'=w:=by
 obtain ⟨p0,p6,hf⟩:=h.cell
 obtain ⟨hlp,hhi⟩:=h.lt
 obtain ⟨D,hO,hN⟩:=hm
 have hkey:=keyOf_string_mk (P:=Tryz.prog) underlying9 (s:=s) (by unfold maxLen;omega)
 rw [<- ByteArray.toList_eq] at hkey
 have hh:=hN.2.1 s.toList
 rw [decide_eq_true hin] at hh
 have HC:=Lib.hid (hN.2.2 _ hin)
 have H1:=Lib.hid hh
 have HO:=Lib.hid hO
 clear h hN hin hO hh
 have hms:=map_some mb
 go_enter Tryz.func115,Tryz.ntmps115
 go_wp2_with (first
  | (at_lookup;refine wpList_lookup_own_ok_int _ rfl _ _ 118 rfl 9 3 .i64 law9 underlying118 underlying3 (zero3 _) mb _ D rfl HO.out _ _ rfl hkey ?_;intro c hat hwc;have hc:=hat.symm.trans HC.out;clear hat hwc;rw [H1.out,show c=(names.idxOf s.toList : Int) by simpa using hc];clear hc)
  | go_in)
 go_ret
 exact ⟨rfl,rfl⟩
theorem index_new {w : World} {pb hi : Nat} {al fl : Bool} {cur : Item} {S : List Item} {mb : Nat} {names : List (List UInt8)} (h : PAt w pb hi al fl cur S (some mb)) (hm : MapIs w (some mb) names) (s : ByteArray) (hs : s.size <= 100000) (hin : s.toList ∉ names) (hn : names.length <= 1000000) :
  Calls Tryz.prog 115 #[.pointer (some ⟨pb,0,none⟩),.string s] w fun e w'=>e=.returned (.int .i64 names.length) /\ w.grownBy w' (some mb) /\ MapIs w' (some mb) (names ++ [s.toList]):=by
 obtain ⟨p0,p6,hf⟩:=h.cell
 obtain ⟨hlp,hhi⟩:=h.lt
 obtain ⟨D,hO,hN⟩:=hm
 have hkey:=keyOf_string_mk (P:=Tryz.prog) underlying9 (s:=s) (by unfold maxLen;omega)
 rw [<- ByteArray.toList_eq] at hkey
 have hne:=ownsMap_not_cells hO p6
 have hh:=hN.2.1 s.toList
 rw [decide_eq_false hin] at hh
 have H1:=Lib.hid hh
 have HN:=Lib.hid hN
 have HI:=Lib.hid hin
 have HO:=Lib.hid hO
 have HT:=Lib.hid (hO.tidy law9)
 clear h hN hin hO hh
 have hms:=map_some mb
 go_enter Tryz.func115,Tryz.ntmps115
 go_wp2_with (first
  | (at_lookup;refine wpList_lookup_own_ok_int _ rfl _ _ 118 rfl 9 3 .i64 law9 underlying118 underlying3 (zero3 _) mb _ D rfl HO.out _ _ rfl hkey ?_;intro c hat hwc;clear hat hwc;rw [H1.out])
  | (at_len;refine wpList_len_own _ rfl _ 118 rfl 9 3 underlying118 _ mb _ D rfl HO.out ?_;rw [HN.out.1])
  | (at_mapUpdate;refine wpList_mapUpdate_own _ rfl _ _ _ 118 rfl 9 3 law9 underlying118 _ mb _ _ rfl HO.out (by unfold maxLen;omega) _ _ _ rfl rfl hkey _ [] (plainElem_int underlying3 (WalkArith.wf_i64 ⟨by omega,by omega⟩)) ?_;intro w1 hown1 hgrow1)
  | go_in)
 go_ret
 refine ⟨rfl,hgrow1,_,by simpa using hown1,HN.out.snoc HT.out HI.out⟩
theorem index_first {w : World} {pb hi : Nat} {al fl : Bool} {cur : Item} {S : List Item} (h : PAt w pb hi al fl cur S none) (s : ByteArray) (hs : s.size <= 100000) :
  Calls Tryz.prog 115 #[.pointer (some ⟨pb,0,none⟩),.string s] w fun e w'=>e=.returned (.int .i64 0) /\ ∃ mb,w.heap.size <= mb /\ ExtM (·=pb) w w' /\ PAt w' pb hi al fl cur S (some mb) /\ MapIs w' (some mb) [s.toList]:=by
 obtain ⟨p0,p6,hf⟩:=h.cell
 obtain ⟨hlp,hhi⟩:=h.lt
 have hkey:=keyOf_string_mk (P:=Tryz.prog) underlying9 (s:=s) (by unfold maxLen;omega)
 rw [<- ByteArray.toList_eq] at hkey
 have hO : ((w.setCell ⟨pb,6,none⟩ (.map (some w.heap.size))).alloc (.map #[] 0)).ownsMap Tryz.prog 9 (plainElem (H:=Unit) Tryz.prog 3) w.heap.size 0 (.map []):=by
  have:=World.ownsMap_made (H:=Unit) (w.setCell ⟨pb,6,none⟩ (.map (some w.heap.size))) Tryz.prog 9 (plainElem Tryz.prog 3)
  simpa using this
 have hX:=((ExtM.refl (·=pb) w).set1 6 (.map (some w.heap.size))).ext (Ext.alloc _ (.map #[] 0))
 have hP:=(h.setMap (some w.heap.size)).ext (Ext.alloc _ (.map #[] 0))
 have HX:=Lib.hid hX
 have HP:=Lib.hid hP
 have HO:=Lib.hid hO
 clear h hO hX hP
 have hms:=map_none w
 have hmm:=@run_makeMap Tryz.prog
 go_enter Tryz.func115,Tryz.ntmps115
 go_wp2_with (first
  | (at_lookup;refine wpList_lookup_own_ok_int _ rfl _ _ 118 rfl 9 3 .i64 law9 underlying118 underlying3 (zero3 _) w.heap.size _ _ rfl HO.out _ _ rfl hkey ?_;intro c hat hwc;clear hat hwc;rw [show Maps.has (DataW.map [] : DataW Unit) (.string s.toList)=false from rfl])
  | (at_len;refine wpList_len_own _ rfl _ 118 rfl 9 3 underlying118 _ w.heap.size _ _ rfl HO.out ?_;rw [show Maps.size (DataW.map [] : DataW Unit)=0 from rfl])
  | (at_mapUpdate;refine wpList_mapUpdate_own _ rfl _ _ _ 118 rfl 9 3 law9 underlying118 _ w.heap.size _ _ rfl HO.out (by unfold maxLen;omega) _ _ _ rfl rfl hkey _ [] (plainElem_int underlying3 (WalkArith.wf_i64 ⟨by omega,by omega⟩)) ?_;intro w1 hown1 hgrow1)
  | go_in)
 go_ret
 have hXm : ExtM (·=w.heap.size) _ w1:=ExtM.of_grown hgrow1
 refine ⟨rfl,w.heap.size,Nat.le_refl _,HX.out.trans hXm (fun i hi e=>by omega),HP.out.extM hXm (by omega) (fun b hb e=>by omega),_,hown1,?_⟩
 exact NamesD.nil.snoc ⟨[],rfl,List.Pairwise.nil⟩ (by simp)
def PSt (w : World) (pb hi : Nat) (al fl : Bool) (cur : Item) (S : List Item) (mp : Option Nat) (names : List (List UInt8)) : Prop :=
 PAt w pb hi al fl cur S mp /\ MapIs w mp names /\ ∀ mb,mp=some mb -> hi <= mb /\ mb ≠ pb
def Step (pb : Nat) (mp mp' : Option Nat) (a b : World) : Prop:=ExtM (PM pb mp) a b /\ (mp'=mp \/ (mp=none /\ ∃ mb,mp'=some mb /\ a.heap.size <= mb))
theorem Step.trans {pb : Nat} {mp mp' mp'' : Option Nat} {a b c : World} (h : Step pb mp mp' a b) (k : Step pb mp' mp'' b c) : Step pb mp mp'' a c:=by
 obtain ⟨h1,h2⟩:=h
 obtain ⟨k1,k2⟩:=k
 refine ⟨h1.trans k1 ?_,?_⟩
 ·rintro i hi (e | e)
  ·exact .inl e
  ·rcases h2 with rfl | ⟨rfl,mb,rfl,hm⟩
   ·exact .inr e
   ·cases e;omega
 ·rcases h2 with rfl | ⟨rfl,mb,rfl,hm⟩
  ·rcases k2 with rfl | ⟨rfl,mb,rfl,hm⟩
   ·exact .inl rfl
   ·exact .inr ⟨rfl,mb,rfl,Nat.le_trans h1.size hm⟩
  ·rcases k2 with rfl | ⟨e,-⟩
   ·exact .inr ⟨rfl,mb,rfl,hm⟩
   ·cases e
theorem Step.of_pb {pb : Nat} {mp : Option Nat} {a b : World} (h : ExtM (·=pb) a b) : Step pb mp mp a b:=⟨h.mono (fun _ _ e=>.inl e),.inl rfl⟩
theorem Step.of_ext {pb : Nat} {mp : Option Nat} {a b : World} (h : Ext a b) : Step pb mp mp a b:=⟨h.toM _,.inl rfl⟩
theorem PSt.ext {w w' : World} {pb hi : Nat} {al fl : Bool} {cur : Item} {S : List Item} {mp : Option Nat} {names : List (List UInt8)} (h : PSt w pb hi al fl cur S mp names) (hE : Ext w w') : PSt w' pb hi al fl cur S mp names :=
 ⟨h.1.ext hE,h.2.1.extM (hE.toM fun _=>False) (fun _ _ h=>h),h.2.2⟩
theorem PSt.step {w w' : World} {pb hi : Nat} {al fl fl' : Bool} {cur cur' : Item} {S S' : List Item} {mp : Option Nat} {names : List (List UInt8)} (h : PSt w pb hi al fl cur S mp names) (hX : ExtM (·=pb) w w') (hP : PAt w' pb hi al fl' cur' S' mp) : PSt w' pb hi al fl' cur' S' mp names :=
 ⟨hP,h.2.1.extM hX (fun mb e=>(h.2.2 mb e).2),h.2.2⟩
theorem bindIndex_calls {w : World} {pb hi : Nat} {al fl : Bool} {cur : Item} {S : List Item} {mp : Option Nat} {names : List (List UInt8)} (h : PSt w pb hi al fl cur S mp names) (s : ByteArray) (hs : s.size <= 100000) (hn : names.length <= 1000000) :
  Calls Tryz.prog 115 #[.pointer (some ⟨pb,0,none⟩),.string s] w fun e w'=>e=.returned (.int .i64 (names.idxOf s.toList)) /\ ∃ mp',Step pb mp mp' w w' /\ PSt w' pb hi al fl cur S mp' (addName names s.toList):=by
 obtain ⟨hP,hM,hB⟩:=h
 obtain ⟨hlp,hhi⟩:=hP.lt
 cases mp with
 | none =>
  obtain rfl : names=[]:=hM
  refine (index_first hP s hs).mono ?_
  rintro e w' ⟨rfl,mb,hmb,hX,hP',hM'⟩
  exact ⟨rfl,some mb,⟨hX.mono (fun _ _ e=>.inl e),.inr ⟨rfl,mb,rfl,hmb⟩⟩,hP',hM',fun mb' e=>by cases e;omega⟩
 | some mb =>
  have hb:=hB mb rfl
  by_cases hin : s.toList ∈ names
  ·refine (index_there hP hM s hs hin).mono ?_
   rintro e w' ⟨rfl,rfl⟩
   refine ⟨rfl,some mb,Step.of_ext (Ext.refl _),hP,?_,hB⟩
   rw [addName,if_pos hin];exact hM
  ·refine (index_new hP hM s hs hin hn).mono ?_
   rintro e w' ⟨rfl,hG,hM'⟩
   have hXm : ExtM (·=mb) w w':=ExtM.of_grown hG
   refine ⟨by rw [List.idxOf_eq_length hin],some mb,⟨hXm.mono (fun _ _ e=>.inr (by rw [e])),.inl rfl⟩,hP.extM hXm (fun e=>hb.2 e.symm) (fun b hbh e=>by omega),?_,hB⟩
   rw [addName,if_neg hin];exact hM'
end Go.Proofs.YtigalkobmfbdaaaGreatDoor
set_option maxRecDepth 100000
set_option maxHeartbeats 2000000
namespace Go.Proofs.YtigalkobmfbdaaaGreatDoor
open Go.RowKit
inductive PN where
 | nul
 | any
 | nil
 | str (s : ByteArray)
 | tok (s : ByteArray)
 | struct (name : ByteArray) (kids : List PN)
 | list (h t : PN)
 | bind (name : ByteArray) (node : PN) (idx : Int)
 | or (kids : List PN)
 | and (kids : List PN)
 | index (p t i : ByteArray)
mutual
def NodeAt (X : Nat -> Prop) (w : World) : Value -> PN -> Prop
 | v,.nul=>v=.nilIface
 | v,.any=>v=.iface 130 (.agg #[])
 | v,.nil=>v=.iface 131 (.agg #[])
 | v,.str s=>v=.iface 132 (.string s)
 | v,.tok s=>v=.iface 134 (.string s)
 | v,.struct nm ks=>∃ a c,v=.iface 127 (.agg #[.string nm,.slice a ks.length c]) /\ ks.length <= c /\ NodesAt X w a ks
 | v,.list h t=>∃ hv tv,v=.iface 136 (.agg #[hv,tv]) /\ NodeAt X w hv h /\ NodeAt X w tv t
 | v,.bind nm n i=>∃ nv,v=.iface 138 (.agg #[.string nm,nv,.int .i64 i]) /\ NodeAt X w nv n
 | v,.or ks=>∃ a c,v=.iface 140 (.agg #[.slice a ks.length c]) /\ ks.length <= c /\ NodesAt X w a ks
 | v,.and ks=>∃ a c,v=.iface 141 (.agg #[.slice a ks.length c]) /\ ks.length <= c /\ NodesAt X w a ks
 | v,.index p t i=>v=.iface 87 (.agg #[.string p,.string t,.string i])
def NodesAt (X : Nat -> Prop) (w : World) : Option Addr -> List PN -> Prop
 | _,[]=>True
 | a,n :: ns=>∃ b o v,a=some ⟨b,o,none⟩ /\ X b /\ w.cell? ⟨b,o,none⟩=some v /\ NodeAt X w v n /\ NodesAt X w (some ⟨b,o + 1,none⟩) ns
end
def Keeps (X : Nat -> Prop) (w w' : World) : Prop:=∀ b o v,X b -> w.cell? ⟨b,o,none⟩=some v -> w'.cell? ⟨b,o,none⟩=some v
theorem Ext.keeps {w w' : World} (h : Ext w w') (X : Nat -> Prop) : Keeps X w w':=fun _ _ _ _ hc=>h.keep hc
theorem Keeps.trans {X : Nat -> Prop} {a b c : World} (h : Keeps X a b) (k : Keeps X b c) : Keeps X a c:=fun _ _ _ hb hc=>k _ _ _ hb (h _ _ _ hb hc)
theorem ExtM.keeps {M X : Nat -> Prop} {w w' : World} (h : ExtM M w w') (hX : ∀ b,X b -> ¬ M b) : Keeps X w w':=fun _ _ _ hb hc=>h.keep (hX _ hb) hc
theorem Step.keeps {X : Nat -> Prop} {pb hi : Nat} {al fl : Bool} {cur : Item} {S : List Item} {mp mp' : Option Nat} {names : List (List UInt8)} {w w' : World} (h : Step pb mp mp' w w') (hP : PSt w pb hi al fl cur S mp names) (hX : ∀ b,X b -> b ≠ pb) : Keeps X w w':=by
 intro b o v hb hc
 refine h.1.keep ?_ hc
 rintro (e | e)
 ·exact hX b hb e
 ·have hM:=hP.2.1
  rw [<- e] at hM
  obtain ⟨D,hO,-⟩:=hM
  exact ownsMap_not_cells hO hc rfl
mutual
theorem NodeAt.mono {X : Nat -> Prop} {w w' : World} (h : Keeps X w w') : ∀ {n : PN} {v : Value},NodeAt X w v n -> NodeAt X w' v n
 | .nul,_,e=>by rw [NodeAt] at e ⊢;exact e
 | .any,_,e=>by rw [NodeAt] at e ⊢;exact e
 | .nil,_,e=>by rw [NodeAt] at e ⊢;exact e
 | .str s,_,e=>by rw [NodeAt] at e ⊢;exact e
 | .tok s,_,e=>by rw [NodeAt] at e ⊢;exact e
 | .struct nm ks,_,e=>by rw [NodeAt] at e ⊢;obtain ⟨a,c,e,hc,hk⟩:=e;exact ⟨a,c,e,hc,NodesAt.mono h hk⟩
 | .list x y,_,e=>by rw [NodeAt] at e ⊢;obtain ⟨hv,tv,e,h1,h2⟩:=e;exact ⟨hv,tv,e,NodeAt.mono h h1,NodeAt.mono h h2⟩
 | .bind nm n i,_,e=>by rw [NodeAt] at e ⊢;obtain ⟨nv,e,h1⟩:=e;exact ⟨nv,e,NodeAt.mono h h1⟩
 | .or ks,_,e=>by rw [NodeAt] at e ⊢;obtain ⟨a,c,e,hc,hk⟩:=e;exact ⟨a,c,e,hc,NodesAt.mono h hk⟩
 | .and ks,_,e=>by rw [NodeAt] at e ⊢;obtain ⟨a,c,e,hc,hk⟩:=e;exact ⟨a,c,e,hc,NodesAt.mono h hk⟩
 | .index p t i,_,e=>by rw [NodeAt] at e ⊢;exact e
theorem NodesAt.mono {X : Nat -> Prop} {w w' : World} (h : Keeps X w w') : ∀ {ns : List PN} {a : Option Addr},NodesAt X w a ns -> NodesAt X w' a ns
 | [],_,_=>by rw [NodesAt];trivial
 | n :: ns,_,e=>by
  rw [NodesAt] at e ⊢
  obtain ⟨b,o,v,e,hb,hc,h1,h2⟩:=e
  exact ⟨b,o,v,e,hb,h _ _ _ hb hc,NodeAt.mono h h1,NodesAt.mono h h2⟩
end
mutual
theorem NodeAt.imp {X Y : Nat -> Prop} {w : World} (h : ∀ b,X b -> b < w.heap.size -> Y b) : ∀ {n : PN} {v : Value},NodeAt X w v n -> NodeAt Y w v n
 | .nul,_,e=>by rw [NodeAt] at e ⊢;exact e
 | .any,_,e=>by rw [NodeAt] at e ⊢;exact e
 | .nil,_,e=>by rw [NodeAt] at e ⊢;exact e
 | .str s,_,e=>by rw [NodeAt] at e ⊢;exact e
 | .tok s,_,e=>by rw [NodeAt] at e ⊢;exact e
 | .struct nm ks,_,e=>by rw [NodeAt] at e ⊢;obtain ⟨a,c,e,hc,hk⟩:=e;exact ⟨a,c,e,hc,NodesAt.imp h hk⟩
 | .list x y,_,e=>by rw [NodeAt] at e ⊢;obtain ⟨hv,tv,e,h1,h2⟩:=e;exact ⟨hv,tv,e,NodeAt.imp h h1,NodeAt.imp h h2⟩
 | .bind nm n i,_,e=>by rw [NodeAt] at e ⊢;obtain ⟨nv,e,h1⟩:=e;exact ⟨nv,e,NodeAt.imp h h1⟩
 | .or ks,_,e=>by rw [NodeAt] at e ⊢;obtain ⟨a,c,e,hc,hk⟩:=e;exact ⟨a,c,e,hc,NodesAt.imp h hk⟩
 | .and ks,_,e=>by rw [NodeAt] at e ⊢;obtain ⟨a,c,e,hc,hk⟩:=e;exact ⟨a,c,e,hc,NodesAt.imp h hk⟩
 | .index p t i,_,e=>by rw [NodeAt] at e ⊢;exact e
theorem NodesAt.imp {X Y : Nat -> Prop} {w : World} (h : ∀ b,X b -> b < w.heap.size -> Y b) : ∀ {ns : List PN} {a : Option Addr},NodesAt X w a ns -> NodesAt Y w a ns
 | [],_,_=>by rw [NodesAt];trivial
 | n :: ns,_,e=>by
  rw [NodesAt] at e ⊢
  obtain ⟨b,o,v,e,hb,hc,h1,h2⟩:=e
  exact ⟨b,o,v,e,h b hb (cell_lt hc),hc,NodeAt.imp h h1,NodesAt.imp h h2⟩
end
theorem NodesAt.get {X : Nat -> Prop} {w : World} : ∀ {ns : List PN} {a : Option Addr} (_ : NodesAt X w a ns) (j : Nat) (hj : j < ns.length),∃ b o v,a=some ⟨b,o,none⟩ /\ X b /\ w.cell? ⟨b,o + j,none⟩=some v /\ NodeAt X w v ns[j]
 | n :: ns,a,e,0,_=>by
  rw [NodesAt] at e
  obtain ⟨b,o,v,e,hb,hc,h1,h2⟩:=e
  exact ⟨b,o,v,e,hb,hc,h1⟩
 | n :: ns,a,e,j + 1,hj=>by
  rw [NodesAt] at e
  obtain ⟨b,o,v,e,hb,hc,h1,h2⟩:=e
  obtain ⟨b',o',v',e',hb',hc',h1'⟩:=NodesAt.get h2 j (by simpa using hj)
  obtain ⟨rfl,rfl⟩ : b=b' /\ o + 1=o':=by simpa using e'
  refine ⟨b,o,v',e,hb,?_,h1'⟩
  rw [show o + (j + 1)=o + 1 + j by omega];exact hc'
theorem nodesAt_of {X : Nat -> Prop} {w : World} {b : Nat} (hb : X b) : ∀ (ns : List PN) (vs : List Value) (o : Nat),ns.length=vs.length -> (∀ (j : Nat) (h1 : j < ns.length) (h2 : j < vs.length),NodeAt X w vs[j] ns[j]) -> (∀ j u,vs[j]?=some u -> w.cell? ⟨b,o + j,none⟩=some u) -> NodesAt X w (some ⟨b,o,none⟩) ns
 | [],_,_,_,_,_=>by rw [NodesAt];trivial
 | n :: ns,[],_,h,_,_=>by simp at h
 | n :: ns,v :: vs,o,hl,hN,hc=>by
  rw [NodesAt]
  refine ⟨b,o,v,rfl,hb,by simpa using hc 0 v rfl,hN 0 (by simp) (by simp),?_⟩
  refine nodesAt_of hb ns vs (o + 1) (by simpa using hl) (fun j h1 h2=>hN (j + 1) (by simpa using h1) (by simpa using h2)) (fun j u hu=>?_)
  have:=hc (j + 1) u (by simpa using hu)
  rw [show o + (j + 1)=o + 1 + j by omega] at this
  exact this
abbrev RX (base : Nat) (v : Value) : Nat -> Prop:=fun b=>base <= b /\ v.ownBlock ≠ some b
structure Row (w : World) (base : Nat) (v : Value) (ns : List PN) (vs : List Value) : Prop where
 own : w.ownsRow base 78 1 v vs.length vs
 len : ns.length=vs.length
 node : ∀ (j : Nat) (h1 : j < ns.length) (h2 : j < vs.length),NodeAt (RX base v) w vs[j] ns[j]
theorem NodeAt.shape {X : Nat -> Prop} {w : World} {n : PN} {v : Value} (h : NodeAt X w v n) : v=.nilIface \/ ∃ t x,v=.iface t x:=by
 cases n <;> rw [NodeAt] at h
 all_goals first
  | (exact .inl h)
  | (exact .inr ⟨_,_,h⟩)
  | (obtain ⟨a,c,e,-⟩:=h;exact .inr ⟨_,_,e⟩)
  | (obtain ⟨nv,e,-⟩:=h;exact .inr ⟨_,_,e⟩)
theorem NodeAt.one {X : Nat -> Prop} {w : World} {n : PN} {v : Value} (h : NodeAt X w v n) : v.oneCell'=true:=by
 cases n <;> rw [NodeAt] at h
 all_goals first
  | (subst h;rfl)
  | (obtain ⟨a,c,rfl,-⟩:=h;rfl)
  | (obtain ⟨nv,rfl,-⟩:=h;rfl)
def populate (al : Bool) (nm : ByteArray) (ks : List PN) : Option PN :=
 match structNodes nm with
 | none=>none
 | some n =>
  if !al && typeInfo nm then none
  else if nm.toList == [79,114] then some (.or ks)
  else if ks.length != n then none
  else if nm.toList == [65,110,121] then some .any
  else if nm.toList == [76,105,115,116] then (match ks with
   | [a,b]=>some (.list a b)
   | _=>none)
  else some (.struct nm ks)
theorem underlying125 : Tryz.prog.underlying 125=some (.slice 78):=by kernel_rfl
theorem info78 : (Tryz.prog.info? 78).map (fun i=>(i.zero,i.size,i.bytes))=some (some .nilIface,1,16):=by kernel_rfl
def PopR (X : Nat -> Prop) (w' : World) (e : Ending) (r : Option PN) : Prop:=match r with
 | none=>∃ v p,e=.returned (.tuple #[v,.iface 184 (.pointer p)])
 | some n=>∃ v,e=.returned (.tuple #[v,.nilIface]) /\ NodeAt X w' v n
theorem sn_none {nm : ByteArray} (h : structNodes nm=none) (w : World) : Calls Tryz.prog 93 #[.string nm] w fun e w'=>e=.returned (.tuple #[.int .i64 0,.bool false]) /\ w'=w:=by
 have:=structNodes_calls nm w;rw [h] at this;exact this.mono fun e w' ⟨a,b⟩=>⟨a,b.symm⟩
theorem sn_some {nm : ByteArray} {n : Nat} (h : structNodes nm=some n) (w : World) : Calls Tryz.prog 93 #[.string nm] w fun e w'=>e=.returned (.tuple #[.int .i64 n,.bool true]) /\ w'=w:=by
 have:=structNodes_calls nm w;rw [h] at this;exact this.mono fun e w' ⟨a,b⟩=>⟨a,b.symm⟩
theorem ti_calls {nm : ByteArray} {b : Bool} (h : typeInfo nm=b) (w : World) : Calls Tryz.prog 162 #[.string nm] w fun e w'=>e=.returned (.bool b) /\ w'=w:=by
 have:=typeInfo_calls nm w;rw [h] at this;exact this.mono fun e w' ⟨a,b⟩=>⟨a,b.symm⟩
theorem beqI {m n : Nat} {b : Bool} (h : (m == n)=b) : ((m : Int) == (n : Int))=b:=by
 rw [<- h,Bool.eq_iff_iff,beq_iff_eq,beq_iff_eq];omega
theorem populate_none {X : Nat -> Prop} {w : World} {a : Option Addr} {c : Nat} (al : Bool) (nm : ByteArray) (ks : List PN) (h : structNodes nm=none) :
  Calls Tryz.prog 141 #[.string nm,.slice a ks.length c,.bool al] w fun e w'=>PopR (fun b=>X b \/ w.heap.size <= b) w' e none /\ Ext w w':=by
 have HS:=Lib.hid h
 clear h
 go_enter Tryz.func141,Tryz.ntmps141
 go_wp2_with fail
 refine (sn_none HS.out _).mono ?_
 rintro e w1 ⟨rfl,rfl⟩
 go_wp2_with fail
 refine (errnew_calls _ _).mono ?_
 rintro e w2 ⟨⟨p,rfl⟩,hE⟩
 go_wp2_with fail
 go_ret2
 exact ⟨⟨_,_,rfl⟩,hE⟩
theorem populate_info {X : Nat -> Prop} {w : World} {a : Option Addr} {c n : Nat} (nm : ByteArray) (ks : List PN) (h : structNodes nm=some n) (ht : typeInfo nm=true) :
  Calls Tryz.prog 141 #[.string nm,.slice a ks.length c,.bool false] w fun e w'=>PopR (fun b=>X b \/ w.heap.size <= b) w' e none /\ Ext w w':=by
 have HS:=Lib.hid h
 have HT:=Lib.hid ht
 clear h ht
 go_enter Tryz.func141,Tryz.ntmps141
 go_wp2_with fail
 refine (sn_some HS.out _).mono ?_
 rintro e w1 ⟨rfl,rfl⟩
 go_wp2_with fail
 refine (ti_calls HT.out _).mono ?_
 rintro e w1 ⟨rfl,rfl⟩
 go_wp2_with fail
 refine (errnew_calls _ _).mono ?_
 rintro e w2 ⟨⟨p,rfl⟩,hE⟩
 go_wp2_with fail
 go_ret2
 exact ⟨⟨_,_,rfl⟩,hE⟩
theorem populate_len {X : Nat -> Prop} {w : World} {a : Option Addr} {c n : Nat} (al : Bool) (nm : ByteArray) (ks : List PN) (h : structNodes nm=some n) (hok : al=true \/ typeInfo nm=false) (h1 : (nm.toList == [79,114])=false) (h2 : (ks.length == n)=false) (hk : ks.length <= 100000) :
  Calls Tryz.prog 141 #[.string nm,.slice a ks.length c,.bool al] w fun e w'=>PopR (fun b=>X b \/ w.heap.size <= b) w' e none /\ Ext w w':=by
 have h2':=beqI h2
 have HS:=Lib.hid h
 clear h
 rcases hok with rfl | ht
 ·go_enter Tryz.func141,Tryz.ntmps141
  go_wp2_with fail
  refine (sn_some HS.out _).mono ?_
  rintro e w1 ⟨rfl,rfl⟩
  go_wp2_with fail
  refine (errnew_calls _ _).mono ?_
  rintro e w2 ⟨⟨p,rfl⟩,hE⟩
  go_wp2_with fail
  go_ret2
  exact ⟨⟨_,_,rfl⟩,hE⟩
 ·have HT:=Lib.hid ht
  clear ht
  cases al
  ·go_enter Tryz.func141,Tryz.ntmps141
   go_wp2_with fail
   refine (sn_some HS.out _).mono ?_
   rintro e w1 ⟨rfl,rfl⟩
   go_wp2_with fail
   refine (ti_calls HT.out _).mono ?_
   rintro e w1 ⟨rfl,rfl⟩
   go_wp2_with fail
   refine (errnew_calls _ _).mono ?_
   rintro e w2 ⟨⟨p,rfl⟩,hE⟩
   go_wp2_with fail
   go_ret2
   exact ⟨⟨_,_,rfl⟩,hE⟩
  ·go_enter Tryz.func141,Tryz.ntmps141
   go_wp2_with fail
   refine (sn_some HS.out _).mono ?_
   rintro e w1 ⟨rfl,rfl⟩
   go_wp2_with fail
   refine (errnew_calls _ _).mono ?_
   rintro e w2 ⟨⟨p,rfl⟩,hE⟩
   go_wp2_with fail
   go_ret2
   exact ⟨⟨_,_,rfl⟩,hE⟩
theorem populate_any {X : Nat -> Prop} {w : World} {a : Option Addr} {c n : Nat} (al : Bool) (nm : ByteArray) (ks : List PN) (h : structNodes nm=some n) (hok : al=true \/ typeInfo nm=false) (h1 : (nm.toList == [65,110,121])=true) (h2 : (ks.length == n)=true) (hk : ks.length <= 100000) :
  Calls Tryz.prog 141 #[.string nm,.slice a ks.length c,.bool al] w fun e w'=>PopR (fun b=>X b \/ w.heap.size <= b) w' e (some .any) /\ Ext w w':=by
 have h2':=beqI h2
 obtain rfl:=beq_lit h1
 have HS:=Lib.hid h
 clear h
 rcases hok with rfl | ht
 ·go_enter Tryz.func141,Tryz.ntmps141
  go_wp2_with fail
  refine (sn_some HS.out _).mono ?_
  rintro e w1 ⟨rfl,rfl⟩
  go_wp2_with fail
  go_ret2
  exact ⟨⟨_,rfl,by rw [NodeAt];rfl⟩,Ext.refl _⟩
 ·have HT:=Lib.hid ht
  clear ht
  cases al
  ·go_enter Tryz.func141,Tryz.ntmps141
   go_wp2_with fail
   refine (sn_some HS.out _).mono ?_
   rintro e w1 ⟨rfl,rfl⟩
   go_wp2_with fail
   refine (ti_calls HT.out _).mono ?_
   rintro e w1 ⟨rfl,rfl⟩
   go_wp2_with fail
   go_ret2
   exact ⟨⟨_,rfl,by rw [NodeAt];rfl⟩,Ext.refl _⟩
  ·go_enter Tryz.func141,Tryz.ntmps141
   go_wp2_with fail
   refine (sn_some HS.out _).mono ?_
   rintro e w1 ⟨rfl,rfl⟩
   go_wp2_with fail
   go_ret2
   exact ⟨⟨_,rfl,by rw [NodeAt];rfl⟩,Ext.refl _⟩
theorem NodesAt.values {X : Nat -> Prop} {w : World} : ∀ {ns : List PN} {a : Option Addr},NodesAt X w a ns -> ∃ vs : List Value,ns.length=vs.length /\ (∀ (j : Nat) (h1 : j < ns.length) (h2 : j < vs.length),NodeAt X w vs[j] ns[j]) /\ (ns ≠ [] -> ∃ b o,a=some ⟨b,o,none⟩ /\ X b /\ ∀ j u,vs[j]?=some u -> w.cell? ⟨b,o + j,none⟩=some u)
 | [],_,_=>⟨[],rfl,fun j h1=>absurd h1 (by simp),fun h=>absurd rfl h⟩
 | n :: ns,a,e=>by
  rw [NodesAt] at e
  obtain ⟨b,o,v,rfl,hb,hc,h1,h2⟩:=e
  obtain ⟨vs,g1,g2,g3⟩:=NodesAt.values h2
  refine ⟨v :: vs,by simp [g1],fun j q1 q2=>?_,fun _=>⟨b,o,rfl,hb,fun j u hu=>?_⟩⟩
  ·cases j with
   | zero=>exact h1
   | succ j=>exact g2 j (by simpa using q1) (by simpa using q2)
  ·cases j with
   | zero=>simp at hu;subst hu;exact hc
   | succ j =>
    have hne : ns ≠ []:=by rintro rfl;cases vs with
     | nil=>simp at hu
     | cons _ _=>simp at g1
    obtain ⟨b',o',e',-,hc'⟩:=g3 hne
    obtain ⟨rfl,rfl⟩ : b=b' /\ o + 1=o':=by simpa using e'
    rw [show o + (j + 1)=o + 1 + j by omega]
    exact hc' j u (by simpa using hu)
theorem addr_add (b o n : Nat) : (⟨b,o,none⟩ : Addr).add n=⟨b,o + n,none⟩:=by unfold Addr.add;split <;> simp_all
theorem nodes_copied {X : Nat -> Prop} {w w' : World} {v : Value} {ns : List PN} {vs : List Value} (hl : ns.length=vs.length) (hN : ∀ (j : Nat) (h1 : j < ns.length) (h2 : j < vs.length),NodeAt X w vs[j] ns[j]) (hE : Ext w w') (hO : w'.ownsRow w.heap.size 78 1 v vs.length vs) :
  ∃ a c,v=.slice a ns.length c /\ ns.length <= c /\ NodesAt (fun b=>X b \/ w.heap.size <= b) w' a ns:=by
 rcases hO.2 with ⟨rfl,hn⟩ | ⟨g,cap,cur,rfl,hg,hgg,hnc,-⟩
 ·obtain rfl : ns=[]:=List.eq_nil_of_length_eq_zero (by rw [hl,hn])
  exact ⟨none,0,rfl,Nat.le_refl _,by rw [NodesAt];trivial⟩
 ·refine ⟨_,_,by rw [hl],by rw [hl];exact hnc,nodesAt_of (.inr hg) ns vs 0 hl (fun j h1 h2=>((hN j h1 h2).mono (hE.keeps X)).imp (fun b hb _=>.inl hb)) (fun j u hu=>?_)⟩
  have:=hO.cells (g:=g) rfl j u hu
  have hadd : (⟨g,0,none⟩ : Addr).add j=⟨g,0 + j,none⟩:=by unfold Addr.add;split <;> simp_all
  rw [hadd] at this
  exact this
def ValsAt (X : Nat -> Prop) (w : World) (a : Option Addr) (ns : List PN) : Prop :=
 ∃ vs : List Value,ns.length=vs.length /\ (∀ (j : Nat) (h1 : j < ns.length) (h2 : j < vs.length),NodeAt X w vs[j] ns[j]) /\ (ns ≠ [] -> ∃ b o,a=some ⟨b,o,none⟩ /\ ∀ j u,vs[j]?=some u -> w.cell? ⟨b,o + j,none⟩=some u)
theorem Row.vals {w : World} {base : Nat} {v : Value} {ns : List PN} {vs : List Value} (h : Row w base v ns vs) : ∃ a c,v=.slice a ns.length c /\ ns.length <= c /\ ValsAt (RX base v) w a ns /\ (ns=[] -> v=.slice none 0 0 -> a=none /\ c=0):=by
 rcases h.own.2 with ⟨rfl,hn⟩ | ⟨g,cap,cur,rfl,hg,hgg,hnc,-⟩
 ·obtain rfl : ns=[]:=List.eq_nil_of_length_eq_zero (by rw [h.len,hn])
  exact ⟨none,0,rfl,Nat.le_refl _,⟨vs,h.len,h.node,fun h=>absurd rfl h⟩,fun _ _=>⟨rfl,rfl⟩⟩
 ·refine ⟨_,_,by rw [h.len],by rw [h.len];exact hnc,⟨vs,h.len,h.node,fun _=>⟨g,0,rfl,fun j u hu=>?_⟩⟩,fun _ e=>by simp at e⟩
  have:=h.own.cells (g:=g) rfl j u hu
  have hadd : (⟨g,0,none⟩ : Addr).add j=⟨g,0 + j,none⟩:=by unfold Addr.add;split <;> simp_all
  rw [hadd] at this
  exact this
theorem populate_or {X : Nat -> Prop} {w : World} {a : Option Addr} {c n : Nat} (al : Bool) (nm : ByteArray) (ks : List PN) (h : structNodes nm=some n) (hok : al=true \/ typeInfo nm=false) (hne : ks ≠ []) (hK : ValsAt X w a ks) (hc : ks.length <= c) (h1 : (nm.toList == [79,114])=true) (hk : ks.length <= 100000) :
  Calls Tryz.prog 141 #[.string nm,.slice a ks.length c,.bool al] w fun e w'=>PopR (fun b=>X b \/ w.heap.size <= b) w' e (some (.or ks)) /\ Ext w w':=by
 obtain ⟨i0,hi,hz0,hz1,hz2⟩:=info_parts info78
 obtain ⟨vs,hl,hN,hcl⟩:=hK
 obtain ⟨b,o,rfl,hcell⟩:=hcl hne
 have HN:=Lib.hid hN
 have HL:=Lib.hid hl
 have hk0 : 0 < ks.length:=List.length_pos_iff.2 hne
 clear hN hcl hne hl
 obtain rfl:=beq_lit h1
 have HS:=Lib.hid h
 clear h
 rcases hok with rfl | ht
 ·go_enter Tryz.func141,Tryz.ntmps141
  go_wp2_with fail
  refine (sn_some HS.out _).mono ?_
  rintro e w1 ⟨rfl,rfl⟩
  go_wp2_with (first
   | (at_builtin;refine wpList_append_own _ rfl _ _ 125 rfl w1.heap.size 78 i0 _ 1 16 underlying125 hi hz0 hz1 hz2 rfl (by decide) (.slice none 0 0) 0 [] rfl (World.ownsRow_nil _ _ _ _) ⟨b,o,none⟩ ks.length c vs rfl ?c0 ?c1 ?c2 ?c3 ?c4 (Nat.le_refl _) ?_)
   | go_in)
  case c0=>have:=HL.out;omega
  case c3=>unfold maxLen;omega
  case c4=>omega
  case c1=>intro j u hu;rw [addr_add];exact hcell j u hu
  case c2 =>
   intro u hu
   obtain ⟨j,hj,rfl⟩:=List.getElem_of_mem hu
   exact (HN.out j (by have:=HL.out;omega) hj).one
  intro v' w2 hO2 hG hnil
  clear hnil
  have hE2 : Ext w1 w2:=(Ext.refl w1).grown hG (by simp [Value.ownBlock])
  rw [HL.out] at hO2
  obtain ⟨a',c',rfl,hc',hK⟩:=nodes_copied HL.out HN.out hE2 hO2
  have HK:=Lib.hid hK
  clear hO2 hG hK
  go_wp2_with fail
  go_ret2
  exact ⟨⟨_,rfl,by rw [NodeAt];exact ⟨a',c',rfl,hc',HK.out⟩⟩,hE2⟩
 ·have HT:=Lib.hid ht
  clear ht
  cases al
  ·go_enter Tryz.func141,Tryz.ntmps141
   go_wp2_with fail
   refine (sn_some HS.out _).mono ?_
   rintro e w1 ⟨rfl,rfl⟩
   go_wp2_with fail
   refine (ti_calls HT.out _).mono ?_
   rintro e w1 ⟨rfl,rfl⟩
   go_wp2_with (first
    | (at_builtin;refine wpList_append_own _ rfl _ _ 125 rfl w1.heap.size 78 i0 _ 1 16 underlying125 hi hz0 hz1 hz2 rfl (by decide) (.slice none 0 0) 0 [] rfl (World.ownsRow_nil _ _ _ _) ⟨b,o,none⟩ ks.length c vs rfl ?c0 ?c1 ?c2 ?c3 ?c4 (Nat.le_refl _) ?_)
    | go_in)
   case c0=>have:=HL.out;omega
   case c3=>unfold maxLen;omega
   case c4=>omega
   case c1=>intro j u hu;rw [addr_add];exact hcell j u hu
   case c2 =>
    intro u hu
    obtain ⟨j,hj,rfl⟩:=List.getElem_of_mem hu
    exact (HN.out j (by have:=HL.out;omega) hj).one
   intro v' w2 hO2 hG hnil
   clear hnil
   have hE2 : Ext w1 w2:=(Ext.refl w1).grown hG (by simp [Value.ownBlock])
   rw [HL.out] at hO2
   obtain ⟨a',c',rfl,hc',hK⟩:=nodes_copied HL.out HN.out hE2 hO2
   have HK:=Lib.hid hK
   clear hO2 hG hK
   go_wp2_with fail
   go_ret2
   exact ⟨⟨_,rfl,by rw [NodeAt];exact ⟨a',c',rfl,hc',HK.out⟩⟩,hE2⟩
  ·go_enter Tryz.func141,Tryz.ntmps141
   go_wp2_with fail
   refine (sn_some HS.out _).mono ?_
   rintro e w1 ⟨rfl,rfl⟩
   go_wp2_with (first
    | (at_builtin;refine wpList_append_own _ rfl _ _ 125 rfl w1.heap.size 78 i0 _ 1 16 underlying125 hi hz0 hz1 hz2 rfl (by decide) (.slice none 0 0) 0 [] rfl (World.ownsRow_nil _ _ _ _) ⟨b,o,none⟩ ks.length c vs rfl ?c0 ?c1 ?c2 ?c3 ?c4 (Nat.le_refl _) ?_)
    | go_in)
   case c0=>have:=HL.out;omega
   case c3=>unfold maxLen;omega
   case c4=>omega
   case c1=>intro j u hu;rw [addr_add];exact hcell j u hu
   case c2 =>
    intro u hu
    obtain ⟨j,hj,rfl⟩:=List.getElem_of_mem hu
    exact (HN.out j (by have:=HL.out;omega) hj).one
   intro v' w2 hO2 hG hnil
   clear hnil
   have hE2 : Ext w1 w2:=(Ext.refl w1).grown hG (by simp [Value.ownBlock])
   rw [HL.out] at hO2
   obtain ⟨a',c',rfl,hc',hK⟩:=nodes_copied HL.out HN.out hE2 hO2
   have HK:=Lib.hid hK
   clear hO2 hG hK
   go_wp2_with fail
   go_ret2
   exact ⟨⟨_,rfl,by rw [NodeAt];exact ⟨a',c',rfl,hc',HK.out⟩⟩,hE2⟩
theorem populate_struct {X : Nat -> Prop} {w : World} {a : Option Addr} {c n : Nat} (al : Bool) (nm : ByteArray) (ks : List PN) (h : structNodes nm=some n) (hok : al=true \/ typeInfo nm=false) (hne : ks ≠ []) (hK : ValsAt X w a ks) (hc : ks.length <= c) (h1 : (nm.toList == [79,114])=false) (h3 : (nm.toList == [65,110,121])=false) (h4 : (nm.toList == [76,105,115,116])=false) (h5 : (nm.toList == [66,105,110,100,105,110,103])=false) (h2 : (ks.length == n)=true) (hk : ks.length <= 100000) :
  Calls Tryz.prog 141 #[.string nm,.slice a ks.length c,.bool al] w fun e w'=>PopR (fun b=>X b \/ w.heap.size <= b) w' e (some (.struct nm ks)) /\ Ext w w':=by
 obtain ⟨i0,hi,hz0,hz1,hz2⟩:=info_parts info78
 obtain ⟨vs,hl,hN,hcl⟩:=hK
 obtain ⟨b,o,rfl,hcell⟩:=hcl hne
 have HN:=Lib.hid hN
 have HL:=Lib.hid hl
 have hk0 : 0 < ks.length:=List.length_pos_iff.2 hne
 clear hN hcl hne hl
 have h2':=beqI h2
 have HS:=Lib.hid h
 clear h
 rcases hok with rfl | ht
 ·go_enter Tryz.func141,Tryz.ntmps141
  go_wp2_with fail
  refine (sn_some HS.out _).mono ?_
  rintro e w1 ⟨rfl,rfl⟩
  go_wp2_with (first
   | (at_builtin;refine wpList_append_own _ rfl _ _ 125 rfl w1.heap.size 78 i0 _ 1 16 underlying125 hi hz0 hz1 hz2 rfl (by decide) (.slice none 0 0) 0 [] rfl (World.ownsRow_nil _ _ _ _) ⟨b,o,none⟩ ks.length c vs rfl ?c0 ?c1 ?c2 ?c3 ?c4 (Nat.le_refl _) ?_)
   | go_in)
  case c0=>have:=HL.out;omega
  case c3=>unfold maxLen;omega
  case c4=>omega
  case c1=>intro j u hu;rw [addr_add];exact hcell j u hu
  case c2 =>
   intro u hu
   obtain ⟨j,hj,rfl⟩:=List.getElem_of_mem hu
   exact (HN.out j (by have:=HL.out;omega) hj).one
  intro v' w2 hO2 hG hnil
  clear hnil
  have hE2 : Ext w1 w2:=(Ext.refl w1).grown hG (by simp [Value.ownBlock])
  rw [HL.out] at hO2
  obtain ⟨a',c',rfl,hc',hK⟩:=nodes_copied HL.out HN.out hE2 hO2
  have HK:=Lib.hid hK
  clear hO2 hG hK
  go_wp2_with fail
  go_ret2
  exact ⟨⟨_,rfl,by rw [NodeAt];exact ⟨a',c',rfl,hc',HK.out⟩⟩,hE2⟩
 ·have HT:=Lib.hid ht
  clear ht
  cases al
  ·go_enter Tryz.func141,Tryz.ntmps141
   go_wp2_with fail
   refine (sn_some HS.out _).mono ?_
   rintro e w1 ⟨rfl,rfl⟩
   go_wp2_with fail
   refine (ti_calls HT.out _).mono ?_
   rintro e w1 ⟨rfl,rfl⟩
   go_wp2_with (first
    | (at_builtin;refine wpList_append_own _ rfl _ _ 125 rfl w1.heap.size 78 i0 _ 1 16 underlying125 hi hz0 hz1 hz2 rfl (by decide) (.slice none 0 0) 0 [] rfl (World.ownsRow_nil _ _ _ _) ⟨b,o,none⟩ ks.length c vs rfl ?c0 ?c1 ?c2 ?c3 ?c4 (Nat.le_refl _) ?_)
    | go_in)
   case c0=>have:=HL.out;omega
   case c3=>unfold maxLen;omega
   case c4=>omega
   case c1=>intro j u hu;rw [addr_add];exact hcell j u hu
   case c2 =>
    intro u hu
    obtain ⟨j,hj,rfl⟩:=List.getElem_of_mem hu
    exact (HN.out j (by have:=HL.out;omega) hj).one
   intro v' w2 hO2 hG hnil
   clear hnil
   have hE2 : Ext w1 w2:=(Ext.refl w1).grown hG (by simp [Value.ownBlock])
   rw [HL.out] at hO2
   obtain ⟨a',c',rfl,hc',hK⟩:=nodes_copied HL.out HN.out hE2 hO2
   have HK:=Lib.hid hK
   clear hO2 hG hK
   go_wp2_with fail
   go_ret2
   exact ⟨⟨_,rfl,by rw [NodeAt];exact ⟨a',c',rfl,hc',HK.out⟩⟩,hE2⟩
  ·go_enter Tryz.func141,Tryz.ntmps141
   go_wp2_with fail
   refine (sn_some HS.out _).mono ?_
   rintro e w1 ⟨rfl,rfl⟩
   go_wp2_with (first
    | (at_builtin;refine wpList_append_own _ rfl _ _ 125 rfl w1.heap.size 78 i0 _ 1 16 underlying125 hi hz0 hz1 hz2 rfl (by decide) (.slice none 0 0) 0 [] rfl (World.ownsRow_nil _ _ _ _) ⟨b,o,none⟩ ks.length c vs rfl ?c0 ?c1 ?c2 ?c3 ?c4 (Nat.le_refl _) ?_)
    | go_in)
   case c0=>have:=HL.out;omega
   case c3=>unfold maxLen;omega
   case c4=>omega
   case c1=>intro j u hu;rw [addr_add];exact hcell j u hu
   case c2 =>
    intro u hu
    obtain ⟨j,hj,rfl⟩:=List.getElem_of_mem hu
    exact (HN.out j (by have:=HL.out;omega) hj).one
   intro v' w2 hO2 hG hnil
   clear hnil
   have hE2 : Ext w1 w2:=(Ext.refl w1).grown hG (by simp [Value.ownBlock])
   rw [HL.out] at hO2
   obtain ⟨a',c',rfl,hc',hK⟩:=nodes_copied HL.out HN.out hE2 hO2
   have HK:=Lib.hid hK
   clear hO2 hG hK
   go_wp2_with fail
   go_ret2
   exact ⟨⟨_,rfl,by rw [NodeAt];exact ⟨a',c',rfl,hc',HK.out⟩⟩,hE2⟩
theorem populate_list {X : Nat -> Prop} {w : World} {a : Option Addr} {c n : Nat} (al : Bool) (nm : ByteArray)  (h : structNodes nm=some n) (hok : al=true \/ typeInfo nm=false) (p q : PN) (hK : ValsAt X w a [p,q]) (hc : 2 <= c) (h1 : (nm.toList == [76,105,115,116])=true) (hn : n=2) :
  Calls Tryz.prog 141 #[.string nm,.slice a 2 c,.bool al] w fun e w'=>PopR (fun b=>X b \/ w.heap.size <= b) w' e (some (.list p q)) /\ Ext w w':=by
 obtain rfl:=beq_lit h1
 subst hn
 obtain ⟨vs,hl,hN,hcl⟩:=hK
 obtain ⟨b,o,rfl,hcell⟩:=hcl (by simp)
 obtain ⟨v0,v1,rfl⟩ : ∃ v0 v1,vs=[v0,v1]:=by
  match vs,hl with
  | [x,y],_=>exact ⟨x,y,rfl⟩
 have c0:=hcell 0 v0 rfl
 have c1:=hcell 1 v1 rfl
 have hv0:=hN 0 (by simp) (by simp)
 have hv1:=hN 1 (by simp) (by simp)
 simp only [List.getElem_cons_zero,List.getElem_cons_succ] at hv0 hv1
 have H0:=Lib.hid hv0
 have H1:=Lib.hid hv1
 simp only [Nat.add_zero] at c0
 have hbl:=cell_lt c0
 simp only at hbl
 clear hv0 hv1 hN hcl hcell hl
 have HS:=Lib.hid h
 clear h
 rcases hok with rfl | ht
 ·go_enter Tryz.func141,Tryz.ntmps141
  go_wp2_with fail
  refine (sn_some HS.out _).mono ?_
  rintro e w1 ⟨rfl,rfl⟩
  rcases H0.out.shape with rfl | ⟨t0,x0,rfl⟩ <;> rcases H1.out.shape with rfl | ⟨t1,x1,rfl⟩
  all_goals
   go_wp2_with fail
   go_quiet (fail)
   go_wp2_with fail
   go_ret2
   refine ⟨⟨_,rfl,?_⟩,Ext.drewN _ _⟩
   rw [NodeAt]
   exact ⟨_,_,rfl,(H0.out.mono ((Ext.drewN _ _).keeps X)).imp (fun _ h _=>.inl h),(H1.out.mono ((Ext.drewN _ _).keeps X)).imp (fun _ h _=>.inl h)⟩
 ·have HT:=Lib.hid ht
  clear ht
  cases al
  ·go_enter Tryz.func141,Tryz.ntmps141
   go_wp2_with fail
   refine (sn_some HS.out _).mono ?_
   rintro e w1 ⟨rfl,rfl⟩
   go_wp2_with fail
   refine (ti_calls HT.out _).mono ?_
   rintro e w1 ⟨rfl,rfl⟩
   rcases H0.out.shape with rfl | ⟨t0,x0,rfl⟩ <;> rcases H1.out.shape with rfl | ⟨t1,x1,rfl⟩
   all_goals
    go_wp2_with fail
    go_quiet (fail)
    go_wp2_with fail
    go_ret2
    refine ⟨⟨_,rfl,?_⟩,Ext.drewN _ _⟩
    rw [NodeAt]
    exact ⟨_,_,rfl,(H0.out.mono ((Ext.drewN _ _).keeps X)).imp (fun _ h _=>.inl h),(H1.out.mono ((Ext.drewN _ _).keeps X)).imp (fun _ h _=>.inl h)⟩
  ·go_enter Tryz.func141,Tryz.ntmps141
   go_wp2_with fail
   refine (sn_some HS.out _).mono ?_
   rintro e w1 ⟨rfl,rfl⟩
   rcases H0.out.shape with rfl | ⟨t0,x0,rfl⟩ <;> rcases H1.out.shape with rfl | ⟨t1,x1,rfl⟩
   all_goals
    go_wp2_with fail
    go_quiet (fail)
    go_wp2_with fail
    go_ret2
    refine ⟨⟨_,rfl,?_⟩,Ext.drewN _ _⟩
    rw [NodeAt]
    exact ⟨_,_,rfl,(H0.out.mono ((Ext.drewN _ _).keeps X)).imp (fun _ h _=>.inl h),(H1.out.mono ((Ext.drewN _ _).keeps X)).imp (fun _ h _=>.inl h)⟩
theorem populate_empty {X : Nat -> Prop} {w : World} {a : Option Addr} {c n : Nat} (al : Bool) (nm : ByteArray)  (h : structNodes nm=some n) (hok : al=true \/ typeInfo nm=false) (h1 : (nm.toList == [79,114])=false) (h3 : (nm.toList == [65,110,121])=false) (h4 : (nm.toList == [76,105,115,116])=false) (h5 : (nm.toList == [66,105,110,100,105,110,103])=false) (hn : n=0) :
  Calls Tryz.prog 141 #[.string nm,.slice none 0 0,.bool al] w fun e w'=>PopR (fun b=>X b \/ w.heap.size <= b) w' e (some (.struct nm [])) /\ Ext w w':=by
 subst hn
 have HS:=Lib.hid h
 clear h
 rcases hok with rfl | ht
 ·go_enter Tryz.func141,Tryz.ntmps141
  go_wp2_with fail
  refine (sn_some HS.out _).mono ?_
  rintro e w1 ⟨rfl,rfl⟩
  go_wp2_with fail
  go_ret2
  refine ⟨⟨_,rfl,?_⟩,Ext.refl _⟩
  rw [NodeAt]
  exact ⟨none,0,rfl,Nat.le_refl _,by rw [NodesAt];trivial⟩
 ·have HT:=Lib.hid ht
  clear ht
  cases al
  ·go_enter Tryz.func141,Tryz.ntmps141
   go_wp2_with fail
   refine (sn_some HS.out _).mono ?_
   rintro e w1 ⟨rfl,rfl⟩
   go_wp2_with fail
   refine (ti_calls HT.out _).mono ?_
   rintro e w1 ⟨rfl,rfl⟩
   go_wp2_with fail
   go_ret2
   refine ⟨⟨_,rfl,?_⟩,Ext.refl _⟩
   rw [NodeAt]
   exact ⟨none,0,rfl,Nat.le_refl _,by rw [NodesAt];trivial⟩
  ·go_enter Tryz.func141,Tryz.ntmps141
   go_wp2_with fail
   refine (sn_some HS.out _).mono ?_
   rintro e w1 ⟨rfl,rfl⟩
   go_wp2_with fail
   go_ret2
   refine ⟨⟨_,rfl,?_⟩,Ext.refl _⟩
   rw [NodeAt]
   exact ⟨none,0,rfl,Nat.le_refl _,by rw [NodesAt];trivial⟩
def said (nm : ByteArray) (ks : List PN) : Bool:=!(nm.toList == [66,105,110,100,105,110,103]) && !(nm.toList == [79,114] && ks.length == 0)
theorem populate_calls {X : Nat -> Prop} {w : World} {a : Option Addr} {c : Nat} (al : Bool) (nm : ByteArray) (ks : List PN) (hs : said nm ks=true) (hK : ValsAt X w a ks) (hc : ks.length <= c) (he : ks=[] -> a=none /\ c=0) (hk : ks.length <= 100000) :
  Calls Tryz.prog 141 #[.string nm,.slice a ks.length c,.bool al] w fun e w'=>PopR (fun b=>X b \/ w.heap.size <= b) w' e (populate al nm ks) /\ Ext w w':=by
 simp only [said,Bool.and_eq_true,Bool.not_eq_true'] at hs
 obtain ⟨hb,ho⟩:=hs
 cases hn : structNodes nm with
 | none=>rw [show populate al nm ks=none by unfold populate;rw [hn]];exact populate_none al nm ks hn
 | some n =>
  cases hi : (!al && typeInfo nm)
  ·have hok : al=true \/ typeInfo nm=false:=by cases al <;> simp at hi <;> simp [hi]
   cases h1 : (nm.toList == [79,114])
   ·cases h2 : (ks.length == n)
    ·rw [show populate al nm ks=none by unfold populate;rw [hn];simp only [hi,h1,bne,h2];rfl]
     exact populate_len al nm ks hn hok h1 h2 hk
    ·cases h3 : (nm.toList == [65,110,121])
     ·cases h4 : (nm.toList == [76,105,115,116])
      ·rw [show populate al nm ks=some (.struct nm ks) by unfold populate;rw [hn];simp only [hi,h1,bne,h2,h3,h4];rfl]
       by_cases hne : ks=[]
       ·subst hne
        obtain ⟨rfl,rfl⟩:=he rfl
        exact populate_empty (a:=none) (c:=0) al nm hn hok h1 h3 h4 hb (by simpa using (eq_of_beq h2).symm)
       ·exact populate_struct al nm ks hn hok hne hK hc h1 h3 h4 hb h2 hk
      ·obtain rfl:=beq_lit h4
       have h2n : n=2:=by
        have : structNodes ⟨#[76,105,115,116]⟩=some 2:=by decide +kernel
        rw [this] at hn;exact (Option.some.inj hn).symm
       subst h2n
       match ks,h2,hK,hc with
       | [p,q],_,hK,hc =>
        rw [show populate al ⟨#[76,105,115,116]⟩ [p,q]=some (.list p q) by unfold populate;rw [hn];simp only [hi,h1,h3,toList_mk];rfl]
        exact populate_list al _ hn hok p q hK hc (by rw [toList_mk];rfl) rfl
     ·rw [show populate al nm ks=some .any by unfold populate;rw [hn];simp only [hi,h1,bne,h2,h3];rfl]
      exact populate_any al nm ks hn hok h3 h2 hk
   ·rw [show populate al nm ks=some (.or ks) by unfold populate;rw [hn];simp only [hi,h1];rfl]
    have hne : ks ≠ []:=by rintro rfl;rw [h1] at ho;cases ho
    exact populate_or al nm ks hn hok hne hK hc h1 hk
  ·rw [show populate al nm ks=none by unfold populate;rw [hn];simp only [hi];rfl]
   have : al=false /\ typeInfo nm=true:=by simpa using hi
   obtain ⟨rfl,ht⟩:=this
   exact populate_info nm ks hn ht
theorem populateM_calls {X : Nat -> Prop} {pb hi : Nat} {al fl : Bool} {cur : Item} {S : List Item} {mp : Option Nat} {names : List (List UInt8)} {w : World} {a : Option Addr} {c : Nat} (hP : PSt w pb hi al fl cur S mp names) (nm : ByteArray) (ks : List PN) (hs : said nm ks=true) (hK : ValsAt X w a ks) (hc : ks.length <= c) (he : ks=[] -> a=none /\ c=0) (hk : ks.length <= 100000) :
  Calls Tryz.prog 114 #[.pointer (some ⟨pb,0,none⟩),.string nm,.slice a ks.length c] w fun e w'=>PopR (fun b=>X b \/ w.heap.size <= b) w' e (populate al nm ks) /\ Ext w w':=by
 obtain ⟨p0,-,hf⟩:=hP.1.cell
 have HC:=Lib.hid (populate_calls (w:=w) al nm ks hs hK hc he hk)
 clear hP hs hK hc he
 generalize populate al nm ks=r at HC ⊢
 go_enter Tryz.func114,Tryz.ntmps114
 go_wp2_with fail
 refine HC.out.mono ?_
 rintro e w1 ⟨hr,hE⟩
 cases r with
 | none =>
  obtain ⟨v,p,rfl⟩:=hr
  go_wp2_with fail
  go_ret2
  exact ⟨⟨v,p,rfl⟩,hE⟩
 | some n =>
  obtain ⟨v,rfl,hv⟩:=hr
  have HV:=Lib.hid hv
  clear hv
  go_wp2_with fail
  go_ret2
  exact ⟨⟨v,rfl,HV.out⟩,hE⟩
end Go.Proofs.YtigalkobmfbdaaaGreatDoor
namespace Go.Proofs.YtigalkobmfbdaaaGreatDoor
open Go.RowKit
abbrev Names:=List (List UInt8)
abbrev PRes (α : Type):=Option (Option (α × List Item × Names))
def PRes.andThen {α β : Type} (r : PRes α) (k : α -> List Item -> Names -> PRes β) : PRes β:=match r with
 | none=>none
 | some none=>some none
 | some (some (a,S,nm))=>k a S nm
mutual
def nodeM (al : Bool) : Nat -> List Item -> Names -> PRes PN
 | 0,_,_=>none
 | f + 1,S,nm=>match S with
  | []=>none
  | x :: S1=>if x.typ == 1 then (match S1 with
   | []=>none
   | t :: S2=>if t.typ == 5 then (objsM al f 2 S2 nm).andThen fun ks S3 nm3 =>
     if said t.val ks then some ((populate al t.val ks).map fun n=>(n,S3,nm3)) else none
    else some none) else some none
def objsM (al : Bool) : Nat -> Int -> List Item -> Names -> PRes (List PN)
 | 0,_,_,_=>none
 | f + 1,stop,S,nm=>match S with
  | []=>none
  | x :: S1=>if x.typ == stop then some (some ([],S1,nm)) else
   (objectM al f (x :: S1) nm).andThen fun n S2 nm2=>(objsM al f stop S2 nm2).andThen fun ks S3 nm3=>some (some (n :: ks,S3,nm3))
def objectM (al : Bool) : Nat -> List Item -> Names -> PRes PN
 | 0,_,_=>none
 | f + 1,S,nm=>match S with
  | []=>none
  | x :: S1 =>
   if x.typ == 1 then (nodeM al f (x :: S1) nm).andThen fun n S2 nm2=>tailM al f n S2 nm2
   else if x.typ == 3 then arrayM al f (x :: S1) nm
   else if x.typ == 6 then
    if x.val.toList == [110,105,108] then some (some (.nil,S1,nm))
    else (match S1 with
     | []=>none
     | y :: S2=>if y.typ == 7 then (nodeM al f S2 nm).andThen fun o S3 nm3=>tailM al f (.bind x.val o (nm3.idxOf x.val.toList)) S3 (addName nm3 x.val.toList)
      else tailM al f (.bind x.val .nul (nm.idxOf x.val.toList)) (y :: S2) (addName nm x.val.toList))
   else if x.typ == 9 then tailM al f .any S1 nm
   else if x.typ == 10 then some (some (.str x.val,S1,nm))
   else some none
def tailM (al : Bool) : Nat -> PN -> List Item -> Names -> PRes PN
 | 0,_,_,_=>none
 | f + 1,n,S,nm=>match S with
  | []=>none
  | x :: S1=>if x.typ == 8 then (objectM al f S1 nm).andThen fun t S2 nm2=>some (some (.list n t,S2,nm2)) else some (some (n,x :: S1,nm))
def arrayM (al : Bool) : Nat -> List Item -> Names -> PRes PN
 | 0,_,_=>none
 | f + 1,S,nm=>match S with
  | []=>none
  | x :: S1=>if x.typ == 3 then (objsM al f 4 S1 nm).andThen fun ks S2 nm2=>some (some (ks.foldr PN.list (.list .nul .nul),S2,nm2)) else some none
end
def Less {α : Type} (S : List Item) (nm : Names) (r : PRes α) : Prop:=∀ a S' nm',r=some (some (a,S',nm')) -> S'.length + nm'.length <= S.length + nm.length
theorem addName_len (nm : Names) (s : List UInt8) : (addName nm s).length <= nm.length + 1:=by unfold addName;split <;> simp
theorem Less.andThen {α β : Type} {S : List Item} {nm : Names} {r : PRes α} {k : α -> List Item -> Names -> PRes β} (h : Less S nm r) (hk : ∀ a S' nm',S'.length + nm'.length <= S.length + nm.length -> Less S nm (k a S' nm')) : Less S nm (r.andThen k):=by
 intro b S2 nm2 e
 unfold PRes.andThen at e
 split at e
 ·cases e
 ·cases e
 ·exact hk _ _ _ (h _ _ _ rfl) _ _ _ e
theorem Less.mono {α : Type} {S S1 : List Item} {nm nm1 : Names} {r : PRes α} (h : Less S1 nm1 r) (hl : S1.length + nm1.length <= S.length + nm.length) : Less S nm r :=
 fun a S' nm' e=>Nat.le_trans (h a S' nm' e) hl
theorem Less.no {α : Type} {S : List Item} {nm : Names} : Less (α:=α) S nm Option.none:=fun _ _ _ e=>by cases e
theorem Less.err {α : Type} {S : List Item} {nm : Names} : Less (α:=α) S nm (some Option.none):=fun _ _ _ e=>by cases e
theorem Less.ret {α : Type} {S S1 : List Item} {nm nm1 : Names} {a : α} (hl : S1.length + nm1.length <= S.length + nm.length) : Less S nm (some (some (a,S1,nm1))):=fun _ _ _ e=>by cases e;exact hl
theorem nodeM_cons (al : Bool) (f : Nat) (x : Item) (S1 : List Item) (nm : Names) : nodeM al (f + 1) (x :: S1) nm=(if x.typ == 1 then (match S1 with
   | []=>none
   | t :: S2=>if t.typ == 5 then (objsM al f 2 S2 nm).andThen fun ks S3 nm3 =>
     if said t.val ks then some ((populate al t.val ks).map fun n=>(n,S3,nm3)) else none
    else some none) else some none):=by
 conv=>lhs;unfold nodeM
theorem objectM_cons (al : Bool) (f : Nat) (x : Item) (S1 : List Item) (nm : Names) : objectM al (f + 1) (x :: S1) nm=(
   if x.typ == 1 then (nodeM al f (x :: S1) nm).andThen fun n S2 nm2=>tailM al f n S2 nm2
   else if x.typ == 3 then arrayM al f (x :: S1) nm
   else if x.typ == 6 then
    if x.val.toList == [110,105,108] then some (some (.nil,S1,nm))
    else (match S1 with
     | []=>none
     | y :: S2=>if y.typ == 7 then (nodeM al f S2 nm).andThen fun o S3 nm3=>tailM al f (.bind x.val o (nm3.idxOf x.val.toList)) S3 (addName nm3 x.val.toList)
      else tailM al f (.bind x.val .nul (nm.idxOf x.val.toList)) (y :: S2) (addName nm x.val.toList))
   else if x.typ == 9 then tailM al f .any S1 nm
   else if x.typ == 10 then some (some (.str x.val,S1,nm))
   else some none):=by
 conv=>lhs;unfold objectM
theorem objsM_cons (al : Bool) (f : Nat) (stop : Int) (x : Item) (S1 : List Item) (nm : Names) : objsM al (f + 1) stop (x :: S1) nm=(if x.typ == stop then some (some ([],S1,nm)) else
   (objectM al f (x :: S1) nm).andThen fun n S2 nm2=>(objsM al f stop S2 nm2).andThen fun ks S3 nm3=>some (some (n :: ks,S3,nm3))):=by
 conv=>lhs;unfold objsM
theorem tailM_cons (al : Bool) (f : Nat) (n : PN) (x : Item) (S1 : List Item) (nm : Names) : tailM al (f + 1) n (x :: S1) nm=(if x.typ == 8 then (objectM al f S1 nm).andThen fun t S2 nm2=>some (some (.list n t,S2,nm2)) else some (some (n,x :: S1,nm))):=by
 conv=>lhs;unfold tailM
theorem arrayM_cons (al : Bool) (f : Nat) (x : Item) (S1 : List Item) (nm : Names) : arrayM al (f + 1) (x :: S1) nm=(if x.typ == 3 then (objsM al f 4 S1 nm).andThen fun ks S2 nm2=>some (some (ks.foldr PN.list (.list .nul .nul),S2,nm2)) else some none):=by
 conv=>lhs;unfold arrayM
theorem model_len (al : Bool) : ∀ f : Nat,(∀ S nm,Less S nm (nodeM al f S nm)) /\ (∀ st S nm,Less S nm (objsM al f st S nm)) /\ (∀ S nm,Less S nm (objectM al f S nm)) /\ (∀ n S nm,Less S nm (tailM al f n S nm)) /\ (∀ S nm,Less S nm (arrayM al f S nm))
 | 0=>⟨fun _ _=>by rw [nodeM];exact Less.no,fun _ _ _=>by rw [objsM];exact Less.no,fun _ _=>by rw [objectM];exact Less.no,fun _ _ _=>by rw [tailM];exact Less.no,fun _ _=>by rw [arrayM];exact Less.no⟩
 | f + 1=>by
  obtain ⟨h1,h2,h3,h4,h5⟩:=model_len al f
  refine ⟨fun S nm=>?_,fun st S nm=>?_,fun S nm=>?_,fun n S nm=>?_,fun S nm=>?_⟩
  ·cases S with
   | nil=>rw [nodeM];exact Less.no
   | cons x S1 =>
   rw [nodeM_cons]
   ·split
    ·split
     ·exact Less.no
     ·split
      ·refine ((h2 2 _ nm).mono (by simp only [List.length_cons];omega)).andThen fun ks S3 nm3 hl=>?_
       split
       ·intro a S' nm' e
        simp only [Option.some.injEq,Option.map_eq_some_iff] at e
        obtain ⟨n,-,e⟩:=e
        cases e;exact hl
       ·exact Less.no
      ·exact Less.err
    ·exact Less.err
  ·cases S with
   | nil=>rw [objsM];exact Less.no
   | cons x S1 =>
   rw [objsM_cons]
   ·split
    ·exact Less.ret (by simp only [List.length_cons];omega)
    ·refine (h3 _ nm).andThen fun n S2 nm2 hl=>?_
     exact ((h2 st S2 nm2).mono hl).andThen fun ks S3 nm3 hl'=>Less.ret hl'
  ·cases S with
   | nil=>rw [objectM];exact Less.no
   | cons x S1 =>
   rw [objectM_cons]
   ·split
    ·exact (h1 _ nm).andThen fun n S2 nm2 hl=>(h4 n S2 nm2).mono hl
    ·split
     ·exact h5 _ nm
     ·split
      ·split
       ·exact Less.ret (by simp only [List.length_cons];omega)
       ·split
        ·exact Less.no
        ·rename_i y S2
         split
         ·intro a S' nm' e
          unfold PRes.andThen at e
          split at e
          ·cases e
          ·cases e
          ·rename_i o S3 nm3 he
           have q1:=h1 _ _ _ _ _ he
           have q2:=h4 _ _ _ _ _ _ e
           have q3:=addName_len nm3
           have:=q3 x.val.toList
           simp at q1 q2 ⊢
           omega
         ·refine (h4 _ _ _).mono ?_
          have:=addName_len nm
          simp
          have:=this x.val.toList
          omega
      ·split
       ·exact (h4 _ _ nm).mono (by simp only [List.length_cons];omega)
       ·split
        ·exact Less.ret (by simp only [List.length_cons];omega)
        ·exact Less.err
  ·cases S with
   | nil=>rw [tailM];exact Less.no
   | cons x S1 =>
   rw [tailM_cons]
   ·split
    ·exact ((h3 _ nm).mono (by simp only [List.length_cons];omega)).andThen fun t S2 nm2 hl=>Less.ret hl
    ·exact Less.ret (Nat.le_refl _)
  ·cases S with
   | nil=>rw [arrayM];exact Less.no
   | cons x S1 =>
   rw [arrayM_cons]
   ·split
    ·exact ((h2 4 _ nm).mono (by simp only [List.length_cons];omega)).andThen fun ks S2 nm2 hl=>Less.ret hl
    ·exact Less.err
end Go.Proofs.YtigalkobmfbdaaaGreatDoor
