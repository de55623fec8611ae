/- The lexer: what it computes, as a Lean function over bytes; and that the Go text computes it. -/
import Derived.Test.YtigalkobmfbdaaaGreatDoorMix2a
import Derived.Test.YtigalkobmfbdaaaGreatDoorSpec1Z2
import Derived.Laws.AppendOwn
import Derived.Deep.LoopGhost
import Derived.Deep.Quiet
set_option linter.unusedVariables false
set_option linter.unusedSimpArgs false
set_option maxRecDepth 100000
set_option maxHeartbeats 1000000
namespace Go.Proofs.YtigalkobmfbdaaaGreatDoor
open Go.RowKit
def props : List Int:=[1,1,1,1,1,1,1,1,1,1,1,1,1,1,1,1,1,1,1,1,1,1,1,1,1,1,1,1,1,1,1,1,144,130,130,130,136,130,130,130,130,130,130,136,130,130,130,130,132,132,132,132,132,132,132,132,132,132,130,130,136,136,136,130,130,160,160,160,160,160,160,160,160,160,160,160,160,160,160,160,160,160,160,160,160,160,160,160,160,160,160,130,130,130,136,130,136,192,192,192,192,192,192,192,192,192,192,192,192,192,192,192,192,192,192,192,192,192,192,192,192,192,192,130,136,130,136,1,1,1,1,1,1,1,1,1,1,1,1,1,1,1,1,1,1,1,1,1,1,1,1,1,1,1,1,1,1,1,1,1,16,130,136,136,136,136,136,130,136,136,224,130,136,0,136,136,136,136,132,132,136,192,130,130,136,132,224,130,132,132,132,130,160,160,160,160,160,160,160,160,160,160,160,160,160,160,160,160,160,160,160,160,160,160,160,136,160,160,160,160,160,160,160,192,192,192,192,192,192,192,192,192,192,192,192,192,192,192,192,192,192,192,192,192,192,192,192,136,192,192,192,192,192,192,192,192]
def TabAt (w : World) : Prop:=∀ i : Nat,i < 256 -> w.cell? ⟨1,i,none⟩=some (.int .u8 (props.getD i 0))
theorem TabAt.mono {w w' : World} (h : TabAt w) (hE : Ext w w') : TabAt w':=fun i hi=>hE.keep (h i hi)
def isUp (r : Int) : Bool:=decide (65 <= r) && decide (r <= 90)
def isLow (r : Int) : Bool:=decide (97 <= r) && decide (r <= 122)
def isSpace (r : Int) : Bool:=r == 9 || r == 10 || r == 11 || r == 12 || r == 13 || r == 32
theorem props_up : ∀ i : Nat,i < 128 -> (bits BinOp.and IntKind.u8 (props.getD i 0) 96 == 32)=isUp i:=by decide +kernel
theorem props_low : ∀ i : Nat,i < 128 -> (bits BinOp.and IntKind.u8 (props.getD i 0) 96 == 64)=isLow i:=by decide +kernel
theorem TabAt.get {w : World} (h : TabAt w) (i : Nat) (hi : i < 128) : ∃ v,w.cell? ⟨1,i,none⟩=some (.int .u8 v) /\ (bits BinOp.and IntKind.u8 v 96 == 32)=isUp i /\ (bits BinOp.and IntKind.u8 v 96 == 64)=isLow i :=
 ⟨_,h i (by omega),props_up i hi,props_low i hi⟩
theorem isUpper_calls (i : Nat) (hi : i < 128) (w : World) (hT : TabAt w) : Calls Tryz.prog 157 #[.int .i32 i] w fun e w'=>e=.returned (.bool (isUp i)) /\ w'=w:=by
 obtain ⟨v,hc,h1,h2⟩:=hT.get i hi
 have HP:=Lib.hid h1
 clear h1 h2
 go_enter Tryz.func157,Tryz.ntmps157
 go_wp2_with fail
 go_ret
 exact ⟨ret_bool HP.out,rfl⟩
theorem isLower_calls (i : Nat) (hi : i < 128) (w : World) (hT : TabAt w) : Calls Tryz.prog 159 #[.int .i32 i] w fun e w'=>e=.returned (.bool (isLow i)) /\ w'=w:=by
 obtain ⟨v,hc,h1,h2⟩:=hT.get i hi
 have HP:=Lib.hid h2
 clear h1 h2
 go_enter Tryz.func159,Tryz.ntmps159
 go_wp2_with fail
 go_ret
 exact ⟨ret_bool HP.out,rfl⟩
theorem isSpace_calls (i : Nat) (hi : i < 128) (w : World) : Calls Tryz.prog 153 #[.int .i32 i] w fun e w'=>e=.returned (.bool (isSpace i)) /\ w'=w:=by
 cases h : isSpace i
 ·have HS:=Lib.hid h
  simp only [isSpace,Bool.or_eq_false_iff] at h
  obtain ⟨⟨⟨⟨⟨h1,h2⟩,h3⟩,h4⟩,h5⟩,h6⟩:=h
  have h7 : ((i : Int) == 133)=false:=beq_eq_false_iff_ne.2 (by omega)
  have h8 : ((i : Int) == 160)=false:=beq_eq_false_iff_ne.2 (by omega)
  go_enter Tryz.func153,Tryz.ntmps153
  go_wp2_with fail
  go_ret
  exact ⟨rfl,rfl⟩
 ·simp only [isSpace,Bool.or_eq_true,beq_iff_eq] at h
  have h' : i=9 \/ i=10 \/ i=11 \/ i=12 \/ i=13 \/ i=32:=by omega
  rcases h' with rfl | rfl | rfl | rfl | rfl | rfl
  all_goals exact (callK_sound (v:=.bool true) (w1:=w) Tryz.func153 (by kernel_rfl)).mono fun e w' ⟨he,hw⟩=>⟨he,hw.symm⟩
def alnum (r : Int) : Bool:=(decide (48 <= r) && decide (r <= 57)) || (decide (97 <= r) && decide (r <= 122)) || (decide (65 <= r) && decide (r <= 90))
theorem alnum_calls (r : Int) (w : World) : Calls Tryz.prog 167 #[.int .i32 r] w fun e w'=>e=.returned (.bool (alnum r)) /\ w'=w:=by
 have HA : Hid (alnum r=((decide (48 <= r) && decide (r <= 57)) || (decide (97 <= r) && decide (r <= 122)) || (decide (65 <= r) && decide (r <= 90)))):=Lib.hid rfl
 cases h1 : decide (48 <= r) <;> cases h2 : decide (r <= 57) <;> cases h3 : decide (97 <= r) <;> cases h4 : decide (r <= 122) <;> cases h5 : decide (65 <= r) <;> cases h6 : decide (r <= 90)
 all_goals first
  | (exfalso;simp only [decide_eq_true_eq,decide_eq_false_iff_not] at h1 h2 h3 h4 h5 h6;omega)
  | (have H:=Lib.hid (show alnum r=_ by rw [HA.out,h1,h2,h3,h4,h5,h6])
     have G2:=Lib.hid h2
     have G4:=Lib.hid h4
     have G6:=Lib.hid h6
     go_enter Tryz.func167,Tryz.ntmps167
     simp only [decide_eq_true_eq,decide_eq_false_iff_not,Int.not_le] at h1 h2 h3 h4 h5 h6
     go_wp2_with fail
     go_ret
     exact ⟨ret_bool (by simp [H.out,G2.out,G4.out,G6.out]),rfl⟩)
theorem decode_calls (s : ByteArray) (h0 : 0 < s.size) (hlt : s[0].toNat < 128) (w : World) : Calls Tryz.prog 164 #[.string s] w fun e w'=>e=.returned (.tuple #[.int .i32 s[0].toNat,.int .i64 1]) /\ w'=w:=by
 have hne : s.toList.isEmpty=false:=by
  cases h : s.toList with
  | nil=>have:=size_toList s;rw [h] at this;simp at this;omega
  | cons a l=>rfl
 have hl : ((s[0].toNat : Nat) : Int) < 128:=by omega
 go_enter Tryz.func164,Tryz.ntmps164
 go_wp2_with fail
 go_ret2
 exact ⟨rfl,rfl⟩
structure Item where
 typ : Int
 val : ByteArray
 pos : Int
def itemsV : List Item -> List Value
 | []=>[]
 | i :: l=>.int .i64 i.typ :: .string i.val :: .int .i64 i.pos :: itemsV l
theorem itemsV_append (l m : List Item) : itemsV (l ++ m)=itemsV l ++ itemsV m:=by
 induction l with
 | nil=>rfl
 | cons x l ih=>simp [itemsV,ih]
def LexAt (w0 w : World) (inp : ByteArray) (st ps wd : Nat) (its : List Item) : Prop :=
 Ext w0 w /\ Blk w (w0.heap.size + 1) #[.string inp,.int .i64 st,.int .i64 ps,.int .i64 wd,.func (.func 108) #[] #[.pointer (some ⟨w0.heap.size,0,none⟩)]] 179 /\ ∃ v,Blk w w0.heap.size #[v] 117 /\ w.ownsRow (w0.heap.size + 2) 115 3 v its.length (itemsV its)
theorem underlying117 : Tryz.prog.underlying 117=some (.slice 115):=by kernel_rfl
theorem info115 : (Tryz.prog.info? 115).map (fun i=>(i.zero,i.size,i.bytes))=some (some (.agg #[.int .i64 0,.string ⟨#[]⟩,.int .i64 0]),3,32):=by kernel_rfl
theorem Blk.grown' {w w' : World} {row : Option Nat} {b : Nat} {cs : Array Value} {t : TypeId} (h : Blk w b cs t) (hg : w.grownBy w' row) (hne : some b ≠ row) : Blk w' b cs t:=(hg.block b h.lt hne).trans h
theorem ownsRow_ext {w w' : World} {base : Nat} {e : TypeId} {size : Nat} {v : Value} {n : Nat} {xs : List Value} (h : w.ownsRow base e size v n xs) (hE : Ext w w') : w'.ownsRow base e size v n xs:=by
 obtain ⟨h1,h2⟩:=h
 refine ⟨h1,?_⟩
 rcases h2 with h2 | ⟨g,cap,cur,rfl,hb,hg,r⟩
 ·exact .inl h2
 ·exact .inr ⟨g,cap,cur,rfl,hb,(hE.block (Array.getElem?_eq_some_iff.1 hg).1).trans hg,r⟩
theorem LexAt.ext {w0 w w' : World} {inp : ByteArray} {st ps wd : Nat} {its : List Item} (h : LexAt w0 w inp st ps wd its) (hE : Ext w w') : LexAt w0 w' inp st ps wd its:=by
 obtain ⟨h1,h2,v,h3,h4⟩:=h
 exact ⟨h1.trans hE,h2.ext hE,v,h3.ext hE,ownsRow_ext h4 hE⟩
theorem owns_slice {w : World} {base : Nat} {e : TypeId} {size : Nat} {v : Value} {n : Nat} {xs : List Value} (h : w.ownsRow base e size v n xs) : ∃ a c,v=.slice a n c:=by
 rcases h.2 with ⟨rfl,rfl⟩ | ⟨g,cap,cur,rfl,-⟩
 ·exact ⟨_,_,rfl⟩
 ·exact ⟨_,_,rfl⟩
theorem yield_calls {w0 w : World} {inp : ByteArray} {st ps wd : Nat} {its : List Item} (it : Item) (h : LexAt w0 w inp st ps wd its) (hn : its.length <= 100000) :
  Calls Tryz.prog 108 #[.agg #[.int .i64 it.typ,.string it.val,.int .i64 it.pos],.pointer (some ⟨w0.heap.size,0,none⟩)] w fun e w'=>e=.returned (.bool true) /\ LexAt w0 w' inp st ps wd (its ++ [it]):=by
 obtain ⟨hE,hL,v,hV,hO⟩:=h
 obtain ⟨i0,hi,hz0,hz1,hz2⟩:=info_parts info115
 have c0 : w.cell? ⟨w0.heap.size,0,none⟩=some v:=by rw [hV.cell];rfl
 have hf:=hV.frozen
 have hlt:=hV.lt
 have hE0:=hE.size
 have hL2:=hL.lt
 go_enter Tryz.func108,Tryz.ntmps108
 go_wp2_with (first
  | (at_builtin;refine wpList_append_own _ rfl _ _ 117 rfl (w0.heap.size + 2) 115 i0 _ 3 32 underlying117 hi hz0 hz1 hz2 rfl (by decide) _ _ _ rfl ((hO.alloc _).alloc _) ⟨w.heap.size + 1,0,none⟩ 1 1 [.int .i64 it.typ,.string it.val,.int .i64 it.pos] rfl rfl ?c1 ?c2 ?c3 ?c4 ?c5 ?_)
  | go_in)
 case c1 =>
  intro j u hu
  match j,hu with
  | 0,hu=>simp at hu;subst hu;simp [Addr.add]
  | 1,hu=>simp at hu;subst hu;simp [Addr.add]
  | 2,hu=>simp at hu;subst hu;simp [Addr.add]
  | j + 3,hu=>simp at hu
 case c2=>intro u hu;simp at hu;rcases hu with rfl | rfl | rfl <;> rfl
 case c3=>unfold maxLen;omega
 case c4=>omega
 case c5=>simp;omega
 intro v' w2 hO2 hG hnil
 clear hnil
 obtain ⟨va,vc,rfl⟩:=owns_slice hO2
 have hown : ∀ k,v.ownBlock=some k -> w0.heap.size + 2 <= k:=fun k hk=>(hO.lt k hk).1
 have hV2:=(((hV.ext (Ext.alloc w _)).ext (Ext.alloc _ _)).grown' hG (by intro e;have:=hown _ e.symm;omega))
 have hL3:=(((hL.ext (Ext.alloc w _)).ext (Ext.alloc _ _)).grown' hG (by intro e;have:=hown _ e.symm;omega))
 have hE2 : Ext w0 w2:=(((hE.trans (Ext.alloc w _)).trans (Ext.alloc _ _)).grown hG (fun k hk=>by have:=hown k hk;omega))
 clear c0 hf hlt hV hL hG hE hO
 have hf:=hV2.frozen
 have hlt:=hV2.lt
 have c0 : w2.cell? ⟨w0.heap.size,0,none⟩=some v:=by rw [hV2.cell];rfl
 have HO2:=Lib.hid hO2
 clear hO2
 go_wp2_with fail
 go_ret
 refine ⟨rfl,hE2.setCell (by simp) _,hL3.set_other (by simp) _,_,hV2.set 0 _,?_⟩
 rw [List.length_append,itemsV_append]
 exact ownsRow_setCell_below HO2.out (by simp) _
theorem LexAt.cells {w0 w : World} {inp : ByteArray} {st ps wd : Nat} {its : List Item} (h : LexAt w0 w inp st ps wd its) :
  w.cell? ⟨w0.heap.size + 1,0,none⟩=some (.string inp) /\ w.cell? ⟨w0.heap.size + 1,1,none⟩=some (.int .i64 st) /\ w.cell? ⟨w0.heap.size + 1,2,none⟩=some (.int .i64 ps) /\ w.cell? ⟨w0.heap.size + 1,3,none⟩=some (.int .i64 wd) /\ w.cell? ⟨w0.heap.size + 1,4,none⟩=some (.func (.func 108) #[] #[.pointer (some ⟨w0.heap.size,0,none⟩)]) /\ (∀ o,w.frozen? ⟨w0.heap.size + 1,o,none⟩=false) /\ w0.heap.size + 1 < w.heap.size:=by
 obtain ⟨h1,h2,-⟩:=h
 refine ⟨?_,?_,?_,?_,?_,h2.frozen,h2.lt⟩ <;> (rw [h2.cell];rfl)
theorem LexAt.set {w0 w : World} {inp : ByteArray} {st ps wd : Nat} {its : List Item} (h : LexAt w0 w inp st ps wd its) :
  (∀ n : Nat,LexAt w0 (w.setCell ⟨w0.heap.size + 1,1,none⟩ (.int .i64 n)) inp n ps wd its) /\ (∀ n : Nat,LexAt w0 (w.setCell ⟨w0.heap.size + 1,2,none⟩ (.int .i64 n)) inp st n wd its) /\ (∀ n : Nat,LexAt w0 (w.setCell ⟨w0.heap.size + 1,3,none⟩ (.int .i64 n)) inp st ps n its):=by
 obtain ⟨h1,h2,v,h3,h4⟩:=h
 exact ⟨fun n=>⟨h1.setCell (by simp) _,h2.set 1 (.int .i64 n),v,h3.set_other (by simp) _,ownsRow_setCell_below h4 (by simp) _⟩,fun n=>⟨h1.setCell (by simp) _,h2.set 2 (.int .i64 n),v,h3.set_other (by simp) _,ownsRow_setCell_below h4 (by simp) _⟩,fun n=>⟨h1.setCell (by simp) _,h2.set 3 (.int .i64 n),v,h3.set_other (by simp) _,ownsRow_setCell_below h4 (by simp) _⟩⟩
theorem LexAt.drew {w0 w : World} {inp : ByteArray} {st ps wd : Nat} {its : List Item} (h : LexAt w0 w inp st ps wd its) : LexAt w0 w.drew inp st ps wd its:=h.ext (Ext.drew w)
theorem LexAt.drewN {w0 w : World} {inp : ByteArray} {st ps wd : Nat} {its : List Item} (h : LexAt w0 w inp st ps wd its) (n : Nat) : LexAt w0 (w.drewN n) inp st ps wd its:=h.ext (Ext.drewN w n)
theorem ignore_calls {w0 w : World} {inp : ByteArray} {st ps wd : Nat} {its : List Item} (h : LexAt w0 w inp st ps wd its) :
  Calls Tryz.prog 154 #[.pointer (some ⟨w0.heap.size + 1,0,none⟩)] w fun e w'=>e=.returned (.tuple #[]) /\ LexAt w0 w' inp ps ps wd its:=by
 obtain ⟨c0,c1,c2,c3,c4,hf,hlt⟩:=h.cells
 have H:=Lib.hid h
 clear h
 go_enter Tryz.func154,Tryz.ntmps154
 go_wp2_with fail
 go_end0
 exact ⟨rfl,H.out.set.1 ps⟩
theorem backup_calls {w0 w : World} {inp : ByteArray} {st ps wd : Nat} {its : List Item} (h : LexAt w0 w inp st ps wd its) (hw : wd <= ps) (hs : ps <= 100000) :
  Calls Tryz.prog 155 #[.pointer (some ⟨w0.heap.size + 1,0,none⟩)] w fun e w'=>e=.returned (.tuple #[]) /\ LexAt w0 w' inp st (ps - wd) wd its:=by
 obtain ⟨c0,c1,c2,c3,c4,hf,hlt⟩:=h.cells
 have H:=Lib.hid h
 clear h
 go_enter Tryz.func155,Tryz.ntmps155
 go_wp2_with fail
 refine wp_region_still_tail 11 (by kernel_rfl) (by kernel_rfl) ?_
 simp only [List.take_succ_cons,List.take_zero,List.drop_succ_cons,List.drop_zero]
 change wpStill _ _ (World.drew _) (fun a'=>wpList _ _ _ _ a' (World.drew _)) _ _
 repeat still_step
 refine wpStill_nil ?_
 go_wp2_with fail
 go_end0
 refine ⟨rfl,?_⟩
 have:=H.out.drew.set.2.1 (ps - wd)
 rw [Int.ofNat_sub hw] at this
 exact this
theorem ExtM.set1 {lb : Nat} {a b : World} (h : ExtM (·=lb) a b) (o : Nat) (u : Value) : ExtM (·=lb) a (b.setCell ⟨lb,o,none⟩ u):=h.setCell (.inl rfl) u
theorem next_end {w0 w : World} {inp : ByteArray} {st ps wd : Nat} {its : List Item} (h : LexAt w0 w inp st ps wd its) (hs : inp.size <= 100000) (hp : ps=inp.size) :
  Calls Tryz.prog 151 #[.pointer (some ⟨w0.heap.size + 1,0,none⟩)] w fun e w'=>e=.returned (.int .i32 (-1)) /\ LexAt w0 w' inp st ps 0 its /\ ExtM (·=w0.heap.size + 1) w w':=by
 obtain ⟨c0,c1,c2,c3,c4,hf,hlt⟩:=h.cells
 have H:=Lib.hid h
 clear h
 subst hp
 go_enter Tryz.func151,Tryz.ntmps151
 go_wp2_with fail
 go_quiet (fail)
 go_wp2_with fail
 go_ret
 exact ⟨rfl,(H.out.drewN _).set.2.2 0,((Ext.drewN _ _).toM _).set1 3 _⟩
theorem next_more {w0 w : World} {inp : ByteArray} {st ps wd : Nat} {its : List Item} (h : LexAt w0 w inp st ps wd its) (hs : inp.size <= 100000) (hp : ps < inp.size) (hc : inp[ps].toNat < 128) :
  Calls Tryz.prog 151 #[.pointer (some ⟨w0.heap.size + 1,0,none⟩)] w fun e w'=>e=.returned (.int .i32 (inp[ps].toNat)) /\ LexAt w0 w' inp st (ps + 1) 1 its /\ ExtM (·=w0.heap.size + 1) w w':=by
 obtain ⟨c0,c1,c2,c3,c4,hf,hlt⟩:=h.cells
 have H:=Lib.hid h
 clear h
 have hple : ps <= inp.size:=by omega
 have hsz : (inp.extract ps inp.size).size=inp.size - ps:=by simp
 have hg : (inp.extract ps inp.size)[0]'(by omega)=inp[ps]:=by simp [ByteArray.getElem_extract]
 go_enter Tryz.func151,Tryz.ntmps151
 go_wp2_with fail
 go_quiet (fail)
 go_wp2_with fail
 refine wp_region_still_tail 17 (by kernel_rfl) (by kernel_rfl) ?_
 simp only [List.take_succ_cons,List.take_zero,List.drop_succ_cons,List.drop_zero]
 change wpStill _ _ (World.drew _) (fun a'=>wpList _ _ _ _ a' (World.drew _)) _ _
 repeat still_step
 still_call (decode_calls (inp.extract ps inp.size) (by omega) (by rw [hg];exact hc) _)
 repeat still_step
 refine wpStill_nil ?_
 go_wp2_with fail
 refine wp_region_still_tail 11 (by kernel_rfl) (by kernel_rfl) ?_
 simp only [List.take_succ_cons,List.take_zero,List.drop_succ_cons,List.drop_zero]
 change wpStill _ _ (World.drew _) (fun a'=>wpList _ _ _ _ a' (World.drew _)) _ _
 repeat still_step
 refine wpStill_nil ?_
 go_wp2_with fail
 go_ret
 exact ⟨rfl,(((H.out.drewN _).set.2.2 1).set.2.1 (ps + 1)).drew,((((Ext.drewN _ _).toM _).set1 3 _).set1 2 _).ext (Ext.drew _)⟩
theorem emit_calls {w0 w : World} {inp : ByteArray} {st ps wd : Nat} {its : List Item} (t : Int) (h : LexAt w0 w inp st ps wd its) (hs : inp.size <= 100000) (h1 : st <= ps) (h2 : ps <= inp.size) (hn : its.length <= 100000) :
  Calls Tryz.prog 152 #[.pointer (some ⟨w0.heap.size + 1,0,none⟩),.int .i64 t] w fun e w'=>e=.returned (.bool true) /\ LexAt w0 w' inp ps ps wd (its ++ [⟨t,inp.extract st ps,st⟩]):=by
 obtain ⟨c0,c1,c2,c3,c4,hf,hlt⟩:=h.cells
 have H:=Lib.hid h
 clear h
 go_enter Tryz.func152,Tryz.ntmps152
 go_wp2_with fail
 refine wp_region_still_tail 23 (by kernel_rfl) (by kernel_rfl) ?_
 simp only [List.take_succ_cons,List.take_zero,List.drop_succ_cons,List.drop_zero]
 change wpStill _ _ (World.drew _) (fun a'=>wpList _ _ _ _ a' (World.drew _)) _ _
 repeat still_step
 refine wpStill_nil ?_
 go_wp2_with fail
 refine (yield_calls ⟨t,inp.extract st ps,st⟩ (H.out.ext (Ext.drew _)) hn).mono ?_
 rintro e w2 ⟨rfl,hL⟩
 obtain ⟨d0,d1,d2,d3,d4,hf2,hlt2⟩:=hL.cells
 have HL:=Lib.hid hL
 clear hL c0 c1 c2 c3 c4 hf hlt
 go_wp2_with fail
 go_ret
 exact ⟨rfl,HL.out.set.1 ps⟩
theorem emitValue_calls {w0 w : World} {inp : ByteArray} {st ps wd : Nat} {its : List Item} (t : Int) (x : ByteArray) (h : LexAt w0 w inp st ps wd its) (hn : its.length <= 100000) :
  Calls Tryz.prog 166 #[.pointer (some ⟨w0.heap.size + 1,0,none⟩),.int .i64 t,.string x] w fun e w'=>e=.returned (.bool true) /\ LexAt w0 w' inp ps ps wd (its ++ [⟨t,x,st⟩]):=by
 obtain ⟨c0,c1,c2,c3,c4,hf,hlt⟩:=h.cells
 have H:=Lib.hid h
 clear h
 go_enter Tryz.func166,Tryz.ntmps166
 go_wp2_with fail
 refine wp_region_still_tail 11 (by kernel_rfl) (by kernel_rfl) ?_
 simp only [List.take_succ_cons,List.take_zero,List.drop_succ_cons,List.drop_zero]
 change wpStill _ _ (World.drew _) (fun a'=>wpList _ _ _ _ a' (World.drew _)) _ _
 repeat still_step
 refine wpStill_nil ?_
 go_wp2_with fail
 refine (yield_calls ⟨t,x,st⟩ (H.out.ext (Ext.drew _)) hn).mono ?_
 rintro e w2 ⟨rfl,hL⟩
 obtain ⟨d0,d1,d2,d3,d4,hf2,hlt2⟩:=hL.cells
 have HL:=Lib.hid hL
 clear hL c0 c1 c2 c3 c4 hf hlt
 go_wp2_with fail
 go_ret
 exact ⟨rfl,HL.out.set.1 ps⟩
theorem errorf_calls {w0 w : World} {inp : ByteArray} {st ps wd : Nat} {its : List Item} (x : ByteArray) (h : LexAt w0 w inp st ps wd its) (hn : its.length <= 100000) :
  Calls Tryz.prog 161 #[.pointer (some ⟨w0.heap.size + 1,0,none⟩),.string x] w fun e w'=>e=.returned .nilFunc /\ LexAt w0 w' inp st ps wd (its ++ [⟨0,x,st⟩]):=by
 obtain ⟨c0,c1,c2,c3,c4,hf,hlt⟩:=h.cells
 have H:=Lib.hid h
 clear h
 go_enter Tryz.func161,Tryz.ntmps161
 go_wp2_with fail
 refine wp_region_still_tail 10 (by kernel_rfl) (by kernel_rfl) ?_
 simp only [List.take_succ_cons,List.take_zero,List.drop_succ_cons,List.drop_zero]
 change wpStill _ _ (World.drew _) (fun a'=>wpList _ _ _ _ a' (World.drew _)) _ _
 repeat still_step
 refine wpStill_nil ?_
 go_wp2_with fail
 refine (yield_calls ⟨0,x,st⟩ (H.out.ext (Ext.drew _)) hn).mono ?_
 rintro e w2 ⟨rfl,hL⟩
 go_wp2_with fail
 go_ret
 exact ⟨rfl,hL⟩
end Go.Proofs.YtigalkobmfbdaaaGreatDoor
