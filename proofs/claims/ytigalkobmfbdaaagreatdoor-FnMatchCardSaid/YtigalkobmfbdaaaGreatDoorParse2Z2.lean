/- Parser.Parse: up to the root. -/
import Derived.Test.YtigalkobmfbdaaaGreatDoorMix2c
import Derived.Test.YtigalkobmfbdaaaGreatDoorMix2d
set_option linter.unusedVariables false
set_option linter.unusedSimpArgs false
set_option maxRecDepth 100000
set_option maxHeartbeats 1000000
namespace Go.Proofs.YtigalkobmfbdaaaGreatDoor
open Go.RowKit
theorem itemsAt_of_owns2 {w : World} {base : Nat} {v : Value} {its : List Item} (h : w.ownsRow base 115 3 v its.length (itemsV its)) : ∃ a c,v=.slice a its.length c /\ its.length <= c /\ ItemsAt w a its /\ ∀ b o,a=some ⟨b,o,none⟩ -> base <= b:=by
 obtain ⟨a,c,rfl,hc,hA⟩:=itemsAt_of_owns h
 refine ⟨a,c,rfl,hc,hA,?_⟩
 rintro b o rfl
 exact (h.lt b rfl).1
theorem lex_calls2 (inp : ByteArray) (R : List Tok) (w : World) (hs : inp.size <= 90000) (hT : TabAt w) (hM : lexM inp.toList .start=some R) :
  Calls Tryz.prog 86 #[.string inp] w fun e w'=>∃ a c its,e=.returned (.slice a its.length c) /\ its.length <= c /\ ItemsAt w' a its /\ its.map tokOf=R /\ Fit its /\ its.length <= 90001 /\ Ext w w' /\ ∀ b o,a=some ⟨b,o,none⟩ -> w.heap.size <= b:=by
 have hR : R.length <= 90001:=by have:=(lexM_len _).1 _ hM;rw [size_toList] at this;omega
 go_enter Tryz.func86,Tryz.ntmps86
 go_wp2_with fail
 refine (run_calls (w0:=w) (R:=R) ?_ hs hT hM).mono ?_
 ·refine ⟨(Ext.alloc _ _).trans (Ext.alloc _ _),?_,.slice none 0 0,(Blk.new w _ _).ext (Ext.alloc _ _),World.ownsRow_nil _ _ _ _⟩
  have:=Blk.new (w.alloc (.cells #[.slice none 0 0] 117)) #[.string inp,.int .i64 0,.int .i64 0,.int .i64 0,.func (.func 108) #[] #[.pointer (some ⟨w.heap.size,0,none⟩)]] 179
  simpa using this
 rintro e w' ⟨rfl,st,ps,wd,its,⟨hE,hB,v,hV,hO⟩,hF,hI⟩
 have hl : its.length <= 90001:=by rw [<- hI] at hR;simpa using hR
 obtain ⟨a,c,rfl,hc,hA,hnew⟩:=itemsAt_of_owns2 hO
 have c0 : w'.cell? ⟨w.heap.size,0,none⟩=some (.slice a its.length c):=by rw [hV.cell];rfl
 have HA:=Lib.hid hA
 have HI:=Lib.hid hI
 have HN:=Lib.hid hnew
 clear hB hV hO hA hI hnew
 go_wp2_with fail
 go_ret
 exact ⟨a,c,its,rfl,hc,HA.out,HI.out,hF,hl,hE,fun b o e=>by have:=HN.out b o e;omega⟩
abbrev pNew (al : Bool) : Array Value:=#[.bool al,.int .i64 0,.string ⟨#[]⟩,.int .i64 0,.pointer none,.slice none 0 0,.map none]
theorem row81 : (Tryz.prog.underlying 81).map (fun d=>match d with | .struct _ | .array _ _=>true | _=>false)=some true:=by kernel_rfl
theorem size81 : (Tryz.prog.info? 81).map (·.size)=some 5:=by kernel_rfl
theorem PSt.start {w : World} {pb : Nat} {al : Bool} {a : Option Addr} {c : Nat} {its : List Item} (hB : PBlk w pb al false ⟨0,⟨#[]⟩,0⟩ a its.length c none) (hc : its.length <= c) (hA : ItemsAt w a its) (hF : Fit its) (hl : its.length <= 100000) (hn : ∀ b o,a=some ⟨b,o,none⟩ -> its ≠ [] -> b ≠ pb /\ b < w.heap.size) : PSt w pb w.heap.size al false ⟨0,⟨#[]⟩,0⟩ its none []:=by
 refine ⟨⟨its,a,c,hB,hc,⟨hl,?_⟩,⟨hA,hn⟩,Nat.le_refl _,by simp⟩,rfl,fun mb e=>by cases e⟩
 intro i hi
 rcases List.mem_cons.1 hi with rfl | hi
 ·show 0 <= 100000;omega
 ·exact hF i hi
theorem TabAt.extM {M : Nat -> Prop} {w w' : World} (h : TabAt w) (hE : ExtM M w w') (hM : ¬ M 1) : TabAt w':=fun i hi=>hE.keep hM (h i hi)
theorem Blk7 {w : World} {b : Nat} {c0 c1 c2 c3 c4 c5 c6 : Value} {t : TypeId} (h : Blk w b #[c0,c1,c2,c3,c4,c5,c6] t) : w.cell? ⟨b,0,none⟩=some c0 /\ w.cell? ⟨b,1,none⟩=some c1 /\ w.cell? ⟨b,2,none⟩=some c2 /\ w.cell? ⟨b,3,none⟩=some c3 /\ w.cell? ⟨b,4,none⟩=some c4 /\ w.cell? ⟨b,5,none⟩=some c5 /\ w.cell? ⟨b,6,none⟩=some c6 :=
 ⟨by rw [h.cell];rfl,by rw [h.cell];rfl,by rw [h.cell];rfl,by rw [h.cell];rfl,by rw [h.cell];rfl,by rw [h.cell];rfl,by rw [h.cell];rfl⟩
abbrev wLex (w : World) (pb : Nat) : World:=((((w.setCell ⟨pb,1,none⟩ (.int .i64 0)).setCell ⟨pb,2,none⟩ (.string ⟨#[]⟩)).setCell ⟨pb,3,none⟩ (.int .i64 0)).setCell ⟨pb,4,none⟩ (.pointer none)).alloc (.cells #[.nilIface,.slice none 0 0,.nilIface,.slice none 0 0,.slice none 0 0] 81)
theorem wLex_facts {al : Bool} {w : World} {pb : Nat} (hB : Blk w pb (pNew al) 120) (hpb : 1 < pb) (hT : TabAt w) : Blk (wLex w pb) pb (pNew al) 120 /\ TabAt (wLex w pb) /\ ExtM (·=pb) w (wLex w pb) /\ Blk (wLex w pb) w.heap.size #[.nilIface,.slice none 0 0,.nilIface,.slice none 0 0,.slice none 0 0] 81 /\ w.heap.size < (wLex w pb).heap.size:=by
 have hX : ExtM (·=pb) w (wLex w pb):=((((ExtM.refl _ w).set1 1 _).set1 2 _).set1 3 _).set1 4 _ |>.ext (Ext.alloc _ _)
 refine ⟨((((hB.set 1 _).set 2 _).set 3 _).set 4 _).ext (Ext.alloc _ _),hT.extM hX (by omega),hX,?_,by simp⟩
 have:=Blk.new ((((w.setCell ⟨pb,1,none⟩ (.int .i64 0)).setCell ⟨pb,2,none⟩ (.string ⟨#[]⟩)).setCell ⟨pb,3,none⟩ (.int .i64 0)).setCell ⟨pb,4,none⟩ (.pointer none)) #[.nilIface,.slice none 0 0,.nilIface,.slice none 0 0,.slice none 0 0] 81
 simpa using this
theorem Step.toX {pb : Nat} {mp mp' : Option Nat} {a b c : World} (h : ExtM (·=pb) a b) (k : Step pb mp mp' b c) (hm : ∀ mb,mp=some mb -> a.heap.size <= mb) : ExtM (·=pb) a c :=
 h.trans k.1 (by
  rintro i hi (e | e)
  ·exact e
  ·have:=hm i e.symm;omega)
theorem parseM_some {al : Bool} {S : List Item} {f : Nat} {n : PN} {nm : Names} (h : parseM al S f=some (some (n,nm))) : ∃ x S',nodeM al f S []=some (some (n,x :: S',nm)) /\ (x.typ == 11)=true /\ nm.length <= 64:=by
 unfold parseM at h
 split at h
 ·cases h
 ·cases h
 ·rename_i n' S' nm' e
  split at h
  ·cases h
  ·rename_i x S2
   split at h
   ·rename_i hx
    split at h
    ·rename_i hl
     simp at h
     obtain ⟨rfl,rfl⟩:=h
     exact ⟨x,S2,e,hx,hl⟩
    ·simp at h
   ·simp at h
end Go.Proofs.YtigalkobmfbdaaaGreatDoor
