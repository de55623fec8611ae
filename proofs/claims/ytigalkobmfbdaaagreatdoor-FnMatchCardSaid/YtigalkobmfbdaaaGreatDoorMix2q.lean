/- impl.read. -/
import Derived.Test.YtigalkobmfbdaaaGreatDoorParse2Z2
import Derived.Test.YtigalkobmfbdaaaGreatDoorParse3Z2
set_option linter.unusedVariables false
set_option linter.unusedSimpArgs false
set_option maxRecDepth 100000
set_option maxHeartbeats 4000000
namespace Go.Proofs.YtigalkobmfbdaaaGreatDoor
open Go.RowKit Go.WideMaps
theorem nil_eq (w : World) : (binOp .eql 122 .nilIface .nilIface).run Tryz.prog w=Result.ok (Value.bool true) w:=by kernel_rfl
theorem err_eq (p : Option Addr) (w : World) : (binOp .eql 122 (.iface 184 (.pointer p)) .nilIface).run Tryz.prog w=Result.ok (Value.bool false) w:=by kernel_rfl
def isNilV : Value -> Bool
 | .nilIface=>true
 | _=>false
def IsIface (v : Value) : Prop:=v=.nilIface \/ ∃ t x,v=.iface t x
abbrev wPar (al : Bool) (w : World) : World:=(w.alloc (.cells #[.nilIface,.slice none 0 0,.nilIface,.slice none 0 0,.slice none 0 0] 81)).alloc (.cells (pNew al) 120)
theorem read_walk {al : Bool} {inp : ByteArray} (hs : inp.size <= 1000) {w : World} (h1 : 1 < w.heap.size) {Q : Value -> Option Addr -> Nat -> Nat -> Value -> Option Addr -> Nat -> Nat -> Option Addr -> Nat -> Nat -> Value -> World -> Prop}
  (h : Calls Tryz.prog 73 #[.pointer (some ⟨w.heap.size + 1,0,none⟩),.string inp] (wPar al w) fun e w'=>∃ c0 a1 n1 k1 c2 a3 n3 k3 a4 n4 k4 ev,e=.returned (.tuple #[.agg #[c0,.slice a1 n1 k1,c2,.slice a3 n3 k3,.slice a4 n4 k4],ev]) /\ IsIface c0 /\ IsIface c2 /\ (ev=.nilIface \/ ∃ p,ev=.iface 184 (.pointer p)) /\ ExtM (·=w.heap.size + 1) (wPar al w) w' /\ Q c0 a1 n1 k1 c2 a3 n3 k3 a4 n4 k4 ev w') :
  Calls Tryz.prog 55 #[.string inp,.bool al] w fun e w'=>∃ c0 a1 n1 k1 c2 a3 n3 k3 a4 n4 k4 ev w2,e=.returned (.tuple #[.agg #[c0,.slice a1 n1 k1,c2,.slice a3 n3 k3,.slice a4 n4 k4],.bool (isNilV ev)]) /\ (ev=.nilIface \/ ∃ p,ev=.iface 184 (.pointer p)) /\ Q c0 a1 n1 k1 c2 a3 n3 k3 a4 n4 k4 ev w2 /\ ExtM (·=w.heap.size) w2 w' /\ ExtM (·=w.heap.size + 1) (wPar al w) w2:=by
 have H:=Lib.hid h
 have q1:=nil_eq
 have q2:=err_eq
 have hsz : ((inp.size : Int) > 1000)=False:=by simp;omega
 clear h
 go_enter Tryz.func55,Tryz.ntmps55
 go_wp2_with fail
 refine H.out.mono ?_
 rintro e w2 ⟨c0,a1,n1,k1,c2,a3,n3,k3,a4,n4,k4,ev,rfl,hi0,hi2,hev,hX,hQ⟩
 have HQ:=Lib.hid hQ
 have hbk : Blk w2 w.heap.size #[.nilIface,.slice none 0 0,.nilIface,.slice none 0 0,.slice none 0 0] 81:=by
  have:=((Blk.new w #[.nilIface,.slice none 0 0,.nilIface,.slice none 0 0,.slice none 0 0] 81).ext (Ext.alloc _ (.cells (pNew al) 120))).extM hX (by omega)
  exact this
 have HX:=Lib.hid hX
 have fT:=hbk.frozen
 have lT:=hbk.lt
 have cT : w2.cell? ⟨w.heap.size,0,none⟩=some .nilIface /\ w2.cell? ⟨w.heap.size,1,none⟩=some (.slice none 0 0) /\ w2.cell? ⟨w.heap.size,2,none⟩=some .nilIface /\ w2.cell? ⟨w.heap.size,3,none⟩=some (.slice none 0 0) /\ w2.cell? ⟨w.heap.size,4,none⟩=some (.slice none 0 0):=⟨by rw [hbk.cell];rfl,by rw [hbk.cell];rfl,by rw [hbk.cell];rfl,by rw [hbk.cell];rfl,by rw [hbk.cell];rfl⟩
 have HB:=Lib.hid hbk
 clear hX hQ hbk
 rcases hi0 with rfl | ⟨t0,x0,rfl⟩ <;> rcases hi2 with rfl | ⟨t2,x2,rfl⟩ <;> rcases hev with rfl | ⟨p,rfl⟩
 ·go_wp2_with fail
  go_region
  all_goals (try go_wp2_with fail)
  all_goals
   refine bodyPost_ret (results_ct rfl _ _ w.heap.size 81 #[.nilIface,.slice a1 n1 k1,.nilIface,.slice a3 n3 k3,.slice a4 n4 k4] rfl (((((((HB.out.set 0 _).set 1 _).set 2 _).set 3 _).set 4 _).ext (Ext.alloc _ _)).ext (Ext.drew _)) row81 size81) rfl ?_
   exact ⟨.nilIface,a1,n1,k1,.nilIface,a3,n3,k3,a4,n4,k4,_,w2,rfl,.inl rfl,HQ.out,((((((((ExtM.refl _ w2).set1 0 _).set1 1 _).set1 2 _).set1 3 _).set1 4 _).ext (Ext.alloc _ _)).ext (Ext.drew _)),HX.out⟩
 ·go_wp2_with fail
  go_region
  all_goals (try go_wp2_with fail)
  all_goals
   refine bodyPost_ret (results_ct rfl _ _ w.heap.size 81 #[.nilIface,.slice a1 n1 k1,.nilIface,.slice a3 n3 k3,.slice a4 n4 k4] rfl (((((((HB.out.set 0 _).set 1 _).set 2 _).set 3 _).set 4 _).ext (Ext.alloc _ _)).ext (Ext.drew _)) row81 size81) rfl ?_
   exact ⟨.nilIface,a1,n1,k1,.nilIface,a3,n3,k3,a4,n4,k4,_,w2,rfl,.inr ⟨_,rfl⟩,HQ.out,((((((((ExtM.refl _ w2).set1 0 _).set1 1 _).set1 2 _).set1 3 _).set1 4 _).ext (Ext.alloc _ _)).ext (Ext.drew _)),HX.out⟩
 ·go_wp2_with fail
  go_region
  all_goals (try go_wp2_with fail)
  all_goals
   refine bodyPost_ret (results_ct rfl _ _ w.heap.size 81 #[.nilIface,.slice a1 n1 k1,.iface t2 x2,.slice a3 n3 k3,.slice a4 n4 k4] rfl (((((((HB.out.set 0 _).set 1 _).set 2 _).set 3 _).set 4 _).ext (Ext.alloc _ _)).ext (Ext.drew _)) row81 size81) rfl ?_
   exact ⟨.nilIface,a1,n1,k1,.iface t2 x2,a3,n3,k3,a4,n4,k4,_,w2,rfl,.inl rfl,HQ.out,((((((((ExtM.refl _ w2).set1 0 _).set1 1 _).set1 2 _).set1 3 _).set1 4 _).ext (Ext.alloc _ _)).ext (Ext.drew _)),HX.out⟩
 ·go_wp2_with fail
  go_region
  all_goals (try go_wp2_with fail)
  all_goals
   refine bodyPost_ret (results_ct rfl _ _ w.heap.size 81 #[.nilIface,.slice a1 n1 k1,.iface t2 x2,.slice a3 n3 k3,.slice a4 n4 k4] rfl (((((((HB.out.set 0 _).set 1 _).set 2 _).set 3 _).set 4 _).ext (Ext.alloc _ _)).ext (Ext.drew _)) row81 size81) rfl ?_
   exact ⟨.nilIface,a1,n1,k1,.iface t2 x2,a3,n3,k3,a4,n4,k4,_,w2,rfl,.inr ⟨_,rfl⟩,HQ.out,((((((((ExtM.refl _ w2).set1 0 _).set1 1 _).set1 2 _).set1 3 _).set1 4 _).ext (Ext.alloc _ _)).ext (Ext.drew _)),HX.out⟩
 ·go_wp2_with fail
  go_region
  all_goals (try go_wp2_with fail)
  all_goals
   refine bodyPost_ret (results_ct rfl _ _ w.heap.size 81 #[.iface t0 x0,.slice a1 n1 k1,.nilIface,.slice a3 n3 k3,.slice a4 n4 k4] rfl (((((((HB.out.set 0 _).set 1 _).set 2 _).set 3 _).set 4 _).ext (Ext.alloc _ _)).ext (Ext.drew _)) row81 size81) rfl ?_
   exact ⟨.iface t0 x0,a1,n1,k1,.nilIface,a3,n3,k3,a4,n4,k4,_,w2,rfl,.inl rfl,HQ.out,((((((((ExtM.refl _ w2).set1 0 _).set1 1 _).set1 2 _).set1 3 _).set1 4 _).ext (Ext.alloc _ _)).ext (Ext.drew _)),HX.out⟩
 ·go_wp2_with fail
  go_region
  all_goals (try go_wp2_with fail)
  all_goals
   refine bodyPost_ret (results_ct rfl _ _ w.heap.size 81 #[.iface t0 x0,.slice a1 n1 k1,.nilIface,.slice a3 n3 k3,.slice a4 n4 k4] rfl (((((((HB.out.set 0 _).set 1 _).set 2 _).set 3 _).set 4 _).ext (Ext.alloc _ _)).ext (Ext.drew _)) row81 size81) rfl ?_
   exact ⟨.iface t0 x0,a1,n1,k1,.nilIface,a3,n3,k3,a4,n4,k4,_,w2,rfl,.inr ⟨_,rfl⟩,HQ.out,((((((((ExtM.refl _ w2).set1 0 _).set1 1 _).set1 2 _).set1 3 _).set1 4 _).ext (Ext.alloc _ _)).ext (Ext.drew _)),HX.out⟩
 ·go_wp2_with fail
  go_region
  all_goals (try go_wp2_with fail)
  all_goals
   refine bodyPost_ret (results_ct rfl _ _ w.heap.size 81 #[.iface t0 x0,.slice a1 n1 k1,.iface t2 x2,.slice a3 n3 k3,.slice a4 n4 k4] rfl (((((((HB.out.set 0 _).set 1 _).set 2 _).set 3 _).set 4 _).ext (Ext.alloc _ _)).ext (Ext.drew _)) row81 size81) rfl ?_
   exact ⟨.iface t0 x0,a1,n1,k1,.iface t2 x2,a3,n3,k3,a4,n4,k4,_,w2,rfl,.inl rfl,HQ.out,((((((((ExtM.refl _ w2).set1 0 _).set1 1 _).set1 2 _).set1 3 _).set1 4 _).ext (Ext.alloc _ _)).ext (Ext.drew _)),HX.out⟩
 ·go_wp2_with fail
  go_region
  all_goals (try go_wp2_with fail)
  all_goals
   refine bodyPost_ret (results_ct rfl _ _ w.heap.size 81 #[.iface t0 x0,.slice a1 n1 k1,.iface t2 x2,.slice a3 n3 k3,.slice a4 n4 k4] rfl (((((((HB.out.set 0 _).set 1 _).set 2 _).set 3 _).set 4 _).ext (Ext.alloc _ _)).ext (Ext.drew _)) row81 size81) rfl ?_
   exact ⟨.iface t0 x0,a1,n1,k1,.iface t2 x2,a3,n3,k3,a4,n4,k4,_,w2,rfl,.inr ⟨_,rfl⟩,HQ.out,((((((((ExtM.refl _ w2).set1 0 _).set1 1 _).set1 2 _).set1 3 _).set1 4 _).ext (Ext.alloc _ _)).ext (Ext.drew _)),HX.out⟩
end Go.Proofs.YtigalkobmfbdaaaGreatDoor
namespace Go.Proofs.YtigalkobmfbdaaaGreatDoor
open Go.RowKit Go.WideMaps Go.Sort
theorem wPar_ext (al : Bool) (w : World) : Ext w (wPar al w):=(Ext.alloc _ _).trans (Ext.alloc _ _)
theorem wPar_blk (al : Bool) (w : World) : Blk (wPar al w) (w.heap.size + 1) (pNew al) 120:=by
 have:=Blk.new (w.alloc (.cells #[.nilIface,.slice none 0 0,.nilIface,.slice none 0 0,.slice none 0 0] 81)) (pNew al) 120
 simpa using this
theorem wPar_size (al : Bool) (w : World) : (wPar al w).heap.size=w.heap.size + 2:=by simp [wPar]
theorem TabAt.toExt {w w' : World} (h : TabAt w) (hE : Ext w w') : TabAt w':=fun i hi=>hE.keep (h i hi)
theorem read_ext {al : Bool} {w w2 w' : World} (h1 : ExtM (·=w.heap.size + 1) (wPar al w) w2) (h2 : ExtM (·=w.heap.size) w2 w') : Ext w w' :=
 h2.toExt (h1.toExt (wPar_ext al w) (fun i hi e=>by omega)) (fun i hi e=>by omega)
theorem read_ok {al : Bool} {inp : ByteArray} {R : List Tok} {f : Nat} (hf : f <= 100000) (hs : inp.size <= 1000) (hM : lexM inp.toList .start=some R) {n sym : PN} {nm E : Names} {cl : Syms} (hP : ∀ S : List Item,S.map tokOf=R -> parseM al S f=some (some (n,nm))) (hnd : nm.Nodup) (hsym : SymsOf n sym) (hroot : RootsOf n cl) (hent : EntryC n) (hE : entryN n []=some E) (hcn : n.cnt <= 50000) (hEl : E.length <= 1000) (hEd : E.Nodup) (hnul : n.isNul=false) (hns : ∀ nm ks,n=.struct nm ks -> (nm.toList == [83,121,109,98,111,108])=false)
  {w : World} (h1 : 1 < w.heap.size) (hT : TabAt w) :
  Calls Tryz.prog 55 #[.string inp,.bool al] w fun e w'=>(∃ rv sv ea ec ca cc ba bc,e=.returned (.tuple #[.agg #[rv,.slice ea E.length ec,sv,.slice ca cl.length cc,.slice ba nm.length bc],.bool true]) ∧
   NodeAt (fun b=>w.heap.size < b) w' rv n /\ NodeAt (fun b=>w.heap.size < b) w' sv sym /\ BsAt w' ea (E.mergeSort fun x y=>decide (x <= y)) /\ IdxAt w' ca cl /\ BsAt w' ba nm /\ E.length <= ec /\ cl.length <= cc /\ nm.length <= bc) /\ Ext w w':=by
 refine (read_walk hs h1 (Q:=fun c0 a1 n1 k1 c2 a3 n3 k3 a4 n4 k4 ev w2=>ev=.nilIface /\ n1=E.length /\ n3=cl.length /\ n4=nm.length /\ NodeAt (fun b=>w.heap.size < b) w2 c0 n /\ NodeAt (fun b=>w.heap.size < b) w2 c2 sym /\ BsAt w2 a1 (E.mergeSort fun x y=>decide (x <= y)) /\ IdxAt w2 a3 cl /\ BsAt w2 a4 nm /\ (∀ b o,a1=some ⟨b,o,none⟩ -> w.heap.size < b) /\ (∀ b o,a3=some ⟨b,o,none⟩ -> w.heap.size < b) /\ (∀ b o,a4=some ⟨b,o,none⟩ -> w.heap.size < b) /\ E.length <= k1 /\ cl.length <= k3 /\ nm.length <= k4) ?_).mono ?_
 ·have hz:=wPar_size al w
  refine (parse_ok hf hs hM hP hnd hsym hroot hent hE hcn hEl hEd hnul hns (wPar_blk al w) (by omega) (hT.toExt (wPar_ext al w))).mono ?_
  rintro e w2 ⟨⟨rv,sv,ea,ec,ca,cc,ba,bc,rfl,hn,hy,hb1,hi,hb2,f1,f2,f3,l1,l2,l3⟩,hX⟩
  refine ⟨_,_,_,_,_,_,_,_,_,_,_,_,rfl,?_,?_,.inl rfl,hX,rfl,rfl,rfl,rfl,hn.imp (fun b hb _=>by omega),hy.imp (fun b hb _=>by omega),hb1,hi,hb2,fun b o e=>by have:=f1 b o e;omega,fun b o e=>by have:=f2 b o e;omega,fun b o e=>by have:=f3 b o e;omega,l1,l2,l3⟩
  ·exact hn.shape
  ·exact hy.shape
 ·rintro e w' ⟨c0,a1,n1,k1,c2,a3,n3,k3,a4,n4,k4,ev,w2,rfl,-,⟨rfl,rfl,rfl,rfl,hn,hy,hb1,hi,hb2,f1,f2,f3,l1,l2,l3⟩,hX2,hX1⟩
  refine ⟨⟨_,_,_,_,_,_,_,_,rfl,hn.mono (hX2.keeps (fun b hb e=>by omega)),hy.mono (hX2.keeps (fun b hb e=>by omega)),hb1.extM hX2 (fun b o e e2=>by have:=f1 b o e;omega),hi.extM hX2 (fun b o e e2=>by have:=f2 b o e;omega),hb2.extM hX2 (fun b o e e2=>by have:=f3 b o e;omega),l1,l2,l3⟩,read_ext hX1 hX2⟩
end Go.Proofs.YtigalkobmfbdaaaGreatDoor
namespace Go.Proofs.YtigalkobmfbdaaaGreatDoor
open Go.RowKit Go.WideMaps Go.Sort
theorem sort_names {wr w4 : World} {base : Nat} {v : Value} {ss L : Names} (hrow : wr.ownsRow base 9 1 v ss.length (ss.map encStr)) (hperm : ss.Perm L) (hE : Ext w4 wr) (hb0 : w4.heap.size <= base) (hL : L.length <= 1000) :
  ∃ a c,v=.slice a L.length c /\ (Calls Tryz.prog 65 #[v] wr fun e w'=>e=.returned (.tuple #[]) /\ Ext w4 w' /\ BsAt w' a (L.mergeSort fun x y=>decide (x <= y))):=by
 have hlen:=hperm.length_eq
 rcases hrow.2 with ⟨rfl,h0⟩ | ⟨g,cap,cur,rfl,hbase,hb,h1,h2,h3,h4⟩
 ·have : ss=[]:=List.eq_nil_of_length_eq_zero h0
  subst this
  have hn : L=[]:=List.eq_nil_of_length_eq_zero (by simpa using hlen.symm)
  subst hn
  refine ⟨none,0,rfl,?_⟩
  refine (Tryz.slices_Sort_string_none none 0 wr).mono ?_
  rintro e w' ⟨rfl,rfl⟩
  exact ⟨rfl,hE,fun j hj=>absurd hj (by simp)⟩
 ·have hH : Holds encStr wr g 0 ss.toArray:=holds_of_block hb (by simpa using h4)
  have hgl : g < wr.heap.size:=(Array.getElem?_eq_some_iff.1 hb).1
  have hms:=mergeSort_of_perm hperm
  refine ⟨_,cap,by rw [hlen],?_⟩
  refine (Tryz.slices_Sort_string g 0 cap ss wr hH hgl (by omega)).mono ?_
  rintro e w' ⟨rfl,nn,os,rfl⟩
  refine ⟨rfl,hE.grown (grownBy_sorted _) (fun k hk=>by cases hk;omega),fun j hj=>⟨g,0,rfl,?_⟩⟩
  have hr:=ownsRow_sorted (n:=nn) (os:=os) (ts:=ss.mergeSort fun x y=>decide (x <= y)) (by simp) hbase hb h1 h2 h3
  rcases hr.2 with ⟨hn,-⟩ | ⟨g',cap',cur',hv',-,hb',-,-,hc',ht'⟩
  ·cases hn
  ·simp only [Value.slice.injEq,Option.some.injEq,Addr.mk.injEq] at hv'
   obtain ⟨⟨rfl,-,-⟩,-,rfl⟩:=hv'
   have hj2 : j < ss.length:=by rw [hlen];simpa using hj
   have hjc : j < cur'.size:=by omega
   rw [Nat.zero_add,(show Blk _ g cur' 9 from hb').cell]
   have:=congrArg (fun l=>l[j]?) ht'
   simp only [List.getElem?_take,List.getElem?_map,Nat.mul_one,hj2,if_true] at this
   rw [hms] at this
   rw [List.getElem?_eq_getElem hj] at this
   simpa using this
end Go.Proofs.YtigalkobmfbdaaaGreatDoor
