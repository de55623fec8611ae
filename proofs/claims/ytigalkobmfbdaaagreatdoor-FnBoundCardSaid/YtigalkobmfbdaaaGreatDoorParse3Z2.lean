/- Parser.Parse where it reads. -/
import Derived.Test.YtigalkobmfbdaaaGreatDoorParse2Z2
import Derived.Test.YtigalkobmfbdaaaGreatDoorMix2f
import Derived.Test.YtigalkobmfbdaaaGreatDoorMix2e
import Derived.Maps.RangeWalk
import Derived.Maps.Ext
import Derived.Sort.KeysCollected
import Derived.Sort.OwnSorted
set_option linter.unusedVariables false
set_option linter.unusedSimpArgs false
set_option maxRecDepth 100000
set_option maxHeartbeats 40000000
namespace Go.Proofs.YtigalkobmfbdaaaGreatDoor
open Go.RowKit Go.WideMaps Go.Sort
def BsAt (w : World) (a : Option Addr) (l : List (List UInt8)) : Prop:=∀ (j : Nat) (h : j < l.length),∃ b o,a=some ⟨b,o,none⟩ /\ w.cell? ⟨b,o + j,none⟩=some (encStr l[j])
theorem BsAt.mono {w w' : World} {a : Option Addr} {l : List (List UInt8)} (h : BsAt w a l) (hE : Ext w w') : BsAt w' a l:=fun j hj=>by obtain ⟨b,o,e,hc⟩:=h j hj;exact ⟨b,o,e,hE.keep hc⟩
theorem BsAt.extM {M : Nat -> Prop} {w w' : World} {a : Option Addr} {l : List (List UInt8)} (h : BsAt w a l) (hE : ExtM M w w') (hM : ∀ b o,a=some ⟨b,o,none⟩ -> ¬ M b) : BsAt w' a l:=fun j hj=>by obtain ⟨b,o,e,hc⟩:=h j hj;exact ⟨b,o,e,hE.keep (hM b o e) hc⟩
def IdxAt (w : World) (a : Option Addr) (l : List (ByteArray × ByteArray × ByteArray)) : Prop:=∀ (j : Nat) (h : j < l.length),∃ b o,a=some ⟨b,o,none⟩ /\ w.cell? ⟨b,o + j * 3,none⟩=some (.string l[j].1) /\ w.cell? ⟨b,o + j * 3 + 1,none⟩=some (.string l[j].2.1) /\ w.cell? ⟨b,o + j * 3 + 2,none⟩=some (.string l[j].2.2)
theorem IdxAt.mono {w w' : World} {a : Option Addr} {l : List (ByteArray × ByteArray × ByteArray)} (h : IdxAt w a l) (hE : Ext w w') : IdxAt w' a l:=fun j hj=>by obtain ⟨b,o,e,h1,h2,h3⟩:=h j hj;exact ⟨b,o,e,hE.keep h1,hE.keep h2,hE.keep h3⟩
theorem IdxAt.extM {M : Nat -> Prop} {w w' : World} {a : Option Addr} {l : List (ByteArray × ByteArray × ByteArray)} (h : IdxAt w a l) (hE : ExtM M w w') (hM : ∀ b o,a=some ⟨b,o,none⟩ -> ¬ M b) : IdxAt w' a l:=fun j hj=>by obtain ⟨b,o,e,h1,h2,h3⟩:=h j hj;exact ⟨b,o,e,hE.keep (hM b o e) h1,hE.keep (hM b o e) h2,hE.keep (hM b o e) h3⟩
abbrev Syms:=List (ByteArray × ByteArray × ByteArray)
def SymsOf (n sym : PN) : Prop:=∀ (X : Nat -> Prop) (v : Value) (w : World),NodeAt X w v n -> Calls Tryz.prog 90 #[v,.bool false] w fun e w'=>(∃ sv,e=.returned sv /\ NodeAt (fun b=>w.heap.size <= b) w' sv sym) /\ Ext w w'
def RootsOf (n : PN) (cl : Syms) : Prop:=∀ (X : Nat -> Prop) (v : Value) (w : World),NodeAt X w v n -> Calls Tryz.prog 91 #[v] w fun e w'=>(∃ a c,e=.returned (.slice a cl.length c) /\ cl.length <= c /\ IdxAt w' a cl /\ ∀ b o,a=some ⟨b,o,none⟩ -> w.heap.size <= b) /\ Ext w w'
theorem info9 : (Tryz.prog.info? 9).map (fun i=>(i.zero,i.size,i.bytes))=some (some (.string ⟨#[]⟩),1,16):=by kernel_rfl
theorem underlying31 : Tryz.prog.underlying 31=some (.slice 9):=by kernel_rfl
theorem grown_set (W : World) (b o : Nat) (v : Value) : W.grownBy (W.setCell ⟨b,o,none⟩ v) (some b) :=
 ⟨rfl,rfl,rfl,by simp [World.setCell],fun i hi hne=>Below.heap_setCell W ⟨b,o,none⟩ v i (by rintro rfl;exact hne rfl)⟩
theorem idxOf_same {l : Names} {a b : List UInt8} (ha : a ∈ l) (hb : b ∈ l) (h : l.idxOf a=l.idxOf b) : a=b:=by
 have h1:=List.getElem_idxOf (List.idxOf_lt_length_iff.2 ha)
 have h2:=List.getElem_idxOf (List.idxOf_lt_length_iff.2 hb)
 rw [<- h1,<- h2]
 congr 1
theorem same_str {a b : List UInt8} (h : (Lit.string a).sameKey (.string b)=true) : a=b:=by simpa [Lit.sameKey] using h
def PatRes (base : Nat) (n sym : PN) (E nm : Names) (cl : Syms) (e : Ending) (w' : World) : Prop :=
 ∃ rv sv ea ec ca cc ba bc,e=.returned (.tuple #[.agg #[rv,.slice ea E.length ec,sv,.slice ca cl.length cc,.slice ba nm.length bc],.nilIface]) ∧
  NodeAt (fun b=>base <= b) w' rv n /\ NodeAt (fun b=>base <= b) w' sv sym /\ BsAt w' ea (E.mergeSort fun x y=>decide (x <= y)) /\ IdxAt w' ca cl /\ BsAt w' ba nm /\ (∀ b o,ea=some ⟨b,o,none⟩ -> base <= b) /\ (∀ b o,ca=some ⟨b,o,none⟩ -> base <= b) /\ (∀ b o,ba=some ⟨b,o,none⟩ -> base <= b) /\ E.length <= ec /\ cl.length <= cc /\ nm.length <= bc
theorem parse_ok {al : Bool} {inp : ByteArray} {R : List Tok} {f : Nat} (hf : f <= 100000) (hs : inp.size <= 1000) (hM : lexM inp.toList .start=some R) {n sym : PN} {nm E : Names} {cl : Syms} (hP : ∀ S : List Item,S.map tokOf=R -> parseM al S f=some (some (n,nm))) (hnd : nm.Nodup) (hsym : SymsOf n sym) (hroot : RootsOf n cl) (hent : EntryC n) (hE : entryN n []=some E) (hcn : n.cnt <= 50000) (hEl : E.length <= 1000) (hEd : E.Nodup) (hnul : n.isNul=false) (hns : ∀ nm ks,n=.struct nm ks -> (nm.toList == [83,121,109,98,111,108])=false)
  {w : World} {pb : Nat} (hB : Blk w pb (pNew al) 120) (hpb : 1 < pb) (hT : TabAt w) :
  Calls Tryz.prog 73 #[.pointer (some ⟨pb,0,none⟩),.string inp] w fun e w'=>PatRes w.heap.size n sym E nm cl e w' /\ ExtM (·=pb) w w':=by
 have fB:=hB.frozen
 have lB:=hB.lt
 have b7:=Blk7 hB
 have HW:=Lib.hid (wLex_facts hB hpb hT)
 have HP:=Lib.hid hP
 clear hB hT hP
 go_enter Tryz.func73,Tryz.ntmps73
 go_wp2_with fail
 refine (lex_calls2 inp R _ (by omega) HW.out.2.1 hM).mono ?_
 rintro e w2 ⟨a,c,its,rfl,hc,hA,hI,hF,hl,hE2,hnew⟩
 have hB2:=HW.out.1.ext hE2
 have fB2:=hB2.frozen
 have lB2:=hB2.lt
 have b72:=Blk7 hB2
 have hsz:=HW.out.2.2.2.2
 have hX3 : ExtM (·=pb) w2 (w2.setCell ⟨pb,5,none⟩ (.slice a its.length c)):=(ExtM.refl _ w2).set1 5 _
 have hP3 : PSt (w2.setCell ⟨pb,5,none⟩ (.slice a its.length c)) pb (w2.setCell ⟨pb,5,none⟩ (.slice a its.length c)).heap.size al false ⟨0,⟨#[]⟩,0⟩ its none []:=by
  refine PSt.start (hB2.set 5 _) hc (hA.extM hX3 (fun b o e hne e2=>?_)) hF (by omega) (fun b o e hne=>?_)
  ·have:=hnew b o e;omega
  ·have:=hnew b o e
   rcases hA with hA | ⟨b',o',e',hA⟩
   ·exact absurd hA hne
   ·rw [e] at e';cases e'
    have:=cell_lt (hA 0 (List.length_pos_iff.2 hne)).1
    simp only at this
    exact ⟨by omega,by simpa using this⟩
 have HP3:=Lib.hid hP3
 have HT3 : Hid (Blk (w2.setCell ⟨pb,5,none⟩ (.slice a its.length c)) w.heap.size #[.nilIface,.slice none 0 0,.nilIface,.slice none 0 0,.slice none 0 0] 81):=Lib.hid ((HW.out.2.2.2.1.ext hE2).set_other (by simp only;omega) _)
 have HX3 : Hid (ExtM (·=pb) w (w2.setCell ⟨pb,5,none⟩ (.slice a its.length c))):=Lib.hid ((HW.out.2.2.1.ext hE2).trans' hX3)
 have HI:=Lib.hid hI
 have HNil:=Lib.hid (show its.length + ([] : Names).length <= 300000 by simp;omega)
 clear hB2 hX3 hP3 hE2 hA hnew hI hF hc
 have q5:=nilne
 go_wp2_with fail
 obtain ⟨i9,hi9,hz90,hz91,hz92⟩:=info_parts info9
 have HSym:=Lib.hid hsym
 have HRoot:=Lib.hid hroot
 have HEnt:=Lib.hid (And.intro hent hE)
 have HNS:=Lib.hid hns
 have HEd:=Lib.hid hEd
 have HNul:=Lib.hid hnul
 clear hsym hroot hent hE hns hEd hnul
 obtain ⟨x,S',e1,hx,hl64⟩:=parseM_some (HP.out its HI.out)
 refine (node_calls al f hf its [] _ e1 HNil.out pb _ _ _ _ _ HP3.out).mono ?_
 rintro e w4 ⟨mp4,s4,v,fl4,cur4,rfl,hv,rfl,p4⟩
 have hT4:=Lib.hid (HT3.out.step s4 HP3.out (by omega))
 have HX4:=Lib.hid (Step.toX HX3.out s4 (by simp))
 have HM4:=Lib.hid p4.2
 obtain ⟨its',ia',ic',hB4,h1,h2,h3,h4,he⟩:=p4.1
 obtain rfl : its'=x :: S':=by simpa using he.symm
 have HV4:=Lib.hid hv
 have HNX:=Lib.hid (And.intro hB4 (And.intro (show S'.length + 1 <= ic' by simpa using h1) (And.intro (show S'.length <= 100000 by have:=h2.1;simp at this;omega) h3)))
 have hmp4 : Hid (∀ mb,mp4=some mb -> w.heap.size <= mb /\ mb ≠ pb):=Lib.hid (fun mb e=>by have:=p4.2.2 mb e;have:=HX3.out.size;omega)
 clear s4 hv p4 hB4 h1 h2 h3 h4 he
 clear e1
 rcases HV4.out.nul with ⟨h0,rfl⟩ | ⟨-,tt,xx,rfl⟩
 ·rw [HNul.out] at h0;cases h0
 ·go_wp2_with fail
  refine (nextItem_calls (x:=x) (its:=S') HNX.out.1 HNX.out.2.1 HNX.out.2.2.1 HNX.out.2.2.2).mono ?_
  rintro e w5 ⟨rfl,hX5,ia5,ic5,hB5,-,-⟩
  have hE6:=Ext.alloc w5 (.cells #[.int .i64 x.typ,.string x.val,.int .i64 x.pos] 115)
  have HX6:=Lib.hid ((HX4.out.trans' hX5).ext hE6)
  have HB6:=Lib.hid (hB5.ext hE6)
  have HTk6:=Lib.hid ((hT4.out.extM hX5 (by omega)).ext hE6)
  have HV6:=Lib.hid ((HV4.out.mono (hX5.keeps (fun b hb e=>by have:=HP3.out.lt;omega))).mono (hE6.keeps _))
  have HM6 : Hid (MapIs (w5.alloc (.cells #[.int .i64 x.typ,.string x.val,.int .i64 x.pos] 115)) mp4 nm):=Lib.hid ((HM4.out.1.extM hX5 (fun mb e e2=>(hmp4.out mb e).2 e2)).extM (hE6.toM (fun _=>False)) (fun _ _ h=>h))
  have hx2 : (x.typ != 11)=false:=by simp only [bne,hx,Bool.not_true]
  obtain ⟨-,-,-,-,-,-,b6⟩:=Blk7 HB6.out
  clear hX5 hB5 hE6
  cases mp4 with
  | none =>
   obtain rfl : nm=[]:=HM6.out
   go_wp2_with (first
    | (at_make;refine wpList_make_full _ rfl _ _ 31 rfl (w5.heap.size + 1) 9 i9 (.string ⟨#[]⟩) 1 underlying31 hi9 hz90 hz91 _ _ _ _ 0 rfl rfl rfl rfl (by rw [hz92];omega) (by unfold maxLen;omega) (by simp) ?_;intro w7 hrow7 hg7;have b67:=hg7.cell b6 (by simp);have hrg:=run_range_nilMap (P:=Tryz.prog) w7 118 9 3 underlying118;have hnx : ∀ ty,(Instr.next (.pointer (some ⟨w7.heap.size,0,none⟩)) false ty).run Tryz.prog (w7.alloc (.mapIter none 0 #[] 0))=_:=fun ty=>run_next_nilMap _ ty 0 0 #[])
    | fail)
   have hs7:=hg7.size
   generalize hwr0 : w7.alloc (.mapIter none 0 #[] 0)=wr at hnx ⊢
   have hEw : Ext (w5.alloc (.cells #[.int .i64 x.typ,.string x.val,.int .i64 x.pos] 115)) wr:=by rw [<- hwr0];exact ((Ext.refl _).grown hg7 (fun k hk=>by cases hk)).trans (Ext.alloc _ _)
   have HA : Hid (BsAt wr (some ⟨w5.heap.size + 1,0,none⟩) []):=Lib.hid (fun j hj=>absurd hj (by simp))
   have HTk:=Lib.hid (HTk6.out.ext hEw)
   have HX:=Lib.hid (HX6.out.ext hEw)
   have HV:=Lib.hid ((HV6.out.mono (hEw.keeps _)).imp (Y:=fun b=>w.heap.size < b) (fun b hb _=>Nat.lt_of_lt_of_le HT3.out.lt hb))
   clear hwr0 hrg hg7 hrow7 hEw hs7 hnd b67
   refine wp_loop_rounds 1 ?_
   rw [rounds_succ]
   obtain ⟨rv0,HRV0⟩ : ∃ r : Value,Hid (r=.iface tt xx):=⟨_,Lib.hid rfl⟩
   have hmm:=@run_makeMap Tryz.prog
   rcases as_struct HV.out with ⟨nm2,ks2,a2,c2,e2,hu,-⟩ | ⟨hta,-⟩
   case' inl =>
    obtain ⟨rfl,rfl⟩:=Value.iface.inj hu
    have hta:=(ta_127 (.agg #[.string nm2,.slice a2 ks2.length c2])).2.1
    have hss:=HNS.out nm2 ks2 e2
    clear e2 hu
   all_goals
    go_wp2_with fail
    refine (HSym.out (fun b=>w.heap.size < b) _ _ (HV.out.mono ((Ext.alloc _ _).keeps _))).mono ?_
    rintro e w11 ⟨⟨sv,rfl,hsv⟩,hE11⟩
    have hs11:=hE11.size
    have HE11:=Lib.hid hE11.of_alloc
    have hwr : w.heap.size <= wr.heap.size:=HX.out.size
    have hltr:=HTk.out.lt
    have HSV:=Lib.hid (hsv.imp (Y:=fun b=>w.heap.size < b) (fun b hb _=>by simp at hb;omega))
    clear hE11 hsv hs11
    obtain ⟨sv0,HSV0⟩ : ∃ r : Value,Hid (r=sv):=⟨_,Lib.hid rfl⟩
    rcases HSV.out.shape with rfl | ⟨ts,xs,rfl⟩
    all_goals
     go_wp2_with fail
     refine (HRoot.out (fun b=>w.heap.size < b) _ _ (HV.out.mono (HE11.out.keeps _))).mono ?_
     rintro e w12 ⟨⟨ca,cc,rfl,hcc,hI12,hfr⟩,hE12⟩
     have HE12:=Lib.hid (HE11.out.trans hE12)
     have HSV2:=Lib.hid (HSV.out.mono (hE12.keeps _))
     have HI12:=Lib.hid (And.intro hcc (And.intro hI12 (fun b o e=>Nat.lt_of_lt_of_le (Nat.lt_of_lt_of_le hltr HE11.out.size) (hfr b o e))))
     have hwr12 : wr.heap.size <= w12.heap.size:=HE12.out.size
     clear hE12 hI12 hcc hfr
     go_wp2_with fail
     refine (HEnt.out.1 [] E HEnt.out.2 (fun b=>w.heap.size <= b /\ b < w12.heap.size) _ _ w12.heap.size 0 (((HV.out.mono (HE12.out.keeps _)).imp (fun b hb hl=>⟨Nat.le_of_lt hb,hl⟩)).mono ((Ext.alloc _ _).keeps _)) (fun b hb e=>by omega) ⟨_,World.ownsMap_made (H:=Unit) w12 Tryz.prog 9 (plainElem Tryz.prog 4),rfl,fun s=>rfl⟩ (by omega)).mono ?_
     rintro e w14 ⟨rfl,hX14,hS14⟩
     have HE14:=Lib.hid (HE12.out.trans (hX14.toExt (Ext.alloc w12 (.map #[] 0)) (fun i hi e=>by omega)))
     have HE24:=Lib.hid (hX14.toExt (Ext.alloc w12 (.map #[] 0)) (fun i hi e=>by omega))
     obtain ⟨D2,hO2,hz2,hh2⟩:=hS14
     rw [Nat.zero_add] at hO2
     have HO2:=Lib.hid hO2
     have hmb2:=hO2.lt
     have HH2:=Lib.hid (And.intro hz2 hh2)
     have hD2 : Maps.size D2 <= 1000:=by omega
     clear hX14 hO2 hz2 hh2
     go_wp2_with (first
      | (at_len;refine wpList_len_own _ rfl _ 160 rfl 9 4 underlying160 _ w12.heap.size _ D2 rfl HO2.out ?_)
      | (at_make;refine wpList_make_own _ rfl _ _ 31 rfl w14.heap.size 9 i9 (.string ⟨#[]⟩) 1 underlying31 hi9 hz90 hz91 _ _ _ (Maps.size D2) rfl rfl rfl (by rw [hz92];omega) (by unfold maxLen;omega) (Nat.le_refl _) ?_;intro w15 hrow15 hg15)
      | (at_range;refine wpList_range_own _ rfl _ 160 rfl 9 4 law9 underlying160 _ w12.heap.size _ D2 rfl (HO2.out.kept hg15 (by simp)) ?_;intro w16 hrg16 hg16 hs16)
      | fail)
     go_frame
     have HE24b:=Lib.hid (HE14.out)
     go_loopw [20] (fun v wr=>∃ (left : Lit -> Bool) (cnt : Nat) (ss : List (List UInt8)),wr.ranges Tryz.prog 9 (plainElem Tryz.prog 4) w12.heap.size w15.heap.size n.cnt D2 left cnt /\ ss.length + cnt <= Maps.size D2 /\ wr.ownsRow w14.heap.size 9 1 v ss.length (ss.map encStr) /\ v ≠ .slice none 0 0 /\ Collected D2 left ss /\ Ext w14 wr) (fun _ wr=>wr.rangeLeft w12.heap.size w15.heap.size)
     case atStart =>
      exact ⟨_,_,[],hrg16,by simp,hrow15.kept hg16 (Or.inr (by simp [Value.ownBlock])),by simp,Collected.start D2,((Ext.refl _).grown hg15 (fun k hk=>by cases hk)).grown hg16 (fun k hk=>by cases hk)⟩
     case round =>
      obtain ⟨left2,cnt2,ss,hrg,hcs,hrow,hnn,hC,hEr⟩:=hrel
      go_wp2_with (first
       | (at_next;refine wpList_next_ranges _ rfl _ rfl 9 law9 (plainElem Tryz.prog 4) encStr (fun v : Value=>v) (fun key kl hk=>by obtain ⟨x,hx,_⟩:=Maps.keyOf_str underlying9 hk;exact ⟨x,hx⟩) (fun v y hv=>⟨v,rfl⟩) w12.heap.size w15.heap.size n.cnt _ _ _ rfl hrg ?_ ?_)
       | fail)
      ·intro hc0 hl0
       rcases hrow.2 with ⟨hnil,_⟩ | ⟨g,cap,cur,rfl,hbase,hb,h1,h2,h3,h4⟩
       ·exact absurd hnil hnn
       have hH : Holds encStr wr g 0 ss.toArray:=holds_of_block hb (by simpa using h4)
       have hgl : g < wr.heap.size:=(Array.getElem?_eq_some_iff.1 hb).1
       have hperm : ss.Perm E:=(List.perm_ext_iff_of_nodup hC.1 HEd.out).2 (fun s=>by
        rw [hC.2 s,HH2.out.2 s];simp [hl0])
       have hlen:=hperm.length_eq
       have hms:=mergeSort_of_perm hperm
       have hcap : E.length <= cap:=hlen ▸ h1
       have HS : Hid (Calls Tryz.prog 65 #[.slice (some ⟨g,0,none⟩) E.length cap] wr fun e w'=>e=.returned (.tuple #[]) /\ wr.grownBy w' (some g) /\ BsAt w' (some ⟨g,0,none⟩) (E.mergeSort leB)):=Lib.hid (by
        rw [<- hlen]
        refine (Tryz.slices_Sort_string g 0 cap ss wr hH hgl (by omega)).mono ?_
        rintro e w' ⟨rfl,nn,os,rfl⟩
        refine ⟨rfl,grownBy_sorted _,fun j hj=>⟨g,0,rfl,?_⟩⟩
        have hr:=ownsRow_sorted (n:=nn) (os:=os) (ts:=ss.mergeSort fun x y=>decide (x <= y)) (by simp) hbase hb h1 h2 h3
        rcases hr.2 with ⟨hn,-⟩ | ⟨g',cap',cur',hv',-,hb',-,-,hc',ht'⟩
        ·cases hn
        ·simp only [Value.slice.injEq,Option.some.injEq,Addr.mk.injEq] at hv'
         obtain ⟨⟨rfl,-,-⟩,-,rfl⟩:=hv'
         have hj2 : j < ss.length:=by rw [hlen];simpa using hj
         have hjc : j < cur'.size:=by omega
         rw [Nat.zero_add,(show Blk _ g cur' 9 from hb').cell]
         have:=congrArg (fun l=>l[j]?) ht'
         simp only [List.getElem?_take,List.getElem?_map,Nat.mul_one,hj2,if_true] at this
         rw [hms] at this
         rw [List.getElem?_eq_getElem hj] at this
         simpa using this)
       have HE17:=Lib.hid (And.intro hbase (HE14.out.trans hEr))
       have HR14:=Lib.hid hEr
       clear hperm hC hEr hrow hrg hH hb h1 h2 h3 h4 hms hcs hc0 hl0 hnn
       have hb17 : w12.heap.size <= w14.heap.size:=by omega
       go_wp2_with fail
       refine HS.out.mono ?_
       rintro e w17 ⟨rfl,hg17,hbs17⟩
       have hE17:=HE17.out.2.grown hg17 (fun k hk=>by cases hk;have:=HE17.out.1;have:=HE14.out.size;omega)
       have hTk:=HTk.out.ext hE17
       have HXk:=Lib.hid (HX.out.ext hE17)
       have HBS:=Lib.hid hbs17
       have HHk:=Lib.hid hE17
       have HR17:=Lib.hid (HR14.out.grown hg17 (fun k hk=>by cases hk;exact HE17.out.1))
       have fT:=hTk.frozen
       have lT:=hTk.lt
       have cT : w17.cell? ⟨w.heap.size,0,none⟩=some .nilIface /\ w17.cell? ⟨w.heap.size,1,none⟩=some (.slice none 0 0) /\ w17.cell? ⟨w.heap.size,2,none⟩=some .nilIface /\ w17.cell? ⟨w.heap.size,3,none⟩=some (.slice none 0 0) /\ w17.cell? ⟨w.heap.size,4,none⟩=some (.slice none 0 0):=⟨by rw [hTk.cell];rfl,by rw [hTk.cell];rfl,by rw [hTk.cell];rfl,by rw [hTk.cell];rfl,by rw [hTk.cell];rfl⟩
       have HTk2:=Lib.hid hTk
       clear hTk hg17 hbs17 hE17
       go_wp2_with fail
       have hX18 : ExtM (·=w.heap.size) w17 (((((w17.setCell ⟨w.heap.size,0,none⟩ rv0).setCell ⟨w.heap.size,1,none⟩ (.slice (some ⟨g,0,none⟩) E.length cap)).setCell ⟨w.heap.size,2,none⟩ sv0).setCell ⟨w.heap.size,3,none⟩ (.slice ca cl.length cc)).setCell ⟨w.heap.size,4,none⟩ (.slice (some ⟨w5.heap.size + 1,0,none⟩) 0 0)):=(((((ExtM.refl _ w17).set1 0 _).set1 1 _).set1 2 _).set1 3 _).set1 4 _
       refine bodyPost_ret (results_ct rfl _ _ w.heap.size 81 #[rv0,.slice (some ⟨g,0,none⟩) E.length cap,sv0,.slice ca cl.length cc,.slice (some ⟨w5.heap.size + 1,0,none⟩) 0 0] rfl ?_ row81 size81) rfl ?_
       all_goals (obtain rfl:=HRV0.out;obtain rfl:=HSV0.out)
       ·exact ((((HTk2.out.set 0 _).set 1 _).set 2 _).set 3 _).set 4 _
       have h1417 : Ext w14 w17:=HR17.out
       have h1217 : Ext w12 w17:=HE24.out.trans h1417
       have hg14:=HE17.out.1
       have hsz14:=HE14.out.size
       have h6 : w.heap.size < w5.heap.size + 1:=by have:=HTk6.out.lt;simpa using this
       refine ⟨⟨_,_,_,_,_,_,_,_,rfl,?_,?_,?_,?_,?_,fun b o e=>by cases e;omega,fun b o e=>Nat.le_of_lt (HI12.out.2.2 b o e),fun b o e=>by cases e;omega,hcap,HI12.out.1,Nat.le_refl _⟩,?_⟩
       ·exact ((HV.out.mono (HHk.out.keeps _)).mono (hX18.keeps (fun b hb e=>by omega))).imp (fun b hb _=>Nat.le_of_lt hb)
       ·exact ((HSV2.out.mono (h1217.keeps _)).mono (hX18.keeps (fun b hb e=>by omega))).imp (fun b hb _=>Nat.le_of_lt hb)
       ·exact HBS.out.extM hX18 (fun b o e=>by cases e;omega)
       ·exact (HI12.out.2.1.mono h1217).extM hX18 (fun b o e=>by have:=HI12.out.2.2 b o e;omega)
       ·exact (HA.out.mono HHk.out).extM hX18 (fun b o e=>by cases e;omega)
       ·exact ((((HXk.out.setNew (Nat.le_refl _) 0 _).setNew (Nat.le_refl _) 1 _).setNew (Nat.le_refl _) 2 _).setNew (Nat.le_refl _) 3 _).setNew (Nat.le_refl _) 4 _
      ·intro s c kl yd yp w17 cnt17 hkey hlk hv hat hrg17 hlt17 hg17 hs17 hen17
       obtain ⟨s',es,rfl,-⟩:=Maps.keyOf_str underlying9 hkey
       obtain rfl : s=s':=encStr_inj es
       have hrow17:=hrow.kept hg17 (Or.inr (row_ne_iter hrow hrg).symm)
       have hE17:=hEr.grown hg17 (fun k hk=>by cases hk;have:=hg15.size;omega)
       have hsz17:=hE17.size
       clear hs17 hEr hrow
       go_wp2_with (first
        | (at_builtin;refine wpList_append_own _ rfl _ _ 31 rfl w14.heap.size 9 i9 (.string ⟨#[]⟩) 1 16 underlying31 hi9 hz90 hz91 hz92 rfl (by decide) _ _ _ rfl (hrow17.alloc _) ⟨w17.heap.size,0,none⟩ 1 1 [encStr s] rfl rfl (cell_one_new _ _ _) (by simp [Value.oneCell',encStr]) (by unfold maxLen at *;omega) (by omega) (by simp;omega) ?_;intro v' w18 hown18 hg18 hnil18;go_frame)
        | fail)
       have hrg18:=(hrg17.alloc _).kept hg18 (row_ne_low hrow17 (by omega)) (row_ne_iter hrow17 hrg17)
       go_roundw
       case rel =>
        refine ⟨_,cnt17,ss ++ [s],hrg18,by simp;omega,by simpa using hown18,fun hv'=>by have:=(hnil18.1 hv').2;omega,hC.step hlk hat,?_⟩
        exact (hE17.trans (Ext.alloc _ _)).grown hg18 (fun j hj=>(hrow17.lt j hj).1)
       case measure=>rw [hrg18.left_eq,hrg.left_eq];exact hlt17
  | some mb =>
   obtain ⟨D,hO,hND⟩:=HM6.out
   have HO:=Lib.hid hO
   have HND:=Lib.hid hND
   have hsm : (nm.length : Int) <= 64:=by omega
   have hmbl:=hO.lt
   clear hO hND
   go_wp2_with (first
    | (at_len;refine wpList_len_own _ rfl _ 118 rfl 9 3 underlying118 _ mb _ D rfl HO.out ?_;rw [HND.out.1])
    | (at_make;refine wpList_make_full _ rfl _ _ 31 rfl (w5.heap.size + 1) 9 i9 (.string ⟨#[]⟩) 1 underlying31 hi9 hz90 hz91 _ _ _ _ nm.length rfl rfl rfl rfl (by rw [hz92];omega) (by unfold maxLen;omega) (by simp) ?_;intro w7 hrow7 hg7;have b67:=hg7.cell b6 (by simp))
    | (at_range;refine wpList_range_own _ rfl _ 118 rfl 9 3 law9 underlying118 _ mb _ D rfl (HO.out.kept hg7 (by simp)) ?_;intro w8 hrg8 hg8 hs8)
    | fail)
   go_frame
   have hG7 : Blk w7 (w5.heap.size + 1) (madeCells (Value.string ⟨#[]⟩).cells (nm.length * 1)) 9:=by
    rcases hrow7.2 with ⟨h,-⟩ | ⟨g,cap,cur,hv,hb,hgg,-,-,hcs,htk⟩
    ·cases h
    ·simp only [Value.slice.injEq,Option.some.injEq,Addr.mk.injEq] at hv
     obtain ⟨⟨rfl,-,-⟩,-,rfl⟩:=hv
     have e : cur=madeCells (Value.string ⟨#[]⟩).cells (nm.length * 1):=by
      apply Array.ext'
      rw [<- htk,List.take_of_length_le (by simp [hcs])]
     rw [<- e];simpa [Blk] using hgg
   have hG8:=hG7.grown' hg8 (by simp)
   have HE8 : Hid (Ext (w5.alloc (.cells #[.int .i64 x.typ,.string x.val,.int .i64 x.pos] 115)) w8):=Lib.hid (((Ext.refl _).grown hg7 (fun k hk=>by cases hk)).grown hg8 (fun k hk=>by cases hk))
   have hs7 : w5.heap.size + 1 < w7.heap.size:=hG7.lt
   have HG8:=Lib.hid hG8
   have hrg8':=hrg8
   have HR8:=Lib.hid hrg8'
   clear hG8 hG7 hrow7 hg7 hg8 hrg8' hrg8 b67
   go_loopw [11] (fun _ wr=>∃ (left : Lit -> Bool) (cnt : Nat) (cur : Array Value),wr.ranges Tryz.prog 9 (plainElem Tryz.prog 3) mb w7.heap.size nm.length D left cnt /\ (∀ kl,left kl=true -> Maps.has D kl=true) /\ Blk wr (w5.heap.size + 1) cur 9 /\ cur.size=nm.length /\ (∀ s ∈ nm,left (.string s)=false -> cur[nm.idxOf s]?=some (encStr s)) /\ Ext (w5.alloc (.cells #[.int .i64 x.typ,.string x.val,.int .i64 x.pos] 115)) wr) (fun _ wr=>wr.rangeLeft mb w7.heap.size)
   case atStart =>
    refine ⟨_,_,_,HR8.out,fun kl h=>h,HG8.out,by simp [madeCells],fun s hs hl=>?_,HE8.out⟩
    have:=HND.out.2.1 s
    rw [hl,decide_eq_true hs] at this
    cases this
   case round =>
    obtain ⟨left,cnt,cur,hrg,hsub,hB,hcs,hdone,hEw⟩:=hrel
    have hgr : w5.heap.size + 1 ≠ w7.heap.size:=by omega
    go_wp2_with (first
     | (at_next;refine wpList_next_ranges _ rfl _ rfl 9 law9 (plainElem Tryz.prog 3) encStr (Value.int .i64) (fun key kl hk=>by obtain ⟨x,hx,_⟩:=Maps.keyOf_str underlying9 hk;exact ⟨x,hx⟩) (fun v y hv=>by obtain ⟨c,rfl,_⟩:=plainElem_int_inv underlying3 hv;exact ⟨c,rfl⟩) mb w7.heap.size nm.length _ _ _ rfl hrg ?_ ?_)
     | fail)
    ·intro hc0 hl0
     have hBm : BsAt wr (some ⟨w5.heap.size + 1,0,none⟩) nm:=fun j hj=>⟨_,0,rfl,by
      have:=hdone nm[j] (List.getElem_mem hj) (hl0 _)
      rw [List.Nodup.idxOf_getElem hnd] at this
      rw [Nat.zero_add,hB.cell];exact this⟩
     have HA:=Lib.hid hBm
     have HTk:=Lib.hid (HTk6.out.ext hEw)
     have HX:=Lib.hid (HX6.out.ext hEw)
     have hwh : w.heap.size <= (w2.setCell ⟨pb,5,none⟩ (.slice a its.length c)).heap.size:=HX3.out.size
     have HV:=Lib.hid ((HV6.out.mono (hEw.keeps _)).imp (Y:=fun b=>w.heap.size < b) (fun b hb _=>Nat.lt_of_lt_of_le HT3.out.lt hb))
     have HNil2:=Lib.hid hnd
     clear hB hrg hEw hBm hdone hsub hl0 hc0 hcs hnd hgr
     obtain ⟨rv0,HRV0⟩ : ∃ r : Value,Hid (r=.iface tt xx):=⟨_,Lib.hid rfl⟩
     have hmm:=@run_makeMap Tryz.prog
     rcases as_struct HV.out with ⟨nm2,ks2,a2,c2,e2,hu,-⟩ | ⟨hta,-⟩
     case' inl =>
      obtain ⟨rfl,rfl⟩:=Value.iface.inj hu
      have hta:=(ta_127 (.agg #[.string nm2,.slice a2 ks2.length c2])).2.1
      have hss:=HNS.out nm2 ks2 e2
      clear e2 hu
     all_goals
      go_wp2_with fail
      refine (HSym.out (fun b=>w.heap.size < b) _ _ (HV.out.mono ((Ext.alloc _ _).keeps _))).mono ?_
      rintro e w11 ⟨⟨sv,rfl,hsv⟩,hE11⟩
      have hs11:=hE11.size
      have HE11:=Lib.hid hE11.of_alloc
      have hwr : w.heap.size <= wr.heap.size:=HX.out.size
      have hltr:=HTk.out.lt
      have HSV:=Lib.hid (hsv.imp (Y:=fun b=>w.heap.size < b) (fun b hb _=>by simp at hb;omega))
      clear hE11 hsv hs11
      obtain ⟨sv0,HSV0⟩ : ∃ r : Value,Hid (r=sv):=⟨_,Lib.hid rfl⟩
      rcases HSV.out.shape with rfl | ⟨ts,xs,rfl⟩
      all_goals
       go_wp2_with fail
       refine (HRoot.out (fun b=>w.heap.size < b) _ _ (HV.out.mono (HE11.out.keeps _))).mono ?_
       rintro e w12 ⟨⟨ca,cc,rfl,hcc,hI12,hfr⟩,hE12⟩
       have HE12:=Lib.hid (HE11.out.trans hE12)
       have HSV2:=Lib.hid (HSV.out.mono (hE12.keeps _))
       have HI12:=Lib.hid (And.intro hcc (And.intro hI12 (fun b o e=>Nat.lt_of_lt_of_le (Nat.lt_of_lt_of_le hltr HE11.out.size) (hfr b o e))))
       have hwr12 : wr.heap.size <= w12.heap.size:=HE12.out.size
       clear hE12 hI12 hcc hfr
       go_wp2_with fail
       refine (HEnt.out.1 [] E HEnt.out.2 (fun b=>w.heap.size <= b /\ b < w12.heap.size) _ _ w12.heap.size 0 (((HV.out.mono (HE12.out.keeps _)).imp (fun b hb hl=>⟨Nat.le_of_lt hb,hl⟩)).mono ((Ext.alloc _ _).keeps _)) (fun b hb e=>by omega) ⟨_,World.ownsMap_made (H:=Unit) w12 Tryz.prog 9 (plainElem Tryz.prog 4),rfl,fun s=>rfl⟩ (by omega)).mono ?_
       rintro e w14 ⟨rfl,hX14,hS14⟩
       have HE14:=Lib.hid (HE12.out.trans (hX14.toExt (Ext.alloc w12 (.map #[] 0)) (fun i hi e=>by omega)))
       have HE24:=Lib.hid (hX14.toExt (Ext.alloc w12 (.map #[] 0)) (fun i hi e=>by omega))
       obtain ⟨D2,hO2,hz2,hh2⟩:=hS14
       rw [Nat.zero_add] at hO2
       have HO2:=Lib.hid hO2
       have hmb2:=hO2.lt
       have HH2:=Lib.hid (And.intro hz2 hh2)
       have hD2 : Maps.size D2 <= 1000:=by omega
       clear hX14 hO2 hz2 hh2
       go_wp2_with (first
        | (at_len;refine wpList_len_own _ rfl _ 160 rfl 9 4 underlying160 _ w12.heap.size _ D2 rfl HO2.out ?_)
        | (at_make;refine wpList_make_own _ rfl _ _ 31 rfl w14.heap.size 9 i9 (.string ⟨#[]⟩) 1 underlying31 hi9 hz90 hz91 _ _ _ (Maps.size D2) rfl rfl rfl (by rw [hz92];omega) (by unfold maxLen;omega) (Nat.le_refl _) ?_;intro w15 hrow15 hg15)
        | (at_range;refine wpList_range_own _ rfl _ 160 rfl 9 4 law9 underlying160 _ w12.heap.size _ D2 rfl (HO2.out.kept hg15 (by simp)) ?_;intro w16 hrg16 hg16 hs16)
        | fail)
       go_frame
       have HE24b:=Lib.hid (HE14.out)
       go_loopw [20] (fun v wr=>∃ (left : Lit -> Bool) (cnt : Nat) (ss : List (List UInt8)),wr.ranges Tryz.prog 9 (plainElem Tryz.prog 4) w12.heap.size w15.heap.size n.cnt D2 left cnt /\ ss.length + cnt <= Maps.size D2 /\ wr.ownsRow w14.heap.size 9 1 v ss.length (ss.map encStr) /\ v ≠ .slice none 0 0 /\ Collected D2 left ss /\ Ext w14 wr) (fun _ wr=>wr.rangeLeft w12.heap.size w15.heap.size)
       case atStart =>
        exact ⟨_,_,[],hrg16,by simp,hrow15.kept hg16 (Or.inr (by simp [Value.ownBlock])),by simp,Collected.start D2,((Ext.refl _).grown hg15 (fun k hk=>by cases hk)).grown hg16 (fun k hk=>by cases hk)⟩
       case round =>
        obtain ⟨left2,cnt2,ss,hrg,hcs,hrow,hnn,hC,hEr⟩:=hrel
        go_wp2_with (first
         | (at_next;refine wpList_next_ranges _ rfl _ rfl 9 law9 (plainElem Tryz.prog 4) encStr (fun v : Value=>v) (fun key kl hk=>by obtain ⟨x,hx,_⟩:=Maps.keyOf_str underlying9 hk;exact ⟨x,hx⟩) (fun v y hv=>⟨v,rfl⟩) w12.heap.size w15.heap.size n.cnt _ _ _ rfl hrg ?_ ?_)
         | fail)
        ·intro hc0 hl0
         rcases hrow.2 with ⟨hnil,_⟩ | ⟨g,cap,cur,rfl,hbase,hb,h1,h2,h3,h4⟩
         ·exact absurd hnil hnn
         have hH : Holds encStr wr g 0 ss.toArray:=holds_of_block hb (by simpa using h4)
         have hgl : g < wr.heap.size:=(Array.getElem?_eq_some_iff.1 hb).1
         have hperm : ss.Perm E:=(List.perm_ext_iff_of_nodup hC.1 HEd.out).2 (fun s=>by
          rw [hC.2 s,HH2.out.2 s];simp [hl0])
         have hlen:=hperm.length_eq
         have hms:=mergeSort_of_perm hperm
         have hcap : E.length <= cap:=hlen ▸ h1
         have HS : Hid (Calls Tryz.prog 65 #[.slice (some ⟨g,0,none⟩) E.length cap] wr fun e w'=>e=.returned (.tuple #[]) /\ wr.grownBy w' (some g) /\ BsAt w' (some ⟨g,0,none⟩) (E.mergeSort leB)):=Lib.hid (by
          rw [<- hlen]
          refine (Tryz.slices_Sort_string g 0 cap ss wr hH hgl (by omega)).mono ?_
          rintro e w' ⟨rfl,nn,os,rfl⟩
          refine ⟨rfl,grownBy_sorted _,fun j hj=>⟨g,0,rfl,?_⟩⟩
          have hr:=ownsRow_sorted (n:=nn) (os:=os) (ts:=ss.mergeSort fun x y=>decide (x <= y)) (by simp) hbase hb h1 h2 h3
          rcases hr.2 with ⟨hn,-⟩ | ⟨g',cap',cur',hv',-,hb',-,-,hc',ht'⟩
          ·cases hn
          ·simp only [Value.slice.injEq,Option.some.injEq,Addr.mk.injEq] at hv'
           obtain ⟨⟨rfl,-,-⟩,-,rfl⟩:=hv'
           have hj2 : j < ss.length:=by rw [hlen];simpa using hj
           have hjc : j < cur'.size:=by omega
           rw [Nat.zero_add,(show Blk _ g cur' 9 from hb').cell]
           have:=congrArg (fun l=>l[j]?) ht'
           simp only [List.getElem?_take,List.getElem?_map,Nat.mul_one,hj2,if_true] at this
           rw [hms] at this
           rw [List.getElem?_eq_getElem hj] at this
           simpa using this)
         have HE17:=Lib.hid (And.intro hbase (HE14.out.trans hEr))
         have HR14:=Lib.hid hEr
         clear hperm hC hEr hrow hrg hH hb h1 h2 h3 h4 hms hcs hc0 hl0 hnn
         have hb17 : w12.heap.size <= w14.heap.size:=by omega
         go_wp2_with fail
         refine HS.out.mono ?_
         rintro e w17 ⟨rfl,hg17,hbs17⟩
         have hE17:=HE17.out.2.grown hg17 (fun k hk=>by cases hk;have:=HE17.out.1;have:=HE14.out.size;omega)
         have hTk:=HTk.out.ext hE17
         have HXk:=Lib.hid (HX.out.ext hE17)
         have HBS:=Lib.hid hbs17
         have HHk:=Lib.hid hE17
         have HR17:=Lib.hid (HR14.out.grown hg17 (fun k hk=>by cases hk;exact HE17.out.1))
         have fT:=hTk.frozen
         have lT:=hTk.lt
         have cT : w17.cell? ⟨w.heap.size,0,none⟩=some .nilIface /\ w17.cell? ⟨w.heap.size,1,none⟩=some (.slice none 0 0) /\ w17.cell? ⟨w.heap.size,2,none⟩=some .nilIface /\ w17.cell? ⟨w.heap.size,3,none⟩=some (.slice none 0 0) /\ w17.cell? ⟨w.heap.size,4,none⟩=some (.slice none 0 0):=⟨by rw [hTk.cell];rfl,by rw [hTk.cell];rfl,by rw [hTk.cell];rfl,by rw [hTk.cell];rfl,by rw [hTk.cell];rfl⟩
         have HTk2:=Lib.hid hTk
         clear hTk hg17 hbs17 hE17
         go_wp2_with fail
         have hX18 : ExtM (·=w.heap.size) w17 (((((w17.setCell ⟨w.heap.size,0,none⟩ rv0).setCell ⟨w.heap.size,1,none⟩ (.slice (some ⟨g,0,none⟩) E.length cap)).setCell ⟨w.heap.size,2,none⟩ sv0).setCell ⟨w.heap.size,3,none⟩ (.slice ca cl.length cc)).setCell ⟨w.heap.size,4,none⟩ (.slice (some ⟨w5.heap.size + 1,0,none⟩) nm.length nm.length)):=(((((ExtM.refl _ w17).set1 0 _).set1 1 _).set1 2 _).set1 3 _).set1 4 _
         refine bodyPost_ret (results_ct rfl _ _ w.heap.size 81 #[rv0,.slice (some ⟨g,0,none⟩) E.length cap,sv0,.slice ca cl.length cc,.slice (some ⟨w5.heap.size + 1,0,none⟩) nm.length nm.length] rfl ?_ row81 size81) rfl ?_
         all_goals (obtain rfl:=HRV0.out;obtain rfl:=HSV0.out)
         ·exact ((((HTk2.out.set 0 _).set 1 _).set 2 _).set 3 _).set 4 _
         have h1417 : Ext w14 w17:=HR17.out
         have h1217 : Ext w12 w17:=HE24.out.trans h1417
         have hg14:=HE17.out.1
         have hsz14:=HE14.out.size
         have h6 : w.heap.size < w5.heap.size + 1:=by have:=HTk6.out.lt;simpa using this
         refine ⟨⟨_,_,_,_,_,_,_,_,rfl,?_,?_,?_,?_,?_,fun b o e=>by cases e;omega,fun b o e=>Nat.le_of_lt (HI12.out.2.2 b o e),fun b o e=>by cases e;omega,hcap,HI12.out.1,Nat.le_refl _⟩,?_⟩
         ·exact ((HV.out.mono (HHk.out.keeps _)).mono (hX18.keeps (fun b hb e=>by omega))).imp (fun b hb _=>Nat.le_of_lt hb)
         ·exact ((HSV2.out.mono (h1217.keeps _)).mono (hX18.keeps (fun b hb e=>by omega))).imp (fun b hb _=>Nat.le_of_lt hb)
         ·exact HBS.out.extM hX18 (fun b o e=>by cases e;omega)
         ·exact (HI12.out.2.1.mono h1217).extM hX18 (fun b o e=>by have:=HI12.out.2.2 b o e;omega)
         ·exact (HA.out.mono HHk.out).extM hX18 (fun b o e=>by cases e;omega)
         ·exact ((((HXk.out.setNew (Nat.le_refl _) 0 _).setNew (Nat.le_refl _) 1 _).setNew (Nat.le_refl _) 2 _).setNew (Nat.le_refl _) 3 _).setNew (Nat.le_refl _) 4 _
        ·intro s c kl yd yp w17 cnt17 hkey hlk hv hat hrg17 hlt17 hg17 hs17 hen17
         obtain ⟨s',es,rfl,-⟩:=Maps.keyOf_str underlying9 hkey
         obtain rfl : s=s':=encStr_inj es
         have hrow17:=hrow.kept hg17 (Or.inr (row_ne_iter hrow hrg).symm)
         have hE17:=hEr.grown hg17 (fun k hk=>by cases hk;have:=hg15.size;omega)
         have hsz17:=hE17.size
         clear hs17 hEr hrow
         go_wp2_with (first
          | (at_builtin;refine wpList_append_own _ rfl _ _ 31 rfl w14.heap.size 9 i9 (.string ⟨#[]⟩) 1 16 underlying31 hi9 hz90 hz91 hz92 rfl (by decide) _ _ _ rfl (hrow17.alloc _) ⟨w17.heap.size,0,none⟩ 1 1 [encStr s] rfl rfl (cell_one_new _ _ _) (by simp [Value.oneCell',encStr]) (by unfold maxLen at *;omega) (by omega) (by simp;omega) ?_;intro v' w18 hown18 hg18 hnil18;go_frame)
          | fail)
         have hrg18:=(hrg17.alloc _).kept hg18 (row_ne_low hrow17 (by omega)) (row_ne_iter hrow17 hrg17)
         go_roundw
         case rel =>
          refine ⟨_,cnt17,ss ++ [s],hrg18,by simp;omega,by simpa using hown18,fun hv'=>by have:=(hnil18.1 hv').2;omega,hC.step hlk hat,?_⟩
          exact (hE17.trans (Ext.alloc _ _)).grown hg18 (fun j hj=>(hrow17.lt j hj).1)
         case measure=>rw [hrg18.left_eq,hrg.left_eq];exact hlt17
    ·intro s c kl yd yp w9 cnt9 hkey hlk hv hat hrg9 hlt9 hgr9 hsz9 hen9
     obtain ⟨s',es,rfl,-⟩:=Maps.keyOf_str underlying9 hkey
     obtain rfl : s=s':=encStr_inj es
     obtain ⟨c',ec,hy⟩:=plainElem_int_inv underlying3 hv
     obtain rfl : c=c':=by simpa using ec
     have hs : s ∈ nm:=by
      have:=hsub _ hlk
      rw [HND.out.2.1 s] at this
      simpa using this
     obtain ⟨hy,-⟩:=hy
     have hcv : c=nm.idxOf s:=by
      have h1:=hat (.lit (.int .i64 0))
      obtain ⟨rfl,-⟩:=Prod.mk.inj hy
      rw [HND.out.2.2 s hs] at h1
      simpa using h1.symm
     subst hcv
     have hix : nm.idxOf s < nm.length:=List.idxOf_lt_length_iff.2 hs
     have hB9:=hB.grown' hgr9 (by intro e;exact hgr (Option.some.inj e))
     have hE9:=hEw.grown hgr9 (fun k hk=>by cases hk;simp;omega)
     have hc9 : w9.cell? ⟨w5.heap.size + 1,nm.idxOf s,none⟩=some (cur[nm.idxOf s]'(by omega)):=by rw [hB9.cell];simp
     have hf9:=hB9.frozen
     have hl9:=hB9.lt
     have hi0 : (0 : Int) <= (nm.idxOf s : Int):=Int.natCast_nonneg _
     have hi1 : (nm.idxOf s : Int) < (nm.length : Int):=by omega
     have HF:=Lib.hid (And.intro hrg9 (And.intro hB9 (And.intro hE9 (And.intro hsub (And.intro hdone (And.intro hcs hlt9))))))
     have HRG:=Lib.hid hrg
     have HSS:=Lib.hid hs
     clear hrg9 hB9 hE9 hsub hdone hrg hB hEw hat hv hy hkey hgr9 hsz9 hs ec es hlk hlt9
     go_wp2_with fail
     obtain ⟨q1,q2,q3,q4,q5,q6,q7⟩:=HF.out
     have hk:=q1.kept (grown_set w9 (w5.heap.size + 1) (nm.idxOf s) (.string ⟨s.toArray⟩)) (by intro e;have:=Option.some.inj e;simp at hmbl;omega) (by intro e;exact hgr (Option.some.inj e).symm)
     refine ⟨⟨_,cnt9,cur.setIfInBounds (nm.idxOf s) (encStr s),hk,fun kl h=>q4 kl (by simp at h;exact h.1),q2.set _ _,by simp [hcs],fun t ht hl=>?_,q3.setCell (by simp) _⟩,by rw [hk.left_eq,HRG.out.left_eq];exact q7⟩
     by_cases e : t=s
     ·subst e
      rw [Array.getElem?_setIfInBounds_self_of_lt (by omega)]
     ·have hix2 : nm.idxOf t ≠ nm.idxOf s:=fun h=>e (idxOf_same ht HSS.out h)
      rw [Array.getElem?_setIfInBounds_ne (Ne.symm hix2)]
      refine q5 t ht ?_
      cases hlt : left (.string t) with
      | false=>rfl
      | true =>
       rw [hlt] at hl
       exact absurd (same_str (by simpa using hl)) e
end Go.Proofs.YtigalkobmfbdaaaGreatDoor
