/- Trees lie apart from a row of zeros. -/
import Derived.Test.YtigalkobmfbdaaaGreatDoorMix2f
import Derived.Test.YtigalkobmfbdaaaGreatDoorMix2d
import Derived.Test.YtigalkobmfbdaaaGreatDoorMix2p
import Derived.Test.YtigalkobmfbdaaaGreatDoorMix2q
import Derived.Test.YtigalkobmfbdaaaGreatDoorMix2j
import Derived.Test.YtigalkobmfbdaaaGreatDoorMix2r
import Derived.Test.YtigalkobmfbdaaaGreatDoorMix2n
import Derived.Test.YtigalkobmfbdaaaGreatDoorMix2e
set_option linter.unusedVariables false
set_option linter.unusedSimpArgs false
namespace Go.Proofs.YtigalkobmfbdaaaGreatDoor
open Go.RowKit
abbrev zeros34 : Array Value:=#[.string ⟨#[]⟩,.string ⟨#[]⟩,.slice none 0 0,.slice none 0 0,.string ⟨#[]⟩,.string ⟨#[]⟩,.slice none 0 0,.slice none 0 0,.slice none 0 0]
theorem zeros34_str {o : Nat} {s : ByteArray} (h : zeros34[o]?=some (.string s)) : s=⟨#[]⟩:=by
 rcases o with _ | _ | _ | _ | _ | _ | _ | _ | _ | o
 all_goals simp [zeros34] at h
 all_goals exact h.symm
mutual
def kinds : Tree -> Prop
 | .mk _ _ ks=>kindsAll ks
def kindsAll : List Tree -> Prop
 | []=>True
 | t :: ts=>t.kind ≠ ⟨#[]⟩ /\ kinds t /\ kindsAll ts
end
mutual
theorem TreeIn.apart {X : Nat -> Prop} {w : World} {g t34 : Nat} (hg : Blk w g zeros34 t34) : ∀ {a : Option Addr} {c : Nat} {t : Tree},kinds t -> TreeIn X w a c t -> TreeIn (fun b=>X b /\ b ≠ g) w a c t
 | _,_,.mk _ _ _,hn,⟨hs,hc,hk⟩=>⟨hs,hc,KidsIn.apart hg hn hk⟩
theorem KidsIn.apart {X : Nat -> Prop} {w : World} {g t34 : Nat} (hg : Blk w g zeros34 t34) : ∀ {a : Option Addr} {ts : List Tree},kindsAll ts -> KidsIn X w a ts -> KidsIn (fun b=>X b /\ b ≠ g) w a ts
 | _,[],_,_=>trivial
 | _,t :: _,hn,⟨b,o,a',c',ha,hb,h1,h2,h3,ht,hk⟩=>⟨b,o,a',c',ha,⟨hb,by rintro rfl;rw [hg.cell] at h1;exact hn.1 (zeros34_str h1)⟩,h1,h2,h3,TreeIn.apart hg hn.2.1 ht,KidsIn.apart hg hn.2.2 hk⟩
end
end Go.Proofs.YtigalkobmfbdaaaGreatDoor
namespace Go.Proofs.YtigalkobmfbdaaaGreatDoor
open Go.RowKit
theorem kinds_mk (k x : ByteArray) (ks : List Tree) : kinds (.mk k x ks) ↔ kindsAll ks:=by rw [kinds]
theorem kindsAll_of : ∀ (l : List Tree),(∀ t ∈ l,t.kind ≠ ⟨#[]⟩ /\ kinds t) -> kindsAll l
 | [],_=>by rw [kindsAll];trivial
 | t :: l,h=>by
  rw [kindsAll]
  exact ⟨(h t (List.mem_cons_self ..)).1,(h t (List.mem_cons_self ..)).2,kindsAll_of l fun u hu=>h u (List.mem_cons_of_mem _ hu)⟩
def Fit3 (t : Tree) (n : PN) : Prop:=okN n=true /\ n.cnt <= 3 * count t /\ t.kind ≠ ⟨#[]⟩ /\ kinds t
theorem toPN_fit (t : Tree) : ∀ c,good t c=true -> ∀ nm,Fit3 t (toPN t nm).1:=by
 refine Tree.ind (P:=fun t=>∀ c,good t c=true -> ∀ nm,Fit3 t (toPN t nm).1) ?_ t
 clear t
 rintro ⟨k,x,ks⟩ ih c hg nm
 simp only [kids_mk] at ih
 have ihm : ∀ t ∈ ks,∀ c,good t c=true -> ∀ nm,Fit3 t (toPN t nm).1:=fun t ht=>by
  obtain ⟨j,hj,rfl⟩:=List.getElem_of_mem ht
  exact ih j hj
 have ihl : ∀ (l : List Tree),(∀ t ∈ l,t ∈ ks /\ ∃ c,good t c=true) -> ∀ nm,okNs (toPNs l nm).1=true /\ cntAll (toPNs l nm).1 <= 3 * countAll l /\ kindsAll l:=by
  intro l
  induction l with
  | nil=>intro _ nm;rw [toPNs,okNs,cntAll,countAll,kindsAll];exact ⟨rfl,Nat.le_refl _,trivial⟩
  | cons u l ihl =>
   intro h nm
   obtain ⟨hu,c,hc⟩:=h u (List.mem_cons_self ..)
   obtain ⟨g1,g2,g3,g4⟩:=ihm u hu c hc nm
   obtain ⟨q1,q2,q3⟩:=ihl (fun t ht=>h t (List.mem_cons_of_mem _ ht)) (toPN u nm).2
   rw [toPNs_cons,okNs,cntAll,countAll,kindsAll,g1,q1]
   exact ⟨rfl,by omega,g3,g4,q3⟩
 unfold Fit3
 rw [toPN_mk]
 rcases kind_cases k with rfl | rfl | rfl | rfl | rfl | hk
 ·obtain ⟨-,rfl⟩:=good_leaf_parts (.inl rfl) hg
  simp only [toList_mk]
  simp (decide:=true) only [↓reduceIte]
  rw [PN.cnt,kinds_mk,kindsAll]
  exact ⟨by simp [okN],by simp only [count];omega,by simp only [kind_mk];decide,trivial⟩
 ·obtain ⟨-,rfl⟩:=good_leaf_parts (.inr rfl) hg
  simp only [toList_mk]
  simp (decide:=true) only [↓reduceIte]
  rw [PN.cnt,kinds_mk,kindsAll]
  exact ⟨by simp [okN],by simp only [count];omega,by simp only [kind_mk];decide,trivial⟩
 ·obtain ⟨-,rfl,-⟩:=good_string_parts hg
  simp only [toList_mk]
  simp (decide:=true) only [↓reduceIte]
  rw [PN.cnt,kinds_mk,kindsAll]
  exact ⟨by simp [okN],by simp only [count];omega,by simp only [kind_mk];decide,trivial⟩
 ·obtain ⟨hx,rfl | ⟨a,b,rfl,ha,hb1,hb⟩⟩:=good_list_parts hg
  ·simp only [toList_mk]
   simp (decide:=true) only [↓reduceIte]
   rw [kinds_mk,kindsAll]
   refine ⟨by simp [okN,PN.isNul],by rw [PN.cnt,PN.cnt];simp only [count];omega,by simp only [kind_mk];decide,trivial⟩
  ·simp only [toList_mk]
   simp (decide:=true) only [↓reduceIte]
   obtain ⟨g1,g2,g3,g4⟩:=ihm a (by simp) _ ha nm
   obtain ⟨q1,q2,q3,q4⟩:=ihm b (by simp) _ hb (toPN a nm).2
   have n1:=(toTree_toPN a _ ha nm).2
   have n2:=(toTree_toPN b _ hb (toPN a nm).2).2
   rw [kinds_mk]
   refine ⟨by simp [okN,g1,q1,n1,n2],by rw [PN.cnt];simp only [count,countAll];omega,by simp only [kind_mk];decide,kindsAll_of _ fun t ht=>?_⟩
   simp at ht
   rcases ht with rfl | rfl
   ·exact ⟨g3,g4⟩
   ·exact ⟨q3,q4⟩
 ·obtain ⟨hx,rfl | ⟨a,rfl,hn,ha⟩⟩:=good_bind_parts hg
  ·simp only [toList_mk]
   simp (decide:=true) only [↓reduceIte]
   rw [kinds_mk,kindsAll]
   refine ⟨by simp [okN],by rw [PN.cnt,PN.cnt];simp only [count];omega,by simp only [kind_mk];decide,trivial⟩
  ·simp only [toList_mk]
   simp (decide:=true) only [↓reduceIte]
   obtain ⟨g1,g2,g3,g4⟩:=ihm a (by simp) _ ha nm
   rw [kinds_mk]
   refine ⟨by simp [okN,g1],by rw [PN.cnt];simp only [count,countAll];omega,by simp only [kind_mk];decide,kindsAll_of _ fun t ht=>?_⟩
   rw [List.mem_singleton.1 ht]
   exact ⟨g3,g4⟩
 ·have hk' : (k.toList == [65,110,121])=false /\ (k.toList == [78,105,108])=false /\ (k.toList == [83,116,114,105,110,103])=false /\ (k.toList == [76,105,115,116])=false /\ (k.toList == [66,105,110,100,105,110,103])=false:=by
   rcases hk with rfl | rfl | hk
   ·simp only [toList_mk];decide
   ·simp only [toList_mk];decide
   ·exact ⟨hk.1,hk.2.1,hk.2.2.1,hk.2.2.2.1,hk.2.2.2.2.1⟩
  obtain ⟨h1,h2,h3,h4,h5⟩:=hk'
  obtain ⟨hks,hcap,hx⟩:=good_node hg h1 h2 h3 h4 h5
  obtain ⟨q1,q2,q3⟩:=ihl ks (fun t ht=>⟨ht,hks t ht⟩) nm
  have hne : k ≠ ⟨#[]⟩:=by
   rintro rfl
   rw [toList_mk] at hcap
   exact absurd hcap (by decide)
  rw [h1,h2,h3,h4,h5,kinds_mk]
  simp only [Bool.false_eq_true,if_false]
  split
  ·exact ⟨by simp [okN,q1],by rw [PN.cnt];simp only [count];omega,hne,q3⟩
  ·exact ⟨by simp [okN,q1],by rw [PN.cnt];simp only [count];omega,hne,q3⟩
theorem addName_nodup {a : Names} {s : List UInt8} (h : a.Nodup) : (addName a s).Nodup:=by
 unfold addName;split
 ·exact h
 ·rename_i hs
  rw [List.nodup_append]
  refine ⟨h,by simp,?_⟩
  intro u hu v hv e
  rw [List.mem_singleton.1 hv] at e
  exact hs (e ▸ hu)
theorem fold_nodup : ∀ (l a : Names),a.Nodup -> (l.foldl addName a).Nodup
 | [],a,h=>h
 | s :: l,a,h=>fold_nodup l _ (addName_nodup h)
theorem namesTs_nodup : ∀ (ts : List Tree) (acc : Names),acc.Nodup -> (namesTs ts acc).Nodup
 | [],acc,h=>by rw [namesTs];exact h
 | t :: ts,acc,h=>by rw [namesTs_cons];exact namesTs_nodup ts _ (fold_nodup _ _ h)
theorem namesT_nodup (t : Tree) : (namesT t).Nodup:=by
 obtain ⟨k,x,ks⟩:=t
 rw [namesT_mk]
 split
 ·exact addName_nodup (namesTs_nodup _ _ List.nodup_nil)
 ·exact namesTs_nodup _ _ List.nodup_nil
theorem entryN_nodup : ∀ (k : Nat) (n : PN),n.cnt < k -> ∀ acc E,acc.Nodup -> entryN n acc=some E -> E.Nodup /\ E.length <= acc.length + n.cnt
 | 0,_,h,_,_,_,_=>by omega
 | k + 1,.struct nm ks,h,acc,E,hd,hE=>by
  rw [PN.cnt] at h ⊢
  rw [entryN_struct] at hE
  split at hE
  ·split at hE
   ·rename_i a
    rw [cntAll,cntAll] at h ⊢
    obtain ⟨h1,h2⟩:=entryN_nodup k a (by omega) acc E hd hE
    exact ⟨h1,by omega⟩
   ·cases hE
  ·split at hE
   ·cases hE
    refine ⟨addName_nodup hd,?_⟩
    have:=addName_len acc nm.toList
    omega
   ·cases hE
 | k + 1,.or ks,h,acc,E,hd,hE=>by
  rw [PN.cnt] at h ⊢
  unfold entryN at hE
  have key : ∀ (l : List PN),cntAll l < k -> ∀ acc E,acc.Nodup -> entryNs l acc=some E -> E.Nodup /\ E.length <= acc.length + cntAll l:=by
   intro l
   induction l with
   | nil=>intro _ acc E hd hE;rw [entryNs] at hE;cases hE;exact ⟨hd,by rw [cntAll];omega⟩
   | cons m l ih =>
    intro hl acc E hd hE
    rw [cntAll] at hl ⊢
    rw [entryNs] at hE
    split at hE
    ·cases hE
    ·rename_i a ha
     obtain ⟨h1,h2⟩:=entryN_nodup k m (by omega) acc a hd ha
     obtain ⟨h3,h4⟩:=ih (by omega) a E h1 hE
     exact ⟨h3,by omega⟩
  obtain ⟨h1,h2⟩:=key ks (by omega) acc E hd hE
  exact ⟨h1,by omega⟩
 | k + 1,.nul,h,acc,E,hd,hE=>by unfold entryN at hE;cases hE
 | k + 1,.any,h,acc,E,hd,hE=>by unfold entryN at hE;cases hE
 | k + 1,.nil,h,acc,E,hd,hE=>by unfold entryN at hE;cases hE
 | k + 1,.str _,h,acc,E,hd,hE=>by unfold entryN at hE;cases hE
 | k + 1,.tok _,h,acc,E,hd,hE=>by unfold entryN at hE;cases hE
 | k + 1,.bind _ _ _,h,acc,E,hd,hE=>by unfold entryN at hE;cases hE
 | k + 1,.list _ _,h,acc,E,hd,hE=>by unfold entryN at hE;cases hE
 | k + 1,.and _,h,acc,E,hd,hE=>by unfold entryN at hE;cases hE
 | k + 1,.index _ _ _,h,acc,E,hd,hE=>by unfold entryN at hE;cases hE
theorem entryN_fit {n : PN} {E : Names} (h : entryN n []=some E) : E.Nodup /\ E.length <= n.cnt:=by
 have:=entryN_nodup (n.cnt + 1) n (Nat.lt_succ_self _) [] E List.nodup_nil h
 simpa using this
end Go.Proofs.YtigalkobmfbdaaaGreatDoor
set_option maxRecDepth 100000
set_option maxHeartbeats 4000000
namespace Go.Proofs.YtigalkobmfbdaaaGreatDoor
open Go.RowKit Go.WideMaps Go.Sort
def PatAt (nm : Names) (n : PN) (w : World) (e : Ending) (w' : World) : Prop:=(∃ rv sv ea en ec ca cn cc ba bc,e=.returned (.tuple #[patV rv ea en ec sv ca cn cc ba nm.length bc,.bool true]) /\ NV sv /\ NodeAt (fun _=>True) w' rv n /\ BsAt w' ba nm /\ (nm ≠ [] -> ∀ b o,ba=some ⟨b,o,none⟩ -> b < w'.heap.size) /\ nm.length <= bc) /\ Ext w w'
theorem BndsX.turn {X Y : Nat -> Prop} {w w' : World} (h : ∀ b o v,X b -> w.cell? ⟨b,o,none⟩=some v -> Y b /\ w'.cell? ⟨b,o,none⟩=some v) : ∀ {L : SL} {a : Option Addr},BndsX X w a L -> BndsX Y w' a L
 | [],_,_=>trivial
 | _ :: _,_,⟨b,o,k,a',c',ha,hb,hk,h0,h1,h2,h3,h4,h5,ht,hr⟩=>⟨b,o,k,a',c',ha,(h _ _ _ hb h0).1,hk,(h _ _ _ hb h0).2,(h _ _ _ hb h1).2,(h _ _ _ hb h2).2,(h _ _ _ hb h3).2,(h _ _ _ hb h4).2,(h _ _ _ hb h5).2,ht.turn h,BndsX.turn h hr⟩
theorem keys_perm {D : DataW Value} {V : VL} {S : SL} {X : Nat -> Prop} {w : World} (hD : RawD D V) (hVS : VS X w V S) (hS : (S.map Prod.fst).Nodup) {left : Lit -> Bool} {ss : Names} (hC : Collected D left ss) (hl : ∀ kl,left kl=false) : ss.Perm (S.map Prod.fst):=by
 refine (List.perm_ext_iff_of_nodup hC.1 hS).2 fun x=>?_
 rw [hC.2 x,show Lit.string x=keyL x from rfl,hD.2.1,hl]
 cases hg : getB S x with
 | none =>
  have:=(getB_none S x).1 hg
  rw [(hVS.get x).1 hg]
  simp only [Option.isSome_none,Bool.false_eq_true,false_and,false_iff]
  exact this
 | some t =>
  obtain ⟨v,hv,-⟩:=(hVS.get x).2 t hg
  have hx : x ∈ S.map Prod.fst:=by
   refine Decidable.byContradiction fun h=>?_
   rw [(getB_none S x).2 h] at hg
   cases hg
  rw [hv]
  simp only [Option.isSome_some,true_and,true_iff]
  exact hx
theorem bound_at {nm : Names} {tb : Nat} {X : Nat -> Prop} {w : World} {D : DataW Value} {V : VL} {S : SL} (hO : w.ownsMap Tryz.prog 9 rawElem tb V.length D) (hD : RawD D V) (hVS : VS X w V S) (hK : Keyed nm S) (hn : ∀ s ∈ nm,s.length <= 100) {L : Names} (hp : L.Perm (S.map Prod.fst)) (j : Nat) (hj : j < L.length) :
  ∃ t pv,getB S L[j]=some t /\ RZ t /\ PtrIn X w pv t /\ L[j].length <= 100 /\ ∀ w2,Ext w w2 -> (Instr.lookup 103 (.map (some tb)) (encStr L[j]) false).run Tryz.prog w2=.ok pv w2:=by
 have hm : L[j] ∈ S.map Prod.fst:=hp.subset (List.getElem_mem hj)
 have hlen : L[j].length <= 100:=by
  obtain ⟨x,hx,e⟩:=List.mem_map.1 hm
  rw [<- e]
  exact hn _ (hK.2.1 x hx)
 generalize L[j]=x at *
 cases hg : getB S x with
 | none=>exact absurd hm ((getB_none S x).1 hg)
 | some t =>
  obtain ⟨pv,hv,hp⟩:=(hVS.get x).2 t hg
  refine ⟨t,pv,rfl,hK.get hg,hp,hlen,fun w2 hE=>?_⟩
  have hR : RawMap w2 tb V:=RawMap.ext ⟨D,hO,hD⟩ hE
  have:=look_raw1 w2 hR underlying103 (zero96 w2) (s:=⟨x.toArray⟩) (by unfold maxLen;show x.toArray.size <= _;simp;omega)
  rw [show ByteArray.toList ⟨x.toArray⟩=x by rw [ByteArray.toList_eq],hv] at this
  exact this
theorem imatch_walk {s : ByteArray} {nm : Names} (hnm : nm.Nodup /\ nm.length <= 64 /\ ∀ s ∈ nm,s.length <= 100) {n : PN} (hcn : n.cnt <= 900) {t o : Syn} {S : SL} {ok : Bool} (hr : RZ t) (hm : mt nm false n t []=some (ok,o,S)) (hnl : t.null=false) (hask : ((iasked t.kind).toList == [])=false) {w : World} {a : Option Addr} {c : Nat}
  (hread : Calls Tryz.prog 55 #[.string s,.bool false] (w.alloc (.cells (synC t a c) 52)) (PatAt nm n (w.alloc (.cells (synC t a c) 52))))
  (hpart : ∀ (lb : Nat) (w1 : World),Ext w w1 -> w.heap.size <= lb -> Blk w1 lb #[.int .i64 300] 3 -> Calls Tryz.prog 62 #[synV t a c,.string t.kind,.int .i64 0,.pointer (some ⟨lb,0,none⟩)] w1 fun e w'=>PartRes w1.heap.size t e w' /\ ExtM (·=lb) w1 w') :
  Calls Tryz.prog 37 #[.string s,synV t a c] w fun e w'=>(∃ a' c',e=.returned (.tuple #[.bool ok,.slice a' S.length c',.int .i64 0]) /\ S.length <= c' /\ c' <= maxLen /\ BndsX (fun b=>w.heap.size <= b) w' a' (sortS S)) /\ Ext w w':=by
 obtain ⟨i0,hi,hz0,hz1,hz2⟩:=info_parts info62
 obtain ⟨i9,hi9,hz90,hz91,hz92⟩:=info_parts info9
 have HR:=Lib.hid hread
 have HPt:=Lib.hid hpart
 have hB0:=Blk.new w (synC t a c) 52
 have HB0:=Lib.hid hB0
 have HM:=Lib.hid hm
 have hs0 : (w.alloc (.cells (synC t a c) 52)).heap.size=w.heap.size + 1:=by simp
 have HS0:=Lib.hid hs0
 have HIC:=Lib.hid (iasked_calls t.kind)
 have HE0:=Lib.hid (Ext.alloc w (.cells (synC t a c) 52))
 clear hread hpart hB0 hm hs0
 obtain ⟨tk,tn,tx,tq,tks⟩:=t
 simp only [synC,synV,skind_mk,snull_mk,stext_mk,snum_mk,skids_mk] at *
 subst hnl
 generalize tks.length=tl at *
 have hh:=HB0.out.frozen
 obtain ⟨b0,b1,b2,b3,b4⟩:=Blk5 HB0.out
 go_enter Tryz.func37,Tryz.ntmps37
 go_wp2_with fail
 refine HR.out.mono ?_
 rintro e w1 ⟨⟨rv,sv,ea,en,ec,ca,cn,cc,ba,bc,rfl,hsv,hN,hb,hbl,hbc⟩,hE1⟩
 have hsh:=hN.shape
 have h1l:=hE1.size
 rw [HS0.out] at h1l
 have hT1:=Blk.new w1 #[.nilIface,.slice none 0 0,.nilIface,.slice none 0 0,.slice none 0 0] 81
 have hf1:=hT1.frozen
 have hl1:=hT1.lt
 obtain ⟨t0,t1,t2,t3,t4⟩:=Blk5 hT1
 have q0:=hE1.keep b0
 have q1:=hE1.keep b1
 have q2:=hE1.keep b2
 have q3:=hE1.keep b3
 have q4:=hE1.keep b4
 have ql:=cell_lt q0
 clear b0 b1 b2 b3 b4 hh
 have HK1:=Lib.hid (And.intro hN (And.intro hb (And.intro hbl (And.intro hbc hE1))))
 have HT1:=Lib.hid hT1
 clear hN hb hbl hbc hE1 hT1
 have HNV : Hid (NV rv /\ NV sv):=Lib.hid ⟨hsh,hsv⟩
 obtain ⟨rv0,HRV⟩ : ∃ r : Value,Hid (r=rv):=⟨_,Lib.hid rfl⟩
 obtain ⟨sv0,HSV⟩ : ∃ r : Value,Hid (r=sv):=⟨_,Lib.hid rfl⟩
 rcases hsh with rfl | ⟨rt,rx,rfl⟩ <;> rcases hsv with rfl | ⟨st,sx,rfl⟩
 all_goals
  go_wp2_with fail
  obtain ⟨w2,hw2⟩ : ∃ w2,w2=(w1.alloc (.cells #[rv0,.slice ea en ec,sv0,.slice ca cn cc,.slice ba nm.length bc] 81)).alloc (.cells #[.int .i64 300] 3):=⟨_,rfl⟩
  rw [HRV.out,HSV.out] at hw2
  rw [<- hw2]
  have hE2 : Ext w1 w2:=hw2 ▸ (Ext.alloc _ _).trans (Ext.alloc _ _)
  have hB2 : Blk w2 w1.heap.size #[rv0,.slice ea en ec,sv0,.slice ca cn cc,.slice ba nm.length bc] 81:=by
   rw [hw2,HRV.out,HSV.out]
   exact (Blk.new _ _ _).ext (Ext.alloc _ _)
  rw [HRV.out,HSV.out] at hB2
  have hL2 : Blk w2 (w1.heap.size + 1) #[.int .i64 300] 3:=hw2 ▸ Blk.second w1 _ _ _
  clear hw2 t0 t1 t2 t3 t4 hf1 hl1
  replace q0:=hE2.keep q0
  replace q1:=hE2.keep q1
  replace q2:=hE2.keep q2
  replace q3:=hE2.keep q3
  replace q4:=hE2.keep q4
  have hp:=HPt.out (w1.heap.size + 1) w2 ((HE0.out.trans HK1.out.2.2.2.2).trans hE2) (by omega) hL2
  have HP2:=Lib.hid hp
  have HK2:=Lib.hid (And.intro hE2 (And.intro hB2 hL2))
  clear hE2 hB2 hL2 hp
  go_wp2_with fail
  refine HP2.out.mono ?_
  rintro e w3 ⟨⟨pv,rfl,hpv⟩,hE3⟩
  obtain ⟨p,rfl⟩:=hpv.ptr
  have hne : ∀ b,b < w1.heap.size + 1 -> ¬ (b=w1.heap.size + 1):=fun b hb=>by omega
  replace q0:=hE3.keep (by simp only;omega) q0
  replace q1:=hE3.keep (by simp only;omega) q1
  have hP3:=HK2.out.2.1.extM hE3 (by omega)
  obtain ⟨t0,t1,t2,t3,t4⟩:=Blk5 hP3
  have hl3:=hP3.lt
  have hE13 : ExtM (fun _=>False) w1 w3:=((HK2.out.1.toM (fun _=>False)).trans hE3 (fun i hi e=>by have:=HK2.out.1.size;omega))
  have HK3:=Lib.hid (And.intro hP3 (And.intro hE13 hpv))
  have h3s:=hE3.size
  clear q2 q3 q4 hE3 hpv hP3 hE13
  have h63 : Calls Tryz.prog 63 #[.string tk] w3 fun e w'=>e=.returned (.string (iasked tk)) /\ w3=w':=HIC.out w3
  go_wp2_with fail
  refine h63.mono ?_
  rintro e w4 ⟨rfl,rfl⟩
  clear h63
  have HPC:=Lib.hid (pattern_calls hnm hcn hr HM.out (ea:=ea) (en:=en) (ec:=ec) (ca:=ca) (cn:=cn) (cc:=cc) HNV.out.2 (HK1.out.1.turn (Y:=fun b=>b < w1.heap.size) fun b o v _ hc=>⟨cell_lt hc,HK3.out.2.1.keep (fun h=>h) hc⟩) HK3.out.2.2 (HK1.out.2.1.extM HK3.out.2.1 (fun _ _ _ h=>h)) (fun hn b o e=>by have:=HK1.out.2.2.1 hn b o e;omega) HK1.out.2.2.2.1)
  go_wp2_with fail
  refine HPC.out.mono ?_
  rintro e w4 ⟨⟨mb,tb,rv',sst,rfl,hM4,hmb,htb⟩,hE4⟩
  obtain ⟨ba4,bc4,d0,-,-,d3,-,d5⟩:=hM4.cells
  have hks:=keys_size hM4.keyed hnm.2.1
  obtain ⟨V,⟨D,hO,hD⟩,hVS⟩:=hM4.tab
  have HVL:=Lib.hid hVS.1
  have hE4w : Ext w w4:=((HE0.out.trans HK1.out.2.2.2.2).trans (HK3.out.2.1.toExt (Ext.refl _) (fun _ _ h=>h))).trans hE4
  have dl:=cell_lt d0
  have HO:=Lib.hid hO
  have K4:=Lib.hid (And.intro hM4 (And.intro hD (And.intro hVS hE4w)))
  have HKS:=Lib.hid hks
  have hmb4:=hO.lt
  clear hM4 hD hVS hE4w hE4 hO hks t0 t1 t2 t3 t4 q0 q1
  go_wp2_with (first
   | (at_range;refine wpList_range_own _ rfl _ 103 rfl 9 96 law9 underlying103 _ tb _ D rfl HO.out ?_;intro w5 hrg5 hg5 hs5)
   | fail)
  have HE5:=Lib.hid ((Ext.refl w4).grown hg5 (fun k hk=>by cases hk))
  have HR5:=Lib.hid hrg5
  clear hg5 hs5 hrg5
  go_frame
  go_loopw [13] (fun v wr=>∃ (left : Lit -> Bool) (cnt : Nat) (ss : List (List UInt8)),wr.ranges Tryz.prog 9 rawElem tb w4.heap.size V.length D left cnt /\ ss.length + cnt <= V.length /\ wr.ownsRow w4.heap.size 9 1 v ss.length (ss.map encStr) /\ Collected D left ss /\ Ext w4 wr) (fun _ wr=>wr.rangeLeft tb w4.heap.size)
  case atStart =>
   exact ⟨_,_,[],HR5.out,by have:=K4.out.2.1.1;simp;omega,World.ownsRow_nil _ _ _ _,Collected.start D,HE5.out⟩
  case round =>
   obtain ⟨left2,cnt2,ss,hrg,hcs,hrow,hC,hEr⟩:=hrel
   go_wp2_with (first
    | (at_next;refine wpList_next_ranges _ rfl _ rfl 9 law9 rawElem encStr (fun v : Value=>v) (fun key kl hk=>by obtain ⟨x,hx,_⟩:=Maps.keyOf_str underlying9 hk;exact ⟨x,hx⟩) (fun v y hv=>⟨v,rfl⟩) tb w4.heap.size V.length _ _ _ rfl hrg ?_ ?_)
    | fail)
   ·intro hc0 hl0
    have hperm:=keys_perm K4.out.2.1 K4.out.2.2.1 K4.out.1.keyed.1 hC hl0
    obtain ⟨ka,kc,hv,hsrt⟩:=sort_names hrow hperm hEr (Nat.le_refl _) (by have:=HKS.out;simp;omega)
    rw [List.length_map] at hv
    subst hv
    have HS:=Lib.hid hsrt
    clear hsrt hperm hrow hrg hC hEr hcs hl0 hc0
    go_wp2_with fail
    refine HS.out.mono ?_
    rintro e w6 ⟨rfl,hE6,hbs⟩
    have hpL : ((S.map Prod.fst).mergeSort fun x y=>decide (x <= y)).Perm (S.map Prod.fst):=List.mergeSort_perm _ _
    have hLl:=hpL.length_eq
    rw [List.length_map] at hLl
    obtain ⟨L,hL⟩ : ∃ L,L=(S.map Prod.fst).mergeSort fun x y=>decide (x <= y):=⟨_,rfl⟩
    rw [<- hL] at hbs hpL hLl
    have HBA:=Lib.hid (fun j hj=>bound_at HO.out K4.out.2.1 K4.out.2.2.1 K4.out.1.keyed hnm.2.2 hpL j hj)
    have d0':=hE6.keep d0
    have dl':=cell_lt d0'
    have K6:=Lib.hid (And.intro hE6 (And.intro hbs (And.intro hLl hL)))
    have hSl : S.length <= 64:=HKS.out
    clear hE6 hbs hLl hL hpL d0 d3 dl hmb4
    go_wp2_with fail
    go_loopw [15,71] (fun vv iv wr=>∃ (j : Nat) (v : Value) (row : List BndT),v=vv /\ iv=.int .i64 j /\ j <= S.length /\ row.length=j /\ row.map (fun x=>(x.1.toList,x.2.1))=(sortS S).take j /\ RowB wr w6.heap.size v row /\ Ext w6 wr) (fun _ iv _=>S.length - (intOf iv).toNat)
    case atStart=>exact ⟨0,_,[],rfl,rfl,Nat.zero_le _,rfl,by simp,RowB.nil _ _,Ext.refl _⟩
    case round =>
     obtain ⟨j,v,row,rfl,rfl,hj,hrl,hrow,hR,hE⟩:=hrel
     obtain ⟨va,vc,rfl⟩ : ∃ va vc,v=.slice va j vc:=by
      obtain ⟨va,vc,e⟩:=owns_slice hR.own
      rw [hrl] at e
      exact ⟨va,vc,e⟩
     have KR:=Lib.hid (And.intro hR (And.intro hE (And.intro hrow hrl)))
     clear hR hE hrow hrl
     by_cases hlt : j < S.length
     ·have hjL : j < L.length:=by rw [K6.out.2.2.1];exact hlt
      obtain ⟨g,o2,hka,hg⟩:=K6.out.2.1 j hjL
      subst hka
      obtain ⟨t2,pv2,hgS,hrz,hpv2,hxl,hlk⟩:=HBA.out j hjL
      obtain ⟨p2,rfl⟩:=hpv2.ptr
      replace hg:=KR.out.2.1.keep hg
      have hgl:=cell_lt hg
      have d0:=KR.out.2.1.keep d0'
      have dl:=cell_lt d0
      have HC:=Lib.hid (fun (w2 : World) (hx : Ext wr w2)=>told_all t2 hrz.1 hrz.2 _ w2 (.pointer p2) (hpv2.mono (((K6.out.1.trans KR.out.2.1).trans hx).keeps _)))
      have HLK:=Lib.hid (fun (w2 : World) (hx : Ext wr w2)=>hlk w2 ((K6.out.1.trans KR.out.2.1).trans hx))
      have HGS:=Lib.hid hgS
      have HXL:=Lib.hid hxl
      have hl0:=HLK.out wr (Ext.refl _)
      have hl1:=fun n=>HLK.out _ (Ext.drewN wr n)
      clear hrz hpv2 hlk hgS hxl
      generalize hxe : L[j]=x at *
      have HXE:=Lib.hid hxe
      clear hxe
      unfold encStr at *
      go_wp2_with fail
      refine (HC.out wr (Ext.refl _)).mono ?_
      rintro e w3 ⟨⟨qa,qc,rfl,hsx⟩,hE3⟩
      have K3:=Lib.hid (And.intro hsx hE3)
      have hRL:=KR.out.2.2.2
      have hO1:=(ownsRow_extM KR.out.1.own (hE3.toM fun _=>False) (fun _ _ h=>h)).alloc (.cells #[.string ⟨x.toArray⟩,.string t2.kind,.bool t2.null,.string t2.text,.int .i64 t2.num,.slice qa t2.kids.length qc] 62)
      rw [hRL] at hO1
      have hb36 : w6.heap.size <= w3.heap.size:=by have:=KR.out.2.1.size;have:=hE3.size;omega
      clear hsx hE3 hRL hl0 hl1
      go_wp2_with (first
       | (at_builtin;refine wpList_append_own_at _ rfl _ _ 58 rfl w6.heap.size 62 i0 _ 6 88 underlying58 hi hz0 hz1 hz2 rfl (by decide) _ _ _ rfl hO1 ⟨w3.heap.size,0,none⟩ 1 1 [.string ⟨x.toArray⟩,.string t2.kind,.bool t2.null,.string t2.text,.int .i64 t2.num,.slice qa t2.kids.length qc] rfl rfl (cells6 _ _ _ _ _ _ _) (one6 _ _ _ _ _ (qa,t2.kids.length,qc)) (by unfold maxLen;omega) (by omega) (by simp;omega) ?_;intro v' w5 hO2 hG2 hnil2 hat2;go_frame)
       | fail)
      rcases hO2.2 with ⟨-,h0⟩ | ⟨g2,cap,cur,rfl,-⟩
      ·omega
      have hb6:=KR.out.2.1.size
      have hO3 : w5.ownsRow w6.heap.size 62 6 (.slice (some ⟨g2,0,none⟩) (row.length + 1) cap) (row.length + 1) (rowB row ++ bnd6 (⟨x.toArray⟩,t2,qa,qc)):=by rw [KR.out.2.2.2];exact hO2
      have hsn:=KR.out.1.snoc (y:=(⟨x.toArray⟩,t2,qa,qc)) K3.out.2 K3.out.1 hb6 hO3 hG2 (hat2.imp (fun h=>h.symm) (fun h=>Option.some.inj h))
      rw [KR.out.2.2.2] at hsn
      have hsj : (sortS S)[j]?=some (x,t2):=by
       unfold sortS
       rw [<- K6.out.2.2.2,List.getElem?_map,List.getElem?_eq_getElem hjL,HXE.out]
       simp [HGS.out]
      refine ⟨⟨j + 1,_,row ++ [(⟨x.toArray⟩,t2,qa,qc)],rfl,by simp,by omega,by simp [KR.out.2.2.2],?_,hsn,((KR.out.2.1.trans K3.out.2).trans (Ext.alloc _ _)).grown hG2 (fun k hk=>(KR.out.1.own.lt k hk).1)⟩,by simp [intOf];omega⟩
      rw [List.map_append,KR.out.2.2.1,List.take_add_one,hsj]
      simp [ByteArray.toList_eq]
     ·obtain rfl : j=S.length:=by omega
      go_wp2_with fail
      go_ret3
      obtain ⟨ra,rc,e1,hrc,hrm,hs⟩:=bndsX_of_owns KR.out.1.own (fun x hx=>(KR.out.1.syn x hx).imp fun b hb _=>hb.1)
      rw [KR.out.2.2.2] at e1 hrc
      obtain ⟨rfl,rfl⟩ : va=ra /\ vc=rc:=by simpa using e1
      have hm:=KR.out.2.2.1
      rw [List.take_of_length_le (by rw [sortS_len];exact Nat.le_refl _)] at hm
      rw [hm] at hs
      have hE6:=(K4.out.2.2.2.trans K6.out.1)
      have hsz:=hE6.size
      exact ⟨⟨va,vc,rfl,hrc,hrm,hs.turn fun b o v hb hc=>⟨by omega,hc⟩⟩,hE6.trans KR.out.2.1⟩
   ·intro s9 c9 kl yd yp w17 cnt17 hkey hlk hv hat hrg17 hlt17 hg17 hs17 hen17
    obtain ⟨s',es,rfl,-⟩:=Maps.keyOf_str underlying9 hkey
    obtain rfl : s9=s':=encStr_inj es
    have hrow17:=hrow.kept hg17 (Or.inr (row_ne_iter hrow hrg).symm)
    have hE17:=hEr.grown hg17 (fun k hk=>by cases hk;exact Nat.le_refl _)
    have hsz17:=hE17.size
    have hV64 : V.length <= 64:=by have:=HKS.out;have:=HVL.out;omega
    clear hs17 hEr hrow
    go_wp2_with (first
     | (at_builtin;refine wpList_append_own _ rfl _ _ 31 rfl w4.heap.size 9 i9 (.string ⟨#[]⟩) 1 16 underlying31 hi9 hz90 hz91 hz92 rfl (by decide) _ _ _ rfl (hrow17.alloc _) ⟨w17.heap.size,0,none⟩ 1 1 [encStr s9] rfl rfl (cell_one_new _ _ _) (by simp [Value.oneCell',encStr]) (by unfold maxLen at *;omega) (by omega) (by simp;omega) ?_;intro v' w18 hown18 hg18 hnil18;go_frame)
     | fail)
    have hrg18:=(hrg17.alloc _).kept hg18 (row_ne_low hrow17 (by omega)) (row_ne_iter hrow17 hrg17)
    go_roundw
    case rel =>
     refine ⟨_,cnt17,ss ++ [s9],hrg18,by simp;omega,by simpa using hown18,hC.step hlk hat,?_⟩
     exact (hE17.trans (Ext.alloc _ _)).grown hg18 (fun j hj=>(hrow17.lt j hj).1)
    case measure=>rw [hrg18.left_eq,hrg.left_eq];exact hlt17
end Go.Proofs.YtigalkobmfbdaaaGreatDoor
namespace Go.Proofs.YtigalkobmfbdaaaGreatDoor
open Go.RowKit Go.WideMaps Go.Sort
theorem tab_one {w : World} (h : TabAt w) : 1 < w.heap.size:=by
 have:=cell_lt (h 0 (by decide));simpa using this
theorem pat_read {al : Bool} {inp : ByteArray} {n : PN} {nm E : Names} (hR : Reads al inp (some (n,nm))) (hs : inp.size <= 1000) (hp : plainN n=true) (hcnt : n.cnt <= 900) (hE : entryN n []=some E) (hnd : nm.Nodup) (htm : tame (toTree n)=true) (hnul : n.isNul=false)
  (hcall : ∀ ks,n=.struct ⟨#[67,97,108,108,69,120,112,114]⟩ ks -> ks ≠ []) {w : World} (hT : TabAt w) : Calls Tryz.prog 55 #[.string inp,.bool al] w (PatAt nm n w):=by
 obtain ⟨R,f,hf,hM,hP⟩:=hR
 obtain ⟨hEd,hEl⟩:=entryN_fit hE
 have hsym : SymsOf n .any:=fun X v w hv=>(sym_calls hp (by omega) X v w hv hp).mono fun e w' ⟨he,hx⟩=>⟨⟨anyV,he,by rw [NodeAt]⟩,hx⟩
 have hroot : RootsOf n []:=by
  intro X v w hv
  have fin : ∀ {v : Value},(Calls Tryz.prog 91 #[v] w fun e w'=>e=.returned (.slice none 0 0) /\ Ext w w') -> Calls Tryz.prog 91 #[v] w fun e w'=>(∃ a c,e=.returned (.slice a ([] : Syms).length c) /\ ([] : Syms).length <= c /\ IdxAt w' a [] /\ ∀ b o,a=some ⟨b,o,none⟩ -> w.heap.size <= b) /\ Ext w w':=fun h=>h.mono fun e w' ⟨he,hx⟩=>⟨⟨none,0,he,Nat.le_refl _,fun j hj=>absurd hj (by simp),fun b o e=>by cases e⟩,hx⟩
  cases hc : noCall n with
  | true=>exact fin (roots_other hv hc)
  | false =>
   cases n with
   | struct k ks =>
    simp only [noCall,Bool.not_eq_eq_eq_not,Bool.not_false] at hc
    obtain rfl:=beq_lit hc
    have hne:=hcall ks rfl
    cases ks with
    | nil=>exact absurd rfl hne
    | cons m ms =>
     rw [NodeAt] at hv
     obtain ⟨a,c,rfl,-,hks⟩:=hv
     rw [plainN,plainNs,Bool.and_eq_true,Bool.and_eq_true] at hp
     exact fin (roots_call hks hp.2.1)
   | _=>simp [noCall] at hc
 have hns : ∀ nm ks,n=.struct nm ks -> (nm.toList == [83,121,109,98,111,108])=false:=fun nm ks e=>by
  subst e
  rw [plainN,Bool.and_eq_true,Bool.not_eq_true'] at hp
  exact hp.1
 refine (read_ok hf hs hM hP hnd hsym hroot (entry_all (n.cnt + 1) n (Nat.lt_succ_self _) (by omega) htm) hE (by omega) (by omega) hEd hnul hns (tab_one hT) hT).mono ?_
 rintro e w' ⟨⟨rv,sv,ea,ec,ca,cc,ba,bc,rfl,h1,h2,h3,h4,h5,l1,l2,l3⟩,hx⟩
 refine ⟨⟨rv,sv,ea,_,ec,ca,_,cc,ba,bc,rfl,h2.shape,h1.imp fun b hb _=>trivial,h5,fun hn b o e=>?_,l3⟩,hx⟩
 obtain ⟨b2,o2,e2,hc⟩:=h5 0 (List.length_pos_iff.2 hn)
 rw [e] at e2
 cases e2
 exact cell_lt hc
end Go.Proofs.YtigalkobmfbdaaaGreatDoor
namespace Go.Proofs.YtigalkobmfbdaaaGreatDoor
open Go.RowKit Go.WideMaps Go.Sort
def MatchRes (w : World) (ok : Bool) (S : SL) (e : Ending) (w' : World) : Prop :=
 (∃ a' c',e=.returned (.tuple #[.bool ok,.slice a' S.length c',.int .i64 0]) /\ S.length <= c' /\ c' <= maxLen /\ BndsX (fun b=>w.heap.size <= b) w' a' (sortS S)) /\ Ext w w'
theorem imatch_node {inp : ByteArray} {n : PN} {nm E : Names} (hR : Reads false inp (some (n,nm))) (hs : inp.size <= 1000) (hp : plainN n=true) (hcnt : n.cnt <= 900) (hE : entryN n []=some E) (hnm : nm.Nodup /\ nm.length <= 64 /\ ∀ s ∈ nm,s.length <= 100) (htm : tame (toTree n)=true) (hnul : n.isNul=false)
  (hcall : ∀ ks,n=.struct ⟨#[67,97,108,108,69,120,112,114]⟩ ks -> ks ≠ []) {t : Syn} {d : Int} (hd : d=101 \/ d=115) {of : ByteArray} (hr : right t d of=true) (hct : (countS t : Int) <= 300) (hdp : depthS t <= 31) (hrz : RZ t) {o : Syn} {S : SL} {ok : Bool} (hm : mt nm false n t []=some (ok,o,S))
  {X : Nat -> Prop} {w : World} {a : Option Addr} {c : Nat} (hT : SynIn X w a c t) (hTab : TabAt w) : Calls Tryz.prog 37 #[.string inp,synV t a c] w (MatchRes w ok S):=by
 have hk:=right_kind hd hr
 have hn : t.null=false:=by
  obtain ⟨k,nl,x,m,ks⟩:=t
  have hc' : nodeL d:=by rcases hd with rfl | rfl;exact .inl rfl;exact .inr (.inl rfl)
  obtain ⟨rfl,-,-,-,-⟩:=rs_node hc' hr
  rfl
 have hTab2 : TabAt (w.alloc (.cells (synC t a c) 52)):=hTab.toExt (Ext.alloc _ _)
 exact imatch_walk hnm hcnt hrz hm hn (kind_ok _ hk).2.1 (pat_read hR hs hp hcnt hE hnm.1 htm hnul hcall hTab2) (fun lb w1 hE1 hlb hB=>(part_top t hd hr X a c 0 300 lb w w1 hT hE1 hlb hB (by omega) (by omega) hct (by omega)).mono fun e w' h=>⟨h.1,h.2.2⟩)
theorem imatch_good {s : Int} {p : Tree} {c0 : Int} {E : Names} (hg : good p c0=true) (hk : nodeKind p=true) (hn : count p <= 60) (hz : (text s p).size <= 1000) (hE : entryN (toPN p []).1 []=some E) (hnl : ∀ s ∈ namesT p,s.length <= 100)
  {t : Syn} {d : Int} (hd : d=101 \/ d=115) {of : ByteArray} (hr : right t d of=true) (hct : (countS t : Int) <= 300) (hdp : depthS t <= 31) (hrz : RZ t) {o : Syn} {S : SL} {ok : Bool} (hm : mt (namesT p) false (toPN p []).1 t []=some (ok,o,S))
  {X : Nat -> Prop} {w : World} {a : Option Addr} {c : Nat} (hT : SynIn X w a c t) (hTab : TabAt w) : Calls Tryz.prog 37 #[.string (text s p),synV t a c] w (MatchRes w ok S):=by
 obtain ⟨f1,f2,f3,f4⟩:=toPN_fit p c0 hg []
 obtain ⟨e1,e2⟩:=toTree_toPN p c0 hg []
 have hl:=namesT_len p
 refine imatch_node (reads_good (s:=s) false hg hk hn) hz (toPN_plain p c0 hg []) (by omega) hE ⟨namesT_nodup p,by omega,hnl⟩ (by rw [e1];exact good_tame p c0 hg) e2 (fun ks e=>?_) hd hr hct hdp hrz hm hT hTab
 rintro rfl
 rw [e,toTree,toTrees] at e1
 subst e1
 rcases good_node_kind hg (by simp only [toList_mk];decide) (by simp only [toList_mk];decide) (by simp only [toList_mk];decide) (by simp only [toList_mk];decide) (by simp only [toList_mk];decide) with ⟨e,-⟩ | ⟨e,-⟩ | ⟨-,e⟩
 ·exact absurd e (by decide)
 ·exact absurd e (by decide)
 ·exact absurd e (by decide +kernel)
end Go.Proofs.YtigalkobmfbdaaaGreatDoor
