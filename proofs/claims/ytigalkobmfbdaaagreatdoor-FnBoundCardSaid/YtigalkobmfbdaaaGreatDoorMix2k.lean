/- Parts of a syntax that are right: their forms; bare parts; parts that are the same; a pattern's match as a plain function. -/
import Derived.Test.YtigalkobmfbdaaaGreatDoorMix2j
import Derived.Test.YtigalkobmfbdaaaGreatDoorMix2b
import Derived.Maps.OwnSet
import Derived.Maps.RangeWalk
import Derived.Maps.Ext
import Derived.Test.YtigalkobmfbdaaaGreatDoorMix2d
import Derived.Test.YtigalkobmfbdaaaGreatDoorBits1Z2
set_option linter.unusedVariables false
set_option linter.unusedSimpArgs false
namespace Go.Proofs.YtigalkobmfbdaaaGreatDoor
open Go.RowKit
def RS (t : Syn) : Prop:=∃ c ∈ letters,∃ of,right t c of=true
abbrev nulS : Syn:=.mk ⟨#[]⟩ false ⟨#[]⟩ 0 []
def lisK (k : ByteArray) : Bool:=k.toList == [91,93,69,120,112,114] || k.toList == [91,93,83,116,109,116]
def leafK (k : ByteArray) : Bool:=k.toList == [84,111,107,101,110] || k.toList == [115,116,114,105,110,103] || k.toList == [98,111,111,108]
def nodeK (k : ByteArray) : Bool:=(expressions ++ statements).any fun y=>y.toList == k.toList
inductive Form : Syn -> Prop where
 | nothing : Form nulS
 | leaf (k x : ByteArray) (n : Int) : ((k=⟨#[84,111,107,101,110]⟩ \/ k=⟨#[115,116,114,105,110,103]⟩) /\ n=0) \/ (k=⟨#[98,111,111,108]⟩ /\ x=⟨#[]⟩) -> Form (.mk k false x n [])
 | list (k : ByteArray) (nl : Bool) (ks : List Syn) : (k=⟨#[91,93,69,120,112,114]⟩ \/ k=⟨#[91,93,83,116,109,116]⟩) -> (nl=false \/ ks=[]) -> (∀ t ∈ ks,RS t /\ nodeK t.kind=true) -> Form (.mk k nl ⟨#[]⟩ 0 ks)
 | node (k : ByteArray) (ks : List Syn) : k ∈ expressions ++ statements -> ks.length=(asked k).size -> rightArgs ks (asked k).toList k=true -> Form (.mk k false ⟨#[]⟩ 0 ks)
theorem nil_bytes {x : ByteArray} (h : x.toList=[]) : x=⟨#[]⟩:=beq_lit (by rw [h];rfl)
theorem nodeK_of {k : ByteArray} (h : k ∈ expressions ++ statements) : nodeK k=true:=List.any_eq_true.2 ⟨k,h,by simp⟩
theorem nodeK_mem {k : ByteArray} (h : nodeK k=true) : k ∈ expressions ++ statements:=any_mem h
theorem form_of_node {c : Int} (hc : nodeL c) {k : ByteArray} {nl : Bool} {x : ByteArray} {n : Int} {ks : List Syn} {of : ByteArray} (h : right (.mk k nl x n ks) c of=true) (hk : k ∈ expressions ++ statements) : Form (.mk k nl x n ks):=by
 obtain ⟨rfl,-,⟨hx,rfl⟩,hl,ha⟩:=rs_node hc h
 obtain rfl:=nil_bytes hx
 exact .node k ks hk (eq_of_beq hl) ha
theorem RS.form {t : Syn} (h : RS t) : Form t:=by
 obtain ⟨c,hc,of,h⟩:=h
 obtain ⟨k,nl,x,n,ks⟩:=t
 have hE : ∀ {c : Int},(c=69 \/ c=83) -> (k.toList == [])=true -> right (.mk k nl x n ks) c of=true -> Form (.mk k nl x n ks):=by
  intro c hc hk h
  have hk' : k=⟨#[]⟩:=beq_lit hk
  subst hk'
  have e : right (.mk ⟨#[]⟩ nl x n ks) c of=(!nl && (x.toList == [] && n == 0) && ks.length == 0):=by
   rw [right_mk]
   rcases hc with rfl | rfl <;> rw [if_neg (by decide),if_neg (by decide),if_neg (by decide),if_neg (by decide),if_neg (by decide),if_pos (by decide +kernel)]
  rw [e] at h
  simp only [Bool.and_eq_true,Bool.not_eq_true',beq_iff_eq] at h
  obtain ⟨⟨rfl,hx,rfl⟩,hks⟩:=h
  obtain rfl:=nil_of hks
  obtain rfl:=nil_bytes hx
  exact .nothing
 have he : right (.mk k nl x n ks) 101 of=true -> Form (.mk k nl x n ks):=fun h=>form_of_node (.inl rfl) h (List.mem_append_left _ (fits_101 (rs_node (.inl rfl) h).2.1))
 have hs : right (.mk k nl x n ks) 115 of=true -> Form (.mk k nl x n ks):=fun h=>form_of_node (.inr (.inl rfl)) h (List.mem_append_right _ (fits_115 (rs_node (.inr (.inl rfl)) h).2.1))
 simp only [letters,List.mem_cons,List.not_mem_nil,or_false] at hc
 rcases hc with rfl | rfl | rfl | rfl | rfl | rfl | rfl | rfl | rfl | rfl | rfl | rfl
 ·obtain ⟨rfl,hk,hn,hks,-⟩:=rs_t h
  obtain rfl:=beq_lit hk
  obtain rfl:=nil_of hks
  exact .leaf _ _ _ (.inl ⟨.inl rfl,eq_of_beq hn⟩)
 ·obtain ⟨rfl,hk,hn,hks,-⟩:=rs_n h
  obtain rfl:=beq_lit hk
  obtain rfl:=nil_of hks
  exact .leaf _ _ _ (.inl ⟨.inr rfl,eq_of_beq hn⟩)
 ·obtain ⟨rfl,hk,hx,-,hks⟩:=rs_b h
  obtain rfl:=beq_lit hk
  obtain rfl:=nil_of hks
  exact .leaf _ _ _ (.inr ⟨rfl,nil_bytes hx⟩)
 ·obtain ⟨hnl,hk,⟨hx,rfl⟩,ha⟩:=rs_l h
  obtain rfl:=beq_lit hk
  obtain rfl:=nil_bytes hx
  refine .list _ _ _ (.inl rfl) (hnl.imp id nil_of) (fun t ht=>?_)
  obtain ⟨j,hj,rfl⟩:=List.getElem_of_mem ht
  have hr:=rightAll_get _ _ ha j hj
  exact ⟨⟨101,by decide,_,hr⟩,nodeK_of (right_kind (.inl rfl) hr)⟩
 ·obtain ⟨hnl,hk,⟨hx,rfl⟩,ha⟩:=rs_m h
  obtain rfl:=beq_lit hk
  obtain rfl:=nil_bytes hx
  refine .list _ _ _ (.inr rfl) (hnl.imp id nil_of) (fun t ht=>?_)
  obtain ⟨j,hj,rfl⟩:=List.getElem_of_mem ht
  have hr:=rightAll_get _ _ ha j hj
  exact ⟨⟨115,by decide,_,hr⟩,nodeK_of (right_kind (.inr rfl) hr)⟩
 ·cases hk : (k.toList == [])
  ·rw [right_low_69 _ _ _ _ _ _ hk] at h
   exact he h
  ·exact hE (.inl rfl) hk h
 ·cases hk : (k.toList == [])
  ·rw [right_low_83 _ _ _ _ _ _ hk] at h
   exact hs h
  ·exact hE (.inr rfl) hk h
 ·exact he h
 ·exact hs h
 ·exact form_of_node (.inr (.inr (.inl rfl))) h (by rw [fits_105 (rs_node (.inr (.inr (.inl rfl))) h).2.1];exact any_mem (by decide +kernel))
 ·exact form_of_node (.inr (.inr (.inr (.inl rfl)))) h (by rw [fits_99 (rs_node (.inr (.inr (.inr (.inl rfl)))) h).2.1];exact any_mem (by decide +kernel))
 ·exact form_of_node (.inr (.inr (.inr (.inr rfl)))) h (by rw [fits_66 (rs_node (.inr (.inr (.inr (.inr rfl)))) h).2.1];exact any_mem (by decide +kernel))
theorem RS.args {k : ByteArray} {ks : List Syn} (hl : ks.length=(asked k).size) (ha : rightArgs ks (asked k).toList k=true) (j : Nat) (hj : j < ks.length) : RS ks[j]:=by
 have hjl : j < (asked k).toList.length:=by rw [size_toList];omega
 exact ⟨_,asked_letters k _ (List.getElem_mem hjl),k,rightArgs_get _ _ _ ha j hj hjl⟩
def wrapIx (k : ByteArray) : Option Nat :=
 if k.toList == [80,97,114,101,110,69,120,112,114] || k.toList == [69,120,112,114,83,116,109,116] || k.toList == [66,108,111,99,107,83,116,109,116] then some 0
 else if k.toList == [76,97,98,101,108,101,100,83,116,109,116] then some 1
 else none
mutual
def sizeS : Syn -> Nat
 | .mk _ _ _ _ ks=>sizeSs ks + 1
def sizeSs : List Syn -> Nat
 | []=>0
 | t :: ts=>sizeS t + sizeSs ts + 1
end
mutual
def bareS : Syn -> Syn
 | .mk k nl x n ks=>match wrapIx k with
  | some i=>bareAt ks i
  | none=>.mk k nl x n ks
def bareAt : List Syn -> Nat -> Syn
 | [],_=>nulS
 | t :: _,0=>bareS t
 | _ :: ts,i + 1=>bareAt ts i
end
theorem bareAt_get : ∀ (ks : List Syn) (i : Nat) (h : i < ks.length),bareAt ks i=bareS ks[i]
 | t :: ts,0,_=>by rw [bareAt];rfl
 | t :: ts,i + 1,h=>by rw [bareAt];simpa using bareAt_get ts i (by simpa using h)
theorem bareS_wrap {k : ByteArray} {nl : Bool} {x : ByteArray} {n : Int} {ks : List Syn} {i : Nat} (hw : wrapIx k=some i) (h : i < ks.length) : bareS (.mk k nl x n ks)=bareS ks[i]:=by
 rw [bareS,hw,<- bareAt_get]
theorem bareS_none {k : ByteArray} {nl : Bool} {x : ByteArray} {n : Int} {ks : List Syn} (hw : wrapIx k=none) : bareS (.mk k nl x n ks)=.mk k nl x n ks:=by
 rw [bareS,hw]
theorem sizeS_kid (ks : List Syn) (i : Nat) (h : i < ks.length) : sizeS ks[i] < sizeSs ks:=by
 induction ks generalizing i with
 | nil=>simp at h
 | cons t ts ih =>
  cases i with
  | zero=>simp only [List.getElem_cons_zero,sizeSs];omega
  | succ i=>have:=ih i (by simpa using h);simp only [List.getElem_cons_succ,sizeSs];omega
theorem sizeS_mk (k nl x n ks) : sizeS (.mk k nl x n ks)=sizeSs ks + 1:=by rw [sizeS]
mutual
def eqS : Syn -> Syn -> Bool
 | .mk k nl x n ks,b=>match wrapIx k with
  | some i=>eqAt ks i b
  | none=>k.toList == (bareS b).kind.toList && x.toList == (bareS b).text.toList && n == (bareS b).num && ks.length == (bareS b).kids.length && eqL ks (bareS b).kids
def eqAt : List Syn -> Nat -> Syn -> Bool
 | [],_,_=>false
 | t :: _,0,b=>eqS t b
 | _ :: ts,i + 1,b=>eqAt ts i b
def eqL : List Syn -> List Syn -> Bool
 | t :: ts,u :: us=>eqS t u && eqL ts us
 | _,_=>true
end
mutual
def mixC : Syn -> Syn -> Bool
 | .mk k nl x n ks,b=>match wrapIx k with
  | some i=>mixAt ks i b
  | none=>if lisK k != lisK (bareS b).kind then true
   else if lisK k || k.toList == (bareS b).kind.toList then mixL ks (bareS b).kids else false
def mixAt : List Syn -> Nat -> Syn -> Bool
 | [],_,_=>true
 | t :: _,0,b=>mixC t b
 | _ :: ts,i + 1,b=>mixAt ts i b
def mixL : List Syn -> List Syn -> Bool
 | t :: ts,u :: us=>mixC t u || mixL ts us
 | _,_=>false
end
theorem eqAt_get : ∀ (ks : List Syn) (i : Nat) (b : Syn) (h : i < ks.length),eqAt ks i b=eqS ks[i] b
 | t :: ts,0,b,_=>by rw [eqAt];rfl
 | t :: ts,i + 1,b,h=>by rw [eqAt];simpa using eqAt_get ts i b (by simpa using h)
theorem mixAt_get : ∀ (ks : List Syn) (i : Nat) (b : Syn) (h : i < ks.length),mixAt ks i b=mixC ks[i] b
 | t :: ts,0,b,_=>by rw [mixAt];rfl
 | t :: ts,i + 1,b,h=>by rw [mixAt];simpa using mixAt_get ts i b (by simpa using h)
theorem eqS_wrap {k : ByteArray} {nl : Bool} {x : ByteArray} {n : Int} {ks : List Syn} {i : Nat} (hw : wrapIx k=some i) (h : i < ks.length) (b : Syn) : eqS (.mk k nl x n ks) b=eqS ks[i] b:=by
 rw [eqS,hw,<- eqAt_get _ _ _ h]
theorem mixC_wrap {k : ByteArray} {nl : Bool} {x : ByteArray} {n : Int} {ks : List Syn} {i : Nat} (hw : wrapIx k=some i) (h : i < ks.length) (b : Syn) : mixC (.mk k nl x n ks) b=mixC ks[i] b:=by
 rw [mixC,hw,<- mixAt_get _ _ _ h]
theorem eqS_none {k : ByteArray} {nl : Bool} {x : ByteArray} {n : Int} {ks : List Syn} (hw : wrapIx k=none) (b : Syn) : eqS (.mk k nl x n ks) b=(k.toList == (bareS b).kind.toList && x.toList == (bareS b).text.toList && n == (bareS b).num && ks.length == (bareS b).kids.length && eqL ks (bareS b).kids):=by
 rw [eqS,hw]
theorem mixC_none {k : ByteArray} {nl : Bool} {x : ByteArray} {n : Int} {ks : List Syn} (hw : wrapIx k=none) (b : Syn) : mixC (.mk k nl x n ks) b=(if lisK k != lisK (bareS b).kind then true else if lisK k || k.toList == (bareS b).kind.toList then mixL ks (bareS b).kids else false):=by
 rw [mixC,hw]
theorem Form.wrap {t : Syn} (h : Form t) {i : Nat} (hw : wrapIx t.kind=some i) : ∃ k ks,t=.mk k false ⟨#[]⟩ 0 ks /\ k ∈ expressions ++ statements /\ ∃ hi : i < ks.length,RS ks[i] /\ leafK ks[i].kind=false:=by
 have hno : ∀ k : ByteArray,(k=⟨#[]⟩ \/ k=⟨#[84,111,107,101,110]⟩ \/ k=⟨#[115,116,114,105,110,103]⟩ \/ k=⟨#[98,111,111,108]⟩ \/ k=⟨#[91,93,69,120,112,114]⟩ \/ k=⟨#[91,93,83,116,109,116]⟩) -> wrapIx k=none:=by
  rintro k (rfl | rfl | rfl | rfl | rfl | rfl) <;> decide +kernel
 cases h with
 | nothing=>rw [skind_mk,hno _ (.inl rfl)] at hw;cases hw
 | leaf k x n h=>rw [skind_mk,hno] at hw;cases hw;rcases h with ⟨rfl | rfl,-⟩ | ⟨rfl,-⟩ <;> simp
 | list k nl ks h=>rw [skind_mk,hno] at hw;cases hw;rcases h with rfl | rfl <;> simp
 | node k ks hk hl ha =>
  rw [skind_mk] at hw
  refine ⟨k,ks,rfl,hk,?_⟩
  have hkk : (k=⟨#[80,97,114,101,110,69,120,112,114]⟩ \/ k=⟨#[69,120,112,114,83,116,109,116]⟩ \/ k=⟨#[66,108,111,99,107,83,116,109,116]⟩) /\ i=0 \/ k=⟨#[76,97,98,101,108,101,100,83,116,109,116]⟩ /\ i=1:=by
   unfold wrapIx at hw
   split at hw
   ·rename_i h
    simp only [Bool.or_eq_true] at h
    cases hw
    rcases h with (h | h) | h
    ·exact .inl ⟨.inl (beq_lit h),rfl⟩
    ·exact .inl ⟨.inr (.inl (beq_lit h)),rfl⟩
    ·exact .inl ⟨.inr (.inr (beq_lit h)),rfl⟩
   ·split at hw
    ·rename_i h;cases hw;exact .inr ⟨beq_lit h,rfl⟩
    ·cases hw
  have hi : i < ks.length:=by
   rw [hl]
   rcases hkk with ⟨rfl | rfl | rfl,rfl⟩ | ⟨rfl,rfl⟩ <;> decide +kernel
  refine ⟨hi,RS.args hl ha i hi,?_⟩
  have hjl : i < (asked k).toList.length:=by rw [size_toList];omega
  have hr:=rightArgs_get _ _ _ ha i hi hjl
  have hlet : (asked k).toList[i]?=some 101 \/ (asked k).toList[i]?=some 115 \/ (asked k).toList[i]?=some 109:=by
   rcases hkk with ⟨rfl | rfl | rfl,rfl⟩ | ⟨rfl,rfl⟩
   ·exact .inl (by decide +kernel)
   ·exact .inl (by decide +kernel)
   ·exact .inr (.inr (by decide +kernel))
   ·exact .inr (.inl (by decide +kernel))
  rw [List.getElem?_eq_getElem hjl] at hlet
  simp only [Option.some.injEq] at hlet
  have hnode : ∀ k ∈ expressions ++ statements,leafK k=false:=by decide +kernel
  rcases hlet with e | e | e <;> rw [e] at hr
  ·exact hnode _ (right_kind (.inl rfl) hr)
  ·exact hnode _ (right_kind (.inr rfl) hr)
  ·generalize ks[i]=t at hr
   obtain ⟨k',nl',x',n',ks'⟩:=t
   obtain ⟨-,hk',-⟩:=rs_m hr
   rw [skind_mk,beq_lit hk']
   decide +kernel
theorem RS.bare {t : Syn} (h : RS t) : RS (bareS t) /\ wrapIx (bareS t).kind=none:=by
 induction t using Syn.ind with | h t ih=>?_
 cases hw : wrapIx t.kind with
 | none =>
  obtain ⟨k,nl,x,n,ks⟩:=t
  rw [skind_mk] at hw
  rw [bareS_none hw]
  exact ⟨h,hw⟩
 | some i =>
  obtain ⟨k,ks,rfl,-,hi,hr,-⟩:=h.form.wrap hw
  rw [skind_mk] at hw
  rw [bareS_wrap hw hi]
  exact ih i hi hr
theorem bare_size (t : Syn) (h : RS t) : sizeS (bareS t) <= sizeS t:=by
 induction t using Syn.ind with | h t ih=>?_
 cases hw : wrapIx t.kind with
 | none =>
  obtain ⟨k,nl,x,n,ks⟩:=t
  rw [skind_mk] at hw
  rw [bareS_none hw]
  omega
 | some i =>
  obtain ⟨k,ks,rfl,-,hi,hr,-⟩:=h.form.wrap hw
  rw [skind_mk] at hw
  rw [bareS_wrap hw hi]
  have:=ih i hi hr
  have:=sizeS_kid ks i hi
  simp only [skids_mk] at *
  rw [sizeS_mk]
  omega
end Go.Proofs.YtigalkobmfbdaaaGreatDoor
namespace Go.Proofs.YtigalkobmfbdaaaGreatDoor
open Go.RowKit Go.WideMaps
def rawElem (v : Value) : Option (DataW Value × List MemPlace):=some (.held v,[])
abbrev VL:=List (List UInt8 × Value)
def getB {α : Type} : List (List UInt8 × α) -> List UInt8 -> Option α
 | [],_=>none
 | x :: r,s=>if x.1=s then some x.2 else getB r s
theorem getB_none {α : Type} : ∀ (V : List (List UInt8 × α)) (s : List UInt8),getB V s=none ↔ s ∉ V.map Prod.fst
 | [],s=>by simp [getB]
 | x :: r,s=>by
  unfold getB
  by_cases e : x.1=s
  ·rw [if_pos e];simp [e]
  ·rw [if_neg e,getB_none r s];simp;intro h;exact fun e'=>absurd e'.symm e
theorem getB_mem {α : Type} : ∀ (V : List (List UInt8 × α)) (s : List UInt8) (v : α),getB V s=some v -> (s,v) ∈ V
 | [],s,v,h=>by cases h
 | x :: r,s,v,h=>by
  unfold getB at h
  by_cases e : x.1=s
  ·rw [if_pos e] at h
   cases h
   subst e
   exact List.mem_cons_self
  ·rw [if_neg e] at h
   exact List.mem_cons_of_mem _ (getB_mem r s v h)
theorem getB_snoc {α : Type} : ∀ (V : List (List UInt8 × α)) (s : List UInt8) (v : α) (t : List UInt8),getB V s=none -> getB (V ++ [(s,v)]) t=if t=s then some v else getB V t
 | [],s,v,t,_=>by
  rw [List.nil_append]
  unfold getB
  by_cases e : t=s
  ·rw [if_pos e,if_pos e.symm]
  ·rw [if_neg e,if_neg (fun h=>e h.symm)]
   rfl
 | x :: r,s,v,t,h=>by
  unfold getB at h
  by_cases e : x.1=s
  ·rw [if_pos e] at h;cases h
  ·rw [if_neg e] at h
   rw [List.cons_append]
   unfold getB
   by_cases e2 : x.1=t
   ·rw [if_pos e2,if_pos e2,if_neg (fun h=>e (e2.trans h))]
   ·rw [if_neg e2,if_neg e2]
    exact getB_snoc r s v t h
theorem getB_filter {α : Type} : ∀ (V : List (List UInt8 × α)) (s t : List UInt8),getB (V.filter fun x=>x.1 != s) t=if t=s then none else getB V t
 | [],s,t=>by simp [getB]
 | x :: r,s,t=>by
  have ih:=getB_filter r s t
  by_cases e : x.1=s
  ·rw [List.filter_cons_of_neg (by simp [e]),ih]
   by_cases e2 : t=s
   ·rw [if_pos e2,if_pos e2]
   ·rw [if_neg e2,if_neg e2]
    conv=>rhs;unfold getB
    rw [if_neg (fun h=>e2 (h.symm.trans e))]
  ·rw [List.filter_cons_of_pos (by simp [e])]
   unfold getB
   by_cases e2 : x.1=t
   ·rw [if_pos e2,if_pos e2,if_neg (fun h=>e (e2.trans h))]
   ·rw [if_neg e2,if_neg e2]
    exact ih
def RawD (D : DataW Value) (V : VL) : Prop :=
 Maps.size D=V.length /\ (∀ s,Maps.has D (keyL s)=(getB V s).isSome) /\ (∀ s v,getB V s=some v -> ∀ z,D.atKey (keyL s) z=.held v)
theorem RawD.nil : RawD (.map []) []:=⟨rfl,fun s=>rfl,fun s v h=>by cases h⟩
theorem RawD.snoc {D : DataW Value} {V : VL} (h : RawD D V) (hT : Maps.Tidy D) {s : List UInt8} (v : Value) (hs : getB V s=none) : RawD (D.put (keyL s) (.held v)) (V ++ [(s,v)]):=by
 obtain ⟨h1,h2,h3⟩:=h
 have hh : Maps.has D (keyL s)=false:=by rw [h2,hs];rfl
 refine ⟨?_,fun t=>?_,fun t u ht z=>?_⟩
 ·rw [Maps.size_put hT,hh];simp [h1]
 ·rw [getB_snoc V s v t hs]
  by_cases e : t=s
  ·subst e;rw [Maps.has_put_same hT.isMap (k:=keyL t) trivial,if_pos rfl];rfl
  ·rw [Maps.has_put_other (keyL_ne e),h2,if_neg e]
 ·rw [getB_snoc V s v t hs] at ht
  by_cases e : t=s
  ·subst e
   rw [if_pos rfl] at ht
   cases ht
   rw [Maps.atKey_put_same hT.isMap (k:=keyL t) trivial]
  ·rw [if_neg e] at ht
   rw [Maps.atKey_put_other (keyL_ne e),h3 t u ht]
theorem filter_len {α : Type} (V : List (List UInt8 × α)) (s : List UInt8) (hn : (V.map Prod.fst).Nodup) : (V.filter fun x=>x.1 != s).length + (if (getB V s).isSome then 1 else 0)=V.length:=by
 induction V with
 | nil=>rfl
 | cons x r ih =>
  rw [List.map_cons,List.nodup_cons] at hn
  have ih:=ih hn.2
  by_cases e : x.1=s
  ·have hr : getB r s=none:=(getB_none r s).2 (e ▸ hn.1)
   rw [List.filter_cons_of_neg (by simp [e])]
   rw [hr] at ih
   unfold getB
   rw [if_pos e]
   simp at ih ⊢
   exact ih
  ·rw [List.filter_cons_of_pos (by simp [e])]
   unfold getB
   rw [if_neg e]
   simp only [List.length_cons]
   omega
theorem RawD.del {D : DataW Value} {V : VL} (h : RawD D V) (hT : Maps.Tidy D) (s : List UInt8) (hn : (V.map Prod.fst).Nodup) : RawD (D.del (keyL s)) (V.filter fun x=>x.1 != s):=by
 obtain ⟨h1,h2,h3⟩:=h
 refine ⟨?_,fun t=>?_,fun t u ht z=>?_⟩
 ·have e1:=Maps.size_del (k:=keyL s) hT
  have e2:=filter_len V s hn
  rw [h2] at e1
  omega
 ·rw [getB_filter]
  by_cases e : t=s
  ·subst e;rw [Maps.has_del_same,if_pos rfl];rfl
  ·rw [Maps.has_del_other (keyL_ne e),h2,if_neg e]
 ·rw [getB_filter] at ht
  by_cases e : t=s
  ·rw [if_pos e] at ht;cases ht
  ·rw [if_neg e] at ht
   rw [Maps.atKey_del_other (keyL_ne e),h3 t u ht]
theorem RawD.set {D : DataW Value} {V : VL} (h : RawD D V) (hT : Maps.Tidy D) (s : List UInt8) (v : Value) (hn : (V.map Prod.fst).Nodup) : RawD (D.put (keyL s) (.held v)) ((V.filter fun x=>x.1 != s) ++ [(s,v)]):=by
 obtain ⟨h1,h2,h3⟩:=h
 have hf : getB (V.filter fun x=>x.1 != s) s=none:=by rw [getB_filter,if_pos rfl]
 refine ⟨?_,fun t=>?_,fun t u ht z=>?_⟩
 ·have e2:=filter_len V s hn
  rw [Maps.size_put hT,h2,h1,List.length_append,List.length_singleton]
  cases hg : (getB V s).isSome
  ·rw [hg] at e2
   simp only [Bool.false_eq_true,if_false] at e2 ⊢
   omega
  ·rw [hg] at e2
   simp only [if_true] at e2 ⊢
   omega
 ·rw [getB_snoc _ s v t hf]
  by_cases e : t=s
  ·subst e;rw [Maps.has_put_same hT.isMap (k:=keyL t) trivial,if_pos rfl];rfl
  ·rw [Maps.has_put_other (keyL_ne e),h2,if_neg e,getB_filter,if_neg e]
 ·rw [getB_snoc _ s v t hf] at ht
  by_cases e : t=s
  ·subst e
   rw [if_pos rfl] at ht
   cases ht
   rw [Maps.atKey_put_same hT.isMap (k:=keyL t) trivial]
  ·rw [if_neg e,getB_filter,if_neg e] at ht
   rw [Maps.atKey_put_other (keyL_ne e),h3 t u ht]
def RawMap (w : World) (b : Nat) (V : VL) : Prop:=∃ D : DataW Value,w.ownsMap Tryz.prog 9 rawElem b V.length D /\ RawD D V
theorem owns_exact {w : World} {b n : Nat} {D : DataW Value} (h : w.ownsMap Tryz.prog 9 rawElem b n D) : w.ownsMap Tryz.prog 9 rawElem b (Maps.size D) D:=by
 obtain ⟨es,clock,hb,F,hs,rfl⟩:=h
 refine ⟨es,clock,hb,F,?_,rfl⟩
 simp [Maps.size,length_sorted]
theorem RawMap.mk {w : World} {b n : Nat} {D : DataW Value} {V : VL} (h : w.ownsMap Tryz.prog 9 rawElem b n D) (hD : RawD D V) : RawMap w b V:=⟨D,hD.1 ▸ owns_exact h,hD⟩
theorem RawMap.made (w : World) : RawMap (w.alloc (.map #[] 0)) w.heap.size []:=.mk (World.ownsMap_made _ _ _ _) RawD.nil
theorem RawMap.lt {w : World} {b : Nat} {V : VL} (h : RawMap w b V) : b < w.heap.size:=by obtain ⟨D,h,-⟩:=h;exact h.lt
theorem RawMap.extM {M : Nat -> Prop} {w w' : World} {b : Nat} {V : VL} (h : RawMap w b V) (hE : ExtM M w w') (hM : ¬ M b) : RawMap w' b V:=by
 have hlt:=h.lt
 obtain ⟨D,⟨es,clock,hb,r⟩,hD⟩:=h
 exact ⟨D,⟨es,clock,(hE.block b hlt hM).trans hb,r⟩,hD⟩
theorem RawMap.ext {w w' : World} {b : Nat} {V : VL} (h : RawMap w b V) (hE : Ext w w') : RawMap w' b V:=h.extM (hE.toM fun _=>False) (fun h=>h)
theorem RawMap.apart {w : World} {mb b : Nat} {V : VL} (h : RawMap w mb V) {o : Nat} {v : Value} (hc : w.cell? ⟨b,o,none⟩=some v) : b ≠ mb:=by
 rintro rfl
 obtain ⟨D,⟨es,clock,hb,r⟩,-⟩:=h
 simp [World.cell?,hb] at hc
theorem turned_extM {w w' : World} {b : Nat} (h : w.mapTurned w' b) : ExtM (·=b) w w':=ExtM.of_grown h.grown
section
variable (w : World) {ops : Array Oper} {rest : List Oper} {o : Oper} {a : Act} {Q : Exit -> Act -> World -> Prop}
theorem look_raw {t e : TypeId} {b : Nat} {V : VL} (h : RawMap w b V) (ht : Tryz.prog.underlying t=some (.map 9 e)) {z : Value} (hz : (zeroValue e).run Tryz.prog w=.ok z w) {s : ByteArray} (hs : s.size <= maxLen) :
  (Instr.lookup t (.map (some b)) (.string s) true).run Tryz.prog w=.ok (.tuple #[(getB V s.toList).getD z,.bool (getB V s.toList).isSome]) w:=by
 obtain ⟨D,hO,hD⟩:=h
 have hkey:=keyOf_string_mk (P:=Tryz.prog) underlying9 (s:=s) hs
 rw [<- ByteArray.toList_eq] at hkey
 obtain ⟨v,ps,hrun,hv⟩:=hO.look_ok law9 ht hz (zd:=.held z) (zp:=[]) rfl hkey
 rw [hrun,hD.2.1]
 have hv' : DataW.held v=D.atKey (keyL s.toList) (.held z):=by
  unfold rawElem at hv
  simpa using congrArg (fun x=>x.map Prod.fst) hv
 cases hg : getB V s.toList with
 | none =>
  have : Maps.has D (keyL s.toList)=false:=by rw [hD.2.1,hg];rfl
  rw [Maps.atKey_of_not_has this] at hv'
  cases hv'
  rfl
 | some u =>
  rw [hD.2.2 _ _ hg] at hv'
  cases hv'
  rfl
theorem look_raw1 {t e : TypeId} {b : Nat} {V : VL} (h : RawMap w b V) (ht : Tryz.prog.underlying t=some (.map 9 e)) {z : Value} (hz : (zeroValue e).run Tryz.prog w=.ok z w) {s : ByteArray} (hs : s.size <= maxLen) :
  (Instr.lookup t (.map (some b)) (.string s) false).run Tryz.prog w=.ok ((getB V s.toList).getD z) w:=by
 obtain ⟨D,hO,hD⟩:=h
 have hkey:=keyOf_string_mk (P:=Tryz.prog) underlying9 (s:=s) hs
 rw [<- ByteArray.toList_eq] at hkey
 obtain ⟨v,ps,hrun,hv⟩:=hO.lookup law9 ht hz (zd:=.held z) (zp:=[]) rfl hkey
 rw [hrun]
 have hv' : DataW.held v=D.atKey (keyL s.toList) (.held z):=by
  unfold rawElem at hv
  simpa using congrArg (fun x=>x.map Prod.fst) hv
 cases hg : getB V s.toList with
 | none =>
  have : Maps.has D (keyL s.toList)=false:=by rw [hD.2.1,hg];rfl
  rw [Maps.atKey_of_not_has this] at hv'
  cases hv'
  rfl
 | some u =>
  rw [hD.2.2 _ _ hg] at hv'
  cases hv'
  rfl
theorem wpList_set_raw (hg : o.guard=none) (m x v : Operand) (t : TypeId) (hop : o.op=Op.mapUpdate t m x v)
  (e : TypeId) (ht : Tryz.prog.underlying t=some (.map 9 e)) {b : Nat} {V : VL} (hm : a.eval m=.map (some b)) (h : RawMap w b V) (hn : V.length < 1000000) (s : ByteArray) (val : Value) (hx : a.eval x=.string s) (hv : a.eval v=val) (hs : s.size <= maxLen) (hnd : (V.map Prod.fst).Nodup)
  (hK : ∀ w',RawMap w' b ((V.filter fun x=>x.1 != s.toList) ++ [(s.toList,val)]) -> w.mapTurned w' b -> wpList Tryz.prog ops Q rest (a.put o.dst undef) w') :
  wpList Tryz.prog ops Q (o :: rest) a w:=by
 obtain ⟨D,hO,hD⟩:=h
 have hkey:=keyOf_string_mk (P:=Tryz.prog) underlying9 (s:=s) hs
 rw [<- ByteArray.toList_eq] at hkey
 refine wpList_mapUpdate_in w hg m x v t hop 9 e law9 ht rawElem b V.length D hm hO (by unfold maxLen;omega) _ _ _ hx hv hkey (.held val) [] rfl ?_
 intro w' h1 h2
 exact hK w' (.mk h1 (hD.set (hO.tidy law9) _ val hnd)) h2
theorem wpList_delete_raw (hg : o.guard=none) (m x : Operand) (t : TypeId) (hop : o.op=Op.call { callee:=Callee.builtin Builtin.delete,args:=#[m,x],argTypes:=#[t,9] })
  (e : TypeId) (ht : Tryz.prog.underlying t=some (.map 9 e)) {b : Nat} {V : VL} (hm : a.eval m=.map (some b)) (h : RawMap w b V) (s : ByteArray) (hx : a.eval x=.string s) (hs : s.size <= maxLen) (hnd : (V.map Prod.fst).Nodup)
  (hK : ∀ w',RawMap w' b (V.filter fun x=>x.1 != s.toList) -> w.mapTurned w' b -> wpList Tryz.prog ops Q rest (a.put o.dst (.tuple #[])) w') :
  wpList Tryz.prog ops Q (o :: rest) a w:=by
 obtain ⟨D,hO,hD⟩:=h
 have hkey:=keyOf_string_mk (P:=Tryz.prog) underlying9 (s:=s) hs
 rw [<- ByteArray.toList_eq] at hkey
 refine wpList_delete_own w hg m x t 9 hop e law9 ht rawElem b V.length D hm hO _ _ hx hkey ?_
 intro w' h1 h2
 exact hK w' (.mk h1 (hD.del (hO.tidy law9) _ hnd)) h2
end
end Go.Proofs.YtigalkobmfbdaaaGreatDoor
namespace Go.Proofs.YtigalkobmfbdaaaGreatDoor
open Go.RowKit
abbrev SL:=List (List UInt8 × Syn)
def setB {α : Type} (V : List (List UInt8 × α)) (s : List UInt8) (v : α) : List (List UInt8 × α):=(V.filter fun x=>x.1 != s) ++ [(s,v)]
mutual
def peelS : Syn -> Option Syn
 | .mk k nl x n ks=>match wrapIx k with
  | some i=>peelAt ks i
  | none=>if lisK k then (if ks.length=1 then peelAt ks 0 else none) else some (.mk k nl x n ks)
def peelAt : List Syn -> Nat -> Option Syn
 | [],_=>none
 | t :: _,0=>peelS t
 | _ :: ts,i + 1=>peelAt ts i
end
theorem peelAt_get : ∀ (ks : List Syn) (i : Nat) (h : i < ks.length),peelAt ks i=peelS ks[i]
 | t :: ts,0,_=>by rw [peelAt];rfl
 | t :: ts,i + 1,h=>by rw [peelAt];simpa using peelAt_get ts i (by simpa using h)
theorem peelS_wrap {k : ByteArray} {nl : Bool} {x : ByteArray} {n : Int} {ks : List Syn} {i : Nat} (hw : wrapIx k=some i) (h : i < ks.length) : peelS (.mk k nl x n ks)=peelS ks[i]:=by
 rw [peelS,hw,<- peelAt_get]
theorem peelS_list {k : ByteArray} {nl : Bool} {x : ByteArray} {n : Int} {ks : List Syn} (hw : wrapIx k=none) (hl : lisK k=true) : peelS (.mk k nl x n ks)=if ks.length=1 then peelAt ks 0 else none:=by
 rw [peelS,hw]
 simp only [hl,if_true]
theorem peelS_none {k : ByteArray} {nl : Bool} {x : ByteArray} {n : Int} {ks : List Syn} (hw : wrapIx k=none) (hl : lisK k=false) : peelS (.mk k nl x n ks)=some (.mk k nl x n ks):=by
 rw [peelS,hw]
 simp only [hl]
 rfl
def isNilN : PN -> Bool
 | .nul=>true
 | .nil=>true
 | _=>false
abbrev MRes:=Option (Bool × Syn × SL)
mutual
def mt (nm : Names) : Bool -> PN -> Syn -> SL -> MRes
 | _,.nul,_,_=>none
 | _,.any,r,S=>some (true,bareS r,S)
 | _,.nil,r,S=>if lisK (bareS r).kind && (bareS r).null then none else some ((bareS r).kind.toList == [],bareS r,S)
 | _,.str s,r,S=>some (((bareS r).kind.toList == [115,116,114,105,110,103] || (bareS r).kind.toList == [84,111,107,101,110]) && s.toList == (bareS r).text.toList,bareS r,S)
 | _,.tok _,_,_=>none
 | wi,.struct k ks,r,S =>
  if k.toList == [78,111,116] then (match ks with
   | [q]=>(match mt nm wi q r S with
    | some (ok,_,S')=>some (!ok,bareS r,S')
    | none=>none)
   | _=>none)
  else if named k && ks.length == (args k).length then (match peelS r with
   | none=>some (false,nulS,S)
   | some u=>if u.kind.toList == [98,111,111,108] then none
    else if u.kind.toList == k.toList then (match mtArgs nm wi ks u.kids S with
     | some (ok,S')=>some (ok,u,S')
     | none=>none)
    else some (false,nulS,S))
  else none
 | wi,.list h t,r,S =>
  if lisK (bareS r).kind then
   (if isNilN h then some ((bareS r).kids.isEmpty,bareS r,S)
   else match (bareS r).kids with
    | []=>some (false,nulS,S)
    | x :: xs=>(match mt nm wi h x S with
     | none=>none
     | some (ok1,_,S1)=>(match mt nm wi t (.mk (bareS r).kind false ⟨#[]⟩ 0 xs) S1 with
      | none=>none
      | some (ok2,_,S2)=>some (ok1 && ok2,bareS r,S2))))
  else some (false,nulS,S)
 | wi,.bind x n i,r,S =>
  if decide (nm.length <= 64) && nm.contains x.toList && i == (nm.idxOf x.toList : Int) then
   (if n.isNul then (match getB S x.toList with
    | some old=>if nodeK old.kind && nodeK (bareS r).kind && !mixC old (bareS r) then some (eqS old (bareS r),bareS r,S) else none
    | none=>some (true,bareS r,setB S x.toList (bareS r)))
   else if isNilN n then none
   else (match getB S x.toList with
    | some _=>none
    | none=>(match mt nm wi n r S with
     | none=>none
     | some (true,o,S')=>some (true,o,setB S' x.toList o)
     | some (false,o,S')=>some (false,o,S'))))
  else none
 | wi,.or ks,r,S=>(match mtOr nm ks r S with
  | none=>none
  | some (ok,o,S')=>if wi && S'.length != S.length then none else some (ok,o,S'))
 | _,.and _,_,_=>none
 | _,.index _ _ _,_,_=>none
def mtOr (nm : Names) : List PN -> Syn -> SL -> MRes
 | [],_,S=>some (false,nulS,S)
 | q :: qs,r,S=>(match mt nm true q r S with
  | none=>none
  | some (true,o,S')=>some (true,o,S')
  | some (false,_,_)=>mtOr nm qs r S)
def mtArgs (nm : Names) : Bool -> List PN -> List Syn -> SL -> Option (Bool × SL)
 | _,[],_,S=>some (true,S)
 | _,_ :: _,[],_=>none
 | wi,q :: qs,y :: ys,S=>(match mt nm wi q y S with
  | none=>none
  | some (false,_,S')=>some (false,S')
  | some (true,_,S')=>mtArgs nm wi qs ys S')
end
end Go.Proofs.YtigalkobmfbdaaaGreatDoor
namespace Go.Proofs.YtigalkobmfbdaaaGreatDoor
def popF {α : Type} (nm : Names) (T : BitVec 64) (i : Nat) (V : List (List UInt8 × α)) : List (List UInt8 × α):=V.filter fun x=>!(T.getLsbD (nm.idxOf x.1) && decide (nm.idxOf x.1 < i))
theorem popF_zero {α : Type} (nm : Names) (T : BitVec 64) (V : List (List UInt8 × α)) : popF nm T 0 V=V:=by
 unfold popF
 rw [List.filter_eq_self]
 intro x _
 simp
theorem popF_skip {α : Type} {nm : Names} {T : BitVec 64} {i : Nat} (h : T.getLsbD i=false) (V : List (List UInt8 × α)) : popF nm T (i + 1) V=popF nm T i V:=by
 unfold popF
 refine List.filter_congr fun x _=>?_
 by_cases e : nm.idxOf x.1=i
 ·rw [e,h];simp
 ·have : decide (nm.idxOf x.1 < i + 1)=decide (nm.idxOf x.1 < i):=by
   by_cases h2 : nm.idxOf x.1 < i
   ·rw [decide_eq_true h2,decide_eq_true (by omega)]
   ·rw [decide_eq_false h2,decide_eq_false (by omega)]
  rw [this]
theorem idx_iff {nm : Names} (hn : nm.Nodup) {i : Nat} (hi : i < nm.length) {s : List UInt8} (hs : s ∈ nm) : nm.idxOf s=i ↔ s=nm[i]:=by
 constructor
 ·rintro rfl
  exact (List.getElem_idxOf hi).symm
 ·rintro rfl
  exact hn.idxOf_getElem i hi
theorem popF_step {α : Type} {nm : Names} (hn : nm.Nodup) {T : BitVec 64} {i : Nat} (hi : i < nm.length) (h : T.getLsbD i=true) {V : List (List UInt8 × α)} (hV : ∀ x ∈ V,x.1 ∈ nm) : popF nm T (i + 1) V=(popF nm T i V).filter fun x=>x.1 != nm[i]:=by
 unfold popF
 rw [List.filter_filter]
 refine List.filter_congr fun x hx=>?_
 by_cases e : nm.idxOf x.1=i
 ·have e2:=(idx_iff hn hi (hV x hx)).1 e
  rw [e,h]
  simp [e2]
 ·have e2 : x.1 ≠ nm[i]:=fun h=>e ((idx_iff hn hi (hV x hx)).2 h)
  have : decide (nm.idxOf x.1 < i + 1)=decide (nm.idxOf x.1 < i):=by
   by_cases h2 : nm.idxOf x.1 < i
   ·rw [decide_eq_true h2,decide_eq_true (by omega)]
   ·rw [decide_eq_false h2,decide_eq_false (by omega)]
  rw [this]
  simp [e2]
theorem popF_done {α : Type} {nm : Names} (hl : nm.length <= 64) {T : BitVec 64} {S A : List (List UInt8 × α)} (hk : ((S ++ A).map Prod.fst).Nodup) (hm : ∀ x ∈ S ++ A,x.1 ∈ nm) (hT : ∀ i < 64,T.getLsbD i=A.any fun x=>nm.idxOf x.1 == i) : popF nm T nm.length (S ++ A)=S:=by
 unfold popF
 rw [List.filter_append]
 have h1 : S.filter (fun x=>!(T.getLsbD (nm.idxOf x.1) && decide (nm.idxOf x.1 < nm.length)))=S:=by
  rw [List.filter_eq_self]
  intro x hx
  have hxm:=hm x (List.mem_append_left _ hx)
  have hi:=List.idxOf_lt_length_iff.2 hxm
  rw [hT _ (by omega)]
  have : (A.any fun y=>nm.idxOf y.1 == nm.idxOf x.1)=false:=by
   rw [List.any_eq_false]
   intro y hy e
   have e:=eq_of_beq e
   have hym:=hm y (List.mem_append_right _ hy)
   have hj:=List.idxOf_lt_length_iff.2 hym
   have e2 : y.1=x.1:=by
    rw [<- List.getElem_idxOf hj,<- List.getElem_idxOf hi]
    simp only [e]
   rw [List.map_append,List.nodup_append] at hk
   exact hk.2.2 x.1 (List.mem_map_of_mem hx) y.1 (List.mem_map_of_mem hy) e2.symm
  rw [this]
  rfl
 have h2 : A.filter (fun x=>!(T.getLsbD (nm.idxOf x.1) && decide (nm.idxOf x.1 < nm.length)))=[]:=by
  rw [List.filter_eq_nil_iff]
  intro x hx
  have hxm:=hm x (List.mem_append_right _ hx)
  have hi:=List.idxOf_lt_length_iff.2 hxm
  rw [hT _ (by omega),decide_eq_true hi]
  have : (A.any fun y=>nm.idxOf y.1 == nm.idxOf x.1)=true:=List.any_eq_true.2 ⟨x,hx,by simp⟩
  rw [this]
  simp
 rw [h1,h2,List.append_nil]
def Adv (nm : Names) (wi : Bool) (S S' : SL) (T T' : BitVec 64) : Prop :=
 ∃ A : SL,S'=S ++ A /\ (wi=true -> ∀ i < 64,T'.getLsbD i=(T.getLsbD i || A.any fun x=>nm.idxOf x.1 == i))
theorem Adv.refl (nm : Names) (wi : Bool) (S : SL) (T : BitVec 64) : Adv nm wi S S T T:=⟨[],by simp,fun _ i _=>by simp⟩
theorem Adv.trans {nm : Names} {wi : Bool} {S S' S'' : SL} {T T' T'' : BitVec 64} (h : Adv nm wi S S' T T') (k : Adv nm wi S' S'' T' T'') : Adv nm wi S S'' T T'':=by
 obtain ⟨A,rfl,hA⟩:=h
 obtain ⟨B,rfl,hB⟩:=k
 refine ⟨A ++ B,by simp,fun hw i hi=>?_⟩
 rw [hB hw i hi,hA hw i hi,List.any_append,Bool.or_assoc]
theorem setB_fresh {α : Type} (S A : List (List UInt8 × α)) (x : List UInt8) (o : α) (hx : x ∉ S.map Prod.fst) : setB (S ++ A) x o=S ++ ((A.filter fun y=>y.1 != x) ++ [(x,o)]):=by
 unfold setB
 rw [List.filter_append,List.append_assoc]
 congr 1
 rw [List.filter_eq_self]
 intro y hy
 have : y.1 ≠ x:=fun e=>hx (e ▸ List.mem_map_of_mem hy)
 simpa using this
theorem Adv.bind {nm : Names} (hl : nm.length <= 64) {wi : Bool} {S S' : SL} {T T' : BitVec 64} {x : List UInt8} (hx : getB S x=none) (hm : x ∈ nm) (o : Syn) (h : Adv nm wi S S' T T') : Adv nm wi S (setB S' x o) T (T' ||| BitVec.twoPow 64 (nm.idxOf x)):=by
 obtain ⟨A,rfl,hA⟩:=h
 have hi0:=List.idxOf_lt_length_iff.2 hm
 refine ⟨_,setB_fresh S A x o ((getB_none S x).1 hx),fun hw i hi=>?_⟩
 rw [get_set _ _ _ (by omega) hi,hA hw i hi,List.any_append,Bool.or_assoc]
 congr 1
 by_cases e : i=nm.idxOf x
 ·subst e
  simp
 ·have e1 : (i == nm.idxOf x)=false:=by simpa using e
  have e2 : (nm.idxOf x == i)=false:=by simpa using fun h=>e h.symm
  rw [e1]
  simp only [Bool.or_false,List.any_cons,e2,List.any_nil,List.any_filter]
  refine List.any_congr rfl fun y=>?_
  by_cases e3 : y.1=x
  ·rw [e3];simp [e2]
  ·simp [e3]
def RZ (t : Syn) : Prop:=RS t /\ sizeS t <= 40000
def Keyed (nm : Names) (S : SL) : Prop:=(S.map Prod.fst).Nodup /\ (∀ x ∈ S,x.1 ∈ nm) /\ ∀ x ∈ S,RZ x.2
theorem Keyed.nil (nm : Names) : Keyed nm []:=⟨List.nodup_nil,fun x h=>absurd h (by simp),fun x h=>absurd h (by simp)⟩
theorem Keyed.bindB {nm : Names} {S : SL} (h : Keyed nm S) {x : List UInt8} (hx : x ∈ nm) {o : Syn} (ho : RZ o) : Keyed nm (setB S x o):=by
 obtain ⟨h1,h2,h3⟩:=h
 refine ⟨?_,?_,?_⟩
 ·unfold setB
  rw [List.map_append,List.nodup_append]
  refine ⟨?_,by simp,?_⟩
  ·exact h1.sublist (List.filter_sublist.map _)
  ·intro a ha b hb e
   simp at hb
   obtain ⟨y,hy,rfl⟩:=List.mem_map.1 ha
   have:=(List.mem_filter.1 hy).2
   simp at this
   exact this (e.trans hb)
 ·intro y hy
  unfold setB at hy
  rcases List.mem_append.1 hy with hy | hy
  ·exact h2 y (List.mem_filter.1 hy).1
  ·simp at hy;rw [hy];exact hx
 ·intro y hy
  unfold setB at hy
  rcases List.mem_append.1 hy with hy | hy
  ·exact h3 y (List.mem_filter.1 hy).1
  ·simp at hy;rw [hy];exact ho
theorem Keyed.left {nm : Names} {S A : SL} (h : Keyed nm (S ++ A)) : Keyed nm S:=by
 obtain ⟨h1,h2,h3⟩:=h
 rw [List.map_append,List.nodup_append] at h1
 exact ⟨h1.1,fun x hx=>h2 x (List.mem_append_left _ hx),fun x hx=>h3 x (List.mem_append_left _ hx)⟩
theorem Keyed.get {nm : Names} {S : SL} (h : Keyed nm S) {x : List UInt8} {o : Syn} (hg : getB S x=some o) : RZ o:=h.2.2 _ (getB_mem S x o hg)
end Go.Proofs.YtigalkobmfbdaaaGreatDoor
