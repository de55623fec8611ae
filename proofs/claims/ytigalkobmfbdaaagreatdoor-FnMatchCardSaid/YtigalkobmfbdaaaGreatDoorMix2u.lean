/- What the words say of a pattern and a part: the reference's Match as a plain function; where it is said, the program's function says the same. -/
import Derived.Test.YtigalkobmfbdaaaGreatDoorMix2o
import Derived.Test.YtigalkobmfbdaaaGreatDoorMix2t
import Derived.Test.YtigalkobmfbdaaaGreatDoorNodesZ2
import Derived.Test.YtigalkobmfbdaaaGreatDoorMix2r
set_option linter.unusedVariables false
set_option linter.unusedSimpArgs false
namespace Go.Proofs.YtigalkobmfbdaaaGreatDoor
open Go.RowKit
mutual
def mixF : Syn -> Syn -> Bool
 | .mk k nl x n ks,b=>match wrapIx k with
  | some i=>mixFAt ks i b
  | none=>lisK k != lisK (bareS b).kind || mixFL ks (bareS b).kids
def mixFAt : List Syn -> Nat -> Syn -> Bool
 | [],_,_=>true
 | t :: _,0,b=>mixF t b
 | _ :: ts,i + 1,b=>mixFAt ts i b
def mixFL : List Syn -> List Syn -> Bool
 | t :: ts,u :: us=>mixF t u || mixFL ts us
 | _,_=>false
end
theorem mixFAt_get : ∀ (ks : List Syn) (i : Nat) (b : Syn) (h : i < ks.length),mixFAt ks i b=mixF ks[i] b
 | t :: ts,0,b,_=>by rw [mixFAt];rfl
 | t :: ts,i + 1,b,h=>by rw [mixFAt];simpa using mixFAt_get ts i b (by simpa using h)
theorem mixF_wrap {k : ByteArray} {nl : Bool} {x : ByteArray} {n : Int} {ks : List Syn} {i : Nat} (hw : wrapIx k=some i) (h : i < ks.length) (b : Syn) : mixF (.mk k nl x n ks) b=mixF ks[i] b:=by
 rw [mixF,hw,<- mixFAt_get _ _ _ h]
theorem mixF_none {k : ByteArray} {nl : Bool} {x : ByteArray} {n : Int} {ks : List Syn} (hw : wrapIx k=none) (b : Syn) : mixF (.mk k nl x n ks) b=(lisK k != lisK (bareS b).kind || mixFL ks (bareS b).kids):=by
 rw [mixF,hw]
mutual
theorem mixC_of : ∀ a b : Syn,mixF a b=false -> mixC a b=false
 | .mk k nl x n ks,b,h=>by
  rw [mixF] at h
  rw [mixC]
  cases hw : wrapIx k with
  | some i =>
   rw [hw] at h
   exact mixAt_of ks i b h
  | none =>
   rw [hw] at h
   simp only [Bool.or_eq_false_iff] at h
   simp only [h.1,Bool.false_eq_true,if_false]
   rw [mixL_of ks _ h.2]
   split <;> rfl
theorem mixAt_of : ∀ (ks : List Syn) (i : Nat) (b : Syn),mixFAt ks i b=false -> mixAt ks i b=false
 | [],_,_,h=>by rw [mixFAt] at h;cases h
 | t :: _,0,b,h=>by rw [mixFAt] at h;rw [mixAt];exact mixC_of t b h
 | _ :: ts,i + 1,b,h=>by rw [mixFAt] at h;rw [mixAt];exact mixAt_of ts i b h
theorem mixL_of : ∀ ks us : List Syn,mixFL ks us=false -> mixL ks us=false
 | [],us,h=>by rw [mixL];intro t ts u us' e;cases e
 | t :: ts,[],h=>by rw [mixL];intro a b c d e e';cases e'
 | t :: ts,u :: us,h=>by
  rw [mixFL,Bool.or_eq_false_iff] at h
  rw [mixL,mixC_of t u h.1,mixL_of ts us h.2]
  rfl
end
structure SpR where
 ok : Bool
 out : Syn
 S : SL
 op : Bool
mutual
def sp : Tree -> Syn -> SL -> Bool -> SpR
 | .mk k x ks,n,S,op =>
  if k.toList == [65,110,121] then ⟨true,bareS n,S,op⟩
  else if k.toList == [78,105,108] then ⟨(bareS n).kind.toList == [],bareS n,S,op || (lisK (bareS n).kind && (bareS n).null)⟩
  else if k.toList == [83,116,114,105,110,103] then ⟨((bareS n).kind.toList == [115,116,114,105,110,103] || (bareS n).kind.toList == [84,111,107,101,110]) && (bareS n).text.toList == x.toList,bareS n,S,op⟩
  else if k.toList == [76,105,115,116] then (if lisK (bareS n).kind then (match ks,(bareS n).kids with
   | [],l=>⟨l.isEmpty,bareS n,S,op⟩
   | [_],_=>⟨false,bareS n,S,op⟩
   | _ :: _ :: _,[]=>⟨false,bareS n,S,op⟩
   | h :: t :: _,y :: ys=>⟨(sp h y S op).ok && (sp t (.mk (bareS n).kind false ⟨#[]⟩ 0 ys) (sp h y S op).S (sp h y S op).op).ok,bareS n,(sp t (.mk (bareS n).kind false ⟨#[]⟩ 0 ys) (sp h y S op).S (sp h y S op).op).S,(sp t (.mk (bareS n).kind false ⟨#[]⟩ 0 ys) (sp h y S op).S (sp h y S op).op).op⟩)
   else ⟨false,bareS n,S,op⟩)
  else if k.toList == [66,105,110,100,105,110,103] then (match ks with
   | []=>(match getB S x.toList with
    | some old=>⟨eqS old (bareS n),bareS n,S,op || (!nodeK old.kind || !nodeK (bareS n).kind || mixF old (bareS n))⟩
    | none=>⟨true,bareS n,setB S x.toList (bareS n),op⟩)
   | q :: _=>(match getB S x.toList with
    | some _=>⟨false,bareS n,S,true⟩
    | none=>⟨(sp q (bareS n) S op).ok,(sp q (bareS n) S op).out,if (sp q (bareS n) S op).ok then setB (sp q (bareS n) S op).S x.toList (sp q (bareS n) S op).out else (sp q (bareS n) S op).S,(sp q (bareS n) S op).op⟩))
  else if k.toList == [79,114] then spOr ks (bareS n) S op
  else if k.toList == [78,111,116] then (match ks with
   | []=>⟨true,bareS n,S,op⟩
   | q :: _=>⟨!(sp q (bareS n) S op).ok,bareS n,(sp q (bareS n) S op).S,(sp q (bareS n) S op).op⟩)
  else (match peelS n with
   | none=>⟨false,nulS,S,op⟩
   | some u=>if u.kind.toList == k.toList then spArgs ks u.kids S op u else ⟨false,u,S,op⟩)
def spOr : List Tree -> Syn -> SL -> Bool -> SpR
 | [],b,S,op=>⟨false,nulS,S,op⟩
 | q :: qs,b,S,op=>if (sp q b S op).ok then sp q b S op else spOr qs b S (sp q b S op).op
def spArgs : List Tree -> List Syn -> SL -> Bool -> Syn -> SpR
 | [],_,S,op,u=>⟨true,u,S,op⟩
 | q :: qs,[],S,op,u=>⟨false,u,S,op⟩
 | q :: qs,y :: ys,S,op,u=>if (sp q y S op).ok then spArgs qs ys (sp q y S op).S (sp q y S op).op u else ⟨false,u,(sp q y S op).S,(sp q y S op).op⟩
end
theorem sp_mk (k x : ByteArray) (ks : List Tree) (n : Syn) (S : SL) (op : Bool) : sp (.mk k x ks) n S op=(
  if k.toList == [65,110,121] then ⟨true,bareS n,S,op⟩
  else if k.toList == [78,105,108] then ⟨(bareS n).kind.toList == [],bareS n,S,op || (lisK (bareS n).kind && (bareS n).null)⟩
  else if k.toList == [83,116,114,105,110,103] then ⟨((bareS n).kind.toList == [115,116,114,105,110,103] || (bareS n).kind.toList == [84,111,107,101,110]) && (bareS n).text.toList == x.toList,bareS n,S,op⟩
  else if k.toList == [76,105,115,116] then (if lisK (bareS n).kind then (match ks,(bareS n).kids with
   | [],l=>⟨l.isEmpty,bareS n,S,op⟩
   | [_],_=>⟨false,bareS n,S,op⟩
   | _ :: _ :: _,[]=>⟨false,bareS n,S,op⟩
   | h :: t :: _,y :: ys=>⟨(sp h y S op).ok && (sp t (.mk (bareS n).kind false ⟨#[]⟩ 0 ys) (sp h y S op).S (sp h y S op).op).ok,bareS n,(sp t (.mk (bareS n).kind false ⟨#[]⟩ 0 ys) (sp h y S op).S (sp h y S op).op).S,(sp t (.mk (bareS n).kind false ⟨#[]⟩ 0 ys) (sp h y S op).S (sp h y S op).op).op⟩)
   else ⟨false,bareS n,S,op⟩)
  else if k.toList == [66,105,110,100,105,110,103] then (match ks with
   | []=>(match getB S x.toList with
    | some old=>⟨eqS old (bareS n),bareS n,S,op || (!nodeK old.kind || !nodeK (bareS n).kind || mixF old (bareS n))⟩
    | none=>⟨true,bareS n,setB S x.toList (bareS n),op⟩)
   | q :: _=>(match getB S x.toList with
    | some _=>⟨false,bareS n,S,true⟩
    | none=>⟨(sp q (bareS n) S op).ok,(sp q (bareS n) S op).out,if (sp q (bareS n) S op).ok then setB (sp q (bareS n) S op).S x.toList (sp q (bareS n) S op).out else (sp q (bareS n) S op).S,(sp q (bareS n) S op).op⟩))
  else if k.toList == [79,114] then spOr ks (bareS n) S op
  else if k.toList == [78,111,116] then (match ks with
   | []=>⟨true,bareS n,S,op⟩
   | q :: _=>⟨!(sp q (bareS n) S op).ok,bareS n,(sp q (bareS n) S op).S,(sp q (bareS n) S op).op⟩)
  else (match peelS n with
   | none=>⟨false,nulS,S,op⟩
   | some u=>if u.kind.toList == k.toList then spArgs ks u.kids S op u else ⟨false,u,S,op⟩)):=by
 conv=>lhs;unfold sp
theorem sp_open (p : Tree) : ∀ (n : Syn) (S : SL),(sp p n S true).op=true:=by
 refine Tree.ind (P:=fun p=>∀ (n : Syn) (S : SL),(sp p n S true).op=true) ?_ p
 intro t ih
 obtain ⟨k,x,ks⟩:=t
 simp only [kids_mk] at ih
 have ihm : ∀ t ∈ ks,∀ (n : Syn) (S : SL),(sp t n S true).op=true:=fun t ht=>by
  obtain ⟨j,hj,rfl⟩:=List.getElem_of_mem ht
  exact ih j hj
 have hor : ∀ (l : List Tree),(∀ t ∈ l,t ∈ ks) -> ∀ (n : Syn) (S : SL),(spOr l n S true).op=true:=by
  intro l
  induction l with
  | nil=>intro _ n S;rw [spOr]
  | cons q qs ihq =>
   intro h n S
   have hq:=ihm q (h q (by simp)) n S
   rw [spOr]
   split
   ·exact hq
   ·rw [hq]
    exact ihq (fun t ht=>h t (List.mem_cons_of_mem _ ht)) n S
 have har : ∀ (l : List Tree),(∀ t ∈ l,t ∈ ks) -> ∀ (ys : List Syn) (S : SL) (u : Syn),(spArgs l ys S true u).op=true:=by
  intro l
  induction l with
  | nil=>intro _ ys S u;rw [spArgs]
  | cons q qs ihq =>
   intro h ys S u
   cases ys with
   | nil=>rw [spArgs]
   | cons y ys =>
    have hq:=ihm q (h q (by simp)) y S
    rw [spArgs]
    split
    ·rw [hq]
     exact ihq (fun t ht=>h t (List.mem_cons_of_mem _ ht)) ys _ u
    ·exact hq
 intro n S
 rw [sp_mk]
 split
 ·rfl
 split
 ·rfl
 split
 ·rfl
 split
 ·split
  ·split
   ·rfl
   ·rfl
   ·rfl
   ·rename_i h t _ y ys _
    simp only
    rw [ihm h (by simp) y S]
    exact ihm t (by simp) _ _
  ·rfl
 split
 ·split
  ·split <;> rfl
  ·split
   ·rfl
   ·exact ihm _ (by simp) _ _
 split
 ·exact hor ks (fun t ht=>ht) _ _
 split
 ·split
  ·rfl
  ·exact ihm _ (by simp) _ _
 split
 ·rfl
 ·split
  ·exact har ks (fun t ht=>ht) _ _ _
  ·rfl
theorem sp_said {p : Tree} {n : Syn} {S : SL} {op : Bool} (h : (sp p n S op).op=false) : op=false:=by
 cases op
 ·rfl
 ·rw [sp_open] at h;cases h
end Go.Proofs.YtigalkobmfbdaaaGreatDoor
namespace Go.Proofs.YtigalkobmfbdaaaGreatDoor
open Go.RowKit
theorem sp_bare {n : Syn} (hn : RS n) (q : Tree) (S : SL) (op : Bool) : sp q (bareS n) S op=sp q n S op:=by
 obtain ⟨k,x,ks⟩:=q
 rw [sp_mk,sp_mk,bare_bare hn,peel_bare n hn]
theorem spOr_bare {n : Syn} (hn : RS n) : ∀ (qs : List Tree) (S : SL) (op : Bool),spOr qs (bareS n) S op=spOr qs n S op
 | [],S,op=>by rw [spOr,spOr]
 | q :: qs,S,op=>by rw [spOr,spOr,sp_bare hn,spOr_bare hn qs]
theorem sp_nobind (p : Tree) : binds p=false -> ∀ (n : Syn) (S : SL) (op : Bool),(sp p n S op).S=S:=by
 refine Tree.ind (P:=fun p=>binds p=false -> ∀ (n : Syn) (S : SL) (op : Bool),(sp p n S op).S=S) ?_ p
 intro t ih hb
 obtain ⟨k,x,ks⟩:=t
 rw [binds_eq,Bool.or_eq_false_iff] at hb
 simp only [kids_mk,kind_mk] at ih hb
 have hbm : ∀ t ∈ ks,binds t=false:=fun t ht=>by
  have:=List.any_eq_false.1 hb.1 t ht
  simpa using this
 have ihm : ∀ t ∈ ks,∀ (n : Syn) (S : SL) (op : Bool),(sp t n S op).S=S:=fun t ht=>by
  obtain ⟨j,hj,rfl⟩:=List.getElem_of_mem ht
  exact ih j hj (hbm _ ht)
 have hor : ∀ (l : List Tree),(∀ t ∈ l,t ∈ ks) -> ∀ (n : Syn) (S : SL) (op : Bool),(spOr l n S op).S=S:=by
  intro l
  induction l with
  | nil=>intro _ n S op;rw [spOr]
  | cons q qs ihq =>
   intro h n S op
   have hq:=ihm q (h q (by simp)) n S op
   rw [spOr]
   split
   ·exact hq
   ·exact ihq (fun t ht=>h t (List.mem_cons_of_mem _ ht)) n S _
 have har : ∀ (l : List Tree),(∀ t ∈ l,t ∈ ks) -> ∀ (ys : List Syn) (S : SL) (op : Bool) (u : Syn),(spArgs l ys S op u).S=S:=by
  intro l
  induction l with
  | nil=>intro _ ys S op u;rw [spArgs]
  | cons q qs ihq =>
   intro h ys S op u
   cases ys with
   | nil=>rw [spArgs]
   | cons y ys =>
    have hq:=ihm q (h q (by simp)) y S op
    rw [spArgs]
    split
    ·rw [hq]
     exact ihq (fun t ht=>h t (List.mem_cons_of_mem _ ht)) ys S _ u
    ·exact hq
 intro n S op
 rw [sp_mk]
 split
 ·rfl
 split
 ·rfl
 split
 ·rfl
 split
 ·split
  ·split
   ·rfl
   ·rfl
   ·rfl
   ·rename_i h t _ y ys _
    simp only
    rw [ihm h (by simp) y S op]
    exact ihm t (by simp) _ _ _
  ·rfl
 split
 ·rename_i hk
  rw [hb.2] at hk
  cases hk
 split
 ·exact hor ks (fun t ht=>ht) _ _ _
 split
 ·split
  ·rfl
  ·exact ihm _ (by simp) _ _ _
 split
 ·rfl
 ·split
  ·exact har ks (fun t ht=>ht) _ _ _ _
  ·rfl
theorem prefix_idx {l nm : Names} {s : List UInt8} (h : addName l s <+: nm) : nm.contains s=true /\ l.idxOf s=nm.idxOf s:=by
 obtain ⟨r,rfl⟩:=h
 unfold addName
 split
 ·rename_i h
  exact ⟨by rw [List.contains_iff_mem];exact List.mem_append_left _ h,by rw [List.idxOf_append,if_pos h]⟩
 ·rename_i h
  have h2 : s ∈ l ++ [s]:=by simp
  refine ⟨by rw [List.contains_iff_mem];exact List.mem_append_left _ h2,?_⟩
  rw [List.idxOf_append,if_pos h2,List.idxOf_append,if_neg h]
  simp [List.idxOf_eq_length h]
theorem addName_pre (l : Names) (s : List UInt8) : l <+: addName l s:=by
 unfold addName
 split
 ·exact List.prefix_refl _
 ·exact List.prefix_append _ _
theorem toPN_pre (p : Tree) : ∀ nm : Names,nm <+: (toPN p nm).2:=by
 refine Tree.ind (P:=fun p=>∀ nm : Names,nm <+: (toPN p nm).2) ?_ p
 intro t ih nm
 obtain ⟨k,x,ks⟩:=t
 simp only [kids_mk] at ih
 have ihm : ∀ t ∈ ks,∀ nm : Names,nm <+: (toPN t nm).2:=fun t ht=>by
  obtain ⟨j,hj,rfl⟩:=List.getElem_of_mem ht
  exact ih j hj
 have ihl : ∀ (l : List Tree),(∀ t ∈ l,t ∈ ks) -> ∀ nm : Names,nm <+: (toPNs l nm).2:=by
  intro l
  induction l with
  | nil=>intro _ nm;rw [toPNs];exact List.prefix_refl _
  | cons q qs ihq =>
   intro h nm
   rw [toPNs_cons]
   exact (ihm q (h q (by simp)) nm).trans (ihq (fun t ht=>h t (List.mem_cons_of_mem _ ht)) _)
 rw [toPN_mk]
 split
 ·exact List.prefix_refl _
 split
 ·exact List.prefix_refl _
 split
 ·exact List.prefix_refl _
 split
 ·split
  ·exact List.prefix_refl _
  ·rename_i a b _
   exact (ihm a (by simp) nm).trans (ihm b (by simp) _)
  ·exact List.prefix_refl _
 split
 ·split
  ·exact addName_pre _ _
  ·rename_i a _
   exact (ihm a (by simp) nm).trans (addName_pre _ _)
 split
 ·exact ihl ks (fun t ht=>ht) nm
 ·exact ihl ks (fun t ht=>ht) nm
theorem toPNs_pre : ∀ (l : List Tree) (nm : Names),nm <+: (toPNs l nm).2
 | [],nm=>by rw [toPNs];exact List.prefix_refl _
 | q :: qs,nm=>by rw [toPNs_cons];exact (toPN_pre q nm).trans (toPNs_pre qs _)
def NB (t : Syn) : Prop:=RS t /\ (t.kind.toList == [98,111,111,108])=false
theorem leaf_nb {k : ByteArray} (h : leafK k=false) : (k.toList == [98,111,111,108])=false:=by
 unfold leafK at h
 simp only [Bool.or_eq_false_iff] at h
 exact h.2
theorem node_nb {k : ByteArray} (h : nodeK k=true) : (k.toList == [98,111,111,108])=false:=by
 have : ∀ k ∈ expressions ++ statements,(k.toList == [98,111,111,108])=false:=by decide +kernel
 exact this k (nodeK_mem h)
theorem NB.bare {t : Syn} (h : NB t) : NB (bareS t):=by
 induction t using Syn.ind with | h t ih=>?_
 cases hw : wrapIx t.kind with
 | none =>
  obtain ⟨k,nl,x,n,ks⟩:=t
  rw [skind_mk] at hw
  rw [bareS_none hw]
  exact h
 | some i =>
  obtain ⟨k,ks,rfl,-,hi,hr,hl⟩:=h.1.form.wrap hw
  rw [skind_mk] at hw
  rw [bareS_wrap hw hi]
  exact ih i hi ⟨hr,leaf_nb hl⟩
theorem peel_nb (t : Syn) : NB t -> ∀ u,peelS t=some u -> NB u /\ lisK u.kind=false:=by
 induction t using Syn.ind with | h t ih=>?_
 intro h u hu
 cases hw : wrapIx t.kind with
 | some i =>
  obtain ⟨k,ks,rfl,-,hi,hr,hl⟩:=h.1.form.wrap hw
  rw [skind_mk] at hw
  rw [peelS_wrap hw hi] at hu
  exact ih i hi ⟨hr,leaf_nb hl⟩ u hu
 | none =>
  have hf:=h.1.form
  obtain ⟨k,nl,x,n,ks⟩:=t
  rw [skind_mk] at hw
  cases hl : lisK k with
  | false =>
   rw [peelS_none hw hl] at hu
   cases hu
   exact ⟨h,hl⟩
  | true =>
   rw [peelS_list hw hl] at hu
   split at hu
   ·rename_i h1
    have h0 : 0 < ks.length:=by omega
    rw [peelAt_get _ _ h0] at hu
    refine ih 0 h0 ?_ u hu
    simp only [skids_mk]
    cases hf with
    | list k nl ks hk hn he =>
     have:=he ks[0] (List.getElem_mem h0)
     exact ⟨this.1,node_nb this.2⟩
    | nothing=>exact absurd hl (by decide +kernel)
    | leaf k x n h=>exact absurd h0 (by simp)
    | node k ks hk hl' ha =>
     have : ∀ k ∈ expressions ++ statements,lisK k=false:=by decide +kernel
     rw [this k hk] at hl
     cases hl
   ·cases hu
theorem right_nb {t : Syn} {c : Int} (hc : c ∈ letters) (h98 : c ≠ 98) {of : ByteArray} (h : right t c of=true) : (t.kind.toList == [98,111,111,108])=false:=by
 obtain ⟨k,nl,x,n,ks⟩:=t
 rw [skind_mk]
 have hn : ∀ {c : Int},(c=101 \/ c=115) -> right (.mk k nl x n ks) c of=true -> (k.toList == [98,111,111,108])=false:=fun hc h=>node_nb (nodeK_of (right_kind hc h))
 have hE : ∀ (hk : (k.toList == [])=true),(k.toList == [98,111,111,108])=false:=fun hk=>by
  rw [show k=⟨#[]⟩ from beq_lit hk];decide +kernel
 simp only [letters,List.mem_cons,List.not_mem_nil,or_false] at hc
 rcases hc with rfl | rfl | rfl | rfl | rfl | rfl | rfl | rfl | rfl | rfl | rfl | rfl
 ·rw [beq_lit (rs_t h).2.1];decide +kernel
 ·rw [beq_lit (rs_n h).2.1];decide +kernel
 ·exact absurd rfl h98
 ·rw [beq_lit (rs_l h).2.1];decide +kernel
 ·rw [beq_lit (rs_m h).2.1];decide +kernel
 ·cases hk : (k.toList == [])
  ·rw [right_low_69 _ _ _ _ _ _ hk] at h;exact hn (.inl rfl) h
  ·exact hE hk
 ·cases hk : (k.toList == [])
  ·rw [right_low_83 _ _ _ _ _ _ hk] at h;exact hn (.inr rfl) h
  ·exact hE hk
 ·exact hn (.inl rfl) h
 ·exact hn (.inr rfl) h
 ·rw [fits_105 (rs_node (.inr (.inr (.inl rfl))) h).2.1];decide +kernel
 ·rw [fits_99 (rs_node (.inr (.inr (.inr (.inl rfl)))) h).2.1];decide +kernel
 ·rw [fits_66 (rs_node (.inr (.inr (.inr (.inr rfl)))) h).2.1];decide +kernel
theorem args_no_bool : ∀ k ∈ expressions ++ statements,∀ c ∈ (asked k).toList.take (args k).length,(c.toNat : Int) ≠ 98:=by decide +kernel
theorem args_nb {u : Syn} (hu : RS u) {k : ByteArray} (hk : u.kind.toList=k.toList) (hn : named k=true) : (args k).length <= u.kids.length /\ ∀ (j : Nat) (hj : j < u.kids.length),j < (args k).length -> NB u.kids[j]:=by
 obtain ⟨hp1,hp2,-,hke,-⟩:=pf_facts hn
 have hf:=hu.form
 have hke2:=nodeK_of hke
 cases hf with
 | node k' ks h hl ha =>
  obtain rfl:=toList_inj hk
  simp only [skids_mk]
  have hle : (args k').length <= ks.length:=by rw [hl,<- size_toList];exact args_asked k'
  refine ⟨hle,fun j hj hja=>?_⟩
  have hjl : j < (asked k').toList.length:=by rw [size_toList];omega
  have hr:=rightArgs_get _ _ _ ha j hj hjl
  refine ⟨RS.args hl ha j hj,right_nb (asked_letters k' _ (List.getElem_mem hjl)) ?_ hr⟩
  refine args_no_bool k' h _ ?_
  rw [List.mem_take_iff_getElem]
  exact ⟨j,Nat.lt_min.2 ⟨hja,hjl⟩,rfl⟩
 | nothing=>rw [<- toList_inj hk,skind_mk] at hke2;exact absurd hke2 (by decide +kernel)
 | leaf k' x n h =>
  rw [<- toList_inj hk,skind_mk] at hke2
  rcases h with ⟨rfl | rfl,-⟩ | ⟨rfl,-⟩ <;> exact absurd hke2 (by decide +kernel)
 | list k' nl ks h =>
  rw [<- toList_inj hk,skind_mk] at hke2
  rcases h with rfl | rfl <;> exact absurd hke2 (by decide +kernel)
mutual
def nestedT : Tree -> Bool -> Bool
 | .mk k x ks,wi=>(wi && k.toList == [79,114] && binds (.mk k x ks)) || (k.toList == [76,105,115,116] && ks.length == 2 && (match ks with
   | []=>false
   | h :: _=>h.kind.toList == [78,105,108])) || nestedAny ks (wi || k.toList == [79,114])
def nestedAny : List Tree -> Bool -> Bool
 | [],_=>false
 | t :: ts,wi=>nestedT t wi || nestedAny ts wi
end
theorem nestedT_mk (k x : ByteArray) (ks : List Tree) (wi : Bool) : nestedT (.mk k x ks) wi=((wi && k.toList == [79,114] && binds (.mk k x ks)) || (k.toList == [76,105,115,116] && ks.length == 2 && (match ks with
   | []=>false
   | h :: _=>h.kind.toList == [78,105,108])) || nestedAny ks (wi || k.toList == [79,114])):=by
 conv=>lhs;unfold nestedT
def LinkC (p : Tree) : Prop:=∀ c,good p c=true -> ∀ wi,nestedT p wi=false -> ∀ nm0 nm : Names,(toPN p nm0).2 <+: nm -> nm.length <= 64 -> ∀ (n : Syn) (S : SL) (op : Bool),NB n -> (sp p n S op).op=false →
 ∃ o,mt nm wi (toPN p nm0).1 n S=some ((sp p n S op).ok,o,(sp p n S op).S) /\ ((sp p n S op).ok=true -> o=(sp p n S op).out)
theorem link_args {wi : Bool} {nm : Names} (h64 : nm.length <= 64) : ∀ (ks : List Tree),(∀ t ∈ ks,LinkC t) -> ∀ (L : List UInt8),goodArgs ks L=true -> nestedAny ks wi=false -> ∀ nm0 : Names,(toPNs ks nm0).2 <+: nm -> ∀ (ys : List Syn) (S : SL) (op : Bool) (u : Syn),ks.length <= ys.length -> (∀ (j : Nat) (hj : j < ys.length),j < ks.length -> NB ys[j]) -> (spArgs ks ys S op u).op=false →
  mtArgs nm wi (toPNs ks nm0).1 ys S=some ((spArgs ks ys S op u).ok,(spArgs ks ys S op u).S) /\ ((spArgs ks ys S op u).ok=true -> (spArgs ks ys S op u).out=u)
 | [],_,L,_,_,nm0,_,ys,S,op,u,_,_,ho=>by
  rw [toPNs,mtArgs,spArgs]
  exact ⟨rfl,fun _=>rfl⟩
 | q :: qs,ih,[],hg,_,_,_,_,_,_,_,_,_,_=>by rw [goodArgs] at hg;cases hg
 | q :: qs,ih,c :: cs,hg,hn,nm0,hp,[],S,op,u,hl,_,_=>by simp at hl
 | q :: qs,ih,c :: cs,hg,hn,nm0,hp,y :: ys,S,op,u,hl,hy,ho=>by
  rw [goodArgs,Bool.and_eq_true] at hg
  rw [nestedAny,Bool.or_eq_false_iff] at hn
  rw [toPNs_cons] at hp
  simp only at hp
  have hy0 : NB y:=hy 0 (by simp) (by simp)
  rw [spArgs] at ho
  rw [toPNs_cons,mtArgs,spArgs]
  have hq : (sp q y S op).op=false:=by
   split at ho
   ·cases hc : (sp q y S op).op
    ·rfl
    ·rw [hc] at ho
     have : ∀ (l : List Tree) (ys : List Syn) (S : SL) (u : Syn),(spArgs l ys S true u).op=true:=by
      intro l
      induction l with
      | nil=>intro ys S u;rw [spArgs]
      | cons q qs ihq =>
       intro ys S u
       cases ys with
       | nil=>rw [spArgs]
       | cons y ys =>
        rw [spArgs]
        split
        ·rw [sp_open];exact ihq ys _ u
        ·exact sp_open q y S
     rw [this] at ho
     cases ho
   ·exact ho
  obtain ⟨o,hm,-⟩:=ih q (by simp) _ hg.1 wi hn.1 nm0 nm ((toPNs_pre qs _).trans hp) h64 y S op hy0 hq
  simp only [hm]
  cases hok : (sp q y S op).ok with
  | false=>simp
  | true =>
   rw [hok] at ho
   simp only [if_true] at ho ⊢
   exact link_args h64 qs (fun t ht=>ih t (List.mem_cons_of_mem _ ht)) cs hg.2 hn.2 _ hp ys _ _ u (by simpa using hl) (fun j hj hj2=>by
    have:=hy (j + 1) (by simpa using hj) (by simpa using hj2)
    simpa using this) ho
theorem spOr_open : ∀ (l : List Tree) (n : Syn) (S : SL),(spOr l n S true).op=true
 | [],n,S=>by rw [spOr]
 | q :: qs,n,S=>by
  rw [spOr]
  split
  ·exact sp_open q n S
  ·rw [sp_open];exact spOr_open qs n S
theorem link_or {nm : Names} (h64 : nm.length <= 64) : ∀ (ks : List Tree),(∀ t ∈ ks,LinkC t) -> ∀ c,goodAll ks c=true -> nestedAny ks true=false -> ∀ nm0 : Names,(toPNs ks nm0).2 <+: nm -> ∀ (n : Syn) (S : SL) (op : Bool),NB n -> (spOr ks n S op).op=false →
  ∃ o,mtOr nm (toPNs ks nm0).1 n S=some ((spOr ks n S op).ok,o,(spOr ks n S op).S) /\ ((spOr ks n S op).ok=true -> o=(spOr ks n S op).out)
 | [],_,c,_,_,nm0,_,n,S,op,_,ho=>by
  rw [toPNs,mtOr,spOr]
  exact ⟨_,rfl,fun h=>by cases h⟩
 | q :: qs,ih,c,hg,hn,nm0,hp,n,S,op,hnb,ho=>by
  rw [goodAll,Bool.and_eq_true] at hg
  rw [nestedAny,Bool.or_eq_false_iff] at hn
  rw [toPNs_cons] at hp
  simp only at hp
  rw [spOr] at ho
  rw [toPNs_cons,mtOr,spOr]
  have hq : (sp q n S op).op=false:=by
   split at ho
   ·exact ho
   ·cases hc : (sp q n S op).op
    ·rfl
    ·rw [hc,spOr_open] at ho
     cases ho
  obtain ⟨o,hm,ho2⟩:=ih q (by simp) c hg.1 true hn.1 nm0 nm ((toPNs_pre qs _).trans hp) h64 n S op hnb hq
  simp only [hm]
  cases hok : (sp q n S op).ok with
  | true =>
   simp only [if_true]
   exact ⟨o,by rw [hok],fun _=>ho2 hok⟩
  | false =>
   rw [hok] at ho
   simp only [Bool.false_eq_true,if_false] at ho ⊢
   exact link_or h64 qs (fun t ht=>ih t (List.mem_cons_of_mem _ ht)) c hg.2 hn.2 _ hp n S _ hnb ho
end Go.Proofs.YtigalkobmfbdaaaGreatDoor
namespace Go.Proofs.YtigalkobmfbdaaaGreatDoor
open Go.RowKit
theorem isNil_toPN {a : Tree} {c : Int} (hg : good a c=true) (hk : (a.kind.toList == [78,105,108])=false) (nm : Names) : isNilN (toPN a nm).1=false:=by
 obtain ⟨h1,h2⟩:=toTree_toPN a c hg nm
 generalize (toPN a nm).1=q at *
 cases q <;> try rfl
 ·cases h2
 ·rw [toTree] at h1
  subst h1
  rw [kind_mk] at hk
  exact absurd hk (by decide +kernel)
theorem beq_swap (a b : List UInt8) : (a == b)=(b == a):=by
 rw [Bool.eq_iff_iff,beq_iff_eq,beq_iff_eq]
 exact eq_comm
theorem named_not_nil {k : ByteArray} (h : named k=true) : (k.toList == [78,105,108])=false:=by
 cases hk : (k.toList == [78,105,108])
 ·rfl
 ·rw [show k=⟨#[78,105,108]⟩ from beq_lit hk] at h
  exact absurd h (by decide +kernel)
theorem link_all (p : Tree) : LinkC p:=by
 refine Tree.ind (P:=LinkC) ?_ p
 intro t ih
 obtain ⟨k,x,ks⟩:=t
 simp only [kids_mk] at ih
 have ihm : ∀ t ∈ ks,LinkC t:=fun t ht=>by
  obtain ⟨j,hj,rfl⟩:=List.getElem_of_mem ht
  exact ih j hj
 clear ih
 intro c hg wi hn nm0 nm hp h64 n S op hnb ho
 have hbr:=hnb.1.bare.1
 have hnob : (wi && k.toList == [79,114] && binds (.mk k x ks))=false:=by
  rw [nestedT_mk] at hn
  simp only [Bool.or_eq_false_iff] at hn
  exact hn.1.1
 have hNO:=Lib.hid hn
 rw [nestedT_mk] at hn
 rw [good_mk] at hg
 rw [toPN_mk] at hp ⊢
 cases h1 : (k.toList == [65,110,121]) with
 | true =>
  rw [sp_mk]
  simp only [h1,if_true]
  exact ⟨_,by rw [mt],fun _=>rfl⟩
 | false =>
 cases h2 : (k.toList == [78,105,108]) with
 | true =>
  rw [sp_mk] at ho ⊢
  simp only [h1,h2,Bool.false_eq_true,if_false,if_true,Bool.or_eq_false_iff] at ho ⊢
  rw [mt,ho.2]
  exact ⟨_,rfl,fun _=>rfl⟩
 | false =>
 cases h3 : (k.toList == [83,116,114,105,110,103]) with
 | true =>
  rw [sp_mk]
  simp only [h1,h2,h3,Bool.false_eq_true,if_false,if_true]
  rw [mt,beq_swap (bareS n).text.toList]
  exact ⟨_,rfl,fun _=>rfl⟩
 | false =>
 cases h4 : (k.toList == [76,105,115,116]) with
 | true =>
  have hor : (k.toList == [79,114])=false:=by
   rw [show k=⟨#[76,105,115,116]⟩ from beq_lit h4];decide +kernel
  rw [sp_mk] at ho ⊢
  simp only [h1,h2,h3,h4,hor,Bool.or_false,Bool.false_eq_true,if_false,if_true,Bool.true_and,Bool.or_eq_false_iff] at hg hn hp ho ⊢
  cases hl : lisK (bareS n).kind with
  | false =>
   simp only [hl,Bool.false_eq_true,if_false] at ho ⊢
   split <;> first
    | (rw [mt];simp only [hl,Bool.false_eq_true,if_false];exact ⟨_,rfl,fun h=>by cases h⟩)
    | (simp at hg;done)
    | skip
  | true =>
   simp only [hl,if_true] at ho ⊢
   match ks,hg,hn,hp,ho,ihm with
   | [],hg,hn,hp,ho,ihm =>
    simp only
    rw [mt]
    simp only [hl,if_true,isNilN]
    exact ⟨_,rfl,fun _=>rfl⟩
   | [a],hg,hn,hp,ho,ihm=>simp at hg
   | a :: b :: d :: r,hg,hn,hp,ho,ihm=>simp at hg
   | [a,b],hg,hn,hp,ho,ihm =>
    simp only [Bool.and_eq_true] at hg
    simp only at hp ⊢
    have hna : (a.kind.toList == [78,105,108])=false:=by
     have:=hn.1.2
     simpa using this
    have hnn:=isNil_toPN hg.2.1 hna nm0
    have hn2:=hn.2
    rw [nestedAny,nestedAny,Bool.or_eq_false_iff,Bool.or_eq_false_iff] at hn2
    rw [mt]
    simp only [hl,if_true,hnn,Bool.false_eq_true,if_false]
    generalize hb : bareS n=bn at *
    have hf:=hbr.form
    have hRB:=Lib.hid hbr
    cases hf with
    | nothing=>exact absurd hl (by decide +kernel)
    | leaf k' x' n' h =>
     rw [skind_mk] at hl
     rcases h with ⟨rfl | rfl,-⟩ | ⟨rfl,-⟩ <;> exact absurd hl (by decide +kernel)
    | node k' ks' h _ _ =>
     have : ∀ k ∈ expressions ++ statements,lisK k=false:=by decide +kernel
     rw [skind_mk,this k' h] at hl
     cases hl
    | list k' nl ys hk' hnl he =>
     simp only [skids_mk,skind_mk] at *
     cases ys with
     | nil=>exact ⟨_,rfl,fun h=>by cases h⟩
     | cons y ys =>
      simp only at ho ⊢
      have hy:=he y (by simp)
      obtain ⟨hrt,-⟩:=right_tail hl hRB.out
      have ho1:=sp_said ho
      obtain ⟨o1,m1,e1⟩:=ihm a (by simp) _ hg.2.1 wi hn2.1 nm0 nm ((toPN_pre b _).trans hp) h64 y S op ⟨hy.1,node_nb hy.2⟩ ho1
      have hnt : NB (.mk k' false ⟨#[]⟩ 0 ys):=⟨hrt,by
       rw [skind_mk]
       rcases hk' with rfl | rfl <;> decide +kernel⟩
      obtain ⟨o2,m2,e2⟩:=ihm b (by simp) _ hg.2.2.2 wi hn2.2.1 _ nm hp h64 _ _ _ hnt ho
      simp only [m1,m2]
      exact ⟨_,rfl,fun _=>rfl⟩
 | false =>
 cases h5 : (k.toList == [66,105,110,100,105,110,103]) with
 | true =>
  have hor : (k.toList == [79,114])=false:=by
   rw [show k=⟨#[66,105,110,100,105,110,103]⟩ from beq_lit h5];decide +kernel
  rw [sp_mk] at ho ⊢
  simp only [h1,h2,h3,h4,h5,hor,Bool.or_false,Bool.false_eq_true,if_false,if_true,Bool.and_eq_true,Bool.or_eq_false_iff] at hg hn hp ho ⊢
  match ks,hg,hn,hp,ho,ihm with
  | a :: b :: r,hg,hn,hp,ho,ihm=>simp at hg
  | [],hg,hn,hp,ho,ihm =>
   simp only at hp ho ⊢
   obtain ⟨hc1,hc2⟩:=prefix_idx hp
   rw [mt]
   simp only [decide_eq_true h64,hc1,hc2,beq_self_eq_true,Bool.and_self,if_true,PN.isNul]
   cases hgb : getB S x.toList with
   | none=>exact ⟨_,rfl,fun _=>rfl⟩
   | some old =>
    rw [hgb] at ho
    simp only [Bool.or_eq_false_iff,Bool.not_eq_eq_eq_not,Bool.not_false] at ho
    simp only [ho.2.1.1,ho.2.1.2,mixC_of _ _ ho.2.2,Bool.not_false,Bool.and_self,if_true]
    exact ⟨_,rfl,fun _=>rfl⟩
  | [a],hg,hn,hp,ho,ihm =>
   simp only [Bool.and_eq_true] at hg
   simp only at hp ho ⊢
   obtain ⟨hc1,hc2⟩:=prefix_idx hp
   have hn2:=hn.2
   rw [nestedAny,Bool.or_eq_false_iff] at hn2
   have hnn:=isNil_toPN hg.2.2 (named_not_nil hg.2.1.2) nm0
   have hnu:=(toTree_toPN a _ hg.2.2 nm0).2
   rw [mt]
   simp only [decide_eq_true h64,hc1,hc2,beq_self_eq_true,Bool.and_self,if_true,hnu,hnn,Bool.false_eq_true,if_false]
   cases hgb : getB S x.toList with
   | some old=>rw [hgb] at ho;cases ho
   | none =>
    rw [hgb] at ho
    simp only at ho ⊢
    rw [sp_bare hnb.1] at ho ⊢
    obtain ⟨o,hm,he⟩:=ihm a (by simp) _ hg.2.2 wi hn2.1 nm0 nm ((addName_pre _ _).trans hp) h64 n S op hnb ho
    rw [hm]
    cases hok : (sp a n S op).ok with
    | true =>
     simp only [if_true]
     rw [he hok]
     exact ⟨_,rfl,fun _=>rfl⟩
    | false=>exact ⟨_,rfl,fun h=>by cases h⟩
 | false =>
 cases h6 : (k.toList == [79,114]) with
 | true =>
  have hS : wi=true -> (spOr ks n S op).S=S:=fun hw=>by
   have hb : binds (.mk k x ks)=false:=by
    rw [hw,h6] at hnob
    simpa using hnob
   have:=sp_nobind _ hb n S op
   rw [sp_mk] at this
   simp only [h1,h2,h3,h4,h5,h6,Bool.false_eq_true,if_false,if_true] at this
   rwa [spOr_bare hnb.1] at this
  rw [sp_mk] at ho ⊢
  simp only [h1,h2,h3,h4,h5,h6,Bool.or_false,Bool.or_true,Bool.false_eq_true,if_false,if_true,Bool.and_eq_true,Bool.or_eq_false_iff] at hg hn hp ho ⊢
  rw [spOr_bare hnb.1] at ho ⊢
  obtain ⟨o,hm,he⟩:=link_or h64 ks ihm c hg.1.1 hn.2 nm0 hp n S op hnb ho
  rw [mt,hm]
  simp only
  have : (wi && (spOr ks n S op).S.length != S.length)=false:=by
   cases wi
   ·rfl
   ·rw [hS rfl];simp
  rw [this]
  exact ⟨o,rfl,he⟩
 | false =>
 cases h7 : (k.toList == [78,111,116]) with
 | true =>
  rw [sp_mk] at ho ⊢
  simp only [h1,h2,h3,h4,h5,h6,h7,Bool.or_false,Bool.false_eq_true,if_false,if_true,Bool.and_eq_true,Bool.or_eq_false_iff] at hg hn hp ho ⊢
  match ks,hg,hn,hp,ho,ihm with
  | [],hg,hn,hp,ho,ihm=>simp at hg
  | a :: b :: r,hg,hn,hp,ho,ihm=>simp at hg
  | [a],hg,hn,hp,ho,ihm =>
   simp only [Bool.and_eq_true] at hg
   simp only at ho ⊢
   rw [toPNs_cons,toPNs] at hp ⊢
   have hn2:=hn.2
   rw [nestedAny,Bool.or_eq_false_iff] at hn2
   rw [sp_bare hnb.1] at ho ⊢
   obtain ⟨o,hm,he⟩:=ihm a (by simp) _ hg.2.1 wi hn2.1 nm0 nm hp h64 n S op hnb ho
   rw [mt,h7,if_pos rfl]
   simp only [hm]
   exact ⟨_,rfl,fun _=>rfl⟩
 | false =>
 rw [sp_mk] at ho ⊢
 simp only [h1,h2,h3,h4,h5,h6,h7,Bool.or_false,Bool.false_eq_true,if_false,if_true,Bool.and_eq_true,Bool.or_eq_false_iff] at hg hn hp ho ⊢
 obtain ⟨⟨⟨⟨-,hnk⟩,-⟩,hkl⟩,hga⟩:=hg
 have hlen:=toPNs_len ks nm0
 rw [mt_struct h7,hnk,hlen,hkl]
 simp only [Bool.and_self,if_true]
 cases hpe : peelS n with
 | none =>
  simp only
  exact ⟨_,rfl,fun h=>by cases h⟩
 | some u =>
  rw [hpe] at ho
  obtain ⟨hu,hul⟩:=peel_nb n hnb u hpe
  simp only [hu.2,Bool.false_eq_true,if_false] at ho ⊢
  cases hkk : (u.kind.toList == k.toList) with
  | false =>
   simp only [Bool.false_eq_true,if_false]
   exact ⟨_,rfl,fun h=>by cases h⟩
  | true =>
   rw [hkk] at ho
   simp only [if_true] at ho ⊢
   obtain ⟨g1,g2⟩:=args_nb hu.1 (eq_of_beq hkk) hnk
   have hkl' : ks.length=(args k).length:=eq_of_beq hkl
   obtain ⟨hm,he⟩:=link_args h64 ks ihm _ hga hn.2 nm0 hp u.kids S op u (by omega) (fun j hj hj2=>g2 j hj (by omega)) ho
   rw [hm]
   exact ⟨_,rfl,fun h=>(he h).symm⟩
end Go.Proofs.YtigalkobmfbdaaaGreatDoor
namespace Go.Proofs.YtigalkobmfbdaaaGreatDoor
open Go.RowKit
theorem nodesL_left (ts : List Tree) (ih : ∀ t ∈ ts,∀ n : Int,0 < (nodesF t n).2 -> (nodesF t n).2=n - count t) : ∀ s : Int × Int,0 < (nodesL ts s).2 -> (nodesL ts s).2=s.2 - countAll ts:=by
 induction ts with
 | nil=>intro s h;rw [nodesL,countAll];simp
 | cons t ts iht =>
  intro s h
  rw [nodesL] at h ⊢
  split at h
  ·omega
  ·rename_i hs
   rw [if_neg hs]
   have h1:=iht (fun u hu=>ih u (List.mem_cons_of_mem _ hu)) _ h
   rw [h1] at h ⊢
   simp only at h ⊢
   have h2:=ih t (List.mem_cons_self ..) s.2 (by omega)
   rw [h2,countAll]
   omega
theorem nodesF_left (t : Tree) : ∀ n : Int,0 < (nodesF t n).2 -> (nodesF t n).2=n - count t:=by
 induction t using Tree.ind with | h t ih=>?_
 intro n h
 obtain ⟨k,x,ks⟩:=t
 rw [nodesF] at h ⊢
 simp only [kids_mk] at ih
 have:=nodesL_left ks (fun u hu=>by
  obtain ⟨j,hj,rfl⟩:=List.getElem_of_mem hu
  exact ih j hj) (0,n - 1) h
 simp only at this ⊢
 rw [this,count]
 omega
theorem count_of_nodes {t : Tree} {m : Int} (h : (nodesOf t).1 <= m) (hm : m < 1000) : (count t : Int) <= m:=by
 unfold nodesOf at h
 simp only at h
 have:=nodesF_left t 1000 (by omega)
 omega
theorem first_node {t : Tree} (h : first t=true) : nodeKind t=true:=by
 obtain ⟨k,x,ks⟩:=t
 replace h : (if k.toList == [79,114] then ks.all first else decide (0 < (fields k).length))=true:=by rw [first_eq] at h;exact h
 unfold nodeKind
 simp only [kind_mk]
 by_cases h6 : (k.toList == [79,114])=true
 ·obtain rfl:=beq_lit h6
  simp only [toList_mk]
  decide
 ·rw [if_neg h6,decide_eq_true_eq] at h
  obtain ⟨y,hy,rfl⟩:=fieldsT_key (k:=k) (by intro e;rw [e] at h;simp at h)
  obtain ⟨-,-,-,-,h1,h2,h3,h7,h4,h5⟩:=named_facts y hy
  rw [h1,h2,h3,h4,h5];rfl
structure FairP (p : Tree) (n : Syn) : Prop where
 cnt : count p <= 60
 hg : good p 97=true
 nest : nestedT p false=false
 len : (text 0 p).size <= 700
 right : right n 101 ⟨#[]⟩=true \/ right n 115 ⟨#[]⟩=true
 parts : (countS n : Int) <= 120
 deep : (depthS n : Int) <= 14
 size : sizeS n <= 40000
theorem FairP.nb {p : Tree} {n : Syn} (h : FairP p n) : NB n:=by
 rcases h.right with h | h
 ·exact ⟨⟨101,by decide,_,h⟩,right_nb (by decide) (by decide) h⟩
 ·exact ⟨⟨115,by decide,_,h⟩,right_nb (by decide) (by decide) h⟩
theorem FairP.rz {p : Tree} {n : Syn} (h : FairP p n) : RZ n:=⟨h.nb.1,h.size⟩
theorem FairP.names {p : Tree} {n : Syn} (h : FairP p n) : (namesT p).length <= 64:=by
 have:=namesT_len p
 have:=h.cnt
 omega
theorem FairP.said {p : Tree} {n : Syn} (h : FairP p n) (ho : (sp p n [] false).op=false) : ∃ o,mt (namesT p) false (toPN p []).1 n []=some ((sp p n [] false).ok,o,(sp p n [] false).S):=by
 obtain ⟨o,h,-⟩:=link_all p 97 h.hg false h.nest [] (namesT p) (by rw [toPN_names_nil p h.hg];exact List.prefix_refl _) h.names n [] false h.nb ho
 exact ⟨o,h⟩
theorem names_short (t : Tree) : tame t=true -> ∀ s ∈ namesT t,s.length <= 100:=by
 refine Tree.ind (P:=fun t=>tame t=true -> ∀ s ∈ namesT t,s.length <= 100) ?_ t
 intro t ih ht
 have hk:=tame_kid ht
 have hx:=(tame_sizes ht).2
 obtain ⟨k,x,ks⟩:=t
 simp only [kids_mk,txt_mk] at ih hk hx
 have hl : ∀ (l : List Tree),(∀ t ∈ l,t ∈ ks) -> ∀ acc : Names,(∀ s ∈ acc,s.length <= 100) -> ∀ s ∈ namesTs l acc,s.length <= 100:=by
  intro l
  induction l with
  | nil=>intro _ acc h;rw [namesTs];exact h
  | cons q qs ihq =>
   intro hm acc h
   rw [namesTs_cons]
   refine ihq (fun t ht=>hm t (List.mem_cons_of_mem _ ht)) _ fun s hs=>?_
   rcases mem_foldl_addName.1 hs with hs | hs
   ·exact h s hs
   ·obtain ⟨j,hj,hjq⟩:=List.getElem_of_mem (hm q (by simp))
    have:=ih j hj (hk j hj)
    rw [hjq] at this
    exact this s hs
 have h0:=hl ks (fun t ht=>ht) [] (fun s hs=>absurd hs (by simp))
 intro s hs
 rw [namesT_mk] at hs
 split at hs
 ·rcases mem_addName.1 hs with hs | rfl
  ·exact h0 s hs
  ·rw [size_toList];omega
 ·exact h0 s hs
end Go.Proofs.YtigalkobmfbdaaaGreatDoor
set_option maxRecDepth 100000
set_option maxHeartbeats 4000000
namespace Go.Proofs.YtigalkobmfbdaaaGreatDoor
open Go.RowKit
def headNil : List Tree -> Bool
 | a :: _=>a.kind.toList == [78,105,108]
 | []=>false
theorem nested_eq (t : Tree) (wi : Bool) : nestedT t wi=((wi && t.kind.toList == [79,114] && binds t) || (t.kind.toList == [76,105,115,116] && t.kids.length == 2 && headNil t.kids) || nestedAny t.kids (wi || t.kind.toList == [79,114])):=by
 obtain ⟨k,x,ks⟩:=t
 rw [nestedT_mk]
 rcases ks with _ | ⟨a,r⟩ <;> rfl
theorem nestedAny_append (l m : List Tree) (wi : Bool) : nestedAny (l ++ m) wi=(nestedAny l wi || nestedAny m wi):=by
 induction l with
 | nil=>rfl
 | cons a l ih=>rw [List.cons_append,nestedAny,nestedAny,ih,Bool.or_assoc]
theorem nestedAny_take (ks : List Tree) (wi : Bool) (j : Nat) (h : j < ks.length) (h0 : nestedAny (ks.take j) wi=false) : nestedAny (ks.take (j + 1)) wi=nestedT ks[j] wi:=by
 rw [List.take_succ_eq_append_getElem h,nestedAny_append,h0]
 simp [nestedAny]
theorem nestedAny_get (ks : List Tree) (wi : Bool) (j : Nat) (h : j < ks.length) (h0 : nestedT ks[j] wi=true) : nestedAny ks wi=true:=by
 have e : ks=ks.take j ++ ks.drop j:=(List.take_append_drop j ks).symm
 rw [e,nestedAny_append,List.drop_eq_getElem_cons h,nestedAny,h0]
 simp
theorem nested_calls (t : Tree) : ∀ (wi : Bool) (a : Option Addr) (c : Nat) (w : World),TreeAt w a c t -> Calls Tryz.prog 60 #[treeV t a c,.bool wi] w fun e w'=>e=.returned (.bool (nestedT t wi)) /\ Ext w w':=by
 induction t using Tree.ind with | h t ih=>?_
 intro wi a c w hT
 have HC:=Lib.hid (nested_eq t wi)
 have HT:=Lib.hid hT
 have hKc:=hT.kids
 have hbx:=Blk.new w #[.string t.kind,.string t.text,.slice a t.kids.length c] 24
 have KX:=Lib.hid hbx
 clear hT hbx
 go_enter Tryz.func60,Tryz.ntmps60
 have KE : Hid (Ext w (w.alloc (.cells #[.string t.kind,.string t.text,.slice a t.kids.length c] 24))):=Lib.hid (Ext.alloc _ _)
 have b3:=Blk3 KX.out
 have bl:=KX.out.lt
 have bf:=KX.out.frozen
 obtain ⟨cs,HCS⟩ : ∃ cs : Array Value,Hid (cs=#[.string t.kind,.string t.text,.slice a t.kids.length c]):=⟨_,Lib.hid rfl⟩
 cases h1 : (t.kind.toList == [79,114])
 focus
  have H1:=Lib.hid h1
  obtain ⟨W,HW⟩ : ∃ W : Bool,Hid (W=wi):=⟨_,Lib.hid rfl⟩
  cases h2 : (t.kind.toList == [76,105,115,116])
  focus
   have HF : Hid (nestedT t wi=nestedAny t.kids W):=Lib.hid (by rw [HC.out,h1,h2,HW.out];simp)
   cases wi
  rotate_left 2
  focus
   cases h3 : ((t.kids.length : Int) == 2)
   focus
    have HF : Hid (nestedT t wi=nestedAny t.kids W):=Lib.hid (by
     have h3' : (t.kids.length == 2)=false:=by
      cases e : (t.kids.length == 2) with
      | false=>rfl
      | true=>rw [beq_iff_eq] at e;rw [e] at h3;simp at h3
     rw [HC.out,h1,h3',HW.out];simp)
    cases wi
   rotate_left 2
   focus
    have HL : Hid (t.kids.length=2):=Lib.hid (by rw [beq_iff_eq] at h3;omega)
    have h0 : 0 < t.kids.length:=by rw [HL.out];omega
    obtain ⟨b,o,a',c',rfl,hbl,p0,p1,p2,hkt⟩:=HT.out.kid 0 h0
    simp only [Nat.zero_mul,Nat.add_zero] at p0 p1 p2
    replace p0:=KE.out.keep p0
    have hbl1:=Nat.lt_of_lt_of_le hbl KE.out.size
    have hh : headNil t.kids=(t.kids[0].kind.toList == [78,105,108]):=by
     obtain ⟨a,b,e⟩ : ∃ a b,t.kids=a :: b:=by
      cases e : t.kids with
      | nil=>rw [e] at h0;simp at h0
      | cons a b=>exact ⟨a,b,rfl⟩
     simp only [e];rfl
    have HH:=Lib.hid hh
    clear hh p1 p2
    cases h5 : (t.kids[0].kind.toList == [78,105,108])
    focus
     have HF : Hid (nestedT t wi=nestedAny t.kids W):=Lib.hid (by rw [HC.out,h1,h2,HL.out,HH.out,h5,HW.out];simp)
     cases wi
    rotate_left 2
    focus
     have HF : Hid (nestedT t wi=true):=Lib.hid (by rw [HC.out,h1,h2,HL.out,HH.out,h5];simp)
     cases wi
     all_goals
      go_wp2_with fail
      go_ret
      exact ⟨ret_bool HF.out.symm,KE.out⟩
 rotate_left 6
 focus
  have h2 : (t.kind.toList == [76,105,115,116])=false:=by rw [show t.kind=⟨#[79,114]⟩ from beq_lit h1];decide +kernel
  have H1:=Lib.hid (And.intro h1 h2)
  obtain ⟨W,HW⟩ : ∃ W : Bool,Hid (W=true):=⟨_,Lib.hid rfl⟩
  cases wi
  focus
   have HF : Hid (nestedT t false=nestedAny t.kids W):=Lib.hid (by rw [HC.out,H1.out.1,H1.out.2,HW.out];simp)
  rotate_left 1
  focus
   go_wp2_with fail
   refine (binds_calls t a c _ (HT.out.mono (Ext.alloc _ _))).mono ?_
   rintro e w1 ⟨rfl,hE1⟩
   have hb:=KX.out.ext hE1
   have KE1:=Lib.hid (KE.out.trans hE1)
   clear b3 bl bf hE1 KE KX
   rename Hid (Ext w w1)=>KE
   have KX:=Lib.hid hb
   have b3:=Blk3 hb
   have bl:=hb.lt
   have bf:=hb.frozen
   clear hb
   cases h4 : binds t
   focus
    have HF : Hid (nestedT t true=nestedAny t.kids W):=Lib.hid (by rw [HC.out,H1.out.1,H1.out.2,h4,HW.out];rfl)
   rotate_left 1
   focus
    have HF : Hid (nestedT t true=true):=Lib.hid (by rw [HC.out,H1.out.1,h4];rfl)
    go_wp2_with fail
    go_ret
    exact ⟨ret_bool HF.out.symm,KE.out⟩
 all_goals
  go_wp2_with fail
  go_loopw [39] (fun i wr=>∃ j : Nat,i=.int .i64 j /\ j <= t.kids.length /\ nestedAny (t.kids.take j) W=false /\ Ext w wr /\ Blk wr w.heap.size cs 24) (fun i _=>t.kids.length - (intOf i).toNat)
  case atStart=>exact ⟨0,rfl,Nat.zero_le _,rfl,KE.out,by rw [HCS.out];exact KX.out⟩
  case round =>
   obtain ⟨j,rfl,hj,hca,hE,hB⟩:=hrel
   obtain rfl:=HW.out
   have HB:=Lib.hid hB
   rw [HCS.out] at hB
   have d3:=Blk3 hB
   have dl:=hB.lt
   have df:=hB.frozen
   have HA:=Lib.hid hca
   have KR:=Lib.hid hE
   clear hca hE hB
   by_cases hlt : j < t.kids.length
   ·obtain ⟨b,o,a',c',e0,hbl,p0,p1,p2,hkt⟩:=HT.out.kid j hlt
    first
     | subst e0
     | (simp only [Option.some.injEq,Addr.mk.injEq,and_true] at e0;obtain ⟨e1,e2⟩:=e0;subst e1;subst e2)
    replace p0:=KR.out.keep p0
    replace p1:=KR.out.keep p1
    replace p2:=KR.out.keep p2
    have hbl1:=Nat.lt_of_lt_of_le hbl KR.out.size
    have HI:=Lib.hid (fun wi=>ih j hlt wi a' c')
    have HK:=Lib.hid hkt
    clear hkt
    have HG:=Lib.hid hlt
    go_wp2_with fail
    refine (HI.out _ _ (HK.out.mono (KR.out.trans (Ext.alloc _ _)))).mono ?_
    rintro e w3 ⟨rfl,hE3⟩
    have KE3:=Lib.hid ((KR.out.trans (Ext.alloc _ _)).trans hE3)
    have HE3:=Lib.hid hE3
    clear hE3
    generalize h5 : nestedT t.kids[j] _=r
    have H5:=Lib.hid h5
    clear h5
    cases r
    ·go_wp2_with fail
     exact ⟨⟨j + 1,by go_num,by omega,by rw [nestedAny_take _ _ _ hlt HA.out];exact H5.out,KE3.out,(HB.out.ext (Ext.alloc _ _)).ext HE3.out⟩,by simp [intOf];omega⟩
    ·go_wp2_with fail
     go_ret
     exact ⟨ret_bool (by rw [HF.out];exact (nestedAny_get _ _ _ HG.out H5.out).symm),KE3.out⟩
   ·obtain rfl : j=t.kids.length:=by omega
    rw [List.take_length] at HA
    go_wp2_with fail
    go_ret
    exact ⟨ret_bool (by rw [HF.out,HA.out]),KR.out⟩
end Go.Proofs.YtigalkobmfbdaaaGreatDoor
set_option maxRecDepth 100000
set_option maxHeartbeats 4000000
namespace Go.Proofs.YtigalkobmfbdaaaGreatDoor
open Go.RowKit Go.WideMaps
theorem fair_calls (p : Tree) (n : Syn) {X : Nat -> Prop} (a : Option Addr) (c : Nat) (a' : Option Addr) (c' : Nat) (w : World) (hT : TreeAt w a c p) (hS : SynIn X w a' c' n) :
  Calls Tryz.prog 35 #[treeV p a c,synV n a' c'] w fun e w'=>BoolRes (FairP p n) e /\ Ext w w':=by
 have HT:=Lib.hid (And.intro hT hS)
 have hE1:=Ext.alloc w (.cells #[.string p.kind,.string p.text,.slice a p.kids.length c] 24)
 have hE2:=Ext.alloc (w.alloc (.cells #[.string p.kind,.string p.text,.slice a p.kids.length c] 24)) (.cells (synC n a' c') 52)
 have hB1:=(Blk.new w #[.string p.kind,.string p.text,.slice a p.kids.length c] 24).ext hE2
 have hB2:=Blk.second w (.cells #[.string p.kind,.string p.text,.slice a p.kids.length c] 24) (synC n a' c') 52
 have K0:=Lib.hid (And.intro hB1 (And.intro hB2 (hE1.trans hE2)))
 clear hT hS hE1 hE2 hB1 hB2
 go_enter Tryz.func35,Tryz.ntmps35
 go_wp2_with fail
 refine (nodesOf_calls p a c _ (HT.out.1.mono K0.out.2.2)).mono ?_
 rintro e w1 ⟨rfl,hE1⟩
 have K1:=Lib.hid (And.intro (K0.out.1.ext hE1) (And.intro (K0.out.2.1.ext hE1) (K0.out.2.2.trans hE1)))
 clear hE1
 obtain ⟨p0,p1,p2⟩:=Blk3 K1.out.1
 obtain ⟨q0,q1,q2,q3,q4⟩:=Blk5 K1.out.2.1
 have pl:=cell_lt p0
 have ql:=cell_lt q0
 obtain ⟨n1,n2,hn⟩ : ∃ n1 n2,nodesOf p=(n1,n2):=⟨_,_,rfl⟩
 rw [hn]
 have HN:=Lib.hid hn
 clear hn
 go_wp2_with fail
 refine (partsOf_calls n _ _ _ (HT.out.2.mono K1.out.2.2)).mono ?_
 rintro e w2 ⟨rfl,hE2⟩
 have K2:=Lib.hid (And.intro (K1.out.1.ext hE2) (And.intro (K1.out.2.1.ext hE2) (K1.out.2.2.trans hE2)))
 clear hE2 p0 p1 p2 pl q0 q1 q2 q3 q4 ql
 obtain ⟨p0,p1,p2⟩:=Blk3 K2.out.1
 obtain ⟨q0,q1,q2,q3,q4⟩:=Blk5 K2.out.2.1
 have pl:=cell_lt p0
 have ql:=cell_lt q0
 obtain ⟨n3,n4,hn⟩ : ∃ n3 n4,partsOf n=(n3,n4):=⟨_,_,rfl⟩
 rw [hn]
 have HN2:=Lib.hid hn
 clear hn
 by_cases h0 : n1 <= 60
 case neg =>
  have h' : (60 : Int) < n1:=by omega
  go_wp2_with fail
  go_ret
  exact ⟨⟨false,rfl,fun h=>by cases h⟩,K2.out.2.2⟩
 by_cases h1 : n2 <= 10
 case neg =>
  have h' : (10 : Int) < n2:=by omega
  go_wp2_with fail
  go_ret
  exact ⟨⟨false,rfl,fun h=>by cases h⟩,K2.out.2.2⟩
 by_cases h2 : n3 <= 120
 case neg =>
  have h' : (120 : Int) < n3:=by omega
  go_wp2_with fail
  go_ret
  exact ⟨⟨false,rfl,fun h=>by cases h⟩,K2.out.2.2⟩
 by_cases h3 : n4 <= 14
 case neg =>
  have h' : (14 : Int) < n4:=by omega
  go_wp2_with fail
  go_ret
  exact ⟨⟨false,rfl,fun h=>by cases h⟩,K2.out.2.2⟩
 have HF0 : Hid (count p <= 60 /\ (countS n : Int) <= 120 /\ (depthS n : Int) <= 14 /\ sizeS n <= 40000):=Lib.hid (by
  have g1:=HN.out
  have g2:=HN2.out
  have:=count_of_nodes (t:=p) (m:=60) (by rw [g1];exact h0) (by omega)
  exact ⟨by omega,parts_fit (t:=n) (m:=120) (d:=14) (by rw [g2];exact h2) (by rw [g2];exact h3) (by omega)⟩)
 go_wp2_with fail
 refine (good_calls p 97 a c _ (HT.out.1.mono K2.out.2.2)).mono ?_
 rintro e w3 ⟨rfl,hE3⟩
 have K3:=Lib.hid (And.intro (K2.out.1.ext hE3) (And.intro (K2.out.2.1.ext hE3) (K2.out.2.2.trans hE3)))
 clear hE3 p0 p1 p2 pl q0 q1 q2 q3 q4 ql
 obtain ⟨p0,p1,p2⟩:=Blk3 K3.out.1
 obtain ⟨q0,q1,q2,q3,q4⟩:=Blk5 K3.out.2.1
 have pl:=cell_lt p0
 have ql:=cell_lt q0
 cases hg : good p 97 with
 | false =>
  go_wp2_with fail
  go_ret
  exact ⟨⟨false,rfl,fun h=>by cases h⟩,K3.out.2.2⟩
 | true =>
 have HG:=Lib.hid hg
 clear hg
 go_wp2_with fail
 refine (nested_calls p false a c _ (HT.out.1.mono K3.out.2.2)).mono ?_
 rintro e w4 ⟨rfl,hE4⟩
 have K4:=Lib.hid (And.intro (K3.out.1.ext hE4) (And.intro (K3.out.2.1.ext hE4) (K3.out.2.2.trans hE4)))
 clear hE4 p0 p1 p2 pl q0 q1 q2 q3 q4 ql
 obtain ⟨p0,p1,p2⟩:=Blk3 K4.out.1
 obtain ⟨q0,q1,q2,q3,q4⟩:=Blk5 K4.out.2.1
 have pl:=cell_lt p0
 have ql:=cell_lt q0
 cases hg : nestedT p false with
 | true =>
  go_wp2_with fail
  go_ret
  exact ⟨⟨false,rfl,fun h=>by cases h⟩,K4.out.2.2⟩
 | false =>
 have HNe:=Lib.hid hg
 clear hg
 go_wp2_with fail
 refine (text_calls p 0 (good_tame p 97 HG.out) (by have:=HF0.out.1;omega) a c _ (HT.out.1.mono K4.out.2.2)).mono ?_
 rintro e w5 ⟨rfl,hE5⟩
 have K5:=Lib.hid (And.intro (K4.out.1.ext hE5) (And.intro (K4.out.2.1.ext hE5) (K4.out.2.2.trans hE5)))
 clear hE5 p0 p1 p2 pl q0 q1 q2 q3 q4 ql
 obtain ⟨p0,p1,p2⟩:=Blk3 K5.out.1
 obtain ⟨q0,q1,q2,q3,q4⟩:=Blk5 K5.out.2.1
 have pl:=cell_lt p0
 have ql:=cell_lt q0
 obtain ⟨x,hx⟩ : ∃ x,text 0 p=x:=⟨_,rfl⟩
 have hz:=(text_size 0 p (good_tame p 97 HG.out)).1
 have hz2:=HF0.out.1
 rw [hx] at hz ⊢
 have HX:=Lib.hid hx
 have hz3 : x.size <= 4000:=by omega
 clear hx hz hz2
 by_cases h5 : x.size <= 700
 case neg =>
  have h' : (700 : Int) < x.size:=by omega
  go_wp2_with fail
  go_ret
  exact ⟨⟨false,rfl,fun h=>by cases h⟩,K5.out.2.2⟩
 have h6 : (x.size : Int) <= 700:=by omega
 go_wp2_with fail
 refine (right_all n 101 (by decide) ⟨#[]⟩ _ _ _ _ (HT.out.2.mono K5.out.2.2)).mono ?_
 rintro e w6 ⟨⟨rb,rfl,hrb⟩,hE6⟩
 have HR1:=Lib.hid hrb
 clear hrb
 have K6:=Lib.hid (And.intro (K5.out.1.ext hE6) (And.intro (K5.out.2.1.ext hE6) (K5.out.2.2.trans hE6)))
 clear hE6 p0 p1 p2 pl q0 q1 q2 q3 q4 ql
 obtain ⟨p0,p1,p2⟩:=Blk3 K6.out.1
 obtain ⟨q0,q1,q2,q3,q4⟩:=Blk5 K6.out.2.1
 have pl:=cell_lt p0
 have ql:=cell_lt q0
 have HFin : Hid (right n 101 ⟨#[]⟩=true \/ right n 115 ⟨#[]⟩=true -> FairP p n):=Lib.hid fun h=>⟨HF0.out.1,HG.out,HNe.out,by rw [HX.out];exact h5,h,HF0.out.2.1,HF0.out.2.2.1,HF0.out.2.2.2⟩
 cases rb with
 | true =>
  go_wp2_with fail
  go_ret
  exact ⟨⟨true,rfl,fun _=>HFin.out (.inl (HR1.out (by first | rfl | trivial)))⟩,K6.out.2.2⟩
 | false =>
 go_wp2_with fail
 refine (right_all n 115 (by decide) ⟨#[]⟩ _ _ _ _ (HT.out.2.mono K6.out.2.2)).mono ?_
 rintro e w7 ⟨⟨rb,rfl,hrb⟩,hE7⟩
 have HR2:=Lib.hid hrb
 have KE:=Lib.hid (K6.out.2.2.trans hE7)
 clear hrb hE7 p0 p1 p2 pl q0 q1 q2 q3 q4 ql
 go_wp2_with fail
 go_ret
 exact ⟨⟨rb,rfl,fun h=>HFin.out (.inr (HR2.out h))⟩,KE.out⟩
end Go.Proofs.YtigalkobmfbdaaaGreatDoor
