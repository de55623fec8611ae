/- What is bound, by its names in ascending order. -/
import Derived.Test.YtigalkobmfbdaaaGreatDoorMix2r
import Derived.Test.YtigalkobmfbdaaaGreatDoorMix2x
import Derived.Sort.KeysCollected
import Derived.Sort.Walk0
import Derived.Laws.Cover1
set_option linter.unusedVariables false
set_option linter.unusedSimpArgs false
namespace Go.Proofs.YtigalkobmfbdaaaGreatDoor
open Go.RowKit Go.WideMaps Go.Sort
theorem eqS_bareR {a b : Syn} (hb : RS b) : eqS a (bareS b)=eqS a b:=by
 induction a using Syn.ind with | h a ih=>?_
 obtain ⟨k,nl,x,n,ks⟩:=a
 cases hw : wrapIx k with
 | none=>rw [eqS_none hw,eqS_none hw,bare_bare hb]
 | some i =>
  by_cases hi : i < ks.length
  ·rw [eqS_wrap hw hi,eqS_wrap hw hi]
   exact ih i hi
  ·have hno : ∀ (ks : List Syn) (i : Nat) (b : Syn),ks.length <= i -> eqAt ks i b=false:=by
    intro ks
    induction ks with
    | nil=>intro i b _;rw [eqAt]
    | cons t ts iht =>
     intro i b h
     cases i with
     | zero=>simp at h
     | succ i=>rw [eqAt];exact iht i b (by simpa using h)
   rw [eqS,eqS,hw]
   simp only
   rw [hno _ _ _ (by omega),hno _ _ _ (by omega)]
theorem RS.kid' {k : ByteArray} {nl : Bool} {x : ByteArray} {n : Int} {ks : List Syn} (h : RS (.mk k nl x n ks)) (j : Nat) (hj : j < ks.length) : RS ks[j]:=by
 cases h.form with
 | nothing=>exact absurd hj (by simp)
 | leaf k x n h=>exact absurd hj (by simp)
 | list k nl ks hk hn he=>exact (he _ (List.getElem_mem hj)).1
 | node k ks hk hl ha=>exact RS.args hl ha j hj
mutual
theorem eqS_refl : ∀ a : Syn,RS a -> eqS a a=true
 | .mk k nl x n ks,ha=>by
  cases hw : wrapIx k with
  | none =>
   have hkids : ∀ t ∈ ks,RS t:=by
    intro t ht
    obtain ⟨j,hj,rfl⟩:=List.getElem_of_mem ht
    exact ha.kid' j hj
   rw [eqS_none hw,bareS_none hw]
   simp only [skind_mk,stext_mk,snum_mk,skids_mk,beq_self_eq_true,Bool.true_and]
   exact eqL_refl ks hkids
  | some i =>
   obtain ⟨k',ks',e,-,hi,hr,-⟩:=ha.form.wrap (by rw [skind_mk];exact hw)
   cases e
   rw [eqS_wrap hw hi,<- eqS_bareR ha,bareS_wrap hw hi,eqS_bareR hr]
   exact eqS_reflAt ks i hi hr
theorem eqS_reflAt : ∀ (ks : List Syn) (i : Nat) (hi : i < ks.length),RS ks[i] -> eqS ks[i] ks[i]=true
 | t :: _,0,_,h=>eqS_refl t h
 | _ :: ts,i + 1,hi,h=>eqS_reflAt ts i (by simpa using hi) (by simpa using h)
theorem eqL_refl : ∀ ks : List Syn,(∀ t ∈ ks,RS t) -> eqL ks ks=true
 | [],_=>by rw [eqL];intro a b c d e;cases e
 | t :: ts,h=>by
  rw [eqL,eqS_refl t (h t (by simp)),eqL_refl ts (fun u hu=>h u (List.mem_cons_of_mem _ hu))]
  rfl
end
theorem Blk6 {w : World} {b : Nat} {c0 c1 c2 c3 c4 c5 : Value} {t : TypeId} (h : Blk w b #[c0,c1,c2,c3,c4,c5] t) : w.cell? ⟨b,0,none⟩=some c0 /\ w.cell? ⟨b,1,none⟩=some c1 /\ w.cell? ⟨b,2,none⟩=some c2 /\ w.cell? ⟨b,3,none⟩=some c3 /\ w.cell? ⟨b,4,none⟩=some c4 /\ w.cell? ⟨b,5,none⟩=some c5 :=
 ⟨by rw [h.cell];rfl,by rw [h.cell];rfl,by rw [h.cell];rfl,by rw [h.cell];rfl,by rw [h.cell];rfl,by rw [h.cell];rfl⟩
theorem BndsX.get {X : Nat -> Prop} {w : World} : ∀ {l : SL} {a : Option Addr} (_ : BndsX X w a l) (j : Nat) (hj : j < l.length),∃ b o k a' c',a=some ⟨b,o,none⟩ /\ k.toList=l[j].1 /\ w.cell? ⟨b,o + j * 6,none⟩=some (.string k) /\ w.cell? ⟨b,o + j * 6 + 1,none⟩=some (.string l[j].2.kind) /\ w.cell? ⟨b,o + j * 6 + 2,none⟩=some (.bool l[j].2.null) /\ w.cell? ⟨b,o + j * 6 + 3,none⟩=some (.string l[j].2.text) /\ w.cell? ⟨b,o + j * 6 + 4,none⟩=some (.int .i64 l[j].2.num) /\ w.cell? ⟨b,o + j * 6 + 5,none⟩=some (.slice a' l[j].2.kids.length c') /\ SynX X w a' c' l[j].2
 | x :: r,a,h,0,_=>by
  obtain ⟨b,o,k,a',c',rfl,-,h1,h2,h3,h4,h5,h6,h7,h8,-⟩:=h
  exact ⟨b,o,k,a',c',rfl,h1,by simpa using h2,by simpa using h3,by simpa using h4,by simpa using h5,by simpa using h6,by simpa using h7,h8⟩
 | x :: r,a,h,j + 1,hj=>by
  obtain ⟨b,o,k,a',c',rfl,-,-,-,-,-,-,-,-,-,hr⟩:=h
  obtain ⟨b',o',k',a'',c'',e,h1,h2,h3,h4,h5,h6,h7,h8⟩:=hr.get j (by simpa using hj)
  cases e
  have e : ∀ i,o + (j + 1) * 6 + i=o + 6 + j * 6 + i:=fun i=>by omega
  simp only [List.getElem_cons_succ]
  exact ⟨b,o,k',a'',c'',rfl,h1,by rw [<- Nat.add_zero (o + (j + 1) * 6),e];exact h2,by rw [e];exact h3,by rw [e];exact h4,by rw [e];exact h5,by rw [e];exact h6,by rw [e];exact h7,h8⟩
theorem sortS_at {S : SL} (j : Nat) (hj : j < (sortS S).length) : getB S (sortS S)[j].1=some (sortS S)[j].2:=by
 have hp : ((S.map Prod.fst).mergeSort fun x y=>decide (x <= y)).Perm (S.map Prod.fst):=List.mergeSort_perm _ _
 have hm : (sortS S)[j].1 ∈ S.map Prod.fst:=by
  refine hp.mem_iff.1 ?_
  simp only [sortS,List.getElem_map]
  exact List.getElem_mem _
 have e : (sortS S)[j].2=(getB S (sortS S)[j].1).getD nulS:=by simp only [sortS,List.getElem_map]
 rw [e]
 cases h : getB S (sortS S)[j].1 with
 | none=>exact absurd hm ((getB_none S _).1 h)
 | some t=>rfl
theorem sortS_lt {S : SL} (hn : (S.map Prod.fst).Nodup) (j : Nat) (hj : j + 1 < (sortS S).length) : (sortS S)[j].1 < (sortS S)[j + 1].1:=by
 have tr : ∀ a b c : List UInt8,leB a b=true -> leB b c=true -> leB a c=true:=fun a b c h1 h2=>by simp only [leB,decide_eq_true_eq] at *;exact List.le_trans h1 h2
 have tot : ∀ a b : List UInt8,(leB a b || leB b a)=true:=fun a b=>by simp only [leB,Bool.or_eq_true,decide_eq_true_eq];exact List.le_total a b
 have hs:=List.pairwise_iff_getElem.1 (List.pairwise_mergeSort tr tot (S.map Prod.fst))
 have hp : ((S.map Prod.fst).mergeSort leB).Perm (S.map Prod.fst):=List.mergeSort_perm _ _
 have hd:=List.pairwise_iff_getElem.1 (hp.nodup_iff.2 hn)
 have h1 : j < ((S.map Prod.fst).mergeSort leB).length:=by rw [hp.length_eq];rw [sortS_len] at hj;simp;omega
 have h2 : j + 1 < ((S.map Prod.fst).mergeSort leB).length:=by rw [hp.length_eq];rw [sortS_len] at hj;simp;omega
 have g1:=hs j (j + 1) h1 h2 (Nat.lt_succ_self j)
 have g2:=hd j (j + 1) h1 h2 (Nat.lt_succ_self j)
 simp only [leB,decide_eq_true_eq] at g1
 have e : ∀ (i : Nat) (hi : i < (sortS S).length) (hi' : i < ((S.map Prod.fst).mergeSort leB).length),(sortS S)[i].1=((S.map Prod.fst).mergeSort leB)[i]:=fun i hi hi'=>by simp only [sortS,List.getElem_map]
 rw [e j (by omega) h1,e (j + 1) hj h2]
 rcases List.le_iff_lt_or_eq.1 g1 with h | h
 ·exact h
 ·exact absurd h g2
theorem names_less {k k' : ByteArray} (h : k'.toList < k.toList) (t : TypeId) : binOp .geq t (.string k') (.string k)=pure (.bool false):=by
 rw [binOp_string_geq,bytesLess_eq,decide_eq_true h]
 rfl
theorem RawMap.len {w : World} {b : Nat} {V : VL} (h : RawMap w b V) {t e : TypeId} (ht : Tryz.prog.underlying t=some (.map 9 e)) (ty : TypeId) : (Builtin.len_ #[t] ty #[.map (some b)]).run Tryz.prog w=.ok (.int .i64 V.length) w:=by
 obtain ⟨D,hO,hD⟩:=h
 rw [hO.len ht ty,hD.1]
theorem bound_look {w w0 : World} {tb : Nat} {V : VL} {S : SL} {nm : Names} (hV : RawMap w tb V) (hR : VR (SynR w0) V S) (hK : Keyed nm S) {k : ByteArray} (hk : k.size <= maxLen) {t : Syn} (hg : getB S k.toList=some t) :
  ∃ a c,SynX (fun _=>True) w0 a c t /\ RZ t /\ ∀ w',Ext w w' -> (Instr.lookup 55 (.map (some tb)) (.string k) true).run Tryz.prog w'=.ok (.tuple #[synV t a c,.bool true]) w':=by
 obtain ⟨v,hv,a,c,rfl,hx⟩:=(hR.get k.toList).2 t hg
 refine ⟨a,c,hx,hK.get hg,fun w' hE=>?_⟩
 have:=look_raw w' (hV.ext hE) under55 (zero52 w') (s:=k) hk
 rw [this,hv]
 rfl
end Go.Proofs.YtigalkobmfbdaaaGreatDoor
