/- What a field holds; is a part a node, is it a list? -/
import Derived.Test.YtigalkobmfbdaaaGreatDoorPtr1Z2
import Derived.Test.YtigalkobmfbdaaaGreatDoorMix2h
import Derived.Test.YtigalkobmfbdaaaGreatDoorMix2j
import Derived.Test.YtigalkobmfbdaaaGreatDoorMix2k
set_option linter.unusedVariables false
set_option linter.unusedSimpArgs false
set_option maxRecDepth 100000
set_option maxHeartbeats 1000000
namespace Go.Proofs.YtigalkobmfbdaaaGreatDoor
open Go.RowKit
theorem PtrIn.blk {X : Nat -> Prop} {w : World} {v : Value} {t : Syn} (h : PtrIn X w v t) (hk : t.kind.toList ≠ []) :
  ∃ b a c,v=.pointer (some ⟨b,0,none⟩) /\ X b /\ b < w.heap.size /\ w.cell? ⟨b,0,none⟩=some (.string t.kind) /\ w.cell? ⟨b,1,none⟩=some (.bool t.null) /\ w.cell? ⟨b,2,none⟩=some (.string t.text) /\ w.cell? ⟨b,3,none⟩=some (.int .i64 t.num) /\ w.cell? ⟨b,4,none⟩=some (.slice a t.kids.length c) /\ t.kids.length <= c /\ PtrsIn X w a t.kids:=by
 cases t
 rw [PtrIn] at h
 obtain ⟨b,a,c,e,hb,h0,h1,h2,h3,h4,hc,hP⟩:=h.2 hk
 exact ⟨b,a,c,e,hb,cell_lt h0,h0,h1,h2,h3,h4,hc,hP⟩
theorem PtrIn.nil {X : Nat -> Prop} {w : World} {v : Value} {t : Syn} (h : PtrIn X w v t) (hk : t.kind.toList=[]) : v=.pointer none:=by
 cases t
 rw [PtrIn] at h
 exact h.1 hk
theorem zfields_small (k : ByteArray) : (zfields k).length <= 5:=by
 have h : ∀ x ∈ zfieldsT,x.2.length <= 5:=by decide +kernel
 rcases sw_cases k zfieldsT [] with ⟨e,-⟩ | ⟨x,hx,-,e⟩
 ·have e' : zfields k=[]:=e
  rw [e'];simp
 ·have e' : zfields k=x.2:=e
  rw [e'];exact h x hx
theorem zz_field {w : World} {b g o j m c : Nat} {k nm : ByteArray} {p : Option Addr} (h0 : w.cell? ⟨b,0,none⟩=some (.string k)) (h4 : w.cell? ⟨b,4,none⟩=some (.slice (some ⟨g,o,none⟩) m c)) (hmc : m <= c) (hm : m <= 100000) (hj : j < m)
  (hv : w.cell? ⟨g,o + j,none⟩=some (.pointer p)) (hf : (zfields k)[j]?=some nm) (hn : ∀ i < j,(zfields k)[i]? ≠ some nm) :
  Calls Tryz.prog 123 #[.pointer (some ⟨b,0,none⟩),.string nm] w fun e w'=>e=.returned (.pointer p) /\ Ext w w':=by
 have lt0:=cell_lt h0
 have HZ:=Lib.hid (zfields_calls k)
 have hzs:=zfields_small k
 have HF:=Lib.hid (And.intro hf hn)
 clear hf hn
 generalize zfields k=fs at *
 go_enter Tryz.func123,Tryz.ntmps123
 go_wp2_with fail
 refine (HZ.out _).mono ?_
 rintro e w1 ⟨fa,fc,rfl,hfc,hfc2,hfs,hE1⟩
 have HS:=Lib.hid hfs
 replace h4:=hE1.keep h4
 replace hv:=hE1.keep hv
 replace lt0:=Nat.lt_of_lt_of_le lt0 hE1.size
 have HE:=Lib.hid hE1
 clear hE1 hfs h0
 go_wp2_with fail
 go_loopw [13] (fun i wr=>∃ j0 : Nat,i=.int .i64 j0 /\ j0 <= j /\ wr=w1) (fun i _=>j - (intOf i).toNat)
 case atStart=>exact ⟨0,rfl,Nat.zero_le _,rfl⟩
 case round =>
  obtain ⟨j0,rfl,hj0,rfl⟩:=hrel
  obtain ⟨hlen,hget⟩:=List.getElem?_eq_some_iff.1 HF.out.1
  have hlt : j0 < fs.length:=by omega
  obtain ⟨fb,fo,rfl,hfb,hfcell⟩:=HS.out j0 hlt
  by_cases he : j0=j
  ·obtain rfl:=he
   rw [hget] at hfcell
   clear hget
   go_wp2_with fail
   go_ret
   exact ⟨rfl,HE.out⟩
  ·have hne : (fs[j0].toList == nm.toList)=false:=by
    cases h : (fs[j0].toList == nm.toList) with
    | false=>rfl
    | true=>exact absurd (by rw [List.getElem?_eq_getElem hlt,toList_inj (eq_of_beq h)]) (HF.out.2 j0 (by omega))
   have hlt2 : j0 < j:=by omega
   clear hget he
   go_wp2_with fail
   exact ⟨⟨j0 + 1,by go_num,by omega,by trivial⟩,by simp [intOf];omega⟩
theorem zfields_val (k : ByteArray) (w : World) : Calls Tryz.prog 145 #[.string k] w fun e w'=>e=.returned (strsV w (zfields k)).1 /\ w'=(strsV w (zfields k)).2:=by
 have h : callK Tryz.prog Tryz.f145 #[.string k] w=some ((strsV w (zfields k)).1,(strsV w (zfields k)).2):=(zfields_run k w).trans (sw_map (fun x=>some (strsV w x)) k zfieldsT [])
 exact (callK_sound Tryz.func145 h).mono fun e w' ⟨he,hw⟩=>⟨he,hw.symm⟩
theorem is_node {w : World} {b : Nat} {k : ByteArray} (h0 : w.cell? ⟨b,0,none⟩=some (.string k)) :
  Calls Tryz.prog 127 #[.pointer (some ⟨b,0,none⟩)] w fun e w'=>e=.returned (.bool (zfields k != [])) /\ Ext w w':=by
 have lt0:=cell_lt h0
 have HZ:=Lib.hid (zfields_val k w)
 generalize zfields k=fs at *
 cases fs with
 | nil =>
  go_enter Tryz.func127,Tryz.ntmps127
  go_wp2_with fail
  refine HZ.out.mono ?_
  rintro e w1 ⟨rfl,rfl⟩
  simp only [strsV]
  go_wp2_with fail
  go_ret
  exact ⟨rfl,Ext.refl _⟩
 | cons x l =>
  go_enter Tryz.func127,Tryz.ntmps127
  go_wp2_with fail
  refine HZ.out.mono ?_
  rintro e w1 ⟨rfl,rfl⟩
  simp only [strsV]
  go_wp2_with fail
  go_ret
  exact ⟨rfl,Ext.alloc _ _⟩
theorem is_list {w : World} {b : Nat} {k : ByteArray} (h0 : w.cell? ⟨b,0,none⟩=some (.string k)) (hk : k.size <= 100000) :
  Calls Tryz.prog 147 #[.pointer (some ⟨b,0,none⟩)] w fun e w'=>e=.returned (.bool (decide (2 < k.size) && (k.extract 0 2).toList == [91,93])) /\ w'=w:=by
 have lt0:=cell_lt h0
 by_cases h2 : 2 < k.size
 ·have h2' : (2 : Int) < (k.size : Int):=by omega
  rw [decide_eq_true h2,Bool.true_and]
  generalize hb : ((k.extract 0 2).toList == [91,93])=bb
  cases bb <;>
  ·go_enter Tryz.func147,Tryz.ntmps147
   go_wp2_with fail
   go_ret
   exact ⟨rfl,rfl⟩
 ·have h2' : ¬ (2 : Int) < (k.size : Int):=by omega
  rw [decide_eq_false h2,Bool.false_and]
  go_enter Tryz.func147,Tryz.ntmps147
  go_wp2_with fail
  go_ret
  exact ⟨rfl,rfl⟩
end Go.Proofs.YtigalkobmfbdaaaGreatDoor
namespace Go.Proofs.YtigalkobmfbdaaaGreatDoor
open Go.RowKit
theorem nul_form {t : Syn} (h : RS t) (hk : (t.kind.toList == [])=true) : t=nulS:=by
 have hf : Form t:=h.form
 clear h
 cases hf with
 | nothing=>rfl
 | leaf k x n h =>
  rw [skind_mk] at hk
  rcases h with ⟨rfl | rfl,-⟩ | ⟨rfl,-⟩ <;> exact absurd hk (by decide +kernel)
 | list k nl ks h =>
  rw [skind_mk] at hk
  rcases h with rfl | rfl <;> exact absurd hk (by decide +kernel)
 | node k ks hk' =>
  rw [skind_mk,(kind_ok k hk').1] at hk
  cases hk
inductive Pair : Syn -> Syn -> Prop where
 | lists (k : ByteArray) (nl nl' : Bool) (xs ys : List Syn) : (k=⟨#[91,93,69,120,112,114]⟩ \/ k=⟨#[91,93,83,116,109,116]⟩) -> (∀ t ∈ xs,RS t /\ nodeK t.kind=true) -> (∀ t ∈ ys,RS t /\ nodeK t.kind=true) -> Pair (.mk k nl ⟨#[]⟩ 0 xs) (.mk k nl' ⟨#[]⟩ 0 ys)
 | text (k x y : ByteArray) : (k=⟨#[84,111,107,101,110]⟩ \/ k=⟨#[115,116,114,105,110,103]⟩) -> Pair (.mk k false x 0 []) (.mk k false y 0 [])
 | bool (m n : Int) : Pair (.mk ⟨#[98,111,111,108]⟩ false ⟨#[]⟩ m []) (.mk ⟨#[98,111,111,108]⟩ false ⟨#[]⟩ n [])
 | other (x y : Syn) : (x.kind.toList=[] \/ nodeK x.kind=true) -> (y.kind.toList=[] \/ nodeK y.kind=true) -> Pair x y
theorem list_form {k : ByteArray} {nl : Bool} {x : ByteArray} {n : Int} {ks : List Syn} {of : ByteArray} {c : Int} (hc : c=108 \/ c=109) (h : right (.mk k nl x n ks) c of=true) : (k=if c=108 then ⟨#[91,93,69,120,112,114]⟩ else ⟨#[91,93,83,116,109,116]⟩) /\ x=⟨#[]⟩ /\ n=0 /\ ∀ t ∈ ks,RS t /\ nodeK t.kind=true:=by
 rcases hc with rfl | rfl
 ·obtain ⟨hnl,hk,⟨hx,rfl⟩,ha⟩:=rs_l h
  refine ⟨beq_lit hk,nil_bytes hx,rfl,fun t ht=>?_⟩
  obtain ⟨j,hj,rfl⟩:=List.getElem_of_mem ht
  have hr:=rightAll_get _ _ ha j hj
  exact ⟨⟨101,by decide,_,hr⟩,nodeK_of (right_kind (.inl rfl) hr)⟩
 ·obtain ⟨hnl,hk,⟨hx,rfl⟩,ha⟩:=rs_m h
  refine ⟨beq_lit hk,nil_bytes hx,rfl,fun t ht=>?_⟩
  obtain ⟨j,hj,rfl⟩:=List.getElem_of_mem ht
  have hr:=rightAll_get _ _ ha j hj
  exact ⟨⟨115,by decide,_,hr⟩,nodeK_of (right_kind (.inr rfl) hr)⟩
def flatL (c : Int) : Bool:=c == 116 || c == 110 || c == 98 || c == 108 || c == 109
theorem other_kind {t : Syn} {c : Int} {of : ByteArray} (hc : c ∈ letters) (hf : flatL c=false) (h : right t c of=true) : t.kind.toList=[] \/ nodeK t.kind=true:=by
 obtain ⟨k,nl,x,n,ks⟩:=t
 rw [skind_mk]
 by_cases hk : (k.toList == [])=true
 ·exact .inl (eq_of_beq hk)
 refine .inr ?_
 have hk' : (k.toList == [])=false:=by simpa using hk
 have he : right (.mk k nl x n ks) 101 of=true -> nodeK k=true:=fun h=>nodeK_of (List.mem_append_left _ (fits_101 (rs_node (.inl rfl) h).2.1))
 have hs : right (.mk k nl x n ks) 115 of=true -> nodeK k=true:=fun h=>nodeK_of (List.mem_append_right _ (fits_115 (rs_node (.inr (.inl rfl)) h).2.1))
 simp only [letters,List.mem_cons,List.not_mem_nil,or_false] at hc
 rcases hc with rfl | rfl | rfl | rfl | rfl | rfl | rfl | rfl | rfl | rfl | rfl | rfl
 ·cases hf
 ·cases hf
 ·cases hf
 ·cases hf
 ·cases hf
 ·rw [right_low_69 _ _ _ _ _ _ hk'] at h;exact he h
 ·rw [right_low_83 _ _ _ _ _ _ hk'] at h;exact hs h
 ·exact he h
 ·exact hs h
 ·rw [fits_105 (rs_node (.inr (.inr (.inl rfl))) h).2.1];decide +kernel
 ·rw [fits_99 (rs_node (.inr (.inr (.inr (.inl rfl)))) h).2.1];decide +kernel
 ·rw [fits_66 (rs_node (.inr (.inr (.inr (.inr rfl)))) h).2.1];decide +kernel
theorem pair_of {x y : Syn} {c : Int} {of of' : ByteArray} (hc : c ∈ letters) (hx : right x c of=true) (hy : right y c of'=true) : Pair x y:=by
 cases hf : flatL c with
 | false=>exact .other x y (other_kind hc hf hx) (other_kind hc hf hy)
 | true =>
  obtain ⟨k,nl,a,n,ks⟩:=x
  obtain ⟨k',nl',a',n',ks'⟩:=y
  unfold flatL at hf
  simp only [Bool.or_eq_true,beq_iff_eq] at hf
  rcases hf with (((rfl | rfl) | rfl) | rfl) | rfl
  ·obtain ⟨rfl,hk,hn,hks,-⟩:=rs_t hx
   obtain ⟨rfl,hk',hn',hks',-⟩:=rs_t hy
   obtain rfl:=beq_lit hk
   obtain rfl:=beq_lit hk'
   obtain rfl:=nil_of hks
   obtain rfl:=nil_of hks'
   obtain rfl:=eq_of_beq hn
   obtain rfl:=eq_of_beq hn'
   exact .text _ _ _ (.inl rfl)
  ·obtain ⟨rfl,hk,hn,hks,-⟩:=rs_n hx
   obtain ⟨rfl,hk',hn',hks',-⟩:=rs_n hy
   obtain rfl:=beq_lit hk
   obtain rfl:=beq_lit hk'
   obtain rfl:=nil_of hks
   obtain rfl:=nil_of hks'
   obtain rfl:=eq_of_beq hn
   obtain rfl:=eq_of_beq hn'
   exact .text _ _ _ (.inr rfl)
  ·obtain ⟨rfl,hk,hxx,-,hks⟩:=rs_b hx
   obtain ⟨rfl,hk',hxx',-,hks'⟩:=rs_b hy
   obtain rfl:=beq_lit hk
   obtain rfl:=beq_lit hk'
   obtain rfl:=nil_of hks
   obtain rfl:=nil_of hks'
   obtain rfl:=nil_bytes hxx
   obtain rfl:=nil_bytes hxx'
   exact .bool _ _
  ·obtain ⟨e1,rfl,rfl,h1⟩:=list_form (.inl rfl) hx
   obtain ⟨e2,rfl,rfl,h2⟩:=list_form (.inl rfl) hy
   rw [if_pos rfl] at e1 e2
   subst e1
   subst e2
   exact .lists _ _ _ _ _ (.inl rfl) h1 h2
  ·obtain ⟨e1,rfl,rfl,h1⟩:=list_form (.inr rfl) hx
   obtain ⟨e2,rfl,rfl,h2⟩:=list_form (.inr rfl) hy
   rw [if_neg (by decide)] at e1 e2
   subst e1
   subst e2
   exact .lists _ _ _ _ _ (.inr rfl) h1 h2
theorem zfields_ok : ∀ k ∈ expressions ++ statements,(zfields k).length=(asked k).size /\ ((zfields k).map ByteArray.toList).Nodup:=by decide +kernel
theorem first_field {fs : List ByteArray} (h : (fs.map ByteArray.toList).Nodup) {j : Nat} (hj : j < fs.length) : ∀ i < j,fs[i]? ≠ some fs[j]:=by
 intro i hi e
 have hil : i < fs.length:=by omega
 rw [List.getElem?_eq_getElem hil,Option.some.injEq] at e
 exact List.pairwise_iff_getElem.1 h i j (by simpa using hil) (by simpa using hj) hi (by simp only [List.getElem_map,e])
def CmpR (X : Nat -> Prop) (w : World) (b : Bool) (t : Syn) (e : Ending) : Prop:=∃ p,e=.returned (.tuple #[.pointer p,.bool b]) /\ (b=true -> PtrIn X w (.pointer p) t)
def CmpC (l r : Syn) : Prop:=∀ (X : Nat -> Prop) (mb : Nat) (w : World) (lv rv : Value),w.cell? ⟨mb,3,none⟩=some (.bool false) -> PtrIn X w lv l -> PtrIn X w rv r →
 Calls Tryz.prog 95 #[.pointer (some ⟨mb,0,none⟩),.nilIface,lv,rv] w fun e w'=>CmpR X w' (eqS l r) (bareS r) e /\ Ext w w'
def CmpIH (N : Nat) : Prop:=∀ l r,sizeS l + sizeS r < N -> RS l -> RS r -> leafK l.kind=false -> leafK r.kind=false -> mixC l r=false -> CmpC l r
theorem leaf_of_other {t : Syn} (h : t.kind.toList=[] \/ nodeK t.kind=true) : leafK t.kind=false:=by
 rcases h with h | h
 ·unfold leafK;rw [h];rfl
 ·have hnode : ∀ k ∈ expressions ++ statements,leafK k=false:=by decide +kernel
  exact hnode _ (nodeK_mem h)
theorem ptr_shape {X : Nat -> Prop} {w : World} {v : Value} {t : Syn} (h : PtrIn X w v t) : ∃ p,v=.pointer p:=by
 rcases h.shape with ⟨rfl,-⟩ | ⟨b,rfl,-⟩
 ·exact ⟨_,rfl⟩
 ·exact ⟨_,rfl⟩
theorem eqL_take (xs ys : List Syn) (j : Nat) (h1 : j < xs.length) (h2 : j < ys.length) : eqL (xs.take (j + 1)) (ys.take (j + 1))=(eqL (xs.take j) (ys.take j) && eqS xs[j] ys[j]):=by
 induction xs generalizing ys j with
 | nil=>simp at h1
 | cons x xs ih =>
  cases ys with
  | nil=>simp at h2
  | cons y ys =>
   cases j with
   | zero=>simp [eqL]
   | succ j=>simp only [List.take_succ_cons,eqL,List.getElem_cons_succ,ih ys j (by simpa using h1) (by simpa using h2),Bool.and_assoc]
theorem eqL_no (xs ys : List Syn) (j : Nat) (h1 : j < xs.length) (h2 : j < ys.length) (h : eqS xs[j] ys[j]=false) : eqL xs ys=false:=by
 induction xs generalizing ys j with
 | nil=>simp at h1
 | cons x xs ih =>
  cases ys with
  | nil=>simp at h2
  | cons y ys =>
   cases j with
   | zero=>simp only [List.getElem_cons_zero] at h;simp [eqL,h]
   | succ j=>simp only [eqL,ih ys j (by simpa using h1) (by simpa using h2) (by simpa using h),Bool.and_false]
theorem mixL_no (xs ys : List Syn) (j : Nat) (h1 : j < xs.length) (h2 : j < ys.length) (h : mixL xs ys=false) : mixC xs[j] ys[j]=false:=by
 induction xs generalizing ys j with
 | nil=>simp at h1
 | cons x xs ih =>
  cases ys with
  | nil=>simp at h2
  | cons y ys =>
   rw [mixL,Bool.or_eq_false_iff] at h
   cases j with
   | zero=>exact h.1
   | succ j=>simpa using ih ys j (by simpa using h1) (by simpa using h2) h.2
theorem eqS_list (k : ByteArray) (hk : k=⟨#[91,93,69,120,112,114]⟩ \/ k=⟨#[91,93,83,116,109,116]⟩) (nl nl' : Bool) (xs ys : List Syn) : eqS (.mk k nl ⟨#[]⟩ 0 xs) (.mk k nl' ⟨#[]⟩ 0 ys)=(xs.length == ys.length && eqL xs ys):=by
 have hw : wrapIx k=none:=by rcases hk with rfl | rfl <;> decide +kernel
 rw [eqS_none hw,bareS_none hw]
 simp [stext_mk,snum_mk,skids_mk,skind_mk]
theorem mixC_list (k : ByteArray) (hk : k=⟨#[91,93,69,120,112,114]⟩ \/ k=⟨#[91,93,83,116,109,116]⟩) (nl nl' : Bool) (xs ys : List Syn) : mixC (.mk k nl ⟨#[]⟩ 0 xs) (.mk k nl' ⟨#[]⟩ 0 ys)=mixL xs ys:=by
 have hw : wrapIx k=none:=by rcases hk with rfl | rfl <;> decide +kernel
 have hl : lisK k=true:=by rcases hk with rfl | rfl <;> decide +kernel
 rw [mixC_none hw,bareS_none hw,skind_mk,skids_mk]
 simp [hl]
theorem eqS_leaf (k : ByteArray) (hk : leafK k=true) (x y : ByteArray) (m n : Int) : eqS (.mk k false x m []) (.mk k false y n [])=(x.toList == y.toList && m == n):=by
 have hw : wrapIx k=none:=by
  unfold leafK at hk
  simp only [Bool.or_eq_true] at hk
  rcases hk with (h | h) | h <;> rw [beq_lit h] <;> decide +kernel
 rw [eqS_none hw,bareS_none hw]
 simp [eqL,stext_mk,snum_mk,skids_mk,skind_mk]
end Go.Proofs.YtigalkobmfbdaaaGreatDoor
