/- The reference's Match, whole: at every good pattern. -/
import Derived.Test.YtigalkobmfbdaaaGreatDoorMix2x
import Derived.Test.YtigalkobmfbdaaaGreatDoorMix2y
import Derived.Test.YtigalkobmfbdaaaGreatDoorMix2z
import Derived.Test.YtigalkobmfbdaaaGreatDoorMix2d
import Derived.Test.YtigalkobmfbdaaaGreatDoorMix2u
set_option linter.unusedVariables false
set_option linter.unusedSimpArgs false
namespace Go.Proofs.YtigalkobmfbdaaaGreatDoor
open Go.RowKit Go.WideMaps
theorem SpG.join {p : Tree} {x : List UInt8} (h1 : SpG p (fun S=>getB S x=none)) (h2 : SpG p (fun S=>(getB S x).isSome=true)) : SpC p:=by
 intro n hr nm h64 hnm S op w0 w mb tb ta tc a c hT hS hM
 cases hg : getB S x with
 | none=>exact h1 n hr nm h64 hnm S op w0 w mb tb ta tc a c hg hT hS hM
 | some o=>exact h2 n hr nm h64 hnm S op w0 w mb tb ta tc a c (by show (getB S x).isSome=true;rw [hg];rfl) hT hS hM
theorem kids_count (t : Tree) : t.kids.length < count t:=by
 obtain ⟨k,x,ks⟩:=t
 rw [kids_mk,count]
 have : ∀ l : List Tree,l.length <= countAll l:=fun l=>by
  induction l with
  | nil=>exact Nat.zero_le _
  | cons t l ih =>
   rw [countAll,List.length_cons]
   have:=count_pos t
   omega
 have:=this ks
 omega
theorem kid_good {t : Tree} {c : Int} (h : good t c=true) : ∀ u ∈ t.kids,∃ c,good u c=true:=by
 obtain ⟨k,x,ks⟩:=t
 intro u hu
 simp only [kids_mk] at hu
 rcases kind_cases k with rfl | rfl | rfl | rfl | rfl | hk
 ·obtain ⟨-,rfl⟩:=good_leaf_parts (.inl rfl) h;cases hu
 ·obtain ⟨-,rfl⟩:=good_leaf_parts (.inr rfl) h;cases hu
 ·obtain ⟨-,rfl,-⟩:=good_string_parts h;cases hu
 ·obtain ⟨-,rfl | ⟨a,b,rfl,ha,-,hb⟩⟩:=good_list_parts h
  ·cases hu
  ·rcases List.mem_cons.1 hu with rfl | hu
   ·exact ⟨_,ha⟩
   ·obtain rfl:=List.mem_singleton.1 hu;exact ⟨_,hb⟩
 ·obtain ⟨-,rfl | ⟨a,rfl,-,ha⟩⟩:=good_bind_parts h
  ·cases hu
  ·obtain rfl:=List.mem_singleton.1 hu;exact ⟨_,ha⟩
 ·have hk' : (k.toList == [65,110,121])=false /\ (k.toList == [78,105,108])=false /\ (k.toList == [83,116,114,105,110,103])=false /\ (k.toList == [76,105,115,116])=false /\ (k.toList == [66,105,110,100,105,110,103])=false:=by
   rcases hk with rfl | rfl | hk
   ·simp only [toList_mk];decide
   ·simp only [toList_mk];decide
   ·exact ⟨hk.1,hk.2.1,hk.2.2.1,hk.2.2.2.1,hk.2.2.2.2.1⟩
  obtain ⟨h1,h2,h3,h4,h5⟩:=hk'
  exact (good_node h h1 h2 h3 h4 h5).1 u hu
theorem sp_all (p : Tree) : ∀ c,good p c=true -> count p <= 1000 -> SpC p:=by
 refine Tree.ind (P:=fun p=>∀ c,good p c=true -> count p <= 1000 -> SpC p) ?_ p
 intro t ih c hg hc
 have hkc:=kids_count t
 have ihk : ∀ (j : Nat) (hj : j < t.kids.length),SpC t.kids[j]:=fun j hj=>by
  obtain ⟨c',hc'⟩:=kid_good hg _ (List.getElem_mem hj)
  exact ih j hj c' hc' (by have:=count_kid t j hj;omega)
 clear ih
 obtain ⟨k,x,ks⟩:=t
 simp only [kids_mk] at ihk hkc
 have hg0:=hg
 rw [good_mk] at hg
 cases h1 : (k.toList == [65,110,121]) with
 | true=>exact sp_any h1
 | false =>
 cases h2 : (k.toList == [78,105,108]) with
 | true=>exact sp_nil h1 h2
 | false =>
 cases h3 : (k.toList == [83,116,114,105,110,103]) with
 | true=>exact sp_str h1 h2 h3
 | false =>
 cases h4 : (k.toList == [76,105,115,116]) with
 | true =>
  simp only [h1,h2,h3,h4,Bool.or_false,Bool.false_eq_true,if_false,if_true,Bool.and_eq_true] at hg
  refine sp_list ?_ ihk h1 h2 h3 h4
  match ks,hg with
  | [],_=>exact .inl rfl
  | [a,b],_=>exact .inr rfl
  | [a],hg=>simp at hg
  | a :: b :: d :: r,hg=>simp at hg
 | false =>
 cases h5 : (k.toList == [66,105,110,100,105,110,103]) with
 | true =>
  simp only [h1,h2,h3,h4,h5,Bool.or_false,Bool.false_eq_true,if_false,if_true,Bool.and_eq_true] at hg
  have hx : x.size <= maxLen:=by have:=name_size hg.1;unfold maxLen;omega
  match ks,hg,ihk with
  | [],_,_=>exact SpG.join (sp_bind_a hx rfl h1 h2 h3 h4 h5) (sp_bind_c hx rfl h1 h2 h3 h4 h5)
  | [a],_,ihk=>exact SpG.join (sp_bind_b hx (Nat.lt_succ_self 0) rfl (ihk 0 (Nat.lt_succ_self 0)) h1 h2 h3 h4 h5) (sp_bind_d hx (Nat.lt_succ_self 0) rfl h1 h2 h3 h4 h5)
  | a :: b :: r,hg,_=>simp at hg
 | false =>
 cases h6 : (k.toList == [79,114]) with
 | true=>exact sp_or ihk (by omega) h1 h2 h3 h4 h5 h6
 | false =>
 cases h7 : (k.toList == [78,111,116]) with
 | true =>
  simp only [h1,h2,h3,h4,h5,h6,h7,Bool.or_false,Bool.false_eq_true,if_false,if_true,Bool.and_eq_true] at hg
  match ks,hg,ihk with
  | [],hg,_=>simp at hg
  | [a],_,ihk=>exact sp_not (Nat.lt_succ_self 0) rfl (ihk 0 (Nat.lt_succ_self 0)) h1 h2 h3 h4 h5 h6 h7
  | a :: b :: r,hg,_=>simp at hg
 | false =>
  simp only [h1,h2,h3,h4,h5,h6,h7,Bool.or_false,Bool.false_eq_true,if_false,if_true,Bool.and_eq_true,beq_iff_eq] at hg
  have hn : named k=true:=hg.1.1.1.2
  have hl : ks.length=(args k).length:=hg.1.2
  have key : ∀ m n,sizeS n < m -> RZ n -> SpN (.mk k x ks) n:=by
   intro m
   induction m with
   | zero=>intro n h;omega
   | succ m ihm =>
    intro n hm hr
    have hbs:=bare_size n hr.1
    cases hlk : lisK (bareS n).kind with
    | true=>exact sp_struct_list hr (fun y hy hs=>ihm y (by omega) hy) hlk h1 h2 h3 h4 h5 h6 h7
    | false =>
     cases hkk : ((bareS n).kind.toList == k.toList) with
     | false=>exact sp_struct_not hr hlk hkk h1 h2 h3 h4 h5 h6 h7
     | true=>exact sp_struct_same hr hlk hkk hn hl ihk h1 h2 h3 h4 h5 h6 h7
  intro n hr
  exact key _ n (Nat.lt_succ_self _) hr
end Go.Proofs.YtigalkobmfbdaaaGreatDoor
set_option maxRecDepth 100000
set_option maxHeartbeats 4000000
namespace Go.Proofs.YtigalkobmfbdaaaGreatDoor
open Go.RowKit Go.WideMaps
theorem matched_calls {p : Tree} {n : Syn} (hF : FairP p n) {X : Nat -> Prop} {a : Option Addr} {c : Nat} {a' : Option Addr} {c' : Nat} {w : World} (hT : TreeAt w a c p) (hS : SynIn X w a' c' n) :
  Calls Tryz.prog 36 #[treeV p a c,synV n a' c'] w fun e w'=>(∃ tb V,e=.returned (.tuple #[.bool (sp p n [] false).ok,.map (some tb),.bool (!(sp p n [] false).op)]) /\ RawMap w' tb V /\ VR (SynR w) V (sp p n [] false).S /\ Keyed (namesT p) (sp p n [] false).S) /\ Ext w w':=by
 have HF:=Lib.hid hF
 have HT:=Lib.hid (And.intro hT (hS.toX.imp (Y:=fun _=>True) fun _ _ _=>trivial))
 have HM0 : Hid (MSt w (namesT p) (w.heap.size + 3) (w.heap.size + 2) ((((w.alloc (.cells #[.string p.kind,.string p.text,.slice a p.kids.length c] 24)).alloc (.cells (synC n a' c') 52)).alloc (.map #[] 0)).alloc (.cells #[.map (some (w.heap.size + 2)),.bool false] 94)) [] false):=Lib.hid (by
  have e1:=(Ext.alloc w (.cells #[.string p.kind,.string p.text,.slice a p.kids.length c] 24)).trans (Ext.alloc _ (.cells (synC n a' c') 52))
  have s1 : ((w.alloc (.cells #[.string p.kind,.string p.text,.slice a p.kids.length c] 24)).alloc (.cells (synC n a' c') 52)).heap.size=w.heap.size + 2:=by simp
  generalize (w.alloc (.cells #[.string p.kind,.string p.text,.slice a p.kids.length c] 24)).alloc (.cells (synC n a' c') 52)=w2 at *
  have hR:=RawMap.made w2
  have hB:=Blk.new (w2.alloc (.map #[] 0)) #[.map (some (w.heap.size + 2)),.bool false] 94
  rw [show (w2.alloc (.map #[] 0)).heap.size=w.heap.size + 3 by simp [s1]] at hB
  rw [s1] at hR
  exact ⟨(e1.trans (Ext.alloc _ _)).trans (Ext.alloc _ _),⟨by omega,by omega⟩,by omega,hB,⟨[],hR.ext (Ext.alloc _ _),VR.nil _⟩,Keyed.nil _⟩)
 have HC:=Lib.hid (sp_all p 97 hF.hg (by have:=hF.cnt;omega) n hF.rz (namesT p) hF.names (fun x h=>h) [] false w _ (w.heap.size + 3) (w.heap.size + 2) a c a' c' hT (hS.toX.imp fun _ _ _=>trivial) HM0.out)
 clear hF hT hS HM0
 have hmm:=@run_makeMap Tryz.prog
 go_enter Tryz.func36,Tryz.ntmps36
 go_wp2_with fail
 generalize (((w.alloc (.cells #[.string p.kind,.string p.text,.slice a p.kids.length c] 24)).alloc (.cells (synC n a' c') 52)).alloc (.map #[] 0)).alloc (.cells #[.map (some (w.heap.size + 2)),.bool false] 94)=w4 at HC ⊢
 refine HC.out.mono ?_
 rintro e w5 ⟨⟨o,oa,oc,rfl,-⟩,tb,hM,-⟩
 have hB:=hM.blk
 have m0 : w5.cell? ⟨w.heap.size + 3,0,none⟩=some (.map (some tb)):=by rw [hB.cell];rfl
 have m1 : w5.cell? ⟨w.heap.size + 3,1,none⟩=some (.bool (sp p n [] false).op):=by rw [hB.cell];rfl
 have lm:=hB.lt
 have HM:=Lib.hid hM
 clear hM hB
 generalize hsp : sp p n [] false=r at *
 obtain ⟨ok,out,S,op⟩:=r
 have HSP:=Lib.hid hsp
 clear hsp
 simp only at *
 go_wp2_with fail
 go_region
 all_goals
  go_wp2_with fail
  go_ret3
  rw [HSP.out]
  obtain ⟨V,hV,hR⟩:=HM.out.tab
  have hx : Ext w5 (w5.alloc (.cells #[.string o.kind,.bool o.null,.string o.text,.int .i64 o.num,.slice oa o.kids.length oc] 52)).drew:=(Ext.alloc _ _).trans (Ext.drew _)
  exact ⟨⟨tb,V,rfl,hV.ext hx,hR,HM.out.keyed⟩,HM.out.ext.trans hx⟩
end Go.Proofs.YtigalkobmfbdaaaGreatDoor
