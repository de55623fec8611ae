/- Good: whether a pattern (a tree) can stand where a letter is asked: the reference's function as a Lean function, and that the Go text computes it. -/
import Derived.Test.YtigalkobmfbdaaaGreatDoorSpec1Z2
set_option linter.unusedVariables false
set_option linter.unusedSimpArgs false
set_option maxRecDepth 100000
set_option maxHeartbeats 2000000
namespace Go.Proofs.YtigalkobmfbdaaaGreatDoor
open Go.RowKit
mutual
def binds : Tree -> Bool
 | .mk k _ ks=>bindsAny ks || k.toList == [66,105,110,100,105,110,103]
def bindsAny : List Tree -> Bool
 | []=>false
 | t :: ts=>binds t || bindsAny ts
end
theorem bindsAny_eq (ts : List Tree) : bindsAny ts=ts.any binds:=by
 induction ts with
 | nil=>rfl
 | cons t ts ih=>simp [bindsAny,ih]
theorem binds_eq (t : Tree) : binds t=(t.kids.any binds || t.kind.toList == [66,105,110,100,105,110,103]):=by
 cases t;simp [binds,bindsAny_eq,Tree.kids,Tree.kind]
def textLetter (c : Int) : Bool:=c == 116 || c == 110
def tailKind (t : Tree) : Bool:=t.kind.toList == [76,105,115,116] || t.kind.toList == [65,110,121] || (t.kind.toList == [66,105,110,100,105,110,103] && t.kids.length == 0)
mutual
def good : Tree -> Int -> Bool
 | .mk k x ks,c =>
  if k.toList == [65,110,121] || k.toList == [78,105,108] then x.toList == [] && ks.length == 0
  else if k.toList == [83,116,114,105,110,103] then textLetter c && ks.length == 0 && ((c == 110 && word x.toList) || (c == 116 && sign x))
  else if k.toList == [76,105,115,116] then
   !textLetter c && x.toList == [] && (match ks with
    | []=>true
    | [a,b]=>good a 97 && (tailKind b && good b 108)
    | _=>false)
  else if k.toList == [66,105,110,100,105,110,103] then
   name x.toList && (match ks with
    | []=>true
    | [a]=>!textLetter c && named a.kind && good a c
    | _=>false)
  else if k.toList == [79,114] then goodAll ks c && x.toList == [] && decide (1 <= ks.length)
  else if k.toList == [78,111,116] then
   x.toList == [] && (match ks with
    | [a]=>good a c && !(bindsAny [a])
    | _=>false)
  else !textLetter c && named k && x.toList == [] && ks.length == (args k).length && goodArgs ks (asked k).toList
def goodAll : List Tree -> Int -> Bool
 | [],_=>true
 | t :: ts,c=>good t c && goodAll ts c
def goodArgs : List Tree -> List UInt8 -> Bool
 | [],_=>true
 | _ :: _,[]=>false
 | t :: ts,c :: cs=>good t c.toNat && goodArgs ts cs
end
theorem good_mk (k x : ByteArray) (ks : List Tree) (c : Int) : good (.mk k x ks) c=(
  if k.toList == [65,110,121] || k.toList == [78,105,108] then x.toList == [] && ks.length == 0
  else if k.toList == [83,116,114,105,110,103] then textLetter c && ks.length == 0 && ((c == 110 && word x.toList) || (c == 116 && sign x))
  else if k.toList == [76,105,115,116] then
   !textLetter c && x.toList == [] && (match ks with
    | []=>true
    | [a,b]=>good a 97 && (tailKind b && good b 108)
    | _=>false)
  else if k.toList == [66,105,110,100,105,110,103] then
   name x.toList && (match ks with
    | []=>true
    | [a]=>!textLetter c && named a.kind && good a c
    | _=>false)
  else if k.toList == [79,114] then goodAll ks c && x.toList == [] && decide (1 <= ks.length)
  else if k.toList == [78,111,116] then
   x.toList == [] && (match ks with
    | [a]=>good a c && !(bindsAny [a])
    | _=>false)
  else !textLetter c && named k && x.toList == [] && ks.length == (args k).length && goodArgs ks (asked k).toList):=by
 conv=>lhs;unfold good
theorem any_kids_take (t : Tree) : t.kids.take t.kids.length=t.kids:=List.take_of_length_le (Nat.le_refl _)
theorem binds_calls (t : Tree) : ∀ (a : Option Addr) (c : Nat) (w : World),TreeAt w a c t -> Calls Tryz.prog 42 #[treeV t a c] w fun e w'=>e=.returned (.bool (binds t)) /\ Ext w w':=by
 induction t using Tree.ind with | h t ih=>?_
 intro a c w hT
 obtain ⟨hc,hl,-⟩:=hT.kids
 go_enter Tryz.func42,Tryz.ntmps42
 go_wp2_with fail
 go_loopw [8] (fun i w'=>∃ j : Nat,i=.int .i64 j /\ j <= t.kids.length /\ (t.kids.take j).any binds=false /\ Ext (w.alloc (.cells #[.string t.kind,.string t.text,.slice a t.kids.length c] 24)) w') (fun i _=>t.kids.length - (intOf i).toNat)
 case atStart=>exact ⟨0,rfl,Nat.zero_le _,rfl,Ext.refl _⟩
 case round =>
  obtain ⟨j,rfl,hj,hb,hB⟩:=hrel
  have HB:=Lib.hid hb
  obtain ⟨hc,hf,hs⟩:=hB.rules
  simp at hc hf
  clear hb
  by_cases hlt : j < t.kids.length
  ·obtain ⟨b,o,a',c',rfl,hbl,h1,h2,h3,ht⟩:=hT.kid j hlt
   go_wp2_with fail
   refine (ih j hlt a' c' _ (ht.mono (hB.of_alloc.trans (Ext.alloc _ _)))).mono ?_
   rintro e w' ⟨rfl,hb2⟩
   cases hbj : binds t.kids[j]
   ·have HJ:=Lib.hid hbj
    go_wp2_with fail
    exact ⟨⟨j + 1,by go_num,by omega,by rw [any_take_succ _ _ _ hlt,HB.out,HJ.out];rfl,hB.trans hb2.of_alloc⟩,by simp [intOf];omega⟩
   ·have HJ:=Lib.hid hbj
    go_wp2_with fail
    go_ret
    exact ⟨ret_bool (by rw [binds_eq,any_of_get _ _ j hlt HJ.out];rfl),hB.of_alloc.trans hb2.of_alloc⟩
  ·obtain rfl : j=t.kids.length:=by omega
   go_wp2_with fail
   go_ret
   exact ⟨ret_bool (by rw [any_kids_take] at HB;rw [binds_eq,HB.out];rfl),hB.of_alloc⟩
def GoodC (t : Tree) : Prop:=∀ (c : Int) (a : Option Addr) (cap : Nat) (w : World),TreeAt w a cap t -> Calls Tryz.prog 22 #[treeV t a cap,.int .u8 c] w fun e w'=>e=.returned (.bool (good t c)) /\ Ext w w'
def TailC (t : Tree) : Prop:=∀ (a : Option Addr) (cap : Nat) (w : World),TreeAt w a cap t -> Calls Tryz.prog 47 #[treeV t a cap] w fun e w'=>e=.returned (.bool (tailKind t && good t 108)) /\ Ext w w'
theorem tail_of_good {t : Tree} (hg : GoodC t) : TailC t:=by
 intro a cap w hT
 by_cases h1 : (t.kind.toList == [76,105,115,116])=true
 ·have HK:=Lib.hid (show tailKind t=true by unfold tailKind;rw [h1];rfl)
  go_enter Tryz.func47,Tryz.ntmps47
  go_wp2_with fail
  refine (hg 108 _ _ _ (hT.mono (Ext.alloc _ _))).mono ?_
  rintro e w' ⟨rfl,hE⟩
  go_wp2_with fail
  go_ret
  exact ⟨ret_bool (by rw [HK.out];rfl),hE.of_alloc⟩
 ·rw [Bool.not_eq_true] at h1
  by_cases h2 : (t.kind.toList == [65,110,121])=true
  ·have HK:=Lib.hid (show tailKind t=true by unfold tailKind;rw [h1,h2];rfl)
   go_enter Tryz.func47,Tryz.ntmps47
   go_wp2_with fail
   refine (hg 108 _ _ _ (hT.mono (Ext.alloc _ _))).mono ?_
   rintro e w' ⟨rfl,hE⟩
   go_wp2_with fail
   go_ret
   exact ⟨ret_bool (by rw [HK.out];rfl),hE.of_alloc⟩
  ·rw [Bool.not_eq_true] at h2
   by_cases h3 : (t.kind.toList == [66,105,110,100,105,110,103])=true
   ·have HK:=Lib.hid (show tailKind t=(t.kids.length == 0) by unfold tailKind;rw [h1,h2,h3];rfl)
    go_enter Tryz.func47,Tryz.ntmps47
    go_wp2_with fail
    refine (hg 108 _ _ _ (hT.mono (Ext.alloc _ _))).mono ?_
    rintro e w' ⟨rfl,hE⟩
    obtain ⟨hc,hf,hs⟩:=hE.rules
    simp at hc hf
    cases hgt : good t 108
    ·have HG:=Lib.hid hgt
     go_wp2_with fail
     go_ret
     exact ⟨ret_bool (by rw [HG.out,Bool.and_false]),hE.of_alloc⟩
    ·have HG:=Lib.hid hgt
     go_wp2_with fail
     go_ret
     exact ⟨ret_bool (by rw [HK.out,HG.out,Bool.and_true,Bool.eq_iff_iff];simp),hE.of_alloc⟩
   ·rw [Bool.not_eq_true] at h3
    have HK:=Lib.hid (show tailKind t=false by unfold tailKind;rw [h1,h2,h3];rfl)
    go_enter Tryz.func47,Tryz.ntmps47
    go_wp2_with fail
    go_ret
    exact ⟨ret_bool (by rw [HK.out];rfl),Ext.alloc _ _⟩
theorem len0 (n : Nat) : ((n : Int) == 0)=(n == 0):=by rw [Bool.eq_iff_iff,beq_iff_eq,beq_iff_eq];omega
theorem isEmpty_of {x : ByteArray} (h : (x.toList == [])=true) : x.toList.isEmpty=true:=by rw [eq_of_beq h];rfl
theorem isEmpty_not {x : ByteArray} (h : (x.toList == [])=false) : x.toList.isEmpty=false:=by
 cases hx : x.toList with
 | nil=>rw [hx] at h;cases h
 | cons a l=>rfl
theorem good_any (k x : ByteArray) (ks : List Tree) (hk : k=⟨#[65,110,121]⟩ \/ k=⟨#[78,105,108]⟩) : GoodC (.mk k x ks):=by
 intro c a cap w hT
 have HG:=Lib.hid (show good (.mk k x ks) c=(x.toList == [] && ks.length == 0) by
  unfold good;rcases hk with rfl | rfl <;> rw [toList_mk] <;> rfl)
 obtain ⟨-,hc,hl,-⟩:=hT
 simp only [treeV,Tree.kind,Tree.text,Tree.kids]
 cases hx : (x.toList == [])
 ·have hx':=isEmpty_not hx
  have HX:=Lib.hid hx
  clear hx
  rcases hk with rfl | rfl
  all_goals
   go_enter Tryz.func22,Tryz.ntmps22
   go_wp2_with fail
   all_goals (go_ret;exact ⟨ret_bool (by rw [HG.out,HX.out];rfl),Ext.alloc _ _⟩)
 ·have hx':=isEmpty_of hx
  have HX:=Lib.hid hx
  clear hx
  rcases hk with rfl | rfl
  all_goals
   go_enter Tryz.func22,Tryz.ntmps22
   go_wp2_with fail
   all_goals (go_ret;exact ⟨ret_bool (by rw [HG.out,HX.out];exact len0 _),Ext.alloc _ _⟩)
theorem good_string (x : ByteArray) (ks : List Tree) : GoodC (.mk ⟨#[83,116,114,105,110,103]⟩ x ks):=by
 intro c a cap w hT
 have hs:=hT.sizes.2
 simp only [Tree.text] at hs
 have HG:=Lib.hid (show good (.mk ⟨#[83,116,114,105,110,103]⟩ x ks) c=(textLetter c && ks.length == 0 && ((c == 110 && word x.toList) || (c == 116 && sign x))) by
  unfold good;rw [toList_mk];rfl)
 obtain ⟨-,hc,hl,-⟩:=hT
 simp only [treeV,Tree.kind,Tree.text,Tree.kids]
 by_cases h1 : c=116
 ·subst h1
  by_cases hk : ks=[]
  ·subst hk
   go_enter Tryz.func22,Tryz.ntmps22
   go_wp2_with fail
   refine (sign_calls _ _).mono ?_
   rintro e w' ⟨rfl,hE⟩
   go_wp2_with fail
   go_ret
   exact ⟨ret_bool (by rw [HG.out];rfl),hE.of_alloc⟩
  ·have hk' : (ks.length == 0)=false:=by cases ks;exact absurd rfl hk;rfl
   have hk2:=(len0 ks.length).trans hk'
   have HK:=Lib.hid hk'
   clear hk hk'
   go_enter Tryz.func22,Tryz.ntmps22
   go_wp2_with fail
   go_ret
   exact ⟨ret_bool (by rw [HG.out,HK.out];rfl),Ext.alloc _ _⟩
 ·by_cases h2 : c=110
  ·subst h2
   by_cases hk : ks=[]
   ·subst hk
    go_enter Tryz.func22,Tryz.ntmps22
    go_wp2_with fail
    refine (word_calls _ _ hs).mono ?_
    rintro e w' ⟨rfl,rfl⟩
    cases hw : word x.toList
    all_goals
     have HW:=Lib.hid hw
     go_wp2_with fail
     go_ret
     exact ⟨ret_bool (by rw [HG.out,HW.out];rfl),Ext.alloc _ _⟩
   ·have hk' : (ks.length == 0)=false:=by cases ks;exact absurd rfl hk;rfl
    have hk2:=(len0 ks.length).trans hk'
    have HK:=Lib.hid hk'
    clear hk hk'
    go_enter Tryz.func22,Tryz.ntmps22
    go_wp2_with fail
    go_ret
    exact ⟨ret_bool (by rw [HG.out,HK.out];rfl),Ext.alloc _ _⟩
  ·have h1' : (c == 116)=false:=beq_eq_false_iff_ne.2 h1
   have h2' : (c == 110)=false:=beq_eq_false_iff_ne.2 h2
   have H1:=Lib.hid h1'
   have H2:=Lib.hid h2'
   clear h1 h2
   go_enter Tryz.func22,Tryz.ntmps22
   go_wp2_with fail
   go_ret
   exact ⟨ret_bool (by rw [HG.out,H1.out,H2.out];unfold textLetter;rw [H1.out,H2.out];rfl),Ext.alloc _ _⟩
theorem kid_at {w : World} {a : Option Addr} {ks : List Tree} (h : KidsAt w a ks) (j : Nat) (hj : j < ks.length) :
  ∃ b o a' c',a=some ⟨b,o,none⟩ /\ b < w.heap.size /\ w.cell? ⟨b,o + j * 3,none⟩=some (.string ks[j].kind) /\ w.cell? ⟨b,o + j * 3 + 1,none⟩=some (.string ks[j].text) /\ w.cell? ⟨b,o + j * 3 + 2,none⟩=some (.slice a' ks[j].kids.length c') /\ TreeAt w a' c' ks[j]:=h.get j hj
theorem textLetter_cases (c : Int) : textLetter c=true /\ (c=116 \/ c=110) \/ textLetter c=false /\ (c == 116)=false /\ (c == 110)=false:=by
 unfold textLetter
 by_cases h1 : c=116
 ·exact .inl ⟨by subst h1;rfl,.inl h1⟩
 ·by_cases h2 : c=110
  ·exact .inl ⟨by subst h2;rfl,.inr h2⟩
  ·have h1' : (c == 116)=false:=beq_eq_false_iff_ne.2 h1
   have h2' : (c == 110)=false:=beq_eq_false_iff_ne.2 h2
   exact .inr ⟨by rw [h1',h2'];rfl,h1',h2'⟩
theorem good_list (x : ByteArray) (ks : List Tree) (ih : ∀ (j : Nat) (hj : j < ks.length),GoodC ks[j]) : GoodC (.mk ⟨#[76,105,115,116]⟩ x ks):=by
 intro c a cap w hT
 obtain ⟨-,hc,hl,hK⟩:=hT
 simp only [treeV,Tree.kind,Tree.text,Tree.kids]
 rcases textLetter_cases c with ⟨ht,hcc⟩ | ⟨ht,h1,h2⟩
 ·have HG:=Lib.hid (show good (.mk ⟨#[76,105,115,116]⟩ x ks) c=false by unfold good;rw [toList_mk,ht];rfl)
  clear ht
  rcases hcc with rfl | rfl
  all_goals
   go_enter Tryz.func22,Tryz.ntmps22
   go_wp2_with fail
   go_ret
   exact ⟨ret_bool (by rw [HG.out]),Ext.alloc _ _⟩
 ·cases hx : (x.toList == [])
  ·have hx':=isEmpty_not hx
   have HG:=Lib.hid (show good (.mk ⟨#[76,105,115,116]⟩ x ks) c=false by unfold good;rw [toList_mk,ht,hx];rfl)
   clear hx ht
   go_enter Tryz.func22,Tryz.ntmps22
   go_wp2_with fail
   go_ret
   exact ⟨ret_bool (by rw [HG.out]),Ext.alloc _ _⟩
  ·have hx':=isEmpty_of hx
   match ks,ih,hc,hK with
   | [],_,_,_ =>
    have HG:=Lib.hid (show good (.mk ⟨#[76,105,115,116]⟩ x []) c=true by unfold good;rw [toList_mk,ht,hx];rfl)
    clear hx ht
    go_enter Tryz.func22,Tryz.ntmps22
    go_wp2_with fail
    go_ret
    exact ⟨ret_bool (by rw [HG.out]),Ext.alloc _ _⟩
   | [p],_,hc,_ =>
    have HG:=Lib.hid (show good (.mk ⟨#[76,105,115,116]⟩ x [p]) c=false by unfold good;rw [toList_mk,ht,hx];rfl)
    clear hx ht
    go_enter Tryz.func22,Tryz.ntmps22
    go_wp2_with fail
    go_ret
    exact ⟨ret_bool (by rw [HG.out]),Ext.alloc _ _⟩
   | p :: q :: r :: l,_,hc,_ =>
    have HG:=Lib.hid (show good (.mk ⟨#[76,105,115,116]⟩ x (p :: q :: r :: l)) c=false by unfold good;rw [toList_mk,ht,hx];rfl)
    have hn : ((l.length : Int) + 1 + 1 + 1 == 0)=false:=beq_eq_false_iff_ne.2 (by omega)
    have hn2 : ((l.length : Int) + 1 + 1 + 1 == 2)=false:=beq_eq_false_iff_ne.2 (by omega)
    clear hx ht
    go_enter Tryz.func22,Tryz.ntmps22
    go_wp2_with fail
    go_ret
    exact ⟨ret_bool (by rw [HG.out]),Ext.alloc _ _⟩
   | [p,q],ih,hc,hK =>
    have HG:=Lib.hid (show good (.mk ⟨#[76,105,115,116]⟩ x [p,q]) c=(good p 97 && (tailKind q && good q 108)) by rw [good_mk];simp [toList_mk,ht,eq_of_beq hx])
    clear hx ht
    obtain ⟨b,o,a1,c1,rfl,hb,p0,p1,p2,hp⟩:=kid_at hK 0 (by simp)
    obtain ⟨b',o',a2,c2,he,-,q0,q1,q2,hq⟩:=kid_at hK 1 (by simp)
    obtain ⟨rfl,rfl⟩ : b=b' /\ o=o':=by simpa using he
    have Hp:=Lib.hid (show GoodC p from ih 0 (by simp))
    have Hq:=Lib.hid (show GoodC q from ih 1 (by simp))
    clear ih
    simp only [List.getElem_cons_zero,List.getElem_cons_succ,Nat.zero_mul,Nat.one_mul,Nat.add_zero] at p0 p1 p2 q0 q1 q2 hp hq
    simp only [List.length_cons,List.length_nil] at hc ⊢
    go_enter Tryz.func22,Tryz.ntmps22
    go_wp2_with fail
    refine (Hp.out 97 _ _ _ (hp.mono (Ext.alloc _ _))).mono ?_
    rintro e w1 ⟨rfl,hE⟩
    have hE2:=hE.of_alloc
    obtain ⟨hr,hf,hs⟩:=hE.rules
    simp at hr hf hs
    cases hgp : good p 97
    ·have HP:=Lib.hid hgp
     go_wp2_with fail
     go_ret
     exact ⟨ret_bool (by rw [HG.out,HP.out];rfl),hE2⟩
    ·have HP:=Lib.hid hgp
     go_wp2_with fail
     refine (tail_of_good Hq.out _ _ _ (hq.mono hE2)).mono ?_
     rintro e w2 ⟨rfl,hE3⟩
     go_wp2_with fail
     go_ret
     exact ⟨ret_bool (by rw [HG.out,HP.out];rfl),hE2.trans hE3⟩
theorem good_binding (x : ByteArray) (ks : List Tree) (ih : ∀ (j : Nat) (hj : j < ks.length),GoodC ks[j]) : GoodC (.mk ⟨#[66,105,110,100,105,110,103]⟩ x ks):=by
 intro c a cap w hT
 have hsz:=hT.sizes.2
 obtain ⟨-,hc,hl,hK⟩:=hT
 simp only [treeV,Tree.kind,Tree.text,Tree.kids] at hsz ⊢
 cases hn : name x.toList
 ·have HG:=Lib.hid (show good (.mk ⟨#[66,105,110,100,105,110,103]⟩ x ks) c=false by unfold good;rw [toList_mk,hn];rfl)
  have HN:=Lib.hid hn
  clear hn
  go_enter Tryz.func22,Tryz.ntmps22
  go_wp2_with fail
  all_goals
   refine (name_calls _ _ hsz).mono ?_
   rw [HN.out]
   rintro e w' ⟨rfl,rfl⟩
   go_wp2_with fail
   go_ret
   exact ⟨ret_bool (by rw [HG.out]),Ext.alloc _ _⟩
 ·match ks,ih,hc,hK with
  | [],_,_,_ =>
   have HG:=Lib.hid (show good (.mk ⟨#[66,105,110,100,105,110,103]⟩ x []) c=true by unfold good;rw [toList_mk,hn];rfl)
   have HN:=Lib.hid hn
   clear hn
   go_enter Tryz.func22,Tryz.ntmps22
   go_wp2_with fail
   all_goals
    refine (name_calls _ _ hsz).mono ?_
    rw [HN.out]
    rintro e w' ⟨rfl,rfl⟩
    go_wp2_with fail
    go_ret
    exact ⟨ret_bool (by rw [HG.out]),Ext.alloc _ _⟩
  | p :: q :: l,_,hc,_ =>
   have HG:=Lib.hid (show good (.mk ⟨#[66,105,110,100,105,110,103]⟩ x (p :: q :: l)) c=false by unfold good;rw [toList_mk,hn];rfl)
   have HN:=Lib.hid hn
   clear hn
   go_enter Tryz.func22,Tryz.ntmps22
   go_wp2_with fail
   all_goals
    refine (name_calls _ _ hsz).mono ?_
    rw [HN.out]
    rintro e w' ⟨rfl,rfl⟩
    go_wp2_with fail
    go_ret
    exact ⟨ret_bool (by rw [HG.out]),Ext.alloc _ _⟩
  | [p],ih,hc,hK =>
   obtain ⟨b,o,a1,c1,rfl,hb,p0,p1,p2,hp⟩:=kid_at hK 0 (by simp)
   have Hp:=Lib.hid (show GoodC p from ih 0 (by simp))
   clear ih
   simp only [List.getElem_cons_zero,List.getElem_cons_succ,Nat.zero_mul,Nat.add_zero] at p0 p1 p2 hp
   simp only [List.length_cons,List.length_nil] at hc ⊢
   rcases textLetter_cases c with ⟨ht,hcc⟩ | ⟨ht,h1,h2⟩
   ·have HG:=Lib.hid (show good (.mk ⟨#[66,105,110,100,105,110,103]⟩ x [p]) c=false by rw [good_mk];simp [toList_mk,hn,ht])
    have HN:=Lib.hid hn
    clear hn ht
    rcases hcc with rfl | rfl
    all_goals
     go_enter Tryz.func22,Tryz.ntmps22
     go_wp2_with fail
     refine (name_calls _ _ hsz).mono ?_
     rw [HN.out]
     rintro e w' ⟨rfl,rfl⟩
     go_wp2_with fail
     go_ret
     exact ⟨ret_bool (by rw [HG.out]),(Ext.alloc _ _).trans (Ext.alloc _ _)⟩
   ·have HG:=Lib.hid (show good (.mk ⟨#[66,105,110,100,105,110,103]⟩ x [p]) c=(named p.kind && good p c) by rw [good_mk];simp [toList_mk,hn,ht])
    have HN:=Lib.hid hn
    clear hn ht
    go_enter Tryz.func22,Tryz.ntmps22
    go_wp2_with fail
    refine (name_calls _ _ hsz).mono ?_
    rw [HN.out]
    rintro e w' ⟨rfl,rfl⟩
    go_wp2_with fail
    refine (named_calls _ _).mono ?_
    rintro e w1 ⟨rfl,hE⟩
    have hE2:=hE.of_alloc.of_alloc
    obtain ⟨hr,hf,hs⟩:=hE.rules
    simp at hr hf hs
    cases hgp : named p.kind
    ·have HP:=Lib.hid hgp
     go_wp2_with fail
     go_ret
     exact ⟨ret_bool (by rw [HG.out,HP.out];rfl),hE2⟩
    ·have HP:=Lib.hid hgp
     go_wp2_with fail
     refine (Hp.out c _ _ _ (hp.mono hE2)).mono ?_
     rintro e w2 ⟨rfl,hE3⟩
     go_wp2_with fail
     go_ret
     exact ⟨ret_bool (by rw [HG.out,HP.out];rfl),hE2.trans hE3⟩
theorem good_not (x : ByteArray) (ks : List Tree) (ih : ∀ (j : Nat) (hj : j < ks.length),GoodC ks[j]) : GoodC (.mk ⟨#[78,111,116]⟩ x ks):=by
 intro c a cap w hT
 have hTT:=hT
 obtain ⟨-,hc,hl,hK⟩:=hT
 simp only [treeV,Tree.kind,Tree.text,Tree.kids]
 cases hx : (x.toList == [])
 ·have hx':=isEmpty_not hx
  have HG:=Lib.hid (show good (.mk ⟨#[78,111,116]⟩ x ks) c=false by unfold good;rw [toList_mk,hx];rfl)
  clear hx
  go_enter Tryz.func22,Tryz.ntmps22
  go_wp2_with fail
  all_goals (go_ret;exact ⟨ret_bool (by rw [HG.out]),Ext.alloc _ _⟩)
 ·have hx':=isEmpty_of hx
  match ks,ih,hc,hK,hTT with
  | [],_,_,_,_ =>
   have HG:=Lib.hid (show good (.mk ⟨#[78,111,116]⟩ x []) c=false by unfold good;rw [toList_mk,hx];rfl)
   clear hx
   go_enter Tryz.func22,Tryz.ntmps22
   go_wp2_with fail
   all_goals (go_ret;exact ⟨ret_bool (by rw [HG.out]),Ext.alloc _ _⟩)
  | p :: q :: l,_,hc,_,_ =>
   have HG:=Lib.hid (show good (.mk ⟨#[78,111,116]⟩ x (p :: q :: l)) c=false by unfold good;rw [toList_mk,hx];rfl)
   have hn2 : ((l.length : Int) + 1 + 1 == 1)=false:=beq_eq_false_iff_ne.2 (by omega)
   clear hx
   go_enter Tryz.func22,Tryz.ntmps22
   go_wp2_with fail
   all_goals (go_ret;exact ⟨ret_bool (by rw [HG.out]),Ext.alloc _ _⟩)
  | [p],ih,hc,hK,hTT =>
   have HG:=Lib.hid (show good (.mk ⟨#[78,111,116]⟩ x [p]) c=(good p c && !(binds (.mk ⟨#[78,111,116]⟩ x [p]))) by rw [good_mk];simp [toList_mk,eq_of_beq hx,binds])
   clear hx
   obtain ⟨b,o,a1,c1,rfl,hb,p0,p1,p2,hp⟩:=kid_at hK 0 (by simp)
   have Hp:=Lib.hid (show GoodC p from ih 0 (by simp))
   clear ih
   simp only [List.getElem_cons_zero,List.getElem_cons_succ,Nat.zero_mul,Nat.add_zero] at p0 p1 p2 hp
   have HT:=Lib.hid hTT
   clear hTT
   simp only [List.length_cons,List.length_nil] at hc ⊢
   cases h1 : (c == 116)
   all_goals
    go_enter Tryz.func22,Tryz.ntmps22
    go_wp2_with fail
    refine (Hp.out _ _ _ _ (hp.mono (Ext.alloc _ _))).mono ?_
    rintro e w2 ⟨rfl,hE3⟩
    have hE2:=hE3.of_alloc
    obtain ⟨hr,hf,hs⟩:=hE3.rules
    simp at hr hf hs
    cases hgp : good p c
    ·have HP:=Lib.hid hgp
     clear hgp
     go_wp2_with fail
     go_ret
     exact ⟨ret_bool (by rw [HG.out,HP.out];rfl),hE2⟩
    ·have HP:=Lib.hid hgp
     clear hgp
     go_wp2_with fail
     refine (binds_calls (.mk ⟨#[78,111,116]⟩ x [p]) _ _ _ (HT.out.mono hE2)).mono ?_
     rintro e w3 ⟨rfl,hE4⟩
     cases hbb : binds (.mk ⟨#[78,111,116]⟩ x [p])
     all_goals
      have HB:=Lib.hid hbb
      clear hbb
      go_wp2_with fail
      go_ret
      exact ⟨ret_bool (by rw [HG.out,HP.out,HB.out];rfl),hE2.trans hE4⟩
theorem goodAll_eq (ks : List Tree) (c : Int) : goodAll ks c=ks.all (fun t=>good t c):=by
 induction ks with
 | nil=>unfold goodAll;rfl
 | cons t ts ih=>unfold goodAll;rw [ih];rfl
theorem good_or (x : ByteArray) (ks : List Tree) (ih : ∀ (j : Nat) (hj : j < ks.length),GoodC ks[j]) : GoodC (.mk ⟨#[79,114]⟩ x ks):=by
 intro c a cap w hT
 have hTT:=Lib.hid hT
 obtain ⟨-,hc,hl,hK⟩:=hT
 have HG:=Lib.hid (show good (.mk ⟨#[79,114]⟩ x ks) c=(ks.all (fun t=>good t c) && x.toList == [] && decide (1 <= ks.length)) by rw [good_mk];simp [toList_mk,goodAll_eq])
 simp only [treeV,Tree.kind,Tree.text,Tree.kids]
 cases h1 : (c == 116)
 all_goals
  go_enter Tryz.func22,Tryz.ntmps22
  go_wp2_with fail
  go_loopw [126] (fun i w'=>∃ j : Nat,i=.int .i64 j /\ j <= ks.length /\ (ks.take j).all (fun t=>good t c)=true /\ Ext (w.alloc (.cells #[.string ⟨#[79,114]⟩,.string x,.slice a ks.length cap] 24)) w') (fun i _=>ks.length - (intOf i).toNat)
  case atStart=>exact ⟨0,rfl,Nat.zero_le _,rfl,Ext.refl _⟩
  case round =>
   obtain ⟨j,rfl,hj,hb,hB⟩:=hrel
   have HB:=Lib.hid hb
   obtain ⟨hr,hf,hs⟩:=hB.rules
   simp at hr hf hs
   clear hb
   by_cases hlt : j < ks.length
   ·obtain ⟨b,o,a',c',rfl,hbl,p0,p1,p2,ht⟩:=kid_at hK j hlt
    have Hi:=Lib.hid (ih j hlt)
    go_wp2_with fail
    refine (Hi.out c a' c' _ (ht.mono (hB.of_alloc.trans (Ext.alloc _ _)))).mono ?_
    rintro e w' ⟨rfl,hb2⟩
    cases hbj : good ks[j] c
    ·have HJ:=Lib.hid hbj
     go_wp2_with fail
     go_ret
     exact ⟨ret_bool (by rw [HG.out,all_of_get _ _ j hlt HJ.out];rfl),hB.of_alloc.trans hb2.of_alloc⟩
    ·have HJ:=Lib.hid hbj
     go_wp2_with fail
     exact ⟨⟨j + 1,by go_num,by omega,by rw [all_take_succ _ _ _ hlt,HB.out,HJ.out];rfl,hB.trans hb2.of_alloc⟩,by simp [intOf];omega⟩
   ·obtain rfl : j=ks.length:=by omega
    have HE:=Lib.hid (List.take_of_length_le (Nat.le_refl ks.length))
    cases hx : (x.toList == [])
    ·have hx':=isEmpty_not hx
     have HX:=Lib.hid hx
     clear hx
     go_wp2_with fail
     go_ret
     exact ⟨ret_bool (by rw [HG.out,HX.out];simp),hB.of_alloc⟩
    ·have hx':=isEmpty_of hx
     have HX:=Lib.hid hx
     clear hx
     go_wp2_with fail
     go_ret
     exact ⟨ret_bool (by rw [HE.out] at HB;rw [HG.out,HX.out,HB.out,Bool.eq_iff_iff];simp;omega),hB.of_alloc⟩
theorem asked_le (k : ByteArray) : (asked k).size <= 5:=by
 rcases sw_cases k askedT ⟨#[]⟩ with ⟨h,_⟩ | ⟨x,hx,_,h⟩
 ·unfold asked;rw [h];decide
 ·have : ∀ x ∈ askedT,x.2.size <= 5:=by decide +kernel
  unfold asked;rw [h];exact this x hx
theorem args_asked (k : ByteArray) : (args k).length <= (asked k).toList.length:=by
 rcases sw_cases k fieldsT [] with ⟨h,hn⟩ | ⟨x,hx,rfl,_⟩
 ·have : args k=[]:=by
   have hf : fields k=[]:=h
   unfold args;rw [hf];split
   ·rfl
   ·split <;> rfl
  rw [this];exact Nat.zero_le _
 ·have : ∀ x ∈ fieldsT,(args x.1).length <= (asked x.1).toList.length:=by decide +kernel
  exact this x hx
theorem goodArgs_take : ∀ (ks : List Tree) (L : List UInt8) (j : Nat) (h : j < ks.length) (h' : j < L.length),goodArgs (ks.take (j + 1)) L=(goodArgs (ks.take j) L && good ks[j] L[j].toNat)
 | t :: ts,c :: cs,0,_,_=>by simp [goodArgs]
 | t :: ts,c :: cs,j + 1,h,h'=>by
  have:=goodArgs_take ts cs j (by simpa using h) (by simpa using h')
  simp only [List.take_succ_cons,goodArgs,List.getElem_cons_succ,Bool.and_assoc] at this ⊢
  rw [this]
theorem goodArgs_no : ∀ (ks : List Tree) (L : List UInt8) (j : Nat) (h : j < ks.length) (h' : j < L.length),good ks[j] L[j].toNat=false -> goodArgs ks L=false
 | t :: ts,c :: cs,0,_,_,hg=>by
  simp only [List.getElem_cons_zero] at hg
  simp only [goodArgs,hg,Bool.false_and]
 | t :: ts,c :: cs,j + 1,h,h',hg=>by
  simp only [goodArgs,goodArgs_no ts cs j (by simpa using h) (by simpa using h') hg,Bool.and_false]
theorem good_other (k x : ByteArray) (ks : List Tree) (ih : ∀ (j : Nat) (hj : j < ks.length),GoodC ks[j])
  (k1 : (k.toList == [65,110,121])=false) (k2 : (k.toList == [78,105,108])=false) (k3 : (k.toList == [83,116,114,105,110,103])=false) (k4 : (k.toList == [76,105,115,116])=false)
  (k5 : (k.toList == [66,105,110,100,105,110,103])=false) (k6 : (k.toList == [79,114])=false) (k7 : (k.toList == [78,111,116])=false) : GoodC (.mk k x ks):=by
 intro c a cap w hT
 obtain ⟨-,hc,hl,hK⟩:=hT
 have HG:=Lib.hid (show good (.mk k x ks) c=(!textLetter c && named k && x.toList == [] && ks.length == (args k).length && goodArgs ks (asked k).toList) by rw [good_mk];simp [k1,k2,k3,k4,k5,k6,k7])
 simp only [treeV,Tree.kind,Tree.text,Tree.kids]
 rcases textLetter_cases c with ⟨ht,hcc⟩ | ⟨ht,h1,h2⟩
 ·have HT:=Lib.hid ht
  clear ht
  rcases hcc with rfl | rfl
  all_goals
   go_enter Tryz.func22,Tryz.ntmps22
   go_wp2_with fail
   refine (args_calls _ _).mono ?_
   rintro e w1 ⟨a1,c1,rfl,hs,hE⟩
   go_wp2_with fail
   go_ret
   exact ⟨ret_bool (by rw [HG.out,HT.out];rfl),hE.of_alloc⟩
 ·have HT:=Lib.hid ht
  clear ht
  go_enter Tryz.func22,Tryz.ntmps22
  go_wp2_with fail
  refine (args_calls _ _).mono ?_
  rintro e w1 ⟨a1,c1,rfl,hs,hE⟩
  have hE2:=hE.of_alloc
  obtain ⟨hr,hf,hz⟩:=hE.rules
  simp at hr hf hz
  go_wp2_with fail
  refine (named_calls _ _).mono ?_
  rintro e w2 ⟨rfl,hE3⟩
  have hE4:=hE.trans hE3
  have hE5:=hE4.of_alloc
  clear hr hf hz
  obtain ⟨hr,hf,hz⟩:=hE4.rules
  simp at hr hf hz
  cases hn : named k
  ·have HN:=Lib.hid hn
   clear hn
   go_wp2_with fail
   go_ret
   exact ⟨ret_bool (by rw [HG.out,HT.out,HN.out];rfl),hE5⟩
  ·have HN:=Lib.hid hn
   clear hn
   cases hx : (x.toList == [])
   ·have hx':=isEmpty_not hx
    have HX:=Lib.hid hx
    clear hx
    go_wp2_with fail
    go_ret
    exact ⟨ret_bool (by rw [HG.out,HT.out,HN.out,HX.out];rfl),hE5⟩
   ·have hx':=isEmpty_of hx
    have HX:=Lib.hid hx
    clear hx
    have hal:=args_asked k
    by_cases hlen : ks.length=(args k).length
    ·have HL:=Lib.hid hlen
     rw [<- hlen] at hal
     have hb : (((ks.length : Int)) != ((args k).length : Int))=false:=by rw [hlen];simp
     clear hlen
     go_wp2_with fail
     go_loopw [194] (fun i w'=>∃ j : Nat,i=.int .i64 j /\ j <= ks.length /\ goodArgs (ks.take j) (asked k).toList=true /\ Ext w2 w') (fun i _=>ks.length - (intOf i).toNat)
     case atStart=>exact ⟨0,rfl,Nat.zero_le _,rfl,Ext.refl _⟩
     case round =>
      obtain ⟨j,rfl,hj,hga,hB⟩:=hrel
      have HB:=Lib.hid hga
      clear hga
      have hB2:=hE4.trans hB
      have hB3:=hE5.trans hB
      clear hr hf hz
      obtain ⟨hr,hf,hz⟩:=hB2.rules
      simp at hr hf hz
      by_cases hlt : j < ks.length
      ·have hlt2 : j < (asked k).toList.length:=by omega
       have hlt3 : j < (asked k).size:=by rw [<- size_toList];exact hlt2
       have hget:=Lib.hid (get_toList (asked k) j hlt3)
       obtain ⟨b,o,a',c',rfl,hbl,p0,p1,p2,hkt⟩:=kid_at hK j hlt
       have Hi:=Lib.hid (show GoodC ks[j] from ih j hlt)
       go_wp2_with fail
       have hz2 : w.heap.size < wr.heap.size:=by omega
       refine wp_region_still_tail 5 (by kernel_rfl) (by kernel_rfl) ?_
       simp only [List.take_succ_cons,List.take_zero,List.drop_succ_cons,List.drop_zero]
       change wpStill _ _ (World.drew _) (fun a'=>wpList _ _ _ _ a' (World.drew _)) _ _
       repeat still_step
       still_call ((letterOf_calls k j _ hlt3 (Nat.le_trans (asked_le k) (by decide))).mono fun _ _ ⟨q1,q2⟩=>⟨q1,q2.symm⟩)
       refine wpStill_nil ?_
       go_wp2_with fail
       refine (Hi.out _ a' c' _ (hkt.mono (hB3.trans ((Ext.alloc _ _).trans (Ext.drew _))))).mono ?_
       rintro e w3 ⟨rfl,hb3⟩
       have hb4:=hb3.of_drew.of_alloc
       cases hbj : good ks[j] (asked k)[j].toNat
       ·have HJ:=Lib.hid hbj
        go_wp2_with fail
        go_ret
        refine ⟨ret_bool ?_,hB3.trans hb4⟩
        rw [HG.out,goodArgs_no ks _ j hlt hlt2 (by rw [hget.out];exact HJ.out),Bool.and_false]
       ·have HJ:=Lib.hid hbj
        go_wp2_with fail
        refine ⟨⟨j + 1,by go_num,by omega,?_,hB.trans hb4⟩,by simp [intOf];omega⟩
        rw [goodArgs_take ks _ j hlt hlt2,HB.out,hget.out,HJ.out];rfl
      ·obtain rfl : j=ks.length:=by omega
       have HE:=Lib.hid (List.take_of_length_le (Nat.le_refl ks.length))
       go_wp2_with fail
       go_ret
       refine ⟨ret_bool ?_,hB3⟩
       rw [HE.out] at HB
       rw [HG.out,HT.out,HN.out,HX.out,HB.out,HL.out];simp
    ·have hb : (((ks.length : Int)) != ((args k).length : Int))=true:=by rw [bne_iff_ne];omega
     have HL:=Lib.hid (show (ks.length == (args k).length)=false from beq_eq_false_iff_ne.2 hlen)
     clear hlen
     go_wp2_with fail
     go_ret
     exact ⟨ret_bool (by rw [HG.out,HT.out,HN.out,HX.out,HL.out];rfl),hE5⟩
theorem good_calls (t : Tree) : GoodC t:=by
 induction t using Tree.ind with | h t ih=>?_
 obtain ⟨k,x,ks⟩:=t
 simp only [Tree.kids] at ih
 cases k1 : (k.toList == [65,110,121])
 ·cases k2 : (k.toList == [78,105,108])
  ·cases k3 : (k.toList == [83,116,114,105,110,103])
   ·cases k4 : (k.toList == [76,105,115,116])
    ·cases k5 : (k.toList == [66,105,110,100,105,110,103])
     ·cases k6 : (k.toList == [79,114])
      ·cases k7 : (k.toList == [78,111,116])
       ·exact good_other k x ks ih k1 k2 k3 k4 k5 k6 k7
       ·obtain rfl:=beq_lit k7;exact good_not x ks ih
      ·obtain rfl:=beq_lit k6;exact good_or x ks ih
     ·obtain rfl:=beq_lit k5;exact good_binding x ks ih
    ·obtain rfl:=beq_lit k4;exact good_list x ks ih
   ·obtain rfl:=beq_lit k3;exact good_string x ks
  ·exact good_any k x ks (.inr (beq_lit k2))
 ·exact good_any k x ks (.inl (beq_lit k1))
end Go.Proofs.YtigalkobmfbdaaaGreatDoor
