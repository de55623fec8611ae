/- Small functions of the reference (package spec): words, names, signs, arguments of a kind. Texts are at most 2^47 bytes long. -/
import Derived.Test.YtigalkobmfbdaaaGreatDoorTabZ2
set_option linter.unusedVariables false
set_option linter.unusedSimpArgs false
set_option maxRecDepth 100000
set_option maxHeartbeats 1000000
namespace Go.Proofs.YtigalkobmfbdaaaGreatDoor
open Go.RowKit
def args (k : ByteArray) : List ByteArray :=
 if k.toList == [67,111,109,112,111,115,105,116,101,76,105,116] || k.toList == [83,108,105,99,101,69,120,112,114] then (fields k).dropLast
 else if k.toList == [69,109,112,116,121,83,116,109,116] || k.toList == [80,97,114,101,110,69,120,112,114] || k.toList == [69,120,112,114,83,116,109,116] || k.toList == [66,108,111,99,107,83,116,109,116] || k.toList == [76,97,98,101,108,101,100,83,116,109,116] then []
 else fields k
def named (k : ByteArray) : Bool:=decide (0 < (args k).length) || k.toList == [69,109,112,116,121,83,116,109,116]
theorem toList_mk (l : List UInt8) : (⟨l.toArray⟩ : ByteArray).toList=l:=by rw [ByteArray.toList_eq]
theorem beq_lit {k : ByteArray} {l : List UInt8} (h : (k.toList == l)=true) : k=⟨l.toArray⟩:=toList_inj ((eq_of_beq h).trans (toList_mk l).symm)
theorem ret_slice {a : Option Addr} {n m c : Nat} (h : n=m) : Ending.returned (.slice a n c)=.returned (.slice a m c):=by rw [h]
theorem fields_le (k : ByteArray) : (fields k).length <= 5:=by
 rcases sw_cases k fieldsT [] with ⟨h,_⟩ | ⟨x,hx,_,h⟩
 ·simp [fields,h]
 ·have : ∀ x ∈ fieldsT,x.2.length <= 5:=by decide
  unfold fields;rw [h];exact this x hx
theorem StrsAt.dropLast {w : World} {a : Option Addr} {l : List ByteArray} (h : StrsAt w a l) : StrsAt w a l.dropLast:=fun j hj=>by
 have hj' : j < l.length:=by rw [List.length_dropLast] at hj;omega
 obtain ⟨b,o,ha,hb,hc⟩:=h j hj'
 exact ⟨b,o,ha,hb,by rw [hc,List.getElem_dropLast]⟩
theorem args_calls (k : ByteArray) (w : World) : Calls Tryz.prog 50 #[.string k] w fun e w'=>∃ a c,e=.returned (.slice a (args k).length c) /\ StrsAt w' a (args k) /\ Ext w w':=by
 have key : k=⟨#[67,111,109,112,111,115,105,116,101,76,105,116]⟩ \/ k=⟨#[83,108,105,99,101,69,120,112,114]⟩ \/ ((k.toList == [67,111,109,112,111,115,105,116,101,76,105,116])=false /\ (k.toList == [83,108,105,99,101,69,120,112,114])=false):=by
  by_cases h : (k.toList == [67,111,109,112,111,115,105,116,101,76,105,116])=true
  ·exact .inl (beq_lit h)
  ·by_cases h' : (k.toList == [83,108,105,99,101,69,120,112,114])=true
   ·exact .inr (.inl (beq_lit h'))
   ·exact .inr (.inr ⟨by simpa using h,by simpa using h'⟩)
 rcases key with rfl | rfl | ⟨h1,h2⟩
 ·go_enter Tryz.func50,Tryz.ntmps50
  go_wp2_with fail
  refine (fields_calls _ _).mono ?_
  rintro e w' ⟨a,c,rfl,hl,hl',hs,hE⟩
  have eA:=Lib.hid (show args ⟨#[67,111,109,112,111,115,105,116,101,76,105,116]⟩=(fields ⟨#[67,111,109,112,111,115,105,116,101,76,105,116]⟩).dropLast by decide +kernel)
  have eL:=Lib.hid (show 2=(args ⟨#[67,111,109,112,111,115,105,116,101,76,105,116]⟩).length by decide +kernel)
  have e3 : (fields ⟨#[67,111,109,112,111,115,105,116,101,76,105,116]⟩).length=3:=by decide +kernel
  rw [e3] at hl hl' ⊢
  go_wp2_with fail
  go_ret
  exact ⟨a,c,ret_slice eL.out,by rw [eA.out];exact hs.dropLast,hE⟩
 ·go_enter Tryz.func50,Tryz.ntmps50
  go_wp2_with fail
  refine (fields_calls _ _).mono ?_
  rintro e w' ⟨a,c,rfl,hl,hl',hs,hE⟩
  have eA:=Lib.hid (show args ⟨#[83,108,105,99,101,69,120,112,114]⟩=(fields ⟨#[83,108,105,99,101,69,120,112,114]⟩).dropLast by decide +kernel)
  have eL:=Lib.hid (show 4=(args ⟨#[83,108,105,99,101,69,120,112,114]⟩).length by decide +kernel)
  have e3 : (fields ⟨#[83,108,105,99,101,69,120,112,114]⟩).length=5:=by decide +kernel
  rw [e3] at hl hl' ⊢
  go_wp2_with fail
  go_ret
  exact ⟨a,c,ret_slice eL.out,by rw [eA.out];exact hs.dropLast,hE⟩
 ·by_cases h3 : (k.toList == [69,109,112,116,121,83,116,109,116] || k.toList == [80,97,114,101,110,69,120,112,114] || k.toList == [69,120,112,114,83,116,109,116] || k.toList == [66,108,111,99,107,83,116,109,116] || k.toList == [76,97,98,101,108,101,100,83,116,109,116])=true
  ·have hA:=Lib.hid (show args k=[] by unfold args;rw [h1,h2,h3];rfl)
   have hk : k=⟨#[69,109,112,116,121,83,116,109,116]⟩ \/ k=⟨#[80,97,114,101,110,69,120,112,114]⟩ \/ k=⟨#[69,120,112,114,83,116,109,116]⟩ \/ k=⟨#[66,108,111,99,107,83,116,109,116]⟩ \/ k=⟨#[76,97,98,101,108,101,100,83,116,109,116]⟩:=by
    simp only [Bool.or_eq_true] at h3
    rcases h3 with (((h | h) | h) | h) | h
    ·exact .inl (beq_lit h)
    ·exact .inr (.inl (beq_lit h))
    ·exact .inr (.inr (.inl (beq_lit h)))
    ·exact .inr (.inr (.inr (.inl (beq_lit h))))
    ·exact .inr (.inr (.inr (.inr (beq_lit h))))
   clear h1 h2 h3
   rcases hk with rfl | rfl | rfl | rfl | rfl
   all_goals
    go_enter Tryz.func50,Tryz.ntmps50
    go_wp2_with fail
    go_ret
    exact ⟨none,0,by rw [hA.out];rfl,by rw [hA.out];exact StrsAt.nil _ _,Ext.refl _⟩
  ·have h3' : (k.toList == [69,109,112,116,121,83,116,109,116])=false /\ (k.toList == [80,97,114,101,110,69,120,112,114])=false /\ (k.toList == [69,120,112,114,83,116,109,116])=false /\ (k.toList == [66,108,111,99,107,83,116,109,116])=false /\ (k.toList == [76,97,98,101,108,101,100,83,116,109,116])=false:=by
    rw [Bool.not_eq_true] at h3
    simp only [Bool.or_eq_false_iff] at h3
    exact ⟨h3.1.1.1.1,h3.1.1.1.2,h3.1.1.2,h3.1.2,h3.2⟩
   have hA:=Lib.hid (show args k=fields k by unfold args;rw [h1,h2,if_neg (by decide),if_neg h3])
   clear h3
   obtain ⟨h3,h4,h5,h6,h7⟩:=h3'
   go_enter Tryz.func50,Tryz.ntmps50
   go_wp2_with fail
   refine (fields_calls _ _).mono ?_
   rintro e w' ⟨a,c,rfl,hl,hl',hs,hE⟩
   go_wp2_with fail
   go_ret
   exact ⟨a,c,by rw [hA.out];rfl,by rw [hA.out];exact hs,hE⟩
theorem named_calls (k : ByteArray) (w : World) : Calls Tryz.prog 49 #[.string k] w fun e w'=>e=.returned (.bool (named k)) /\ Ext w w':=by
 go_enter Tryz.func49,Tryz.ntmps49
 go_wp2_with fail
 refine (args_calls _ _).mono ?_
 rintro e w' ⟨a,c,rfl,hs,hE⟩
 by_cases h : 0 < (args k).length
 ·have hN:=Lib.hid (show named k=true by unfold named;rw [decide_eq_true h];rfl)
  go_wp2_with fail
  go_ret
  exact ⟨ret_bool (by rw [hN.out]),hE⟩
 ·have hN:=Lib.hid (show named k=(k.toList == [69,109,112,116,121,83,116,109,116]) by unfold named;rw [decide_eq_false h];rfl)
  go_wp2_with fail
  go_ret
  exact ⟨ret_bool (by rw [hN.out]),hE⟩
theorem size_toList (s : ByteArray) : s.toList.length=s.size:=by rw [ByteArray.toList_eq];rfl
theorem get_toList (s : ByteArray) (j : Nat) (h : j < s.size) : s.toList[j]'(by rw [size_toList];exact h)=s[j]:=by
 simp only [ByteArray.toList_eq];rfl
theorem all_take_succ {α : Type} (f : α -> Bool) (l : List α) (j : Nat) (h : j < l.length) : (l.take (j + 1)).all f=((l.take j).all f && f l[j]):=by
 rw [List.take_succ_eq_append_getElem h,List.all_append];simp only [List.all_cons,List.all_nil,Bool.and_true]
theorem all_of_get {α : Type} (f : α -> Bool) (l : List α) (j : Nat) (h : j < l.length) (hf : f l[j]=false) : l.all f=false:=by
 rw [Bool.eq_false_iff];intro h';rw [List.all_eq_true.1 h' _ (List.getElem_mem h)] at hf;cases hf
def wordB (c : UInt8) : Bool:=(97 <= c && c <= 122) || (48 <= c && c <= 57) || c == 95
def word (l : List UInt8) : Bool:=l.all wordB && decide (1 <= l.length) && decide (l.length <= 10)
theorem wordB_iff (c : UInt8) : wordB c=true ↔ (97 <= c.toNat /\ c.toNat <= 122) \/ (48 <= c.toNat /\ c.toNat <= 57) \/ c.toNat=95:=by
 unfold wordB
 rw [Bool.or_eq_true,Bool.or_eq_true,Bool.and_eq_true,Bool.and_eq_true,beq_iff_eq,decide_eq_true_eq,decide_eq_true_eq,decide_eq_true_eq,decide_eq_true_eq,UInt8.le_iff_toNat_le,UInt8.le_iff_toNat_le,UInt8.le_iff_toNat_le,UInt8.le_iff_toNat_le,<- UInt8.toNat_inj,or_assoc]
 rfl
theorem wordB_no {c : UInt8} (h : wordB c=false) : ((97 : Int) <= c.toNat /\ (122 : Int) < c.toNat /\ ((c.toNat : Int) == 95)=false) \/ ((c.toNat : Int) < 97 /\ (57 : Int) < c.toNat /\ ((c.toNat : Int) == 95)=false) \/ (c.toNat : Int) < 48 /\ ((c.toNat : Int) == 95)=false:=by
 have hb : ¬ _:=mt (wordB_iff c).2 (by rw [h];decide)
 by_cases h1 : (97 : Int) <= c.toNat
 ·exact .inl ⟨h1,by omega,beq_eq_false_iff_ne.2 (by omega)⟩
 ·have h3 : ((c.toNat : Int) == 95)=false:=beq_eq_false_iff_ne.2 (by omega)
  by_cases h2 : (c.toNat : Int) < 48
  ·exact .inr (.inr ⟨h2,h3⟩)
  ·exact .inr (.inl ⟨by omega,by omega,h3⟩)
theorem wordB_yes {c : UInt8} (h : wordB c=true) : ((97 : Int) <= c.toNat /\ (c.toNat : Int) <= 122) \/ ((c.toNat : Int) < 97 /\ (48 : Int) <= c.toNat /\ (c.toNat : Int) <= 57) \/ ((c.toNat : Int) < 97 /\ (57 : Int) < c.toNat /\ ((c.toNat : Int) == 95)=true):=by
 rcases (wordB_iff c).1 h with h | h | h
 ·exact .inl ⟨by omega,by omega⟩
 ·exact .inr (.inl ⟨by omega,by omega,by omega⟩)
 ·exact .inr (.inr ⟨by omega,by omega,beq_iff_eq.2 (by omega)⟩)
theorem take_size (s : ByteArray) : s.toList.take s.size=s.toList:=List.take_of_length_le (by rw [size_toList];exact Nat.le_refl _)
theorem any_take_succ {α : Type} (f : α -> Bool) (l : List α) (j : Nat) (h : j < l.length) : (l.take (j + 1)).any f=((l.take j).any f || f l[j]):=by
 rw [List.take_succ_eq_append_getElem h,List.any_append];simp only [List.any_cons,List.any_nil,Bool.or_false]
theorem any_of_get {α : Type} (f : α -> Bool) (l : List α) (j : Nat) (h : j < l.length) (hf : f l[j]=true) : l.any f=true :=
 List.any_eq_true.2 ⟨_,List.getElem_mem h,hf⟩
theorem among_calls (l : List ByteArray) (a : Option Addr) (c : Nat) (s : ByteArray) (w : World) (hs : StrsAt w a l) (hl : l.length <= 140737488351232) :
  Calls Tryz.prog 58 #[.slice a l.length c,.string s] w fun e w'=>e=.returned (.bool (l.any fun x=>x.toList == s.toList)) /\ w=w':=by
 go_enter Tryz.func58,Tryz.ntmps58
 go_wp2_with fail
 go_loop [9] (fun i=>∃ j : Nat,i=.int .i64 j /\ j <= l.length /\ ((l.take j).any fun x=>x.toList == s.toList)=false) (fun i=>l.length - (intOf i).toNat)
 case atStart=>exact ⟨0,rfl,Nat.zero_le _,rfl⟩
 case round =>
  obtain ⟨j,rfl,hj,ha⟩:=hrel
  have HA:=Lib.hid ha
  clear ha
  by_cases hlt : j < l.length
  ·obtain ⟨b,o,rfl,hb,hc⟩:=hs j hlt
   cases hwb : (l[j].toList == s.toList)
   ·go_wp2_with fail
    have HB:=Lib.hid hwb
    exact ⟨⟨j + 1,by go_num,by omega,by rw [any_take_succ _ _ _ hlt,HA.out,HB.out];rfl⟩,by simp [intOf];omega⟩
   ·go_wp2_with fail
    go_ret
    exact ⟨ret_bool (by rw [any_of_get _ _ j hlt hwb]),rfl⟩
  ·obtain rfl : j=l.length:=by omega
   have HE:=Lib.hid (List.take_of_length_le (Nat.le_refl l.length))
   go_wp2_with fail
   go_ret
   exact ⟨ret_bool (by rw [<- HE.out,HA.out]),rfl⟩
theorem word_calls (s : ByteArray) (w : World) (hs : s.size <= 140737488351232) : Calls Tryz.prog 43 #[.string s] w fun e w'=>e=.returned (.bool (word s.toList)) /\ w=w':=by
 go_enter Tryz.func43,Tryz.ntmps43
 go_wp2_with fail
 go_loop [7] (fun i=>∃ j : Nat,i=.int .i64 j /\ j <= s.size /\ (s.toList.take j).all wordB=true) (fun i=>s.size - (intOf i).toNat)
 case atStart=>exact ⟨0,rfl,Nat.zero_le _,rfl⟩
 case round =>
  obtain ⟨j,rfl,hj,ha⟩:=hrel
  have HA:=Lib.hid ha
  clear ha
  by_cases hlt : j < s.size
  ·have hlt' : j < s.toList.length:=by rw [size_toList];exact hlt
   have hget:=Lib.hid (get_toList s j hlt)
   cases hwb : wordB s[j]
   ·have HB:=Lib.hid hwb
    have hn:=wordB_no hwb
    clear hwb
    rcases hn with ⟨h1,h2,h3⟩ | ⟨h1,h2,h3⟩ | ⟨h1,h3⟩
    all_goals
     go_wp2_with fail
     all_goals first
      | (go_ret;exact ⟨ret_bool (by unfold word;rw [all_of_get _ _ j hlt' (by rw [hget.out];exact HB.out)];rfl),rfl⟩)
      | (exfalso;rename_i hx;simp only [Bool.not_eq_eq_eq_not,Bool.not_false,decide_eq_true_eq] at hx;omega)
   ·have HB:=Lib.hid hwb
    have hn:=wordB_yes hwb
    clear hwb
    rcases hn with ⟨h1,h2⟩ | ⟨h1,h2,h3⟩ | ⟨h1,h2,h3⟩
    all_goals
     go_wp2_with fail
     exact ⟨⟨j + 1,by go_num,by omega,by rw [all_take_succ _ _ _ hlt',HA.out,hget.out,HB.out];rfl⟩,by simp [intOf];omega⟩
  ·obtain rfl : j=s.size:=by omega
   have HE:=Lib.hid (take_size s)
   by_cases h1 : 1 <= s.size
   all_goals
    go_wp2_with fail
    go_ret
    refine ⟨ret_bool ?_,rfl⟩
    unfold word
    rw [<- HE.out,HA.out,HE.out,size_toList,Bool.eq_iff_iff]
    simp;try omega
theorem letterOf_calls (k : ByteArray) (i : Nat) (w : World) (hi : i < (asked k).size) (hs : (asked k).size <= 140737488351232) : Calls Tryz.prog 51 #[.string k,.int .i64 i] w fun e w'=>e=.returned (.int .u8 (asked k)[i].toNat) /\ w=w':=by
 go_enter Tryz.func51,Tryz.ntmps51
 go_wp2_with fail
 refine (asked_calls k _).mono ?_
 rintro e w' ⟨rfl,rfl⟩
 go_wp2_with fail
 go_ret
 exact ⟨rfl,rfl⟩
def signKinds : List ByteArray:=[⟨#[66,97,115,105,99,76,105,116]⟩,⟨#[66,105,110,97,114,121,69,120,112,114]⟩,⟨#[85,110,97,114,121,69,120,112,114]⟩,⟨#[65,115,115,105,103,110,83,116,109,116]⟩,⟨#[73,110,99,68,101,99,83,116,109,116]⟩]
def sign (s : ByteArray) : Bool:=signKinds.any fun k=>(tokens k).any fun x=>x.toList == s.toList
theorem tokens_le (k : ByteArray) : (tokens k).length <= 10:=by
 rcases sw_cases k tokensT [] with ⟨h,_⟩ | ⟨x,hx,_,h⟩
 ·simp [tokens,h]
 ·have : ∀ x ∈ tokensT,x.2.length <= 10:=by decide
  unfold tokens;rw [h];exact this x hx
theorem sign_calls (s : ByteArray) (w : World) : Calls Tryz.prog 46 #[.string s] w fun e w'=>e=.returned (.bool (sign s)) /\ Ext w w':=by
 go_enter Tryz.func46,Tryz.ntmps46
 go_wp2_with fail
 have hS : StrsAt (strsV w signKinds).2 (some ⟨w.heap.size,0,none⟩) signKinds:=by
  obtain ⟨a,c,h1,_,_,h⟩:=strsV_at w signKinds
  have : a=some ⟨w.heap.size,0,none⟩:=by injection h1 with h1;exact h1.symm
  rw [<- this];exact h
 have hS0 : Ext w (strsV w signKinds).2:=strsV_ext _ _
 go_loopw [7] (fun i w'=>∃ j : Nat,i=.int .i64 j /\ j <= 5 /\ ((signKinds.take j).any fun k=>(tokens k).any fun x=>x.toList == s.toList)=false /\ Ext (strsV w signKinds).2 w') (fun i _=>5 - (intOf i).toNat)
 case atStart=>exact ⟨0,rfl,Nat.zero_le _,rfl,Ext.refl _⟩
 case round =>
  obtain ⟨j,rfl,hj,ha,hE⟩:=hrel
  have HA:=Lib.hid ha
  clear ha
  by_cases hlt : j < 5
  ·obtain ⟨b,o,ha,hb,hc⟩:=(hS.mono hE) j hlt
   injection ha with ha
   injection ha with hb1 ho
   subst hb1 ho
   rw [Nat.zero_add] at hc
   go_wp2_with fail
   refine (tokens_calls _ _).mono ?_
   rintro e w1 ⟨a,c,rfl,hl,hl',hs,hE1⟩
   have ht:=tokens_le signKinds[j]
   go_wp2_with fail
   refine (among_calls _ _ _ _ _ hs (by omega)).mono ?_
   rintro e w2 ⟨rfl,rfl⟩
   cases hwb : ((tokens signKinds[j]).any fun x=>x.toList == s.toList)
   ·have HB:=Lib.hid hwb
    go_wp2_with fail
    exact ⟨⟨j + 1,by go_num,by omega,by rw [any_take_succ _ _ _ hlt,HA.out,HB.out];rfl,hE.trans hE1⟩,by simp [intOf];omega⟩
   ·have HB:=Lib.hid hwb
    go_wp2_with fail
    go_ret
    exact ⟨ret_bool (by unfold sign;rw [any_of_get _ signKinds j hlt HB.out]),hS0.trans (hE.trans hE1)⟩
  ·obtain rfl : j=5:=by omega
   go_wp2_with fail
   go_ret
   exact ⟨ret_bool (by unfold sign;exact HA.out.symm),hS0.trans hE⟩
def nameB (c : UInt8) : Bool:=97 <= c && c <= 122
def name (l : List UInt8) : Bool:=l.all nameB && decide (1 <= l.length) && decide (l.length <= 6) && l != [110,105,108]
theorem nameB_iff (c : UInt8) : nameB c=true ↔ 97 <= c.toNat /\ c.toNat <= 122:=by
 unfold nameB
 rw [Bool.and_eq_true,decide_eq_true_eq,decide_eq_true_eq,UInt8.le_iff_toNat_le,UInt8.le_iff_toNat_le]
 rfl
theorem nameB_no {c : UInt8} (h : nameB c=false) : (c.toNat : Int) < 97 \/ ((97 : Int) <= c.toNat /\ (122 : Int) < c.toNat):=by
 have hb : ¬ _:=mt (nameB_iff c).2 (by rw [h];decide)
 omega
theorem nameB_yes {c : UInt8} (h : nameB c=true) : ((97 : Int) <= c.toNat /\ (c.toNat : Int) <= 122):=by
 have:=(nameB_iff c).1 h;omega
theorem name_calls (s : ByteArray) (w : World) (hs : s.size <= 140737488351232) : Calls Tryz.prog 48 #[.string s] w fun e w'=>e=.returned (.bool (name s.toList)) /\ w=w':=by
 go_enter Tryz.func48,Tryz.ntmps48
 go_wp2_with fail
 go_loop [6] (fun i=>∃ j : Nat,i=.int .i64 j /\ j <= s.size /\ (s.toList.take j).all nameB=true) (fun i=>s.size - (intOf i).toNat)
 case atStart=>exact ⟨0,rfl,Nat.zero_le _,rfl⟩
 case round =>
  obtain ⟨j,rfl,hj,ha⟩:=hrel
  have HA:=Lib.hid ha
  clear ha
  by_cases hlt : j < s.size
  ·have hlt' : j < s.toList.length:=by rw [size_toList];exact hlt
   have hget:=Lib.hid (get_toList s j hlt)
   cases hwb : nameB s[j]
   ·have HB:=Lib.hid hwb
    have hn:=nameB_no hwb
    clear hwb
    rcases hn with h1 | ⟨h1,h2⟩
    all_goals
     go_wp2_with fail
     all_goals first
      | (go_ret;exact ⟨ret_bool (by unfold name;rw [all_of_get _ _ j hlt' (by rw [hget.out];exact HB.out)];rfl),rfl⟩)
      | (exfalso;rename_i hx;simp only [Bool.not_eq_eq_eq_not,Bool.not_false,decide_eq_true_eq] at hx;omega)
   ·have HB:=Lib.hid hwb
    obtain ⟨h1,h2⟩:=nameB_yes hwb
    clear hwb
    go_wp2_with fail
    exact ⟨⟨j + 1,by go_num,by omega,by rw [all_take_succ _ _ _ hlt',HA.out,hget.out,HB.out];rfl⟩,by simp [intOf];omega⟩
  ·obtain rfl : j=s.size:=by omega
   have HE:=Lib.hid (take_size s)
   by_cases h1 : 1 <= s.size
   ·by_cases h2 : s.size <= 6
    ·go_wp2_with fail
     go_ret
     refine ⟨ret_bool ?_,rfl⟩
     unfold name
     rw [<- HE.out,HA.out,HE.out,size_toList,decide_eq_true h1,decide_eq_true h2]
     rfl
    ·have h2' : (6 : Int) < s.size:=by omega
     go_wp2_with fail
     go_ret
     refine ⟨ret_bool ?_,rfl⟩
     unfold name
     rw [<- HE.out,HA.out,HE.out,size_toList,decide_eq_true h1,decide_eq_false h2]
     rfl
   ·go_wp2_with fail
    go_ret
    refine ⟨ret_bool ?_,rfl⟩
    unfold name
    rw [<- HE.out,HA.out,HE.out,size_toList,decide_eq_false h1]
    rfl
end Go.Proofs.YtigalkobmfbdaaaGreatDoor
