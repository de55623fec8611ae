/- The plain law of FnPrint: the text of style 0 is the shortest one; Colons. -/
import Derived.Test.YtigalkobmfbdaaaGreatDoorMix2s
import Derived.Test.YtigalkobmfbdaaaGreatDoorMix2u
set_option linter.unusedVariables false
set_option linter.unusedSimpArgs false
namespace Go.Proofs.YtigalkobmfbdaaaGreatDoor
open Go.RowKit
theorem bit0 (m : Int) (h : m=1 \/ m=2 \/ m=4 \/ m=8) : bit 0 m=false:=by
 rcases h with rfl | rfl | rfl | rfl <;> decide +kernel
theorem gap0 : gapOf 0=⟨#[32]⟩:=by decide +kernel
theorem gap0_size : (gapOf 0).size=1:=by rw [gap0];rfl
theorem spine_mk (s : Int) (k x : ByteArray) (ks : List Tree) : spine s (.mk k x ks)=(match ks with
  | a :: b :: _=>gapOf s ++ text s a ++ spine s b
  | _=>⟨#[]⟩):=by rcases ks with _ | ⟨a,_ | ⟨b,r⟩⟩ <;> simp only [spine]
theorem z0 : (ByteArray.mk #[]).size=0:=rfl
theorem zL : (⟨#[40,76,105,115,116]⟩ : ByteArray).size=5:=rfl
theorem z58 : (⟨#[58]⟩ : ByteArray).size=1:=rfl
theorem z91 : (⟨#[91]⟩ : ByteArray).size=1:=rfl
theorem z93 : (⟨#[93]⟩ : ByteArray).size=1:=rfl
theorem z41 : (⟨#[41]⟩ : ByteArray).size=1:=rfl
theorem zE : (⟨#[91,93]⟩ : ByteArray).size=2:=rfl
theorem zA : (⟨#[40,65,110,121,41]⟩ : ByteArray).size=5:=rfl
theorem zB : (⟨#[95]⟩ : ByteArray).size=1:=rfl
end Go.Proofs.YtigalkobmfbdaaaGreatDoor
namespace Go.Proofs.YtigalkobmfbdaaaGreatDoor
open Go.RowKit
theorem short_signs : ∀ k ∈ signKinds,∀ y ∈ tokens k,y.size <= 10:=by decide +kernel
theorem short_string {x : ByteArray} {ks : List Tree} {c : Int} (h : good (.mk ⟨#[83,116,114,105,110,103]⟩ x ks) c=true) : x.size <= 10:=by
 rw [good_mk] at h
 simp only [toList_mk] at h
 simp (decide:=true) only [↓reduceIte] at h
 simp only [Bool.and_eq_true,Bool.or_eq_true,beq_iff_eq,List.length_eq_zero_iff] at h
 rcases h.2 with h | h
 ·have:=h.2
  unfold word at this
  simp only [Bool.and_eq_true,decide_eq_true_eq,size_toList] at this
  exact this.2
 ·have:=h.2
  unfold sign at this
  obtain ⟨k,hk,h2⟩:=List.any_eq_true.1 this
  obtain ⟨y,hy,h3⟩:=List.any_eq_true.1 h2
  rw [<- toList_inj (eq_of_beq h3)]
  exact short_signs k hk y hy
theorem named_len : ∀ x ∈ fieldsT,named x.1=true -> 4 * (2 + x.1.size) <= 55 + 6 * (args x.1).length:=by decide +kernel
theorem node_len {k x : ByteArray} {ks : List Tree} {c : Int} (h : good (.mk k x ks) c=true) (h1 : (k.toList == [65,110,121])=false) (h2 : (k.toList == [78,105,108])=false) (h3 : (k.toList == [83,116,114,105,110,103])=false) (h4 : (k.toList == [76,105,115,116])=false) (h5 : (k.toList == [66,105,110,100,105,110,103])=false) : 4 * (2 + k.size) <= 55 + 6 * ks.length:=by
 rcases good_node_kind h h1 h2 h3 h4 h5 with ⟨rfl,-⟩ | ⟨rfl,-⟩ | ⟨hn,hl⟩
 ·rw [show (⟨#[79,114]⟩ : ByteArray).size=2 from rfl];omega
 ·rw [show (⟨#[78,111,116]⟩ : ByteArray).size=3 from rfl];omega
 ·obtain ⟨y,hy,rfl⟩:=named_key hn
  rw [hl]
  exact named_len y hy hn
theorem gap_high (s : Int) : (gapOf s).size <= 4:=gap_size s
theorem whole_parts {k x : ByteArray} {ks : List Tree} (h : (whole (.mk k x ks)).isSome=true) : (k.toList == [76,105,115,116])=true /\ (ks=[] \/ ∃ a b r,ks=a :: b :: r /\ (whole b).isSome=true):=by
 rw [whole_mk] at h
 have hk : (k.toList == [76,105,115,116])=true:=by
  cases e : (k.toList == [76,105,115,116]) with
  | true=>rfl
  | false=>rw [e] at h;cases h
 refine ⟨hk,?_⟩
 rw [hk,if_pos rfl] at h
 match ks,h with
 | [],_=>exact .inl rfl
 | [_],h=>cases h
 | a :: b :: r,h=>exact .inr ⟨a,b,r,rfl,by simpa using h⟩
def UpC (s : Int) (t : Tree) : Prop:=10 * (text s t).size + 40 <= 6 * (text 0 t).size + 95 * count t ∧
 ((whole t).isSome=true -> 10 * (text s t).size + 75 <= 6 * (spine 0 t).size + 95 * count t /\ 10 * (spine s t).size + 75 <= 6 * (spine 0 t).size + 95 * count t)
theorem up_all (s : Int) (t : Tree) : ∀ c,good t c=true -> UpC s t:=by
 refine Tree.ind (P:=fun t=>∀ c,good t c=true -> UpC s t) ?_ t
 clear t
 rintro ⟨k,x,ks⟩ ih c hg
 simp only [kids_mk] at ih
 have g0:=gap0_size
 have g1:=gap_high s
 rcases kind_cases k with rfl | rfl | rfl | rfl | rfl | hk
 ·obtain ⟨-,rfl⟩:=good_leaf_parts (.inl rfl) hg
  refine ⟨?_,fun h=>absurd (whole_parts h).1 (by simp only [toList_mk];decide)⟩
  rw [text_mk,text_mk]
  simp only [toList_mk]
  simp (decide:=true) only [↓reduceIte]
  simp only [zB,count,countAll]
  split
  ·rw [zA];omega
  ·rw [zB];omega
 ·obtain ⟨-,rfl⟩:=good_leaf_parts (.inr rfl) hg
  refine ⟨?_,fun h=>absurd (whole_parts h).1 (by simp only [toList_mk];decide)⟩
  rw [text_mk,text_mk]
  simp only [toList_mk]
  simp (decide:=true) only [↓reduceIte]
  simp only [show (⟨#[110,105,108]⟩ : ByteArray).size=3 from rfl,count,countAll]
  omega
 ·have hx:=short_string hg
  obtain ⟨-,rfl,-⟩:=good_string_parts hg
  refine ⟨?_,fun h=>absurd (whole_parts h).1 (by simp only [toList_mk];decide)⟩
  rw [text_mk,text_mk]
  simp only [toList_mk]
  simp (decide:=true) only [↓reduceIte]
  simp only [app_size,show (⟨#[34]⟩ : ByteArray).size=1 from rfl,count,countAll]
  omega
 ·obtain ⟨-,rfl | ⟨a,b,rfl,ha,-,hb⟩⟩:=good_list_parts hg
  ·have e : ∀ s,text s (.mk ⟨#[76,105,115,116]⟩ x [])=⟨#[91,93]⟩:=fun s=>by
    rw [text_mk]
    simp only [toList_mk]
    simp (decide:=true) only [↓reduceIte]
   unfold UpC
   rw [e,e,spine_mk,spine_mk]
   simp only [zE,z0,count,countAll]
   omega
  ·obtain ⟨a1,-⟩:=ih 0 (by simp) _ ha
   obtain ⟨b1,b2⟩:=ih 1 (by simp) _ hb
   simp only [List.getElem_cons_zero,List.getElem_cons_succ] at a1 b1 b2
   have hw : (whole (.mk ⟨#[76,105,115,116]⟩ x [a,b])).isSome=true -> (whole b).isSome=true:=fun h=>by
    rcases (whole_parts h).2 with h | ⟨a',b',r,e,h⟩
    ·cases h
    ·cases e;exact h
   have e : ∀ s,text s (.mk ⟨#[76,105,115,116]⟩ x [a,b])=(if bit s 4 || (heavy a && (!(whole b).isSome || bit s 2)) then ⟨#[40,76,105,115,116]⟩ ++ gapOf s ++ text s a ++ gapOf s ++ text s b ++ ⟨#[41]⟩
    else if !(whole b).isSome || bit s 2 then text s a ++ ⟨#[58]⟩ ++ text s b
    else ⟨#[91]⟩ ++ (text s a ++ spine s b) ++ ⟨#[93]⟩):=fun s=>by
    rw [text_mk]
    simp only [toList_mk]
    simp (decide:=true) only [↓reduceIte]
   have hc : count (.mk ⟨#[76,105,115,116]⟩ x [a,b])=count a + count b + 1:=by simp only [count,countAll];omega
   have ep : ∀ s,(spine s (.mk ⟨#[76,105,115,116]⟩ x [a,b])).size=(gapOf s).size + (text s a).size + (spine s b).size:=fun s=>by
    rw [spine_mk];simp only [app_size]
   unfold UpC
   rw [e,e,hc,ep,ep,bit0 4 (by simp),bit0 2 (by simp)]
   generalize (whole (.mk ⟨#[76,105,115,116]⟩ x [a,b])).isSome=wt at *
   generalize (whole b).isSome=wb at *
   generalize heavy a=hv
   generalize bit s 4=s4
   generalize bit s 2=s2
   cases wb with
   | true =>
    obtain ⟨b3,b4⟩:=b2 rfl
    clear b2 hw e ep
    cases hv <;> cases s4 <;> cases s2 <;> simp only [Bool.not_true,Bool.not_false,Bool.and_false,Bool.and_true,Bool.true_and,Bool.false_and,Bool.or_false,Bool.or_true,Bool.false_or,Bool.true_or,Bool.false_eq_true,if_false,if_true,app_size,g0,zL,z58,z91,z93,z41] <;> exact ⟨by omega,fun _=>⟨by omega,by omega⟩⟩
   | false =>
    have hwt : wt=false:=by
     cases wt
     ·rfl
     ·exact absurd (hw rfl) (by decide)
    subst hwt
    clear b2 hw e ep
    cases hv <;> cases s4 <;> cases s2 <;> simp only [Bool.not_true,Bool.not_false,Bool.and_false,Bool.and_true,Bool.true_and,Bool.false_and,Bool.or_false,Bool.or_true,Bool.false_or,Bool.true_or,Bool.false_eq_true,if_false,if_true,app_size,g0,zL,z58,z91,z93,z41] <;> exact ⟨by omega,fun h=>by cases h⟩
 ·obtain ⟨hx,hh⟩:=good_bind_parts hg
  have hx:=name_size hx
  refine ⟨?_,fun h=>absurd (whole_parts h).1 (by simp only [toList_mk];decide)⟩
  rw [text_mk,text_mk]
  simp only [toList_mk]
  simp (decide:=true) only [↓reduceIte]
  rcases hh with rfl | ⟨a,rfl,-,ha⟩
  ·simp only [count,countAll]
   omega
  ·obtain ⟨a1,-⟩:=ih 0 (by simp) _ ha
   simp only [List.getElem_cons_zero] at a1
   simp only [app_size,show (⟨#[64]⟩ : ByteArray).size=1 from rfl,count,countAll]
   omega
 ·have hk' : (k.toList == [65,110,121])=false /\ (k.toList == [78,105,108])=false /\ (k.toList == [83,116,114,105,110,103])=false /\ (k.toList == [76,105,115,116])=false /\ (k.toList == [66,105,110,100,105,110,103])=false:=by
   rcases hk with rfl | rfl | hk
   ·simp only [toList_mk];decide
   ·simp only [toList_mk];decide
   ·exact ⟨hk.1,hk.2.1,hk.2.2.1,hk.2.2.2.1,hk.2.2.2.2.1⟩
  obtain ⟨h1,h2,h3,h4,h5⟩:=hk'
  have hl:=node_len hg h1 h2 h3 h4 h5
  have hgk:=(good_node hg h1 h2 h3 h4 h5).1
  have hall : ∀ l : List Tree,(∀ t ∈ l,t ∈ ks) -> 10 * (textAll s l).size + 6 * l.length <= 6 * (textAll 0 l).size + 95 * countAll l:=by
   intro l
   induction l with
   | nil=>intro _;simp [textAll,countAll,z0]
   | cons u l ihl =>
    intro h
    have h1:=ihl fun t ht=>h t (List.mem_cons_of_mem _ ht)
    obtain ⟨j,hj,hju⟩:=List.getElem_of_mem (h u (by simp))
    obtain ⟨c',hc'⟩:=hgk u (h u (by simp))
    have h2:=(ih j hj c' (by rw [hju];exact hc')).1
    rw [hju] at h2
    simp only [textAll,app_size,countAll,List.length_cons]
    omega
  have ha:=hall ks fun t ht=>ht
  refine ⟨?_,fun h=>absurd (whole_parts h).1 (by rw [h4];decide)⟩
  rw [text_mk,text_mk,h1,h2,h3,h4,h5]
  simp only [Bool.false_eq_true,if_false,app_size,z41,show (⟨#[40]⟩ : ByteArray).size=1 from rfl,count]
  omega
theorem text_short (s : Int) {t : Tree} {c : Int} (hg : good t c=true) (hn : count t <= 60) (h0 : (text 0 t).size <= 700) : (text s t).size <= 1000:=by
 have:=(up_all s t c hg).1
 omega
end Go.Proofs.YtigalkobmfbdaaaGreatDoor
namespace Go.Proofs.YtigalkobmfbdaaaGreatDoor
open Go.RowKit Go.WideMaps Go.Sort
theorem fair_match {p : Tree} {n : Syn} (hF : FairP p n) (hf : first p=true) (ho : (sp p n [] false).op=false) (s : Int) {X : Nat -> Prop} {w : World} {a : Option Addr} {c : Nat} (hS : SynIn X w a c n) (hT : TabAt w) : Calls Tryz.prog 37 #[.string (text s p),synV n a c] w (MatchRes w (sp p n [] false).ok (sp p n [] false).S):=by
 obtain ⟨E,hE⟩:=first_entry p 97 hF.hg hf [] []
 obtain ⟨o,hm⟩:=hF.said ho
 have h1:=hF.parts
 have h2:=hF.deep
 rcases hF.right with hr | hr
 ·exact imatch_good hF.hg (first_node hf) hF.cnt (text_short s hF.hg hF.cnt hF.len) hE (names_short p (good_tame p 97 hF.hg)) (.inl rfl) hr (by omega) (by omega) hF.rz hm hS hT
 ·exact imatch_good hF.hg (first_node hf) hF.cnt (text_short s hF.hg hF.cnt hF.len) hE (names_short p (good_tame p 97 hF.hg)) (.inr rfl) hr (by omega) (by omega) hF.rz hm hS hT
end Go.Proofs.YtigalkobmfbdaaaGreatDoor
