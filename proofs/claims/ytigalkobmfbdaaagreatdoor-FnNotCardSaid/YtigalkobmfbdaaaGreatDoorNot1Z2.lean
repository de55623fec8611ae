/- FnNot: the text, and what the words say of Not of a pattern. -/
import Derived.Test.YtigalkobmfbdaaaGreatDoorMix2u
import Derived.Test.YtigalkobmfbdaaaGreatDoorMix2s
set_option linter.unusedVariables false
set_option linter.unusedSimpArgs false
namespace Go.Proofs.YtigalkobmfbdaaaGreatDoor
open Go.RowKit Go.WideMaps Go.Sort
abbrev negT (p : Tree) : Tree:=.mk ⟨#[78,111,116]⟩ noT [p]
abbrev notT (p : Tree) : Tree:=.mk ⟨#[79,114]⟩ noT [negT p]
theorem text_notT (p : Tree) : text 0 (notT p)=(⟨#[40,79,114,32,40,78,111,116,32]⟩ ++ text 0 p) ++ ⟨#[41,41]⟩:=by
 have hg : gapOf 0=⟨#[32]⟩:=by decide +kernel
 apply toList_inj
 rw [text_mk]
 simp only [toList_mk]
 simp (decide:=true) only [↓reduceIte]
 simp only [textAll,hg]
 rw [text_mk]
 simp only [toList_mk]
 simp (decide:=true) only [↓reduceIte]
 simp only [textAll,hg]
 have hl : ∀ a b : ByteArray,(a ++ b).toList=a.toList ++ b.toList:=fun a b=>by simp only [ByteArray.toList_eq,ByteArray.data_append,Array.toList_append]
 simp only [hl,toList_mk]
 simp
theorem notT_good {p : Tree} (hg : good p 97=true) (hb : binds p=false) : good (notT p) 97=true:=by
 rw [good_mk]
 simp only [toList_mk]
 simp (decide:=true) only [↓reduceIte]
 rw [goodAll,goodAll,good_mk]
 simp only [toList_mk]
 simp (decide:=true) only [↓reduceIte]
 have hba : bindsAny [p]=false:=by rw [bindsAny_eq];simp [hb]
 rw [hg,hba]
 rfl
theorem nested_nobind (p : Tree) : binds p=false -> ∀ wi,nestedT p wi=nestedT p false:=by
 refine Tree.ind (P:=fun p=>binds p=false -> ∀ wi,nestedT p wi=nestedT p false) ?_ p
 intro t ih hb wi
 obtain ⟨k,x,ks⟩:=t
 have hb0:=hb
 rw [binds_eq,Bool.or_eq_false_iff] at hb
 simp only [kids_mk,kind_mk] at ih hb
 have ihm : ∀ t ∈ ks,∀ wi,nestedT t wi=nestedT t false:=fun t ht=>by
  have hbt : binds t=false:=by
   have:=List.any_eq_false.1 hb.1 t ht
   simpa using this
  obtain ⟨j,hj,rfl⟩:=List.getElem_of_mem ht
  exact ih j hj hbt
 have hl : ∀ (l : List Tree),(∀ t ∈ l,t ∈ ks) -> ∀ wi,nestedAny l wi=nestedAny l false:=by
  intro l
  induction l with
  | nil=>intro _ wi;rw [nestedAny,nestedAny]
  | cons q qs ihq =>
   intro h wi
   rw [nestedAny,nestedAny,ihm q (h q (by simp)) wi,ihq (fun t ht=>h t (List.mem_cons_of_mem _ ht)) wi]
 rw [nestedT_mk,nestedT_mk,hb0,hl ks (fun t ht=>ht) (wi || _),hl ks (fun t ht=>ht) (false || _)]
 simp
theorem notT_nested {p : Tree} (hn : nestedT p false=false) (hb : binds p=false) : nestedT (notT p) false=false:=by
 rw [nestedT_mk,nestedAny,nestedAny,nestedT_mk,nestedAny,nestedAny,nested_nobind p hb,hn]
 simp only [toList_mk]
 simp (decide:=true)
theorem notT_sp (p : Tree) {n : Syn} (hn : RS n) (hb : binds p=false) : (sp (notT p) n [] false).ok=!(sp p n [] false).ok /\ (sp (notT p) n [] false).op=(sp p n [] false).op:=by
 rw [sp_mk]
 simp only [toList_mk]
 simp (decide:=true) only [↓reduceIte]
 rw [spOr_bare hn,spOr,spOr,sp_mk]
 simp only [toList_mk]
 simp (decide:=true) only [↓reduceIte]
 rw [sp_bare hn]
 cases h : (sp p n [] false).ok <;> simp
theorem notT_binds {p : Tree} (hb : binds p=false) : binds (notT p)=false:=by
 rw [binds_eq]
 simp only [kids_mk,kind_mk,List.any_cons,List.any_nil,Bool.or_false]
 rw [binds_eq]
 simp only [kids_mk,kind_mk,List.any_cons,List.any_nil,hb,Bool.or_false,Bool.false_or]
 simp only [toList_mk]
 decide
theorem notT_pn (p : Tree) : (toPN (notT p) []).1=.or [.struct ⟨#[78,111,116]⟩ [(toPN p []).1]]:=by
 rw [toPN_mk]
 simp only [toList_mk]
 simp (decide:=true) only [↓reduceIte]
 rw [toPNs_cons,toPNs,toPN_mk]
 simp only [toList_mk]
 simp (decide:=true) only [↓reduceIte]
 rw [toPNs_cons,toPNs]
theorem not_match {p : Tree} {n : Syn} (hF : FairP p n) (hf : first p=true) (hb : binds p=false) (ho : (sp p n [] false).op=false) {X : Nat -> Prop} {w : World} {a : Option Addr} {c : Nat} (hS : SynIn X w a c n) (hT : TabAt w) :
  Calls Tryz.prog 37 #[.string ((⟨#[40,79,114,32,40,78,111,116,32]⟩ ++ text 0 p) ++ ⟨#[41,41]⟩),synV n a c] w (MatchRes w (!(sp p n [] false).ok) []):=by
 have hG:=notT_good hF.hg hb
 have hN:=notT_nested hF.nest hb
 have hc : count (notT p)=count p + 2:=by simp only [count,countAll]
 have h60:=hF.cnt
 have h700:=hF.len
 have h1:=hF.parts
 have h2:=hF.deep
 have hl:=namesT_len (notT p)
 obtain ⟨hok,hop⟩:=notT_sp p hF.nb.1 hb
 obtain ⟨o,hm,-⟩:=link_all (notT p) 97 hG false hN [] (namesT (notT p)) (by rw [toPN_names_nil _ hG];exact List.prefix_refl _) (by omega) n [] false hF.nb (by rw [hop];exact ho)
 rw [hok,sp_nobind _ (notT_binds hb)] at hm
 obtain ⟨E,hE⟩:=first_entry p 97 hF.hg hf [] []
 have hE2 : entryN (toPN (notT p) []).1 []=some E:=by
  rw [notT_pn,entryN,entryNs,entryN_struct]
  simp only [toList_mk]
  simp (decide:=true) only [↓reduceIte]
  rw [hE]
  simp only [entryNs]
 obtain ⟨f1,f2,f3,f4⟩:=toPN_fit (notT p) 97 hG []
 obtain ⟨e1,e2⟩:=toTree_toPN (notT p) 97 hG []
 have hk : nodeKind (notT p)=true:=by
  unfold nodeKind
  simp only [kind_mk,toList_mk]
  decide
 have hR:=reads_node (s:=0) (al:=false) ((lex_text 0 (notT p)).1 97 hG) (((read_text 0 false (notT p)).1 97 hG).2.2 hk) (by omega) (by rw [toPN_names_nil _ hG];omega)
 rw [toPN_names_nil _ hG,text_notT] at hR
 have hz : ((⟨#[40,79,114,32,40,78,111,116,32]⟩ ++ text 0 p) ++ ⟨#[41,41]⟩ : ByteArray).size <= 1000:=by
  simp only [app_size]
  rw [show (⟨#[40,79,114,32,40,78,111,116,32]⟩ : ByteArray).size=9 from rfl,show (⟨#[41,41]⟩ : ByteArray).size=2 from rfl]
  omega
 have hnm : (namesT (notT p)).Nodup /\ (namesT (notT p)).length <= 64 /\ ∀ s ∈ namesT (notT p),s.length <= 100:=⟨namesT_nodup _,by omega,names_short _ (good_tame _ 97 hG)⟩
 rcases hF.right with hr | hr
 ·exact imatch_node hR hz (toPN_plain _ 97 hG []) (by omega) hE2 hnm (by rw [e1];exact good_tame _ 97 hG) e2 (fun ks e=>by rw [notT_pn] at e;cases e) (.inl rfl) hr (by omega) (by omega) hF.rz hm hS hT
 ·exact imatch_node hR hz (toPN_plain _ 97 hG []) (by omega) hE2 hnm (by rw [e1];exact good_tame _ 97 hG) e2 (fun ks e=>by rw [notT_pn] at e;cases e) (.inr rfl) hr (by omega) (by omega) hF.rz hm hS hT
end Go.Proofs.YtigalkobmfbdaaaGreatDoor
