/- The reference's number of parts and the thin package's are one. -/
import Derived.Test.YtigalkobmfbdaaaGreatDoorMix2g
import Derived.Test.YtigalkobmfbdaaaGreatDoorMix2i
import Derived.Test.YtigalkobmfbdaaaGreatDoorMix2k
import Derived.Test.YtigalkobmfbdaaaGreatDoorMix2s
set_option linter.unusedVariables false
set_option linter.unusedSimpArgs false
namespace Go.Proofs.YtigalkobmfbdaaaGreatDoor
open Go.RowKit
theorem partsL_stop (ts : List Syn) (s : Int × Int) (h : s.2 <= 0) : partsL ts s=s:=by
 cases ts with
 | nil=>rw [partsL]
 | cons t ts=>rw [partsL,if_pos h]
theorem partsL_count (ts : List Syn) (ih : ∀ (j : Nat) (hj : j < ts.length) (n : Int),1 <= n -> 1 <= (partsF ts[j] n).2 -> (partsF ts[j] n).2=n - countS ts[j] /\ (partsF ts[j] n).1=depthS ts[j]) :
  ∀ s : Int × Int,0 <= s.1 -> 1 <= (partsL ts s).2 -> (partsL ts s).2=s.2 - countSs ts /\ (partsL ts s).1=max s.1 (depthSs ts):=by
 induction ts with
 | nil =>
  intro s h0 h1
  simp only [partsL,countSs,depthSs]
  omega
 | cons t ts iht =>
  intro s h0 h1
  unfold partsL at h1 ⊢
  split at h1
  ·rename_i h;omega
  ·rename_i h
   rw [if_neg h]
   have hl : 1 <= (partsF t s.2).2:=by
    refine Decidable.byContradiction fun hc=>?_
    rw [partsL_stop _ _ (by simp only;omega)] at h1
    exact hc h1
   have h2:=ih 0 (by simp) s.2 (by omega) hl
   simp only [List.getElem_cons_zero] at h2
   have h3:=iht (fun j hj n hn h=>by
    have:=ih (j + 1) (by simpa using hj) n hn
    simp only [List.getElem_cons_succ] at this
    exact this h) (max s.1 (partsF t s.2).1,(partsF t s.2).2) (by simp only;omega) h1
   simp only at h3
   simp only [countSs,depthSs]
   omega
theorem partsF_count (t : Syn) : ∀ n : Int,1 <= n -> 1 <= (partsF t n).2 -> (partsF t n).2=n - countS t /\ (partsF t n).1=depthS t:=by
 induction t using Syn.ind with | h t ih=>?_
 intro n hn h1
 rw [partsF_eq] at h1 ⊢
 have:=partsL_count t.kids ih (0,n - 1) (by simp) h1
 obtain ⟨k,nl,x,m,ks⟩:=t
 simp only [skids_mk] at *
 rw [countS_mk,depthS_mk]
 omega
mutual
theorem sizeS_count : ∀ t : Syn,sizeS t + 1 <= 2 * countS t
 | .mk _ _ _ _ ks=>by have:=sizeSs_count ks;simp only [sizeS,countS];omega
theorem sizeSs_count : ∀ ts : List Syn,sizeSs ts <= 2 * countSs ts
 | []=>by simp [sizeSs,countSs]
 | t :: ts=>by have:=sizeS_count t;have:=sizeSs_count ts;simp only [sizeSs,countSs];omega
end
theorem parts_fit {t : Syn} {m d : Int} (hm : (partsOf t).1 <= m) (hd : (partsOf t).2 <= d) (hm2 : m <= 120) : (countS t : Int) <= m /\ (depthS t : Int) <= d /\ sizeS t <= 40000:=by
 unfold partsOf at hm hd
 simp only at hm hd
 have:=partsF_count t 1000 (by omega) (by omega)
 have:=sizeS_count t
 omega
end Go.Proofs.YtigalkobmfbdaaaGreatDoor
set_option maxRecDepth 100000
set_option maxHeartbeats 4000000
namespace Go.Proofs.YtigalkobmfbdaaaGreatDoor
open Go.RowKit Go.WideMaps Go.Sort
abbrev identS (s : ByteArray) : Syn:=.mk ⟨#[73,100,101,110,116]⟩ false ⟨#[]⟩ 0 [.mk ⟨#[115,116,114,105,110,103]⟩ false s 0 []]
theorem ident_calls (s : ByteArray) (hs : s.size <= 140737488351232) (w : World) : Calls Tryz.prog 44 #[.string s] w fun e w'=>(∃ a c,e=.returned (synV (identS s) a c) /\ SynIn (fun b=>w.heap.size <= b) w' a c (identS s)) /\ Ext w w':=by
 simp only [synV,skind_mk,snull_mk,stext_mk,snum_mk,skids_mk]
 go_enter Tryz.func44,Tryz.ntmps44
 go_wp2_with fail
 have hB1:=(Blk.new w #[.string ⟨#[73,100,101,110,116]⟩,.bool false,.string ⟨#[]⟩,.int .i64 0,.slice (some ⟨w.heap.size + 1,0,none⟩) 1 1] 52).ext (Ext.alloc _ (.cells #[.string ⟨#[115,116,114,105,110,103]⟩,.bool false,.string s,.int .i64 0,.slice none 0 0] 52))
 have hB2:=Blk.new (w.alloc (.cells #[.string ⟨#[73,100,101,110,116]⟩,.bool false,.string ⟨#[]⟩,.int .i64 0,.slice (some ⟨w.heap.size + 1,0,none⟩) 1 1] 52)) #[.string ⟨#[115,116,114,105,110,103]⟩,.bool false,.string s,.int .i64 0,.slice none 0 0] 52
 rw [show (w.alloc (.cells #[.string ⟨#[73,100,101,110,116]⟩,.bool false,.string ⟨#[]⟩,.int .i64 0,.slice (some ⟨w.heap.size + 1,0,none⟩) 1 1] 52)).heap.size=w.heap.size + 1 by simp] at hB2
 refine bodyPost_ret (results_c rfl _ _ w.heap.size 52 #[.string ⟨#[73,100,101,110,116]⟩,.bool false,.string ⟨#[]⟩,.int .i64 0,.slice (some ⟨w.heap.size + 1,0,none⟩) 1 1] rfl hB1 row52 size52) rfl ?_
 obtain ⟨p0,p1,p2,p3,p4⟩:=Blk5 hB2
 refine ⟨⟨_,_,rfl,?_⟩,(Ext.alloc _ _).trans (Ext.alloc _ _)⟩
 rw [SynIn]
 refine ⟨⟨by decide,by decide,by decide⟩,Nat.le_refl _,by decide,?_⟩
 rw [SynsIn]
 exact ⟨_,_,none,0,rfl,by omega,p0,p1,p2,p3,p4,by rw [SynIn];exact ⟨⟨by decide,hs,by decide⟩,Nat.le_refl _,by decide,trivial⟩,trivial⟩
def pIdent : Tree:=.mk ⟨#[73,100,101,110,116]⟩ ⟨#[]⟩ [.mk ⟨#[66,105,110,100,105,110,103]⟩ ⟨#[113]⟩ []]
theorem pIdent_facts : good pIdent 97=true /\ nodeKind pIdent=true /\ count pIdent <= 60 /\ text 0 pIdent=⟨#[40,73,100,101,110,116,32,113,41]⟩:=by
 refine ⟨?_,?_,?_,?_⟩ <;> decide +kernel
theorem pIdent_names : namesT pIdent=[[113]]:=by decide +kernel
theorem pIdent_mt : mt (namesT pIdent) false (toPN pIdent []).1 (identS ⟨#[120]⟩) []=some (true,identS ⟨#[120]⟩,[([113],.mk ⟨#[115,116,114,105,110,103]⟩ false ⟨#[120]⟩ 0 [])]):=by kernel_rfl
theorem pIdent_entry : ∃ E,entryN (toPN pIdent []).1 []=some E:=⟨[[73,100,101,110,116]],by kernel_rfl⟩
theorem identX_right : right (identS ⟨#[120]⟩) 101 ⟨#[]⟩=true:=by decide +kernel
theorem identX_count : countS (identS ⟨#[120]⟩)=2 /\ depthS (identS ⟨#[120]⟩) <= 31 /\ sizeS (identS ⟨#[120]⟩) <= 40000:=by decide +kernel
theorem identX_rz : RZ (identS ⟨#[120]⟩):=⟨⟨101,by decide,⟨#[]⟩,identX_right⟩,identX_count.2.2⟩
theorem alive_calls {w : World} (hT : TabAt w) : Calls Tryz.prog 39 #[] w fun e w'=>e=.returned (.bool true) /\ Ext w w':=by
 go_enter Tryz.func39,Tryz.ntmps39
 go_wp2_with fail
 refine (ident_calls ⟨#[120]⟩ (by decide) w).mono ?_
 rintro e w1 ⟨⟨a,c,rfl,hS⟩,hE1⟩
 obtain ⟨E,hE⟩:=pIdent_entry
 have HM : Hid (Calls Tryz.prog 37 #[.string ⟨#[40,73,100,101,110,116,32,113,41]⟩,synV (identS ⟨#[120]⟩) a c] w1 (MatchRes w1 true [([113],.mk ⟨#[115,116,114,105,110,103]⟩ false ⟨#[120]⟩ 0 [])])):=Lib.hid (by
  rw [<- pIdent_facts.2.2.2]
  exact imatch_good pIdent_facts.1 pIdent_facts.2.1 pIdent_facts.2.2.1 (by rw [pIdent_facts.2.2.2];decide) hE (by rw [pIdent_names];decide) (.inl rfl) identX_right (by rw [identX_count.1];decide) identX_count.2.1 identX_rz pIdent_mt hS (hT.toExt hE1))
 have HE:=Lib.hid hE1
 clear hS hE1 hE
 simp only [synV,skind_mk,snull_mk,stext_mk,snum_mk,skids_mk] at *
 go_wp2_with fail
 refine HM.out.mono ?_
 rintro e w2 ⟨⟨a2,c2,rfl,-,-,-⟩,hE2⟩
 have HE2:=Lib.hid (HE.out.trans hE2)
 clear hE2
 rw [show ([([113],Syn.mk ⟨#[115,116,114,105,110,103]⟩ false ⟨#[120]⟩ 0 [])] : SL).length=1 from rfl]
 go_wp2_with fail
 go_ret
 exact ⟨rfl,HE2.out⟩
end Go.Proofs.YtigalkobmfbdaaaGreatDoor
