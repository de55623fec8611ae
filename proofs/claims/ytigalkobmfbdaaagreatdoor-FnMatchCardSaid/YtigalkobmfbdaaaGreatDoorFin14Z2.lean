/- FnMatch: a pattern matches a part of a syntax exactly if the words say so. No condition of its own: for every input. The tables of Go's library that the row lists are tied to the program's text. -/
import Derived.Test.YtigalkobmfbdaaaGreatDoorFactsZ2
import Derived.Test.YtigalkobmfbdaaaGreatDoorLaw14Z2
set_option linter.unusedVariables false
set_option linter.unusedSimpArgs false
set_option maxRecDepth 100000
namespace Go.Proofs.YtigalkobmfbdaaaGreatDoor
open Go.ChangeShapes Go.WideShapes Go.ChangeAt Go.RowKit
theorem params14 : Tryz.f14.params.toList=[24,52,5]:=by kernel_rfl
theorem results14 : Tryz.f14.resultTypes.toList=[4]:=by kernel_rfl
theorem x14_9 : (Rows.fnMatchRow.inPlace == Tryz.prog.inPlace 14)=true:=by kernel_rfl
theorem x14_10 : (Rows.fnMatchRow.unfollowed == Tryz.prog.unfollowed 14)=true:=by kernel_rfl
theorem x14_11 : (Rows.fnMatchRow.recurses == Tryz.prog.recurses 14)=true:=by kernel_rfl
theorem x14_12 : (Rows.fnMatchRow.named == Tryz.prog.varsNamed 14)=true:=by kernel_rfl
theorem closed14 : joinedFacts Tryz.pinned.checked.prog 14 Tryz.f14 Rows.fnMatchSpec Rows.fnMatchRow=true :=
 joined_of (f:=14) (fn:=Tryz.f14) (s:=Rows.fnMatchSpec) (c:=Rows.fnMatchRow) (by kernel_rfl) (by kernel_rfl) (by kernel_rfl) (by kernel_rfl) (by kernel_rfl) x14_9 x14_10 x14_11 x14_12 (by kernel_rfl) (by kernel_rfl) (by kernel_rfl) (by kernel_rfl) (by kernel_rfl) (by kernel_rfl) (by kernel_rfl) (by kernel_rfl) (by kernel_rfl) rfl (by kernel_rfl) rfl rfl (by kernel_rfl) (by kernel_rfl) (by kernel_rfl) (by kernel_rfl)
theorem lifted14 (os : Os) (started : os.Started) (H : Type) (enc : TypeId × Value -> H) :
  ReturnsInHanded {} Tryz.checked os 14 .any (fun w args=>(Rows.fnMatchSpec.pre enc Tryz.prog Tryz.f14 Rows.fnMatchRow.domain false w args /\ laidMetH Tryz.prog laidL w) /\ sizedMet enc Tryz.prog Tryz.f14 (OpenSpec.ofChange Rows.fnMatchSpec) false w args)
   (Rows.fnMatchSpec.post enc Tryz.prog Tryz.f14 false true false false):=by
 refine returnsInHanded_of_change_and (C:=Tryz.checked) (X:=fun w _=>laidMetH Tryz.prog laidL w) (fun _ _ _ hh h=>h.of_heap hh) own started (by kernel_rfl) Tryz.func14
  (ChangeSpec.witness_shaped (enc:=enc) (C:=Tryz.checked) (os:=os) (X:=fun w _=>laidMetH Tryz.prog laidL w) false (World.laidAll Tryz.prog os laidL) #[.agg #[.string ⟨#[]⟩,.string ⟨#[]⟩,.slice none 0 0],.agg #[.string ⟨#[]⟩,.bool false,.string ⟨#[]⟩,.int .i64 0,.slice none 0 0],.int .u8 0] 8 (World.laidAll_os _ _ _)
   (World.shaped_of_ZipB (by kernel_rfl) (by kernel_rfl)) (by kernel_rfl) (by kernel_rfl) (by kernel_rfl)
   (by rw [MakeChecks.laidMetH_plain _ _ _ (by kernel_rfl)];exact laidMet_laidAll _ (by kernel_rfl) (by kernel_rfl))) ?_
 intro W base args ds gs before hval0 hW hc hsz hL _
 have hval : ∀ (j : Nat) t v,Tryz.f14.params[j]?=some t -> args[j]?=some v -> Value.okWide Tryz.prog W .any base t v:=hval0
 have hsz2 : (DataW.weightsEach Tryz.prog ([24,52,5] ++ []) (ds ++ gs)).all (· <= reachBytes)=true:=hsz
 have hW':=hW
 obtain ⟨p,q,hA0,hV,rfl,hfz,hnd⟩:=hW
 have hA : DataW.TrodAll enc Tryz.prog W 0 (fun _=>true) true Tryz.f14.params.toList args.toList ds p:=hA0
 rw [params14] at hA
 obtain ⟨v0,v1,v2,d0,d1,d2,p0,p1,p2,rfl,rfl,rfl,h0,h1,h2⟩:=trodAll_three hA
 obtain ⟨rfl,rfl⟩:=trodVars_none hV
 obtain ⟨t0,a0,c0,rfl,ht0⟩:=open_tree (hval 0 24 v0 rfl rfl) h0 (fun n hn=>by
  have:=List.all_eq_true.1 hsz2 n (DataW.weights_mem_each (j:=0) rfl rfl n hn)
  simpa using this)
 obtain ⟨t1,a1,c1,rfl,ht1⟩:=open_syn (hval 1 52 v1 rfl rfl) h1 (fun n hn=>by
  have:=List.all_eq_true.1 hsz2 n (DataW.weights_mem_each (j:=1) rfl rfl n hn)
  simpa using this)
 obtain ⟨b2,rfl,rfl,rfl,wf2⟩:=open_int (k:=.u8) (by kernel_rfl) (hval 2 5 v2 rfl rfl) h2
 refine (match_law t0 a0 c0 t1 a1 c1 b2 W ht0 ht1 wf2 (tab_of_laid hL)).mono fun e W' ⟨he,hE⟩=>?_
 subst he
 exact ⟨_,rfl,law_post params14 results14 (by kernel_rfl) rfl rfl hW' hE (by kernel_rfl)⟩
theorem said14 : Rows.FnMatchSaid :=
 OpenClaim.holds_of_wide 14 Tryz.f14 rfl rfl rfl rfl rfl rfl rfl ⟨rfl,rfl,rfl,rfl,rfl⟩ rfl rfl rfl rfl rfl (by kernel_rfl) Tryz.func14 closed14
  (of_decide_eq_true (by kernel_rfl)) (by unfold Func.isWrapper;first | (rw [if_pos (by decide +kernel)];kernel_rfl) | (rw [if_neg (by decide +kernel)];exact ⟨rfl,rfl⟩))
  (fun os started H enc _=>lifted14 os started H enc)
theorem y14_wf : Rows.fnMatchRow.wfByText (OpenSpec.ofChange Rows.fnMatchSpec)=true:=by kernel_rfl
theorem y14_goes : false=Rows.fnMatchRow.goesBy Tryz.pinned.checked.prog:=by kernel_rfl
theorem y14_stand : ([24,52,5].all fun u=>!Tryz.prog.wantsStandIn u)=true:=by kernel_rfl
theorem y14_name : Tryz.prog.funcNamed "loop.example/pub-g03264/laws.FnMatch"=some 14:=by kernel_rfl
theorem fnMatch_holds : Rows.FnMatchCardSaid :=
 Claim7.holds_tied_plain_at .later [] [.data,.listed,.data,.pinned,.pinned,.pinned] true (true,"45aed9cc55dc6d68f0b14cb90fd0a26ae0b24895b21d11b3721641f397322362") true said14 (fun _ h=>by cases h) y14_wf (fun _ h=>by cases h) fnMatch_row_tie rfl ⟨rfl,rfl⟩ fMain rfl
  (fun f fn hf hfn=>by
   obtain rfl : f=14:=(Option.some.inj (y14_name.symm.trans hf)).symm
   obtain rfl : fn=Tryz.f14:=(Option.some.inj (Tryz.func14.symm.trans hfn)).symm
   exact ⟨fLooks,fun j t ht=>by
    have hm : t ∈ [24,52,5]:=by rw [<- params14];simpa using Array.mem_of_getElem? ht
    exact (show Tryz.prog.wantsStandIn t=false by simpa using List.all_eq_true.1 y14_stand t hm)⟩)
  y14_goes
#print axioms fnMatch_holds
end Go.Proofs.YtigalkobmfbdaaaGreatDoor
