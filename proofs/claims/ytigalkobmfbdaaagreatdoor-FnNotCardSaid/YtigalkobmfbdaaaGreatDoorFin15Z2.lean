/- FnNot: what a pattern without names matches, Not of it does not, and the other way. No condition of its own: for every input. The tables of Go's library that the row lists are tied to the program's text. -/
import Derived.Test.YtigalkobmfbdaaaGreatDoorFactsZ2
import Derived.Test.YtigalkobmfbdaaaGreatDoorLaw15Z2
set_option linter.unusedVariables false
set_option linter.unusedSimpArgs false
set_option maxRecDepth 100000
namespace Go.Proofs.YtigalkobmfbdaaaGreatDoor
open Go.ChangeShapes Go.WideShapes Go.ChangeAt Go.RowKit
theorem params15 : Tryz.f15.params.toList=[24,52]:=by kernel_rfl
theorem results15 : Tryz.f15.resultTypes.toList=[4]:=by kernel_rfl
theorem x15_9 : (Rows.fnNotRow.inPlace == Tryz.prog.inPlace 15)=true:=by kernel_rfl
theorem x15_10 : (Rows.fnNotRow.unfollowed == Tryz.prog.unfollowed 15)=true:=by kernel_rfl
theorem x15_11 : (Rows.fnNotRow.recurses == Tryz.prog.recurses 15)=true:=by kernel_rfl
theorem x15_12 : (Rows.fnNotRow.named == Tryz.prog.varsNamed 15)=true:=by kernel_rfl
theorem closed15 : joinedFacts Tryz.pinned.checked.prog 15 Tryz.f15 Rows.fnNotSpec Rows.fnNotRow=true :=
 joined_of (f:=15) (fn:=Tryz.f15) (s:=Rows.fnNotSpec) (c:=Rows.fnNotRow) (by kernel_rfl) (by kernel_rfl) (by kernel_rfl) (by kernel_rfl) (by kernel_rfl) x15_9 x15_10 x15_11 x15_12 (by kernel_rfl) (by kernel_rfl) (by kernel_rfl) (by kernel_rfl) (by kernel_rfl) (by kernel_rfl) (by kernel_rfl) (by kernel_rfl) (by kernel_rfl) rfl (by kernel_rfl) rfl rfl (by kernel_rfl) (by kernel_rfl) (by kernel_rfl) (by kernel_rfl)
theorem lifted15 (os : Os) (started : os.Started) (H : Type) (enc : TypeId × Value -> H) :
  ReturnsInHanded {} Tryz.checked os 15 .any (fun w args=>(Rows.fnNotSpec.pre enc Tryz.prog Tryz.f15 Rows.fnNotRow.domain false w args /\ laidMetH Tryz.prog laidL w) /\ sizedMet enc Tryz.prog Tryz.f15 (OpenSpec.ofChange Rows.fnNotSpec) false w args)
   (Rows.fnNotSpec.post enc Tryz.prog Tryz.f15 false true false false):=by
 refine returnsInHanded_of_change_and (C:=Tryz.checked) (X:=fun w _=>laidMetH Tryz.prog laidL w) (fun _ _ _ hh h=>h.of_heap hh) own started (by kernel_rfl) Tryz.func15
  (ChangeSpec.witness_shaped (enc:=enc) (C:=Tryz.checked) (os:=os) (X:=fun w _=>laidMetH Tryz.prog laidL w) false (World.laidAll Tryz.prog os laidL) #[.agg #[.string ⟨#[]⟩,.string ⟨#[]⟩,.slice none 0 0],.agg #[.string ⟨#[]⟩,.bool false,.string ⟨#[]⟩,.int .i64 0,.slice none 0 0]] 8 (World.laidAll_os _ _ _)
   (World.shaped_of_ZipB (by kernel_rfl) (by kernel_rfl)) (by kernel_rfl) (by kernel_rfl) (by kernel_rfl)
   (by rw [MakeChecks.laidMetH_plain _ _ _ (by kernel_rfl)];exact laidMet_laidAll _ (by kernel_rfl) (by kernel_rfl))) ?_
 intro W base args ds gs before hval0 hW hc hsz hL _
 have hval : ∀ (j : Nat) t v,Tryz.f15.params[j]?=some t -> args[j]?=some v -> Value.okWide Tryz.prog W .any base t v:=hval0
 have hsz2 : (DataW.weightsEach Tryz.prog ([24,52] ++ []) (ds ++ gs)).all (· <= reachBytes)=true:=hsz
 have hW':=hW
 obtain ⟨p,q,hA0,hV,rfl,hfz,hnd⟩:=hW
 have hA : DataW.TrodAll enc Tryz.prog W 0 (fun _=>true) true Tryz.f15.params.toList args.toList ds p:=hA0
 rw [params15] at hA
 obtain ⟨v0,v1,d0,d1,p0,p1,rfl,rfl,rfl,h0,h1⟩:=trodAll_two hA
 obtain ⟨rfl,rfl⟩:=trodVars_none hV
 obtain ⟨t0,a0,c0,rfl,ht0⟩:=open_tree (hval 0 24 v0 rfl rfl) h0 (fun n hn=>by
  have:=List.all_eq_true.1 hsz2 n (DataW.weights_mem_each (j:=0) rfl rfl n hn)
  simpa using this)
 obtain ⟨t1,a1,c1,rfl,ht1⟩:=open_syn (hval 1 52 v1 rfl rfl) h1 (fun n hn=>by
  have:=List.all_eq_true.1 hsz2 n (DataW.weights_mem_each (j:=1) rfl rfl n hn)
  simpa using this)
 refine (not_law t0 a0 c0 t1 a1 c1 W ht0 ht1 (tab_of_laid hL)).mono fun e W' ⟨he,hE⟩=>?_
 subst he
 exact ⟨_,rfl,law_post params15 results15 (by kernel_rfl) rfl rfl hW' hE (by kernel_rfl)⟩
theorem said15 : Rows.FnNotSaid :=
 OpenClaim.holds_of_wide 15 Tryz.f15 rfl rfl rfl rfl rfl rfl rfl ⟨rfl,rfl,rfl,rfl,rfl⟩ rfl rfl rfl rfl rfl (by kernel_rfl) Tryz.func15 closed15
  (of_decide_eq_true (by kernel_rfl)) (by unfold Func.isWrapper;first | (rw [if_pos (by decide +kernel)];kernel_rfl) | (rw [if_neg (by decide +kernel)];exact ⟨rfl,rfl⟩))
  (fun os started H enc _=>lifted15 os started H enc)
theorem y15_wf : Rows.fnNotRow.wfByText (OpenSpec.ofChange Rows.fnNotSpec)=true:=by kernel_rfl
theorem y15_goes : false=Rows.fnNotRow.goesBy Tryz.pinned.checked.prog:=by kernel_rfl
theorem y15_stand : ([24,52].all fun u=>!Tryz.prog.wantsStandIn u)=true:=by kernel_rfl
theorem y15_name : Tryz.prog.funcNamed "loop.example/pub-g03264/laws.FnNot"=some 15:=by kernel_rfl
theorem fnNot_holds : Rows.FnNotCardSaid :=
 Claim7.holds_tied_plain_at .later [] [.data,.listed,.data,.pinned,.pinned,.pinned] true (true,"45aed9cc55dc6d68f0b14cb90fd0a26ae0b24895b21d11b3721641f397322362") true said15 (fun _ h=>by cases h) y15_wf (fun _ h=>by cases h) fnNot_row_tie rfl ⟨rfl,rfl⟩ fMain rfl
  (fun f fn hf hfn=>by
   obtain rfl : f=15:=(Option.some.inj (y15_name.symm.trans hf)).symm
   obtain rfl : fn=Tryz.f15:=(Option.some.inj (Tryz.func15.symm.trans hfn)).symm
   exact ⟨fLooks,fun j t ht=>by
    have hm : t ∈ [24,52]:=by rw [<- params15];simpa using Array.mem_of_getElem? ht
    exact (show Tryz.prog.wantsStandIn t=false by simpa using List.all_eq_true.1 y15_stand t hm)⟩)
  y15_goes
#print axioms fnNot_holds
end Go.Proofs.YtigalkobmfbdaaaGreatDoor
