/- A part of a syntax whose field holds what it can't hold, or has one too many, is refused. No condition of its own: for every input. The tables of Go's library that the row lists are tied to the program's text. -/
import Derived.Test.YtigalkobmfbdaaaGreatDoorFactsZ1
import Derived.Test.YtigalkobmfbdaaaGreatDoorLaw17Z1
set_option linter.unusedVariables false
set_option linter.unusedSimpArgs false
namespace Go.Proofs.YtigalkobmfbdaaaGreatDoor
open Go.ChangeShapes Go.WideShapes Go.ChangeAt Go.RowKit
theorem params17 : Tryz.f17.params.toList = [52, 4] := by kernel_rfl
theorem results17 : Tryz.f17.resultTypes.toList = [4] := by kernel_rfl
theorem x17_9 : (Rows.fnWrongRow.inPlace == Tryz.prog.inPlace 17) = true := by kernel_rfl
theorem x17_10 : (Rows.fnWrongRow.unfollowed == Tryz.prog.unfollowed 17) = true := by kernel_rfl
theorem x17_11 : (Rows.fnWrongRow.recurses == Tryz.prog.recurses 17) = true := by kernel_rfl
theorem x17_12 : (Rows.fnWrongRow.named == Tryz.prog.varsNamed 17) = true := by kernel_rfl
theorem closed17 : joinedFacts Tryz.pinned.checked.prog 17 Tryz.f17 Rows.fnWrongSpec Rows.fnWrongRow = true :=
  joined_of (f := 17) (fn := Tryz.f17) (s := Rows.fnWrongSpec) (c := Rows.fnWrongRow) (by kernel_rfl) (by kernel_rfl) (by kernel_rfl) (by kernel_rfl) (by kernel_rfl) x17_9 x17_10 x17_11 x17_12 (by kernel_rfl) (by kernel_rfl) (by kernel_rfl) (by kernel_rfl) (by kernel_rfl) (by kernel_rfl) (by kernel_rfl) (by kernel_rfl) (by kernel_rfl) rfl (by kernel_rfl) rfl rfl (by kernel_rfl) (by kernel_rfl) (by kernel_rfl) (by kernel_rfl)
set_option maxRecDepth 100000 in
theorem lifted17 (os : Os) (started : os.Started) (H : Type) (enc : TypeId × Value → H) :
    ReturnsInHanded {} Tryz.checked os 17 .any (fun w args => (Rows.fnWrongSpec.pre enc Tryz.prog Tryz.f17 Rows.fnWrongRow.domain false w args ∧ laidMetH Tryz.prog laidL w) ∧ sizedMet enc Tryz.prog Tryz.f17 (OpenSpec.ofChange Rows.fnWrongSpec) false w args)
      (Rows.fnWrongSpec.post enc Tryz.prog Tryz.f17 false true false false) := by
  refine returnsInHanded_of_change_and (C := Tryz.checked) (X := fun w _ => laidMetH Tryz.prog laidL w) (fun _ _ _ hh h => h.of_heap hh) own started (by kernel_rfl) Tryz.func17
    (ChangeSpec.witness_shaped (enc := enc) (C := Tryz.checked) (os := os) (X := fun w _ => laidMetH Tryz.prog laidL w) false (World.laidAll Tryz.prog os laidL) #[.agg #[.string ⟨#[]⟩, .bool false, .string ⟨#[]⟩, .int .i64 0, .slice none 0 0], .bool false] 8 (World.laidAll_os _ _ _)
      (World.shaped_of_ZipB (by kernel_rfl) (by kernel_rfl)) (by kernel_rfl) (by kernel_rfl) (by kernel_rfl)
      (by rw [MakeChecks.laidMetH_plain _ _ _ (by kernel_rfl)]; exact laidMet_laidAll _ (by kernel_rfl) (by kernel_rfl))) ?_
  intro W base args ds gs before hval0 hW hc hsz hL _
  have hval : ∀ (j : Nat) t v, Tryz.f17.params[j]? = some t → args[j]? = some v → Value.okWide Tryz.prog W .any base t v := hval0
  have hsz2 : (DataW.weightsEach Tryz.prog ([52, 4] ++ []) (ds ++ gs)).all (· ≤ reachBytes) = true := hsz
  have hW' := hW
  obtain ⟨p, q, hA0, hV, rfl, hfz, hnd⟩ := hW
  have hA : DataW.TrodAll enc Tryz.prog W 0 (fun _ => true) true Tryz.f17.params.toList args.toList ds p := hA0
  rw [params17] at hA
  obtain ⟨v0, v1, d0, d1, p0, p1, rfl, rfl, rfl, h0, h1⟩ := trodAll_two hA
  obtain ⟨rfl, rfl⟩ := trodVars_none hV
  obtain ⟨t0, a0, c0, rfl, ht0⟩ := open_syn (hval 0 52 v0 rfl rfl) h0 (fun n hn => by
    have := List.all_eq_true.1 hsz2 n (DataW.weights_mem_each (j := 0) rfl rfl n hn)
    simpa using this)
  obtain ⟨b1, rfl, rfl, rfl⟩ := open_bool (by kernel_rfl) (hval 1 4 v1 rfl rfl) h1
  refine (wrong_law t0 a0 c0 b1 W ht0 (tab_of_laid hL)).mono fun e W' ⟨he, hE⟩ => ?_
  subst he
  exact ⟨_, rfl, law_post params17 results17 (by kernel_rfl) rfl rfl hW' hE (by kernel_rfl)⟩
theorem said17 : Rows.FnWrongSaid :=
  OpenClaim.holds_of_wide 17 Tryz.f17 rfl rfl rfl rfl rfl rfl rfl ⟨rfl, rfl, rfl, rfl, rfl⟩ rfl rfl rfl rfl rfl (by kernel_rfl) Tryz.func17 closed17
    (of_decide_eq_true (by kernel_rfl)) (by unfold Func.isWrapper; first | (rw [if_pos (by decide +kernel)]; kernel_rfl) | (rw [if_neg (by decide +kernel)]; exact ⟨rfl, rfl⟩))
    (fun os started H enc _ => lifted17 os started H enc)
theorem y17_wf : Rows.fnWrongRow.wfByText (OpenSpec.ofChange Rows.fnWrongSpec) = true := by kernel_rfl
theorem y17_goes : false = Rows.fnWrongRow.goesBy Tryz.pinned.checked.prog := by kernel_rfl
theorem y17_stand : ([52, 4].all fun u => !Tryz.prog.wantsStandIn u) = true := by kernel_rfl
theorem y17_name : Tryz.prog.funcNamed "loop.example/pub-g03264/laws.FnWrong" = some 17 := by kernel_rfl
theorem fnWrong_holds : Rows.FnWrongCardSaid :=
  Claim7.holds_tied_plain_at .later [] [.data, .listed, .data, .pinned, .pinned, .pinned] true (true, "45aed9cc55dc6d68f0b14cb90fd0a26ae0b24895b21d11b3721641f397322362") true said17 (fun _ h => by cases h) y17_wf (fun _ h => by cases h) fnWrong_row_tie rfl ⟨rfl, rfl⟩ fMain rfl
    (fun f fn hf hfn => by
      obtain rfl : f = 17 := (Option.some.inj (y17_name.symm.trans hf)).symm
      obtain rfl : fn = Tryz.f17 := (Option.some.inj (Tryz.func17.symm.trans hfn)).symm
      exact ⟨fLooks, fun j t ht => by
        have hm : t ∈ [52, 4] := by rw [← params17]; simpa using Array.mem_of_getElem? ht
        exact (show Tryz.prog.wantsStandIn t = false by simpa using List.all_eq_true.1 y17_stand t hm)⟩)
    y17_goes
#print axioms fnWrong_holds
end Go.Proofs.YtigalkobmfbdaaaGreatDoor
