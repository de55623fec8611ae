/- FnCount: a node of too few or too many fields is refused. No condition of its own: for every input. The tables of Go's library that the row lists are tied to the program's text. -/
import Derived.Test.YtigalkobmfbdaaaGreatDoorFacts
import Derived.Test.YtigalkobmfbdaaaGreatDoorLaw4
set_option linter.unusedVariables false
set_option linter.unusedSimpArgs false
namespace Go.Proofs.YtigalkobmfbdaaaGreatDoor
open Go.ChangeShapes Go.WideShapes Go.ChangeAt Go.RowKit
theorem params4 : Tryz.f4.params.toList = [24, 4] := by kernel_rfl
theorem results4 : Tryz.f4.resultTypes.toList = [4] := by kernel_rfl
theorem x4_9 : (Rows.fnCountRow.inPlace == Tryz.prog.inPlace 4) = true := by kernel_rfl
theorem x4_10 : (Rows.fnCountRow.unfollowed == Tryz.prog.unfollowed 4) = true := by kernel_rfl
theorem x4_11 : (Rows.fnCountRow.recurses == Tryz.prog.recurses 4) = true := by kernel_rfl
theorem x4_12 : (Rows.fnCountRow.named == Tryz.prog.varsNamed 4) = true := by kernel_rfl
theorem closed4 : joinedFacts Tryz.pinned.checked.prog 4 Tryz.f4 Rows.fnCountSpec Rows.fnCountRow = true :=
  joined_of (f := 4) (fn := Tryz.f4) (s := Rows.fnCountSpec) (c := Rows.fnCountRow) (by kernel_rfl) (by kernel_rfl) (by kernel_rfl) (by kernel_rfl) (by kernel_rfl) x4_9 x4_10 x4_11 x4_12 (by kernel_rfl) (by kernel_rfl) (by kernel_rfl) (by kernel_rfl) (by kernel_rfl) (by kernel_rfl) (by kernel_rfl) (by kernel_rfl) (by kernel_rfl) rfl (by kernel_rfl) rfl rfl (by kernel_rfl) (by kernel_rfl) (by kernel_rfl) (by kernel_rfl)
set_option maxRecDepth 100000 in
theorem lifted4 (os : Os) (started : os.Started) (H : Type) (enc : TypeId × Value → H) :
    ReturnsInHanded {} Tryz.checked os 4 .any (fun w args => (Rows.fnCountSpec.pre enc Tryz.prog Tryz.f4 Rows.fnCountRow.domain false w args ∧ laidMetH Tryz.prog laidL w) ∧ sizedMet enc Tryz.prog Tryz.f4 (OpenSpec.ofChange Rows.fnCountSpec) false w args)
      (Rows.fnCountSpec.post enc Tryz.prog Tryz.f4 false true false false) := by
  refine returnsInHanded_of_change_and (C := Tryz.checked) (X := fun w _ => laidMetH Tryz.prog laidL w) (fun _ _ _ hh h => h.of_heap hh) own started (by kernel_rfl) Tryz.func4
    (ChangeSpec.witness_shaped (enc := enc) (C := Tryz.checked) (os := os) (X := fun w _ => laidMetH Tryz.prog laidL w) false (World.laidAll Tryz.prog os laidL) #[.agg #[.string ⟨#[]⟩, .string ⟨#[]⟩, .slice none 0 0], .bool false] 8 (World.laidAll_os _ _ _)
      (World.shaped_of_ZipB (by kernel_rfl) (by kernel_rfl)) (by kernel_rfl) (by kernel_rfl) (by kernel_rfl)
      (by rw [MakeChecks.laidMetH_plain _ _ _ (by kernel_rfl)]; exact laidMet_laidAll _ (by kernel_rfl) (by kernel_rfl))) ?_
  intro W base args ds gs before hval0 hW hc hsz hL _
  have hval : ∀ (j : Nat) t v, Tryz.f4.params[j]? = some t → args[j]? = some v → Value.okWide Tryz.prog W .any base t v := hval0
  have hsz2 : (DataW.weightsEach Tryz.prog ([24, 4] ++ []) (ds ++ gs)).all (· ≤ reachBytes) = true := hsz
  have hW' := hW
  obtain ⟨p, q, hA0, hV, rfl, hfz, hnd⟩ := hW
  have hA : DataW.TrodAll enc Tryz.prog W 0 (fun _ => true) true Tryz.f4.params.toList args.toList ds p := hA0
  rw [params4] at hA
  obtain ⟨v0, v1, d0, d1, p0, p1, rfl, rfl, rfl, h0, h1⟩ := trodAll_two hA
  obtain ⟨rfl, rfl⟩ := trodVars_none hV
  obtain ⟨t0, a0, c0, rfl, ht0⟩ := open_tree (hval 0 24 v0 rfl rfl) h0 (fun n hn => by
    have := List.all_eq_true.1 hsz2 n (DataW.weights_mem_each (j := 0) rfl rfl n hn)
    simpa using this)
  obtain ⟨b1, rfl, rfl, rfl⟩ := open_bool (by kernel_rfl) (hval 1 4 v1 rfl rfl) h1
  refine (count_law t0 a0 c0 b1 W ht0 (tab_of_laid hL)).mono fun e W' ⟨he, hE⟩ => ?_
  subst he
  exact ⟨_, rfl, law_post params4 results4 (by kernel_rfl) rfl rfl hW' hE (by kernel_rfl)⟩
theorem said4 : Rows.FnCountSaid :=
  OpenClaim.holds_of_wide 4 Tryz.f4 rfl rfl rfl rfl rfl rfl rfl ⟨rfl, rfl, rfl, rfl, rfl⟩ rfl rfl rfl rfl rfl (by kernel_rfl) Tryz.func4 closed4
    (of_decide_eq_true (by kernel_rfl)) (by unfold Func.isWrapper; first | (rw [if_pos (by decide +kernel)]; kernel_rfl) | (rw [if_neg (by decide +kernel)]; exact ⟨rfl, rfl⟩))
    (fun os started H enc _ => lifted4 os started H enc)
theorem y4_wf : Rows.fnCountRow.wfByText (OpenSpec.ofChange Rows.fnCountSpec) = true := by kernel_rfl
theorem y4_goes : false = Rows.fnCountRow.goesBy Tryz.pinned.checked.prog := by kernel_rfl
theorem y4_stand : ([24, 4].all fun u => !Tryz.prog.wantsStandIn u) = true := by kernel_rfl
theorem y4_name : Tryz.prog.funcNamed "loop.example/pub-g03264/laws.FnCount" = some 4 := by kernel_rfl
theorem fnCount_holds : Rows.FnCountCardSaid :=
  Claim7.holds_tied_plain_at .later [] [.data, .listed, .data, .pinned, .pinned, .pinned] true (true, "45aed9cc55dc6d68f0b14cb90fd0a26ae0b24895b21d11b3721641f397322362") true said4 (fun _ h => by cases h) y4_wf (fun _ h => by cases h) fnCount_row_tie rfl ⟨rfl, rfl⟩ fMain rfl
    (fun f fn hf hfn => by
      obtain rfl : f = 4 := (Option.some.inj (y4_name.symm.trans hf)).symm
      obtain rfl : fn = Tryz.f4 := (Option.some.inj (Tryz.func4.symm.trans hfn)).symm
      exact ⟨fLooks, fun j t ht => by
        have hm : t ∈ [24, 4] := by rw [← params4]; simpa using Array.mem_of_getElem? ht
        exact (show Tryz.prog.wantsStandIn t = false by simpa using List.all_eq_true.1 y4_stand t hm)⟩)
    y4_goes
#print axioms fnCount_holds
end Go.Proofs.YtigalkobmfbdaaaGreatDoor
