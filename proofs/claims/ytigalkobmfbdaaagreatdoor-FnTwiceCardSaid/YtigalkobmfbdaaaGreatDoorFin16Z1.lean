/- A name that has a node is given none again: the package panics. No condition of its own: for every input. The tables of Go's library that the row lists are tied to the program's text. -/
import Derived.Test.YtigalkobmfbdaaaGreatDoorFactsZ1
import Derived.Test.YtigalkobmfbdaaaGreatDoorLaw16Z1
set_option linter.unusedVariables false
set_option linter.unusedSimpArgs false
namespace Go.Proofs.YtigalkobmfbdaaaGreatDoor
open Go.ChangeShapes Go.WideShapes Go.ChangeAt Go.RowKit
theorem params16 : Tryz.f16.params.toList = [9, 52] := by kernel_rfl
theorem results16 : Tryz.f16.resultTypes.toList = [4] := by kernel_rfl
theorem x16_9 : (Rows.fnTwiceRow.inPlace == Tryz.prog.inPlace 16) = true := by kernel_rfl
theorem x16_10 : (Rows.fnTwiceRow.unfollowed == Tryz.prog.unfollowed 16) = true := by kernel_rfl
theorem x16_11 : (Rows.fnTwiceRow.recurses == Tryz.prog.recurses 16) = true := by kernel_rfl
theorem x16_12 : (Rows.fnTwiceRow.named == Tryz.prog.varsNamed 16) = true := by kernel_rfl
theorem closed16 : joinedFacts Tryz.pinned.checked.prog 16 Tryz.f16 Rows.fnTwiceSpec Rows.fnTwiceRow = true :=
  joined_of (f := 16) (fn := Tryz.f16) (s := Rows.fnTwiceSpec) (c := Rows.fnTwiceRow) (by kernel_rfl) (by kernel_rfl) (by kernel_rfl) (by kernel_rfl) (by kernel_rfl) x16_9 x16_10 x16_11 x16_12 (by kernel_rfl) (by kernel_rfl) (by kernel_rfl) (by kernel_rfl) (by kernel_rfl) (by kernel_rfl) (by kernel_rfl) (by kernel_rfl) (by kernel_rfl) rfl (by kernel_rfl) rfl rfl (by kernel_rfl) (by kernel_rfl) (by kernel_rfl) (by kernel_rfl)
set_option maxRecDepth 100000 in
theorem lifted16 (os : Os) (started : os.Started) (H : Type) (enc : TypeId × Value → H) :
    ReturnsInHanded {} Tryz.checked os 16 .any (fun w args => (Rows.fnTwiceSpec.pre enc Tryz.prog Tryz.f16 Rows.fnTwiceRow.domain false w args ∧ laidMetH Tryz.prog laidL w) ∧ sizedMet enc Tryz.prog Tryz.f16 (OpenSpec.ofChange Rows.fnTwiceSpec) false w args)
      (Rows.fnTwiceSpec.post enc Tryz.prog Tryz.f16 false true false false) := by
  refine returnsInHanded_of_change_and (C := Tryz.checked) (X := fun w _ => laidMetH Tryz.prog laidL w) (fun _ _ _ hh h => h.of_heap hh) own started (by kernel_rfl) Tryz.func16
    (ChangeSpec.witness_shaped (enc := enc) (C := Tryz.checked) (os := os) (X := fun w _ => laidMetH Tryz.prog laidL w) false (World.laidAll Tryz.prog os laidL) #[.string ⟨#[]⟩, .agg #[.string ⟨#[]⟩, .bool false, .string ⟨#[]⟩, .int .i64 0, .slice none 0 0]] 8 (World.laidAll_os _ _ _)
      (World.shaped_of_ZipB (by kernel_rfl) (by kernel_rfl)) (by kernel_rfl) (by kernel_rfl) (by kernel_rfl)
      (by rw [MakeChecks.laidMetH_plain _ _ _ (by kernel_rfl)]; exact laidMet_laidAll _ (by kernel_rfl) (by kernel_rfl))) ?_
  intro W base args ds gs before hval0 hW hc hsz hL _
  have hval : ∀ (j : Nat) t v, Tryz.f16.params[j]? = some t → args[j]? = some v → Value.okWide Tryz.prog W .any base t v := hval0
  have hsz2 : (DataW.weightsEach Tryz.prog ([9, 52] ++ []) (ds ++ gs)).all (· ≤ reachBytes) = true := hsz
  have hW' := hW
  obtain ⟨p, q, hA0, hV, rfl, hfz, hnd⟩ := hW
  have hA : DataW.TrodAll enc Tryz.prog W 0 (fun _ => true) true Tryz.f16.params.toList args.toList ds p := hA0
  rw [params16] at hA
  obtain ⟨v0, v1, d0, d1, p0, p1, rfl, rfl, rfl, h0, h1⟩ := trodAll_two hA
  obtain ⟨rfl, rfl⟩ := trodVars_none hV
  obtain ⟨s0, rfl, rfl, rfl, -⟩ := Go.ChangeMaps.open_string underlying9 (hval 0 9 v0 rfl rfl) h0
  have hs0 : s0.size ≤ 140737488351232 := by
    have := List.all_eq_true.1 hsz2 s0.data.toList.length (DataW.weights_mem_each (j := 0) rfl rfl _ (by rw [weights_string]; exact List.mem_singleton.2 rfl))
    rw [Array.length_toList] at this
    exact of_decide_eq_true this
  obtain ⟨t1, a1, c1, rfl, ht1⟩ := open_syn (hval 1 52 v1 rfl rfl) h1 (fun n hn => by
    have := List.all_eq_true.1 hsz2 n (DataW.weights_mem_each (j := 1) rfl rfl n hn)
    simpa using this)
  refine (twice_law s0 t1 a1 c1 W hs0 ht1 (tab_of_laid hL)).mono fun e W' ⟨he, hE⟩ => ?_
  subst he
  exact ⟨_, rfl, law_post params16 results16 (by kernel_rfl) rfl rfl hW' hE (by kernel_rfl)⟩
theorem said16 : Rows.FnTwiceSaid :=
  OpenClaim.holds_of_wide 16 Tryz.f16 rfl rfl rfl rfl rfl rfl rfl ⟨rfl, rfl, rfl, rfl, rfl⟩ rfl rfl rfl rfl rfl (by kernel_rfl) Tryz.func16 closed16
    (of_decide_eq_true (by kernel_rfl)) (by unfold Func.isWrapper; first | (rw [if_pos (by decide +kernel)]; kernel_rfl) | (rw [if_neg (by decide +kernel)]; exact ⟨rfl, rfl⟩))
    (fun os started H enc _ => lifted16 os started H enc)
theorem y16_wf : Rows.fnTwiceRow.wfByText (OpenSpec.ofChange Rows.fnTwiceSpec) = true := by kernel_rfl
theorem y16_goes : false = Rows.fnTwiceRow.goesBy Tryz.pinned.checked.prog := by kernel_rfl
theorem y16_stand : ([9, 52].all fun u => !Tryz.prog.wantsStandIn u) = true := by kernel_rfl
theorem y16_name : Tryz.prog.funcNamed "loop.example/pub-g03264/laws.FnTwice" = some 16 := by kernel_rfl
theorem fnTwice_holds : Rows.FnTwiceCardSaid :=
  Claim7.holds_tied_plain_at .later [] [.data, .listed, .data, .pinned, .pinned, .pinned] true (true, "45aed9cc55dc6d68f0b14cb90fd0a26ae0b24895b21d11b3721641f397322362") true said16 (fun _ h => by cases h) y16_wf (fun _ h => by cases h) fnTwice_row_tie rfl ⟨rfl, rfl⟩ fMain rfl
    (fun f fn hf hfn => by
      obtain rfl : f = 16 := (Option.some.inj (y16_name.symm.trans hf)).symm
      obtain rfl : fn = Tryz.f16 := (Option.some.inj (Tryz.func16.symm.trans hfn)).symm
      exact ⟨fLooks, fun j t ht => by
        have hm : t ∈ [9, 52] := by rw [← params16]; simpa using Array.mem_of_getElem? ht
        exact (show Tryz.prog.wantsStandIn t = false by simpa using List.all_eq_true.1 y16_stand t hm)⟩)
    y16_goes
#print axioms fnTwice_holds
end Go.Proofs.YtigalkobmfbdaaaGreatDoor
