/- A name that is used twice matches two parts exactly if they are the same, but for what doesn't matter. No condition of its own: for every input. The tables of Go's library that the row lists are tied to the program's text. -/
import Derived.Test.YtigalkobmfbdaaaGreatDoorFactsZ1
import Derived.Test.YtigalkobmfbdaaaGreatDoorLaw13Z1
set_option linter.unusedVariables false
set_option linter.unusedSimpArgs false
namespace Go.Proofs.YtigalkobmfbdaaaGreatDoor
open Go.ChangeShapes Go.WideShapes Go.ChangeAt Go.RowKit
theorem params13 : Tryz.f13.params.toList = [52, 52] := by kernel_rfl
theorem results13 : Tryz.f13.resultTypes.toList = [4] := by kernel_rfl
theorem x13_9 : (Rows.fnItselfRow.inPlace == Tryz.prog.inPlace 13) = true := by kernel_rfl
theorem x13_10 : (Rows.fnItselfRow.unfollowed == Tryz.prog.unfollowed 13) = true := by kernel_rfl
theorem x13_11 : (Rows.fnItselfRow.recurses == Tryz.prog.recurses 13) = true := by kernel_rfl
theorem x13_12 : (Rows.fnItselfRow.named == Tryz.prog.varsNamed 13) = true := by kernel_rfl
theorem closed13 : joinedFacts Tryz.pinned.checked.prog 13 Tryz.f13 Rows.fnItselfSpec Rows.fnItselfRow = true :=
  joined_of (f := 13) (fn := Tryz.f13) (s := Rows.fnItselfSpec) (c := Rows.fnItselfRow) (by kernel_rfl) (by kernel_rfl) (by kernel_rfl) (by kernel_rfl) (by kernel_rfl) x13_9 x13_10 x13_11 x13_12 (by kernel_rfl) (by kernel_rfl) (by kernel_rfl) (by kernel_rfl) (by kernel_rfl) (by kernel_rfl) (by kernel_rfl) (by kernel_rfl) (by kernel_rfl) rfl (by kernel_rfl) rfl rfl (by kernel_rfl) (by kernel_rfl) (by kernel_rfl) (by kernel_rfl)
set_option maxRecDepth 100000 in
theorem lifted13 (os : Os) (started : os.Started) (H : Type) (enc : TypeId × Value → H) :
    ReturnsInHanded {} Tryz.checked os 13 .any (fun w args => (Rows.fnItselfSpec.pre enc Tryz.prog Tryz.f13 Rows.fnItselfRow.domain false w args ∧ laidMetH Tryz.prog laidL w) ∧ sizedMet enc Tryz.prog Tryz.f13 (OpenSpec.ofChange Rows.fnItselfSpec) false w args)
      (Rows.fnItselfSpec.post enc Tryz.prog Tryz.f13 false true false false) := by
  refine returnsInHanded_of_change_and (C := Tryz.checked) (X := fun w _ => laidMetH Tryz.prog laidL w) (fun _ _ _ hh h => h.of_heap hh) own started (by kernel_rfl) Tryz.func13
    (ChangeSpec.witness_shaped (enc := enc) (C := Tryz.checked) (os := os) (X := fun w _ => laidMetH Tryz.prog laidL w) false (World.laidAll Tryz.prog os laidL) #[.agg #[.string ⟨#[]⟩, .bool false, .string ⟨#[]⟩, .int .i64 0, .slice none 0 0], .agg #[.string ⟨#[]⟩, .bool false, .string ⟨#[]⟩, .int .i64 0, .slice none 0 0]] 8 (World.laidAll_os _ _ _)
      (World.shaped_of_ZipB (by kernel_rfl) (by kernel_rfl)) (by kernel_rfl) (by kernel_rfl) (by kernel_rfl)
      (by rw [MakeChecks.laidMetH_plain _ _ _ (by kernel_rfl)]; exact laidMet_laidAll _ (by kernel_rfl) (by kernel_rfl))) ?_
  intro W base args ds gs before hval0 hW hc hsz hL _
  have hval : ∀ (j : Nat) t v, Tryz.f13.params[j]? = some t → args[j]? = some v → Value.okWide Tryz.prog W .any base t v := hval0
  have hsz2 : (DataW.weightsEach Tryz.prog ([52, 52] ++ []) (ds ++ gs)).all (· ≤ reachBytes) = true := hsz
  have hW' := hW
  obtain ⟨p, q, hA0, hV, rfl, hfz, hnd⟩ := hW
  have hA : DataW.TrodAll enc Tryz.prog W 0 (fun _ => true) true Tryz.f13.params.toList args.toList ds p := hA0
  rw [params13] at hA
  obtain ⟨v0, v1, d0, d1, p0, p1, rfl, rfl, rfl, h0, h1⟩ := trodAll_two hA
  obtain ⟨rfl, rfl⟩ := trodVars_none hV
  obtain ⟨t0, a0, c0, rfl, ht0⟩ := open_syn (hval 0 52 v0 rfl rfl) h0 (fun n hn => by
    have := List.all_eq_true.1 hsz2 n (DataW.weights_mem_each (j := 0) rfl rfl n hn)
    simpa using this)
  obtain ⟨t1, a1, c1, rfl, ht1⟩ := open_syn (hval 1 52 v1 rfl rfl) h1 (fun n hn => by
    have := List.all_eq_true.1 hsz2 n (DataW.weights_mem_each (j := 1) rfl rfl n hn)
    simpa using this)
  refine (itself_law t0 a0 c0 t1 a1 c1 W ht0 ht1 (tab_of_laid hL)).mono fun e W' ⟨he, hE⟩ => ?_
  subst he
  exact ⟨_, rfl, law_post params13 results13 (by kernel_rfl) rfl rfl hW' hE (by kernel_rfl)⟩
theorem said13 : Rows.FnItselfSaid :=
  OpenClaim.holds_of_wide 13 Tryz.f13 rfl rfl rfl rfl rfl rfl rfl ⟨rfl, rfl, rfl, rfl, rfl⟩ rfl rfl rfl rfl rfl (by kernel_rfl) Tryz.func13 closed13
    (of_decide_eq_true (by kernel_rfl)) (by unfold Func.isWrapper; first | (rw [if_pos (by decide +kernel)]; kernel_rfl) | (rw [if_neg (by decide +kernel)]; exact ⟨rfl, rfl⟩))
    (fun os started H enc _ => lifted13 os started H enc)
theorem y13_wf : Rows.fnItselfRow.wfByText (OpenSpec.ofChange Rows.fnItselfSpec) = true := by kernel_rfl
theorem y13_goes : false = Rows.fnItselfRow.goesBy Tryz.pinned.checked.prog := by kernel_rfl
theorem y13_stand : ([52, 52].all fun u => !Tryz.prog.wantsStandIn u) = true := by kernel_rfl
theorem y13_name : Tryz.prog.funcNamed "loop.example/pub-g03264/laws.FnItself" = some 13 := by kernel_rfl
theorem fnItself_holds : Rows.FnItselfCardSaid :=
  Claim7.holds_tied_plain_at .later [] [.data, .listed, .data, .pinned, .pinned, .pinned] true (true, "45aed9cc55dc6d68f0b14cb90fd0a26ae0b24895b21d11b3721641f397322362") true said13 (fun _ h => by cases h) y13_wf (fun _ h => by cases h) fnItself_row_tie rfl ⟨rfl, rfl⟩ fMain rfl
    (fun f fn hf hfn => by
      obtain rfl : f = 13 := (Option.some.inj (y13_name.symm.trans hf)).symm
      obtain rfl : fn = Tryz.f13 := (Option.some.inj (Tryz.func13.symm.trans hfn)).symm
      exact ⟨fLooks, fun j t ht => by
        have hm : t ∈ [52, 52] := by rw [← params13]; simpa using Array.mem_of_getElem? ht
        exact (show Tryz.prog.wantsStandIn t = false by simpa using List.all_eq_true.1 y13_stand t hm)⟩)
    y13_goes
#print axioms fnItself_holds
end Go.Proofs.YtigalkobmfbdaaaGreatDoor
