/- FnCalls: a call of a function of a package is told by its path and its name, one of a method by its type, too; all candidates are such calls, and this symbol is needed. No condition of its own: for every input. The tables of Go's library that the row lists are tied to the program's text. -/
import Derived.Test.YtigalkobmfbdaaaGreatDoorFacts
import Derived.Test.YtigalkobmfbdaaaGreatDoorMix3a
set_option linter.unusedVariables false
set_option linter.unusedSimpArgs false
namespace Go.Proofs.YtigalkobmfbdaaaGreatDoor
open Go.ChangeShapes Go.WideShapes Go.ChangeAt Go.RowKit
theorem params3 : Tryz.f3.params.toList = [9, 9, 9, 24] := by kernel_rfl
theorem results3 : Tryz.f3.resultTypes.toList = [4] := by kernel_rfl
theorem x3_9 : (Rows.fnCallsRow.inPlace == Tryz.prog.inPlace 3) = true := by kernel_rfl
theorem x3_10 : (Rows.fnCallsRow.unfollowed == Tryz.prog.unfollowed 3) = true := by kernel_rfl
theorem x3_11 : (Rows.fnCallsRow.recurses == Tryz.prog.recurses 3) = true := by kernel_rfl
theorem x3_12 : (Rows.fnCallsRow.named == Tryz.prog.varsNamed 3) = true := by kernel_rfl
theorem closed3 : joinedFacts Tryz.pinned.checked.prog 3 Tryz.f3 Rows.fnCallsSpec Rows.fnCallsRow = true :=
  joined_of (f := 3) (fn := Tryz.f3) (s := Rows.fnCallsSpec) (c := Rows.fnCallsRow) (by kernel_rfl) (by kernel_rfl) (by kernel_rfl) (by kernel_rfl) (by kernel_rfl) x3_9 x3_10 x3_11 x3_12 (by kernel_rfl) (by kernel_rfl) (by kernel_rfl) (by kernel_rfl) (by kernel_rfl) (by kernel_rfl) (by kernel_rfl) (by kernel_rfl) (by kernel_rfl) rfl (by kernel_rfl) rfl rfl (by kernel_rfl) (by kernel_rfl) (by kernel_rfl) (by kernel_rfl)
set_option maxRecDepth 100000 in
theorem lifted3 (os : Os) (started : os.Started) (H : Type) (enc : TypeId × Value → H) :
    ReturnsInHanded {} Tryz.checked os 3 .any (fun w args => (Rows.fnCallsSpec.pre enc Tryz.prog Tryz.f3 Rows.fnCallsRow.domain false w args ∧ laidMetH Tryz.prog laidL w) ∧ sizedMet enc Tryz.prog Tryz.f3 (OpenSpec.ofChange Rows.fnCallsSpec) false w args)
      (Rows.fnCallsSpec.post enc Tryz.prog Tryz.f3 false true false false) := by
  refine returnsInHanded_of_change_and (C := Tryz.checked) (X := fun w _ => laidMetH Tryz.prog laidL w) (fun _ _ _ hh h => h.of_heap hh) own started (by kernel_rfl) Tryz.func3
    (ChangeSpec.witness_shaped (enc := enc) (C := Tryz.checked) (os := os) (X := fun w _ => laidMetH Tryz.prog laidL w) false (World.laidAll Tryz.prog os laidL) #[.string ⟨#[]⟩, .string ⟨#[]⟩, .string ⟨#[]⟩, .agg #[.string ⟨#[]⟩, .string ⟨#[]⟩, .slice none 0 0]] 8 (World.laidAll_os _ _ _)
      (World.shaped_of_ZipB (by kernel_rfl) (by kernel_rfl)) (by kernel_rfl) (by kernel_rfl) (by kernel_rfl)
      (by rw [MakeChecks.laidMetH_plain _ _ _ (by kernel_rfl)]; exact laidMet_laidAll _ (by kernel_rfl) (by kernel_rfl))) ?_
  intro W base args ds gs before hval0 hW hc hsz hL _
  have hval : ∀ (j : Nat) t v, Tryz.f3.params[j]? = some t → args[j]? = some v → Value.okWide Tryz.prog W .any base t v := hval0
  have hsz2 : (DataW.weightsEach Tryz.prog ([9, 9, 9, 24] ++ []) (ds ++ gs)).all (· ≤ reachBytes) = true := hsz
  have hW' := hW
  obtain ⟨p, q, hA0, hV, rfl, hfz, hnd⟩ := hW
  have hA : DataW.TrodAll enc Tryz.prog W 0 (fun _ => true) true Tryz.f3.params.toList args.toList ds p := hA0
  rw [params3] at hA
  obtain ⟨v0, v1, v2, v3, d0, d1, d2, d3, p0, p1, p2, p3, rfl, rfl, rfl, h0, h1, h2, h3⟩ := trodAll_four hA
  obtain ⟨rfl, rfl⟩ := trodVars_none hV
  obtain ⟨s0, rfl, rfl, rfl, -⟩ := Go.ChangeMaps.open_string underlying9 (hval 0 9 v0 rfl rfl) h0
  have hs0 : s0.size ≤ 140737488351232 := by
    have := List.all_eq_true.1 hsz2 s0.data.toList.length (DataW.weights_mem_each (j := 0) rfl rfl _ (by rw [weights_string]; exact List.mem_singleton.2 rfl))
    rw [Array.length_toList] at this
    exact of_decide_eq_true this
  obtain ⟨s1, rfl, rfl, rfl, -⟩ := Go.ChangeMaps.open_string underlying9 (hval 1 9 v1 rfl rfl) h1
  have hs1 : s1.size ≤ 140737488351232 := by
    have := List.all_eq_true.1 hsz2 s1.data.toList.length (DataW.weights_mem_each (j := 1) rfl rfl _ (by rw [weights_string]; exact List.mem_singleton.2 rfl))
    rw [Array.length_toList] at this
    exact of_decide_eq_true this
  obtain ⟨s2, rfl, rfl, rfl, -⟩ := Go.ChangeMaps.open_string underlying9 (hval 2 9 v2 rfl rfl) h2
  have hs2 : s2.size ≤ 140737488351232 := by
    have := List.all_eq_true.1 hsz2 s2.data.toList.length (DataW.weights_mem_each (j := 2) rfl rfl _ (by rw [weights_string]; exact List.mem_singleton.2 rfl))
    rw [Array.length_toList] at this
    exact of_decide_eq_true this
  obtain ⟨t3, a3, c3, rfl, ht3⟩ := open_tree (hval 3 24 v3 rfl rfl) h3 (fun n hn => by
    have := List.all_eq_true.1 hsz2 n (DataW.weights_mem_each (j := 3) rfl rfl n hn)
    simpa using this)
  refine (calls_law s0 s1 s2 t3 a3 c3 W hs0 hs1 hs2 ht3 (tab_of_laid hL)).mono fun e W' ⟨he, hE⟩ => ?_
  subst he
  exact ⟨_, rfl, law_post params3 results3 (by kernel_rfl) rfl rfl hW' hE (by kernel_rfl)⟩
theorem said3 : Rows.FnCallsSaid :=
  OpenClaim.holds_of_wide 3 Tryz.f3 rfl rfl rfl rfl rfl rfl rfl ⟨rfl, rfl, rfl, rfl, rfl⟩ rfl rfl rfl rfl rfl (by kernel_rfl) Tryz.func3 closed3
    (of_decide_eq_true (by kernel_rfl)) (by unfold Func.isWrapper; first | (rw [if_pos (by decide +kernel)]; kernel_rfl) | (rw [if_neg (by decide +kernel)]; exact ⟨rfl, rfl⟩))
    (fun os started H enc _ => lifted3 os started H enc)
theorem y3_wf : Rows.fnCallsRow.wfByText (OpenSpec.ofChange Rows.fnCallsSpec) = true := by kernel_rfl
theorem y3_goes : false = Rows.fnCallsRow.goesBy Tryz.pinned.checked.prog := by kernel_rfl
theorem y3_stand : ([9, 9, 9, 24].all fun u => !Tryz.prog.wantsStandIn u) = true := by kernel_rfl
theorem y3_name : Tryz.prog.funcNamed "loop.example/pub-g03264/laws.FnCalls" = some 3 := by kernel_rfl
theorem fnCalls_holds : Rows.FnCallsCardSaid :=
  Claim7.holds_tied_plain_at .later [] [.data, .listed, .data, .pinned, .pinned, .pinned] true (true, "45aed9cc55dc6d68f0b14cb90fd0a26ae0b24895b21d11b3721641f397322362") true said3 (fun _ h => by cases h) y3_wf (fun _ h => by cases h) fnCalls_row_tie rfl ⟨rfl, rfl⟩ fMain rfl
    (fun f fn hf hfn => by
      obtain rfl : f = 3 := (Option.some.inj (y3_name.symm.trans hf)).symm
      obtain rfl : fn = Tryz.f3 := (Option.some.inj (Tryz.func3.symm.trans hfn)).symm
      exact ⟨fLooks, fun j t ht => by
        have hm : t ∈ [9, 9, 9, 24] := by rw [← params3]; simpa using Array.mem_of_getElem? ht
        exact (show Tryz.prog.wantsStandIn t = false by simpa using List.all_eq_true.1 y3_stand t hm)⟩)
    y3_goes
#print axioms fnCalls_holds
end Go.Proofs.YtigalkobmfbdaaaGreatDoor
