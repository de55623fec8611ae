/- FnItself in plain words: a name used twice. -/
import Derived.Test.YtigalkobmfbdaaaGreatDoorMix1r
import Derived.Test.YtigalkobmfbdaaaGreatDoorMix1s
set_option linter.unusedVariables false
set_option linter.unusedSimpArgs false
namespace Go.Proofs.YtigalkobmfbdaaaGreatDoor
open Go.RowKit
theorem eqS_bareR {a b : Syn} (hb : RS b) : eqS a (bareS b) = eqS a b := by
  induction a using Syn.ind with | h a ih => ?_
  obtain ⟨k, nl, x, n, ks⟩ := a
  cases hw : wrapIx k with
  | none => rw [eqS_none hw, eqS_none hw, bare_bare hb]
  | some i =>
    by_cases hi : i < ks.length
    · rw [eqS_wrap hw hi, eqS_wrap hw hi]
      exact ih i hi
    · have hno : ∀ (ks : List Syn) (i : Nat) (b : Syn), ks.length ≤ i → eqAt ks i b = false := by
        intro ks
        induction ks with
        | nil => intro i b _; rw [eqAt]
        | cons t ts iht =>
          intro i b h
          cases i with
          | zero => simp at h
          | succ i => rw [eqAt]; exact iht i b (by simpa using h)
      rw [eqS, eqS, hw]
      simp only
      rw [hno _ _ _ (by omega), hno _ _ _ (by omega)]
theorem eqS_bareL (a : Syn) (b : Syn) : RS a → eqS (bareS a) b = eqS a b := by
  induction a using Syn.ind with | h a ih => ?_
  intro ha
  cases hw : wrapIx a.kind with
  | none =>
    obtain ⟨k, nl, x, n, ks⟩ := a
    rw [skind_mk] at hw
    rw [bareS_none hw]
  | some i =>
    obtain ⟨k, ks, rfl, -, hi, hr, -⟩ := ha.form.wrap hw
    rw [skind_mk] at hw
    rw [bareS_wrap hw hi, eqS_wrap hw hi]
    exact ih i hi hr
theorem RS.kid' {k : ByteArray} {nl : Bool} {x : ByteArray} {n : Int} {ks : List Syn} (h : RS (.mk k nl x n ks)) (j : Nat) (hj : j < ks.length) : RS ks[j] := by
  cases h.form with
  | nothing => exact absurd hj (by simp)
  | leaf k x n h => exact absurd hj (by simp)
  | list k nl ks hk hn he => exact (he _ (List.getElem_mem hj)).1
  | node k ks hk hl ha => exact RS.args hl ha j hj
mutual
/-- A part is the same as itself. -/
theorem eqS_refl : ∀ a : Syn, RS a → eqS a a = true
  | .mk k nl x n ks, ha => by
    cases hw : wrapIx k with
    | none =>
      have hkids : ∀ t ∈ ks, RS t := by
        intro t ht
        obtain ⟨j, hj, rfl⟩ := List.getElem_of_mem ht
        exact ha.kid' j hj
      rw [eqS_none hw, bareS_none hw]
      simp only [skind_mk, stext_mk, snum_mk, skids_mk, beq_self_eq_true, Bool.true_and]
      exact eqL_refl ks hkids
    | some i =>
      obtain ⟨k', ks', e, -, hi, hr, -⟩ := ha.form.wrap (by rw [skind_mk]; exact hw)
      cases e
      rw [eqS_wrap hw hi, ← eqS_bareR ha, bareS_wrap hw hi, eqS_bareR hr]
      exact eqS_reflAt ks i hi hr
theorem eqS_reflAt : ∀ (ks : List Syn) (i : Nat) (hi : i < ks.length), RS ks[i] → eqS ks[i] ks[i] = true
  | t :: _, 0, _, h => eqS_refl t h
  | _ :: ts, i + 1, hi, h => eqS_reflAt ts i (by simpa using hi) (by simpa using h)
theorem eqL_refl : ∀ ks : List Syn, (∀ t ∈ ks, RS t) → eqL ks ks = true
  | [], _ => by rw [eqL]; intro a b c d e; cases e
  | t :: ts, h => by
    rw [eqL, eqS_refl t (h t (by simp)), eqL_refl ts (fun u hu => h u (List.mem_cons_of_mem _ hu))]
    rfl
end
/-! ### Expressions: where one has a list, so has the other -/
def eL : List Int := [101, 69, 105, 108, 116, 110, 98]
theorem expr_letters : ∀ k ∈ expressions, ∀ c ∈ (asked k).toList, (c.toNat : Int) ∈ eL := by decide +kernel
theorem right_ident {t : Syn} {of : ByteArray} (h : right t 105 of = true) : right t 101 of = true := by
  obtain ⟨k, nl, x, n, ks⟩ := t
  have e : ∀ c : Int, (c = 101 ∨ c = 105) → right (.mk k nl x n ks) c of = (!nl && fitsL c k && (x.toList == [] && n == 0) && ks.length == (asked k).size && rightArgs ks (asked k).toList k) := by
    intro c hc
    rw [right_mk]
    rcases hc with rfl | rfl <;>
      rw [if_neg (by decide), if_neg (by decide), if_neg (by decide), if_neg (by decide), if_neg (by decide), if_neg (by simp)] <;> rfl
  have hk := fits_105 (rs_node (.inr (.inr (.inl rfl))) h).2.1
  subst hk
  rw [e 105 (.inr rfl)] at h
  rw [e 101 (.inl rfl)]
  rw [show fitsL 101 ⟨#[73, 100, 101, 110, 116]⟩ = true by decide +kernel]
  rw [show fitsL 105 ⟨#[73, 100, 101, 110, 116]⟩ = true by decide +kernel] at h
  exact h
/-- An expression or nothing, bare. -/
theorem e_bare {b : Syn} {c : Int} (hc : c = 101 ∨ c = 69 ∨ c = 105) {of : ByteArray} (h : right b c of = true) : lisK (bareS b).kind = false ∧ ((bareS b).kids = [] ∨ ∃ of, right (bareS b) 101 of = true) := by
  have he : ∀ {of : ByteArray}, right b 101 of = true → lisK (bareS b).kind = false ∧ ((bareS b).kids = [] ∨ ∃ of, right (bareS b) 101 of = true) := by
    intro of h
    obtain ⟨u, -, hb, ⟨of', hu⟩, hw, -⟩ := peel_e b of h
    rw [hb]
    refine ⟨?_, .inr ⟨of', hu⟩⟩
    obtain ⟨k, nl, x, n, ks⟩ := u
    rcases expr_bare k (fits_101 (rs_node (.inl rfl) hu).2.1) with rfl | ⟨-, hl⟩
    · rw [skind_mk] at hw
      exact absurd hw (by decide +kernel)
    · exact hl
  rcases hc with rfl | rfl | rfl
  · exact he h
  · obtain ⟨k, nl, x, n, ks⟩ := b
    cases hk : (k.toList == [])
    · rw [right_low_69 _ _ _ _ _ _ hk] at h
      exact he h
    · have hk' : k = ⟨#[]⟩ := beq_lit hk
      subst hk'
      rw [right_mk, if_neg (by decide), if_neg (by decide), if_neg (by decide), if_neg (by decide), if_neg (by decide), if_pos (by decide +kernel)] at h
      simp only [Bool.and_eq_true, Bool.not_eq_true', beq_iff_eq] at h
      obtain rfl := nil_of h.2
      rw [bareS_none (by decide +kernel)]
      exact ⟨by rw [skind_mk]; decide +kernel, .inl rfl⟩
  · exact he (right_ident h)
theorem mixL_get : ∀ (ks us : List Syn), (∀ (j : Nat) (h1 : j < ks.length) (h2 : j < us.length), mixC ks[j] us[j] = false) → mixL ks us = false
  | [], us, _ => by rw [mixL]; intro a b c d e; cases e
  | _ :: _, [], _ => by rw [mixL]; intro a b c d e e'; cases e'
  | t :: ts, u :: us, h => by
    rw [mixL, Bool.or_eq_false_iff]
    refine ⟨h 0 (by simp) (by simp), mixL_get ts us fun j h1 h2 => ?_⟩
    have := h (j + 1) (by simpa using h1) (by simpa using h2)
    simpa using this
theorem mix_e (a : Syn) : ∀ c ∈ eL, ∀ (of of' : ByteArray) (b : Syn), right a c of = true → right b c of' = true → mixC a b = false := by
  induction a using Syn.ind with | h a ih => ?_
  intro c hc of of' b ha hb
  obtain ⟨k, nl, x, n, ks⟩ := a
  simp only [skids_mk] at ih
  have he : ∀ {of : ByteArray} {c : Int}, (c = 101 ∨ c = 69 ∨ c = 105) → right (.mk k nl x n ks) 101 of = true → right b c of' = true → mixC (.mk k nl x n ks) b = false := by
    intro of c hc h hb
    obtain ⟨hlb, hbb⟩ := e_bare hc hb
    obtain ⟨rfl, hf, -, hl, hga⟩ := rs_node (.inl rfl) h
    have hk := fits_101 hf
    rcases expr_bare k hk with rfl | ⟨hw, hlk⟩
    · have hw : wrapIx ⟨#[80, 97, 114, 101, 110, 69, 120, 112, 114]⟩ = some 0 := by decide +kernel
      have e : (asked ⟨#[80, 97, 114, 101, 110, 69, 120, 112, 114]⟩).toList = [101] := by decide +kernel
      have hl' : ks.length = 1 := by rw [eq_of_beq hl]; decide +kernel
      match ks, hl', ih, hga with
      | [y], _, ih, hga =>
        rw [e, rightArgs, Bool.and_eq_true] at hga
        rw [mixC_wrap hw (by simp)]
        have hy : right y 69 ⟨#[80, 97, 114, 101, 110, 69, 120, 112, 114]⟩ = true ∨ True := .inr trivial
        rcases hc with rfl | rfl | rfl
        · exact ih 0 (by simp) 101 (by decide) _ _ b hga.1 hb
        · refine ih 0 (by simp) 69 (by decide) ⟨#[80, 97, 114, 101, 110, 69, 120, 112, 114]⟩ _ b ?_ hb
          simp only [List.getElem_cons_zero]
          obtain ⟨k', nl', x', n', ks'⟩ := y
          have hk1 : (k'.toList == []) = false := (kind_ok k' (right_kind (.inl rfl) hga.1)).1
          rw [right_low_69 _ _ _ _ _ _ hk1]
          exact hga.1
        · exact ih 0 (by simp) 101 (by decide) _ _ b hga.1 (right_ident hb)
    · rw [mixC_none hw, hlk, hlb]
      simp only [bne_self_eq_false, Bool.false_eq_true, if_false, Bool.false_or]
      split
      · rename_i hkk
        rcases hbb with hbb | ⟨of2, hbb⟩
        · rw [hbb, mixL]
          intro a b c d e e'; cases e'
        · generalize bareS b = u at *
          obtain ⟨k', nl', x', n', us⟩ := u
          simp only [skind_mk, skids_mk] at *
          obtain ⟨rfl, -, -, hl2, hga2⟩ := rs_node (.inl rfl) hbb
          obtain rfl := toList_inj (eq_of_beq hkk)
          refine mixL_get _ _ fun j h1 h2 => ?_
          have hjl : j < (asked k).toList.length := by rw [size_toList, ← eq_of_beq hl]; exact h1
          exact ih j h1 _ (expr_letters k hk _ (List.getElem_mem hjl)) k k _ (rightArgs_get _ _ _ hga j h1 hjl) (rightArgs_get _ _ _ hga2 j h2 hjl)
      · rfl
  have hleaf : ∀ {k : ByteArray} {ks : List Syn} {nl : Bool} {x : ByteArray} {n : Int} {b : Syn}, wrapIx k = none → lisK k = false → ks = [] → lisK (bareS b).kind = false → mixC (.mk k nl x n ks) b = false := by
    intro k ks nl x n b h1 h2 h3 h4
    subst h3
    rw [mixC_none h1, h2, h4]
    simp only [bne_self_eq_false, Bool.false_eq_true, if_false, Bool.false_or]
    split
    · rw [mixL]; intro a b c d e; cases e
    · rfl
  simp only [eL, List.mem_cons, List.not_mem_nil, or_false] at hc
  rcases hc with rfl | rfl | rfl | rfl | rfl | rfl | rfl
  · exact he (.inl rfl) ha hb
  · cases hk : (k.toList == [])
    · rw [right_low_69 _ _ _ _ _ _ hk] at ha
      exact he (.inr (.inl rfl)) ha hb
    · have hk' : k = ⟨#[]⟩ := beq_lit hk
      subst hk'
      rw [right_mk, if_neg (by decide), if_neg (by decide), if_neg (by decide), if_neg (by decide), if_neg (by decide), if_pos (by decide +kernel)] at ha
      simp only [Bool.and_eq_true, Bool.not_eq_true', beq_iff_eq] at ha
      exact hleaf (by decide +kernel) (by decide +kernel) (nil_of ha.2) (e_bare (.inr (.inl rfl)) hb).1
  · exact he (.inr (.inr rfl)) (right_ident ha) hb
  · obtain ⟨-, hk, -, hga⟩ := rs_l ha
    obtain ⟨k', nl', x', n', us⟩ := b
    obtain ⟨-, hk', -, hgb⟩ := rs_l hb
    obtain rfl := beq_lit hk
    obtain rfl := beq_lit hk'
    have hw : wrapIx ⟨#[91, 93, 69, 120, 112, 114]⟩ = none := by decide +kernel
    rw [mixC_none hw, bareS_none hw]
    have hl : lisK ⟨#[91, 93, 69, 120, 112, 114]⟩ = true := by decide +kernel
    simp only [hl, skind_mk, skids_mk, bne_self_eq_false, Bool.false_eq_true, if_false, Bool.true_or, if_true]
    refine mixL_get _ _ fun j h1 h2 => ?_
    exact ih j h1 101 (by decide) _ _ _ (rightAll_get _ _ hga j h1) (rightAll_get _ _ hgb j h2)
  · obtain ⟨-, hk, -, hks, -⟩ := rs_t ha
    obtain ⟨k', nl', x', n', us⟩ := b
    obtain ⟨-, hk', -⟩ := rs_t hb
    obtain rfl := beq_lit hk
    obtain rfl := beq_lit hk'
    exact hleaf (by decide +kernel) (by decide +kernel) (nil_of hks) (by rw [bareS_none (by decide +kernel), skind_mk]; decide +kernel)
  · obtain ⟨-, hk, -, hks, -⟩ := rs_n ha
    obtain ⟨k', nl', x', n', us⟩ := b
    obtain ⟨-, hk', -⟩ := rs_n hb
    obtain rfl := beq_lit hk
    obtain rfl := beq_lit hk'
    exact hleaf (by decide +kernel) (by decide +kernel) (nil_of hks) (by rw [bareS_none (by decide +kernel), skind_mk]; decide +kernel)
  · obtain ⟨-, hk, -, -, hks⟩ := rs_b ha
    obtain ⟨k', nl', x', n', us⟩ := b
    obtain ⟨-, hk', -⟩ := rs_b hb
    obtain rfl := beq_lit hk
    obtain rfl := beq_lit hk'
    exact hleaf (by decide +kernel) (by decide +kernel) (nil_of hks) (by rw [bareS_none (by decide +kernel), skind_mk]; decide +kernel)
end Go.Proofs.YtigalkobmfbdaaaGreatDoor
/- FnItself: impl.Match of a name used twice. -/
set_option linter.unusedVariables false
set_option linter.unusedSimpArgs false
namespace Go.Proofs.YtigalkobmfbdaaaGreatDoor
open Go.RowKit Go.WideMaps Go.Sort
def pSame : Tree := .mk ⟨#[73, 110, 100, 101, 120, 69, 120, 112, 114]⟩ ⟨#[]⟩ [.mk ⟨#[66, 105, 110, 100, 105, 110, 103]⟩ ⟨#[115, 97, 109, 101]⟩ [], .mk ⟨#[66, 105, 110, 100, 105, 110, 103]⟩ ⟨#[115, 97, 109, 101]⟩ []]
theorem pSame_facts : good pSame 97 = true ∧ nodeKind pSame = true ∧ count pSame ≤ 60 ∧ text 0 pSame = ⟨#[40, 73, 110, 100, 101, 120, 69, 120, 112, 114, 32, 115, 97, 109, 101, 32, 115, 97, 109, 101, 41]⟩ ∧ namesT pSame = [[115, 97, 109, 101]] := by
  refine ⟨?_, ?_, ?_, ?_, ?_⟩ <;> decide +kernel
theorem pSame_pn : (toPN pSame []).1 = .struct ⟨#[73, 110, 100, 101, 120, 69, 120, 112, 114]⟩ [.bind ⟨#[115, 97, 109, 101]⟩ .nul 0, .bind ⟨#[115, 97, 109, 101]⟩ .nul 0] := by kernel_rfl
theorem pSame_entry : ∃ E, entryN (toPN pSame []).1 [] = some E := ⟨[[73, 110, 100, 101, 120, 69, 120, 112, 114]], by kernel_rfl⟩
theorem mt_same {a b : Syn} (ha : right a 101 ⟨#[]⟩ = true) (hb : right b 101 ⟨#[]⟩ = true) : mt [[115, 97, 109, 101]] false (.struct ⟨#[73, 110, 100, 101, 120, 69, 120, 112, 114]⟩ [.bind ⟨#[115, 97, 109, 101]⟩ .nul 0, .bind ⟨#[115, 97, 109, 101]⟩ .nul 0]) (ixS a b) [] = some (eqS a b, ixS a b, [([115, 97, 109, 101], bareS a)]) := by
  obtain ⟨h1, h2, h3, h4, h5, h6⟩ := named_ix
  have hra : RS a := ⟨101, by decide, _, ha⟩
  have hrb : RS b := ⟨101, by decide, _, hb⟩
  obtain ⟨u, -, hu, ⟨ofu, hur⟩, -⟩ := peel_e a _ ha
  obtain ⟨v, -, hv, ⟨ofv, hvr⟩, -⟩ := peel_e b _ hb
  have ha1 : mt [[115, 97, 109, 101]] false (.bind ⟨#[115, 97, 109, 101]⟩ .nul 0) a [] = some (true, bareS a, [([115, 97, 109, 101], bareS a)]) := by
    conv => lhs; unfold mt
    kernel_rfl
  have hb1 : mt [[115, 97, 109, 101]] false (.bind ⟨#[115, 97, 109, 101]⟩ .nul 0) b [([115, 97, 109, 101], bareS a)] = (if nodeK (bareS a).kind && nodeK (bareS b).kind && !mixC (bareS a) (bareS b) then some (eqS (bareS a) (bareS b), bareS b, [([115, 97, 109, 101], bareS a)]) else none) := by
    conv => lhs; unfold mt
    kernel_rfl
  have hka : nodeK (bareS a).kind = true := by rw [hu]; exact nodeK_of (right_kind (.inl rfl) hur)
  have hkb : nodeK (bareS b).kind = true := by rw [hv]; exact nodeK_of (right_kind (.inl rfl) hvr)
  have hmx : mixC (bareS a) (bareS b) = false := by rw [hu, hv]; exact mix_e u 101 (by decide) _ _ v hur hvr
  rw [hka, hkb, hmx] at hb1
  simp only [Bool.not_false, Bool.and_self, if_true] at hb1
  rw [eqS_bareR hrb, eqS_bareL _ _ hra] at hb1
  rw [mt_struct h3, h1, h2, peelS_none h4 h5]
  simp only [List.length_cons, List.length_nil, Nat.zero_add, beq_self_eq_true, Bool.and_self, if_true, skind_mk, skids_mk, h6, Bool.false_eq_true, if_false]
  rw [mtArgs, ha1]
  simp only
  rw [mtArgs, hb1]
  cases eqS a b
  · rfl
  · simp only [mtArgs]
theorem itself_match {a b : Syn} (ha : right a 101 ⟨#[]⟩ = true) (hb : right b 101 ⟨#[]⟩ = true) (hca : (countS a : Int) ≤ 60) (hda : (depthS a : Int) ≤ 14) (hcb : (countS b : Int) ≤ 60) (hdb : (depthS b : Int) ≤ 14) {X : Nat → Prop} {w : World} {p : Option Addr} {c : Nat} (hT : SynIn X w p c (ixS a b)) (hTab : TabAt w) :
    Calls Tryz.prog 37 #[.string ⟨#[40, 73, 110, 100, 101, 120, 69, 120, 112, 114, 32, 115, 97, 109, 101, 32, 115, 97, 109, 101, 41]⟩, synV (ixS a b) p c] w (MatchRes w (eqS a b) [([115, 97, 109, 101], bareS a)]) := by
  have hr := ix_right ha hb
  have hcn : countS (ixS a b) = countS a + countS b + 1 := by simp only [countS_mk, countSs]; omega
  have hdn : depthS (ixS a b) ≤ max (depthS a) (depthS b) + 1 := by simp only [depthS_mk, depthSs]; omega
  have hsz := sizeS_count (ixS a b)
  have hz : RZ (ixS a b) := ⟨⟨101, by decide, _, hr⟩, by omega⟩
  obtain ⟨E, hE⟩ := pSame_entry
  rw [← pSame_facts.2.2.2.1]
  exact imatch_good pSame_facts.1 pSame_facts.2.1 pSame_facts.2.2.1 (by rw [pSame_facts.2.2.2.1]; decide) hE (by rw [pSame_facts.2.2.2.2]; decide) (.inl rfl) hr (by omega) (by omega) hz (by rw [pSame_facts.2.2.2.2, pSame_pn]; exact mt_same ha hb) hT hTab
end Go.Proofs.YtigalkobmfbdaaaGreatDoor
