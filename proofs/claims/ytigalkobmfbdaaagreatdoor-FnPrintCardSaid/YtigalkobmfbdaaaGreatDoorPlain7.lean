/- The plain law, seventh part: patterns that are read are ones that treeOf takes; they are not larger than the text's pattern; their names, each once. No program in sight. -/
import Derived.Test.YtigalkobmfbdaaaGreatDoorApart
import Derived.Test.YtigalkobmfbdaaaGreatDoorPlain6
set_option linter.unusedVariables false
set_option linter.unusedSimpArgs false
namespace Go.Proofs.YtigalkobmfbdaaaGreatDoor
open Go.RowKit
theorem kinds_mk (k x : ByteArray) (ks : List Tree) : kinds (.mk k x ks) ↔ kindsAll ks := by rw [kinds]
theorem kindsAll_of : ∀ (l : List Tree), (∀ t ∈ l, t.kind ≠ ⟨#[]⟩ ∧ kinds t) → kindsAll l
  | [], _ => by rw [kindsAll]; trivial
  | t :: l, h => by
    rw [kindsAll]
    exact ⟨(h t (List.mem_cons_self ..)).1, (h t (List.mem_cons_self ..)).2, kindsAll_of l fun u hu => h u (List.mem_cons_of_mem _ hu)⟩
theorem fields_empty : (fields ⟨#[]⟩) = [] := by decide +kernel
theorem named_empty : named ⟨#[]⟩ = false := by decide +kernel
theorem okNs_of {l : List PN} (h : ∀ n ∈ l, okN n = true) : okNs l = true := by
  induction l with
  | nil => rw [okNs]
  | cons n l ih => rw [okNs, h n (List.mem_cons_self ..), ih fun m hm => h m (List.mem_cons_of_mem _ hm)]; rfl
/-- What is said of a pattern that is read. -/
def Fit3 (t : Tree) (n : PN) : Prop := okN n = true ∧ n.cnt ≤ 3 * count t ∧ t.kind ≠ ⟨#[]⟩ ∧ kinds t
theorem toPN_fit (t : Tree) : ∀ c, good t c = true → ∀ nm, Fit3 t (toPN t nm).1 := by
  refine Tree.ind (P := fun t => ∀ c, good t c = true → ∀ nm, Fit3 t (toPN t nm).1) ?_ t
  clear t
  rintro ⟨k, x, ks⟩ ih c hg nm
  simp only [kids_mk] at ih
  have ihm : ∀ t ∈ ks, ∀ c, good t c = true → ∀ nm, Fit3 t (toPN t nm).1 := fun t ht => by
    obtain ⟨j, hj, rfl⟩ := List.getElem_of_mem ht
    exact ih j hj
  have ihl : ∀ (l : List Tree), (∀ t ∈ l, t ∈ ks ∧ ∃ c, good t c = true) → ∀ nm, okNs (toPNs l nm).1 = true ∧ cntAll (toPNs l nm).1 ≤ 3 * countAll l ∧ kindsAll l := by
    intro l
    induction l with
    | nil => intro _ nm; rw [toPNs, okNs, cntAll, countAll, kindsAll]; exact ⟨rfl, Nat.le_refl _, trivial⟩
    | cons u l ihl =>
      intro h nm
      obtain ⟨hu, c, hc⟩ := h u (List.mem_cons_self ..)
      obtain ⟨g1, g2, g3, g4⟩ := ihm u hu c hc nm
      obtain ⟨q1, q2, q3⟩ := ihl (fun t ht => h t (List.mem_cons_of_mem _ ht)) (toPN u nm).2
      rw [toPNs_cons, okNs, cntAll, countAll, kindsAll, g1, q1]
      exact ⟨rfl, by omega, g3, g4, q3⟩
  unfold Fit3
  rw [toPN_mk]
  rcases kind_cases k with rfl | rfl | rfl | rfl | rfl | hk
  · obtain ⟨-, rfl⟩ := good_leaf_parts (.inl rfl) hg
    simp only [toList_mk]
    simp (decide := true) only [↓reduceIte]
    rw [PN.cnt, kinds_mk, kindsAll]
    exact ⟨by simp [okN], by simp only [count]; omega, by simp only [kind_mk]; decide, trivial⟩
  · obtain ⟨-, rfl⟩ := good_leaf_parts (.inr rfl) hg
    simp only [toList_mk]
    simp (decide := true) only [↓reduceIte]
    rw [PN.cnt, kinds_mk, kindsAll]
    exact ⟨by simp [okN], by simp only [count]; omega, by simp only [kind_mk]; decide, trivial⟩
  · obtain ⟨-, rfl, -⟩ := good_string_parts hg
    simp only [toList_mk]
    simp (decide := true) only [↓reduceIte]
    rw [PN.cnt, kinds_mk, kindsAll]
    exact ⟨by simp [okN], by simp only [count]; omega, by simp only [kind_mk]; decide, trivial⟩
  · obtain ⟨hx, rfl | ⟨a, b, rfl, ha, hb1, hb⟩⟩ := good_list_parts hg
    · simp only [toList_mk]
      simp (decide := true) only [↓reduceIte]
      rw [kinds_mk, kindsAll]
      refine ⟨by simp [okN, PN.isNul], by rw [PN.cnt, PN.cnt]; simp only [count]; omega, by simp only [kind_mk]; decide, trivial⟩
    · simp only [toList_mk]
      simp (decide := true) only [↓reduceIte]
      obtain ⟨g1, g2, g3, g4⟩ := ihm a (by simp) _ ha nm
      obtain ⟨q1, q2, q3, q4⟩ := ihm b (by simp) _ hb (toPN a nm).2
      have n1 := (toTree_toPN a _ ha nm).2
      have n2 := (toTree_toPN b _ hb (toPN a nm).2).2
      rw [kinds_mk]
      refine ⟨by simp [okN, g1, q1, n1, n2], by rw [PN.cnt]; simp only [count, countAll]; omega, by simp only [kind_mk]; decide, kindsAll_of _ fun t ht => ?_⟩
      simp at ht
      rcases ht with rfl | rfl
      · exact ⟨g3, g4⟩
      · exact ⟨q3, q4⟩
  · obtain ⟨hx, rfl | ⟨a, rfl, hn, ha⟩⟩ := good_bind_parts hg
    · simp only [toList_mk]
      simp (decide := true) only [↓reduceIte]
      rw [kinds_mk, kindsAll]
      refine ⟨by simp [okN], by rw [PN.cnt, PN.cnt]; simp only [count]; omega, by simp only [kind_mk]; decide, trivial⟩
    · simp only [toList_mk]
      simp (decide := true) only [↓reduceIte]
      obtain ⟨g1, g2, g3, g4⟩ := ihm a (by simp) _ ha nm
      rw [kinds_mk]
      refine ⟨by simp [okN, g1], by rw [PN.cnt]; simp only [count, countAll]; omega, by simp only [kind_mk]; decide, kindsAll_of _ fun t ht => ?_⟩
      rw [List.mem_singleton.1 ht]
      exact ⟨g3, g4⟩
  · have hk' : (k.toList == [65, 110, 121]) = false ∧ (k.toList == [78, 105, 108]) = false ∧ (k.toList == [83, 116, 114, 105, 110, 103]) = false ∧ (k.toList == [76, 105, 115, 116]) = false ∧ (k.toList == [66, 105, 110, 100, 105, 110, 103]) = false := by
      rcases hk with rfl | rfl | hk
      · simp only [toList_mk]; decide
      · simp only [toList_mk]; decide
      · exact ⟨hk.1, hk.2.1, hk.2.2.1, hk.2.2.2.1, hk.2.2.2.2.1⟩
    obtain ⟨h1, h2, h3, h4, h5⟩ := hk'
    obtain ⟨hks, hcap, hx⟩ := good_node hg h1 h2 h3 h4 h5
    obtain ⟨q1, q2, q3⟩ := ihl ks (fun t ht => ⟨ht, hks t ht⟩) nm
    have hne : k ≠ ⟨#[]⟩ := by
      rintro rfl
      rw [toList_mk] at hcap
      exact absurd hcap (by decide)
    rw [h1, h2, h3, h4, h5, kinds_mk]
    simp only [Bool.false_eq_true, if_false]
    split
    · exact ⟨by simp [okN, q1], by rw [PN.cnt]; simp only [count]; omega, hne, q3⟩
    · exact ⟨by simp [okN, q1], by rw [PN.cnt]; simp only [count]; omega, hne, q3⟩
/-! ### Names, each once -/
theorem addName_nodup {a : Names} {s : List UInt8} (h : a.Nodup) : (addName a s).Nodup := by
  unfold addName; split
  · exact h
  · rename_i hs
    rw [List.nodup_append]
    refine ⟨h, by simp, ?_⟩
    intro u hu v hv e
    rw [List.mem_singleton.1 hv] at e
    exact hs (e ▸ hu)
theorem fold_nodup : ∀ (l a : Names), a.Nodup → (l.foldl addName a).Nodup
  | [], a, h => h
  | s :: l, a, h => fold_nodup l _ (addName_nodup h)
theorem namesTs_nodup : ∀ (ts : List Tree) (acc : Names), acc.Nodup → (namesTs ts acc).Nodup
  | [], acc, h => by rw [namesTs]; exact h
  | t :: ts, acc, h => by rw [namesTs_cons]; exact namesTs_nodup ts _ (fold_nodup _ _ h)
theorem namesT_nodup (t : Tree) : (namesT t).Nodup := by
  obtain ⟨k, x, ks⟩ := t
  rw [namesT_mk]
  split
  · exact addName_nodup (namesTs_nodup _ _ List.nodup_nil)
  · exact namesTs_nodup _ _ List.nodup_nil
theorem entryN_nodup : ∀ (k : Nat) (n : PN), n.cnt < k → ∀ acc E, acc.Nodup → entryN n acc = some E → E.Nodup ∧ E.length ≤ acc.length + n.cnt
  | 0, _, h, _, _, _, _ => by omega
  | k + 1, .struct nm ks, h, acc, E, hd, hE => by
    rw [PN.cnt] at h ⊢
    rw [entryN_struct] at hE
    split at hE
    · split at hE
      · rename_i a
        rw [cntAll, cntAll] at h ⊢
        obtain ⟨h1, h2⟩ := entryN_nodup k a (by omega) acc E hd hE
        exact ⟨h1, by omega⟩
      · cases hE
    · split at hE
      · cases hE
        refine ⟨addName_nodup hd, ?_⟩
        have := addName_len acc nm.toList
        omega
      · cases hE
  | k + 1, .or ks, h, acc, E, hd, hE => by
    rw [PN.cnt] at h ⊢
    unfold entryN at hE
    have key : ∀ (l : List PN), cntAll l < k → ∀ acc E, acc.Nodup → entryNs l acc = some E → E.Nodup ∧ E.length ≤ acc.length + cntAll l := by
      intro l
      induction l with
      | nil => intro _ acc E hd hE; rw [entryNs] at hE; cases hE; exact ⟨hd, by rw [cntAll]; omega⟩
      | cons m l ih =>
        intro hl acc E hd hE
        rw [cntAll] at hl ⊢
        rw [entryNs] at hE
        split at hE
        · cases hE
        · rename_i a ha
          obtain ⟨h1, h2⟩ := entryN_nodup k m (by omega) acc a hd ha
          obtain ⟨h3, h4⟩ := ih (by omega) a E h1 hE
          exact ⟨h3, by omega⟩
    obtain ⟨h1, h2⟩ := key ks (by omega) acc E hd hE
    exact ⟨h1, by omega⟩
  | k + 1, .nul, h, acc, E, hd, hE => by unfold entryN at hE; cases hE
  | k + 1, .any, h, acc, E, hd, hE => by unfold entryN at hE; cases hE
  | k + 1, .nil, h, acc, E, hd, hE => by unfold entryN at hE; cases hE
  | k + 1, .str _, h, acc, E, hd, hE => by unfold entryN at hE; cases hE
  | k + 1, .tok _, h, acc, E, hd, hE => by unfold entryN at hE; cases hE
  | k + 1, .bind _ _ _, h, acc, E, hd, hE => by unfold entryN at hE; cases hE
  | k + 1, .list _ _, h, acc, E, hd, hE => by unfold entryN at hE; cases hE
  | k + 1, .and _, h, acc, E, hd, hE => by unfold entryN at hE; cases hE
  | k + 1, .index _ _ _, h, acc, E, hd, hE => by unfold entryN at hE; cases hE
theorem entryN_fit {n : PN} {E : Names} (h : entryN n [] = some E) : E.Nodup ∧ E.length ≤ n.cnt := by
  have := entryN_nodup (n.cnt + 1) n (Nat.lt_succ_self _) [] E List.nodup_nil h
  simpa using this
end Go.Proofs.YtigalkobmfbdaaaGreatDoor
