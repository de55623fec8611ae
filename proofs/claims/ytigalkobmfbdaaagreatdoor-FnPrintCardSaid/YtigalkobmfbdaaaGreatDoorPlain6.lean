/- The plain law, sixth part: what is collected from a pattern that is read. No program in sight. -/
import Derived.Test.YtigalkobmfbdaaaGreatDoorPlain5
set_option linter.unusedVariables false
set_option linter.unusedSimpArgs false
namespace Go.Proofs.YtigalkobmfbdaaaGreatDoor
open Go.RowKit
mutual
/-- No node asks for symbols, no Or is empty. -/
def plainN : PN → Bool
  | .nul => true
  | .any => true
  | .nil => true
  | .str _ => true
  | .tok _ => true
  | .struct nm ks => !(nm.toList == [83, 121, 109, 98, 111, 108]) && plainNs ks
  | .list h t => plainN h && plainN t
  | .bind _ n _ => plainN n
  | .or ks => !ks.isEmpty && plainNs ks
  | .and _ => false
  | .index _ _ _ => false
def plainNs : List PN → Bool
  | [] => true
  | n :: ns => plainN n && plainNs ns
end
theorem fields_plain : ∀ x ∈ fieldsT, (x.1.toList == [83, 121, 109, 98, 111, 108]) = false := by decide +kernel
theorem toPN_plain (t : Tree) : ∀ c, good t c = true → ∀ nm, plainN (toPN t nm).1 = true := by
  refine Tree.ind (P := fun t => ∀ c, good t c = true → ∀ nm, plainN (toPN t nm).1 = true) ?_ t
  clear t
  rintro ⟨k, x, ks⟩ ih c hg nm
  simp only [kids_mk] at ih
  have ihm : ∀ t ∈ ks, ∀ c, good t c = true → ∀ nm, plainN (toPN t nm).1 = true := fun t ht => by
    obtain ⟨j, hj, rfl⟩ := List.getElem_of_mem ht
    exact ih j hj
  have ihl : ∀ (l : List Tree), (∀ t ∈ l, t ∈ ks ∧ ∃ c, good t c = true) → ∀ nm, plainNs (toPNs l nm).1 = true := by
    intro l
    induction l with
    | nil => intro _ nm; rw [toPNs, plainNs]
    | cons u l ihl =>
      intro h nm
      obtain ⟨hu, c, hc⟩ := h u (List.mem_cons_self ..)
      rw [toPNs_cons, plainNs, ihm u hu c hc nm, ihl (fun t ht => h t (List.mem_cons_of_mem _ ht))]
      rfl
  rw [toPN_mk]
  rcases kind_cases k with rfl | rfl | rfl | rfl | rfl | hk
  · simp only [toList_mk]
    simp (decide := true) only [↓reduceIte]
    try rw [plainN]
  · simp only [toList_mk]
    simp (decide := true) only [↓reduceIte]
    try rw [plainN]
  · simp only [toList_mk]
    simp (decide := true) only [↓reduceIte]
    try rw [plainN]
  · obtain ⟨hx, rfl | ⟨a, b, rfl, ha, hb1, hb⟩⟩ := good_list_parts hg
    · simp only [toList_mk]
      simp (decide := true) only [↓reduceIte]
      try simp [plainN]
    · simp only [toList_mk]
      simp (decide := true) only [↓reduceIte]
      rw [plainN, ihm a (by simp) _ ha, ihm b (by simp) _ hb]
      rfl
  · obtain ⟨hx, rfl | ⟨a, rfl, hn, ha⟩⟩ := good_bind_parts hg
    · simp only [toList_mk]
      simp (decide := true) only [↓reduceIte]
      try simp [plainN]
    · simp only [toList_mk]
      simp (decide := true) only [↓reduceIte]
      rw [plainN, ihm a (by simp) _ ha]
  · have hk' : (k.toList == [65, 110, 121]) = false ∧ (k.toList == [78, 105, 108]) = false ∧ (k.toList == [83, 116, 114, 105, 110, 103]) = false ∧ (k.toList == [76, 105, 115, 116]) = false ∧ (k.toList == [66, 105, 110, 100, 105, 110, 103]) = false := by
      rcases hk with rfl | rfl | hk
      · simp only [toList_mk]; decide
      · simp only [toList_mk]; decide
      · exact ⟨hk.1, hk.2.1, hk.2.2.1, hk.2.2.2.1, hk.2.2.2.2.1⟩
    obtain ⟨h1, h2, h3, h4, h5⟩ := hk'
    obtain ⟨hks, hcap, hx⟩ := good_node hg h1 h2 h3 h4 h5
    have e := ihl ks (fun t ht => ⟨ht, hks t ht⟩) nm
    rw [h1, h2, h3, h4, h5]
    simp only [Bool.false_eq_true, if_false]
    rcases good_node_kind hg h1 h2 h3 h4 h5 with ⟨rfl, hne⟩ | ⟨rfl, -⟩ | ⟨hn, -⟩
    · simp only [toList_mk]
      simp (decide := true) only [↓reduceIte]
      rw [plainN, e]
      cases ks with
      | nil => exact absurd rfl hne
      | cons u l => rw [toPNs_cons]; rfl
    · simp only [toList_mk]
      simp (decide := true) only [↓reduceIte]
      rw [plainN, e]
      simp only [toList_mk]
      decide
    · obtain ⟨y, hy, rfl⟩ := named_key hn
      rw [(named_facts y hy).2.2.2.1, if_neg (by decide), plainN, e, fields_plain y hy]
      rfl
mutual
/-- The types at which a match begins, added to others; none: not said. -/
def entryN : PN → Names → Option Names
  | .struct nm ks, acc => if nm.toList == [78, 111, 116] then (match ks with
    | [a] => entryN a acc
    | _ => none) else if named nm then some (addName acc nm.toList) else none
  | .or ks, acc => entryNs ks acc
  | _, _ => none
def entryNs : List PN → Names → Option Names
  | [], acc => some acc
  | n :: ns, acc => match entryN n acc with
    | none => none
    | some a => entryNs ns a
end
theorem entryN_struct (nm : ByteArray) (ks : List PN) (acc : Names) : entryN (.struct nm ks) acc = if nm.toList == [78, 111, 116] then (match ks with
    | [a] => entryN a acc
    | _ => none) else if named nm then some (addName acc nm.toList) else none := by
  conv => lhs; unfold entryN
theorem firstAll_mem {ks : List Tree} (h : ks.all first = true) : ∀ t ∈ ks, first t = true := by rw [List.all_eq_true] at h; exact h
theorem fields_Not : (fields ⟨#[78, 111, 116]⟩).length = 0 := by decide +kernel
theorem first_entry (t : Tree) : ∀ c, good t c = true → first t = true → ∀ nm acc, ∃ E, entryN (toPN t nm).1 acc = some E := by
  refine Tree.ind (P := fun t => ∀ c, good t c = true → first t = true → ∀ nm acc, ∃ E, entryN (toPN t nm).1 acc = some E) ?_ t
  clear t
  rintro ⟨k, x, ks⟩ ih c hg hf nm acc
  simp only [kids_mk] at ih
  have ihm : ∀ t ∈ ks, ∀ c, good t c = true → first t = true → ∀ nm acc, ∃ E, entryN (toPN t nm).1 acc = some E := fun t ht => by
    obtain ⟨j, hj, rfl⟩ := List.getElem_of_mem ht
    exact ih j hj
  have ihl : ∀ (l : List Tree), (∀ t ∈ l, t ∈ ks ∧ first t = true ∧ ∃ c, good t c = true) → ∀ nm acc, ∃ E, entryNs (toPNs l nm).1 acc = some E := by
    intro l
    induction l with
    | nil => intro _ nm acc; rw [toPNs, entryNs]; exact ⟨_, rfl⟩
    | cons u l ihl =>
      intro h nm acc
      obtain ⟨hu, h1, c, hc⟩ := h u (List.mem_cons_self ..)
      obtain ⟨E, hE⟩ := ihm u hu c hc h1 nm acc
      rw [toPNs_cons, entryNs, hE]
      exact ihl (fun t ht => h t (List.mem_cons_of_mem _ ht)) _ _
  replace hf : (if k.toList == [79, 114] then ks.all first else decide (0 < (fields k).length)) = true := by rw [first_eq] at hf; exact hf
  by_cases h6 : (k.toList == [79, 114]) = true
  · rw [if_pos h6] at hf
    obtain rfl := beq_lit h6
    have h1 : ((⟨#[79, 114]⟩ : ByteArray).toList == [65, 110, 121]) = false := by simp only [toList_mk]; decide
    have h2 : ((⟨#[79, 114]⟩ : ByteArray).toList == [78, 105, 108]) = false := by simp only [toList_mk]; decide
    have h3 : ((⟨#[79, 114]⟩ : ByteArray).toList == [83, 116, 114, 105, 110, 103]) = false := by simp only [toList_mk]; decide
    have h4 : ((⟨#[79, 114]⟩ : ByteArray).toList == [76, 105, 115, 116]) = false := by simp only [toList_mk]; decide
    have h5 : ((⟨#[79, 114]⟩ : ByteArray).toList == [66, 105, 110, 100, 105, 110, 103]) = false := by simp only [toList_mk]; decide
    obtain ⟨hks, -, -⟩ := good_node hg h1 h2 h3 h4 h5
    rw [toPN_mk, h1, h2, h3, h4, h5]
    simp only [Bool.false_eq_true, if_false]
    rw [if_pos (by simp only [toList_mk]; decide), entryN]
    exact ihl ks (fun t ht => ⟨ht, firstAll_mem hf t ht, hks t ht⟩) nm acc
  · rw [if_neg h6, decide_eq_true_eq] at hf
    obtain ⟨y, hy, rfl⟩ := fieldsT_key (k := k) (by intro e; rw [e] at hf; simp at hf)
    obtain ⟨-, -, -, -, h1, h2, h3, h7, h4, h5⟩ := named_facts y hy
    rw [toPN_mk, h1, h2, h3, h4, h5]
    simp only [Bool.false_eq_true, if_false]
    rw [if_neg h6, entryN_struct, h7]
    rcases good_node_kind hg h1 h2 h3 h4 h5 with ⟨e, -⟩ | ⟨e, -⟩ | ⟨hn, -⟩
    · rw [e, toList_mk] at h6; exact absurd (by decide) h6
    · rw [e, toList_mk] at h7; exact absurd h7 (by decide)
    · rw [hn]; exact ⟨_, rfl⟩
/-- A node of a type: it alone. -/
theorem entry_one {t : Tree} {c : Int} (hg : good t c = true) (hf : fields t.kind ≠ []) (nm acc : Names) : entryN (toPN t nm).1 acc = some (addName acc t.kind.toList) ∧ nodeKind t = true ∧ named t.kind = true ∧ (toPN t nm).1 = .struct t.kind (toPNs t.kids nm).1 := by
  obtain ⟨k, x, ks⟩ := t
  simp only [kind_mk, kids_mk] at *
  obtain ⟨y, hy, rfl⟩ := fieldsT_key hf
  obtain ⟨-, -, -, h6, h1, h2, h3, h7, h4, h5⟩ := named_facts y hy
  have hn : named y.1 = true := by
    rcases good_node_kind hg h1 h2 h3 h4 h5 with ⟨e, -⟩ | ⟨e, -⟩ | ⟨hn, -⟩
    · rw [e, toList_mk] at h6; exact absurd h6 (by decide)
    · rw [e, toList_mk] at h7; exact absurd h7 (by decide)
    · exact hn
  rw [toPN_mk, h1, h2, h3, h4, h5, h6]
  simp only [Bool.false_eq_true, if_false]
  refine ⟨?_, ?_, hn, trivial⟩
  · rw [entryN_struct, h7, hn]; rfl
  · unfold nodeKind; simp only [kind_mk]; rw [h1, h2, h3, h4, h5]; rfl
end Go.Proofs.YtigalkobmfbdaaaGreatDoor
