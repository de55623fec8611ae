/- The plain law, third part: what is read, as data, is what was written; the names. No program in sight. -/
import Derived.Test.YtigalkobmfbdaaaGreatDoorPlain2
set_option linter.unusedVariables false
set_option linter.unusedSimpArgs false
namespace Go.Proofs.YtigalkobmfbdaaaGreatDoor
open Go.RowKit
def PN.isNul : PN → Bool
  | .nul => true
  | _ => false
abbrev noT : ByteArray := ⟨#[]⟩
abbrev strT (s : ByteArray) : Tree := .mk ⟨#[83, 116, 114, 105, 110, 103]⟩ s []
mutual
/-- A node as data. -/
def toTree : PN → Tree
  | .nul => .mk noT noT []
  | .any => .mk ⟨#[65, 110, 121]⟩ noT []
  | .nil => .mk ⟨#[78, 105, 108]⟩ noT []
  | .str s => strT s
  | .tok s => .mk ⟨#[84, 111, 107, 101, 110]⟩ s []
  | .struct nm ks => .mk nm noT (toTrees ks)
  | .list h t => if h.isNul && t.isNul then .mk ⟨#[76, 105, 115, 116]⟩ noT [] else .mk ⟨#[76, 105, 115, 116]⟩ noT [toTree h, toTree t]
  | .bind nm n i => if n.isNul then .mk ⟨#[66, 105, 110, 100, 105, 110, 103]⟩ nm [] else .mk ⟨#[66, 105, 110, 100, 105, 110, 103]⟩ nm [toTree n]
  | .or ks => .mk ⟨#[79, 114]⟩ noT (toTrees ks)
  | .and ks => .mk ⟨#[65, 110, 100]⟩ noT (toTrees ks)
  | .index p t i => .mk ⟨#[73, 110, 100, 101, 120, 83, 121, 109, 98, 111, 108]⟩ noT [strT p, strT t, strT i]
def toTrees : List PN → List Tree
  | [] => []
  | n :: ns => toTree n :: toTrees ns
end
theorem empty_is {x : ByteArray} (h : x.toList = []) : x = noT := toList_inj (h.trans (toList_mk []).symm)
theorem toTree_toPN (t : Tree) : ∀ c, good t c = true → ∀ nm, toTree (toPN t nm).1 = t ∧ (toPN t nm).1.isNul = false := by
  refine Tree.ind (P := fun t => ∀ c, good t c = true → ∀ nm, toTree (toPN t nm).1 = t ∧ (toPN t nm).1.isNul = false) ?_ t
  clear t
  rintro ⟨k, x, ks⟩ ih c hg nm
  simp only [kids_mk] at ih
  have ihm : ∀ t ∈ ks, ∀ c, good t c = true → ∀ nm, toTree (toPN t nm).1 = t ∧ (toPN t nm).1.isNul = false := fun t ht => by
    obtain ⟨j, hj, rfl⟩ := List.getElem_of_mem ht
    exact ih j hj
  have ihl : ∀ (l : List Tree), (∀ t ∈ l, t ∈ ks ∧ ∃ c, good t c = true) → ∀ nm, toTrees (toPNs l nm).1 = l := by
    intro l
    induction l with
    | nil => intro _ nm; rw [toPNs, toTrees]
    | cons u l ihl =>
      intro h nm
      obtain ⟨hu, c, hc⟩ := h u (List.mem_cons_self ..)
      rw [toPNs_cons, toTrees, (ihm u hu c hc nm).1, ihl (fun t ht => h t (List.mem_cons_of_mem _ ht))]
  rw [toPN_mk]
  rcases kind_cases k with rfl | rfl | rfl | rfl | rfl | hk
  · obtain ⟨hx, rfl⟩ := good_leaf_parts (.inl rfl) hg
    obtain rfl := empty_is hx
    simp only [toList_mk]
    simp (decide := true) only [↓reduceIte]
    exact ⟨by rw [toTree], by first | rfl | trivial⟩
  · obtain ⟨hx, rfl⟩ := good_leaf_parts (.inr rfl) hg
    obtain rfl := empty_is hx
    simp only [toList_mk]
    simp (decide := true) only [↓reduceIte]
    exact ⟨by rw [toTree], by first | rfl | trivial⟩
  · obtain ⟨-, rfl, -⟩ := good_string_parts hg
    simp only [toList_mk]
    simp (decide := true) only [↓reduceIte]
    exact ⟨by rw [toTree], by first | rfl | trivial⟩
  · obtain ⟨hx, rfl | ⟨a, b, rfl, ha, hb1, hb⟩⟩ := good_list_parts hg
    · obtain rfl := empty_is hx
      simp only [toList_mk]
      simp (decide := true) only [↓reduceIte]
      exact ⟨by rw [toTree]; rfl, by first | rfl | trivial⟩
    · obtain rfl := empty_is hx
      simp only [toList_mk]
      simp (decide := true) only [↓reduceIte]
      obtain ⟨a1, a2⟩ := ihm a (by simp) _ ha nm
      obtain ⟨b1, b2⟩ := ihm b (by simp) _ hb (toPN a nm).2
      refine ⟨?_, by first | rfl | trivial⟩
      rw [toTree, a1, b1, a2]
      rfl
  · obtain ⟨hx, rfl | ⟨a, rfl, hn, ha⟩⟩ := good_bind_parts hg
    · simp only [toList_mk]
      simp (decide := true) only [↓reduceIte]
      exact ⟨by rw [toTree]; rfl, by first | rfl | trivial⟩
    · simp only [toList_mk]
      simp (decide := true) only [↓reduceIte]
      obtain ⟨a1, a2⟩ := ihm a (by simp) _ ha nm
      refine ⟨?_, by first | rfl | trivial⟩
      rw [toTree, a1, a2]
      rfl
  · have hk' : (k.toList == [65, 110, 121]) = false ∧ (k.toList == [78, 105, 108]) = false ∧ (k.toList == [83, 116, 114, 105, 110, 103]) = false ∧ (k.toList == [76, 105, 115, 116]) = false ∧ (k.toList == [66, 105, 110, 100, 105, 110, 103]) = false := by
      rcases hk with rfl | rfl | hk
      · simp only [toList_mk]; decide
      · simp only [toList_mk]; decide
      · exact ⟨hk.1, hk.2.1, hk.2.2.1, hk.2.2.2.1, hk.2.2.2.2.1⟩
    obtain ⟨h1, h2, h3, h4, h5⟩ := hk'
    obtain ⟨hks, hcap, hx⟩ := good_node hg h1 h2 h3 h4 h5
    obtain rfl := empty_is hx
    have e := ihl ks (fun t ht => ⟨ht, hks t ht⟩) nm
    rw [h1, h2, h3, h4, h5]
    simp only [Bool.false_eq_true, if_false]
    split
    · rename_i h6
      obtain rfl := beq_lit h6
      exact ⟨by rw [toTree, e], rfl⟩
    · exact ⟨by rw [toTree, e], rfl⟩
/-! ### Names -/
mutual
/-- The names of a pattern, each once, in the order in which they end. -/
def namesT : Tree → Names
  | .mk k x ks => if k.toList == [66, 105, 110, 100, 105, 110, 103] then addName (namesTs ks []) x.toList else namesTs ks []
def namesTs : List Tree → Names → Names
  | [], acc => acc
  | t :: ts, acc => namesTs ts ((namesT t).foldl addName acc)
end
theorem namesT_mk (k x : ByteArray) (ks : List Tree) : namesT (.mk k x ks) = if k.toList == [66, 105, 110, 100, 105, 110, 103] then addName (namesTs ks []) x.toList else namesTs ks [] := by rw [namesT]
theorem namesTs_cons (t : Tree) (ts : List Tree) (acc : Names) : namesTs (t :: ts) acc = namesTs ts ((namesT t).foldl addName acc) := by rw [namesTs]
theorem mem_addName {nm : Names} {s u : List UInt8} : u ∈ addName nm s ↔ u ∈ nm ∨ u = s := by
  unfold addName; split
  · constructor
    · exact .inl
    · rintro (h | rfl) <;> assumption
  · simp
theorem mem_foldl_addName : ∀ {l nm : Names} {u : List UInt8}, u ∈ l.foldl addName nm ↔ u ∈ nm ∨ u ∈ l
  | [], nm, u => by simp
  | s :: l, nm, u => by
    rw [List.foldl_cons, mem_foldl_addName, mem_addName]
    simp only [List.mem_cons]
    constructor
    · rintro ((h | h) | h)
      · exact .inl h
      · exact .inr (.inl h)
      · exact .inr (.inr h)
    · rintro (h | h | h)
      · exact .inl (.inl h)
      · exact .inl (.inr h)
      · exact .inr h
theorem addName_in {nm : Names} {s : List UInt8} (h : s ∈ nm) : addName nm s = nm := by rw [addName, if_pos h]
/-- To add names to names, and these to others. -/
theorem foldl_addName (a nm : Names) (s : List UInt8) : (addName a s).foldl addName nm = addName (a.foldl addName nm) s := by
  by_cases h : s ∈ a
  · rw [addName_in h, addName_in (mem_foldl_addName.2 (.inr h))]
  · rw [addName, if_neg h, List.foldl_append]; rfl
theorem foldl_foldl (l : Names) : ∀ (a nm : Names), (l.foldl addName a).foldl addName nm = l.foldl addName (a.foldl addName nm) := by
  induction l with
  | nil => intro a nm; rfl
  | cons s l ih => intro a nm; rw [List.foldl_cons, ih, foldl_addName]; rfl
theorem namesTs_foldl : ∀ (ts : List Tree) (acc nm : Names), (namesTs ts acc).foldl addName nm = namesTs ts (acc.foldl addName nm)
  | [], acc, nm => by rw [namesTs, namesTs]
  | t :: ts, acc, nm => by rw [namesTs_cons, namesTs_foldl ts, foldl_foldl, namesTs_cons]
theorem toPN_names (t : Tree) : ∀ c, good t c = true → ∀ nm, (toPN t nm).2 = (namesT t).foldl addName nm := by
  refine Tree.ind (P := fun t => ∀ c, good t c = true → ∀ nm, (toPN t nm).2 = (namesT t).foldl addName nm) ?_ t
  clear t
  rintro ⟨k, x, ks⟩ ih c hg nm
  simp only [kids_mk] at ih
  have ihm : ∀ t ∈ ks, ∀ c, good t c = true → ∀ nm, (toPN t nm).2 = (namesT t).foldl addName nm := fun t ht => by
    obtain ⟨j, hj, rfl⟩ := List.getElem_of_mem ht
    exact ih j hj
  have ihl : ∀ (l : List Tree), (∀ t ∈ l, t ∈ ks ∧ ∃ c, good t c = true) → ∀ nm, (toPNs l nm).2 = namesTs l nm := by
    intro l
    induction l with
    | nil => intro _ nm; rw [toPNs, namesTs]
    | cons u l ihl =>
      intro h nm
      obtain ⟨hu, c, hc⟩ := h u (List.mem_cons_self ..)
      rw [toPNs_cons, namesTs_cons, ← ihm u hu c hc nm, ← ihl (fun t ht => h t (List.mem_cons_of_mem _ ht))]
  rw [toPN_mk, namesT_mk]
  rcases kind_cases k with rfl | rfl | rfl | rfl | rfl | hk
  · obtain ⟨hx, rfl⟩ := good_leaf_parts (.inl rfl) hg
    simp only [toList_mk]
    simp (decide := true) only [↓reduceIte]
    rw [namesTs]
    rfl
  · obtain ⟨hx, rfl⟩ := good_leaf_parts (.inr rfl) hg
    simp only [toList_mk]
    simp (decide := true) only [↓reduceIte]
    rw [namesTs]
    rfl
  · obtain ⟨-, rfl, -⟩ := good_string_parts hg
    simp only [toList_mk]
    simp (decide := true) only [↓reduceIte]
    rw [namesTs]
    rfl
  · obtain ⟨hx, rfl | ⟨a, b, rfl, ha, hb1, hb⟩⟩ := good_list_parts hg
    · simp only [toList_mk]
      simp (decide := true) only [↓reduceIte]
      rw [namesTs]
      rfl
    · simp only [toList_mk]
      simp (decide := true) only [↓reduceIte]
      rw [ihm b (by simp) _ hb, ihm a (by simp) _ ha, namesTs_foldl, namesTs_cons, namesTs_cons, namesTs]
      rfl
  · obtain ⟨hx, rfl | ⟨a, rfl, hn, ha⟩⟩ := good_bind_parts hg
    · simp only [toList_mk]
      simp (decide := true) only [↓reduceIte]
      rw [namesTs, foldl_addName]
      rfl
    · simp only [toList_mk]
      simp (decide := true) only [↓reduceIte]
      rw [ihm a (by simp) _ ha, foldl_addName, namesTs_foldl, namesTs_cons, namesTs]
      rfl
  · have hk' : (k.toList == [65, 110, 121]) = false ∧ (k.toList == [78, 105, 108]) = false ∧ (k.toList == [83, 116, 114, 105, 110, 103]) = false ∧ (k.toList == [76, 105, 115, 116]) = false ∧ (k.toList == [66, 105, 110, 100, 105, 110, 103]) = false := by
      rcases hk with rfl | rfl | hk
      · simp only [toList_mk]; decide
      · simp only [toList_mk]; decide
      · exact ⟨hk.1, hk.2.1, hk.2.2.1, hk.2.2.2.1, hk.2.2.2.2.1⟩
    obtain ⟨h1, h2, h3, h4, h5⟩ := hk'
    obtain ⟨hks, hcap, hx⟩ := good_node hg h1 h2 h3 h4 h5
    have e := ihl ks (fun t ht => ⟨ht, hks t ht⟩) nm
    rw [h1, h2, h3, h4, h5]
    simp only [Bool.false_eq_true, if_false]
    rw [namesTs_foldl]
    simp only [List.foldl_nil]
    split <;> exact e
theorem toPN_names_nil (t : Tree) {c : Int} (hg : good t c = true) : (toPN t []).2 = namesT t := by
  rw [toPN_names t c hg []]
  have key : ∀ (l acc : Names), l.Nodup → (∀ s ∈ l, s ∉ acc) → l.foldl addName acc = acc ++ l := by
    intro l
    induction l with
    | nil => intro acc _ _; simp
    | cons s l ih =>
      intro acc hn hd
      rw [List.foldl_cons, addName, if_neg (hd s (List.mem_cons_self ..)), ih]
      · simp
      · exact (List.nodup_cons.1 hn).2
      · intro u hu hm
        rcases List.mem_append.1 hm with hm | hm
        · exact hd u (List.mem_cons_of_mem _ hu) hm
        · rw [List.mem_singleton.1 hm] at hu; exact (List.nodup_cons.1 hn).1 hu
  have add_nodup : ∀ (a : Names) s, a.Nodup → (addName a s).Nodup := by
    intro a s h
    unfold addName; split
    · exact h
    · rename_i hs
      rw [List.nodup_append]
      refine ⟨h, by simp, ?_⟩
      intro u hu v hv e
      rw [List.mem_singleton.1 hv] at e
      exact hs (e ▸ hu)
  have fold_nodup : ∀ (l a : Names), a.Nodup → (l.foldl addName a).Nodup := by
    intro l
    induction l with
    | nil => intro a h; exact h
    | cons s l ih => intro a h; exact ih _ (add_nodup a s h)
  have all_nodup : ∀ (ts : List Tree) (acc : Names), acc.Nodup → (namesTs ts acc).Nodup := by
    intro ts
    induction ts with
    | nil => intro acc h; rw [namesTs]; exact h
    | cons t ts ih => intro acc h; rw [namesTs_cons]; exact ih _ (fold_nodup _ _ h)
  have hnd : (namesT t).Nodup := by
    obtain ⟨k, x, ks⟩ := t
    rw [namesT_mk]
    split
    · exact add_nodup _ _ (all_nodup _ _ List.nodup_nil)
    · exact all_nodup _ _ List.nodup_nil
  rw [key _ _ hnd (by simp)]
  rfl
theorem namesT_len (t : Tree) : (namesT t).length ≤ count t := by
  have fold_len : ∀ (l a : Names), (l.foldl addName a).length ≤ a.length + l.length := by
    intro l
    induction l with
    | nil => intro a; simp
    | cons s l ih => intro a; rw [List.foldl_cons]; have := ih (addName a s); have := addName_len a s; simp only [List.length_cons]; omega
  refine Tree.rec (motive_1 := fun t => (namesT t).length ≤ count t) (motive_2 := fun ts => ∀ acc, (namesTs ts acc).length ≤ acc.length + countAll ts) ?_ ?_ ?_ t
  · intro k x ks ih
    have := ih []
    rw [namesT_mk]
    simp only [count]
    split
    · have := addName_len (namesTs ks []) x.toList; simp at *; omega
    · simp at *; omega
  · intro acc; rw [namesTs]; simp [countAll]
  · intro t ts h1 h2 acc
    rw [namesTs_cons]
    have a1 := h2 ((namesT t).foldl addName acc)
    have a2 := fold_len (namesT t) acc
    simp only [countAll]
    omega
end Go.Proofs.YtigalkobmfbdaaaGreatDoor
