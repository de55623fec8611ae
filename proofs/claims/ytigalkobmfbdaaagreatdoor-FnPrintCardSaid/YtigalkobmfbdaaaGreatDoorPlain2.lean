/- The plain law of the parser: what the tokens of a pattern are read as. No program in sight. -/
import Derived.Test.YtigalkobmfbdaaaGreatDoorPlain1
set_option linter.unusedVariables false
set_option linter.unusedSimpArgs false
namespace Go.Proofs.YtigalkobmfbdaaaGreatDoor
open Go.RowKit
mutual
/-- What a pattern is read as, and the names behind it. -/
def toPN : Tree → Names → PN × Names
  | .mk k x ks, nm =>
    if k.toList == [65, 110, 121] then (.any, nm)
    else if k.toList == [78, 105, 108] then (.nil, nm)
    else if k.toList == [83, 116, 114, 105, 110, 103] then (.str x, nm)
    else if k.toList == [76, 105, 115, 116] then (match ks with
      | [] => (.list .nul .nul, nm)
      | a :: b :: _ => (.list (toPN a nm).1 (toPN b (toPN a nm).2).1, (toPN b (toPN a nm).2).2)
      | [_] => (.nul, nm))
    else if k.toList == [66, 105, 110, 100, 105, 110, 103] then (match ks with
      | [] => (.bind x .nul (nm.idxOf x.toList), addName nm x.toList)
      | a :: _ => (.bind x (toPN a nm).1 ((toPN a nm).2.idxOf x.toList), addName (toPN a nm).2 x.toList))
    else if k.toList == [79, 114] then (.or (toPNs ks nm).1, (toPNs ks nm).2)
    else (.struct k (toPNs ks nm).1, (toPNs ks nm).2)
def toPNs : List Tree → Names → List PN × Names
  | [], nm => ([], nm)
  | t :: ts, nm => ((toPN t nm).1 :: (toPNs ts (toPN t nm).2).1, (toPNs ts (toPN t nm).2).2)
end
theorem toPN_mk (k x : ByteArray) (ks : List Tree) (nm : Names) : toPN (.mk k x ks) nm = (
    if k.toList == [65, 110, 121] then (.any, nm)
    else if k.toList == [78, 105, 108] then (.nil, nm)
    else if k.toList == [83, 116, 114, 105, 110, 103] then (.str x, nm)
    else if k.toList == [76, 105, 115, 116] then (match ks with
      | [] => (.list .nul .nul, nm)
      | a :: b :: _ => (.list (toPN a nm).1 (toPN b (toPN a nm).2).1, (toPN b (toPN a nm).2).2)
      | [_] => (.nul, nm))
    else if k.toList == [66, 105, 110, 100, 105, 110, 103] then (match ks with
      | [] => (.bind x .nul (nm.idxOf x.toList), addName nm x.toList)
      | a :: _ => (.bind x (toPN a nm).1 ((toPN a nm).2.idxOf x.toList), addName (toPN a nm).2 x.toList))
    else if k.toList == [79, 114] then (.or (toPNs ks nm).1, (toPNs ks nm).2)
    else (.struct k (toPNs ks nm).1, (toPNs ks nm).2)) := by
  conv => lhs; unfold toPN
theorem toPNs_cons (t : Tree) (ts : List Tree) (nm : Names) : toPNs (t :: ts) nm = ((toPN t nm).1 :: (toPNs ts (toPN t nm).2).1, (toPNs ts (toPN t nm).2).2) := by rw [toPNs]
theorem toPNs_len : ∀ (ts : List Tree) (nm : Names), (toPNs ts nm).1.length = ts.length
  | [], _ => by rw [toPNs]; rfl
  | t :: ts, nm => by rw [toPNs_cons]; simp [toPNs_len ts]
theorem toPN_whole : ∀ (l : List Tree) (t : Tree) (nm : Names), whole t = some l → toPN t nm = ((toPNs l nm).1.foldr PN.list (.list .nul .nul), (toPNs l nm).2)
  | [], ⟨k, x, ks⟩, nm, h => by
    rw [whole_mk] at h
    split at h
    · rename_i hk
      obtain rfl := beq_lit hk
      rw [toPN_mk]
      simp only [toList_mk]
      simp (decide := true) only [↓reduceIte]
      rw [toPNs]
      match ks, h with
      | [], _ => rfl
      | [_], h => simp at h
      | a :: b :: _, h => simp only at h; cases hb : whole b <;> rw [hb] at h <;> simp at h
    · cases h
  | u :: l, ⟨k, x, ks⟩, nm, h => by
    rw [whole_mk] at h
    split at h
    · rename_i hk
      obtain rfl := beq_lit hk
      rw [toPN_mk]
      simp only [toList_mk]
      simp (decide := true) only [↓reduceIte]
      rw [toPNs_cons]
      match ks, h with
      | [], h => simp at h
      | [_], h => simp at h
      | a :: b :: _, h =>
        simp only at h
        cases hb : whole b with
        | none => rw [hb] at h; simp at h
        | some l' =>
          rw [hb] at h
          simp at h
          obtain ⟨rfl, rfl⟩ := h
          simp only
          rw [toPN_whole l' b _ hb]
          simp
    · cases h
/-! ### Good patterns are tame -/
theorem named_facts : ∀ x ∈ fieldsT, x.1.size ≤ 40 ∧ typeInfo x.1 = false ∧ (named x.1 = true → structNodes x.1 = some (args x.1).length) ∧ (x.1.toList == [79, 114]) = false ∧ (x.1.toList == [65, 110, 121]) = false ∧ (x.1.toList == [78, 105, 108]) = false ∧ (x.1.toList == [83, 116, 114, 105, 110, 103]) = false ∧ (x.1.toList == [78, 111, 116]) = false ∧ (x.1.toList == [76, 105, 115, 116]) = false ∧ (x.1.toList == [66, 105, 110, 100, 105, 110, 103]) = false := by decide +kernel
theorem signs_small : ∀ k ∈ signKinds, ∀ x ∈ tokens k, x.size ≤ 40 := by decide +kernel
theorem empty_size {x : ByteArray} (h : x.toList = []) : x.size = 0 := by rw [← size_toList, h]; rfl
theorem name_size {x : ByteArray} (h : name x.toList = true) : x.size ≤ 6 := by
  unfold name at h
  simp only [Bool.and_eq_true, decide_eq_true_eq, size_toList] at h
  exact h.1.2
theorem string_size {x : ByteArray} {ks : List Tree} {c : Int} (h : good (.mk ⟨#[83, 116, 114, 105, 110, 103]⟩ x ks) c = true) : x.size ≤ 40 := by
  rw [good_mk] at h
  simp only [toList_mk] at h
  simp (decide := true) only [↓reduceIte] at h
  simp only [Bool.and_eq_true, Bool.or_eq_true, beq_iff_eq, List.length_eq_zero_iff] at h
  rcases h.2 with h | h
  · have := h.2
    unfold word at this
    simp only [Bool.and_eq_true, decide_eq_true_eq, size_toList] at this
    omega
  · have := h.2
    unfold sign at this
    rw [List.any_eq_true] at this
    obtain ⟨k, hk, this⟩ := this
    rw [List.any_eq_true] at this
    obtain ⟨y, hy, this⟩ := this
    rw [← toList_inj (eq_of_beq this)]
    exact signs_small k hk y hy
/-- A good node: its name is Or, Not, or a type's. -/
theorem good_node_kind {k x : ByteArray} {ks : List Tree} {c : Int} (h : good (.mk k x ks) c = true) (h1 : (k.toList == [65, 110, 121]) = false) (h2 : (k.toList == [78, 105, 108]) = false) (h3 : (k.toList == [83, 116, 114, 105, 110, 103]) = false) (h4 : (k.toList == [76, 105, 115, 116]) = false) (h5 : (k.toList == [66, 105, 110, 100, 105, 110, 103]) = false) :
    (k = ⟨#[79, 114]⟩ ∧ ks ≠ []) ∨ (k = ⟨#[78, 111, 116]⟩ ∧ ks.length = 1) ∨ (named k = true ∧ ks.length = (args k).length) := by
  rw [good_mk, h1, h2, h3, h4, h5] at h
  simp only [Bool.or_self, Bool.false_eq_true, if_false] at h
  split at h
  · rename_i h6
    simp only [Bool.and_eq_true, decide_eq_true_eq, beq_iff_eq] at h
    exact .inl ⟨beq_lit h6, fun e => by rw [e] at h; simp at h⟩
  · split at h
    · rename_i h7
      split at h
      · exact .inr (.inl ⟨beq_lit h7, rfl⟩)
      · simp at h
    · simp only [Bool.and_eq_true, beq_iff_eq] at h
      exact .inr (.inr ⟨h.1.1.1.2, h.1.2⟩)
theorem tameAll_of_mem : ∀ {ks : List Tree}, (∀ t ∈ ks, tame t = true) → tameAll ks = true
  | [], _ => rfl
  | t :: ks, h => by simp only [tameAll, Bool.and_eq_true]; exact ⟨h t (List.mem_cons_self ..), tameAll_of_mem fun u hu => h u (List.mem_cons_of_mem _ hu)⟩
theorem tame_of {k x : ByteArray} {ks : List Tree} (h0 : (k.toList == [76, 105, 115, 116] && ks.length == 1) = false) (h1 : k.size ≤ 40) (h2 : x.size ≤ 40) (h3 : ∀ t ∈ ks, tame t = true) : tame (.mk k x ks) = true := by
  simp only [tame, h0, tameAll_of_mem h3, decide_eq_true h1, decide_eq_true (show x.size ≤ 48 by omega)]; rfl
theorem good_tame (t : Tree) : ∀ c, good t c = true → tame t = true := by
  refine Tree.ind (P := fun t => ∀ c, good t c = true → tame t = true) ?_ t
  clear t
  rintro ⟨k, x, ks⟩ ih c hg
  simp only [kids_mk] at ih
  have ihm : ∀ t ∈ ks, ∀ c, good t c = true → tame t = true := fun t ht => by
    obtain ⟨j, hj, rfl⟩ := List.getElem_of_mem ht
    exact ih j hj
  rcases kind_cases k with rfl | rfl | rfl | rfl | rfl | hk
  · obtain ⟨hx, rfl⟩ := good_leaf_parts (.inl rfl) hg
    exact tame_of (by simp only [toList_mk]; simp) (by decide) (by rw [empty_size hx]; decide) (by simp)
  · obtain ⟨hx, rfl⟩ := good_leaf_parts (.inr rfl) hg
    exact tame_of (by simp only [toList_mk]; simp) (by decide) (by rw [empty_size hx]; decide) (by simp)
  · have hz := string_size hg
    obtain ⟨-, rfl, -⟩ := good_string_parts hg
    exact tame_of (by simp only [toList_mk]; simp) (by decide) hz (by simp)
  · obtain ⟨hx, rfl | ⟨a, b, rfl, ha, hb1, hb⟩⟩ := good_list_parts hg
    · exact tame_of (by simp only [toList_mk]; simp) (by decide) (by rw [empty_size hx]; decide) (by simp)
    · exact tame_of (by simp only [toList_mk]; simp) (by decide) (by rw [empty_size hx]; decide) (by
        intro t ht
        simp at ht
        rcases ht with rfl | rfl
        · exact ihm _ (by simp) _ ha
        · exact ihm _ (by simp) _ hb)
  · obtain ⟨hx, rfl | ⟨a, rfl, hn, ha⟩⟩ := good_bind_parts hg
    · exact tame_of (by simp only [toList_mk]; simp) (by decide) (by have := name_size hx; omega) (by simp)
    · exact tame_of (by simp only [toList_mk]; simp) (by decide) (by have := name_size hx; omega) (by
        intro t ht
        rw [List.mem_singleton.1 ht]
        exact ihm _ (by simp) _ ha)
  · have hk' : (k.toList == [65, 110, 121]) = false ∧ (k.toList == [78, 105, 108]) = false ∧ (k.toList == [83, 116, 114, 105, 110, 103]) = false ∧ (k.toList == [76, 105, 115, 116]) = false ∧ (k.toList == [66, 105, 110, 100, 105, 110, 103]) = false := by
      rcases hk with rfl | rfl | hk
      · simp only [toList_mk]; decide
      · simp only [toList_mk]; decide
      · exact ⟨hk.1, hk.2.1, hk.2.2.1, hk.2.2.2.1, hk.2.2.2.2.1⟩
    obtain ⟨h1, h2, h3, h4, h5⟩ := hk'
    obtain ⟨hks, hcap, hx⟩ := good_node hg h1 h2 h3 h4 h5
    refine tame_of (by rw [h4]; rfl) ?_ (by rw [empty_size hx]; decide) (fun t ht => by obtain ⟨c, hc⟩ := hks t ht; exact ihm t ht c hc)
    rcases good_node_kind hg h1 h2 h3 h4 h5 with ⟨rfl, -⟩ | ⟨rfl, -⟩ | ⟨hn, -⟩
    · decide
    · decide
    · obtain ⟨y, hy, rfl⟩ := named_key hn
      exact (named_facts y hy).1
/-! ### Reading -/
theorem toks_head (s : Int) (t : Tree) : ∀ c, good t c = true → ∃ y r, toks s t = y :: r ∧ (y.1 = 1 ∨ y.1 = 3 ∨ y.1 = 6 ∨ y.1 = 9 ∨ y.1 = 10) := by
  refine Tree.ind (P := fun t => ∀ c, good t c = true → ∃ y r, toks s t = y :: r ∧ (y.1 = 1 ∨ y.1 = 3 ∨ y.1 = 6 ∨ y.1 = 9 ∨ y.1 = 10)) ?_ t
  clear t
  rintro ⟨k, x, ks⟩ ih c hg
  simp only [kids_mk] at ih
  rw [toks_mk]
  split
  · split
    · exact ⟨_, _, rfl, by simp⟩
    · exact ⟨_, _, rfl, by simp⟩
  · split
    · exact ⟨_, _, rfl, by simp⟩
    · split
      · exact ⟨_, _, rfl, by simp⟩
      · split
        · rename_i hk
          obtain rfl := beq_lit hk
          obtain ⟨-, rfl | ⟨a, b, rfl, ha, hb1, hb⟩⟩ := good_list_parts hg
          · exact ⟨_, _, rfl, by simp⟩
          · simp only
            split
            · exact ⟨_, _, rfl, by simp⟩
            · split
              · obtain ⟨y, r, e, hy⟩ := ih 0 (by simp) _ ha
                simp only [List.getElem_cons_zero] at e
                rw [e]
                exact ⟨_, _, rfl, hy⟩
              · exact ⟨_, _, rfl, by simp⟩
        · split
          · rename_i hk
            obtain rfl := beq_lit hk
            obtain ⟨-, rfl | ⟨a, rfl, -⟩⟩ := good_bind_parts hg
            · exact ⟨_, _, rfl, by simp⟩
            · exact ⟨_, _, rfl, by simp⟩
          · exact ⟨_, _, rfl, by simp⟩
/-- The first token of an object. -/
def HeadT (s : Int) (t : Tree) : Prop := ∃ y r, toks s t = y :: r ∧ (y.1 = 1 ∨ y.1 = 3 ∨ y.1 = 6 ∨ y.1 = 9 ∨ y.1 = 10)
/-- Items that are cut from a text. -/
theorem items_cons {S : List Item} {y : Tok} {R : List Tok} (h : S.map tokOf = y :: R) (h0 : y.1 ≠ 0) : ∃ x S', S = x :: S' ∧ x.typ = y.1 ∧ x.val.toList = y.2 ∧ S'.map tokOf = R := by
  cases S with
  | nil => simp at h
  | cons x S' =>
    simp only [List.map_cons, List.cons.injEq] at h
    refine ⟨x, S', rfl, ?_, ?_, h.2⟩
    · rw [← h.1]; rfl
    · have h1 : x.typ ≠ 0 := fun e => h0 (by rw [← h.1]; exact e)
      rw [← h.1]; simp [tokOf, h1]
theorem items_head {S : List Item} {y : Tok} {R : List Tok} (h : S.map tokOf = y :: R) : ∃ x S', S = x :: S' ∧ x.typ = y.1 ∧ S'.map tokOf = R := by
  cases S with
  | nil => simp at h
  | cons x S' =>
    simp only [List.map_cons, List.cons.injEq] at h
    exact ⟨x, S', rfl, by rw [← h.1]; rfl, h.2⟩
/-- What may follow an object. -/
def Follow (R : List Tok) : Prop := ∃ y R', R = y :: R' ∧ y.1 ≠ 7 ∧ y.1 ≠ 8
def Follow7 (R : List Tok) : Prop := ∃ y R', R = y :: R' ∧ y.1 ≠ 7
def ObjOK (s : Int) (al : Bool) (t : Tree) : Prop := ∀ (nm : Names) (f : Nat) (S : List Item) (R : List Tok), 10 * count t ≤ f → S.map tokOf = toks s t ++ R → Follow R → ∃ S', S'.map tokOf = R ∧ objectM al (f + 1) S nm = some (some ((toPN t nm).1, S', (toPN t nm).2))
def HeadOK (s : Int) (al : Bool) (t : Tree) : Prop := ∀ (nm : Names) (f : Nat) (S : List Item) (R : List Tok), 10 * count t ≤ f → S.map tokOf = toks s t ++ R → Follow7 R → ∃ S', S'.map tokOf = R ∧ objectM al (f + 1) S nm = tailM al f (toPN t nm).1 S' (toPN t nm).2
def NodeOK (s : Int) (al : Bool) (t : Tree) : Prop := ∀ (nm : Names) (f : Nat) (S : List Item) (R : List Tok), 10 * count t ≤ f → S.map tokOf = toks s t ++ R → ∃ S', S'.map tokOf = R ∧ nodeM al f S nm = some (some ((toPN t nm).1, S', (toPN t nm).2))
theorem tail_done {al : Bool} {f : Nat} {n : PN} {S : List Item} {nm : Names} {R : List Tok} (hf : 0 < f) (h : S.map tokOf = R) (hF : Follow R) : tailM al f n S nm = some (some (n, S, nm)) := by
  obtain ⟨y, R', rfl, -, h8⟩ := hF
  obtain ⟨x, S', rfl, hx, -⟩ := items_head h
  obtain ⟨g, rfl⟩ : ∃ g, f = g + 1 := ⟨f - 1, by omega⟩
  rw [tailM_cons, if_neg (by rw [hx]; simpa using h8)]
theorem HeadOK.obj {s : Int} {al : Bool} {t : Tree} (h : HeadOK s al t) : ObjOK s al t := by
  intro nm f S R hf hS hF
  obtain ⟨S', h1, h2⟩ := h nm f S R hf hS (by obtain ⟨y, R', e, a, b⟩ := hF; exact ⟨y, R', e, a⟩)
  have := count_pos t
  exact ⟨S', h1, by rw [h2, tail_done (by omega) h1 hF]⟩
theorem NodeOK.head {s : Int} {al : Bool} {t : Tree} {v : List UInt8} {r : List Tok} (h : NodeOK s al t) (ht : toks s t = (1, v) :: r) : HeadOK s al t := by
  intro nm f S R hf hS hF
  obtain ⟨S', h1, h2⟩ := h nm f S R hf hS
  rw [ht] at hS
  obtain ⟨x, S1, rfl, hx, -⟩ := items_head hS
  refine ⟨S', h1, ?_⟩
  rw [objectM_cons, if_pos (by rw [hx]; rfl), h2]
  rfl
theorem objs_read {s : Int} {al : Bool} {stop : Int} (hst : stop = 2 ∨ stop = 4) : ∀ (ks : List Tree), (∀ t ∈ ks, ObjOK s al t ∧ HeadT s t) → ∀ (nm : Names) (f : Nat) (S : List Item) (R : List Tok) (v : List UInt8), 10 * countAll ks + 2 ≤ f → S.map tokOf = toksAll s ks ++ (stop, v) :: R →
    ∃ S', S'.map tokOf = R ∧ objsM al f stop S nm = some (some ((toPNs ks nm).1, S', (toPNs ks nm).2))
  | [], _, nm, f, S, R, v, hf, hS => by
    rw [toksAll] at hS
    obtain ⟨x, S1, rfl, hx, h1⟩ := items_head hS
    obtain ⟨g, rfl⟩ : ∃ g, f = g + 1 := ⟨f - 1, by omega⟩
    refine ⟨S1, h1, ?_⟩
    rw [objsM_cons, if_pos (by rw [hx]; simp), toPNs]
  | t :: ks, h, nm, f, S, R, v, hf, hS => by
    obtain ⟨h1, y, r, ey, hy⟩ := h t (List.mem_cons_self ..)
    simp only [countAll] at hf
    have hpos := count_pos t
    obtain ⟨g, rfl⟩ : ∃ g, f = g + 2 := ⟨f - 2, by omega⟩
    rw [toksAll, List.append_assoc] at hS
    have hF : Follow (toksAll s ks ++ (stop, v) :: R) := by
      cases ks with
      | nil => rw [toksAll]; refine ⟨_, _, rfl, ?_⟩; rcases hst with rfl | rfl <;> simp
      | cons u ks' =>
        obtain ⟨-, y', r', ey', hy'⟩ := h u (by simp)
        rw [toksAll, ey']
        refine ⟨_, _, rfl, ?_⟩
        rcases hy' with e | e | e | e | e <;> rw [e] <;> decide
    obtain ⟨S1, e1, e2⟩ := h1 nm g S _ (by omega) hS hF
    obtain ⟨S2, e3, e4⟩ := objs_read hst ks (fun u hu => h u (List.mem_cons_of_mem _ hu)) (toPN t nm).2 (g + 1) S1 R v (by omega) e1
    refine ⟨S2, e3, ?_⟩
    rw [ey] at hS
    obtain ⟨x, S', rfl, hx, -⟩ := items_head hS
    rw [objsM_cons, if_neg (by
      rw [hx]
      rcases hst with rfl | rfl <;> rcases hy with e | e | e | e | e <;> rw [e] <;> decide), e2]
    simp only [PRes.andThen]
    rw [e4, toPNs_cons]
theorem populate_named {al : Bool} {k : ByteArray} {ks : List PN} (hn : named k = true) (hl : ks.length = (args k).length) : said k ks = true ∧ populate al k ks = some (.struct k ks) := by
  obtain ⟨y, hy, rfl⟩ := named_key hn
  obtain ⟨-, h1, h2, h3, h4, -, -, h5, h6, h7⟩ := named_facts y hy
  constructor
  · unfold said; rw [h7, h3]; rfl
  · unfold populate
    rw [h2 hn]
    simp only [h1, h3, h4, h6, hl, Bool.and_false, Bool.false_eq_true, if_false, bne_self_eq_false]
theorem populate_Or (al : Bool) (ks : List PN) (hne : ks ≠ []) : said ⟨#[79, 114]⟩ ks = true ∧ populate al ⟨#[79, 114]⟩ ks = some (.or ks) := by
  constructor
  · unfold said
    simp only [toList_mk]
    cases ks with
    | nil => exact absurd rfl hne
    | cons a l => simp
  · unfold populate
    rw [show structNodes ⟨#[79, 114]⟩ = some 0 by decide +kernel]
    simp only [show typeInfo ⟨#[79, 114]⟩ = false by decide +kernel, toList_mk, Bool.and_false]
    rfl
theorem populate_Not (al : Bool) (a : PN) : said ⟨#[78, 111, 116]⟩ [a] = true ∧ populate al ⟨#[78, 111, 116]⟩ [a] = some (.struct ⟨#[78, 111, 116]⟩ [a]) := by
  constructor
  · unfold said
    simp only [toList_mk]
    rfl
  · unfold populate
    rw [show structNodes ⟨#[78, 111, 116]⟩ = some 1 by decide +kernel]
    simp only [show typeInfo ⟨#[78, 111, 116]⟩ = false by decide +kernel, toList_mk, Bool.and_false]
    rfl
theorem populate_List (al : Bool) (a b : PN) : said ⟨#[76, 105, 115, 116]⟩ [a, b] = true ∧ populate al ⟨#[76, 105, 115, 116]⟩ [a, b] = some (.list a b) := by
  constructor
  · unfold said
    simp only [toList_mk]
    rfl
  · unfold populate
    rw [show structNodes ⟨#[76, 105, 115, 116]⟩ = some 2 by decide +kernel]
    simp only [show typeInfo ⟨#[76, 105, 115, 116]⟩ = false by decide +kernel, toList_mk, Bool.and_false]
    rfl
theorem populate_Any (al : Bool) : said ⟨#[65, 110, 121]⟩ [] = true ∧ populate al ⟨#[65, 110, 121]⟩ [] = some .any := by
  constructor
  · unfold said
    simp only [toList_mk]
    rfl
  · unfold populate
    rw [show structNodes ⟨#[65, 110, 121]⟩ = some 0 by decide +kernel]
    simp only [show typeInfo ⟨#[65, 110, 121]⟩ = false by decide +kernel, toList_mk, Bool.and_false]
    rfl
/-- A node with its kids. -/
theorem node_gen {s : Int} {al : Bool} {k : ByteArray} {ks : List Tree} (hks : ∀ t ∈ ks, ObjOK s al t ∧ HeadT s t)
    (nm : Names) (hp : said k (toPNs ks nm).1 = true) (f : Nat) (S : List Item) (R : List Tok) (hf : 10 * countAll ks + 3 ≤ f) (hS : S.map tokOf = (1, [40]) :: (5, k.toList) :: (toksAll s ks ++ (2, [41]) :: R)) :
    ∃ S', S'.map tokOf = R ∧ nodeM al f S nm = some ((populate al k (toPNs ks nm).1).map fun n => (n, S', (toPNs ks nm).2)) := by
  obtain ⟨x, S1, rfl, hx, h1⟩ := items_head hS
  obtain ⟨t, S2, rfl, ht, hv, h2⟩ := items_cons h1 (by simp)
  obtain ⟨g, rfl⟩ : ∃ g, f = g + 1 := ⟨f - 1, by omega⟩
  obtain ⟨S3, h3, h4⟩ := objs_read (.inl rfl) ks hks nm g S2 R [41] (by omega) h2
  refine ⟨S3, h3, ?_⟩
  obtain rfl : t.val = k := toList_inj hv
  rw [nodeM_cons, if_pos (by rw [hx]; rfl)]
  simp only
  rw [if_pos (by rw [ht]; rfl), h4]
  simp only [PRes.andThen]
  rw [if_pos hp]
theorem node_read {s : Int} {al : Bool} {k : ByteArray} {ks : List Tree} (hks : ∀ t ∈ ks, ObjOK s al t ∧ HeadT s t) {n : List PN → PN} (hp : ∀ l : List PN, l.length = ks.length → said k l = true ∧ populate al k l = some (n l))
    (nm : Names) (f : Nat) (S : List Item) (R : List Tok) (hf : 10 * countAll ks + 3 ≤ f) (hS : S.map tokOf = (1, [40]) :: (5, k.toList) :: (toksAll s ks ++ (2, [41]) :: R)) :
    ∃ S', S'.map tokOf = R ∧ nodeM al f S nm = some (some (n (toPNs ks nm).1, S', (toPNs ks nm).2)) := by
  obtain ⟨p1, p2⟩ := hp (toPNs ks nm).1 (toPNs_len ks nm)
  obtain ⟨S', h1, h2⟩ := node_gen hks nm p1 f S R hf hS
  exact ⟨S', h1, by rw [h2, p2]; rfl⟩
def nodeKind (t : Tree) : Bool := !(t.kind.toList == [65, 110, 121]) && !(t.kind.toList == [78, 105, 108]) && !(t.kind.toList == [83, 116, 114, 105, 110, 103]) && !(t.kind.toList == [76, 105, 115, 116]) && !(t.kind.toList == [66, 105, 110, 100, 105, 110, 103])
theorem named_node {t : Tree} (h : named t.kind = true) : nodeKind t = true := by
  obtain ⟨y, hy, e⟩ := named_key h
  obtain ⟨-, -, -, -, h1, h2, h3, -, h4, h5⟩ := named_facts y hy
  unfold nodeKind
  rw [e, h1, h2, h3, h4, h5]; rfl
theorem countAll_two (a b : Tree) : countAll [a, b] = count a + count b := by simp [countAll]
theorem read_text (s : Int) (al : Bool) (t : Tree) : (∀ c, good t c = true → ObjOK s al t ∧ (heavy t = false → (t.kind.toList == [83, 116, 114, 105, 110, 103]) = false → HeadOK s al t) ∧ (nodeKind t = true → NodeOK s al t)) ∧ (∀ l, whole t = some l → good t 108 = true → ∀ u ∈ l, ObjOK s al u ∧ HeadT s u) := by
  refine Tree.ind (P := fun t => (∀ c, good t c = true → ObjOK s al t ∧ (heavy t = false → (t.kind.toList == [83, 116, 114, 105, 110, 103]) = false → HeadOK s al t) ∧ (nodeKind t = true → NodeOK s al t)) ∧ (∀ l, whole t = some l → good t 108 = true → ∀ u ∈ l, ObjOK s al u ∧ HeadT s u)) ?_ t
  clear t
  rintro ⟨k, x, ks⟩ ih
  simp only [kids_mk] at ih
  have ihm : ∀ t ∈ ks, ∀ c, good t c = true → ObjOK s al t ∧ (heavy t = false → (t.kind.toList == [83, 116, 114, 105, 110, 103]) = false → HeadOK s al t) ∧ (nodeKind t = true → NodeOK s al t) := fun t ht => by
    obtain ⟨j, hj, rfl⟩ := List.getElem_of_mem ht
    exact (ih j hj).1
  refine ⟨fun c hg => ?_, fun l hw hg u hu => ?_⟩
  · rcases kind_cases k with rfl | rfl | rfl | rfl | rfl | hk
    · obtain ⟨hx, rfl⟩ := good_leaf_parts (.inl rfl) hg
      have hH : HeadOK s al (.mk ⟨#[65, 110, 121]⟩ x []) := by
        intro nm f S R hf hS hF
        rw [toks_mk] at hS
        simp only [toList_mk] at hS
        simp (decide := true) only [↓reduceIte] at hS
        rw [toPN_mk]
        simp only [toList_mk]
        simp (decide := true) only [↓reduceIte]
        split at hS
        · simp only [List.cons_append, List.nil_append] at hS
          obtain ⟨S', h1, h2⟩ := node_read (s := s) (al := al) (k := ⟨#[65, 110, 121]⟩) (ks := []) (by simp) (n := fun _ => .any) (fun l hl => by
            obtain rfl := List.eq_nil_of_length_eq_zero hl
            exact populate_Any al) nm f S R (by simp [count, countAll] at hf ⊢; omega) (by rw [hS, toksAll, toList_mk]; rfl)
          obtain ⟨x0, S1, rfl, hx0, -⟩ := items_head hS
          refine ⟨S', h1, ?_⟩
          rw [objectM_cons, if_pos (by rw [hx0]; rfl), h2, toPNs]
          rfl
        · simp only [List.cons_append, List.nil_append] at hS
          obtain ⟨x0, S1, rfl, hx0, h1⟩ := items_head hS
          refine ⟨S1, h1, ?_⟩
          rw [objectM_cons, if_neg (by rw [hx0]; simp), if_neg (by rw [hx0]; simp), if_neg (by rw [hx0]; simp), if_pos (by rw [hx0]; rfl)]
      exact ⟨hH.obj, fun _ _ => hH, fun h => by simp only [nodeKind, kind_mk, toList_mk] at h; exact absurd h (by decide)⟩
    · obtain ⟨hx, rfl⟩ := good_leaf_parts (.inr rfl) hg
      refine ⟨?_, fun h => by simp only [heavy, kind_mk, toList_mk] at h; exact absurd h (by decide), fun h => by simp only [nodeKind, kind_mk, toList_mk] at h; exact absurd h (by decide)⟩
      intro nm f S R hf hS hF
      rw [toks_mk] at hS
      simp only [toList_mk] at hS
      simp (decide := true) only [↓reduceIte] at hS
      rw [toPN_mk]
      simp only [toList_mk]
      simp (decide := true) only [↓reduceIte]
      simp only [List.cons_append, List.nil_append] at hS
      obtain ⟨x0, S1, rfl, hx0, hv, h1⟩ := items_cons hS (by simp)
      refine ⟨S1, h1, ?_⟩
      rw [objectM_cons, if_neg (by rw [hx0]; simp), if_neg (by rw [hx0]; simp), if_pos (by rw [hx0]; rfl), if_pos (by rw [hv]; rfl)]
    · obtain ⟨-, rfl, -⟩ := good_string_parts hg
      refine ⟨?_, fun _ h => by simp only [kind_mk, toList_mk] at h; exact absurd h (by decide), fun h => by simp only [nodeKind, kind_mk, toList_mk] at h; exact absurd h (by decide)⟩
      intro nm f S R hf hS hF
      rw [toks_mk] at hS
      simp only [toList_mk] at hS
      simp (decide := true) only [↓reduceIte] at hS
      rw [toPN_mk]
      simp only [toList_mk]
      simp (decide := true) only [↓reduceIte]
      simp only [List.cons_append, List.nil_append] at hS
      obtain ⟨x0, S1, rfl, hx0, hv, h1⟩ := items_cons hS (by simp)
      refine ⟨S1, h1, ?_⟩
      obtain rfl : x0.val = x := toList_inj hv
      rw [objectM_cons, if_neg (by rw [hx0]; simp), if_neg (by rw [hx0]; simp), if_neg (by rw [hx0]; simp), if_neg (by rw [hx0]; simp), if_pos (by rw [hx0]; rfl)]
    · refine ⟨?_, fun h => by simp only [heavy, kind_mk, toList_mk] at h; exact absurd h (by decide), fun h => by simp only [nodeKind, kind_mk, toList_mk] at h; exact absurd h (by decide)⟩
      obtain ⟨-, rfl | ⟨a, b, rfl, ha, hb1, hb⟩⟩ := good_list_parts hg
      · intro nm f S R hf hS hF
        rw [toks_mk] at hS
        simp only [toList_mk] at hS
        simp (decide := true) only [↓reduceIte] at hS
        rw [toPN_mk]
        simp only [toList_mk]
        simp (decide := true) only [↓reduceIte]
        simp only [List.cons_append, List.nil_append] at hS
        obtain ⟨x0, S1, rfl, hx0, h1⟩ := items_head hS
        obtain ⟨x1, S2, rfl, hx1, h2⟩ := items_head h1
        simp [count, countAll] at hf
        obtain ⟨g, rfl⟩ : ∃ g, f = g + 2 := ⟨f - 2, by omega⟩
        refine ⟨S2, h2, ?_⟩
        rw [objectM_cons, if_neg (by rw [hx0]; simp), if_pos (by rw [hx0]; rfl), arrayM_cons, if_pos (by rw [hx0]; rfl), objsM_cons, if_pos (by rw [hx1]; rfl)]
        rfl
      · have iA := ihm a (by simp) _ ha
        have iB := ihm b (by simp) _ hb
        have iS := (ih 1 (by simp)).2
        simp only [List.getElem_cons_succ, List.getElem_cons_zero] at iS
        have hcnt : count (.mk ⟨#[76, 105, 115, 116]⟩ x [a, b]) = count a + count b + 1 := by simp [count, countAll]
        have hpa := count_pos a
        have hpb := count_pos b
        intro nm f S R hf hS hF
        rw [hcnt] at hf
        rw [toks_mk] at hS
        simp only [toList_mk] at hS
        simp (decide := true) only [↓reduceIte] at hS
        split at hS
        · simp only [List.cons_append, List.append_assoc, List.nil_append] at hS
          obtain ⟨S', h1, h2⟩ := node_read (s := s) (al := al) (k := ⟨#[76, 105, 115, 116]⟩) (ks := [a, b]) (by
              intro t ht
              simp at ht
              rcases ht with rfl | rfl
              · exact ⟨iA.1, toks_head s _ _ ha⟩
              · exact ⟨iB.1, toks_head s _ _ hb⟩) (n := fun l => match l with | [p, q] => .list p q | _ => .nul) (fun l hl => by
            match l, hl with
            | [p, q], _ => exact populate_List al p q) nm f S R (by simp only [countAll_two]; omega) (by rw [hS, toksAll, toksAll, toksAll, toList_mk]; simp)
          obtain ⟨x0, S1, rfl, hx0, -⟩ := items_head hS
          refine ⟨S', h1, ?_⟩
          rw [objectM_cons, if_pos (by rw [hx0]; rfl), h2]
          simp only [PRes.andThen]
          rw [tail_done (by omega) h1 hF, toPN_mk]
          simp only [toList_mk]
          simp (decide := true) only [↓reduceIte]
          rw [toPNs_cons, toPNs_cons, toPNs]
        · split at hS
          · rename_i g1 g2
            have hh : heavy a = false := by
              cases e : heavy a with
              | false => rfl
              | true => rw [e, g2] at g1; simp at g1
            have hstr : (a.kind.toList == [83, 116, 114, 105, 110, 103]) = false := by
              cases e : (a.kind.toList == [83, 116, 114, 105, 110, 103]) with
              | false => rfl
              | true =>
                obtain ⟨ka, xa, kas⟩ := a
                obtain rfl := beq_lit e
                have := (good_string_parts ha).1
                simp [textLetter] at this
            simp only [List.append_assoc, List.cons_append] at hS
            obtain ⟨S1, h1, h2⟩ := iA.2.1 hh hstr nm f S _ (by omega) hS ⟨_, _, rfl, by decide⟩
            obtain ⟨x0, S2, rfl, hx0, h3⟩ := items_head h1
            obtain ⟨g, rfl⟩ : ∃ g, f = g + 2 := ⟨f - 2, by omega⟩
            obtain ⟨S3, h4, h5⟩ := iB.1 (toPN a nm).2 g S2 R (by omega) h3 hF
            refine ⟨S3, h4, ?_⟩
            rw [h2, tailM_cons, if_pos (by rw [hx0]; rfl), h5, toPN_mk]
            simp only [toList_mk]
            simp (decide := true) only [↓reduceIte]
            rfl
          · rename_i g1 g2
            obtain ⟨l, hw⟩ : ∃ l, whole b = some l := by
              cases hw : whole b with
              | none => rw [hw] at g2; simp at g2
              | some l => exact ⟨l, rfl⟩
            have hwl := whole_list b l hw (good_tame b _ hb)
            have e0 : (3, [91]) :: (toks s a ++ (spineT s b ++ [(4, [93])])) ++ R = (3, [91]) :: (toksAll s (a :: l) ++ (4, [93]) :: R) := by rw [spineT_eq s b l hw, toksAll]; simp
            rw [e0] at hS
            obtain ⟨x0, S1, rfl, hx0, h1⟩ := items_head hS
            obtain ⟨g, rfl⟩ : ∃ g, f = g + 1 := ⟨f - 1, by omega⟩
            obtain ⟨S2, h2, h3⟩ := objs_read (s := s) (al := al) (stop := 4) (.inr rfl) (a :: l) (by
              intro t ht
              rcases List.mem_cons.1 ht with rfl | ht
              · exact ⟨iA.1, toks_head s _ _ ha⟩
              · exact iS l hw hb t ht) nm g S1 R [93] (by simp only [countAll]; have := hwl.2.1; omega) h1
            refine ⟨S2, h2, ?_⟩
            have hwhole : whole (.mk ⟨#[76, 105, 115, 116]⟩ x [a, b]) = some (a :: l) := by
              rw [whole_mk]
              simp only [toList_mk]
              simp (decide := true) only [↓reduceIte]
              rw [hw]
              rfl
            rw [objectM_cons, if_neg (by rw [hx0]; simp), if_pos (by rw [hx0]; rfl), arrayM_cons, if_pos (by rw [hx0]; rfl), h3, toPN_whole _ _ _ hwhole]
            rfl
    · obtain ⟨hx, hks⟩ := good_bind_parts hg
      have hnil : (x.toList == [110, 105, 108]) = false := by
        unfold name at hx
        simp only [Bool.and_eq_true, bne_iff_ne] at hx
        simpa using hx.2
      have hH : HeadOK s al (.mk ⟨#[66, 105, 110, 100, 105, 110, 103]⟩ x ks) := by
        intro nm f S R hf hS hF
        rw [toks_mk] at hS
        simp only [toList_mk] at hS
        simp (decide := true) only [↓reduceIte] at hS
        rw [toPN_mk]
        simp only [toList_mk]
        simp (decide := true) only [↓reduceIte]
        rcases hks with rfl | ⟨a, rfl, hn, ha⟩
        · simp only [List.cons_append, List.nil_append] at hS
          obtain ⟨x0, S1, rfl, hx0, hv, h1⟩ := items_cons hS (by simp)
          obtain rfl : x0.val = x := toList_inj hv
          obtain ⟨y, R', rfl, hy⟩ := hF
          obtain ⟨x1, S2, rfl, hx1, h2⟩ := items_head h1
          refine ⟨x1 :: S2, h1, ?_⟩
          rw [objectM_cons, if_neg (by rw [hx0]; simp), if_neg (by rw [hx0]; simp), if_pos (by rw [hx0]; rfl), if_neg (by rw [hnil]; decide)]
          simp only
          rw [if_neg (by rw [hx1]; simpa using hy)]
        · have iA := ihm a (by simp) _ ha
          simp only [List.cons_append, List.nil_append] at hS
          obtain ⟨x0, S1, rfl, hx0, hv, h1⟩ := items_cons hS (by simp)
          obtain rfl : x0.val = x := toList_inj hv
          obtain ⟨x1, S2, rfl, hx1, h2⟩ := items_head h1
          simp only [count, countAll] at hf
          obtain ⟨S3, h3, h4⟩ := iA.2.2 (named_node hn) nm f S2 R (by omega) h2
          refine ⟨S3, h3, ?_⟩
          rw [objectM_cons, if_neg (by rw [hx0]; simp), if_neg (by rw [hx0]; simp), if_pos (by rw [hx0]; rfl), if_neg (by rw [hnil]; decide)]
          simp only
          rw [if_pos (by rw [hx1]; rfl), h4]
          rfl
      exact ⟨hH.obj, fun _ _ => hH, fun h => by simp only [nodeKind, kind_mk, toList_mk] at h; exact absurd h (by decide)⟩
    · have hk' : (k.toList == [65, 110, 121]) = false ∧ (k.toList == [78, 105, 108]) = false ∧ (k.toList == [83, 116, 114, 105, 110, 103]) = false ∧ (k.toList == [76, 105, 115, 116]) = false ∧ (k.toList == [66, 105, 110, 100, 105, 110, 103]) = false := by
        rcases hk with rfl | rfl | hk
        · simp only [toList_mk]; decide
        · simp only [toList_mk]; decide
        · exact ⟨hk.1, hk.2.1, hk.2.2.1, hk.2.2.2.1, hk.2.2.2.2.1⟩
      obtain ⟨h1, h2, h3, h4, h5⟩ := hk'
      obtain ⟨hks, hcap, -⟩ := good_node hg h1 h2 h3 h4 h5
      have hkk : ∀ t ∈ ks, ObjOK s al t ∧ HeadT s t := fun t ht => by obtain ⟨c, hc⟩ := hks t ht; exact ⟨(ihm t ht c hc).1, toks_head s t c hc⟩
      have hto : toks s (.mk k x ks) = (1, [40]) :: (5, k.toList) :: (toksAll s ks ++ [(2, [41])]) := by
        rw [toks_mk, h1, h2, h3, h4, h5]
        simp only [Bool.false_eq_true, if_false]
      have hN : NodeOK s al (.mk k x ks) := by
        intro nm f S R hf hS
        rw [hto] at hS
        simp only [List.cons_append, List.append_assoc, List.nil_append] at hS
        have hcnt : 10 * countAll ks + 3 ≤ f := by simp only [count] at hf; omega
        rcases good_node_kind hg h1 h2 h3 h4 h5 with ⟨rfl, hne⟩ | ⟨rfl, hl⟩ | ⟨hn, hl⟩
        · obtain ⟨S', g1, g2⟩ := node_read hkk (n := PN.or) (fun l hl => populate_Or al l (fun e => hne (by subst e; exact List.eq_nil_of_length_eq_zero hl.symm))) nm f S R hcnt hS
          refine ⟨S', g1, ?_⟩
          rw [g2, toPN_mk, h1, h2, h3, h4, h5]
          simp only [toList_mk]
          rfl
        · obtain ⟨S', g1, g2⟩ := node_read hkk (n := PN.struct ⟨#[78, 111, 116]⟩) (fun l hl' => by
            match l, hl'.trans hl with
            | [a], _ => exact populate_Not al a) nm f S R hcnt hS
          refine ⟨S', g1, ?_⟩
          rw [g2, toPN_mk, h1, h2, h3, h4, h5]
          simp only [toList_mk]
          rfl
        · obtain ⟨S', g1, g2⟩ := node_read hkk (n := PN.struct k) (fun l hl' => populate_named hn (hl'.trans hl)) nm f S R hcnt hS
          refine ⟨S', g1, ?_⟩
          obtain ⟨y, hy, rfl⟩ := named_key hn
          rw [g2, toPN_mk, h1, h2, h3, h4, h5, (named_facts y hy).2.2.2.1]
          rfl
      exact ⟨(hN.head hto).obj, fun _ _ => hN.head hto, fun _ => hN⟩
  · rw [whole_mk] at hw
    split at hw
    · rename_i hk
      obtain rfl := beq_lit hk
      obtain ⟨-, rfl | ⟨a, b, rfl, ha, hb1, hb⟩⟩ := good_list_parts hg
      · simp at hw; subst hw; cases hu
      · simp only at hw
        cases hwb : whole b with
        | none => rw [hwb] at hw; simp at hw
        | some l' =>
          rw [hwb] at hw
          simp at hw
          subst hw
          rcases List.mem_cons.1 hu with rfl | hu
          · exact ⟨(ihm u (by simp) _ ha).1, toks_head s u _ ha⟩
          · exact (ih 1 (by simp)).2 l' hwb hb u hu
    · cases hw
end Go.Proofs.YtigalkobmfbdaaaGreatDoor
