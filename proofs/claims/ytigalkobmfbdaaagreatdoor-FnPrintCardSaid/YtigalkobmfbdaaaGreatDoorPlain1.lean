/- The plain law of the lexer: what the text of a pattern is cut into. No program in sight. -/
import Derived.Test.YtigalkobmfbdaaaGreatDoorPar4
import Derived.Test.YtigalkobmfbdaaaGreatDoorText
import Derived.Test.YtigalkobmfbdaaaGreatDoorNodes
set_option linter.unusedVariables false
set_option linter.unusedSimpArgs false
namespace Go.Proofs.YtigalkobmfbdaaaGreatDoor
open Go.RowKit
def capB : List UInt8 → Bool
  | [] => false
  | c :: l => isUp c.toNat && l.all fun c => alnum c.toNat
def lowB : List UInt8 → Bool
  | [] => false
  | c :: l => isLow c.toNat && l.all fun c => alnum c.toNat
def strB (l : List UInt8) : Bool := l.all fun c => c != 34 && c != 92 && decide (c.toNat < 128)
/-- No letter or digit follows. -/
def Stop (rest : List UInt8) : Prop := ∀ c l, rest = c :: l → alnum c.toNat = false
theorem Stop.nil : Stop [] := fun _ _ h => by cases h
theorem Stop.cons {c : UInt8} (l : List UInt8) (h : alnum c.toNat = false) : Stop (c :: l) := fun _ _ e => by cases e; exact h
theorem byte_all {p : UInt8 → Bool} (h : ∀ n : Nat, n < 256 → p (UInt8.ofNat n) = true) (c : UInt8) : p c = true := by
  have := h c.toNat (by have := c.toBitVec.isLt; exact this)
  simpa using this
theorem up_facts (c : UInt8) : (!isUp c.toNat || (!isSpace c.toNat && (punct c).isNone && c != 34 && alnum c.toNat)) = true :=
  byte_all (p := fun c => !isUp c.toNat || (!isSpace c.toNat && (punct c).isNone && c != 34 && alnum c.toNat)) (by decide +kernel) c
theorem low_facts (c : UInt8) : (!isLow c.toNat || (!isSpace c.toNat && (punct c).isNone && c != 34 && !isUp c.toNat && alnum c.toNat)) = true :=
  byte_all (p := fun c => !isLow c.toNat || (!isSpace c.toNat && (punct c).isNone && c != 34 && !isUp c.toNat && alnum c.toNat)) (by decide +kernel) c
theorem start_cap {c : UInt8} (h : isUp c.toNat = true) (k : Mode → Option (List Tok)) : startStep c k = k (.typ [c]) := by
  have := up_facts c
  rw [h] at this
  simp at this
  obtain ⟨⟨⟨h1, h2⟩, h3⟩, -⟩ := this
  simp [startStep, h1, h2, h3, h]
theorem start_lowr {c : UInt8} (h : isLow c.toNat = true) (k : Mode → Option (List Tok)) : startStep c k = k (.var [c]) := by
  have := low_facts c
  rw [h] at this
  simp at this
  obtain ⟨⟨⟨⟨h1, h2⟩, h3⟩, h4⟩, -⟩ := this
  simp [startStep, h1, h2, h3, h4, h]
theorem lex_typ : ∀ (l acc rest : List UInt8), (l.all fun c => alnum c.toNat) = true → Stop rest → lexM (l ++ rest) (.typ acc) = (lexM rest .start).map ((5, acc ++ l) :: ·)
  | [], acc, rest, _, hs => by
    cases rest with
    | nil => simp [lexM]
    | cons c r =>
      rw [List.nil_append]
      conv => lhs; rw [lexM, hs c r rfl]
      simp [lexM]
  | c :: l, acc, rest, h, hs => by
    simp only [List.all_cons, Bool.and_eq_true] at h
    rw [List.cons_append, lexM, h.1, if_pos rfl, lex_typ l _ rest h.2 hs]
    simp
theorem lex_var : ∀ (l acc rest : List UInt8), (l.all fun c => alnum c.toNat) = true → Stop rest → lexM (l ++ rest) (.var acc) = (lexM rest .start).map ((6, acc ++ l) :: ·)
  | [], acc, rest, _, hs => by
    cases rest with
    | nil => simp [lexM]
    | cons c r =>
      rw [List.nil_append]
      conv => lhs; rw [lexM, hs c r rfl]
      simp [lexM]
  | c :: l, acc, rest, h, hs => by
    simp only [List.all_cons, Bool.and_eq_true] at h
    rw [List.cons_append, lexM, h.1, if_pos rfl, lex_var l _ rest h.2 hs]
    simp
theorem lex_cap {l rest : List UInt8} (h : capB l = true) (hs : Stop rest) : lexM (l ++ rest) .start = (lexM rest .start).map ((5, l) :: ·) := by
  cases l with
  | nil => cases h
  | cons c l =>
    simp only [capB, Bool.and_eq_true] at h
    rw [List.cons_append, lexM, start_cap h.1, lex_typ l _ rest h.2 hs]
    simp
theorem lex_low {l rest : List UInt8} (h : lowB l = true) (hs : Stop rest) : lexM (l ++ rest) .start = (lexM rest .start).map ((6, l) :: ·) := by
  cases l with
  | nil => cases h
  | cons c l =>
    simp only [lowB, Bool.and_eq_true] at h
    rw [List.cons_append, lexM, start_lowr h.1, lex_var l _ rest h.2 hs]
    simp
theorem lex_strm : ∀ (l acc rest : List UInt8), strB l = true → lexM (l ++ 34 :: rest) (.str acc) = (lexM rest .start).map ((10, acc ++ l) :: ·)
  | [], acc, rest, _ => by simp [lexM]
  | c :: l, acc, rest, h => by
    simp only [strB, List.all_cons, Bool.and_eq_true, bne_iff_ne, decide_eq_true_eq] at h
    obtain ⟨⟨⟨h1, h2⟩, h3⟩, h4⟩ := h
    rw [List.cons_append, lexM, if_neg (by simpa using h1), if_neg (by simp only [Bool.or_eq_true, decide_eq_true_eq, beq_iff_eq, not_or]; exact ⟨h2, by omega⟩), lex_strm l _ rest (by simpa [strB] using h4)]
    simp
theorem lex_str {l rest : List UInt8} (h : strB l = true) : lexM (34 :: (l ++ 34 :: rest)) .start = (lexM rest .start).map ((10, l) :: ·) := by
  rw [lexM]
  show lexM (l ++ 34 :: rest) (.str []) = _
  rw [lex_strm l [] rest h]; rfl
theorem lex_lp (rest : List UInt8) : lexM (40 :: rest) .start = (lexM rest .start).map ((1, [40]) :: ·) := by rw [lexM]; rfl
theorem lex_rp (rest : List UInt8) : lexM (41 :: rest) .start = (lexM rest .start).map ((2, [41]) :: ·) := by rw [lexM]; rfl
theorem lex_lb (rest : List UInt8) : lexM (91 :: rest) .start = (lexM rest .start).map ((3, [91]) :: ·) := by rw [lexM]; rfl
theorem lex_rb (rest : List UInt8) : lexM (93 :: rest) .start = (lexM rest .start).map ((4, [93]) :: ·) := by rw [lexM]; rfl
theorem lex_at (rest : List UInt8) : lexM (64 :: rest) .start = (lexM rest .start).map ((7, [64]) :: ·) := by rw [lexM]; rfl
theorem lex_colon (rest : List UInt8) : lexM (58 :: rest) .start = (lexM rest .start).map ((8, [58]) :: ·) := by rw [lexM]; rfl
theorem lex_blank (rest : List UInt8) : lexM (95 :: rest) .start = (lexM rest .start).map ((9, [95]) :: ·) := by rw [lexM]; rfl
theorem lex_space (rest : List UInt8) : lexM (32 :: rest) .start = lexM rest .start := by rw [lexM]; rfl
theorem lex_nl (rest : List UInt8) : lexM (10 :: rest) .start = lexM rest .start := by rw [lexM]; rfl
theorem lex_tab (rest : List UInt8) : lexM (9 :: rest) .start = lexM rest .start := by rw [lexM]; rfl
theorem gap_list (s : Int) : (gapOf s).toList = [32] ∨ (gapOf s).toList = [32, 32, 10, 9] := by
  unfold gapOf; split
  · exact .inr (toList_mk _)
  · exact .inl (toList_mk _)
theorem lex_gap (s : Int) (rest : List UInt8) : lexM ((gapOf s).toList ++ rest) .start = lexM rest .start := by
  rcases gap_list s with h | h <;> rw [h]
  · exact lex_space _
  · simp only [List.cons_append, List.nil_append, lex_space, lex_nl, lex_tab]
theorem Stop.gap (s : Int) (rest : List UInt8) : Stop ((gapOf s).toList ++ rest) := by
  rcases gap_list s with h | h <;> rw [h] <;> exact Stop.cons _ (by decide)
theorem toList_app (a b : ByteArray) : (a ++ b).toList = a.toList ++ b.toList := by simp [ByteArray.toList_eq]
mutual
/-- The tokens of a pattern. -/
def toks (s : Int) : Tree → List Tok
  | .mk k x ks =>
    if k.toList == [65, 110, 121] then (if bit s 1 then [(1, [40]), (5, [65, 110, 121]), (2, [41])] else [(9, [95])])
    else if k.toList == [78, 105, 108] then [(6, [110, 105, 108])]
    else if k.toList == [83, 116, 114, 105, 110, 103] then [(10, x.toList)]
    else if k.toList == [76, 105, 115, 116] then (match ks with
      | [] => [(3, [91]), (4, [93])]
      | a :: b :: _ =>
        if bit s 4 || (heavy a && (!(whole b).isSome || bit s 2)) then (1, [40]) :: (5, [76, 105, 115, 116]) :: (toks s a ++ (toks s b ++ [(2, [41])]))
        else if !(whole b).isSome || bit s 2 then toks s a ++ (8, [58]) :: toks s b
        else (3, [91]) :: (toks s a ++ (spineT s b ++ [(4, [93])]))
      | [_] => [])
    else if k.toList == [66, 105, 110, 100, 105, 110, 103] then (match ks with
      | [] => [(6, x.toList)]
      | a :: _ => (6, x.toList) :: (7, [64]) :: toks s a)
    else (1, [40]) :: (5, k.toList) :: (toksAll s ks ++ [(2, [41])])
def toksAll (s : Int) : List Tree → List Tok
  | [] => []
  | t :: ts => toks s t ++ toksAll s ts
def spineT (s : Int) : Tree → List Tok
  | .mk _ _ ks => (match ks with
    | a :: b :: _ => toks s a ++ spineT s b
    | _ => [])
end
theorem toks_mk (s : Int) (k x : ByteArray) (ks : List Tree) : toks s (.mk k x ks) = (
    if k.toList == [65, 110, 121] then (if bit s 1 then [(1, [40]), (5, [65, 110, 121]), (2, [41])] else [(9, [95])])
    else if k.toList == [78, 105, 108] then [(6, [110, 105, 108])]
    else if k.toList == [83, 116, 114, 105, 110, 103] then [(10, x.toList)]
    else if k.toList == [76, 105, 115, 116] then (match ks with
      | [] => [(3, [91]), (4, [93])]
      | a :: b :: _ =>
        if bit s 4 || (heavy a && (!(whole b).isSome || bit s 2)) then (1, [40]) :: (5, [76, 105, 115, 116]) :: (toks s a ++ (toks s b ++ [(2, [41])]))
        else if !(whole b).isSome || bit s 2 then toks s a ++ (8, [58]) :: toks s b
        else (3, [91]) :: (toks s a ++ (spineT s b ++ [(4, [93])]))
      | [_] => [])
    else if k.toList == [66, 105, 110, 100, 105, 110, 103] then (match ks with
      | [] => [(6, x.toList)]
      | a :: _ => (6, x.toList) :: (7, [64]) :: toks s a)
    else (1, [40]) :: (5, k.toList) :: (toksAll s ks ++ [(2, [41])])) := by
  conv => lhs; unfold toks
theorem spineT_eq (s : Int) (b : Tree) (l : List Tree) (h : whole b = some l) : spineT s b = toksAll s l := by
  induction l generalizing b with
  | nil =>
    obtain ⟨k, x, ks⟩ := b
    rw [whole_mk] at h
    split at h
    · split at h
      · simp [spineT, toksAll]
      · rename_i b' _
        cases hb : whole b' <;> rw [hb] at h <;> simp at h
      · cases h
    · cases h
  | cons t l ih =>
    obtain ⟨k, x, ks⟩ := b
    rw [whole_mk] at h
    split at h
    · split at h
      · cases h
      · rename_i a b' _
        cases hb : whole b' with
        | none => rw [hb] at h; simp at h
        | some l' =>
          rw [hb] at h
          simp at h
          obtain ⟨rfl, rfl⟩ := h
          simp [spineT, toksAll, ih b' hb]
      · cases h
    · cases h
def LexOK (s : Int) (t : Tree) : Prop := ∀ rest, Stop rest → lexM ((text s t).toList ++ rest) .start = (lexM rest .start).map (toks s t ++ ·)
theorem omap2 {α : Type} (o : Option (List α)) (a b : List α) : (o.map (b ++ ·)).map (a ++ ·) = o.map ((a ++ b) ++ ·) := by cases o <;> simp
theorem omap1 {α : Type} (o : Option (List α)) (a : α) (b : List α) : (o.map (b ++ ·)).map (a :: ·) = o.map ((a :: b) ++ ·) := by cases o <;> simp
theorem ocons {α : Type} (o : Option (List α)) (a : α) : o.map (a :: ·) = o.map ([a] ++ ·) := by cases o <;> simp
theorem lex_all (s : Int) : ∀ (l : List Tree), (∀ t ∈ l, LexOK s t) → ∀ rest, Stop rest → lexM ((textAll s l).toList ++ rest) .start = (lexM rest .start).map (toksAll s l ++ ·) ∧ Stop ((textAll s l).toList ++ rest)
  | [], _, rest, hs => by
    have e : (textAll s []).toList = [] := by rw [textAll]; exact toList_mk []
    rw [e, toksAll]
    refine ⟨?_, hs⟩
    rw [List.nil_append]
    cases lexM rest .start <;> rfl
  | t :: l, h, rest, hs => by
    obtain ⟨h1, h2⟩ := lex_all s l (fun u hu => h u (List.mem_cons_of_mem _ hu)) rest hs
    rw [textAll, toksAll, toList_app, toList_app, List.append_assoc, List.append_assoc]
    refine ⟨?_, Stop.gap _ _⟩
    rw [lex_gap, h t (List.mem_cons_self ..) _ h2, h1, omap2]
/-! ### What good patterns are made of -/
theorem fields_names : ∀ x ∈ fieldsT, capB x.1.toList = true := by decide +kernel
theorem fieldsT_key {k : ByteArray} (h : fields k ≠ []) : ∃ x ∈ fieldsT, k = x.1 := by
  rcases sw_cases k fieldsT [] with ⟨h', -⟩ | ⟨x, hx, hk, -⟩
  · exact absurd h' h
  · exact ⟨x, hx, hk⟩
theorem named_key {k : ByteArray} (h : named k = true) : ∃ x ∈ fieldsT, k = x.1 := by
  unfold named at h
  rw [Bool.or_eq_true, decide_eq_true_eq] at h
  rcases h with h | h
  · refine fieldsT_key fun e => ?_
    unfold args at h
    rw [e] at h
    split at h
    · simp at h
    · split at h <;> simp at h
  · exact fieldsT_key (by rw [beq_lit h]; decide +kernel)
theorem named_cap {k : ByteArray} (h : named k = true) : capB k.toList = true := by
  obtain ⟨x, hx, rfl⟩ := named_key h
  exact fields_names x hx
theorem word_str (l : List UInt8) (h : word l = true) : strB l = true := by
  unfold word at h
  simp only [Bool.and_eq_true] at h
  have h1 := h.1.1
  rw [List.all_eq_true] at h1
  rw [strB, List.all_eq_true]
  intro c hc
  have := (wordB_iff c).1 (h1 c hc)
  have := byte_all (p := fun c => !wordB c || (c != 34 && c != 92 && decide (c.toNat < 128))) (by decide +kernel) c
  rw [h1 c hc] at this
  simpa using this
theorem sign_all : ∀ k ∈ signKinds, ∀ x ∈ tokens k, strB x.toList = true := by decide +kernel
theorem sign_str (x : ByteArray) (h : sign x = true) : strB x.toList = true := by
  unfold sign at h
  rw [List.any_eq_true] at h
  obtain ⟨k, hk, h⟩ := h
  rw [List.any_eq_true] at h
  obtain ⟨y, hy, h⟩ := h
  rw [← eq_of_beq h]
  exact sign_all k hk y hy
theorem name_low (l : List UInt8) (h : name l = true) : lowB l = true := by
  unfold name at h
  simp only [Bool.and_eq_true, decide_eq_true_eq] at h
  obtain ⟨⟨⟨h1, h2⟩, -⟩, -⟩ := h
  have key : ∀ c : UInt8, (!nameB c || (isLow c.toNat && alnum c.toNat)) = true := byte_all (by decide +kernel)
  cases l with
  | nil => simp at h2
  | cons c l =>
    simp only [List.all_cons, Bool.and_eq_true] at h1
    simp only [lowB, Bool.and_eq_true]
    refine ⟨?_, ?_⟩
    · have := key c; rw [h1.1] at this; simp at this; exact this.1
    · rw [List.all_eq_true]
      intro d hd
      have := key d; rw [List.all_eq_true.1 h1.2 d hd] at this; simp at this; exact this.2
theorem kind_cases (k : ByteArray) : k = ⟨#[65, 110, 121]⟩ ∨ k = ⟨#[78, 105, 108]⟩ ∨ k = ⟨#[83, 116, 114, 105, 110, 103]⟩ ∨ k = ⟨#[76, 105, 115, 116]⟩ ∨ k = ⟨#[66, 105, 110, 100, 105, 110, 103]⟩ ∨ k = ⟨#[79, 114]⟩ ∨ k = ⟨#[78, 111, 116]⟩ ∨
    ((k.toList == [65, 110, 121]) = false ∧ (k.toList == [78, 105, 108]) = false ∧ (k.toList == [83, 116, 114, 105, 110, 103]) = false ∧ (k.toList == [76, 105, 115, 116]) = false ∧ (k.toList == [66, 105, 110, 100, 105, 110, 103]) = false ∧ (k.toList == [79, 114]) = false ∧ (k.toList == [78, 111, 116]) = false) := by
  cases h1 : (k.toList == [65, 110, 121]) with
  | true => exact .inl (beq_lit h1)
  | false =>
  cases h2 : (k.toList == [78, 105, 108]) with
  | true => exact .inr (.inl (beq_lit h2))
  | false =>
  cases h3 : (k.toList == [83, 116, 114, 105, 110, 103]) with
  | true => exact .inr (.inr (.inl (beq_lit h3)))
  | false =>
  cases h4 : (k.toList == [76, 105, 115, 116]) with
  | true => exact .inr (.inr (.inr (.inl (beq_lit h4))))
  | false =>
  cases h5 : (k.toList == [66, 105, 110, 100, 105, 110, 103]) with
  | true => exact .inr (.inr (.inr (.inr (.inl (beq_lit h5)))))
  | false =>
  cases h6 : (k.toList == [79, 114]) with
  | true => exact .inr (.inr (.inr (.inr (.inr (.inl (beq_lit h6))))))
  | false =>
  cases h7 : (k.toList == [78, 111, 116]) with
  | true => exact .inr (.inr (.inr (.inr (.inr (.inr (.inl (beq_lit h7)))))))
  | false => exact .inr (.inr (.inr (.inr (.inr (.inr (.inr ⟨rfl, rfl, rfl, rfl, rfl, rfl, rfl⟩))))))
theorem goodAll_mem {ks : List Tree} {c : Int} (h : goodAll ks c = true) : ∀ t ∈ ks, good t c = true := by
  rw [goodAll_eq, List.all_eq_true] at h; exact h
theorem goodArgs_mem : ∀ {ks : List Tree} {L : List UInt8} (_ : goodArgs ks L = true), ∀ t ∈ ks, ∃ c, good t c = true
  | [], _, _, t, ht => by cases ht
  | u :: ks, [], h, t, ht => by simp [goodArgs] at h
  | u :: ks, c :: L, h, t, ht => by
    simp only [goodArgs, Bool.and_eq_true] at h
    rcases List.mem_cons.1 ht with rfl | ht
    · exact ⟨_, h.1⟩
    · exact goodArgs_mem h.2 t ht
/-- A good node: its kids are good, its name is a word. -/
theorem good_node {k x : ByteArray} {ks : List Tree} {c : Int} (h : good (.mk k x ks) c = true) (h1 : (k.toList == [65, 110, 121]) = false) (h2 : (k.toList == [78, 105, 108]) = false) (h3 : (k.toList == [83, 116, 114, 105, 110, 103]) = false) (h4 : (k.toList == [76, 105, 115, 116]) = false) (h5 : (k.toList == [66, 105, 110, 100, 105, 110, 103]) = false) :
    (∀ t ∈ ks, ∃ c, good t c = true) ∧ capB k.toList = true ∧ x.toList = [] := by
  rw [good_mk, h1, h2, h3, h4, h5] at h
  simp only [Bool.or_self, Bool.false_eq_true, if_false] at h
  split at h
  · rename_i h6
    simp only [Bool.and_eq_true, decide_eq_true_eq, beq_iff_eq] at h
    exact ⟨fun t ht => ⟨c, goodAll_mem h.1.1 t ht⟩, by rw [eq_of_beq h6]; decide, h.1.2⟩
  · split at h
    · rename_i h7
      split at h
      · rename_i a
        simp only [Bool.and_eq_true, beq_iff_eq] at h
        exact ⟨fun t ht => ⟨c, by rw [List.mem_singleton.1 ht]; exact h.2.1⟩, by rw [eq_of_beq h7]; decide, h.1⟩
      · simp at h
    · simp only [Bool.and_eq_true, beq_iff_eq] at h
      exact ⟨goodArgs_mem h.2, named_cap h.1.1.1.2, h.1.1.2⟩
theorem good_list_parts {x : ByteArray} {ks : List Tree} {c : Int} (h : good (.mk ⟨#[76, 105, 115, 116]⟩ x ks) c = true) : x.toList = [] ∧ (ks = [] ∨ ∃ a b, ks = [a, b] ∧ good a 97 = true ∧ tailKind b = true ∧ good b 108 = true) := by
  rw [good_mk] at h
  simp only [toList_mk] at h
  simp (decide := true) only [↓reduceIte] at h
  simp only [Bool.and_eq_true, beq_iff_eq] at h
  refine ⟨h.1.2, ?_⟩
  match ks, h.2 with
  | [], _ => exact .inl rfl
  | [a, b], h2 => simp only [Bool.and_eq_true] at h2; exact .inr ⟨a, b, rfl, h2.1, h2.2.1, h2.2.2⟩
  | [_], h2 => simp at h2
  | _ :: _ :: _ :: _, h2 => simp at h2
theorem good_bind_parts {x : ByteArray} {ks : List Tree} {c : Int} (h : good (.mk ⟨#[66, 105, 110, 100, 105, 110, 103]⟩ x ks) c = true) : name x.toList = true ∧ (ks = [] ∨ ∃ a, ks = [a] ∧ named a.kind = true ∧ good a c = true) := by
  rw [good_mk] at h
  simp only [toList_mk] at h
  simp (decide := true) only [↓reduceIte] at h
  simp only [Bool.and_eq_true, beq_iff_eq] at h
  refine ⟨h.1, ?_⟩
  match ks, h.2 with
  | [], _ => exact .inl rfl
  | [a], h2 => simp only [Bool.and_eq_true] at h2; exact .inr ⟨a, rfl, h2.1.2, h2.2⟩
  | _ :: _ :: _, h2 => simp at h2
theorem good_leaf_parts {k x : ByteArray} {ks : List Tree} {c : Int} (hk : k = ⟨#[65, 110, 121]⟩ ∨ k = ⟨#[78, 105, 108]⟩) (h : good (.mk k x ks) c = true) : x.toList = [] ∧ ks = [] := by
  rw [good_mk] at h
  have : (k.toList == [65, 110, 121] || k.toList == [78, 105, 108]) = true := by rcases hk with rfl | rfl <;> simp only [toList_mk] <;> decide
  rw [this, if_pos rfl] at h
  simpa [List.length_eq_zero_iff] using h
theorem good_string_parts {x : ByteArray} {ks : List Tree} {c : Int} (h : good (.mk ⟨#[83, 116, 114, 105, 110, 103]⟩ x ks) c = true) : textLetter c = true ∧ ks = [] ∧ strB x.toList = true := by
  rw [good_mk] at h
  simp only [toList_mk] at h
  simp (decide := true) only [↓reduceIte] at h
  simp only [Bool.and_eq_true, Bool.or_eq_true, beq_iff_eq, List.length_eq_zero_iff] at h
  refine ⟨h.1.1, h.1.2, ?_⟩
  rcases h.2 with h | h
  · exact word_str _ h.2
  · exact sign_str _ h.2
theorem node_lex {s : Int} {k x : ByteArray} {ks : List Tree} (h1 : (k.toList == [65, 110, 121]) = false) (h2 : (k.toList == [78, 105, 108]) = false) (h3 : (k.toList == [83, 116, 114, 105, 110, 103]) = false) (h4 : (k.toList == [76, 105, 115, 116]) = false) (h5 : (k.toList == [66, 105, 110, 100, 105, 110, 103]) = false) (hcap : capB k.toList = true) (hks : ∀ t ∈ ks, LexOK s t) : LexOK s (.mk k x ks) := by
  intro rest hs
  rw [text_mk, toks_mk, h1, h2, h3, h4, h5]
  simp only [Bool.false_eq_true, if_false]
  obtain ⟨g1, g2⟩ := lex_all s ks hks (41 :: rest) (Stop.cons _ (by decide))
  simp only [toList_app, toList_mk, List.append_assoc, List.cons_append, List.nil_append]
  rw [lex_lp, lex_cap hcap g2, g1, lex_rp]
  cases lexM rest .start <;> simp
theorem lex_text (s : Int) (t : Tree) : (∀ c, good t c = true → LexOK s t) ∧ (∀ l, whole t = some l → good t 108 = true → ∀ u ∈ l, LexOK s u) := by
  refine Tree.ind (P := fun t => (∀ c, good t c = true → LexOK s t) ∧ (∀ l, whole t = some l → good t 108 = true → ∀ u ∈ l, LexOK s u)) ?_ t
  clear t
  rintro ⟨k, x, ks⟩ ih
  simp only [kids_mk] at ih
  have ihm : ∀ t ∈ ks, ∀ c, good t c = true → LexOK s t := fun t ht => by
    obtain ⟨j, hj, rfl⟩ := List.getElem_of_mem ht
    exact (ih j hj).1
  refine ⟨fun c hg rest hs => ?_, fun l hw hg u hu => ?_⟩
  · rcases kind_cases k with rfl | rfl | rfl | rfl | rfl | hk
    · rw [text_mk, toks_mk]
      simp only [toList_mk]
      simp (decide := true) only [↓reduceIte]
      split
      · rw [toList_mk]
        show lexM (40 :: ([65, 110, 121] ++ 41 :: rest)) .start = _
        rw [lex_lp, lex_cap (by decide) (Stop.cons _ (by decide)), lex_rp]
        cases lexM rest .start <;> simp
      · rw [toList_mk]
        show lexM (95 :: rest) .start = _
        rw [lex_blank, ocons]
    · rw [text_mk, toks_mk]
      simp only [toList_mk]
      simp (decide := true) only [↓reduceIte]
      rw [toList_mk, lex_low (by decide) hs, ocons]
    · obtain ⟨-, -, hx⟩ := good_string_parts hg
      rw [text_mk, toks_mk]
      simp only [toList_mk]
      simp (decide := true) only [↓reduceIte]
      rw [toList_app, toList_app, toList_mk]
      simp only [List.cons_append, List.nil_append, List.append_assoc]
      rw [lex_str hx, ocons]
    · obtain ⟨-, rfl | ⟨a, b, rfl, ha, hb1, hb⟩⟩ := good_list_parts hg
      · rw [text_mk, toks_mk]
        simp only [toList_mk]
        simp (decide := true) only [↓reduceIte]
        rw [toList_mk]
        show lexM (91 :: 93 :: rest) .start = _
        rw [lex_lb, lex_rb]
        cases lexM rest .start <;> simp
      · have iA : LexOK s a := ihm a (by simp) _ ha
        have iB : LexOK s b := ihm b (by simp) _ hb
        have iS := (ih 1 (by simp)).2
        rw [text_mk, toks_mk]
        simp only [toList_mk]
        simp (decide := true) only [↓reduceIte]
        split
        · simp only [toList_app, toList_mk, List.append_assoc, List.cons_append, List.nil_append]
          show lexM (40 :: ([76, 105, 115, 116] ++ ((gapOf s).toList ++ ((text s a).toList ++ ((gapOf s).toList ++ ((text s b).toList ++ 41 :: rest)))))) .start = _
          rw [lex_lp, lex_cap (by decide) (Stop.gap _ _), lex_gap, iA _ (Stop.gap _ _), lex_gap, iB _ (Stop.cons _ (by decide)), lex_rp]
          cases lexM rest .start <;> simp
        · split
          · simp only [toList_app, toList_mk, List.append_assoc, List.cons_append, List.nil_append]
            rw [iA _ (Stop.cons _ (by decide)), lex_colon, iB _ hs]
            cases lexM rest .start <;> simp
          · rename_i h1 h2
            have hw : ∃ l, whole b = some l := by
              cases hw : whole b with
              | none => rw [hw] at h2; simp at h2
              | some l => exact ⟨l, rfl⟩
            obtain ⟨l, hw⟩ := hw
            obtain ⟨g1, g2⟩ := lex_all s l (iS l hw hb) (93 :: rest) (Stop.cons _ (by decide))
            rw [spine_eq s b l hw, spineT_eq s b l hw]
            simp only [toList_app, toList_mk, List.append_assoc, List.cons_append, List.nil_append]
            rw [lex_lb, iA _ g2, g1, lex_rb]
            cases lexM rest .start <;> simp
    · obtain ⟨hx, rfl | ⟨a, rfl, hn, ha⟩⟩ := good_bind_parts hg
      · rw [text_mk, toks_mk]
        simp only [toList_mk]
        simp (decide := true) only [↓reduceIte]
        rw [lex_low (name_low _ hx) hs, ocons]
      · have iA : LexOK s a := ihm a (by simp) _ ha
        rw [text_mk, toks_mk]
        simp only [toList_mk]
        simp (decide := true) only [↓reduceIte]
        simp only [toList_app, toList_mk, List.append_assoc, List.cons_append, List.nil_append]
        rw [lex_low (name_low _ hx) (Stop.cons _ (by decide)), lex_at, iA _ hs]
        cases lexM rest .start <;> simp
    · have hk' : (k.toList == [65, 110, 121]) = false ∧ (k.toList == [78, 105, 108]) = false ∧ (k.toList == [83, 116, 114, 105, 110, 103]) = false ∧ (k.toList == [76, 105, 115, 116]) = false ∧ (k.toList == [66, 105, 110, 100, 105, 110, 103]) = false := by
        rcases hk with rfl | rfl | hk
        · simp only [toList_mk]; decide
        · simp only [toList_mk]; decide
        · exact ⟨hk.1, hk.2.1, hk.2.2.1, hk.2.2.2.1, hk.2.2.2.2.1⟩
      obtain ⟨h1, h2, h3, h4, h5⟩ := hk'
      obtain ⟨hks, hcap, -⟩ := good_node hg h1 h2 h3 h4 h5
      exact node_lex h1 h2 h3 h4 h5 hcap (fun t ht => by obtain ⟨c, hc⟩ := hks t ht; exact ihm t ht c hc) rest hs
  · rw [whole_mk] at hw
    split at hw
    · rename_i hk
      obtain rfl := beq_lit hk
      obtain ⟨-, rfl | ⟨a, b, rfl, ha, hb1, hb⟩⟩ := good_list_parts hg
      · simp at hw; subst hw; cases hu
      · simp only at hw
        cases hwb : whole b with
        | none => rw [hwb] at hw; simp at hw
        | some l' =>
          rw [hwb] at hw
          simp at hw
          subst hw
          rcases List.mem_cons.1 hu with rfl | hu
          · exact ihm u (by simp) _ ha
          · exact (ih 1 (by simp)).2 l' hwb hb u hu
    · cases hw
end Go.Proofs.YtigalkobmfbdaaaGreatDoor
