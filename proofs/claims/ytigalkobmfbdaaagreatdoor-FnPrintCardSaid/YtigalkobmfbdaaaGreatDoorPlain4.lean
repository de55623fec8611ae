/- The plain law, fourth part: a text that is cut is not read. No program in sight. -/
import Derived.Test.YtigalkobmfbdaaaGreatDoorPlain2
set_option linter.unusedVariables false
set_option linter.unusedSimpArgs false
namespace Go.Proofs.YtigalkobmfbdaaaGreatDoor
open Go.RowKit
/-! ### The tokens of a text that is cut -/
def kindOK (v : List UInt8) : Bool := !([66, 105, 110, 100, 105, 110, 103].isPrefixOf v)
def head2 : List Tok → Bool
  | [] => false
  | y :: _ => y.1 == 2
/-- No node is a Binding, none an Or of nothing. -/
def safe : List Tok → Bool
  | [] => true
  | x :: l => (if x.1 == 5 then kindOK x.2 && !(x.2 == [79, 114] && head2 l) else true) && safe l
/-- The last token alone is the end, or an error. -/
def term : List Tok → Bool
  | [] => false
  | y :: l => if y.1 == 11 || y.1 == 0 then l.isEmpty else term l
def bal : List Tok → Int
  | [] => 0
  | y :: l => (if y.1 == 1 then 1 else if y.1 == 2 then -1 else 0) + bal l
theorem kindOK_app {v w : List UInt8} (h : kindOK (v ++ w) = true) : kindOK v = true := by
  unfold kindOK at *
  simp only [Bool.not_eq_true', Bool.eq_false_iff, ne_eq, List.isPrefixOf_iff_prefix] at *
  exact fun e => h (e.trans (List.prefix_append _ _))
theorem punct_ne {c : UInt8} {t : Int} (h : punct c = some t) : t ≠ 5 ∧ t ≠ 11 ∧ t ≠ 0 := by
  unfold punct at h
  repeat' split at h
  all_goals first | (cases h; decide) | cases h
def Pre (R R' : List Tok) : Prop := (safe R = true → safe R' = true) ∧ (head2 R' = true → head2 R = true)
theorem Pre.cons {R R' : List Tok} (h : Pre R R') (y : Tok) : Pre (y :: R) (y :: R') := by
  refine ⟨fun hs => ?_, fun hs => hs⟩
  simp only [safe, Bool.and_eq_true] at hs ⊢
  refine ⟨?_, h.1 hs.2⟩
  have hs1 := hs.1
  split
  · rename_i h5
    rw [if_pos h5] at hs1
    simp only [Bool.and_eq_true, Bool.not_eq_true', Bool.and_eq_false_imp] at hs1 ⊢
    refine ⟨hs1.1, fun e => ?_⟩
    have := hs1.2 e
    cases h2 : head2 R' with
    | false => rfl
    | true => rw [h.2 h2] at this; cases this
  · rfl
theorem omap_some {α β : Type} {o : Option α} {f : α → β} {b : β} (h : o.map f = some b) : ∃ a, o = some a ∧ f a = b := by
  cases o with
  | none => cases h
  | some a => exact ⟨a, rfl, by simpa using h⟩
theorem start_pre {c : UInt8} {k k' : Mode → Option (List Tok)} (ih : ∀ m R, k m = some R → ∃ R', k' m = some R' ∧ Pre R R') {R : List Tok} (h : startStep c k = some R) : ∃ R', startStep c k' = some R' ∧ Pre R R' := by
  unfold startStep at h ⊢
  split at h
  · rename_i hs; rw [if_pos hs]; exact ih _ _ h
  · rename_i hs
    rw [if_neg hs]
    split at h
    · rename_i t ht
      obtain ⟨R1, h1, rfl⟩ := omap_some h
      obtain ⟨R1', h2, h3⟩ := ih _ _ h1
      exact ⟨(t, [c]) :: R1', by simp [h2], h3.cons _⟩
    · rename_i ht
      split at h
      · rename_i h1; rw [if_pos h1]; exact ih _ _ h
      · rename_i h1
        rw [if_neg h1]
        split at h
        · rename_i h2; rw [if_pos h2]; exact ih _ _ h
        · rename_i h2
          rw [if_neg h2]
          split at h
          · rename_i h3; rw [if_pos h3]; exact ih _ _ h
          · cases h
theorem lex_prefix (q : List UInt8) : ∀ (p : List UInt8) (m : Mode) (R : List Tok), lexM (p ++ q) m = some R → ∃ R', lexM p m = some R' ∧ Pre R R'
  | [], .start, R, h => ⟨_, by rw [lexM], fun _ => by decide, fun h => by cases h⟩
  | [], .str acc, R, h => ⟨_, by rw [lexM], fun _ => by decide, fun h => by cases h⟩
  | [], .var acc, R, h => ⟨_, by rw [lexM], fun _ => by simp [safe], fun h => by cases h⟩
  | [], .typ acc, R, h => by
    refine ⟨_, by rw [lexM], fun hs => ?_, fun h => by cases h⟩
    obtain ⟨body, rest, R1, -, -, -, rfl, -⟩ := lexM_typ _ _ _ h
    simp only [safe, Bool.and_eq_true] at hs
    have h1 := hs.1
    simp only [beq_self_eq_true, if_true, Bool.and_eq_true] at h1
    simp [safe, kindOK_app h1.1, head2]
  | c :: p, .start, R, h => by
    rw [List.cons_append, lexM] at h
    rw [lexM]
    exact start_pre (fun m R hm => lex_prefix q p m R hm) h
  | c :: p, .str acc, R, h => by
    rw [List.cons_append, lexM] at h
    rw [lexM]
    split at h
    · rename_i h1
      rw [if_pos h1]
      obtain ⟨R1, h2, rfl⟩ := omap_some h
      obtain ⟨R1', h3, h4⟩ := lex_prefix q p _ _ h2
      exact ⟨_, by rw [h3]; rfl, h4.cons _⟩
    · rename_i h1
      rw [if_neg h1]
      split at h
      · cases h
      · rename_i h2; rw [if_neg h2]; exact lex_prefix q p _ _ h
  | c :: p, .typ acc, R, h => by
    rw [List.cons_append, lexM] at h
    rw [lexM]
    split at h
    · rename_i h1; rw [if_pos h1]; exact lex_prefix q p _ _ h
    · rename_i h1
      rw [if_neg h1]
      obtain ⟨R1, h2, rfl⟩ := omap_some h
      obtain ⟨R1', h3, h4⟩ := start_pre (fun m R hm => lex_prefix q p m R hm) h2
      exact ⟨_, by rw [h3]; rfl, h4.cons _⟩
  | c :: p, .var acc, R, h => by
    rw [List.cons_append, lexM] at h
    rw [lexM]
    split at h
    · rename_i h1; rw [if_pos h1]; exact lex_prefix q p _ _ h
    · rename_i h1
      rw [if_neg h1]
      obtain ⟨R1, h2, rfl⟩ := omap_some h
      obtain ⟨R1', h3, h4⟩ := start_pre (fun m R hm => lex_prefix q p m R hm) h2
      exact ⟨_, by rw [h3]; rfl, h4.cons _⟩
theorem term_cons {y : Tok} {l : List Tok} (h1 : y.1 ≠ 11) (h0 : y.1 ≠ 0) (h : term l = true) : term (y :: l) = true := by
  simp only [term]; rw [if_neg (by simp [h1, h0])]; exact h
theorem start_term {c : UInt8} {k : Mode → Option (List Tok)} (ih : ∀ m R, k m = some R → term R = true) {R : List Tok} (h : startStep c k = some R) : term R = true := by
  unfold startStep at h
  split at h
  · exact ih _ _ h
  · split at h
    · rename_i t ht
      obtain ⟨R1, h1, rfl⟩ := omap_some h
      exact term_cons (punct_ne ht).2.1 (punct_ne ht).2.2 (ih _ _ h1)
    · split at h
      · exact ih _ _ h
      · split at h
        · exact ih _ _ h
        · split at h
          · exact ih _ _ h
          · cases h
theorem lex_term : ∀ (p : List UInt8) (m : Mode) (R : List Tok), lexM p m = some R → term R = true
  | [], .start, R, h => by rw [lexM] at h; cases h; rfl
  | [], .str acc, R, h => by rw [lexM] at h; cases h; rfl
  | [], .var acc, R, h => by rw [lexM] at h; cases h; rfl
  | [], .typ acc, R, h => by rw [lexM] at h; cases h; rfl
  | c :: p, .start, R, h => by
    rw [lexM] at h
    exact start_term (fun m R hm => lex_term p m R hm) h
  | c :: p, .str acc, R, h => by
    rw [lexM] at h
    split at h
    · obtain ⟨R1, h2, rfl⟩ := omap_some h
      exact term_cons (by simp) (by simp) (lex_term p _ _ h2)
    · split at h
      · cases h
      · exact lex_term p _ _ h
  | c :: p, .typ acc, R, h => by
    rw [lexM] at h
    split at h
    · exact lex_term p _ _ h
    · obtain ⟨R1, h2, rfl⟩ := omap_some h
      exact term_cons (by simp) (by simp) (start_term (fun m R hm => lex_term p m R hm) h2)
  | c :: p, .var acc, R, h => by
    rw [lexM] at h
    split at h
    · exact lex_term p _ _ h
    · obtain ⟨R1, h2, rfl⟩ := omap_some h
      exact term_cons (by simp) (by simp) (start_term (fun m R hm => lex_term p m R hm) h2)
/-- Brackets outside texts. -/
def cb : List UInt8 → Bool → Int
  | [], _ => 0
  | c :: cs, false => (if c == 40 then 1 else if c == 41 then -1 else 0) + cb cs (c == 34)
  | c :: cs, true => cb cs (!(c == 34))
def inStr : Mode → Bool
  | .str _ => true
  | _ => false
theorem space_ne (c : UInt8) : (!(isSpace c.toNat) || (c != 40 && c != 41 && c != 34)) = true := byte_all (p := fun c => !(isSpace c.toNat) || (c != 40 && c != 41 && c != 34)) (by decide +kernel) c
theorem alnum_ne (c : UInt8) : (!(alnum c.toNat) || (c != 40 && c != 41 && c != 34)) = true := byte_all (p := fun c => !(alnum c.toNat) || (c != 40 && c != 41 && c != 34)) (by decide +kernel) c
def pb1 (c : UInt8) : Int := if c == 40 then 1 else if c == 41 then -1 else 0
theorem cb_cons (c : UInt8) (cs : List UInt8) : cb (c :: cs) false = pb1 c + cb cs (c == 34) := by rw [cb]; rfl
theorem pb_alnum {c : UInt8} (h : alnum c.toNat = true) : pb1 c = 0 ∧ (c == 34) = false := by
  have := alnum_ne c
  rw [h] at this
  simp only [Bool.not_true, Bool.false_or, Bool.and_eq_true, bne_iff_ne] at this
  unfold pb1
  simp [this.1.1, this.1.2, this.2]
theorem punct_cb (c : UInt8) : (match punct c with
    | some t => (if t == 1 then (1 : Int) else if t == 2 then -1 else 0) == pb1 c && !(c == 34)
    | none => pb1 c == 0) = true := byte_all (p := fun c => match punct c with
    | some t => (if t == 1 then (1 : Int) else if t == 2 then -1 else 0) == pb1 c && !(c == 34)
    | none => pb1 c == 0) (by decide +kernel) c
theorem start_bal {c : UInt8} {cs : List UInt8} (ih : ∀ m R, lexM cs m = some R → bal R = cb cs (inStr m)) {R : List Tok} (h : startStep c (fun m => lexM cs m) = some R) : bal R = cb (c :: cs) false := by
  rw [cb_cons]
  have hp := punct_cb c
  unfold startStep at h
  split at h
  · rename_i hs
    have := space_ne c
    rw [hs] at this
    simp only [Bool.not_true, Bool.false_or, Bool.and_eq_true, bne_iff_ne] at this
    have e1 : pb1 c = 0 := by unfold pb1; simp [this.1.1, this.1.2]
    have e2 : (c == 34) = false := by simpa using this.2
    rw [e1, e2, ih _ _ h]; simp [inStr]
  · split at h
    · rename_i t ht
      obtain ⟨R1, h1, rfl⟩ := omap_some h
      rw [ht] at hp
      simp only [Bool.and_eq_true, beq_iff_eq, Bool.not_eq_true'] at hp
      rw [hp.2, ← hp.1, bal, ih _ _ h1]; simp [inStr]
    · rename_i ht
      rw [ht] at hp
      simp only [beq_iff_eq] at hp
      rw [hp]
      split at h
      · rename_i h1; rw [h1, ih _ _ h]; simp [inStr]
      · rename_i h1
        rw [Bool.not_eq_true] at h1
        rw [h1]
        split at h
        · rw [ih _ _ h]; simp [inStr]
        · split at h
          · rw [ih _ _ h]; simp [inStr]
          · cases h
theorem lex_bal : ∀ (p : List UInt8) (m : Mode) (R : List Tok), lexM p m = some R → bal R = cb p (inStr m)
  | [], .start, R, h => by rw [lexM] at h; cases h; rfl
  | [], .str acc, R, h => by rw [lexM] at h; cases h; rfl
  | [], .var acc, R, h => by rw [lexM] at h; cases h; rfl
  | [], .typ acc, R, h => by rw [lexM] at h; cases h; rfl
  | c :: p, .start, R, h => by
    rw [lexM] at h
    exact start_bal (fun m R hm => lex_bal p m R hm) h
  | c :: p, .str acc, R, h => by
    rw [lexM] at h
    show bal R = cb p (!(c == 34))
    split at h
    · rename_i h1
      obtain ⟨R1, h2, rfl⟩ := omap_some h
      rw [h1, bal, lex_bal p _ _ h2]; simp [inStr]
    · rename_i h1
      rw [Bool.not_eq_true] at h1
      rw [h1]
      split at h
      · cases h
      · rw [lex_bal p _ _ h]; rfl
  | c :: p, .typ acc, R, h => by
    rw [lexM] at h
    show bal R = cb (c :: p) false
    split at h
    · rename_i h1
      rw [cb_cons, (pb_alnum h1).1, (pb_alnum h1).2, lex_bal p _ _ h]; simp [inStr]
    · obtain ⟨R1, h2, rfl⟩ := omap_some h
      rw [bal, start_bal (fun m R hm => lex_bal p m R hm) h2]; simp
  | c :: p, .var acc, R, h => by
    rw [lexM] at h
    show bal R = cb (c :: p) false
    split at h
    · rename_i h1
      rw [cb_cons, (pb_alnum h1).1, (pb_alnum h1).2, lex_bal p _ _ h]; simp [inStr]
    · obtain ⟨R1, h2, rfl⟩ := omap_some h
      rw [bal, start_bal (fun m R hm => lex_bal p m R hm) h2]; simp
/-! ### Texts that are well bracketed -/
def WB (l : List UInt8) : Prop := (∀ r, cb (l ++ r) false = cb r false) ∧ ∀ n, 0 ≤ cb (l.take n) false
theorem WB.nil : WB [] := ⟨fun _ => rfl, fun n => by simp [cb]⟩
theorem WB.app {a b : List UInt8} (ha : WB a) (hb : WB b) : WB (a ++ b) := by
  refine ⟨fun r => by rw [List.append_assoc, ha.1, hb.1], fun n => ?_⟩
  rw [List.take_append]
  by_cases h : n ≤ a.length
  · rw [show n - a.length = 0 by omega, List.take_zero, List.append_nil]; exact ha.2 n
  · rw [List.take_of_length_le (by omega), ha.1]; exact hb.2 _
def plainB (l : List UInt8) : Bool := l.all fun c => c != 40 && c != 41 && c != 34
theorem cb_plain : ∀ (l r : List UInt8), plainB l = true → cb (l ++ r) false = cb r false
  | [], _, _ => rfl
  | c :: l, r, h => by
    simp only [plainB, List.all_cons, Bool.and_eq_true, bne_iff_ne] at h
    obtain ⟨⟨⟨h1, h2⟩, h3⟩, h4⟩ := h
    have e : (c == 34) = false := by simpa using h3
    rw [List.cons_append, cb_cons, e, cb_plain l r (by simpa [plainB] using h4)]
    unfold pb1
    simp [h1, h2]
theorem WB.plain {l : List UInt8} (h : plainB l = true) : WB l := by
  refine ⟨fun r => cb_plain l r h, fun n => ?_⟩
  have := cb_plain (l.take n) [] (by
    unfold plainB at *
    rw [List.all_eq_true] at *
    exact fun c hc => h c (List.mem_of_mem_take hc))
  rw [List.append_nil] at this
  rw [this]; simp [cb]
theorem cb_str : ∀ (l r : List UInt8), strB l = true → cb (l ++ r) true = cb r true
  | [], _, _ => rfl
  | c :: l, r, h => by
    simp only [strB, List.all_cons, Bool.and_eq_true, bne_iff_ne] at h
    obtain ⟨⟨⟨h1, h2⟩, h3⟩, h4⟩ := h
    have e : (c == 34) = false := by simpa using h1
    rw [List.cons_append, cb, e]
    exact cb_str l r (by simpa [strB] using h4)
theorem WB.quote {l : List UInt8} (h : strB l = true) : WB (34 :: (l ++ [34])) := by
  refine ⟨fun r => ?_, fun n => ?_⟩
  · rw [List.cons_append, List.append_assoc, cb_cons]
    show 0 + cb (l ++ 34 :: r) true = _
    rw [cb_str l _ h, cb]; simp
  · cases n with
    | zero => simp [cb]
    | succ n =>
      rw [List.take_succ_cons, cb_cons]
      show 0 ≤ 0 + cb ((l ++ [34]).take n) true
      rw [List.take_append]
      rw [cb_str _ _ (by unfold strB at *; rw [List.all_eq_true] at *; exact fun c hc => h c (List.mem_of_mem_take hc))]
      cases n - l.length <;> simp [cb]
theorem WB.paren {l : List UInt8} (h : WB l) : WB (40 :: (l ++ [41])) ∧ ∀ n, 1 ≤ n → n ≤ l.length + 1 → 1 ≤ cb ((40 :: (l ++ [41])).take n) false := by
  have h2 : ∀ n, 1 ≤ n → n ≤ l.length + 1 → 1 ≤ cb ((40 :: (l ++ [41])).take n) false := by
    intro n h1 h2
    obtain ⟨m, rfl⟩ : ∃ m, n = m + 1 := ⟨n - 1, by omega⟩
    rw [List.take_succ_cons, cb_cons, List.take_append, show m - l.length = 0 by omega, List.take_zero, List.append_nil]
    have := h.2 m
    show 1 ≤ 1 + cb (l.take m) false
    omega
  refine ⟨⟨fun r => ?_, fun n => ?_⟩, h2⟩
  · rw [List.cons_append, List.append_assoc, cb_cons]
    show 1 + cb (l ++ 41 :: r) false = _
    rw [h.1, cb_cons]
    show 1 + (-1 + cb r false) = _
    omega
  · by_cases h0 : n = 0
    · subst h0; simp [cb]
    · by_cases h1 : n ≤ l.length + 1
      · have := h2 n (by omega) h1; omega
      · rw [List.take_of_length_le (by simp; omega), cb_cons]
        show 0 ≤ 1 + cb (l ++ [41]) false
        rw [h.1]; decide
theorem plain_cap {l : List UInt8} (h : capB l = true) : plainB l = true := by
  cases l with
  | nil => cases h
  | cons c l =>
    simp only [capB, Bool.and_eq_true] at h
    have hc : alnum c.toNat = true := by have := up_facts c; rw [h.1] at this; simp at this; exact this.2
    rw [plainB, List.all_eq_true]
    intro d hd
    have : alnum d.toNat = true := by
      rcases List.mem_cons.1 hd with rfl | hd
      · exact hc
      · exact List.all_eq_true.1 h.2 d hd
    have h2 := alnum_ne d
    rw [this] at h2
    simpa using h2
theorem plain_low {l : List UInt8} (h : lowB l = true) : plainB l = true := by
  cases l with
  | nil => cases h
  | cons c l =>
    simp only [lowB, Bool.and_eq_true] at h
    have hc : alnum c.toNat = true := by have := low_facts c; rw [h.1] at this; simp at this; exact this.2
    rw [plainB, List.all_eq_true]
    intro d hd
    have : alnum d.toNat = true := by
      rcases List.mem_cons.1 hd with rfl | hd
      · exact hc
      · exact List.all_eq_true.1 h.2 d hd
    have h2 := alnum_ne d
    rw [this] at h2
    simpa using h2
theorem WB.gap (s : Int) : WB (gapOf s).toList := by
  rcases gap_list s with h | h <;> rw [h] <;> exact WB.plain (by decide)
theorem WB.all (s : Int) : ∀ (l : List Tree), (∀ t ∈ l, WB (text s t).toList) → WB (textAll s l).toList
  | [], _ => by rw [textAll, toList_mk]; exact WB.nil
  | t :: l, h => by
    rw [textAll, toList_app, toList_app]
    exact ((WB.gap s).app (h t (List.mem_cons_self ..))).app (WB.all s l fun u hu => h u (List.mem_cons_of_mem _ hu))
theorem wb_text (s : Int) (t : Tree) : (∀ c, good t c = true → WB (text s t).toList) ∧ (∀ l, whole t = some l → good t 108 = true → ∀ u ∈ l, WB (text s u).toList) := by
  refine Tree.ind (P := fun t => (∀ c, good t c = true → WB (text s t).toList) ∧ (∀ l, whole t = some l → good t 108 = true → ∀ u ∈ l, WB (text s u).toList)) ?_ t
  clear t
  rintro ⟨k, x, ks⟩ ih
  simp only [kids_mk] at ih
  have ihm : ∀ t ∈ ks, ∀ c, good t c = true → WB (text s t).toList := fun t ht => by
    obtain ⟨j, hj, rfl⟩ := List.getElem_of_mem ht
    exact (ih j hj).1
  refine ⟨fun c hg => ?_, fun l hw hg u hu => ?_⟩
  · rcases kind_cases k with rfl | rfl | rfl | rfl | rfl | hk
    · rw [text_mk]
      simp only [toList_mk]
      simp (decide := true) only [↓reduceIte]
      split
      · rw [toList_mk]; exact (WB.paren (l := [65, 110, 121]) (WB.plain (by decide))).1
      · rw [toList_mk]; exact WB.plain (by decide)
    · rw [text_mk]
      simp only [toList_mk]
      simp (decide := true) only [↓reduceIte]
      rw [toList_mk]
      exact WB.plain (by decide)
    · obtain ⟨-, -, hx⟩ := good_string_parts hg
      rw [text_mk]
      simp only [toList_mk]
      simp (decide := true) only [↓reduceIte]
      rw [toList_app, toList_app, toList_mk]
      exact WB.quote hx
    · obtain ⟨-, rfl | ⟨a, b, rfl, ha, hb1, hb⟩⟩ := good_list_parts hg
      · rw [text_mk]
        simp only [toList_mk]
        simp (decide := true) only [↓reduceIte]
        rw [toList_mk]
        exact WB.plain (by decide)
      · have iA := ihm a (by simp) _ ha
        have iB := ihm b (by simp) _ hb
        have iS := (ih 1 (by simp)).2
        rw [text_mk]
        simp only [toList_mk]
        simp (decide := true) only [↓reduceIte]
        split
        · simp only [toList_app, toList_mk, List.append_assoc]
          have := (WB.paren ((WB.plain (l := [76, 105, 115, 116]) (by decide)).app ((WB.gap s).app (iA.app ((WB.gap s).app iB))))).1
          simpa using this
        · split
          · simp only [toList_app, toList_mk]
            exact (iA.app (WB.plain (l := [58]) (by decide))).app iB
          · rename_i h1 h2
            obtain ⟨l, hw⟩ : ∃ l, whole b = some l := by
              cases hw : whole b with
              | none => rw [hw] at h2; simp at h2
              | some l => exact ⟨l, rfl⟩
            rw [spine_eq s b l hw]
            simp only [toList_app, toList_mk]
            exact ((WB.plain (l := [91]) (by decide)).app (iA.app (WB.all s l (iS l hw hb)))).app (WB.plain (l := [93]) (by decide))
    · obtain ⟨hx, rfl | ⟨a, rfl, hn, ha⟩⟩ := good_bind_parts hg
      · rw [text_mk]
        simp only [toList_mk]
        simp (decide := true) only [↓reduceIte]
        exact WB.plain (plain_low (name_low _ hx))
      · rw [text_mk]
        simp only [toList_mk]
        simp (decide := true) only [↓reduceIte]
        simp only [toList_app, toList_mk]
        exact ((WB.plain (plain_low (name_low _ hx))).app (WB.plain (l := [64]) (by decide))).app (ihm a (by simp) _ ha)
    · have hk' : (k.toList == [65, 110, 121]) = false ∧ (k.toList == [78, 105, 108]) = false ∧ (k.toList == [83, 116, 114, 105, 110, 103]) = false ∧ (k.toList == [76, 105, 115, 116]) = false ∧ (k.toList == [66, 105, 110, 100, 105, 110, 103]) = false := by
        rcases hk with rfl | rfl | hk
        · simp only [toList_mk]; decide
        · simp only [toList_mk]; decide
        · exact ⟨hk.1, hk.2.1, hk.2.2.1, hk.2.2.2.1, hk.2.2.2.2.1⟩
      obtain ⟨h1, h2, h3, h4, h5⟩ := hk'
      obtain ⟨hks, hcap, -⟩ := good_node hg h1 h2 h3 h4 h5
      rw [text_mk, h1, h2, h3, h4, h5]
      simp only [Bool.false_eq_true, if_false]
      simp only [toList_app, toList_mk, List.append_assoc]
      have := (WB.paren ((WB.plain (plain_cap hcap)).app (WB.all s ks (fun t ht => by obtain ⟨c, hc⟩ := hks t ht; exact ihm t ht c hc)))).1
      simpa using this
  · rw [whole_mk] at hw
    split at hw
    · rename_i hk
      obtain rfl := beq_lit hk
      obtain ⟨-, rfl | ⟨a, b, rfl, ha, hb1, hb⟩⟩ := good_list_parts hg
      · simp at hw; subst hw; cases hu
      · simp only at hw
        cases hwb : whole b with
        | none => rw [hwb] at hw; simp at hw
        | some l' =>
          rw [hwb] at hw
          simp at hw
          subst hw
          rcases List.mem_cons.1 hu with rfl | hu
          · exact ihm u (by simp) _ ha
          · exact (ih 1 (by simp)).2 l' hwb hb u hu
    · cases hw
/-- A node's text: cut anywhere but at its ends, a bracket is open. -/
theorem cut_open (s : Int) {t : Tree} {c : Int} (hg : good t c = true) (hn : nodeKind t = true) (n : Nat) (h1 : 1 ≤ n) (h2 : n < (text s t).toList.length) : 1 ≤ cb ((text s t).toList.take n) false := by
  obtain ⟨k, x, ks⟩ := t
  unfold nodeKind at hn
  simp only [kind_mk, Bool.and_eq_true, Bool.not_eq_true'] at hn
  obtain ⟨⟨⟨⟨e1, e2⟩, e3⟩, e4⟩, e5⟩ := hn
  obtain ⟨hks, hcap, -⟩ := good_node hg e1 e2 e3 e4 e5
  rw [text_mk, e1, e2, e3, e4, e5] at h2 ⊢
  simp only [Bool.false_eq_true, if_false] at h2 ⊢
  simp only [toList_app, toList_mk, List.append_assoc] at h2 ⊢
  have := (WB.paren ((WB.plain (plain_cap hcap)).app (WB.all s ks (fun t ht => by obtain ⟨c, hc⟩ := hks t ht; exact (wb_text s t).1 c hc)))).2 n h1 (by simp at h2 ⊢; omega)
  simpa using this
/-! ### Safe tokens -/
theorem kinds_ok : ∀ x ∈ fieldsT, kindOK x.1.toList = true ∧ (x.1.toList == [79, 114]) = false := by decide +kernel
theorem safe_all (s : Int) (l : List Tree) (h : ∀ t ∈ l, ∀ R, safe R = true → safe (toks s t ++ R) = true) (R : List Tok) (hR : safe R = true) : safe (toksAll s l ++ R) = true := by
  induction l with
  | nil => rw [toksAll]; exact hR
  | cons t l ih =>
    rw [toksAll, List.append_assoc]
    exact h t (List.mem_cons_self ..) _ (ih fun u hu => h u (List.mem_cons_of_mem _ hu))
theorem safe_cons {y : Tok} {R : List Tok} (h5 : y.1 ≠ 5) (h : safe R = true) : safe (y :: R) = true := by
  simp [safe, h5, h]
theorem safe_typ {v : List UInt8} {R : List Tok} (h1 : kindOK v = true) (h2 : (v == [79, 114]) = false ∨ head2 R = false) (h : safe R = true) : safe ((5, v) :: R) = true := by
  rcases h2 with h2 | h2 <;> simp [safe, h1, h2, h]
theorem safe_text (s : Int) (t : Tree) : (∀ c, good t c = true → ∀ R, safe R = true → safe (toks s t ++ R) = true) ∧ (∀ l, whole t = some l → good t 108 = true → ∀ u ∈ l, ∀ R, safe R = true → safe (toks s u ++ R) = true) := by
  refine Tree.ind (P := fun t => (∀ c, good t c = true → ∀ R, safe R = true → safe (toks s t ++ R) = true) ∧ (∀ l, whole t = some l → good t 108 = true → ∀ u ∈ l, ∀ R, safe R = true → safe (toks s u ++ R) = true)) ?_ t
  clear t
  rintro ⟨k, x, ks⟩ ih
  simp only [kids_mk] at ih
  have ihm : ∀ t ∈ ks, ∀ c, good t c = true → ∀ R, safe R = true → safe (toks s t ++ R) = true := fun t ht => by
    obtain ⟨j, hj, rfl⟩ := List.getElem_of_mem ht
    exact (ih j hj).1
  refine ⟨fun c hg R hR => ?_, fun l hw hg u hu => ?_⟩
  · rcases kind_cases k with rfl | rfl | rfl | rfl | rfl | hk
    · rw [toks_mk]
      simp only [toList_mk]
      simp (decide := true) only [↓reduceIte]
      split
      · exact safe_cons (by simp) (safe_typ (by decide) (.inl (by decide)) (safe_cons (by simp) hR))
      · exact safe_cons (by simp) hR
    · rw [toks_mk]
      simp only [toList_mk]
      simp (decide := true) only [↓reduceIte]
      exact safe_cons (by simp) hR
    · rw [toks_mk]
      simp only [toList_mk]
      simp (decide := true) only [↓reduceIte]
      exact safe_cons (by simp) hR
    · obtain ⟨-, rfl | ⟨a, b, rfl, ha, hb1, hb⟩⟩ := good_list_parts hg
      · rw [toks_mk]
        simp only [toList_mk]
        simp (decide := true) only [↓reduceIte]
        exact safe_cons (by simp) (safe_cons (by simp) hR)
      · have iA := ihm a (by simp) _ ha
        have iB := ihm b (by simp) _ hb
        have iS := (ih 1 (by simp)).2
        rw [toks_mk]
        simp only [toList_mk]
        simp (decide := true) only [↓reduceIte]
        split
        · simp only [List.cons_append, List.append_assoc, List.nil_append]
          exact safe_cons (by simp) (safe_typ (by decide) (.inl (by decide)) (iA _ (iB _ (safe_cons (by simp) hR))))
        · split
          · simp only [List.cons_append, List.append_assoc]
            exact iA _ (safe_cons (by simp) (iB _ hR))
          · rename_i h1 h2
            obtain ⟨l, hw⟩ : ∃ l, whole b = some l := by
              cases hw : whole b with
              | none => rw [hw] at h2; simp at h2
              | some l => exact ⟨l, rfl⟩
            rw [spineT_eq s b l hw]
            simp only [List.cons_append, List.append_assoc, List.nil_append]
            exact safe_cons (by simp) (iA _ (safe_all s l (iS l hw hb) _ (safe_cons (by simp) hR)))
    · obtain ⟨hx, rfl | ⟨a, rfl, hn, ha⟩⟩ := good_bind_parts hg
      · rw [toks_mk]
        simp only [toList_mk]
        simp (decide := true) only [↓reduceIte]
        exact safe_cons (by simp) hR
      · rw [toks_mk]
        simp only [toList_mk]
        simp (decide := true) only [↓reduceIte]
        exact safe_cons (by simp) (safe_cons (by simp) (ihm a (by simp) _ ha _ hR))
    · have hk' : (k.toList == [65, 110, 121]) = false ∧ (k.toList == [78, 105, 108]) = false ∧ (k.toList == [83, 116, 114, 105, 110, 103]) = false ∧ (k.toList == [76, 105, 115, 116]) = false ∧ (k.toList == [66, 105, 110, 100, 105, 110, 103]) = false := by
        rcases hk with rfl | rfl | hk
        · simp only [toList_mk]; decide
        · simp only [toList_mk]; decide
        · exact ⟨hk.1, hk.2.1, hk.2.2.1, hk.2.2.2.1, hk.2.2.2.2.1⟩
      obtain ⟨h1, h2, h3, h4, h5⟩ := hk'
      obtain ⟨hks, hcap, -⟩ := good_node hg h1 h2 h3 h4 h5
      rw [toks_mk, h1, h2, h3, h4, h5]
      simp only [Bool.false_eq_true, if_false, List.cons_append, List.append_assoc, List.nil_append]
      refine safe_cons (by simp) (safe_typ ?_ ?_ (safe_all s ks (fun t ht => by obtain ⟨c, hc⟩ := hks t ht; exact ihm t ht c hc) _ (safe_cons (by simp) hR)))
      · rcases good_node_kind hg h1 h2 h3 h4 h5 with ⟨rfl, -⟩ | ⟨rfl, -⟩ | ⟨hn, -⟩
        · simp only [toList_mk]; decide
        · simp only [toList_mk]; decide
        · obtain ⟨y, hy, rfl⟩ := named_key hn
          exact (kinds_ok y hy).1
      · rcases good_node_kind hg h1 h2 h3 h4 h5 with ⟨rfl, hne⟩ | ⟨rfl, -⟩ | ⟨hn, -⟩
        · right
          cases ks with
          | nil => exact absurd rfl hne
          | cons u l =>
            obtain ⟨c', hc'⟩ := hks u (by simp)
            obtain ⟨y, r, ey, hy⟩ := toks_head s u c' hc'
            rw [toksAll, ey]
            rcases hy with e | e | e | e | e <;> simp [head2, e]
        · left; simp only [toList_mk]; decide
        · left
          obtain ⟨y, hy, rfl⟩ := named_key hn
          exact (kinds_ok y hy).2
  · rw [whole_mk] at hw
    split at hw
    · rename_i hk
      obtain rfl := beq_lit hk
      obtain ⟨-, rfl | ⟨a, b, rfl, ha, hb1, hb⟩⟩ := good_list_parts hg
      · simp at hw; subst hw; cases hu
      · simp only at hw
        cases hwb : whole b with
        | none => rw [hwb] at hw; simp at hw
        | some l' =>
          rw [hwb] at hw
          simp at hw
          subst hw
          rcases List.mem_cons.1 hu with rfl | hu
          · exact ihm u (by simp) _ ha
          · exact (ih 1 (by simp)).2 l' hwb hb u hu
    · cases hw
/-! ### Whatever is safe is read, or is an error -/
abbrev tk (S : List Item) : List Tok := S.map tokOf
def Fine (S : List Item) : Prop := term (tk S) = true ∧ safe (tk S) = true
theorem Fine.cons {S : List Item} (h : Fine S) : ∃ x S', S = x :: S' ∧ ((x.typ ≠ 11 ∧ x.typ ≠ 0 ∧ Fine S') ∨ ((x.typ = 11 ∨ x.typ = 0) ∧ S' = [])) := by
  obtain ⟨h1, h2⟩ := h
  cases S with
  | nil => simp [term] at h1
  | cons x S' =>
    refine ⟨x, S', rfl, ?_⟩
    simp only [tk, List.map_cons, term] at h1
    simp only [tk, List.map_cons, safe, Bool.and_eq_true] at h2
    have e : (tokOf x).1 = x.typ := rfl
    rw [e] at h1
    split at h1
    · rename_i h
      right
      refine ⟨by simpa using h, by simpa using h1⟩
    · rename_i h
      left
      simp only [Bool.or_eq_true, beq_iff_eq, not_or] at h
      exact ⟨h.1, h.2, h1, h2.2⟩
theorem Fine.next {x : Item} {S : List Item} (h : Fine (x :: S)) (h1 : x.typ ≠ 11) (h0 : x.typ ≠ 0) : Fine S := by
  obtain ⟨y, S', e, h⟩ := h.cons
  obtain ⟨rfl, rfl⟩ := List.cons.inj e
  rcases h with ⟨-, -, h⟩ | ⟨h | h, -⟩
  · exact h
  · exact absurd h h1
  · exact absurd h h0
/-- Not without an answer; what is left is fine, shorter, and its brackets differ by d. -/
def Tot {α : Type} (d : Int) (k : Nat) (S : List Item) (r : PRes α) : Prop := r ≠ none ∧ ∀ a S' nm', r = some (some (a, S', nm')) → Fine S' ∧ S'.length + k ≤ S.length ∧ bal (tk S') = bal (tk S) + d
theorem Tot.err {α : Type} {d : Int} {k : Nat} {S : List Item} : Tot (α := α) d k S (some none) := ⟨by simp, fun _ _ _ e => by cases e⟩
theorem Tot.ret {α : Type} {d : Int} {k : Nat} {S S1 : List Item} {nm : Names} {a : α} (h1 : Fine S1) (h2 : S1.length + k ≤ S.length) (h3 : bal (tk S1) = bal (tk S) + d) : Tot d k S (some (some (a, S1, nm))) := ⟨by simp, fun _ _ _ e => by cases e; exact ⟨h1, h2, h3⟩⟩
theorem Tot.andThen {α β : Type} {d1 d2 d : Int} {k1 k2 k : Nat} {S0 S : List Item} {r : PRes α} {g : α → List Item → Names → PRes β} (h : Tot d1 k1 S r) (hl : S.length + k2 ≤ S0.length) (hd : bal (tk S) = bal (tk S0) + d2)
    (hg : ∀ a S' nm', r = some (some (a, S', nm')) → Fine S' → S'.length + (k1 + k2) ≤ S0.length → bal (tk S') = bal (tk S0) + (d1 + d2) → Tot d k S0 (g a S' nm')) : Tot d k S0 (r.andThen g) := by
  obtain ⟨h1, h2⟩ := h
  unfold PRes.andThen
  split
  · exact absurd rfl h1
  · exact Tot.err
  · rename_i a S' nm' h1
    obtain ⟨f1, f2, f3⟩ := h2 _ _ _ rfl
    exact hg _ _ _ rfl f1 (by omega) (by omega)
theorem Tot.of {α : Type} {d1 d2 d : Int} {k1 k2 k : Nat} {S0 S : List Item} {r : PRes α} (h : Tot d1 k1 S r) (hl : S.length + k2 ≤ S0.length) (hd : bal (tk S) = bal (tk S0) + d2) (hk : k ≤ k1 + k2) (he : d = d1 + d2) : Tot d k S0 r := by
  refine ⟨h.1, fun a S' nm' e => ?_⟩
  obtain ⟨f1, f2, f3⟩ := h.2 _ _ _ e
  exact ⟨f1, by omega, by omega⟩
theorem bal_cons (x : Item) (S : List Item) : bal (tk (x :: S)) = (if x.typ == 1 then 1 else if x.typ == 2 then -1 else 0) + bal (tk S) := by
  simp only [tk, List.map_cons, bal]; rfl
theorem objs_empty {al : Bool} {f : Nat} {S S' : List Item} {nm nm' : Names} (h : objsM al f 2 S nm = some (some ([], S', nm'))) : ∃ y S4, S = y :: S4 ∧ y.typ = 2 := by
  cases f with
  | zero => rw [objsM] at h; cases h
  | succ f =>
  cases S with
  | nil => rw [objsM] at h; cases h
  | cons y S4 =>
  rw [objsM_cons] at h
  split at h
  · rename_i hy; exact ⟨y, S4, rfl, eq_of_beq hy⟩
  · unfold PRes.andThen at h
    split at h
    · cases h
    · cases h
    · dsimp only at h
      split at h
      · cases h
      · cases h
      · simp at h
def stopD (stop : Int) : Int := if stop == 2 then 1 else 0
theorem total (al : Bool) : ∀ f : Nat,
    (∀ S nm, Fine S → 3 * S.length + 1 ≤ f → Tot 0 1 S (nodeM al f S nm)) ∧
    (∀ st S nm, (st = 2 ∨ st = 4) → Fine S → 3 * S.length + 3 ≤ f → Tot (stopD st) 1 S (objsM al f st S nm)) ∧
    (∀ S nm, Fine S → 3 * S.length + 2 ≤ f → Tot 0 1 S (objectM al f S nm)) ∧
    (∀ n S nm, Fine S → 3 * S.length + 1 ≤ f → Tot 0 0 S (tailM al f n S nm)) ∧
    (∀ S nm, Fine S → 3 * S.length + 1 ≤ f → Tot 0 1 S (arrayM al f S nm))
  | 0 => ⟨fun _ _ _ h => by omega, fun _ _ _ _ _ h => by omega, fun _ _ _ h => by omega, fun _ _ _ _ h => by omega, fun _ _ _ h => by omega⟩
  | f + 1 => by
    obtain ⟨h1, h2, h3, h4, h5⟩ := total al f
    refine ⟨fun S nm hF hf => ?_, fun st S nm hst hF hf => ?_, fun S nm hF hf => ?_, fun n S nm hF hf => ?_, fun S nm hF hf => ?_⟩
    · obtain ⟨x, S1, rfl, hx⟩ := hF.cons
      rw [nodeM_cons]
      split
      · rename_i e1
        have e1 := eq_of_beq e1
        have hF1 := hF.next (by rw [e1]; decide) (by rw [e1]; decide)
        obtain ⟨t, S2, rfl, ht⟩ := hF1.cons
        simp only
        split
        · rename_i e5
          have e5 := eq_of_beq e5
          have hF2 := hF1.next (by rw [e5]; decide) (by rw [e5]; decide)
          have hs : kindOK t.val.toList = true ∧ ((t.val.toList == [79, 114]) = true → head2 (tk S2) = false) := by
            have := hF1.2
            simp only [tk, List.map_cons, safe, Bool.and_eq_true] at this
            have := this.1
            have e' : (tokOf t) = (5, t.val.toList) := by simp [tokOf, e5]
            rw [e'] at this
            simp only [beq_self_eq_true, if_true, Bool.and_eq_true, Bool.not_eq_true', Bool.and_eq_false_imp] at this
            exact this
          have b1 := bal_cons x (t :: S2)
          have b2 := bal_cons t S2
          rw [e1] at b1
          rw [e5] at b2
          simp (decide := true) only [↓reduceIte] at b1 b2
          simp only [List.length_cons] at hf
          refine (h2 2 S2 nm (.inl rfl) hF2 (by omega)).andThen (k2 := 2) (d2 := -1) (by simp) (by omega) ?_
          intro ks S3 nm3 hr f1 f2 f3
          have hsaid : said t.val ks = true := by
            unfold said
            have q1 : (t.val.toList == [66, 105, 110, 100, 105, 110, 103]) = false := by
              cases q : (t.val.toList == [66, 105, 110, 100, 105, 110, 103]) with
              | false => rfl
              | true => have := hs.1; rw [eq_of_beq q] at this; exact absurd this (by decide)
            rw [q1]
            cases q : (t.val.toList == [79, 114] && ks.length == 0) with
            | false => rfl
            | true =>
              rw [Bool.and_eq_true] at q
              have hk : ks = [] := List.eq_nil_of_length_eq_zero (eq_of_beq q.2)
              subst hk
              obtain ⟨y, S4, rfl, hy⟩ := objs_empty hr
              have := hs.2 q.1
              simp only [tk, List.map_cons, head2] at this
              have e' : (tokOf y).1 = y.typ := rfl
              rw [e', hy] at this
              cases this
          rw [if_pos hsaid]
          cases populate al t.val ks with
          | none => exact Tot.err
          | some n => exact Tot.ret f1 (by omega) (by simp (decide := true) only [stopD, ↓reduceIte] at f3; omega)
        · exact Tot.err
      · exact Tot.err
    · obtain ⟨x, S1, rfl, hx⟩ := hF.cons
      have b1 := bal_cons x S1
      rw [objsM_cons]
      split
      · rename_i e1
        have e1 := eq_of_beq e1
        have hF1 := hF.next (by rw [e1]; rcases hst with rfl | rfl <;> decide) (by rw [e1]; rcases hst with rfl | rfl <;> decide)
        refine Tot.ret hF1 (by simp) ?_
        rw [e1] at b1
        rcases hst with rfl | rfl <;> (simp (decide := true) only [↓reduceIte] at b1; simp (decide := true) only [stopD, ↓reduceIte]; omega)
      · simp only [List.length_cons] at hf
        refine (h3 (x :: S1) nm hF (by simp; omega)).andThen (k2 := 0) (d2 := 0) (by simp) (by omega) ?_
        intro n S2 nm2 hr f1 f2 f3
        simp only [List.length_cons] at f2
        refine (h2 st S2 nm2 hst f1 (by omega)).andThen (k2 := 1) (d2 := 0) (by simp; omega) (by omega) ?_
        intro ks S3 nm3 hr2 g1 g2 g3
        exact Tot.ret g1 (by omega) (by omega)
    · obtain ⟨x, S1, rfl, hx⟩ := hF.cons
      have b1 := bal_cons x S1
      simp only [List.length_cons] at hf
      rw [objectM_cons]
      split
      · refine (h1 (x :: S1) nm hF (by simp; omega)).andThen (k2 := 0) (d2 := 0) (by simp) (by omega) ?_
        intro n S2 nm2 hr f1 f2 f3
        simp only [List.length_cons] at f2
        exact (h4 n S2 nm2 f1 (by omega)).of (k2 := 1) (d2 := 0) (by simp; omega) (by omega) (by omega) (by omega)
      · rename_i n1
        split
        · exact h5 (x :: S1) nm hF (by simp; omega)
        · split
          · rename_i e6
            have e6 := eq_of_beq e6
            have hF1 := hF.next (by rw [e6]; decide) (by rw [e6]; decide)
            rw [e6] at b1
            simp (decide := true) only [↓reduceIte] at b1
            split
            · exact Tot.ret hF1 (by simp) (by omega)
            · obtain ⟨y, S2, rfl, hy⟩ := hF1.cons
              have b2 := bal_cons y S2
              simp only [List.length_cons] at hf
              simp only
              split
              · rename_i e7
                have e7 := eq_of_beq e7
                have hF2 := hF1.next (by rw [e7]; decide) (by rw [e7]; decide)
                rw [e7] at b2
                simp (decide := true) only [↓reduceIte] at b2
                refine (h1 S2 nm hF2 (by omega)).andThen (k2 := 2) (d2 := 0) (by simp) (by omega) ?_
                intro o S3 nm3 hr f1 f2 f3
                simp only [List.length_cons] at f2
                exact (h4 _ S3 _ f1 (by omega)).of (k2 := 3) (d2 := 0) (by simp; omega) (by omega) (by omega) (by omega)
              · exact (h4 _ (y :: S2) _ hF1 (by simp; omega)).of (k2 := 1) (d2 := 0) (by simp) (by omega) (by omega) (by omega)
          · split
            · rename_i e9
              have e9 := eq_of_beq e9
              have hF1 := hF.next (by rw [e9]; decide) (by rw [e9]; decide)
              rw [e9] at b1
              simp (decide := true) only [↓reduceIte] at b1
              exact (h4 _ S1 nm hF1 (by omega)).of (k2 := 1) (d2 := 0) (by simp) (by omega) (by omega) (by omega)
            · split
              · rename_i e10
                have e10 := eq_of_beq e10
                have hF1 := hF.next (by rw [e10]; decide) (by rw [e10]; decide)
                rw [e10] at b1
                simp (decide := true) only [↓reduceIte] at b1
                exact Tot.ret hF1 (by simp) (by omega)
              · exact Tot.err
    · obtain ⟨x, S1, rfl, hx⟩ := hF.cons
      have b1 := bal_cons x S1
      simp only [List.length_cons] at hf
      rw [tailM_cons]
      split
      · rename_i e8
        have e8 := eq_of_beq e8
        have hF1 := hF.next (by rw [e8]; decide) (by rw [e8]; decide)
        rw [e8] at b1
        simp (decide := true) only [↓reduceIte] at b1
        refine (h3 S1 nm hF1 (by omega)).andThen (k2 := 1) (d2 := 0) (by simp) (by omega) ?_
        intro t S2 nm2 hr f1 f2 f3
        exact Tot.ret f1 (by omega) (by omega)
      · exact Tot.ret hF (by simp) (by omega)
    · obtain ⟨x, S1, rfl, hx⟩ := hF.cons
      have b1 := bal_cons x S1
      simp only [List.length_cons] at hf
      rw [arrayM_cons]
      split
      · rename_i e3
        have e3 := eq_of_beq e3
        have hF1 := hF.next (by rw [e3]; decide) (by rw [e3]; decide)
        rw [e3] at b1
        simp (decide := true) only [↓reduceIte] at b1
        refine (h2 4 S1 nm (.inr rfl) hF1 (by omega)).andThen (k2 := 1) (d2 := 0) (by simp) (by omega) ?_
        intro ks S2 nm2 hr f1 f2 f3
        exact Tot.ret f1 (by omega) (by simp (decide := true) only [stopD, ↓reduceIte] at f3; omega)
      · exact Tot.err
/-- Tokens with an open bracket are no pattern. -/
theorem open_fails (al : Bool) (S : List Item) (nm : Names) (f : Nat) (hF : Fine S) (hb : 1 ≤ bal (tk S)) (hf : 3 * S.length + 1 ≤ f) :
    nodeM al f S nm = some none ∨ ∃ n x S' nm', nodeM al f S nm = some (some (n, x :: S', nm')) ∧ x.typ ≠ 11 := by
  obtain ⟨h1, h2⟩ := (total al f).1 S nm hF hf
  cases hr : nodeM al f S nm with
  | none => exact absurd hr h1
  | some r =>
    cases r with
    | none => exact .inl rfl
    | some q =>
      obtain ⟨n, S', nm'⟩ := q
      obtain ⟨g1, g2, g3⟩ := h2 _ _ _ hr
      obtain ⟨x, S2, rfl, hx⟩ := g1.cons
      refine .inr ⟨n, x, S2, nm', rfl, fun e => ?_⟩
      rcases hx with ⟨hx, -⟩ | ⟨-, rfl⟩
      · exact hx e
      · rw [bal_cons, e] at g3
        simp [bal] at g3
        omega
end Go.Proofs.YtigalkobmfbdaaaGreatDoor
