/- The plain law, fifth part: what the texts of the laws are read as. No program in sight. -/
import Derived.Test.YtigalkobmfbdaaaGreatDoorPlain3
import Derived.Test.YtigalkobmfbdaaaGreatDoorPlain4
set_option linter.unusedVariables false
set_option linter.unusedSimpArgs false
namespace Go.Proofs.YtigalkobmfbdaaaGreatDoor
open Go.RowKit
/-- What the parser makes of items: nothing is said; an error; a node and its names. -/
def parseM (al : Bool) (S : List Item) (f : Nat) : Option (Option (PN × Names)) :=
  match nodeM al f S [] with
  | none => none
  | some none => some none
  | some (some (n, S', nm)) => match S' with
    | [] => none
    | x :: _ => if x.typ == 11 then (if nm.length ≤ 64 then some (some (n, nm)) else some none) else some none
/-- What a text is read as. -/
def Reads (al : Bool) (inp : ByteArray) (r : Option (PN × Names)) : Prop :=
  ∃ R f, f ≤ 100000 ∧ lexM inp.toList .start = some R ∧ ∀ S : List Item, S.map tokOf = R → parseM al S f = some r
theorem LexOK.alone {s : Int} {t : Tree} (h : LexOK s t) : lexM (text s t).toList .start = some (toks s t ++ [(11, [])]) := by
  have := h [] Stop.nil
  rw [List.append_nil] at this
  rw [this, lexM]; rfl
theorem reads_node {s : Int} {al : Bool} {t : Tree} (h1 : LexOK s t) (h2 : NodeOK s al t) (hn : count t ≤ 1000) (hl : (toPN t []).2.length ≤ 64) : Reads al (text s t) (some ((toPN t []).1, (toPN t []).2)) := by
  refine ⟨_, 10 * count t, by omega, h1.alone, fun S hS => ?_⟩
  obtain ⟨S', e1, e2⟩ := h2 [] (10 * count t) S _ (Nat.le_refl _) hS
  obtain ⟨x, S2, rfl, hx, -⟩ := items_head e1
  unfold parseM
  rw [e2]
  simp only
  rw [if_pos (by rw [hx]; rfl), if_pos hl]
theorem reads_good {s : Int} (al : Bool) {t : Tree} {c : Int} (hg : good t c = true) (hk : nodeKind t = true) (hn : count t ≤ 60) : Reads al (text s t) (some ((toPN t []).1, namesT t)) := by
  have := reads_node ((lex_text s t).1 c hg) (((read_text s al t).1 c hg).2.2 hk) (by omega) (by rw [toPN_names_nil t hg]; have := namesT_len t; omega)
  rwa [toPN_names_nil t hg] at this
theorem reads_cut {s : Int} (al : Bool) {t : Tree} {c : Int} (hg : good t c = true) (hk : nodeKind t = true) (hz : (text s t).size ≤ 20000) (n : Nat) (hn : n < (text s t).toList.length) : Reads al ⟨((text s t).toList.take n).toArray⟩ none := by
  have hL := ((lex_text s t).1 c hg).alone
  by_cases h0 : n = 0
  · subst h0
    refine ⟨[(11, [])], 1, by omega, by rw [toList_mk]; simp [lexM], fun S hS => ?_⟩
    obtain ⟨x, S2, rfl, hx, -⟩ := items_head hS
    unfold parseM
    rw [nodeM_cons, if_neg (by rw [hx]; simp)]
  · rw [← List.take_append_drop n (text s t).toList] at hL
    obtain ⟨R', h1, h2, -⟩ := lex_prefix _ _ _ _ hL
    have hlen := (lexM_len _).1 _ h1
    have hb := lex_bal _ _ _ h1
    have hc := cut_open s hg hk n (by omega) hn
    have hs := h2 ((safe_text s t).1 c hg _ (by decide))
    have ht := lex_term _ _ _ h1
    rw [List.length_take, size_toList] at hlen
    refine ⟨R', 3 * R'.length + 1, by omega, by rw [toList_mk]; exact h1, fun S hS => ?_⟩
    have hl : S.length = R'.length := by rw [← hS, List.length_map]
    unfold parseM
    rcases open_fails al S [] (3 * R'.length + 1) ⟨by rw [tk, hS]; exact ht, by rw [tk, hS]; exact hs⟩ (by rw [tk, hS, hb]; exact hc) (by omega) with e | ⟨m, x, S', nm', e, hx⟩
    · rw [e]
    · rw [e]
      simp only
      rw [if_neg (by simpa using hx)]
theorem toks_node (s : Int) {t : Tree} (hk : nodeKind t = true) : ∃ r, toks s t = (1, [40]) :: r := by
  obtain ⟨k, x, ks⟩ := t
  unfold nodeKind at hk
  simp only [kind_mk, Bool.and_eq_true, Bool.not_eq_true'] at hk
  obtain ⟨⟨⟨⟨e1, e2⟩, e3⟩, e4⟩, e5⟩ := hk
  rw [toks_mk, e1, e2, e3, e4, e5]
  exact ⟨_, rfl⟩
theorem reads_twice {s : Int} (al : Bool) {t : Tree} {c : Int} (hg : good t c = true) (hk : nodeKind t = true) (hn : count t ≤ 1000) : Reads al (text s t ++ ⟨#[32]⟩ ++ text s t) none := by
  have h1 := (lex_text s t).1 c hg
  refine ⟨toks s t ++ (toks s t ++ [(11, [])]), 10 * count t, by omega, ?_, fun S hS => ?_⟩
  · rw [toList_app, toList_app, List.append_assoc, show (⟨#[32]⟩ : ByteArray).toList = [32] from toList_mk _, List.singleton_append, h1 _ (Stop.cons _ (by decide))]
    show (lexM (32 :: (text s t).toList) .start).map _ = _
    rw [lex_space, h1.alone]; rfl
  · obtain ⟨S', e1, e2⟩ := ((read_text s al t).1 c hg).2.2 hk [] (10 * count t) S _ (Nat.le_refl _) hS
    obtain ⟨r, er⟩ := toks_node s hk
    rw [er] at e1
    obtain ⟨x, S2, rfl, hx, -⟩ := items_head e1
    unfold parseM
    rw [e2]
    simp only
    rw [if_neg (by rw [hx]; simp)]
/-- A node that populate refuses. -/
theorem reads_refused {s : Int} {al : Bool} {k x : ByteArray} {ks : List Tree} (h1 : (k.toList == [65, 110, 121]) = false) (h2 : (k.toList == [78, 105, 108]) = false) (h3 : (k.toList == [83, 116, 114, 105, 110, 103]) = false) (h4 : (k.toList == [76, 105, 115, 116]) = false) (h5 : (k.toList == [66, 105, 110, 100, 105, 110, 103]) = false) (hcap : capB k.toList = true)
    (hks : ∀ t ∈ ks, ∃ c, good t c = true) (hn : countAll ks ≤ 1000) (hp : ∀ l : List PN, l.length = ks.length → said k l = true ∧ populate al k l = none) : Reads al (text s (.mk k x ks)) none := by
  have hL := (node_lex (x := x) h1 h2 h3 h4 h5 hcap (fun t ht => by obtain ⟨c, hc⟩ := hks t ht; exact (lex_text s t).1 c hc)).alone
  refine ⟨_, 10 * countAll ks + 3, by omega, hL, fun S hS => ?_⟩
  obtain ⟨p1, p2⟩ := hp (toPNs ks []).1 (toPNs_len ks [])
  rw [toks_mk, h1, h2, h3, h4, h5] at hS
  simp only [Bool.false_eq_true, if_false, List.cons_append, List.append_assoc, List.nil_append] at hS
  obtain ⟨S', e1, e2⟩ := node_gen (s := s) (al := al) (k := k) (ks := ks) (fun t ht => by obtain ⟨c, hc⟩ := hks t ht; exact ⟨((read_text s al t).1 c hc).1, toks_head s t c hc⟩) [] p1 (10 * countAll ks + 3) S _ (Nat.le_refl _) hS
  unfold parseM
  rw [e2, p2]
  rfl
theorem reads_count {s : Int} (al : Bool) {k x : ByteArray} {ks : List Tree} (hk : named k = true) (hks : ∀ t ∈ ks, ∃ c, good t c = true) (hn : countAll ks ≤ 1000) (hl : ks.length ≠ (args k).length) : Reads al (text s (.mk k x ks)) none := by
  obtain ⟨y, hy, rfl⟩ := named_key hk
  obtain ⟨-, q1, q2, q3, q4, q5, q6, q7, q8, q9⟩ := named_facts y hy
  refine reads_refused q4 q5 q6 q8 q9 (named_cap hk) hks hn fun l hl' => ⟨?_, ?_⟩
  · unfold said; rw [q9, q3]; rfl
  · unfold populate
    rw [q2 hk]
    simp only [q1, q3, Bool.and_false, Bool.false_eq_true, if_false]
    rw [if_pos (by rw [hl']; simpa using hl)]
theorem caps_unknown : ∀ x ∈ structNodesT, (x.1.toList.all fun c => isUp c.toNat) = false := by decide +kernel
theorem reads_unknown {s : Int} (al : Bool) {k x : ByteArray} {p : Tree} {c : Int} (hk : (k.toList.all fun c => isUp c.toNat) = true) (hne : k.toList ≠ []) (hg : good p c = true) (hn : count p ≤ 100) : Reads al (text s (.mk k x [p])) none := by
  have hno : structNodes k = none := by
    rcases sw_cases k structNodesT none with ⟨h, -⟩ | ⟨y, hy, rfl, -⟩
    · exact h
    · rw [caps_unknown y hy] at hk; cases hk
  have hnot : ∀ l : List UInt8, (l.all fun c => isUp c.toNat) = false → (k.toList == l) = false := fun l hl => by
    cases e : (k.toList == l) with
    | false => rfl
    | true => rw [eq_of_beq e, hl] at hk; cases hk
  have hcap : capB k.toList = true := by
    cases hkl : k.toList with
    | nil => exact absurd hkl hne
    | cons c l =>
      rw [hkl] at hk
      simp only [List.all_cons, Bool.and_eq_true] at hk
      simp only [capB, Bool.and_eq_true]
      refine ⟨hk.1, List.all_eq_true.2 fun d hd => ?_⟩
      have := up_facts d
      rw [List.all_eq_true.1 hk.2 d hd] at this
      simp at this; exact this.2
  refine reads_refused (hnot _ (by decide)) (hnot _ (by decide)) (hnot _ (by decide)) (hnot _ (by decide)) (hnot _ (by decide)) hcap (by
    intro t ht
    rw [List.mem_singleton.1 ht]
    exact ⟨c, hg⟩) (by simp [countAll]; omega) fun l hl' => ⟨?_, ?_⟩
  · unfold said; rw [hnot _ (by decide), hnot [79, 114] (by decide)]; rfl
  · unfold populate; rw [hno]
/-! ### A call of a symbol -/
theorem str_lex (s : Int) {x : ByteArray} (hx : strB x.toList = true) : LexOK s (strT x) := by
  intro rest hs
  rw [text_mk, toks_mk]
  simp only [toList_mk]
  simp (decide := true) only [↓reduceIte]
  rw [toList_app, toList_app, toList_mk]
  simp only [List.cons_append, List.nil_append, List.append_assoc]
  rw [lex_str hx, ocons]
theorem str_head (s : Int) (x : ByteArray) : HeadT s (strT x) := by
  unfold HeadT
  rw [toks_mk]
  simp only [toList_mk]
  simp (decide := true) only [↓reduceIte]
  exact ⟨_, _, rfl, by simp⟩
theorem str_obj (s : Int) (al : Bool) (x : ByteArray) : ObjOK s al (strT x) := by
  intro nm f S R hf hS hF
  rw [toks_mk] at hS
  simp only [toList_mk] at hS
  simp (decide := true) only [↓reduceIte] at hS
  rw [toPN_mk]
  simp only [toList_mk]
  simp (decide := true) only [↓reduceIte]
  simp only [List.cons_append, List.nil_append] at hS
  obtain ⟨x0, S1, rfl, hx0, hv, h1⟩ := items_cons hS (by simp)
  refine ⟨S1, h1, ?_⟩
  obtain rfl : x0.val = x := toList_inj hv
  rw [objectM_cons, if_neg (by rw [hx0]; simp), if_neg (by rw [hx0]; simp), if_neg (by rw [hx0]; simp), if_neg (by rw [hx0]; simp), if_pos (by rw [hx0]; rfl)]
abbrev symT (x : ByteArray) : Tree := .mk ⟨#[83, 121, 109, 98, 111, 108]⟩ noT [strT x]
abbrev callT (x : ByteArray) (p : Tree) : Tree := .mk ⟨#[67, 97, 108, 108, 69, 120, 112, 114]⟩ noT [symT x, p]
/-- A node of any name that populate takes. -/
theorem node_ok {s : Int} {al : Bool} {k x : ByteArray} {ks : List Tree} (h1 : (k.toList == [65, 110, 121]) = false) (h2 : (k.toList == [78, 105, 108]) = false) (h3 : (k.toList == [83, 116, 114, 105, 110, 103]) = false) (h4 : (k.toList == [76, 105, 115, 116]) = false) (h5 : (k.toList == [66, 105, 110, 100, 105, 110, 103]) = false) (h6 : (k.toList == [79, 114]) = false)
    (hks : ∀ t ∈ ks, ObjOK s al t ∧ HeadT s t) (hp : ∀ l : List PN, l.length = ks.length → said k l = true ∧ populate al k l = some (.struct k l)) : NodeOK s al (.mk k x ks) ∧ HeadT s (.mk k x ks) ∧ ObjOK s al (.mk k x ks) := by
  have ht : toks s (.mk k x ks) = (1, [40]) :: (5, k.toList) :: (toksAll s ks ++ [(2, [41])]) := by
    rw [toks_mk, h1, h2, h3, h4, h5]
    simp only [Bool.false_eq_true, if_false]
  have hN : NodeOK s al (.mk k x ks) := by
    intro nm f S R hf hS
    rw [ht] at hS
    simp only [List.cons_append, List.append_assoc, List.nil_append] at hS
    obtain ⟨S', g1, g2⟩ := node_read hks hp nm f S R (by simp only [count] at hf; omega) hS
    refine ⟨S', g1, ?_⟩
    rw [g2, toPN_mk, h1, h2, h3, h4, h5, h6]
    rfl
  exact ⟨hN, ⟨_, _, ht, by simp⟩, (hN.head ht).obj⟩
theorem populate_Symbol (l : List PN) (hl : l.length = 1) : said ⟨#[83, 121, 109, 98, 111, 108]⟩ l = true ∧ populate true ⟨#[83, 121, 109, 98, 111, 108]⟩ l = some (.struct ⟨#[83, 121, 109, 98, 111, 108]⟩ l) := by
  match l, hl with
  | [a], _ =>
    constructor
    · unfold said
      simp only [toList_mk]
      rfl
    · unfold populate
      rw [show structNodes ⟨#[83, 121, 109, 98, 111, 108]⟩ = some 1 by decide +kernel]
      simp only [toList_mk, Bool.not_true, Bool.false_and]
      rfl
theorem reads_call {x : ByteArray} (hx : strB x.toList = true) {p : Tree} {c : Int} (hg : good p c = true) (hn : count p ≤ 50) :
    Reads true (text 0 (callT x p)) (some (.struct ⟨#[67, 97, 108, 108, 69, 120, 112, 114]⟩ [.struct ⟨#[83, 121, 109, 98, 111, 108]⟩ [.str x], (toPN p []).1], namesT p)) := by
  have hS := node_ok (s := 0) (al := true) (k := ⟨#[83, 121, 109, 98, 111, 108]⟩) (x := noT) (ks := [strT x]) (by simp only [toList_mk]; decide) (by simp only [toList_mk]; decide) (by simp only [toList_mk]; decide) (by simp only [toList_mk]; decide) (by simp only [toList_mk]; decide) (by simp only [toList_mk]; decide)
    (fun t ht => by rw [List.mem_singleton.1 ht]; exact ⟨str_obj 0 true x, str_head 0 x⟩) (fun l hl => populate_Symbol l hl)
  have hC := node_ok (s := 0) (al := true) (k := ⟨#[67, 97, 108, 108, 69, 120, 112, 114]⟩) (x := noT) (ks := [symT x, p]) (by simp only [toList_mk]; decide) (by simp only [toList_mk]; decide) (by simp only [toList_mk]; decide) (by simp only [toList_mk]; decide) (by simp only [toList_mk]; decide) (by simp only [toList_mk]; decide)
    (fun t ht => by
      simp at ht
      rcases ht with rfl | rfl
      · exact ⟨hS.2.2, hS.2.1⟩
      · exact ⟨((read_text 0 true t).1 c hg).1, toks_head 0 t c hg⟩) (fun l hl => populate_named (by decide +kernel) (by rw [hl]; show 2 = _; decide +kernel))
  have hL : LexOK 0 (callT x p) := node_lex (by simp only [toList_mk]; decide) (by simp only [toList_mk]; decide) (by simp only [toList_mk]; decide) (by simp only [toList_mk]; decide) (by simp only [toList_mk]; decide) (by simp only [toList_mk]; decide) (fun t ht => by
    simp at ht
    rcases ht with rfl | rfl
    · exact node_lex (by simp only [toList_mk]; decide) (by simp only [toList_mk]; decide) (by simp only [toList_mk]; decide) (by simp only [toList_mk]; decide) (by simp only [toList_mk]; decide) (by simp only [toList_mk]; decide) (fun t ht => by rw [List.mem_singleton.1 ht]; exact str_lex 0 hx)
    · exact (lex_text 0 t).1 c hg)
  have e : toPN (callT x p) [] = (.struct ⟨#[67, 97, 108, 108, 69, 120, 112, 114]⟩ [.struct ⟨#[83, 121, 109, 98, 111, 108]⟩ [.str x], (toPN p []).1], namesT p) := by
    rw [← toPN_names_nil p hg, toPN_mk]
    simp only [toList_mk]
    simp (decide := true) only [↓reduceIte]
    rw [toPNs_cons, toPNs_cons, toPNs, toPN_mk]
    simp only [toList_mk]
    simp (decide := true) only [↓reduceIte]
    rw [toPNs_cons, toPNs, toPN_mk]
    simp only [toList_mk]
    simp (decide := true) only [↓reduceIte]
  have := reads_node hL hC.1 (by simp [count, countAll]; omega) (by rw [e]; have := namesT_len p; simp only; omega)
  rwa [e] at this
end Go.Proofs.YtigalkobmfbdaaaGreatDoor
