/- The parser's map of names. -/
import Derived.Test.YtigalkobmfbdaaaGreatDoorPar
import Derived.Carry
set_option linter.unusedVariables false
set_option linter.unusedSimpArgs false
namespace Go.Proofs.YtigalkobmfbdaaaGreatDoor
open Go.RowKit Go.WideMaps
theorem law9 : Maps.Keyed Tryz.prog 9 := Maps.string_keyed underlying9
theorem underlying118 : Tryz.prog.underlying 118 = some (.map 9 3) := by kernel_rfl
theorem underlying3 : Tryz.prog.underlying 3 = some (.int .i64) := by kernel_rfl
theorem zero3 (w : World) : (zeroValue 3).run Tryz.prog w = .ok (.int .i64 0) w := by kernel_rfl
abbrev keyL (s : List UInt8) : Lit := .string s
theorem keyL_ne {s t : List UInt8} (h : s ≠ t) : keyL s ≠ keyL t := fun e => h (Lit.string.inj e)
/-- The names that have been met, each at its place. -/
def NamesD (D : DataW Unit) (names : List (List UInt8)) : Prop :=
  Maps.size D = names.length ∧ (∀ s, Maps.has D (keyL s) = decide (s ∈ names)) ∧ (∀ s, s ∈ names → D.atKey (keyL s) (.lit (.int .i64 0)) = .lit (.int .i64 (names.idxOf s)))
theorem NamesD.nil : NamesD (.map []) [] := ⟨rfl, fun s => rfl, fun s h => absurd h (by simp)⟩
theorem NamesD.snoc {D : DataW Unit} {names : List (List UInt8)} (h : NamesD D names) (hT : Maps.Tidy D) {s : List UInt8} (hs : s ∉ names) : NamesD (D.put (keyL s) (.lit (.int .i64 names.length))) (names ++ [s]) := by
  obtain ⟨h1, h2, h3⟩ := h
  have hh : Maps.has D (keyL s) = false := by rw [h2]; simpa using hs
  refine ⟨?_, fun t => ?_, fun t ht => ?_⟩
  · rw [Maps.size_put hT, hh]; simp [h1]
  · by_cases e : t = s
    · subst e; rw [Maps.has_put_same hT.isMap (k := keyL t) trivial]; simp
    · rw [Maps.has_put_other (keyL_ne e), h2]; simp [e]
  · by_cases e : t = s
    · subst e
      rw [Maps.atKey_put_same hT.isMap (k := keyL t) trivial, List.idxOf_append, if_neg hs]; simp
    · have ht' : t ∈ names := by simpa [e] using ht
      rw [Maps.atKey_put_other (keyL_ne e), h3 t ht', List.idxOf_append, if_pos ht']
theorem ExtM.of_grown {mb : Nat} {w w' : World} (h : w.grownBy w' (some mb)) : ExtM (· = mb) w w' :=
  ⟨h.os, h.tape, h.output, h.size, fun k hk hm => h.block k hk (fun e => hm (Option.some.inj e))⟩
def addName (names : List (List UInt8)) (s : List UInt8) : List (List UInt8) := if s ∈ names then names else names ++ [s]
def MapIs (w : World) : Option Nat → List (List UInt8) → Prop
  | none, names => names = []
  | some mb, names => ∃ D : DataW Unit, w.ownsMap Tryz.prog 9 (plainElem Tryz.prog 3) mb names.length D ∧ NamesD D names
theorem ownsMap_extM {M : Nat → Prop} {w w' : World} {mb n : Nat} {D : DataW Unit} (h : w.ownsMap Tryz.prog 9 (plainElem Tryz.prog 3) mb n D) (hE : ExtM M w w') (hM : ¬ M mb) : w'.ownsMap Tryz.prog 9 (plainElem Tryz.prog 3) mb n D := by
  have hlt := h.lt
  obtain ⟨es, clock, hb, r⟩ := h
  exact ⟨es, clock, (hE.block mb hlt hM).trans hb, r⟩
theorem MapIs.extM {M : Nat → Prop} {w w' : World} {mp : Option Nat} {names : List (List UInt8)} (h : MapIs w mp names) (hE : ExtM M w w') (hM : ∀ mb, mp = some mb → ¬ M mb) : MapIs w' mp names := by
  cases mp with
  | none => exact h
  | some mb => obtain ⟨D, h1, h2⟩ := h; exact ⟨D, ownsMap_extM h1 hE (hM mb rfl), h2⟩
theorem ownsMap_not_cells {w : World} {mb n b : Nat} {D : DataW Unit} (h : w.ownsMap Tryz.prog 9 (plainElem Tryz.prog 3) mb n D) {o : Nat} {v : Value} (hc : w.cell? ⟨b, o, none⟩ = some v) : mb ≠ b := by
  rintro rfl
  obtain ⟨es, clock, hb, r⟩ := h
  simp [World.cell?, hb] at hc
theorem PAt.cell {w : World} {pb hi : Nat} {al fl : Bool} {cur : Item} {S : List Item} {mp : Option Nat} (h : PAt w pb hi al fl cur S mp) : w.cell? ⟨pb, 0, none⟩ = some (.bool al) ∧ w.cell? ⟨pb, 6, none⟩ = some (.map mp) ∧ (∀ o, w.frozen? ⟨pb, o, none⟩ = false) := by
  obtain ⟨its, ia, ic, hB, -⟩ := h
  exact ⟨by rw [hB.cell]; rfl, by rw [hB.cell]; rfl, hB.frozen⟩
theorem PAt.setMap {w : World} {pb hi : Nat} {al fl : Bool} {cur : Item} {S : List Item} {mp : Option Nat} (h : PAt w pb hi al fl cur S mp) (mp' : Option Nat) : PAt (w.setCell ⟨pb, 6, none⟩ (.map mp')) pb hi al fl cur S mp' := by
  obtain ⟨its, ia, ic, hB, h1, h2, h3, h4, rfl⟩ := h
  have hX := (ExtM.refl (· = pb) w).set1 6 (.map mp')
  exact ⟨its, ia, ic, hB.set 6 _, h1, h2, h3.extM hX (fun _ h => h), Nat.le_trans h4 hX.size, rfl⟩
/-- What the parser may write: its struct, and its map. -/
abbrev PM (pb : Nat) (mp : Option Nat) : Nat → Prop := fun k => k = pb ∨ some k = mp
theorem map_some (mb : Nat) (w : World) : (binOp BinOp.eql 118 (.map (some mb)) (.map none)).run Tryz.prog w = .ok (.bool false) w := by kernel_rfl
theorem map_none (w : World) : (binOp BinOp.eql 118 (.map none) (.map none)).run Tryz.prog w = .ok (.bool true) w := by kernel_rfl
set_option maxRecDepth 100000 in
set_option maxHeartbeats 1000000 in
theorem index_there {w : World} {pb hi : Nat} {al fl : Bool} {cur : Item} {S : List Item} {mb : Nat} {names : List (List UInt8)} (h : PAt w pb hi al fl cur S (some mb)) (hm : MapIs w (some mb) names) (s : ByteArray) (hs : s.size ≤ 100000) (hin : s.toList ∈ names) :
    Calls Tryz.prog 115 #[.pointer (some ⟨pb, 0, none⟩), .string s] w fun e w' => e = .returned (.int .i64 (names.idxOf s.toList)) ∧ w' = w := by
  obtain ⟨p0, p6, hf⟩ := h.cell
  obtain ⟨hlp, hhi⟩ := h.lt
  obtain ⟨D, hO, hN⟩ := hm
  have hkey := keyOf_string_mk (P := Tryz.prog) underlying9 (s := s) (by unfold maxLen; omega)
  rw [← ByteArray.toList_eq] at hkey
  have hh := hN.2.1 s.toList
  rw [decide_eq_true hin] at hh
  have HC := Lib.hid (hN.2.2 _ hin)
  have H1 := Lib.hid hh
  have HO := Lib.hid hO
  clear h hN hin hO hh
  have hms := map_some mb
  go_enter Tryz.func115, Tryz.ntmps115
  go_wp2_with (first
    | (at_lookup; refine wpList_lookup_own_ok_int _ rfl _ _ 118 rfl 9 3 .i64 law9 underlying118 underlying3 (zero3 _) mb _ D rfl HO.out _ _ rfl hkey ?_; intro c hat hwc; have hc := hat.symm.trans HC.out; clear hat hwc; rw [H1.out, show c = (names.idxOf s.toList : Int) by simpa using hc]; clear hc)
    | go_in)
  go_ret
  exact ⟨rfl, rfl⟩
set_option maxRecDepth 100000 in
set_option maxHeartbeats 1000000 in
theorem index_new {w : World} {pb hi : Nat} {al fl : Bool} {cur : Item} {S : List Item} {mb : Nat} {names : List (List UInt8)} (h : PAt w pb hi al fl cur S (some mb)) (hm : MapIs w (some mb) names) (s : ByteArray) (hs : s.size ≤ 100000) (hin : s.toList ∉ names) (hn : names.length ≤ 1000000) :
    Calls Tryz.prog 115 #[.pointer (some ⟨pb, 0, none⟩), .string s] w fun e w' => e = .returned (.int .i64 names.length) ∧ w.grownBy w' (some mb) ∧ MapIs w' (some mb) (names ++ [s.toList]) := by
  obtain ⟨p0, p6, hf⟩ := h.cell
  obtain ⟨hlp, hhi⟩ := h.lt
  obtain ⟨D, hO, hN⟩ := hm
  have hkey := keyOf_string_mk (P := Tryz.prog) underlying9 (s := s) (by unfold maxLen; omega)
  rw [← ByteArray.toList_eq] at hkey
  have hne := ownsMap_not_cells hO p6
  have hh := hN.2.1 s.toList
  rw [decide_eq_false hin] at hh
  have H1 := Lib.hid hh
  have HN := Lib.hid hN
  have HI := Lib.hid hin
  have HO := Lib.hid hO
  have HT := Lib.hid (hO.tidy law9)
  clear h hN hin hO hh
  have hms := map_some mb
  go_enter Tryz.func115, Tryz.ntmps115
  go_wp2_with (first
    | (at_lookup; refine wpList_lookup_own_ok_int _ rfl _ _ 118 rfl 9 3 .i64 law9 underlying118 underlying3 (zero3 _) mb _ D rfl HO.out _ _ rfl hkey ?_; intro c hat hwc; clear hat hwc; rw [H1.out])
    | (at_len; refine wpList_len_own _ rfl _ 118 rfl 9 3 underlying118 _ mb _ D rfl HO.out ?_; rw [HN.out.1])
    | (at_mapUpdate; refine wpList_mapUpdate_own _ rfl _ _ _ 118 rfl 9 3 law9 underlying118 _ mb _ _ rfl HO.out (by unfold maxLen; omega) _ _ _ rfl rfl hkey _ [] (plainElem_int underlying3 (WalkArith.wf_i64 ⟨by omega, by omega⟩)) ?_; intro w1 hown1 hgrow1)
    | go_in)
  go_ret
  refine ⟨rfl, hgrow1, _, by simpa using hown1, HN.out.snoc HT.out HI.out⟩
set_option maxRecDepth 100000 in
set_option maxHeartbeats 1000000 in
theorem index_first {w : World} {pb hi : Nat} {al fl : Bool} {cur : Item} {S : List Item} (h : PAt w pb hi al fl cur S none) (s : ByteArray) (hs : s.size ≤ 100000) :
    Calls Tryz.prog 115 #[.pointer (some ⟨pb, 0, none⟩), .string s] w fun e w' => e = .returned (.int .i64 0) ∧ ∃ mb, w.heap.size ≤ mb ∧ ExtM (· = pb) w w' ∧ PAt w' pb hi al fl cur S (some mb) ∧ MapIs w' (some mb) [s.toList] := by
  obtain ⟨p0, p6, hf⟩ := h.cell
  obtain ⟨hlp, hhi⟩ := h.lt
  have hkey := keyOf_string_mk (P := Tryz.prog) underlying9 (s := s) (by unfold maxLen; omega)
  rw [← ByteArray.toList_eq] at hkey
  have hO : ((w.setCell ⟨pb, 6, none⟩ (.map (some w.heap.size))).alloc (.map #[] 0)).ownsMap Tryz.prog 9 (plainElem (H := Unit) Tryz.prog 3) w.heap.size 0 (.map []) := by
    have := World.ownsMap_made (H := Unit) (w.setCell ⟨pb, 6, none⟩ (.map (some w.heap.size))) Tryz.prog 9 (plainElem Tryz.prog 3)
    simpa using this
  have hX := ((ExtM.refl (· = pb) w).set1 6 (.map (some w.heap.size))).ext (Ext.alloc _ (.map #[] 0))
  have hP := (h.setMap (some w.heap.size)).ext (Ext.alloc _ (.map #[] 0))
  have HX := Lib.hid hX
  have HP := Lib.hid hP
  have HO := Lib.hid hO
  clear h hO hX hP
  have hms := map_none w
  have hmm := @run_makeMap Tryz.prog
  go_enter Tryz.func115, Tryz.ntmps115
  go_wp2_with (first
    | (at_lookup; refine wpList_lookup_own_ok_int _ rfl _ _ 118 rfl 9 3 .i64 law9 underlying118 underlying3 (zero3 _) w.heap.size _ _ rfl HO.out _ _ rfl hkey ?_; intro c hat hwc; clear hat hwc; rw [show Maps.has (DataW.map [] : DataW Unit) (.string s.toList) = false from rfl])
    | (at_len; refine wpList_len_own _ rfl _ 118 rfl 9 3 underlying118 _ w.heap.size _ _ rfl HO.out ?_; rw [show Maps.size (DataW.map [] : DataW Unit) = 0 from rfl])
    | (at_mapUpdate; refine wpList_mapUpdate_own _ rfl _ _ _ 118 rfl 9 3 law9 underlying118 _ w.heap.size _ _ rfl HO.out (by unfold maxLen; omega) _ _ _ rfl rfl hkey _ [] (plainElem_int underlying3 (WalkArith.wf_i64 ⟨by omega, by omega⟩)) ?_; intro w1 hown1 hgrow1)
    | go_in)
  go_ret
  have hXm : ExtM (· = w.heap.size) _ w1 := ExtM.of_grown hgrow1
  refine ⟨rfl, w.heap.size, Nat.le_refl _, HX.out.trans hXm (fun i hi e => by omega), HP.out.extM hXm (by omega) (fun b hb e => by omega), _, hown1, ?_⟩
  exact NamesD.nil.snoc ⟨[], rfl, List.Pairwise.nil⟩ (by simp)
/-- The parser's state, its map and the names in it with it. -/
def PSt (w : World) (pb hi : Nat) (al fl : Bool) (cur : Item) (S : List Item) (mp : Option Nat) (names : List (List UInt8)) : Prop :=
  PAt w pb hi al fl cur S mp ∧ MapIs w mp names ∧ ∀ mb, mp = some mb → hi ≤ mb ∧ mb ≠ pb
/-- What a function of the parser may turn: its struct, its map; a map may come to be. -/
def Step (pb : Nat) (mp mp' : Option Nat) (a b : World) : Prop := ExtM (PM pb mp) a b ∧ (mp' = mp ∨ (mp = none ∧ ∃ mb, mp' = some mb ∧ a.heap.size ≤ mb))
theorem Step.trans {pb : Nat} {mp mp' mp'' : Option Nat} {a b c : World} (h : Step pb mp mp' a b) (k : Step pb mp' mp'' b c) : Step pb mp mp'' a c := by
  obtain ⟨h1, h2⟩ := h
  obtain ⟨k1, k2⟩ := k
  refine ⟨h1.trans k1 ?_, ?_⟩
  · rintro i hi (e | e)
    · exact .inl e
    · rcases h2 with rfl | ⟨rfl, mb, rfl, hm⟩
      · exact .inr e
      · cases e; omega
  · rcases h2 with rfl | ⟨rfl, mb, rfl, hm⟩
    · rcases k2 with rfl | ⟨rfl, mb, rfl, hm⟩
      · exact .inl rfl
      · exact .inr ⟨rfl, mb, rfl, Nat.le_trans h1.size hm⟩
    · rcases k2 with rfl | ⟨e, -⟩
      · exact .inr ⟨rfl, mb, rfl, hm⟩
      · cases e
theorem Step.of_pb {pb : Nat} {mp : Option Nat} {a b : World} (h : ExtM (· = pb) a b) : Step pb mp mp a b := ⟨h.mono (fun _ _ e => .inl e), .inl rfl⟩
theorem Step.of_ext {pb : Nat} {mp : Option Nat} {a b : World} (h : Ext a b) : Step pb mp mp a b := ⟨h.toM _, .inl rfl⟩
theorem PSt.ext {w w' : World} {pb hi : Nat} {al fl : Bool} {cur : Item} {S : List Item} {mp : Option Nat} {names : List (List UInt8)} (h : PSt w pb hi al fl cur S mp names) (hE : Ext w w') : PSt w' pb hi al fl cur S mp names :=
  ⟨h.1.ext hE, h.2.1.extM (hE.toM fun _ => False) (fun _ _ h => h), h.2.2⟩
/-- A step that writes the parser's struct alone. -/
theorem PSt.step {w w' : World} {pb hi : Nat} {al fl fl' : Bool} {cur cur' : Item} {S S' : List Item} {mp : Option Nat} {names : List (List UInt8)} (h : PSt w pb hi al fl cur S mp names) (hX : ExtM (· = pb) w w') (hP : PAt w' pb hi al fl' cur' S' mp) : PSt w' pb hi al fl' cur' S' mp names :=
  ⟨hP, h.2.1.extM hX (fun mb e => (h.2.2 mb e).2), h.2.2⟩
theorem bindIndex_calls {w : World} {pb hi : Nat} {al fl : Bool} {cur : Item} {S : List Item} {mp : Option Nat} {names : List (List UInt8)} (h : PSt w pb hi al fl cur S mp names) (s : ByteArray) (hs : s.size ≤ 100000) (hn : names.length ≤ 1000000) :
    Calls Tryz.prog 115 #[.pointer (some ⟨pb, 0, none⟩), .string s] w fun e w' => e = .returned (.int .i64 (names.idxOf s.toList)) ∧ ∃ mp', Step pb mp mp' w w' ∧ PSt w' pb hi al fl cur S mp' (addName names s.toList) := by
  obtain ⟨hP, hM, hB⟩ := h
  obtain ⟨hlp, hhi⟩ := hP.lt
  cases mp with
  | none =>
    obtain rfl : names = [] := hM
    refine (index_first hP s hs).mono ?_
    rintro e w' ⟨rfl, mb, hmb, hX, hP', hM'⟩
    exact ⟨rfl, some mb, ⟨hX.mono (fun _ _ e => .inl e), .inr ⟨rfl, mb, rfl, hmb⟩⟩, hP', hM', fun mb' e => by cases e; omega⟩
  | some mb =>
    have hb := hB mb rfl
    by_cases hin : s.toList ∈ names
    · refine (index_there hP hM s hs hin).mono ?_
      rintro e w' ⟨rfl, rfl⟩
      refine ⟨rfl, some mb, Step.of_ext (Ext.refl _), hP, ?_, hB⟩
      rw [addName, if_pos hin]; exact hM
    · refine (index_new hP hM s hs hin hn).mono ?_
      rintro e w' ⟨rfl, hG, hM'⟩
      have hXm : ExtM (· = mb) w w' := ExtM.of_grown hG
      refine ⟨by rw [List.idxOf_eq_length hin], some mb, ⟨hXm.mono (fun _ _ e => .inr (by rw [e])), .inl rfl⟩, hP.extM hXm (fun e => hb.2 e.symm) (fun b hbh e => by omega), ?_, hB⟩
      rw [addName, if_neg hin]; exact hM'
end Go.Proofs.YtigalkobmfbdaaaGreatDoor
