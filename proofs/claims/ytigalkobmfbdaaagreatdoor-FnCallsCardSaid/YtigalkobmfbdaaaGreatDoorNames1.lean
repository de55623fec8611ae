/- spec.Names: the names of a pattern, each once, in the order in which they end. -/
import Derived.Test.YtigalkobmfbdaaaGreatDoorLaw6
set_option linter.unusedVariables false
set_option linter.unusedSimpArgs false
namespace Go.Proofs.YtigalkobmfbdaaaGreatDoor
open Go.RowKit Go.WideMaps Go.Sort
abbrev toB (l : List UInt8) : ByteArray := ⟨l.toArray⟩
theorem BsAt.strs {w : World} {a : Option Addr} {nm : Names} (h : BsAt w a nm) : StrsAt w a (nm.map toB) := fun j hj => by
  obtain ⟨b, o, e, hc⟩ := h j (by simpa using hj)
  exact ⟨b, o, e, cell_lt hc, by rw [hc, List.getElem_map]⟩
theorem any_names (nm : Names) (s : ByteArray) : ((nm.map toB).any fun x => x.toList == s.toList) = decide (s.toList ∈ nm) := by
  induction nm with
  | nil => rfl
  | cons n nm ih =>
    rw [List.map_cons, List.any_cons, ih, toList_mk, Bool.eq_iff_iff]
    simp only [Bool.or_eq_true, beq_iff_eq, decide_eq_true_eq, List.mem_cons]
    constructor
    · rintro (h | h)
      · exact .inl h.symm
      · exact .inr h
    · rintro (h | h)
      · exact .inl h.symm
      · exact .inr h
theorem among_names {w : World} {a : Option Addr} {nm : Names} (h : BsAt w a nm) (hl : nm.length ≤ 100000) (c : Nat) (s : ByteArray) : Calls Tryz.prog 58 #[.slice a nm.length c, .string s] w fun e w' => e = .returned (.bool (decide (s.toList ∈ nm))) ∧ w = w' := by
  have := among_calls (nm.map toB) a c s w h.strs (by rw [List.length_map]; omega)
  rw [List.length_map, any_names] at this
  exact this
theorem namesT_eq (t : Tree) : namesT t = if t.kind.toList == [66, 105, 110, 100, 105, 110, 103] then addName (namesTs t.kids []) t.text.toList else namesTs t.kids [] := by
  obtain ⟨k, x, ks⟩ := t; exact namesT_mk k x ks
theorem namesTs_take (ts : List Tree) (acc : Names) : ∀ (j : Nat) (hj : j < ts.length), namesTs (ts.take (j + 1)) acc = (namesT ts[j]).foldl addName (namesTs (ts.take j) acc) := by
  induction ts generalizing acc with
  | nil => intro j hj; exact absurd hj (by simp)
  | cons t ts ih =>
    intro j hj
    cases j with
    | zero => simp [namesTs_cons, namesTs]
    | succ j =>
      rw [List.take_succ_cons, List.take_succ_cons, namesTs_cons, namesTs_cons, List.getElem_cons_succ]
      exact ih _ j (by simpa using hj)
theorem fold_len : ∀ (l a : Names), (l.foldl addName a).length ≤ a.length + l.length := by
  intro l
  induction l with
  | nil => intro a; simp
  | cons s l ih => intro a; rw [List.foldl_cons]; have := ih (addName a s); have := addName_len a s; simp only [List.length_cons]; omega
theorem namesTs_len (ts : List Tree) : ∀ acc : Names, (namesTs ts acc).length ≤ acc.length + countAll ts := by
  induction ts with
  | nil => intro acc; rw [namesTs]; omega
  | cons t ts ih =>
    intro acc
    rw [namesTs_cons]
    have := ih ((namesT t).foldl addName acc)
    have := fold_len (namesT t) acc
    have := namesT_len t
    simp only [countAll]
    omega
theorem countAll_take : ∀ (ts : List Tree) (j : Nat), countAll (ts.take j) ≤ countAll ts
  | [], j => by simp
  | t :: ts, 0 => by simp [countAll]
  | t :: ts, j + 1 => by have := countAll_take ts j; simp only [List.take_succ_cons, countAll]; omega
theorem addName_eq {nm : Names} {s : List UInt8} (h : s ∉ nm) : addName nm s = nm ++ [s] := by rw [addName, if_neg h]
theorem cells_one_new (w : World) (p : Value) (t : TypeId) (j : Nat) (u : Value) (h : [p][j]? = some u) : (w.alloc (.cells #[p] t)).cell? ((⟨w.heap.size, 0, none⟩ : Addr).add j) = some u := by
  have hadd : (⟨w.heap.size, 0, none⟩ : Addr).add j = ⟨w.heap.size, 0 + j, none⟩ := by unfold Addr.add; split <;> simp_all
  rw [hadd, (Blk.new w #[p] t).cell, Nat.zero_add]
  simpa using h
/-- A row of texts, new. -/
def NamesRes (base : Nat) (nm : Names) (e : Ending) (w : World) : Prop := ∃ a c, e = .returned (.slice a nm.length c) ∧ BsAt w a nm ∧ ∀ b o, a = some ⟨b, o, none⟩ → base ≤ b
def NamesC (t : Tree) : Prop := ∀ (a : Option Addr) (c : Nat) (w : World), TreeAt w a c t → Calls Tryz.prog 30 #[treeV t a c] w fun e w' => NamesRes w.heap.size (namesT t) e w' ∧ Ext w w'
theorem fold_take (l nm : Names) (j : Nat) (hj : j < l.length) : (l.take (j + 1)).foldl addName nm = addName ((l.take j).foldl addName nm) l[j] := by
  rw [List.take_succ_eq_append_getElem hj, List.foldl_append]; rfl
theorem BsAt.grown {w w' : World} {a : Option Addr} {nm : Names} {row : Option Nat} (h : BsAt w a nm) (hg : w.grownBy w' row) (hne : ∀ b o, a = some ⟨b, o, none⟩ → row ≠ some b) : BsAt w' a nm := h.extM (ExtM.of_row hg) (fun b o e e2 => hne b o e e2)
set_option maxRecDepth 100000 in
set_option maxHeartbeats 4000000 in
theorem names_calls (t : Tree) : count t ≤ 1000 → NamesC t := by
  induction t using Tree.ind with | h t ih => ?_
  intro hn a c w hA
  obtain ⟨i0, hi, hz0, hz1, hz2⟩ := info_parts info9
  have hl : t.kids.length ≤ 1000 := by obtain ⟨k, x, ks⟩ := t; have := countAll_len ks; simp only [count] at hn; simp only [kids_mk]; omega
  have hcn : countAll t.kids ≤ 1000 := by obtain ⟨k, x, ks⟩ := t; simp only [count] at hn; simp only [kids_mk]; omega
  have hlen : ∀ j, (namesTs (t.kids.take j) []).length ≤ 1000 := fun j => by
    have h1 := namesTs_len (t.kids.take j) []
    have h2 := countAll_take t.kids j
    simp at h1; omega
  have HL := Lib.hid hlen
  have HF := Lib.hid (namesT_eq t)
  have HT := Lib.hid (And.intro hA hn)
  clear hA hn hlen
  go_enter Tryz.func30, Tryz.ntmps30
  go_wp2_with fail
  have hB0 := Blk.new w #[.string t.kind, .string t.text, .slice a t.kids.length c] 24
  have hO0 := World.ownsRow_lit (base := w.heap.size + 1) (e := 9) (size := 1) (w.alloc (.cells #[.string t.kind, .string t.text, .slice a t.kids.length c] 24)) #[] 0 (by simp) (by decide) rfl
  have hx0 : Ext (w.alloc (.cells #[.string t.kind, .string t.text, .slice a t.kids.length c] 24)) ((w.alloc (.cells #[.string t.kind, .string t.text, .slice a t.kids.length c] 24)).alloc (.cells #[] 9)) := Ext.alloc _ _
  have hw0 : Ext w (w.alloc (.cells #[.string t.kind, .string t.text, .slice a t.kids.length c] 24)) := Ext.alloc _ _
  have hsz : (w.alloc (.cells #[.string t.kind, .string t.text, .slice a t.kids.length c] 24)).heap.size = w.heap.size + 1 := by simp
  rw [hsz] at hO0
  have KB := Lib.hid (And.intro hB0 (And.intro hO0 (And.intro hx0 (And.intro hw0 hsz))))
  clear hB0 hO0 hx0 hw0 hsz
  generalize (w.alloc (.cells #[.string t.kind, .string t.text, .slice a t.kids.length c] 24)).alloc (.cells #[] 9) = w0 at *
  generalize w.alloc (.cells #[.string t.kind, .string t.text, .slice a t.kids.length c] 24) = wb at *
  go_loopw [3, 12] (fun v i wr => ∃ j : Nat, i = .int .i64 j ∧ j ≤ t.kids.length ∧ wr.ownsRow (w.heap.size + 1) 9 1 v (namesTs (t.kids.take j) []).length ((namesTs (t.kids.take j) []).map encStr) ∧ Ext wb wr) (fun _ i _ => t.kids.length - (intOf i).toNat)
  case atStart => exact ⟨0, rfl, Nat.zero_le _, by simpa [namesTs] using KB.out.2.1, KB.out.2.2.1⟩
  case round =>
    obtain ⟨j, rfl, hj, hO, hE⟩ := hrel
    have fb := (KB.out.1.ext hE).frozen
    have lb := (KB.out.1.ext hE).lt
    have cb := Blk3 (KB.out.1.ext hE)
    have KE := Lib.hid (And.intro hO hE)
    have hsw : w.heap.size + 1 ≤ wr.heap.size := by have := hE.size; rw [KB.out.2.2.2.2] at this; exact this
    clear hO hE
    by_cases hlt : j < t.kids.length
    · obtain ⟨b, o, a', c', rfl, hbl, p1, p2, p3, ht⟩ := HT.out.1.kid j hlt
      have hEw := KB.out.2.2.2.1.trans KE.out.2
      have q1 := hEw.keep p1
      have q2 := hEw.keep p2
      have q3 := hEw.keep p3
      have hcj := count_kid t j hlt
      have ihj := ih j hlt (by have := HT.out.2; omega)
      have HJ := Lib.hid (And.intro ihj (And.intro ht hEw))
      clear p1 p2 p3 ht hEw ihj hcj
      go_wp2_with fail
      refine (HJ.out.1 a' c' _ (HJ.out.2.1.mono (HJ.out.2.2.trans (Ext.alloc _ _)))).mono ?_
      rintro e w1 ⟨⟨ak, ck, rfl, hbk, hfk⟩, hE1⟩
      have hO1 := ownsRow_ext (KE.out.1.alloc (.cells #[.string t.kids[j].kind, .string t.kids[j].text, .slice a' t.kids[j].kids.length c'] 24)) hE1
      have hE2 := (KE.out.2.trans (Ext.alloc wr (.cells #[.string t.kids[j].kind, .string t.kids[j].text, .slice a' t.kids[j].kids.length c'] 24))).trans hE1
      have hnk : ∀ b o, ak = some ⟨b, o, none⟩ → u3.ownBlock ≠ some b := fun b o e e2 => by
        have h1 := hfk b o e
        have h2 := (KE.out.1.lt b e2).2
        simp at h1
        omega
      have hkl := namesT_len t.kids[j]
      have hkc := count_kid t j hlt
      have hk1000 : (namesT t.kids[j]).length ≤ 1000 := by have := HT.out.2; omega
      have HK := Lib.hid (And.intro hO1 (And.intro hE2 (And.intro hbk hnk)))
      have KNJ := Lib.hid (HL.out j)
      clear hO1 hE2 hbk hnk hE1 hfk fb lb cb q1 q2 q3 hkl hkc
      go_wp2_with fail
      go_loopw [3, 19] (fun v i wi => ∃ j2 : Nat, i = .int .i64 j2 ∧ j2 ≤ (namesT t.kids[j]).length ∧ wi.ownsRow (w.heap.size + 1) 9 1 v (((namesT t.kids[j]).take j2).foldl addName (namesTs (t.kids.take j) [])).length ((((namesT t.kids[j]).take j2).foldl addName (namesTs (t.kids.take j) [])).map encStr) ∧ Ext wb wi ∧ BsAt wi ak (namesT t.kids[j]) ∧ ∀ b o, ak = some ⟨b, o, none⟩ → v.ownBlock ≠ some b) (fun _ i _ => (namesT t.kids[j]).length - (intOf i).toNat)
      case atStart => exact ⟨0, rfl, Nat.zero_le _, HK.out.1, HK.out.2.1, HK.out.2.2.1, HK.out.2.2.2⟩
      case round =>
        obtain ⟨j2, rfl, hj2, hO2, hE2, hb2, hn2⟩ := hrel
        have hNl : (((namesT t.kids[j]).take j2).foldl addName (namesTs (t.kids.take j) [])).length ≤ 2000 := by
          have h1 := fold_len ((namesT t.kids[j]).take j2) (namesTs (t.kids.take j) [])
          have h2 := KNJ.out
          rw [List.length_take] at h1
          omega
        by_cases hlt2 : j2 < (namesT t.kids[j]).length
        · obtain ⟨b2, o2, rfl, hc2⟩ := hb2 j2 hlt2
          have hc3 : wr.cell? ⟨b2, o2 + j2, none⟩ = some (.string (toB (namesT t.kids[j])[j2])) := hc2
          obtain ⟨av, cv, rfl, hcv, hBv, hfv⟩ := bsAt_of_row hO2
          have KM := Lib.hid (And.intro hO2 (And.intro hE2 (And.intro hb2 (And.intro hn2 (And.intro hBv (fold_take (namesT t.kids[j]) (namesTs (t.kids.take j) []) j2 hlt2))))))
          clear hO2 hE2 hb2 hn2 hc2 hBv hfv hcv
          generalize ((namesT t.kids[j]).take j2).foldl addName (namesTs (t.kids.take j) []) = nm at *
          go_wp2_with fail
          refine (among_names KM.out.2.2.2.2.1 (by omega) cv _).mono ?_
          rintro e w2 ⟨rfl, rfl⟩
          rw [toList_mk]
          by_cases hin : (namesT t.kids[j])[j2] ∈ nm
          · have hd : decide ((namesT t.kids[j])[j2] ∈ nm) = true := decide_eq_true hin
            rw [hd]
            have HIN := Lib.hid (addName_in hin)
            clear hin hd
            go_wp2_with fail
            refine ⟨⟨j2 + 1, by go_num, by omega, ?_, KM.out.2.1, KM.out.2.2.1, KM.out.2.2.2.1⟩, by simp [intOf]; omega⟩
            rw [KM.out.2.2.2.2.2, HIN.out]
            exact KM.out.1
          · have hd : decide ((namesT t.kids[j])[j2] ∈ nm) = false := decide_eq_false hin
            rw [hd]
            have HIN := Lib.hid (addName_eq hin)
            clear hin hd
            have hsw2 : w.heap.size + 1 ≤ wr.heap.size := by have := KM.out.2.1.size; rw [KB.out.2.2.2.2] at this; exact this
            have hb2l := cell_lt hc3
            simp only at hb2l
            go_wp2_with (first
              | (at_builtin; refine wpList_append_own_at _ rfl _ _ 31 rfl (w.heap.size + 1) 9 i0 _ 1 16 underlying31 hi hz0 hz1 hz2 rfl (by decide) _ _ _ rfl (KM.out.1.alloc _) ⟨wr.heap.size, 0, none⟩ 1 1 [.string (toB (namesT t.kids[j])[j2])] rfl rfl (cells_one_new _ _ _) (by intro u hu; simp at hu; subst hu; rfl) (by unfold maxLen; omega) (by omega) (by simp; omega) ?_)
              | go_in)
            intro v' w3 hO3 hG hnil hloc
            have hE3 : Ext wb w3 := (KM.out.2.1.trans (Ext.alloc _ _)).grown hG (fun k hk => by rw [KB.out.2.2.2.2]; exact (KM.out.1.lt k hk).1)
            have hb3 := (KM.out.2.2.1.mono (Ext.alloc wr _)).grown hG KM.out.2.2.2.1
            have hn3 : ∀ b o, some (⟨b2, o2, none⟩ : Addr) = some ⟨b, o, none⟩ → v'.ownBlock ≠ some b := fun b o e e2 => by
              rcases hloc with h | h
              · exact KM.out.2.2.2.1 b o e (h ▸ e2)
              · rw [h] at e2
                cases e
                cases e2
                omega
            have KZ := Lib.hid (And.intro hO3 (And.intro hE3 (And.intro hb3 hn3)))
            clear hO3 hE3 hb3 hn3 hG hnil hloc
            go_wp2_with fail
            refine ⟨⟨j2 + 1, by go_num, by omega, ?_, KZ.out.2.1, KZ.out.2.2.1, KZ.out.2.2.2⟩, by simp [intOf]; omega⟩
            rw [KM.out.2.2.2.2.2, HIN.out, List.map_append, List.length_append]
            exact KZ.out.1
        · obtain rfl : j2 = (namesT t.kids[j]).length := by omega
          rw [List.take_of_length_le (Nat.le_refl _), ← namesTs_take t.kids [] j hlt] at hO2
          have KM := Lib.hid (And.intro hO2 hE2)
          clear hO2 hE2 hb2 hn2 hNl
          go_wp2_with fail
          exact ⟨⟨j + 1, by go_num, by omega, KM.out.1, KM.out.2⟩, by simp [intOf]; omega⟩
    · obtain rfl : j = t.kids.length := by omega
      obtain ⟨av, cv, rfl, hcv, hBv, hfv⟩ := bsAt_of_row KE.out.1
      have hl9 := HL.out t.kids.length
      have KS := Lib.hid KE.out.1
      have hEw := KB.out.2.2.2.1.trans KE.out.2
      have KW := Lib.hid hEw
      clear hEw
      rw [List.take_of_length_le (Nat.le_refl _)] at KS hBv hl9
      have HFF := HF.out
      have hlen0 : (namesTs (List.take t.kids.length t.kids) []).length = (namesTs t.kids []).length := by rw [List.take_of_length_le (Nat.le_refl _)]
      rw [hlen0]
      clear hlen0 KE
      cases hk : (t.kind.toList == [66, 105, 110, 100, 105, 110, 103])
      · rw [hk, if_neg (by decide)] at HFF
        have KF := Lib.hid HFF
        clear HFF
        go_wp2_with fail
        go_ret
        exact ⟨⟨av, cv, by rw [KF.out]; rfl, by rw [KF.out]; exact hBv, fun b o e => by have := (hfv b o e).1; omega⟩, KW.out⟩
      · rw [hk, if_pos rfl] at HFF
        have KF := Lib.hid HFF
        clear HFF
        go_wp2_with fail
        refine (among_names hBv (by omega) cv _).mono ?_
        rintro e w2 ⟨rfl, rfl⟩
        have KV := Lib.hid (And.intro hBv hfv)
        clear hBv hfv
        generalize namesTs t.kids [] = nm at *
        by_cases hin : t.text.toList ∈ nm
        · have hd : decide (t.text.toList ∈ nm) = true := decide_eq_true hin
          rw [hd]
          have HIN := Lib.hid (addName_in hin)
          clear hin hd
          go_wp2_with fail
          go_ret
          exact ⟨⟨av, cv, by rw [KF.out, HIN.out]; rfl, by rw [KF.out, HIN.out]; exact KV.out.1, fun b o e => by have := (KV.out.2 b o e).1; omega⟩, KW.out⟩
        · have hd : decide (t.text.toList ∈ nm) = false := decide_eq_false hin
          rw [hd]
          have HIN := Lib.hid (addName_eq hin)
          clear hin hd
          go_wp2_with (first
            | (at_builtin; refine wpList_append_own_at _ rfl _ _ 31 rfl (w.heap.size + 1) 9 i0 _ 1 16 underlying31 hi hz0 hz1 hz2 rfl (by decide) _ _ _ rfl (KS.out.alloc _) ⟨wr.heap.size, 0, none⟩ 1 1 [.string t.text] rfl rfl (cells_one_new _ _ _) (by intro u hu; simp at hu; subst hu; rfl) (by unfold maxLen; omega) (by omega) (by simp; omega) ?_)
            | go_in)
          intro v' w3 hO3 hG hnil hloc
          have hE3 : Ext w w3 := (KW.out.trans (Ext.alloc _ _)).grown hG (fun k hk => by have := (KS.out.lt k hk).1; omega)
          have e9 : (nm.map encStr ++ [.string t.text]) = (nm ++ [t.text.toList]).map encStr := by rw [List.map_append, List.map_singleton, encStr_toList]
          have l9 : nm.length + 1 = (nm ++ [t.text.toList]).length := by simp
          rw [e9, l9] at hO3
          obtain ⟨a4, c4, rfl, hc4, hB4, hf4⟩ := bsAt_of_row hO3
          have KZ := Lib.hid (And.intro hE3 (And.intro hB4 hf4))
          clear hO3 hE3 hG hnil hloc e9 l9 hB4 hf4
          go_wp2_with fail
          go_ret
          exact ⟨⟨a4, c4, by rw [KF.out, HIN.out]; rfl, by rw [KF.out, HIN.out]; exact KZ.out.2.1, fun b o e => by have := (KZ.out.2.2 b o e).1; omega⟩, KZ.out.1⟩
end Go.Proofs.YtigalkobmfbdaaaGreatDoor
