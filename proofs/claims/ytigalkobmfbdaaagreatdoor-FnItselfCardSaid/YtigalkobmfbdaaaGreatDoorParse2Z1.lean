/- Parser.Parse: up to the root. -/
import Derived.Test.YtigalkobmfbdaaaGreatDoorMix1b
import Derived.Test.YtigalkobmfbdaaaGreatDoorMix1c
set_option linter.unusedVariables false
set_option linter.unusedSimpArgs false
namespace Go.Proofs.YtigalkobmfbdaaaGreatDoor
open Go.RowKit
theorem itemsAt_of_owns2 {w : World} {base : Nat} {v : Value} {its : List Item} (h : w.ownsRow base 115 3 v its.length (itemsV its)) : ∃ a c, v = .slice a its.length c ∧ its.length ≤ c ∧ ItemsAt w a its ∧ ∀ b o, a = some ⟨b, o, none⟩ → base ≤ b := by
  obtain ⟨a, c, rfl, hc, hA⟩ := itemsAt_of_owns h
  refine ⟨a, c, rfl, hc, hA, ?_⟩
  rintro b o rfl
  exact (h.lt b rfl).1
set_option maxRecDepth 100000 in
set_option maxHeartbeats 1000000 in
/-- lex: the items of a text, in new blocks. -/
theorem lex_calls2 (inp : ByteArray) (R : List Tok) (w : World) (hs : inp.size ≤ 90000) (hT : TabAt w) (hM : lexM inp.toList .start = some R) :
    Calls Tryz.prog 86 #[.string inp] w fun e w' => ∃ a c its, e = .returned (.slice a its.length c) ∧ its.length ≤ c ∧ ItemsAt w' a its ∧ its.map tokOf = R ∧ Fit its ∧ its.length ≤ 90001 ∧ Ext w w' ∧ ∀ b o, a = some ⟨b, o, none⟩ → w.heap.size ≤ b := by
  have hR : R.length ≤ 90001 := by have := (lexM_len _).1 _ hM; rw [size_toList] at this; omega
  go_enter Tryz.func86, Tryz.ntmps86
  go_wp2_with fail
  refine (run_calls (w0 := w) (R := R) ?_ hs hT hM).mono ?_
  · refine ⟨(Ext.alloc _ _).trans (Ext.alloc _ _), ?_, .slice none 0 0, (Blk.new w _ _).ext (Ext.alloc _ _), World.ownsRow_nil _ _ _ _⟩
    have := Blk.new (w.alloc (.cells #[.slice none 0 0] 117)) #[.string inp, .int .i64 0, .int .i64 0, .int .i64 0, .func (.func 108) #[] #[.pointer (some ⟨w.heap.size, 0, none⟩)]] 179
    simpa using this
  rintro e w' ⟨rfl, st, ps, wd, its, ⟨hE, hB, v, hV, hO⟩, hF, hI⟩
  have hl : its.length ≤ 90001 := by rw [← hI] at hR; simpa using hR
  obtain ⟨a, c, rfl, hc, hA, hnew⟩ := itemsAt_of_owns2 hO
  have c0 : w'.cell? ⟨w.heap.size, 0, none⟩ = some (.slice a its.length c) := by rw [hV.cell]; rfl
  have HA := Lib.hid hA
  have HI := Lib.hid hI
  have HN := Lib.hid hnew
  clear hB hV hO hA hI hnew
  go_wp2_with fail
  go_ret
  exact ⟨a, c, its, rfl, hc, HA.out, HI.out, hF, hl, hE, fun b o e => by have := HN.out b o e; omega⟩
/-- The parser's struct, before it has parsed. -/
abbrev pNew (al : Bool) : Array Value := #[.bool al, .int .i64 0, .string ⟨#[]⟩, .int .i64 0, .pointer none, .slice none 0 0, .map none]
abbrev patZ : Value := .agg #[.nilIface, .slice none 0 0, .nilIface, .slice none 0 0, .slice none 0 0]
theorem row81 : (Tryz.prog.underlying 81).map (fun d => match d with | .struct _ | .array _ _ => true | _ => false) = some true := by kernel_rfl
theorem size81 : (Tryz.prog.info? 81).map (·.size) = some 5 := by kernel_rfl
/-- The items laid: the parser's state. -/
theorem PSt.start {w : World} {pb : Nat} {al : Bool} {a : Option Addr} {c : Nat} {its : List Item} (hB : PBlk w pb al false ⟨0, ⟨#[]⟩, 0⟩ a its.length c none) (hc : its.length ≤ c) (hA : ItemsAt w a its) (hF : Fit its) (hl : its.length ≤ 100000) (hn : ∀ b o, a = some ⟨b, o, none⟩ → its ≠ [] → b ≠ pb ∧ b < w.heap.size) : PSt w pb w.heap.size al false ⟨0, ⟨#[]⟩, 0⟩ its none [] := by
  refine ⟨⟨its, a, c, hB, hc, ⟨hl, ?_⟩, ⟨hA, hn⟩, Nat.le_refl _, by simp⟩, rfl, fun mb e => by cases e⟩
  intro i hi
  rcases List.mem_cons.1 hi with rfl | hi
  · show 0 ≤ 100000; omega
  · exact hF i hi
theorem TabAt.extM {M : Nat → Prop} {w w' : World} (h : TabAt w) (hE : ExtM M w w') (hM : ¬ M 1) : TabAt w' := fun i hi => hE.keep hM (h i hi)
theorem Blk7 {w : World} {b : Nat} {c0 c1 c2 c3 c4 c5 c6 : Value} {t : TypeId} (h : Blk w b #[c0, c1, c2, c3, c4, c5, c6] t) : w.cell? ⟨b, 0, none⟩ = some c0 ∧ w.cell? ⟨b, 1, none⟩ = some c1 ∧ w.cell? ⟨b, 2, none⟩ = some c2 ∧ w.cell? ⟨b, 3, none⟩ = some c3 ∧ w.cell? ⟨b, 4, none⟩ = some c4 ∧ w.cell? ⟨b, 5, none⟩ = some c5 ∧ w.cell? ⟨b, 6, none⟩ = some c6 :=
  ⟨by rw [h.cell]; rfl, by rw [h.cell]; rfl, by rw [h.cell]; rfl, by rw [h.cell]; rfl, by rw [h.cell]; rfl, by rw [h.cell]; rfl, by rw [h.cell]; rfl⟩
/-- How Parse begins: the world in which it lexes. -/
abbrev wLex (w : World) (pb : Nat) : World := ((((w.setCell ⟨pb, 1, none⟩ (.int .i64 0)).setCell ⟨pb, 2, none⟩ (.string ⟨#[]⟩)).setCell ⟨pb, 3, none⟩ (.int .i64 0)).setCell ⟨pb, 4, none⟩ (.pointer none)).alloc (.cells #[.nilIface, .slice none 0 0, .nilIface, .slice none 0 0, .slice none 0 0] 81)
theorem wLex_facts {al : Bool} {w : World} {pb : Nat} (hB : Blk w pb (pNew al) 120) (hpb : 1 < pb) (hT : TabAt w) : Blk (wLex w pb) pb (pNew al) 120 ∧ TabAt (wLex w pb) ∧ ExtM (· = pb) w (wLex w pb) ∧ Blk (wLex w pb) w.heap.size #[.nilIface, .slice none 0 0, .nilIface, .slice none 0 0, .slice none 0 0] 81 ∧ w.heap.size < (wLex w pb).heap.size := by
  have hX : ExtM (· = pb) w (wLex w pb) := ((((ExtM.refl _ w).set1 1 _).set1 2 _).set1 3 _).set1 4 _ |>.ext (Ext.alloc _ _)
  refine ⟨((((hB.set 1 _).set 2 _).set 3 _).set 4 _).ext (Ext.alloc _ _), hT.extM hX (by omega), hX, ?_, by simp⟩
  have := Blk.new ((((w.setCell ⟨pb, 1, none⟩ (.int .i64 0)).setCell ⟨pb, 2, none⟩ (.string ⟨#[]⟩)).setCell ⟨pb, 3, none⟩ (.int .i64 0)).setCell ⟨pb, 4, none⟩ (.pointer none)) #[.nilIface, .slice none 0 0, .nilIface, .slice none 0 0, .slice none 0 0] 81
  simpa using this
theorem Step.toX {pb : Nat} {mp mp' : Option Nat} {a b c : World} (h : ExtM (· = pb) a b) (k : Step pb mp mp' b c) (hm : ∀ mb, mp = some mb → a.heap.size ≤ mb) : ExtM (· = pb) a c :=
  h.trans k.1 (by
    rintro i hi (e | e)
    · exact e
    · have := hm i e.symm; omega)
theorem parseM_none {al : Bool} {S : List Item} {f : Nat} (h : parseM al S f = some none) : nodeM al f S [] = some none ∨ ∃ n x S' nm, nodeM al f S [] = some (some (n, x :: S', nm)) ∧ ((x.typ == 11) = false ∨ ((x.typ == 11) = true ∧ 64 < nm.length)) := by
  unfold parseM at h
  split at h
  · cases h
  · rename_i e; exact .inl e
  · rename_i n S' nm e
    split at h
    · cases h
    · rename_i x S2
      refine .inr ⟨n, x, S2, nm, e, ?_⟩
      split at h
      · rename_i hx
        split at h
        · cases h
        · rename_i hl; exact .inr ⟨hx, by omega⟩
      · rename_i hx; exact .inl (by simpa using hx)
theorem parseM_some {al : Bool} {S : List Item} {f : Nat} {n : PN} {nm : Names} (h : parseM al S f = some (some (n, nm))) : ∃ x S', nodeM al f S [] = some (some (n, x :: S', nm)) ∧ (x.typ == 11) = true ∧ nm.length ≤ 64 := by
  unfold parseM at h
  split at h
  · cases h
  · cases h
  · rename_i n' S' nm' e
    split at h
    · cases h
    · rename_i x S2
      split at h
      · rename_i hx
        split at h
        · rename_i hl
          simp at h
          obtain ⟨rfl, rfl⟩ := h
          exact ⟨x, S2, e, hx, hl⟩
        · simp at h
      · simp at h
set_option maxRecDepth 100000 in
set_option maxHeartbeats 4000000 in
theorem parse_err {al : Bool} {inp : ByteArray} {R : List Tok} {f : Nat} (hf : f ≤ 100000) (hs : inp.size ≤ 1000) (hM : lexM inp.toList .start = some R) (hP : ∀ S : List Item, S.map tokOf = R → parseM al S f = some none)
    {w : World} {pb : Nat} (hB : Blk w pb (pNew al) 120) (hpb : 1 < pb) (hT : TabAt w) :
    Calls Tryz.prog 73 #[.pointer (some ⟨pb, 0, none⟩), .string inp] w fun e w' => (∃ p, e = .returned (.tuple #[patZ, .iface 184 (.pointer p)])) ∧ ExtM (· = pb) w w' := by
  have fB := hB.frozen
  have lB := hB.lt
  have b7 := Blk7 hB
  have HW := Lib.hid (wLex_facts hB hpb hT)
  have HP := Lib.hid hP
  clear hB hT hP
  go_enter Tryz.func73, Tryz.ntmps73
  go_wp2_with fail
  refine (lex_calls2 inp R _ (by omega) HW.out.2.1 hM).mono ?_
  rintro e w2 ⟨a, c, its, rfl, hc, hA, hI, hF, hl, hE2, hnew⟩
  have hB2 := HW.out.1.ext hE2
  have fB2 := hB2.frozen
  have lB2 := hB2.lt
  have b72 := Blk7 hB2
  have hsz := HW.out.2.2.2.2
  have hX3 : ExtM (· = pb) w2 (w2.setCell ⟨pb, 5, none⟩ (.slice a its.length c)) := (ExtM.refl _ w2).set1 5 _
  have hP3 : PSt (w2.setCell ⟨pb, 5, none⟩ (.slice a its.length c)) pb (w2.setCell ⟨pb, 5, none⟩ (.slice a its.length c)).heap.size al false ⟨0, ⟨#[]⟩, 0⟩ its none [] := by
    refine PSt.start (hB2.set 5 _) hc (hA.extM hX3 (fun b o e hne e2 => ?_)) hF (by omega) (fun b o e hne => ?_)
    · have := hnew b o e; omega
    · have := hnew b o e
      rcases hA with hA | ⟨b', o', e', hA⟩
      · exact absurd hA hne
      · rw [e] at e'; cases e'
        have := cell_lt (hA 0 (List.length_pos_iff.2 hne)).1
        simp only at this
        exact ⟨by omega, by simpa using this⟩
  have HP3 := Lib.hid hP3
  have HT3 : Hid (Blk (w2.setCell ⟨pb, 5, none⟩ (.slice a its.length c)) w.heap.size #[.nilIface, .slice none 0 0, .nilIface, .slice none 0 0, .slice none 0 0] 81) := Lib.hid ((HW.out.2.2.2.1.ext hE2).set_other (by simp only; omega) _)
  have HX3 : Hid (ExtM (· = pb) w (w2.setCell ⟨pb, 5, none⟩ (.slice a its.length c))) := Lib.hid ((HW.out.2.2.1.ext hE2).trans' hX3)
  have HI := Lib.hid hI
  have HNil := Lib.hid (show its.length + ([] : Names).length ≤ 300000 by simp; omega)
  clear hB2 hX3 hP3 hE2 hA hnew hI hF hc
  have q5 := nilne
  go_wp2_with fail
  rcases parseM_none (HP.out its HI.out) with e1 | ⟨n, x, S', nm, e1, hx⟩
  · refine (node_calls al f hf its [] none e1 HNil.out pb _ _ _ _ _ HP3.out).mono ?_
    rintro e w4 ⟨mp4, s4, v, p, rfl⟩
    have hTk := HT3.out.step s4 HP3.out (by omega)
    have HXk := Lib.hid (Step.toX HX3.out s4 (by simp))
    have q6 := errne p
    have fT := hTk.frozen
    have lT := hTk.lt
    have cT : w4.cell? ⟨w.heap.size, 0, none⟩ = some .nilIface ∧ w4.cell? ⟨w.heap.size, 1, none⟩ = some (.slice none 0 0) ∧ w4.cell? ⟨w.heap.size, 2, none⟩ = some .nilIface ∧ w4.cell? ⟨w.heap.size, 3, none⟩ = some (.slice none 0 0) ∧ w4.cell? ⟨w.heap.size, 4, none⟩ = some (.slice none 0 0) := ⟨by rw [hTk.cell]; rfl, by rw [hTk.cell]; rfl, by rw [hTk.cell]; rfl, by rw [hTk.cell]; rfl, by rw [hTk.cell]; rfl⟩
    have HTk := Lib.hid hTk
    clear hTk
    clear s4 e1
    go_wp2_with fail
    refine bodyPost_ret (results_ct rfl _ _ w.heap.size 81 #[.nilIface, .slice none 0 0, .nilIface, .slice none 0 0, .slice none 0 0] rfl ?_ row81 size81) rfl ?_
    · exact ((((HTk.out.set 0 _).set 1 _).set 2 _).set 3 _).set 4 _
    refine ⟨⟨_, rfl⟩, ?_⟩
    exact ((((HXk.out.setNew (Nat.le_refl _) 0 _).setNew (Nat.le_refl _) 1 _).setNew (Nat.le_refl _) 2 _).setNew (Nat.le_refl _) 3 _).setNew (Nat.le_refl _) 4 _
  · rcases hx with hx | ⟨hx, hnl⟩
    · have HXX := Lib.hid hx
      refine (node_calls al f hf its [] _ e1 HNil.out pb _ _ _ _ _ HP3.out).mono ?_
      rintro e w4 ⟨mp4, s4, v, fl4, cur4, rfl, hv, rfl, p4⟩
      have hT4 := Lib.hid (HT3.out.step s4 HP3.out (by omega))
      have HX4 := Lib.hid (Step.toX HX3.out s4 (by simp))
      have HM4 := Lib.hid p4.2
      obtain ⟨its', ia', ic', hB4, h1, h2, h3, h4, he⟩ := p4.1
      obtain rfl : its' = x :: S' := by simpa using he.symm
      have HV4 := Lib.hid hv
      have HNX := Lib.hid (And.intro hB4 (And.intro (show S'.length + 1 ≤ ic' by simpa using h1) (And.intro (show S'.length ≤ 100000 by have := h2.1; simp at this; omega) h3)))
      have hmp4 : Hid (∀ mb, mp4 = some mb → w.heap.size ≤ mb ∧ mb ≠ pb) := Lib.hid (fun mb e => by have := p4.2.2 mb e; have := HX3.out.size; omega)
      clear s4 hv p4 hB4 h1 h2 h3 h4 he
      rcases HV4.out.shape with rfl | ⟨tt, xx, rfl⟩
      all_goals
        go_wp2_with fail
        refine (nextItem_calls (x := x) (its := S') HNX.out.1 HNX.out.2.1 HNX.out.2.2.1 HNX.out.2.2.2).mono ?_
        rintro e w5 ⟨rfl, hX5, ia5, ic5, hB5, -, -⟩
        have hTk := hT4.out.extM hX5 (by omega)
        have HX5 := Lib.hid hX5
        have HB5 := Lib.hid hB5
        have HV5 := Lib.hid (HV4.out.mono (hX5.keeps (fun b hb e => by have := HP3.out.lt; omega)))
        have HM5 := Lib.hid (show MapIs w5 mp4 nm from HM4.out.1.extM hX5 (fun mb e e2 => (hmp4.out mb e).2 e2))
        clear hX5 hB5
        clear e1 hx
        have hx' : (x.typ == 11) = false := HXX.out
        have hx2 : (x.typ != 11) = true := by simp only [bne, hx', Bool.not_false]
        have HTk5 := Lib.hid (hTk.ext (Ext.alloc w5 (.cells #[.int .i64 x.typ, .string x.val, .int .i64 x.pos] 115)))
        clear hTk
        go_wp2_with fail
        refine (errnew_calls _ _).mono ?_
        rintro e w6 ⟨⟨p, rfl⟩, hE6⟩
        have hTk := HTk5.out.ext hE6
        have HXk := Lib.hid (((HX4.out.trans' HX5.out).ext (Ext.alloc _ _)).ext hE6)
        clear hE6
        have fT := hTk.frozen
        have lT := hTk.lt
        have cT : w6.cell? ⟨w.heap.size, 0, none⟩ = some .nilIface ∧ w6.cell? ⟨w.heap.size, 1, none⟩ = some (.slice none 0 0) ∧ w6.cell? ⟨w.heap.size, 2, none⟩ = some .nilIface ∧ w6.cell? ⟨w.heap.size, 3, none⟩ = some (.slice none 0 0) ∧ w6.cell? ⟨w.heap.size, 4, none⟩ = some (.slice none 0 0) := ⟨by rw [hTk.cell]; rfl, by rw [hTk.cell]; rfl, by rw [hTk.cell]; rfl, by rw [hTk.cell]; rfl, by rw [hTk.cell]; rfl⟩
        have HTk := Lib.hid hTk
        clear hTk
        go_wp2_with fail
        refine bodyPost_ret (results_ct rfl _ _ w.heap.size 81 #[.nilIface, .slice none 0 0, .nilIface, .slice none 0 0, .slice none 0 0] rfl ?_ row81 size81) rfl ?_
        · exact ((((HTk.out.set 0 _).set 1 _).set 2 _).set 3 _).set 4 _
        refine ⟨⟨_, rfl⟩, ?_⟩
        exact ((((HXk.out.setNew (Nat.le_refl _) 0 _).setNew (Nat.le_refl _) 1 _).setNew (Nat.le_refl _) 2 _).setNew (Nat.le_refl _) 3 _).setNew (Nat.le_refl _) 4 _
    · have HXX := Lib.hid hx
      have HNL := Lib.hid hnl
      clear hnl
      refine (node_calls al f hf its [] _ e1 HNil.out pb _ _ _ _ _ HP3.out).mono ?_
      rintro e w4 ⟨mp4, s4, v, fl4, cur4, rfl, hv, rfl, p4⟩
      have hT4 := Lib.hid (HT3.out.step s4 HP3.out (by omega))
      have HX4 := Lib.hid (Step.toX HX3.out s4 (by simp))
      have HM4 := Lib.hid p4.2
      obtain ⟨its', ia', ic', hB4, h1, h2, h3, h4, he⟩ := p4.1
      obtain rfl : its' = x :: S' := by simpa using he.symm
      have HV4 := Lib.hid hv
      have HNX := Lib.hid (And.intro hB4 (And.intro (show S'.length + 1 ≤ ic' by simpa using h1) (And.intro (show S'.length ≤ 100000 by have := h2.1; simp at this; omega) h3)))
      have hmp4 : Hid (∀ mb, mp4 = some mb → w.heap.size ≤ mb ∧ mb ≠ pb) := Lib.hid (fun mb e => by have := p4.2.2 mb e; have := HX3.out.size; omega)
      clear s4 hv p4 hB4 h1 h2 h3 h4 he
      rcases HV4.out.shape with rfl | ⟨tt, xx, rfl⟩
      all_goals
        go_wp2_with fail
        refine (nextItem_calls (x := x) (its := S') HNX.out.1 HNX.out.2.1 HNX.out.2.2.1 HNX.out.2.2.2).mono ?_
        rintro e w5 ⟨rfl, hX5, ia5, ic5, hB5, -, -⟩
        have hTk := hT4.out.extM hX5 (by omega)
        have HX5 := Lib.hid hX5
        have HB5 := Lib.hid hB5
        have HV5 := Lib.hid (HV4.out.mono (hX5.keeps (fun b hb e => by have := HP3.out.lt; omega)))
        have HM5 := Lib.hid (show MapIs w5 mp4 nm from HM4.out.1.extM hX5 (fun mb e e2 => (hmp4.out mb e).2 e2))
        clear hX5 hB5
        clear e1 hx
        have hx' : (x.typ == 11) = true := HXX.out
        have hx2 : (x.typ != 11) = false := by simp only [bne, hx', Bool.not_true]
        have HTk5 := Lib.hid (hTk.ext (Ext.alloc w5 (.cells #[.int .i64 x.typ, .string x.val, .int .i64 x.pos] 115)))
        clear hTk
        cases mp4 with
        | none =>
          have e9 : nm = [] := HM5.out
          have := HNL.out
          rw [e9] at this
          simp at this
        | some mb =>
          obtain ⟨D, hO, hND⟩ := HM5.out
          have HO := Lib.hid (ownsMap_extM hO ((Ext.alloc w5 (.cells #[.int .i64 x.typ, .string x.val, .int .i64 x.pos] 115)).toM (fun _ => False)) (fun h => h))
          have HND := Lib.hid hND
          obtain ⟨-, -, -, -, -, -, b6⟩ := Blk7 (HB5.out.ext (Ext.alloc w5 (.cells #[.int .i64 x.typ, .string x.val, .int .i64 x.pos] 115)))
          have hbig : (64 : Int) < (nm.length : Int) := by have := HNL.out; omega
          clear hO hND
          go_wp2_with (at_len; refine wpList_len_own _ rfl _ 118 rfl 9 3 underlying118 _ mb _ D rfl HO.out ?_; rw [HND.out.1])
          refine (errnew_calls _ _).mono ?_
          rintro e w6 ⟨⟨p, rfl⟩, hE6⟩
          have hTk := HTk5.out.ext hE6
          have HXk := Lib.hid (((HX4.out.trans' HX5.out).ext (Ext.alloc _ _)).ext hE6)
          clear hE6
          have fT := hTk.frozen
          have lT := hTk.lt
          have cT : w6.cell? ⟨w.heap.size, 0, none⟩ = some .nilIface ∧ w6.cell? ⟨w.heap.size, 1, none⟩ = some (.slice none 0 0) ∧ w6.cell? ⟨w.heap.size, 2, none⟩ = some .nilIface ∧ w6.cell? ⟨w.heap.size, 3, none⟩ = some (.slice none 0 0) ∧ w6.cell? ⟨w.heap.size, 4, none⟩ = some (.slice none 0 0) := ⟨by rw [hTk.cell]; rfl, by rw [hTk.cell]; rfl, by rw [hTk.cell]; rfl, by rw [hTk.cell]; rfl, by rw [hTk.cell]; rfl⟩
          have HTk := Lib.hid hTk
          clear hTk
          go_wp2_with fail
          refine bodyPost_ret (results_ct rfl _ _ w.heap.size 81 #[.nilIface, .slice none 0 0, .nilIface, .slice none 0 0, .slice none 0 0] rfl ?_ row81 size81) rfl ?_
          · exact ((((HTk.out.set 0 _).set 1 _).set 2 _).set 3 _).set 4 _
          refine ⟨⟨_, rfl⟩, ?_⟩
          exact ((((HXk.out.setNew (Nat.le_refl _) 0 _).setNew (Nat.le_refl _) 1 _).setNew (Nat.le_refl _) 2 _).setNew (Nat.le_refl _) 3 _).setNew (Nat.le_refl _) 4 _
end Go.Proofs.YtigalkobmfbdaaaGreatDoor
