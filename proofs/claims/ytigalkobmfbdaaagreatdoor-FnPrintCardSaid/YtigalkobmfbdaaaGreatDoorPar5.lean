/- The parser's walks: node, object, array. -/
import Derived.Test.YtigalkobmfbdaaaGreatDoorPar4
import Derived.Maps.AppendAt
set_option linter.unusedVariables false
set_option linter.unusedSimpArgs false
namespace Go.Proofs.YtigalkobmfbdaaaGreatDoor
open Go.RowKit
/-- What a function of the parser gives: an error, or a node and the state behind it. -/
def PPost (pb hi : Nat) (al : Bool) (q : Bool → Prop) (mp : Option Nat) (w : World) (r : Option (PN × List Item × Names)) (e : Ending) (w' : World) : Prop :=
  ∃ mp', Step pb mp mp' w w' ∧ match r with
  | none => ∃ v p, e = .returned (.tuple #[v, .iface 184 (.pointer p)])
  | some (n, S', nm') => ∃ v fl' cur', e = .returned (.tuple #[v, .nilIface]) ∧ NodeAt (fun b => w.heap.size ≤ b) w' v n ∧ q fl' ∧ PSt w' pb hi al fl' cur' S' mp' nm'
def NodeC (al : Bool) (f : Nat) : Prop := ∀ (S : List Item) (nm : Names) r, nodeM al f S nm = some r → S.length + nm.length ≤ 300000 → ∀ (pb hi : Nat) (fl : Bool) (cur : Item) (mp : Option Nat) (w : World), PSt w pb hi al fl cur S mp nm →
  Calls Tryz.prog 87 #[.pointer (some ⟨pb, 0, none⟩)] w fun e w' => PPost pb hi al (· = false) mp w r e w'
def ObjectC (al : Bool) (f : Nat) : Prop := ∀ (S : List Item) (nm : Names) r, objectM al f S nm = some r → S.length + nm.length ≤ 300000 → ∀ (pb hi : Nat) (fl : Bool) (cur : Item) (mp : Option Nat) (w : World), PSt w pb hi al fl cur S mp nm →
  Calls Tryz.prog 113 #[.pointer (some ⟨pb, 0, none⟩)] w fun e w' => PPost pb hi al (fun _ => True) mp w r e w'
def ArrayC (al : Bool) (f : Nat) : Prop := ∀ (S : List Item) (nm : Names) r, arrayM al f S nm = some r → S.length + nm.length ≤ 300000 → ∀ (pb hi : Nat) (fl : Bool) (cur : Item) (mp : Option Nat) (w : World), PSt w pb hi al fl cur S mp nm →
  Calls Tryz.prog 140 #[.pointer (some ⟨pb, 0, none⟩)] w fun e w' => PPost pb hi al (fun _ => True) mp w r e w'
theorem andThen_some {α β : Type} {r : PRes α} {k : α → List Item → Names → PRes β} {x : Option (β × List Item × Names)} (h : r.andThen k = some x) : (r = some none ∧ x = none) ∨ ∃ a S nm, r = some (some (a, S, nm)) ∧ k a S nm = some x := by
  unfold PRes.andThen at h
  split at h
  · cases h
  · cases h; exact .inl ⟨rfl, rfl⟩
  · exact .inr ⟨_, _, _, rfl, h⟩
theorem ownsRow_step {pb hi : Nat} {al fl : Bool} {cur : Item} {S : List Item} {mp mp' : Option Nat} {names : Names} {w w' : World} (h : Step pb mp mp' w w') (hP : PSt w pb hi al fl cur S mp names) {base : Nat} {v : Value} {n : Nat} {xs : List Value} (hO : w.ownsRow base 78 1 v n xs) (hb : pb < base) : w'.ownsRow base 78 1 v n xs := by
  obtain ⟨h1, h2⟩ := hO
  refine ⟨h1, ?_⟩
  rcases h2 with h2 | ⟨g, cap, cur, rfl, hg, hgg, r⟩
  · exact .inl h2
  · refine .inr ⟨g, cap, cur, rfl, hg, ?_, r⟩
    refine (h.1.block g (Array.getElem?_eq_some_iff.1 hgg).1 ?_).trans hgg
    rintro (e | e)
    · omega
    · have hM := hP.2.1
      rw [← e] at hM
      obtain ⟨D, ⟨es, clock, hm, -⟩, -⟩ := hM
      rw [hgg] at hm; cases hm
theorem Row.step {pb hi : Nat} {al fl : Bool} {cur : Item} {S : List Item} {mp mp' : Option Nat} {names : Names} {w w' : World} (h : Step pb mp mp' w w') (hP : PSt w pb hi al fl cur S mp names) {base : Nat} {v : Value} {ns : List PN} {vs : List Value} (hR : Row w base v ns vs) (hb : pb < base) : Row w' base v ns vs :=
  ⟨ownsRow_step h hP hR.own hb, hR.len, fun j h1 h2 => (hR.node j h1 h2).mono (h.keeps hP (fun b hx => by have := hx.1; omega))⟩
/-- One more element: the row grows (in place, or anew). -/
theorem Row.snoc {w w' : World} {base : Nat} {v v' : Value} {ns : List PN} {vs : List Value} {n : PN} {x : Value} (hR : Row w base v ns vs) (hn : NodeAt (RX base v) w x n) (hG : w.grownBy w' v.ownBlock) (hO : w'.ownsRow base 78 1 v' (vs.length + 1) (vs ++ [x])) (hv' : ∀ g, v'.ownBlock = some g → v.ownBlock = some g ∨ w.heap.size ≤ g) : Row w' base v' (ns ++ [n]) (vs ++ [x]) := by
  have hk : ∀ {m : PN} {u : Value}, NodeAt (RX base v) w u m → NodeAt (RX base v') w' u m := by
    intro m u hu
    refine ((hu.imp (Y := fun b => RX base v b ∧ b < w.heap.size) (fun b hb hl => ⟨hb, hl⟩)).mono (w' := w') ?_).imp ?_
    · intro b o c hb hc
      exact hG.cell hc (fun e => hb.1.2 e.symm)
    · rintro b ⟨⟨hb, hne⟩, hl⟩ -
      refine ⟨hb, fun e => ?_⟩
      rcases hv' b e with h | h
      · exact hne h
      · omega
  refine ⟨by simpa using hO, by simp [hR.len], fun j h1 h2 => ?_⟩
  by_cases hj : j < ns.length
  · have hj' : j < vs.length := by rw [← hR.len]; exact hj
    rw [List.getElem_append_left hj, List.getElem_append_left hj']
    exact hk (hR.node j hj hj')
  · have e1 : j = ns.length := by simp at h1; omega
    have e2 : j = vs.length := by rw [← hR.len]; exact e1
    rw [List.getElem_append_right (by omega), List.getElem_append_right (by omega)]
    simp [e1, hR.len]
    exact hk hn
theorem PSt.lt {w : World} {pb hi : Nat} {al fl : Bool} {cur : Item} {S : List Item} {mp : Option Nat} {names : Names} (h : PSt w pb hi al fl cur S mp names) : pb < w.heap.size := h.1.lt.1
theorem acceptP_yes {w : World} {pb hi : Nat} {al fl : Bool} {cur x : Item} {S : List Item} {mp : Option Nat} {names : Names} (t : Int) (h : PSt w pb hi al fl cur (x :: S) mp names) (ht : (x.typ == t) = true) :
    Calls Tryz.prog 110 #[.pointer (some ⟨pb, 0, none⟩), .int .i64 t] w fun e w' => e = .returned (.tuple #[itemV x, .bool true]) ∧ Step pb mp mp w w' ∧ PSt w' pb hi al false x S mp names :=
  (accept_yes t h.1 (eq_of_beq ht)).mono fun e w' ⟨he, hX, hP⟩ => ⟨he, Step.of_pb hX, h.step hX hP⟩
theorem acceptP_no {w : World} {pb hi : Nat} {al fl : Bool} {cur x : Item} {S : List Item} {mp : Option Nat} {names : Names} (t : Int) (h : PSt w pb hi al fl cur (x :: S) mp names) (ht : (x.typ == t) = false) :
    Calls Tryz.prog 110 #[.pointer (some ⟨pb, 0, none⟩), .int .i64 t] w fun e w' => e = .returned (.tuple #[itemV ⟨0, ⟨#[]⟩, 0⟩, .bool false]) ∧ Step pb mp mp w w' ∧ PSt w' pb hi al true x (x :: S) mp names :=
  (accept_no t h.1 (by simpa using ht)).mono fun e w' ⟨he, hX, hP⟩ => ⟨he, Step.of_pb hX, h.step hX hP⟩
theorem rewindP {w : World} {pb hi : Nat} {al : Bool} {cur : Item} {S : List Item} {mp : Option Nat} {names : Names} (h : PSt w pb hi al true cur S mp names) :
    Calls Tryz.prog 112 #[.pointer (some ⟨pb, 0, none⟩)] w fun e w' => e = .returned (.tuple #[]) ∧ Step pb mp mp w w' ∧ PSt w' pb hi al true cur S mp names :=
  (rewind_calls h.1).mono fun e w' ⟨he, hX, hP⟩ => ⟨he, Step.of_pb hX, h.step hX hP⟩
theorem rewindP' {w : World} {pb hi : Nat} {al : Bool} {cur : Item} {S : List Item} {mp : Option Nat} {names : Names} (h : PSt w pb hi al false cur S mp names) :
    Calls Tryz.prog 112 #[.pointer (some ⟨pb, 0, none⟩)] w fun e w' => e = .returned (.tuple #[]) ∧ Step pb mp mp w w' ∧ PSt w' pb hi al true cur (cur :: S) mp names :=
  (rewind_calls h.1).mono fun e w' ⟨he, hX, hP⟩ => ⟨he, Step.of_pb hX, h.step hX hP⟩
theorem nextP {w : World} {pb hi : Nat} {al fl : Bool} {cur x : Item} {S : List Item} {mp : Option Nat} {names : Names} (h : PSt w pb hi al fl cur (x :: S) mp names) :
    Calls Tryz.prog 138 #[.pointer (some ⟨pb, 0, none⟩)] w fun e w' => e = .returned (itemV x) ∧ Step pb mp mp w w' ∧ PSt w' pb hi al false x S mp names :=
  (next_calls h.1).mono fun e w' ⟨he, hX, hP⟩ => ⟨he, Step.of_pb hX, h.step hX hP⟩
theorem peekP {w : World} {pb hi : Nat} {al fl : Bool} {cur x : Item} {S : List Item} {mp : Option Nat} {names : Names} (h : PSt w pb hi al fl cur (x :: S) mp names) :
    Calls Tryz.prog 139 #[.pointer (some ⟨pb, 0, none⟩)] w fun e w' => e = .returned (itemV x) ∧ Step pb mp mp w w' ∧ PSt w' pb hi al true x (x :: S) mp names :=
  (peek_calls h.1).mono fun e w' ⟨he, hX, hP⟩ => ⟨he, Step.of_pb hX, h.step hX hP⟩
theorem unexpectedP {w : World} {pb hi : Nat} {al fl : Bool} {cur : Item} {S : List Item} {mp : Option Nat} {names : Names} (h : PSt w pb hi al fl cur S mp names) (s : ByteArray) (hs : s.size ≤ 100) :
    Calls Tryz.prog 111 #[.pointer (some ⟨pb, 0, none⟩), .string s] w fun e w' => (∃ p, e = .returned (.iface 184 (.pointer p))) ∧ Ext w w' := unexpected_calls h.1 s hs
theorem Step.grown {pb : Nat} {mp mp' : Option Nat} {a b c : World} {row : Option Nat} (h : Step pb mp mp' a b) (hg : b.grownBy c row) (hr : ∀ k, row = some k → a.heap.size ≤ k) : Step pb mp mp' a c := ⟨h.1.grown hg hr, h.2⟩
/-- The parser's state stays while a row of one's own grows. -/
theorem PSt.grown {w w' : World} {pb hi : Nat} {al fl : Bool} {cur : Item} {S : List Item} {mp : Option Nat} {names : Names} (h : PSt w pb hi al fl cur S mp names) {base : Nat} {v : Value} {n : Nat} {xs : List Value} (hO : w.ownsRow base 78 1 v n xs) (hg : w.grownBy w' v.ownBlock) (hb : pb < base) (hh : hi ≤ base) : PSt w' pb hi al fl cur S mp names := by
  have hE : ExtM (fun k => v.ownBlock = some k) w w' := ⟨hg.os, hg.tape, hg.output, hg.size, fun k hk hm => hg.block k hk (fun e => hm e.symm)⟩
  have hlo : ∀ k, v.ownBlock = some k → base ≤ k := fun k hk => (hO.lt k hk).1
  refine ⟨h.1.extM hE (fun e => by have := hlo _ e; omega) (fun b hb' e => by have := hlo _ e; omega), h.2.1.extM hE ?_, h.2.2⟩
  intro mb e hm
  have hM := h.2.1
  rw [e] at hM
  obtain ⟨D, ⟨es, clock, hmb, -⟩, -⟩ := hM
  rcases hO.2 with ⟨rfl, -⟩ | ⟨g, cap, cur, rfl, hg', hgg, -⟩
  · cases hm
  · obtain rfl : g = mb := by simpa [Value.ownBlock] using hm
    rw [hgg] at hmb; cases hmb
theorem PPost.err {pb hi : Nat} {al : Bool} {q : Bool → Prop} {mp mp' : Option Nat} {w w' : World} {v : Value} {p : Option Addr} (h : Step pb mp mp' w w') : PPost pb hi al q mp w none (.returned (.tuple #[v, .iface 184 (.pointer p)])) w' := ⟨mp', h, v, p, rfl⟩
theorem errne (p : Option Addr) (w : World) : (binOp BinOp.neq 122 (.iface 184 (.pointer p)) .nilIface).run Tryz.prog w = .ok (.bool true) w := by kernel_rfl
theorem nilne (w : World) : (binOp BinOp.neq 122 .nilIface .nilIface).run Tryz.prog w = .ok (.bool false) w := by kernel_rfl
theorem ta_no {T : Nat} (h : T = 127 ∨ T = 130 ∨ T = 136 ∨ T = 140) (x : Value) (w : World) : (Instr.typeAssert (.iface T x) 78 138 true).run Tryz.prog w = .ok (.tuple #[.agg #[.string ⟨#[]⟩, .nilIface, .int .i64 0], .bool false]) w := by
  rcases h with rfl | rfl | rfl | rfl <;> kernel_rfl
/-- populate gives no binding. -/
theorem populate_shape {X : Nat → Prop} {w : World} {al : Bool} {nm : ByteArray} {ks : List PN} {n : PN} {v : Value} (h : populate al nm ks = some n) (hv : NodeAt X w v n) : ∃ T x, v = .iface T x ∧ (T = 127 ∨ T = 130 ∨ T = 136 ∨ T = 140) := by
  unfold populate at h
  split at h
  · cases h
  · split at h
    · cases h
    · split at h
      · cases h; rw [NodeAt] at hv; obtain ⟨a, c, rfl, -⟩ := hv; exact ⟨_, _, rfl, by simp⟩
      · split at h
        · cases h
        · split at h
          · cases h; rw [NodeAt] at hv; subst hv; exact ⟨_, _, rfl, by simp⟩
          · split at h
            · split at h
              · cases h; rw [NodeAt] at hv; obtain ⟨a, c, rfl, -⟩ := hv; exact ⟨_, _, rfl, by simp⟩
              · cases h
            · cases h; rw [NodeAt] at hv; obtain ⟨a, c, rfl, -⟩ := hv; exact ⟨_, _, rfl, by simp⟩
set_option maxRecDepth 100000 in
set_option maxHeartbeats 4000000 in
theorem node_walk {al : Bool} {f : Nat} (hf : f ≤ 100000) (hObj : ∀ g, g < f + 1 → ObjectC al g) : NodeC al (f + 1) := by
  intro S nm r hr hlen pb hi fl cur mp w hP
  obtain ⟨i0, hi0, hz0, hz1, hz2⟩ := info_parts info78
  cases S with
  | nil => rw [nodeM] at hr; cases hr
  | cons x S1 =>
  rw [nodeM_cons] at hr
  have HP := Lib.hid hP
  have HO := Lib.hid hObj
  clear hP hObj
  have q5 := nilne
  cases hx : (x.typ == 1)
  · rw [hx] at hr
    obtain rfl : r = none := by simpa using hr.symm
    have HX := Lib.hid hx
    clear hx hr
    go_enter Tryz.func87, Tryz.ntmps87
    go_wp2_with fail
    refine (acceptP_no 1 HP.out HX.out).mono ?_
    rintro e w1 ⟨rfl, hS1, hP1⟩
    have HS1 := Lib.hid hS1
    have HP1 := Lib.hid hP1
    clear hS1 hP1
    go_wp2_with fail
    refine (unexpectedP (HP1.out.ext (Ext.alloc _ _)) _ (by decide)).mono ?_
    rintro e w2 ⟨⟨p, rfl⟩, hE⟩
    go_wp2_with fail
    go_ret2
    exact PPost.err (HS1.out.trans (Step.of_ext ((Ext.alloc _ _).trans hE)))
  · rw [hx, if_pos rfl] at hr
    cases S1 with
    | nil => cases hr
    | cons t S2 =>
    simp only at hr
    cases ht : (t.typ == 5)
    · rw [ht] at hr
      obtain rfl : r = none := by simpa using hr.symm
      have HX := Lib.hid hx
      have HT := Lib.hid ht
      clear hx hr ht
      go_enter Tryz.func87, Tryz.ntmps87
      go_wp2_with fail
      refine (acceptP_yes 1 HP.out HX.out).mono ?_
      rintro e w1 ⟨rfl, hS1, hP1⟩
      have HS1 := Lib.hid hS1
      have HP1 := Lib.hid hP1
      clear hS1 hP1
      go_wp2_with fail
      refine (acceptP_no 5 (HP1.out.ext (Ext.alloc _ _)) HT.out).mono ?_
      rintro e w2 ⟨rfl, hS2, hP2⟩
      have HS2 := Lib.hid (HS1.out.trans ((Step.of_ext (Ext.alloc _ _)).trans hS2))
      have HP2 := Lib.hid hP2
      clear hS2 hP2
      go_wp2_with fail
      refine (unexpectedP (HP2.out.ext (Ext.alloc _ _)) _ (by decide)).mono ?_
      rintro e w3 ⟨⟨p, rfl⟩, hE⟩
      go_wp2_with fail
      go_ret2
      exact PPost.err (HS2.out.trans (Step.of_ext ((Ext.alloc _ _).trans hE)))
    · rw [ht, if_pos rfl] at hr
      have HR := Lib.hid hr
      have HX := Lib.hid hx
      have HT := Lib.hid ht
      clear hx hr ht
      go_enter Tryz.func87, Tryz.ntmps87
      go_wp2_with fail
      refine (acceptP_yes 1 HP.out HX.out).mono ?_
      rintro e w1 ⟨rfl, hS1, hP1⟩
      have HS1 := Lib.hid hS1
      have HP1 := Lib.hid hP1
      clear hS1 hP1
      go_wp2_with fail
      refine (acceptP_yes 5 (HP1.out.ext (Ext.alloc _ _)) HT.out).mono ?_
      rintro e w2 ⟨rfl, hS2, hP2⟩
      have HS2 := Lib.hid (HS1.out.trans ((Step.of_ext (Ext.alloc _ _)).trans hS2))
      have HP2 := Lib.hid hP2
      clear hS2 hP2
      go_wp2_with fail
      have hE3 := Ext.alloc w2 (.cells #[.int .i64 t.typ, .string t.val, .int .i64 t.pos] 115)
      have HT2 := Lib.hid (Blk.new w2 #[.int .i64 t.typ, .string t.val, .int .i64 t.pos] 115)
      have HP3 := Lib.hid (HP2.out.ext hE3)
      have HS3 := Lib.hid (HS2.out.trans (Step.of_ext hE3))
      have hpb2 : pb < w2.heap.size := HP2.out.lt
      obtain ⟨R0, HR0⟩ : ∃ R0, Hid (objsM al f 2 S2 nm = some R0) := by
        rcases andThen_some HR.out with ⟨e, -⟩ | ⟨a, S, nm', e, -⟩
        · exact ⟨_, Lib.hid e⟩
        · exact ⟨_, Lib.hid e⟩
      clear hE3
      go_loopg [8] f (fun k v w' => ∃ S' nm' fl' cur' mp' ks vs r', objsM al k 2 S' nm' = some r' ∧ k ≤ f ∧ Step pb mp mp' w w' ∧ PSt w' pb hi al fl' cur' S' mp' nm' ∧ Row w' (w2.heap.size + 1) v ks vs ∧ (ks = [] → v = .slice none 0 0) ∧ R0 = r'.map (fun q => (ks ++ q.1, q.2.1, q.2.2)) ∧ S'.length + nm'.length ≤ 300000 ∧ ks.length + k = f ∧ Blk w' w2.heap.size #[.int .i64 t.typ, .string t.val, .int .i64 t.pos] 115)
      case atStart =>
        refine ⟨S2, nm, _, _, mp, [], [], R0, HR0.out, Nat.le_refl _, HS3.out, HP3.out, ⟨World.ownsRow_nil _ _ _ _, rfl, fun j h1 => absurd h1 (by simp)⟩, fun _ => rfl, by cases R0 <;> simp, ?_, ?_, HT2.out⟩
        · simp at hlen ⊢; omega
        · simp
      case round =>
        obtain ⟨S', nm', fl', cur', mp', ks, vs, r', hM, hkf, hS, hP, hRow, hnl, hR0, hl1, hl2, hB⟩ := hrel
        cases gk with
        | zero => rw [objsM] at hM; cases hM
        | succ k =>
        cases S' with
        | nil => rw [objsM] at hM; cases hM
        | cons y S4 =>
        rw [objsM_cons] at hM
        have KS := Lib.hid hS
        have KP := Lib.hid hP
        have KR := Lib.hid hRow
        have K0 := Lib.hid hR0
        have KB := Lib.hid hB
        have KN := Lib.hid hnl
        have hlt := hB.lt
        clear hS hP hRow hR0 hB hnl
        cases hy : (y.typ == 2)
        · rw [hy] at hM
          simp only [Bool.false_eq_true, if_false] at hM
          have HY := Lib.hid hy
          have HM := Lib.hid hM
          clear hy hM
          go_wp2_with fail
          refine (acceptP_no 2 KP.out HY.out).mono ?_
          rintro e w4 ⟨rfl, s4, p4⟩
          have HS4 := Lib.hid s4
          have HP4 := Lib.hid p4
          clear s4 p4
          go_wp2_with fail
          refine (rewindP (HP4.out.ext (Ext.alloc _ _))).mono ?_
          rintro e w5 ⟨rfl, s5, p5⟩
          have HS5 := Lib.hid (HS4.out.trans ((Step.of_ext (Ext.alloc _ _)).trans s5))
          have HP5 := Lib.hid p5
          clear s5 p5
          have q6 := errne
          rcases andThen_some HM.out with ⟨ho, rfl⟩ | ⟨n, S5, nm5, ho, hM2⟩
          · have HOO := Lib.hid ho
            clear ho
            go_wp2_with fail
            refine (HO.out k (by omega) (y :: S4) nm' _ HOO.out hl1 pb hi _ _ _ _ HP5.out).mono ?_
            rintro e w6 ⟨mp6, s6, v, p, rfl⟩
            have HS6 := Lib.hid (KS.out.trans (HS5.out.trans s6))
            clear s6
            go_wp2_with fail
            go_ret2
            have e1 : R0 = none := K0.out
            have e2 := HR.out
            rw [HR0.out, e1] at e2
            obtain rfl : r = none := by simpa [PRes.andThen] using e2.symm
            exact PPost.err HS6.out
          · have HOO := Lib.hid ho
            have HM2 := Lib.hid hM2
            clear ho hM2
            go_wp2_with fail
            refine (HO.out k (by omega) (y :: S4) nm' _ HOO.out hl1 pb hi _ _ _ _ HP5.out).mono ?_
            rintro e w6 ⟨mp6, s6, v, fl6, cur6, rfl, hv, -, p6⟩
            have hless := (model_len al k).2.2.1 _ _ _ _ _ HOO.out
            have HS56 := Lib.hid (HS5.out.trans s6)
            have HP6 := Lib.hid p6
            have HV := Lib.hid hv
            clear s6 p6 hv
            have HR6 := Lib.hid (KR.out.step HS56.out KP.out (by omega))
            rcases HV.out.shape with rfl | ⟨tt, xx, rfl⟩
            · go_wp2_with (first
                | (at_builtin; refine wpList_append_own_at _ rfl _ _ 125 rfl (w2.heap.size + 1) 78 i0 _ 1 16 underlying125 hi0 hz0 hz1 hz2 rfl (by decide) _ _ _ rfl (HR6.out.own.alloc _) ⟨w6.heap.size, 0, none⟩ 1 1 [.nilIface] rfl rfl ?c1 ?c2 ?c3 ?c4 ?c5 ?_)
                | go_in)
              case c1 => exact cell_one_new _ _ _
              case c2 => intro u hu; simp at hu; subst hu; rfl
              case c3 => have := HR6.out.len; unfold maxLen; omega
              case c4 => have := HR6.out.len; omega
              case c5 => have := HS56.out.1.size; simp; omega
              intro v' w7 hO7 hG hnil hloc
              clear hnil
              have HFin := Lib.hid (And.intro hO7 (And.intro hG hloc))
              clear hO7 hG hloc
              go_wp2_with fail
              go_roundg k
              case measure => omega
              case rel =>
                obtain ⟨hO7, hG, hloc⟩ := HFin.out
                have hEa := Ext.alloc w6 (.cells #[.nilIface] 78)
                have hPa := HP6.out.ext hEa
                have hown : ∀ q, u8.ownBlock = some q → w2.heap.size + 1 ≤ q := fun q hq => (HR6.out.own.lt q hq).1
                have h26 := HS56.out.1.size
                have hw2 := HS2.out.1.size
                have hhi := HP2.out.1.lt.2
                have hB7 : Blk w7 w2.heap.size #[.int .i64 t.typ, .string t.val, .int .i64 t.pos] 115 := by
                  refine Blk.grown' (Blk.ext ?_ hEa) hG (by intro e; have := hown _ e.symm; omega)
                  refine KB.out.extM HS56.out.1 ?_
                  rintro (e | e)
                  · omega
                  · have hM := KP.out.2.1
                    rw [← e] at hM
                    obtain ⟨D, ⟨es, clock, hm, -⟩, -⟩ := hM
                    have := KB.out
                    unfold Blk at this
                    rw [hm] at this; cases this
                have hS7 : Step pb mp mp6 w w7 := ((KS.out.trans HS56.out).trans (Step.of_ext hEa)).grown hG (fun q hq => by have := hown q hq; omega)
                have hP7 : PSt w7 pb hi al fl6 cur6 S5 mp6 nm5 := hPa.grown (HR6.out.own.alloc _) hG (by omega) (by omega)
                have hR7 : Row w7 (w2.heap.size + 1) v' (ks ++ [n]) (vs ++ [.nilIface]) := by
                  have hRa : Row (w6.alloc (.cells #[.nilIface] 78)) (w2.heap.size + 1) u8 ks vs := ⟨HR6.out.own.alloc _, HR6.out.len, fun j h1 h2 => (HR6.out.node j h1 h2).mono (hEa.keeps _)⟩
                  refine hRa.snoc ?_ hG hO7 ?_
                  · refine ((HV.out.imp ?_).mono (hEa.keeps _))
                    intro b hb hbl
                    have h5 := HS5.out.1.size
                    refine ⟨by omega, fun e => ?_⟩
                    have := (KR.out.own.lt b e).2
                    omega
                  · intro g hg
                    rcases hloc with h | h
                    · exact .inl (h ▸ hg)
                    · rw [h] at hg; cases hg; exact .inr (by simp)
                rcases andThen_some HM2.out with ⟨e2, rfl⟩ | ⟨ks2, S6, nm6, e2, e3⟩
                · refine ⟨S5, nm5, fl6, cur6, mp6, ks ++ [n], _, none, e2, by omega, hS7, hP7, hR7, fun e => absurd e (by simp), by rw [K0.out]; rfl, by omega, by simp; omega, hB7⟩
                · cases e3
                  refine ⟨S5, nm5, fl6, cur6, mp6, ks ++ [n], _, some (ks2, S6, nm6), e2, by omega, hS7, hP7, hR7, fun e => absurd e (by simp), by rw [K0.out]; simp, by omega, by simp; omega, hB7⟩
            · go_wp2_with (first
                | (at_builtin; refine wpList_append_own_at _ rfl _ _ 125 rfl (w2.heap.size + 1) 78 i0 _ 1 16 underlying125 hi0 hz0 hz1 hz2 rfl (by decide) _ _ _ rfl (HR6.out.own.alloc _) ⟨w6.heap.size, 0, none⟩ 1 1 [.iface tt xx] rfl rfl ?c1 ?c2 ?c3 ?c4 ?c5 ?_)
                | go_in)
              case c1 => exact cell_one_new _ _ _
              case c2 => intro u hu; simp at hu; subst hu; rfl
              case c3 => have := HR6.out.len; unfold maxLen; omega
              case c4 => have := HR6.out.len; omega
              case c5 => have := HS56.out.1.size; simp; omega
              intro v' w7 hO7 hG hnil hloc
              clear hnil
              have HFin := Lib.hid (And.intro hO7 (And.intro hG hloc))
              clear hO7 hG hloc
              go_wp2_with fail
              go_roundg k
              case measure => omega
              case rel =>
                obtain ⟨hO7, hG, hloc⟩ := HFin.out
                have hEa := Ext.alloc w6 (.cells #[.iface tt xx] 78)
                have hPa := HP6.out.ext hEa
                have hown : ∀ q, u8.ownBlock = some q → w2.heap.size + 1 ≤ q := fun q hq => (HR6.out.own.lt q hq).1
                have h26 := HS56.out.1.size
                have hw2 := HS2.out.1.size
                have hhi := HP2.out.1.lt.2
                have hB7 : Blk w7 w2.heap.size #[.int .i64 t.typ, .string t.val, .int .i64 t.pos] 115 := by
                  refine Blk.grown' (Blk.ext ?_ hEa) hG (by intro e; have := hown _ e.symm; omega)
                  refine KB.out.extM HS56.out.1 ?_
                  rintro (e | e)
                  · omega
                  · have hM := KP.out.2.1
                    rw [← e] at hM
                    obtain ⟨D, ⟨es, clock, hm, -⟩, -⟩ := hM
                    have := KB.out
                    unfold Blk at this
                    rw [hm] at this; cases this
                have hS7 : Step pb mp mp6 w w7 := ((KS.out.trans HS56.out).trans (Step.of_ext hEa)).grown hG (fun q hq => by have := hown q hq; omega)
                have hP7 : PSt w7 pb hi al fl6 cur6 S5 mp6 nm5 := hPa.grown (HR6.out.own.alloc _) hG (by omega) (by omega)
                have hR7 : Row w7 (w2.heap.size + 1) v' (ks ++ [n]) (vs ++ [.iface tt xx]) := by
                  have hRa : Row (w6.alloc (.cells #[.iface tt xx] 78)) (w2.heap.size + 1) u8 ks vs := ⟨HR6.out.own.alloc _, HR6.out.len, fun j h1 h2 => (HR6.out.node j h1 h2).mono (hEa.keeps _)⟩
                  refine hRa.snoc ?_ hG hO7 ?_
                  · refine ((HV.out.imp ?_).mono (hEa.keeps _))
                    intro b hb hbl
                    have h5 := HS5.out.1.size
                    refine ⟨by omega, fun e => ?_⟩
                    have := (KR.out.own.lt b e).2
                    omega
                  · intro g hg
                    rcases hloc with h | h
                    · exact .inl (h ▸ hg)
                    · rw [h] at hg; cases hg; exact .inr (by simp)
                rcases andThen_some HM2.out with ⟨e2, rfl⟩ | ⟨ks2, S6, nm6, e2, e3⟩
                · refine ⟨S5, nm5, fl6, cur6, mp6, ks ++ [n], _, none, e2, by omega, hS7, hP7, hR7, fun e => absurd e (by simp), by rw [K0.out]; rfl, by omega, by simp; omega, hB7⟩
                · cases e3
                  refine ⟨S5, nm5, fl6, cur6, mp6, ks ++ [n], _, some (ks2, S6, nm6), e2, by omega, hS7, hP7, hR7, fun e => absurd e (by simp), by rw [K0.out]; simp, by omega, by simp; omega, hB7⟩
        · rw [hy, if_pos rfl] at hM
          obtain rfl := Option.some.inj hM
          have e0 : R0 = some (ks, S4, nm') := by rw [K0.out]; simp
          have e2 := HR.out
          rw [HR0.out, e0] at e2
          simp only [PRes.andThen] at e2
          cases hsd : said t.val ks
          · rw [hsd] at e2; cases e2
          rw [hsd, if_pos rfl] at e2
          have ER := Lib.hid (Option.some.inj e2)
          have HSD := Lib.hid hsd
          have HY := Lib.hid hy
          obtain ⟨a, c, rfl, hc, hV, -⟩ := KR.out.vals
          have HV := Lib.hid hV
          have KN2 : Hid (ks = [] → a = none ∧ c = 0) := Lib.hid (fun e => by subst e; have := KN.out rfl; simp at this; exact this)
          clear hM e0 e2 hsd hy hV
          go_wp2_with fail
          refine (acceptP_yes 2 KP.out HY.out).mono ?_
          rintro e w4 ⟨rfl, s4, p4⟩
          have HS4 := Lib.hid s4
          have HP4 := Lib.hid p4
          clear s4 p4
          have hkp : Keeps (fun b => b ≠ pb) wr w4 := HS4.out.keeps KP.out (fun b h => h)
          have ct : w4.cell? ⟨w2.heap.size, 1, none⟩ = some (.string t.val) := hkp _ _ _ (by omega) (by rw [KB.out.cell]; rfl)
          have hctl := cell_lt ct
          simp only at hctl
          have hEb := Ext.alloc w4 (.cells #[.int .i64 y.typ, .string y.val, .int .i64 y.pos] 115)
          have HV4 : Hid (ValsAt (RX (w2.heap.size + 1) (.slice a ks.length c)) (w4.alloc (.cells #[.int .i64 y.typ, .string y.val, .int .i64 y.pos] 115)) a ks) := by
            obtain ⟨vs', g1, g2, g3⟩ := HV.out
            refine Lib.hid ⟨vs', g1, fun j h1 h2 => (g2 j h1 h2).mono ((HS4.out.keeps KP.out (fun b h => by have := h.1; omega)).trans (hEb.keeps _)), fun hne => ?_⟩
            obtain ⟨b, o, rfl, hcc⟩ := g3 hne
            refine ⟨b, o, rfl, fun j u hu => hEb.keep (hkp _ _ _ ?_ (hcc j u hu))⟩
            have := (KR.out.own.lt b rfl).1
            omega
          go_wp2_with fail
          refine (populateM_calls (HP4.out.ext hEb) t.val ks HSD.out HV4.out hc KN2.out (by omega)).mono ?_
          rintro e w5 ⟨hr, hE5⟩
          have ER2 := ER.out
          have hS5 : Step pb mp mp' w w5 := (KS.out.trans HS4.out).trans (Step.of_ext (hEb.trans hE5))
          have hP5 : PSt w5 pb hi al false y S4 mp' nm' := (HP4.out.ext hEb).ext hE5
          have hw02 : w.heap.size ≤ w2.heap.size := HS2.out.1.size
          have hw2r : w2.heap.size < w4.heap.size := hctl
          cases hpop : populate al t.val ks with
          | none =>
            rw [hpop] at hr ER2
            obtain rfl : r = none := by simpa using ER2.symm
            obtain ⟨v, p, rfl⟩ := hr
            have HS5 := Lib.hid hS5
            have q6 := errne p
            clear hpop ER2 hS5 hP5
            go_wp2_with fail
            go_ret2
            exact PPost.err HS5.out
          | some n =>
            rw [hpop] at hr ER2
            obtain rfl : r = some (n, S4, nm') := by simpa using ER2.symm
            obtain ⟨v, rfl, hv⟩ := hr
            have hv2 := hv.imp (Y := fun b => w.heap.size ≤ b) (fun b hb _ => by
              rcases hb with hb | hb
              · have := hb.1; omega
              · simp at hb; omega)
            obtain ⟨T, xx, rfl, hT⟩ := populate_shape hpop hv
            have HF := Lib.hid (And.intro hS5 (And.intro hP5 hv2))
            clear hpop ER2 hS5 hP5 hv hv2
            have hta := ta_no hT xx
            clear hT
            go_wp2_with fail
            go_ret2
            obtain ⟨f1, f2, f3⟩ := HF.out
            exact ⟨mp', f1.trans (Step.of_ext (Ext.alloc _ _)), _, false, y, rfl, f3.mono ((Ext.alloc _ _).keeps _), rfl, f2.ext (Ext.alloc _ _)⟩
end Go.Proofs.YtigalkobmfbdaaaGreatDoor
