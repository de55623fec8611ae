/- The parser's walks: array. -/
import Derived.Test.YtigalkobmfbdaaaGreatDoorPar7
set_option linter.unusedVariables false
set_option linter.unusedSimpArgs false
namespace Go.Proofs.YtigalkobmfbdaaaGreatDoor
open Go.RowKit
set_option maxRecDepth 100000 in
set_option maxHeartbeats 4000000 in
theorem array_walk {al : Bool} {f : Nat} (hf : f ≤ 100000) (hObj : ∀ g, g < f + 1 → ObjectC al g) : ArrayC al (f + 1) := by
  intro S nm r hr hlen pb hi fl cur mp w hP
  obtain ⟨i0, hi0, hz0, hz1, hz2⟩ := info_parts info78
  cases S with
  | nil => rw [arrayM] at hr; cases hr
  | cons x S1 =>
  rw [arrayM_cons] at hr
  have HP := Lib.hid hP
  have HO := Lib.hid hObj
  clear hP hObj
  have q5 := nilne
  cases hx : (x.typ == 3)
  · rw [hx] at hr
    obtain rfl : r = none := by simpa using hr.symm
    have HX := Lib.hid hx
    clear hx hr
    go_enter Tryz.func140, Tryz.ntmps140
    go_wp2_with fail
    refine (acceptP_no 3 HP.out HX.out).mono ?_
    rintro e w1 ⟨rfl, hS1, hP1⟩
    have HS1 := Lib.hid hS1
    have HP1 := Lib.hid hP1
    clear hS1 hP1
    go_wp2_with fail
    refine (unexpectedP (HP1.out.ext (Ext.alloc _ _)) _ (by decide)).mono ?_
    rintro e w2 ⟨⟨p, rfl⟩, hE⟩
    go_wp2_with fail
    go_ret2
    exact PPost.err (HS1.out.trans (Step.of_ext ((Ext.alloc _ _).trans hE)))
  · rw [hx, if_pos rfl] at hr
    have HX := Lib.hid hx
    have HR := Lib.hid hr
    clear hx hr
    · go_enter Tryz.func140, Tryz.ntmps140
      go_wp2_with fail
      refine (acceptP_yes 3 HP.out HX.out).mono ?_
      rintro e w1 ⟨rfl, hS1, hP1⟩
      have HS1 := Lib.hid hS1
      have HP1 := Lib.hid hP1
      clear hS1 hP1
      go_wp2_with fail
      have hE3 := Ext.alloc w1 (.cells #[.int .i64 x.typ, .string x.val, .int .i64 x.pos] 115)
      have HT2 := Lib.hid (Blk.new w1 #[.int .i64 x.typ, .string x.val, .int .i64 x.pos] 115)
      have HP3 := Lib.hid (HP1.out.ext hE3)
      have HS3 := Lib.hid (HS1.out.trans (Step.of_ext hE3))
      have hpb2 : pb < w1.heap.size := HP1.out.lt
      obtain ⟨R0, HR0⟩ : ∃ R0, Hid (objsM al f 4 S1 nm = some R0) := by
        rcases andThen_some HR.out with ⟨e, -⟩ | ⟨a, S, nm', e, -⟩
        · exact ⟨_, Lib.hid e⟩
        · exact ⟨_, Lib.hid e⟩
      clear hE3
      go_loopg [6] f (fun k v w' => ∃ S' nm' fl' cur' mp' ks vs r', objsM al k 4 S' nm' = some r' ∧ k ≤ f ∧ Step pb mp mp' w w' ∧ PSt w' pb hi al fl' cur' S' mp' nm' ∧ Row w' (w1.heap.size + 1) v ks vs ∧ (ks = [] → v = .slice none 0 0) ∧ R0 = r'.map (fun q => (ks ++ q.1, q.2.1, q.2.2)) ∧ S'.length + nm'.length ≤ 300000 ∧ ks.length + k = f ∧ Blk w' w1.heap.size #[.int .i64 x.typ, .string x.val, .int .i64 x.pos] 115)
      case atStart =>
        refine ⟨S1, nm, _, _, mp, [], [], R0, HR0.out, Nat.le_refl _, HS3.out, HP3.out, ⟨World.ownsRow_nil _ _ _ _, rfl, fun j h1 => absurd h1 (by simp)⟩, fun _ => rfl, by cases R0 <;> simp, ?_, ?_, HT2.out⟩
        · simp at hlen ⊢; omega
        · simp
      case round =>
        obtain ⟨S', nm', fl', cur', mp', ks, vs, r', hM, hkf, hS, hP, hRow, hnl, hR0, hl1, hl2, hB⟩ := hrel
        cases gk with
        | zero => rw [objsM] at hM; cases hM
        | succ k =>
        cases S' with
        | nil => rw [objsM] at hM; cases hM
        | cons y S4 =>
        rw [objsM_cons] at hM
        have KS := Lib.hid hS
        have KP := Lib.hid hP
        have KR := Lib.hid hRow
        have K0 := Lib.hid hR0
        have KB := Lib.hid hB
        have KN := Lib.hid hnl
        have hlt := hB.lt
        clear hS hP hRow hR0 hB hnl
        cases hy : (y.typ == 4)
        · rw [hy] at hM
          simp only [Bool.false_eq_true, if_false] at hM
          have HY := Lib.hid hy
          have HM := Lib.hid hM
          clear hy hM
          go_wp2_with fail
          refine (acceptP_no 4 KP.out HY.out).mono ?_
          rintro e w4 ⟨rfl, s4, p4⟩
          have HS4 := Lib.hid s4
          have HP4 := Lib.hid p4
          clear s4 p4
          go_wp2_with fail
          refine (rewindP (HP4.out.ext (Ext.alloc _ _))).mono ?_
          rintro e w5 ⟨rfl, s5, p5⟩
          have HS5 := Lib.hid (HS4.out.trans ((Step.of_ext (Ext.alloc _ _)).trans s5))
          have HP5 := Lib.hid p5
          clear s5 p5
          have q6 := errne
          rcases andThen_some HM.out with ⟨ho, rfl⟩ | ⟨n, S5, nm5, ho, hM2⟩
          · have HOO := Lib.hid ho
            clear ho
            go_wp2_with fail
            refine (HO.out k (by omega) (y :: S4) nm' _ HOO.out hl1 pb hi _ _ _ _ HP5.out).mono ?_
            rintro e w6 ⟨mp6, s6, v, p, rfl⟩
            have HS6 := Lib.hid (KS.out.trans (HS5.out.trans s6))
            clear s6
            go_wp2_with fail
            go_ret2
            have e1 : R0 = none := K0.out
            have e2 := HR.out
            rw [HR0.out, e1] at e2
            obtain rfl : r = none := by simpa [PRes.andThen] using e2.symm
            exact PPost.err HS6.out
          · have HOO := Lib.hid ho
            have HM2 := Lib.hid hM2
            clear ho hM2
            go_wp2_with fail
            refine (HO.out k (by omega) (y :: S4) nm' _ HOO.out hl1 pb hi _ _ _ _ HP5.out).mono ?_
            rintro e w6 ⟨mp6, s6, v, fl6, cur6, rfl, hv, -, p6⟩
            have hless := (model_len al k).2.2.1 _ _ _ _ _ HOO.out
            have HS56 := Lib.hid (HS5.out.trans s6)
            have HP6 := Lib.hid p6
            have HV := Lib.hid hv
            clear s6 p6 hv
            have HR6 := Lib.hid (KR.out.step HS56.out KP.out (by omega))
            rcases HV.out.shape with rfl | ⟨tt, xx, rfl⟩
            · go_wp2_with (first
                | (at_builtin; refine wpList_append_own_at _ rfl _ _ 125 rfl (w1.heap.size + 1) 78 i0 _ 1 16 underlying125 hi0 hz0 hz1 hz2 rfl (by decide) _ _ _ rfl (HR6.out.own.alloc _) ⟨w6.heap.size, 0, none⟩ 1 1 [.nilIface] rfl rfl ?c1 ?c2 ?c3 ?c4 ?c5 ?_)
                | go_in)
              case c1 => exact cell_one_new _ _ _
              case c2 => intro u hu; simp at hu; subst hu; rfl
              case c3 => have := HR6.out.len; unfold maxLen; omega
              case c4 => have := HR6.out.len; omega
              case c5 => have := HS56.out.1.size; simp; omega
              intro v' w7 hO7 hG hnil hloc
              clear hnil
              have HFin := Lib.hid (And.intro hO7 (And.intro hG hloc))
              clear hO7 hG hloc
              go_wp2_with fail
              go_roundg k
              case measure => omega
              case rel =>
                obtain ⟨hO7, hG, hloc⟩ := HFin.out
                have hEa := Ext.alloc w6 (.cells #[.nilIface] 78)
                have hPa := HP6.out.ext hEa
                have hown : ∀ q, u6.ownBlock = some q → w1.heap.size + 1 ≤ q := fun q hq => (HR6.out.own.lt q hq).1
                have h26 := HS56.out.1.size
                have hw1 := HS1.out.1.size
                have hhi := HP1.out.1.lt.2
                have hB7 : Blk w7 w1.heap.size #[.int .i64 x.typ, .string x.val, .int .i64 x.pos] 115 := by
                  refine Blk.grown' (Blk.ext ?_ hEa) hG (by intro e; have := hown _ e.symm; omega)
                  refine KB.out.extM HS56.out.1 ?_
                  rintro (e | e)
                  · omega
                  · have hM := KP.out.2.1
                    rw [← e] at hM
                    obtain ⟨D, ⟨es, clock, hm, -⟩, -⟩ := hM
                    have := KB.out
                    unfold Blk at this
                    rw [hm] at this; cases this
                have hS7 : Step pb mp mp6 w w7 := ((KS.out.trans HS56.out).trans (Step.of_ext hEa)).grown hG (fun q hq => by have := hown q hq; omega)
                have hP7 : PSt w7 pb hi al fl6 cur6 S5 mp6 nm5 := hPa.grown (HR6.out.own.alloc _) hG (by omega) (by omega)
                have hR7 : Row w7 (w1.heap.size + 1) v' (ks ++ [n]) (vs ++ [.nilIface]) := by
                  have hRa : Row (w6.alloc (.cells #[.nilIface] 78)) (w1.heap.size + 1) u6 ks vs := ⟨HR6.out.own.alloc _, HR6.out.len, fun j h1 h2 => (HR6.out.node j h1 h2).mono (hEa.keeps _)⟩
                  refine hRa.snoc ?_ hG hO7 ?_
                  · refine ((HV.out.imp ?_).mono (hEa.keeps _))
                    intro b hb hbl
                    have h5 := HS5.out.1.size
                    refine ⟨by omega, fun e => ?_⟩
                    have := (KR.out.own.lt b e).2
                    omega
                  · intro g hg
                    rcases hloc with h | h
                    · exact .inl (h ▸ hg)
                    · rw [h] at hg; cases hg; exact .inr (by simp)
                rcases andThen_some HM2.out with ⟨e2, rfl⟩ | ⟨ks2, S6, nm6, e2, e3⟩
                · refine ⟨S5, nm5, fl6, cur6, mp6, ks ++ [n], _, none, e2, by omega, hS7, hP7, hR7, fun e => absurd e (by simp), by rw [K0.out]; rfl, by omega, by simp; omega, hB7⟩
                · cases e3
                  refine ⟨S5, nm5, fl6, cur6, mp6, ks ++ [n], _, some (ks2, S6, nm6), e2, by omega, hS7, hP7, hR7, fun e => absurd e (by simp), by rw [K0.out]; simp, by omega, by simp; omega, hB7⟩
            · go_wp2_with (first
                | (at_builtin; refine wpList_append_own_at _ rfl _ _ 125 rfl (w1.heap.size + 1) 78 i0 _ 1 16 underlying125 hi0 hz0 hz1 hz2 rfl (by decide) _ _ _ rfl (HR6.out.own.alloc _) ⟨w6.heap.size, 0, none⟩ 1 1 [.iface tt xx] rfl rfl ?c1 ?c2 ?c3 ?c4 ?c5 ?_)
                | go_in)
              case c1 => exact cell_one_new _ _ _
              case c2 => intro u hu; simp at hu; subst hu; rfl
              case c3 => have := HR6.out.len; unfold maxLen; omega
              case c4 => have := HR6.out.len; omega
              case c5 => have := HS56.out.1.size; simp; omega
              intro v' w7 hO7 hG hnil hloc
              clear hnil
              have HFin := Lib.hid (And.intro hO7 (And.intro hG hloc))
              clear hO7 hG hloc
              go_wp2_with fail
              go_roundg k
              case measure => omega
              case rel =>
                obtain ⟨hO7, hG, hloc⟩ := HFin.out
                have hEa := Ext.alloc w6 (.cells #[.iface tt xx] 78)
                have hPa := HP6.out.ext hEa
                have hown : ∀ q, u6.ownBlock = some q → w1.heap.size + 1 ≤ q := fun q hq => (HR6.out.own.lt q hq).1
                have h26 := HS56.out.1.size
                have hw1 := HS1.out.1.size
                have hhi := HP1.out.1.lt.2
                have hB7 : Blk w7 w1.heap.size #[.int .i64 x.typ, .string x.val, .int .i64 x.pos] 115 := by
                  refine Blk.grown' (Blk.ext ?_ hEa) hG (by intro e; have := hown _ e.symm; omega)
                  refine KB.out.extM HS56.out.1 ?_
                  rintro (e | e)
                  · omega
                  · have hM := KP.out.2.1
                    rw [← e] at hM
                    obtain ⟨D, ⟨es, clock, hm, -⟩, -⟩ := hM
                    have := KB.out
                    unfold Blk at this
                    rw [hm] at this; cases this
                have hS7 : Step pb mp mp6 w w7 := ((KS.out.trans HS56.out).trans (Step.of_ext hEa)).grown hG (fun q hq => by have := hown q hq; omega)
                have hP7 : PSt w7 pb hi al fl6 cur6 S5 mp6 nm5 := hPa.grown (HR6.out.own.alloc _) hG (by omega) (by omega)
                have hR7 : Row w7 (w1.heap.size + 1) v' (ks ++ [n]) (vs ++ [.iface tt xx]) := by
                  have hRa : Row (w6.alloc (.cells #[.iface tt xx] 78)) (w1.heap.size + 1) u6 ks vs := ⟨HR6.out.own.alloc _, HR6.out.len, fun j h1 h2 => (HR6.out.node j h1 h2).mono (hEa.keeps _)⟩
                  refine hRa.snoc ?_ hG hO7 ?_
                  · refine ((HV.out.imp ?_).mono (hEa.keeps _))
                    intro b hb hbl
                    have h5 := HS5.out.1.size
                    refine ⟨by omega, fun e => ?_⟩
                    have := (KR.out.own.lt b e).2
                    omega
                  · intro g hg
                    rcases hloc with h | h
                    · exact .inl (h ▸ hg)
                    · rw [h] at hg; cases hg; exact .inr (by simp)
                rcases andThen_some HM2.out with ⟨e2, rfl⟩ | ⟨ks2, S6, nm6, e2, e3⟩
                · refine ⟨S5, nm5, fl6, cur6, mp6, ks ++ [n], _, none, e2, by omega, hS7, hP7, hR7, fun e => absurd e (by simp), by rw [K0.out]; rfl, by omega, by simp; omega, hB7⟩
                · cases e3
                  refine ⟨S5, nm5, fl6, cur6, mp6, ks ++ [n], _, some (ks2, S6, nm6), e2, by omega, hS7, hP7, hR7, fun e => absurd e (by simp), by rw [K0.out]; simp, by omega, by simp; omega, hB7⟩
        · rw [hy, if_pos rfl] at hM
          obtain rfl := Option.some.inj hM
          have e0 : R0 = some (ks, S4, nm') := by rw [K0.out]; simp
          have e2 := HR.out
          rw [HR0.out, e0] at e2
          simp only [PRes.andThen] at e2
          have ER := Lib.hid (Option.some.inj e2)
          have HY := Lib.hid hy
          obtain ⟨a, c, rfl, hc, hV, -⟩ := KR.out.vals
          have HV := Lib.hid hV
          have hkl : ks.length ≤ 100000 := by omega
          clear hM e0 e2 hy hV
          go_wp2_with fail
          refine (acceptP_yes 4 KP.out HY.out).mono ?_
          rintro e w4 ⟨rfl, s4, p4⟩
          have HS4 := Lib.hid s4
          have HP4 := Lib.hid p4
          clear s4 p4
          have hkp : Keeps (fun b => b ≠ pb) wr w4 := HS4.out.keeps KP.out (fun b h => h)
          have hbase : ∀ g, a = some ⟨g, 0, none⟩ → w1.heap.size + 1 ≤ g ∧ g < wr.heap.size := fun g hg => KR.out.own.lt g (by rw [hg]; rfl)
          obtain ⟨vs', g1, g2, g3⟩ := HV.out
          have hw14 : wr.heap.size ≤ w4.heap.size := HS4.out.1.size
          have hww1 : w.heap.size ≤ w1.heap.size := HS1.out.1.size
          have HN4 : Hid (∀ (j : Nat) (h1 : j < ks.length) (h2 : j < vs'.length), NodeAt (fun b => w.heap.size ≤ b ∧ b < w4.heap.size) w4 vs'[j] ks[j]) := Lib.hid (fun j h1 h2 => ((g2 j h1 h2).mono (HS4.out.keeps KP.out (fun b h => by have := h.1; omega))).imp (fun b hb hl => ⟨by have := hb.1; omega, hl⟩))
          have HC4 : Hid (ks ≠ [] → ∃ b o, a = some ⟨b, o, none⟩ ∧ b < w4.heap.size ∧ ∀ j u, vs'[j]? = some u → w4.cell? ⟨b, o + j, none⟩ = some u) := Lib.hid (fun hne => by
            obtain ⟨b, o, hab, hcc⟩ := g3 hne
            have h0 : 0 < vs'.length := by rw [← g1]; exact List.length_pos_iff.2 hne
            have hc0 := hcc 0 vs'[0] (by simp [h0])
            have hb1 := cell_lt hc0
            have hbp : b ≠ pb := by
              rintro rfl
              rw [hab] at KR
              have := (KR.out.own.lt b rfl).1
              omega
            exact ⟨b, o, hab, by simp only at hb1; omega, fun j u hu => hkp _ _ _ hbp (hcc j u hu)⟩)
          have HG1 := Lib.hid g1
          clear g1 g2 g3 hbase
          go_wp2_with fail
          have hEy := Ext.alloc w4 (.cells #[.int .i64 y.typ, .string y.val, .int .i64 y.pos] 115)
          have hEt := Ext.alloc (w4.alloc (.cells #[.int .i64 y.typ, .string y.val, .int .i64 y.pos] 115)) (.cells #[.nilIface, .nilIface] 136)
          have HBT : Hid (Blk ((w4.alloc (.cells #[.int .i64 y.typ, .string y.val, .int .i64 y.pos] 115)).alloc (.cells #[.nilIface, .nilIface] 136)) (w4.heap.size + 1) #[.nilIface, .nilIface] 136) := Lib.hid (by
            have := Blk.new (w4.alloc (.cells #[.int .i64 y.typ, .string y.val, .int .i64 y.pos] 115)) #[.nilIface, .nilIface] 136
            simpa using this)
          have HEE := Lib.hid (hEy.trans hEt)
          clear hEy hEt
          go_loopg [12] ks.length (fun k v wz => v = (match k with | 0 => .int .i64 (-1) | m + 1 => .int .i64 m) ∧ k ≤ ks.length ∧ ∃ p q, Blk wz (w4.heap.size + 1) #[p, q] 136 ∧ Ext w4 wz ∧ NodeAt (fun b => w.heap.size ≤ b ∧ b < w4.heap.size) wz (.iface 136 (.agg #[p, q])) ((ks.drop k).foldr PN.list (.list .nul .nul)))
          case atStart =>
            refine ⟨?_, Nat.le_refl _, _, _, HBT.out, HEE.out, ?_⟩
            · cases ks.length with
              | zero => rfl
              | succ m => simp
            · rw [List.drop_length]
              simp only [List.foldr_nil]
              rw [NodeAt]
              exact ⟨_, _, rfl, by rw [NodeAt], by rw [NodeAt]⟩
          case round =>
            obtain ⟨rfl, hk, p, q, hB, hE, hN⟩ := hrel
            have KB := Lib.hid hB
            have KE := Lib.hid hE
            have KNN := Lib.hid hN
            obtain ⟨t0, t1⟩ : wr.cell? ⟨w4.heap.size + 1, 0, none⟩ = some p ∧ wr.cell? ⟨w4.heap.size + 1, 1, none⟩ = some q := ⟨by rw [hB.cell]; rfl, by rw [hB.cell]; rfl⟩
            have ft := hB.frozen
            have lt := hB.lt
            clear hB hE hN
            cases gk with
            | zero =>
              go_wp2_with fail
              go_ret2
              rw [← ER.out]
              exact ⟨mp', (KS.out.trans HS4.out).trans (Step.of_ext KE.out), _, false, y, rfl, by have := KNN.out; rw [List.drop_zero] at this; exact this.imp (fun b hb _ => hb.1), trivial, HP4.out.ext KE.out⟩
            | succ m =>
              have hm : m < ks.length := by omega
              have hm' : m < vs'.length := by rw [← HG1.out]; exact hm
              obtain ⟨b, o, rfl, hb4, hcc⟩ := HC4.out (by rintro rfl; simp at hm)
              have hcm : wr.cell? ⟨b, o + m, none⟩ = some vs'[m] := KE.out.keep (hcc m _ (by simp [hm']))
              have hnm := HN4.out m hm hm'
              have hmi : (0 : Int) ≤ (m : Int) := Int.natCast_nonneg _
              have hmi2 : (m : Int) < (ks.length : Int) := by omega
              have HCC := Lib.hid hcc
              clear hcc
              rcases hnm.shape with hu | ⟨tt, xx, hu⟩
              · rw [hu] at hcm hnm
                have HNM := Lib.hid hnm
                clear hu hnm
                go_wp2_with fail
                go_region_held3 (fun w' => w'.cell? ⟨w4.heap.size + 1, 0, none⟩ = some p ∧ w'.cell? ⟨w4.heap.size + 1, 1, none⟩ = some q ∧ w'.cell? ⟨b, o + m, none⟩ = some (.nilIface)) (go_keep) (fail)
                go_wp2_with fail
                go_roundg m
                case measure => omega
                case rel =>
                  have hE' : Ext w4 (((wr.setCell ⟨w4.heap.size + 1, 0, none⟩ (.nilIface)).setCell ⟨w4.heap.size + 1, 1, none⟩ (.iface 136 (.agg #[p, q]))).alloc (.cells #[.nilIface, .iface 136 (.agg #[p, q])] 136)).drew := (((KE.out.setCell (p := ⟨w4.heap.size + 1, 0, none⟩) (Nat.le_succ _) _).setCell (p := ⟨w4.heap.size + 1, 1, none⟩) (Nat.le_succ _) _).trans (Ext.alloc _ _)).trans (Ext.drew _)
                  have hKP : Keeps (fun b => w.heap.size ≤ b ∧ b < w4.heap.size) wr (((wr.setCell ⟨w4.heap.size + 1, 0, none⟩ (.nilIface)).setCell ⟨w4.heap.size + 1, 1, none⟩ (.iface 136 (.agg #[p, q]))).alloc (.cells #[.nilIface, .iface 136 (.agg #[p, q])] 136)).drew := fun c d v hb hv => (hE'.cell (p := ⟨c, d, none⟩) hb.2).trans ((KE.out.cell (p := ⟨c, d, none⟩) hb.2).symm.trans hv)
                  refine ⟨?_, by omega, .nilIface, .iface 136 (.agg #[p, q]), (((KB.out.set 0 _).set 1 _).ext (Ext.alloc _ _)).ext (Ext.drew _), hE', ?_⟩
                  · cases m with
                    | zero => rfl
                    | succ m' => simp
                  · rw [List.drop_eq_getElem_cons hm, List.foldr_cons, NodeAt]
                    exact ⟨_, _, rfl, HNM.out.mono (hE'.keeps _), KNN.out.mono hKP⟩
              · rw [hu] at hcm hnm
                have HNM := Lib.hid hnm
                clear hu hnm
                go_wp2_with fail
                go_region_held3 (fun w' => w'.cell? ⟨w4.heap.size + 1, 0, none⟩ = some p ∧ w'.cell? ⟨w4.heap.size + 1, 1, none⟩ = some q ∧ w'.cell? ⟨b, o + m, none⟩ = some (.iface tt xx)) (go_keep) (fail)
                go_wp2_with fail
                go_roundg m
                case measure => omega
                case rel =>
                  have hE' : Ext w4 (((wr.setCell ⟨w4.heap.size + 1, 0, none⟩ (.iface tt xx)).setCell ⟨w4.heap.size + 1, 1, none⟩ (.iface 136 (.agg #[p, q]))).alloc (.cells #[.iface tt xx, .iface 136 (.agg #[p, q])] 136)).drew := (((KE.out.setCell (p := ⟨w4.heap.size + 1, 0, none⟩) (Nat.le_succ _) _).setCell (p := ⟨w4.heap.size + 1, 1, none⟩) (Nat.le_succ _) _).trans (Ext.alloc _ _)).trans (Ext.drew _)
                  have hKP : Keeps (fun b => w.heap.size ≤ b ∧ b < w4.heap.size) wr (((wr.setCell ⟨w4.heap.size + 1, 0, none⟩ (.iface tt xx)).setCell ⟨w4.heap.size + 1, 1, none⟩ (.iface 136 (.agg #[p, q]))).alloc (.cells #[.iface tt xx, .iface 136 (.agg #[p, q])] 136)).drew := fun c d v hb hv => (hE'.cell (p := ⟨c, d, none⟩) hb.2).trans ((KE.out.cell (p := ⟨c, d, none⟩) hb.2).symm.trans hv)
                  refine ⟨?_, by omega, .iface tt xx, .iface 136 (.agg #[p, q]), (((KB.out.set 0 _).set 1 _).ext (Ext.alloc _ _)).ext (Ext.drew _), hE', ?_⟩
                  · cases m with
                    | zero => rfl
                    | succ m' => simp
                  · rw [List.drop_eq_getElem_cons hm, List.foldr_cons, NodeAt]
                    exact ⟨_, _, rfl, HNM.out.mono (hE'.keeps _), KNN.out.mono hKP⟩
/-- object, by its first item. -/
theorem object_walk {al : Bool} {f : Nat} (hN : NodeC al f) (hA : ArrayC al f) (hO : ∀ g, g < f → ObjectC al g) : ObjectC al (f + 1) := by
  intro S nm r hr hl pb hi fl cur mp w hP
  cases S with
  | nil => rw [objectM] at hr; cases hr
  | cons x S1 =>
  rw [objectM_cons] at hr
  cases h1 : (x.typ == 1)
  · rw [h1] at hr
    simp only [Bool.false_eq_true, if_false] at hr
    cases h3 : (x.typ == 3)
    · rw [h3] at hr
      simp only [Bool.false_eq_true, if_false] at hr
      cases h6 : (x.typ == 6)
      · rw [h6] at hr
        simp only [Bool.false_eq_true, if_false] at hr
        cases h9 : (x.typ == 9)
        · rw [h9] at hr
          simp only [Bool.false_eq_true, if_false] at hr
          cases h10 : (x.typ == 10)
          · rw [h10] at hr
            simp only [Bool.false_eq_true, if_false] at hr
            cases hr
            exact obj_err h1 h3 h6 h9 h10 hP
          · rw [h10, if_pos rfl] at hr
            cases hr
            exact obj_string (eq_of_beq h10) hP
        · rw [h9, if_pos rfl] at hr
          exact obj_blank (eq_of_beq h9) hO hr hl hP
      · rw [h6, if_pos rfl] at hr
        cases hv : (x.val.toList == [110, 105, 108])
        · rw [hv] at hr
          simp only [Bool.false_eq_true, if_false] at hr
          cases S1 with
          | nil => cases hr
          | cons y S2 =>
            simp only at hr
            cases h7 : (y.typ == 7)
            · rw [h7] at hr
              simp only [Bool.false_eq_true, if_false] at hr
              exact obj_var rfl (eq_of_beq h6) hv h7 hO hr hl hP
            · rw [h7, if_pos rfl] at hr
              exact obj_at rfl (eq_of_beq h6) hv h7 hN hO hr hl hP
        · rw [hv, if_pos rfl] at hr
          cases hr
          exact obj_nil (eq_of_beq h6) hv hP
    · rw [h3, if_pos rfl] at hr
      exact obj_array (eq_of_beq h3) (fun fl cur w hP => hA (x :: S1) nm r hr hl pb hi fl cur mp w hP) hP
  · rw [h1, if_pos rfl] at hr
    exact obj_paren (eq_of_beq h1) hN hO hr hl hP
/-- The parser's three, at every fuel. -/
theorem parser_all (al : Bool) : ∀ f : Nat, f ≤ 100000 → (∀ g, g ≤ f → NodeC al g ∧ ArrayC al g ∧ ObjectC al g)
  | 0, _, g, hg => by
    obtain rfl : g = 0 := by omega
    exact ⟨fun S nm r hr => (by rw [nodeM] at hr; cases hr), fun S nm r hr => (by rw [arrayM] at hr; cases hr), fun S nm r hr => (by rw [objectM] at hr; cases hr)⟩
  | f + 1, hf, g, hg => by
    have ih := parser_all al f (by omega)
    by_cases h : g ≤ f
    · exact ih g h
    · obtain rfl : g = f + 1 := by omega
      have hobj : ∀ k, k < f + 1 → ObjectC al k := fun k hk => (ih k (by omega)).2.2
      have hN := node_walk (al := al) (f := f) (by omega) hobj
      have hA := array_walk (al := al) (f := f) (by omega) hobj
      exact ⟨hN, hA, object_walk (ih f (Nat.le_refl _)).1 (ih f (Nat.le_refl _)).2.1 (fun k hk => hobj k (by omega))⟩
/-- node: what the parser makes of items. -/
theorem node_calls (al : Bool) (f : Nat) (hf : f ≤ 100000) : NodeC al f := (parser_all al f hf f (Nat.le_refl _)).1
end Go.Proofs.YtigalkobmfbdaaaGreatDoor
