/- FnEmpty: the empty list's pattern. -/
import Derived.Test.YtigalkobmfbdaaaGreatDoorMix1q
import Derived.Test.YtigalkobmfbdaaaGreatDoorMix1g
import Derived.Test.YtigalkobmfbdaaaGreatDoorTopSZ1
set_option linter.unusedVariables false
set_option linter.unusedSimpArgs false
namespace Go.Proofs.YtigalkobmfbdaaaGreatDoor
open Go.RowKit Go.WideMaps Go.Sort
theorem retS_in {X : Nat → Prop} {w W : World} {a : Option Addr} {ks : List Syn} {c : Nat} (nl : Bool) (hk : ks.length ≤ c) (hc : c ≤ 140737488351232) (hS : SynsIn X W a ks) (hX : ∀ b, b = W.heap.size → X b) (hb : Blk w W.heap.size #[.string ⟨#[91, 93, 69, 120, 112, 114]⟩, .bool nl, .string ⟨#[]⟩, .int .i64 0, .slice a ks.length c] 52) (hE : Ext W w) :
    SynIn X w (some ⟨W.heap.size, 0, none⟩) 1 (retS nl ks) := by
  obtain ⟨p0, p1, p2, p3, p4⟩ := Blk5 hb
  rw [SynIn]
  refine ⟨⟨by decide, by decide, by decide⟩, Nat.le_refl _, by decide, ?_⟩
  rw [SynsIn]
  refine ⟨_, _, a, c, rfl, hX _ rfl, p0, p1, p2, p3, p4, ?_, trivial⟩
  rw [SynIn]
  exact ⟨⟨by decide, by decide, by decide⟩, hk, hc, hS.turn fun _ _ _ hb hc => ⟨hb, hE.keep hc⟩⟩
theorem empty_start {W : World} {a : Option Addr} {ks : List Syn} {c : Nat} (nl : Bool) (hk : ks.length ≤ c) (hc : c ≤ 140737488351232) (hS : SynsIn (LiveIn W) W a ks) {w : World}
    (hw : w = (W.alloc (.cells #[.string ⟨#[91, 93, 69, 120, 112, 114]⟩, .bool nl, .string ⟨#[]⟩, .int .i64 0, .slice a ks.length c] 52)).alloc (.cells #[.string ⟨#[82, 101, 116, 117, 114, 110, 83, 116, 109, 116]⟩, .bool false, .string ⟨#[]⟩, .int .i64 0, .slice (some ⟨W.heap.size, 0, none⟩) 1 1] 52)) :
    SynIn (fun _ => True) w (some ⟨W.heap.size, 0, none⟩) 1 (retS nl ks) ∧ Ext W w ∧ Blk w (W.heap.size + 1) #[.string ⟨#[82, 101, 116, 117, 114, 110, 83, 116, 109, 116]⟩, .bool false, .string ⟨#[]⟩, .int .i64 0, .slice (some ⟨W.heap.size, 0, none⟩) 1 1] 52 ∧ Blk w W.heap.size #[.string ⟨#[91, 93, 69, 120, 112, 114]⟩, .bool nl, .string ⟨#[]⟩, .int .i64 0, .slice a ks.length c] 52 := by
  subst hw
  have hE := (Ext.alloc W (.cells #[.string ⟨#[91, 93, 69, 120, 112, 114]⟩, .bool nl, .string ⟨#[]⟩, .int .i64 0, .slice a ks.length c] 52)).trans (Ext.alloc _ (.cells #[.string ⟨#[82, 101, 116, 117, 114, 110, 83, 116, 109, 116]⟩, .bool false, .string ⟨#[]⟩, .int .i64 0, .slice (some ⟨W.heap.size, 0, none⟩) 1 1] 52))
  have hB := (Blk.new W #[.string ⟨#[91, 93, 69, 120, 112, 114]⟩, .bool nl, .string ⟨#[]⟩, .int .i64 0, .slice a ks.length c] 52).ext (Ext.alloc _ (.cells #[.string ⟨#[82, 101, 116, 117, 114, 110, 83, 116, 109, 116]⟩, .bool false, .string ⟨#[]⟩, .int .i64 0, .slice (some ⟨W.heap.size, 0, none⟩) 1 1] 52))
  have hB2 := Blk.new (W.alloc (.cells #[.string ⟨#[91, 93, 69, 120, 112, 114]⟩, .bool nl, .string ⟨#[]⟩, .int .i64 0, .slice a ks.length c] 52)) #[.string ⟨#[82, 101, 116, 117, 114, 110, 83, 116, 109, 116]⟩, .bool false, .string ⟨#[]⟩, .int .i64 0, .slice (some ⟨W.heap.size, 0, none⟩) 1 1] 52
  rw [show (W.alloc (.cells #[.string ⟨#[91, 93, 69, 120, 112, 114]⟩, .bool nl, .string ⟨#[]⟩, .int .i64 0, .slice a ks.length c] 52)).heap.size = W.heap.size + 1 by simp] at hB2
  exact ⟨retS_in nl hk hc (hS.turn fun b o v _ h => ⟨trivial, h⟩) (fun _ _ => trivial) hB hE, hE, hB2, hB⟩
/-- The first two patterns and the third, at any later world. -/
theorem emp_matches {nl : Bool} {ks : List Syn} (hr : right (retS nl ks) 115 ⟨#[]⟩ = true) (hp1 : (partsOf (retS nl ks)).1 ≤ 60) (hp2 : (partsOf (retS nl ks)).2 ≤ 14) {X : Nat → Prop} {w : World} {a : Option Addr} {c : Nat} (hS : SynIn X w a c (retS nl ks)) (hT : TabAt w) :
    Calls Tryz.prog 37 #[.string ⟨#[40, 82, 101, 116, 117, 114, 110, 83, 116, 109, 116, 32, 40, 76, 105, 115, 116, 32, 110, 105, 108, 32, 110, 105, 108, 41, 41]⟩, synV (retS nl ks) a c] w (MatchRes w ks.isEmpty []) ∧ Calls Tryz.prog 37 #[.string ⟨#[40, 82, 101, 116, 117, 114, 110, 83, 116, 109, 116, 32, 91, 93, 41]⟩, synV (retS nl ks) a c] w (MatchRes w ks.isEmpty []) := by
  obtain ⟨f1, f2, f3⟩ := parts_fit hp1 hp2 (by omega)
  have hrz : RZ (retS nl ks) := ⟨⟨115, by decide, ⟨#[]⟩, hr⟩, f3⟩
  refine ⟨?_, ?_⟩
  · obtain ⟨E, hE⟩ := pEmp_entry.1
    exact imatch_node readsA (by decide) nEmpA_facts.1 nEmpA_facts.2.1 hE ⟨List.nodup_nil, by decide, fun s h => by cases h⟩ nEmpA_facts.2.2 rfl (fun ks e => by cases e) (.inr rfl) hr (by omega) (by omega) hrz (mt_emptyA _ _ _) hS hT
  · obtain ⟨E, hE⟩ := pEmp_entry.2.1
    rw [← pEmpB_facts.2.2.2.1]
    exact imatch_good pEmpB_facts.1 pEmpB_facts.2.1 pEmpB_facts.2.2.1 (by rw [pEmpB_facts.2.2.2.1]; decide) hE (by rw [pEmpB_facts.2.2.2.2]; intro s h; cases h) (.inr rfl) hr (by omega) (by omega) hrz (by rw [pEmpB_pn]; exact mt_emptyB _ _ _) hS hT
theorem cmpS_in {W w : World} {a : Option Addr} {ks : List Syn} {c : Nat} (nl : Bool) (hk : ks.length ≤ c) (hc : c ≤ 140737488351232) (hS : SynsIn (LiveIn W) W a ks) (hE : Ext W w) :
    SynIn (fun _ => True) (w.alloc (.cells #[.string ⟨#[]⟩, .bool false, .string ⟨#[]⟩, .int .i64 0, .slice none 0 0, .string ⟨#[91, 93, 69, 120, 112, 114]⟩, .bool nl, .string ⟨#[]⟩, .int .i64 0, .slice a ks.length c, .string ⟨#[98, 111, 111, 108]⟩, .bool false, .string ⟨#[]⟩, .int .i64 0, .slice none 0 0] 52)) (some ⟨w.heap.size, 0, none⟩) 3 (cmpS nl ks) := by
  have hB := Blk.new w #[.string ⟨#[]⟩, .bool false, .string ⟨#[]⟩, .int .i64 0, .slice none 0 0, .string ⟨#[91, 93, 69, 120, 112, 114]⟩, .bool nl, .string ⟨#[]⟩, .int .i64 0, .slice a ks.length c, .string ⟨#[98, 111, 111, 108]⟩, .bool false, .string ⟨#[]⟩, .int .i64 0, .slice none 0 0] 52
  have hE2 := hE.trans (Ext.alloc w (.cells #[.string ⟨#[]⟩, .bool false, .string ⟨#[]⟩, .int .i64 0, .slice none 0 0, .string ⟨#[91, 93, 69, 120, 112, 114]⟩, .bool nl, .string ⟨#[]⟩, .int .i64 0, .slice a ks.length c, .string ⟨#[98, 111, 111, 108]⟩, .bool false, .string ⟨#[]⟩, .int .i64 0, .slice none 0 0] 52))
  generalize w.alloc (.cells #[.string ⟨#[]⟩, .bool false, .string ⟨#[]⟩, .int .i64 0, .slice none 0 0, .string ⟨#[91, 93, 69, 120, 112, 114]⟩, .bool nl, .string ⟨#[]⟩, .int .i64 0, .slice a ks.length c, .string ⟨#[98, 111, 111, 108]⟩, .bool false, .string ⟨#[]⟩, .int .i64 0, .slice none 0 0] 52) = w2 at *
  have hl : SynIn (fun _ => True) w2 a c (listS nl ks) := by
    rw [SynIn]
    exact ⟨⟨by decide, by decide, by decide⟩, hk, hc, hS.turn fun _ _ _ hb hc => ⟨trivial, hE2.keep hc⟩⟩
  have hz : ∀ k : ByteArray, k.size ≤ 140737488351232 → SynIn (fun _ => True) w2 none 0 (.mk k false ⟨#[]⟩ 0 []) := fun k hk => by
    rw [SynIn]
    exact ⟨⟨hk, by decide, by decide⟩, Nat.le_refl _, by decide, trivial⟩
  rw [SynIn]
  refine ⟨⟨by decide, by decide, by decide⟩, Nat.le_refl _, by decide, ?_⟩
  rw [SynsIn]
  refine ⟨_, _, none, 0, rfl, trivial, by rw [hB.cell]; rfl, by rw [hB.cell]; rfl, by rw [hB.cell]; rfl, by rw [hB.cell]; rfl, by rw [hB.cell]; rfl, hz _ (by decide), ?_⟩
  rw [SynsIn]
  refine ⟨_, _, a, c, rfl, trivial, by rw [hB.cell]; rfl, by rw [hB.cell]; rfl, by rw [hB.cell]; rfl, by rw [hB.cell]; rfl, by rw [hB.cell]; rfl, hl, ?_⟩
  rw [SynsIn]
  exact ⟨_, _, none, 0, rfl, trivial, by rw [hB.cell]; rfl, by rw [hB.cell]; rfl, by rw [hB.cell]; rfl, by rw [hB.cell]; rfl, by rw [hB.cell]; rfl, hz _ (by decide), trivial⟩
theorem emp_third {nl : Bool} {ks : List Syn} (hr : right (retS nl ks) 115 ⟨#[]⟩ = true) (hp1 : (partsOf (retS nl ks)).1 ≤ 60) (hp2 : (partsOf (retS nl ks)).2 ≤ 14) {X : Nat → Prop} {w : World} {a : Option Addr} {c : Nat} (hS : SynIn X w a c (cmpS nl ks)) (hT : TabAt w) :
    Calls Tryz.prog 37 #[.string ⟨#[40, 67, 111, 109, 112, 111, 115, 105, 116, 101, 76, 105, 116, 32, 91, 93, 32, 95, 41]⟩, synV (cmpS nl ks) a c] w (MatchRes w false []) := by
  obtain ⟨f1, f2, -⟩ := parts_fit hp1 hp2 (by omega)
  have g1 : countS (cmpS nl ks) = countS (retS nl ks) + 2 := by simp only [countS_mk, countSs]; omega
  have g2 : depthS (cmpS nl ks) ≤ depthS (retS nl ks) + 2 := by simp only [depthS_mk, depthSs]; omega
  have g3 := sizeS_count (cmpS nl ks)
  have hr2 := emp_right hr
  obtain ⟨E, hE⟩ := pEmp_entry.2.2
  rw [← pEmpC_facts.2.2.2.1]
  exact imatch_good pEmpC_facts.1 pEmpC_facts.2.1 pEmpC_facts.2.2.1 (by rw [pEmpC_facts.2.2.2.1]; decide) hE (by rw [pEmpC_facts.2.2.2.2]; intro s h; cases h) (.inl rfl) hr2 (by omega) (by omega) ⟨⟨101, by decide, ⟨#[]⟩, hr2⟩, by omega⟩ (by rw [pEmpC_pn]; exact mt_none _ _ _) hS hT
set_option maxRecDepth 100000 in
set_option maxHeartbeats 4000000 in
theorem empty_law (ks : List Syn) (a : Option Addr) (c : Nat) (b : Bool) (W : World) (hS : ks.length ≤ c ∧ c ≤ 140737488351232 ∧ SynsIn (LiveIn W) W a ks) (hT : TabAt W) : Calls Tryz.prog 12 #[.slice a ks.length c, .bool b] W fun e w' => e = .returned (.bool true) ∧ Ext W w' := by
  obtain ⟨hk, hc, hS⟩ := hS
  have HS := Lib.hid hS
  have HT := Lib.hid hT
  have HKC := Lib.hid (And.intro hk hc)
  clear hS hT
  by_cases hbig : 2147483647 < ks.length
  · have hbig2 : (2147483647 : Int) < ks.length := by omega
    go_enter Tryz.func12, Tryz.ntmps12
    go_wp2_with fail
    go_ret
    exact ⟨rfl, Ext.refl _⟩
  · have hbig2 : ¬ (2147483647 : Int) < ks.length := by omega
    obtain ⟨nl, hnl⟩ : ∃ nl : Bool, nl = (b && decide (ks.length = 0)) := ⟨_, rfl⟩
    have main : ∀ n : Nat, n = ks.length → Calls Tryz.prog 12 #[.slice a n c, .bool b] W fun e w' => e = .returned (.bool true) ∧ Ext W w' := by
      intro n hn
      have hnn : ¬ (2147483647 : Int) < n := by omega
      have HN := Lib.hid (And.intro hn hnl)
      clear hbig hbig2 hn hnl hk hc
      cases b
      · go_enter Tryz.func12, Tryz.ntmps12
        go_wp2_with fail
        obtain rfl : n = ks.length := HN.out.1
        have hst := empty_start (W := W) (a := a) (ks := ks) (c := c) false HKC.out.1 HKC.out.2 HS.out rfl
        refine (partsOf_calls (retS false ks) _ _ _ hst.1).mono ?_
        rintro e w3 ⟨rfl, hE3⟩
        have K3 := Lib.hid (And.intro (hst.1.mono hE3) (hst.2.1.trans hE3))
        obtain ⟨q0, q1, q2, q3, q4⟩ := Blk5 (hst.2.2.1.ext hE3)
        obtain ⟨r0, r1, r2, r3, r4⟩ := Blk5 (hst.2.2.2.ext hE3)
        have ql := cell_lt q0
        have rl := cell_lt r0
        clear hst hE3
        have HP := Lib.hid (show (partsOf (retS false ks)) = ((partsOf (retS false ks)).1, (partsOf (retS false ks)).2) from rfl)
        generalize hp1 : (partsOf (retS false ks)).1 = p1 at *
        generalize hp2 : (partsOf (retS false ks)).2 = p2 at *
        have HPP := Lib.hid (And.intro hp1 hp2)
        clear hp1 hp2 HP
        by_cases h20 : (20 : Int) < ks.length
        · go_wp2_with fail
          go_ret
          exact ⟨rfl, K3.out.2⟩
        by_cases h60 : (60 : Int) < p1
        · go_wp2_with fail
          go_ret
          exact ⟨rfl, K3.out.2⟩
        by_cases h14 : (14 : Int) < p2
        · go_wp2_with fail
          go_ret
          exact ⟨rfl, K3.out.2⟩
        go_wp2_with fail
        refine (right_all (retS false ks) 115 (by decide) ⟨#[]⟩ _ _ _ _ K3.out.1).mono ?_
        rintro e w4 ⟨⟨rb, rfl, hrb⟩, hE4⟩
        have HRB := Lib.hid hrb
        replace q0 := hE4.keep q0
        replace q1 := hE4.keep q1
        replace q2 := hE4.keep q2
        replace q3 := hE4.keep q3
        replace q4 := hE4.keep q4
        have ql := cell_lt q0
        have K4 := Lib.hid (And.intro (K3.out.1.mono hE4) (And.intro (K3.out.2.trans hE4) hE4))
        clear hrb hE4
        cases rb with
        | false =>
          go_wp2_with fail
          go_ret
          exact ⟨rfl, K4.out.2.1⟩
        | true =>
          have hr := HRB.out rfl
          have HM := Lib.hid (fun (w : World) (hx : Ext w4 w) => emp_matches hr (by have := HPP.out.1; omega) (by have := HPP.out.2; omega) (K4.out.1.mono hx) (HT.out.toExt (K4.out.2.1.trans hx)))
          have HR1 := Lib.hid hr
          clear hr
          go_wp2_with fail
          refine (HM.out w4 (Ext.refl _)).1.mono ?_
          rintro e w5 ⟨⟨a5, c5, rfl, -, -, -⟩, hE5⟩
          rw [show ([] : SL).length = 0 from rfl]
          replace q0 := hE5.keep q0
          replace q1 := hE5.keep q1
          replace q2 := hE5.keep q2
          replace q3 := hE5.keep q3
          replace q4 := hE5.keep q4
          have ql := cell_lt q0
          have K5 := Lib.hid hE5
          clear hE5
          go_wp2_with fail
          refine (HM.out w5 K5.out).2.mono ?_
          rintro e w6 ⟨⟨a6, c6, rfl, -, -, -⟩, hE6⟩
          rw [show ([] : SL).length = 0 from rfl]
          have hE46 := K5.out.trans hE6
          have hE36 := K4.out.2.2.trans hE46
          replace q4 := hE6.keep q4
          have ql := cell_lt q4
          replace r0 := hE36.keep r0
          replace r1 := hE36.keep r1
          replace r2 := hE36.keep r2
          replace r3 := hE36.keep r3
          replace r4 := hE36.keep r4
          have rl := cell_lt r0
          have K6 := Lib.hid (K4.out.2.1.trans hE46)
          have hcm := cmpS_in false HKC.out.1 HKC.out.2 HS.out K6.out
          have HC := Lib.hid (emp_third HR1.out (by have := HPP.out.1; omega) (by have := HPP.out.2; omega) hcm (HT.out.toExt (K6.out.trans (Ext.alloc _ _))))
          clear hE6 hE46 hE36 q0 q1 q2 q3 hcm
          go_wp2_with fail
          refine HC.out.mono ?_
          rintro e w7 ⟨⟨a7, c7, rfl, -, -, -⟩, hE7⟩
          have K7 := Lib.hid ((K6.out.trans (Ext.alloc _ _)).trans hE7)
          have HA := Lib.hid (alive_calls (HT.out.toExt K7.out))
          clear hE7
          by_cases h0 : ks.length = 0
          · have hz : ((ks.length : Int) == 0) = true := by simp [h0]
            rw [show ks.isEmpty = true by cases ks with | nil => rfl | cons _ _ => simp at h0]
            clear h0
            go_wp2_with fail
            refine HA.out.mono ?_
            rintro e w8 ⟨rfl, hE8⟩
            have K8 := Lib.hid (K7.out.trans hE8)
            clear hE8
            go_wp2_with fail
            go_ret
            exact ⟨rfl, K8.out⟩
          · have hz : ((ks.length : Int) == 0) = false := by simpa using h0
            rw [show ks.isEmpty = false by cases ks with | nil => exact absurd rfl h0 | cons _ _ => rfl]
            clear h0
            go_wp2_with fail
            refine HA.out.mono ?_
            rintro e w8 ⟨rfl, hE8⟩
            have K8 := Lib.hid (K7.out.trans hE8)
            clear hE8
            go_wp2_with fail
            go_ret
            exact ⟨rfl, K8.out⟩
      · go_enter Tryz.func12, Tryz.ntmps12
        go_wp2_with fail
        obtain rfl : n = ks.length := HN.out.1
        have hst := empty_start (W := W) (a := a) (ks := ks) (c := c) ((ks.length : Int) == 0) HKC.out.1 HKC.out.2 HS.out rfl
        refine (partsOf_calls (retS ((ks.length : Int) == 0) ks) _ _ _ hst.1).mono ?_
        rintro e w3 ⟨rfl, hE3⟩
        have K3 := Lib.hid (And.intro (hst.1.mono hE3) (hst.2.1.trans hE3))
        obtain ⟨q0, q1, q2, q3, q4⟩ := Blk5 (hst.2.2.1.ext hE3)
        obtain ⟨r0, r1, r2, r3, r4⟩ := Blk5 (hst.2.2.2.ext hE3)
        have ql := cell_lt q0
        have rl := cell_lt r0
        clear hst hE3
        have HP := Lib.hid (show (partsOf (retS ((ks.length : Int) == 0) ks)) = ((partsOf (retS ((ks.length : Int) == 0) ks)).1, (partsOf (retS ((ks.length : Int) == 0) ks)).2) from rfl)
        generalize hp1 : (partsOf (retS ((ks.length : Int) == 0) ks)).1 = p1 at *
        generalize hp2 : (partsOf (retS ((ks.length : Int) == 0) ks)).2 = p2 at *
        have HPP := Lib.hid (And.intro hp1 hp2)
        clear hp1 hp2 HP
        by_cases h20 : (20 : Int) < ks.length
        · go_wp2_with fail
          go_ret
          exact ⟨rfl, K3.out.2⟩
        by_cases h60 : (60 : Int) < p1
        · go_wp2_with fail
          go_ret
          exact ⟨rfl, K3.out.2⟩
        by_cases h14 : (14 : Int) < p2
        · go_wp2_with fail
          go_ret
          exact ⟨rfl, K3.out.2⟩
        go_wp2_with fail
        refine (right_all (retS ((ks.length : Int) == 0) ks) 115 (by decide) ⟨#[]⟩ _ _ _ _ K3.out.1).mono ?_
        rintro e w4 ⟨⟨rb, rfl, hrb⟩, hE4⟩
        have HRB := Lib.hid hrb
        replace q0 := hE4.keep q0
        replace q1 := hE4.keep q1
        replace q2 := hE4.keep q2
        replace q3 := hE4.keep q3
        replace q4 := hE4.keep q4
        have ql := cell_lt q0
        have K4 := Lib.hid (And.intro (K3.out.1.mono hE4) (And.intro (K3.out.2.trans hE4) hE4))
        clear hrb hE4
        cases rb with
        | false =>
          go_wp2_with fail
          go_ret
          exact ⟨rfl, K4.out.2.1⟩
        | true =>
          have hr := HRB.out rfl
          have HM := Lib.hid (fun (w : World) (hx : Ext w4 w) => emp_matches hr (by have := HPP.out.1; omega) (by have := HPP.out.2; omega) (K4.out.1.mono hx) (HT.out.toExt (K4.out.2.1.trans hx)))
          have HR1 := Lib.hid hr
          clear hr
          go_wp2_with fail
          refine (HM.out w4 (Ext.refl _)).1.mono ?_
          rintro e w5 ⟨⟨a5, c5, rfl, -, -, -⟩, hE5⟩
          rw [show ([] : SL).length = 0 from rfl]
          replace q0 := hE5.keep q0
          replace q1 := hE5.keep q1
          replace q2 := hE5.keep q2
          replace q3 := hE5.keep q3
          replace q4 := hE5.keep q4
          have ql := cell_lt q0
          have K5 := Lib.hid hE5
          clear hE5
          go_wp2_with fail
          refine (HM.out w5 K5.out).2.mono ?_
          rintro e w6 ⟨⟨a6, c6, rfl, -, -, -⟩, hE6⟩
          rw [show ([] : SL).length = 0 from rfl]
          have hE46 := K5.out.trans hE6
          have hE36 := K4.out.2.2.trans hE46
          replace q4 := hE6.keep q4
          have ql := cell_lt q4
          replace r0 := hE36.keep r0
          replace r1 := hE36.keep r1
          replace r2 := hE36.keep r2
          replace r3 := hE36.keep r3
          replace r4 := hE36.keep r4
          have rl := cell_lt r0
          have K6 := Lib.hid (K4.out.2.1.trans hE46)
          have hcm := cmpS_in ((ks.length : Int) == 0) HKC.out.1 HKC.out.2 HS.out K6.out
          have HC := Lib.hid (emp_third HR1.out (by have := HPP.out.1; omega) (by have := HPP.out.2; omega) hcm (HT.out.toExt (K6.out.trans (Ext.alloc _ _))))
          clear hE6 hE46 hE36 q0 q1 q2 q3 hcm
          go_wp2_with fail
          refine HC.out.mono ?_
          rintro e w7 ⟨⟨a7, c7, rfl, -, -, -⟩, hE7⟩
          have K7 := Lib.hid ((K6.out.trans (Ext.alloc _ _)).trans hE7)
          have HA := Lib.hid (alive_calls (HT.out.toExt K7.out))
          clear hE7
          by_cases h0 : ks.length = 0
          · have hz : ((ks.length : Int) == 0) = true := by simp [h0]
            rw [show ks.isEmpty = true by cases ks with | nil => rfl | cons _ _ => simp at h0]
            clear h0
            go_wp2_with fail
            refine HA.out.mono ?_
            rintro e w8 ⟨rfl, hE8⟩
            have K8 := Lib.hid (K7.out.trans hE8)
            clear hE8
            go_wp2_with fail
            go_ret
            exact ⟨rfl, K8.out⟩
          · have hz : ((ks.length : Int) == 0) = false := by simpa using h0
            rw [show ks.isEmpty = false by cases ks with | nil => exact absurd rfl h0 | cons _ _ => rfl]
            clear h0
            go_wp2_with fail
            refine HA.out.mono ?_
            rintro e w8 ⟨rfl, hE8⟩
            have K8 := Lib.hid (K7.out.trans hE8)
            clear hE8
            go_wp2_with fail
            go_ret
            exact ⟨rfl, K8.out⟩
    exact main _ rfl
end Go.Proofs.YtigalkobmfbdaaaGreatDoor
