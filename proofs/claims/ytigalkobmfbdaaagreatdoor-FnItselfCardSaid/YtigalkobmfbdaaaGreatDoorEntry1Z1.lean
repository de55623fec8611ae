/- collectEntryNodes at roots that are nodes of types, Or and Not of such. -/
import Derived.Test.YtigalkobmfbdaaaGreatDoorSym1Z1
set_option linter.unusedVariables false
set_option linter.unusedSimpArgs false
namespace Go.Proofs.YtigalkobmfbdaaaGreatDoor
open Go.RowKit Go.WideMaps
theorem underlying160 : Tryz.prog.underlying 160 = some (.map 9 4) := by kernel_rfl
theorem underlying4 : Tryz.prog.underlying 4 = some .bool := by kernel_rfl
theorem law9b : Maps.Keyed Tryz.prog 9 := Maps.string_keyed underlying9
/-- A map holds these keys. -/
def SetIs (w : World) (mb k : Nat) (names : Names) : Prop :=
  ∃ D : DataW Unit, w.ownsMap Tryz.prog 9 (plainElem Tryz.prog 4) mb k D ∧ Maps.size D = names.length ∧ ∀ s, Maps.has D (keyL s) = decide (s ∈ names)
theorem SetIs.mono {w : World} {mb k k' : Nat} {names : Names} (h : SetIs w mb k names) (hk : k ≤ k') : SetIs w mb k' names := by
  obtain ⟨D, h1, h2⟩ := h; exact ⟨D, h1.mono hk, h2⟩
theorem SetIs.extM {M : Nat → Prop} {w w' : World} {mb k : Nat} {names : Names} (h : SetIs w mb k names) (hE : ExtM M w w') (hM : ¬ M mb) : SetIs w' mb k names := by
  obtain ⟨D, h1, h2⟩ := h
  have hlt := h1.lt
  obtain ⟨es, clock, hb, r⟩ := h1
  exact ⟨D, ⟨es, clock, (hE.block mb hlt hM).trans hb, r⟩, h2⟩
theorem SetIs.ext {w w' : World} {mb k : Nat} {names : Names} (h : SetIs w mb k names) (hE : Ext w w') : SetIs w' mb k names := h.extM (hE.toM fun _ => False) (fun h => h)
theorem SetIs.add {w' : World} {mb k : Nat} {names : Names} {D : DataW Unit} (h2 : Maps.size D = names.length) (h3 : ∀ s, Maps.has D (keyL s) = decide (s ∈ names)) (hT : Maps.Tidy D) {s : List UInt8} {v : DataW Unit} (h : w'.ownsMap Tryz.prog 9 (plainElem Tryz.prog 4) mb (k + 1) (D.put (keyL s) v)) : SetIs w' mb (k + 1) (addName names s) := by
  refine ⟨_, h, ?_, fun t => ?_⟩
  · rw [Maps.size_put hT, h3]
    unfold addName
    by_cases hs : s ∈ names <;> simp [hs, h2]
  · by_cases e : t = s
    · subst e; rw [Maps.has_put_same hT.isMap (k := keyL t) trivial]; simp [mem_addName]
    · rw [Maps.has_put_other (keyL_ne e), h3]; simp [mem_addName, e]
theorem named_types_facts : ∀ x ∈ fieldsT, (x.1.toList == [66, 117, 105, 108, 116, 105, 110]) = false ∧ (x.1.toList == [79, 98, 106, 101, 99, 116]) = false ∧ (x.1.toList == [83, 121, 109, 98, 111, 108]) = false ∧ (x.1.toList == [73, 110, 116, 101, 103, 101, 114, 76, 105, 116, 101, 114, 97, 108]) = false ∧ (x.1.toList == [84, 114, 117, 108, 121, 67, 111, 110, 115, 116, 97, 110, 116, 69, 120, 112, 114, 101, 115, 115, 105, 111, 110]) = false ∧ (x.1.toList == [69, 108, 108, 105, 112, 115, 105, 115]) = false := by decide +kernel
set_option maxRecDepth 100000 in
set_option maxHeartbeats 1000000 in
theorem types_named {k : ByteArray} (hn : named k = true) (w : World) : Calls Tryz.prog 122 #[.string k] w fun e w' => ∃ g, e = .returned (.tuple #[.slice (some ⟨g, 0, none⟩) 1 1, .bool true]) ∧ w'.cell? ⟨g, 0, none⟩ = some (.string k) ∧ w.heap.size ≤ g ∧ Ext w w' := by
  obtain ⟨y, hy, rfl⟩ := named_key hn
  obtain ⟨h1, h2, h3, h4, h5, h6⟩ := named_types_facts y hy
  have HS := Lib.hid ((named_facts y hy).2.2.1 hn)
  clear hn hy
  go_enter Tryz.func122, Tryz.ntmps122
  go_wp2_with fail
  refine (sn_some HS.out _).mono ?_
  rintro e w1 ⟨rfl, rfl⟩
  go_wp2_with fail
  go_ret2
  exact ⟨_, rfl, Blk1 (Blk.new _ _ _), Nat.le_refl _, Ext.alloc _ _⟩
theorem cntAll_take : ∀ (ks : List PN) (j : Nat) (h : j < ks.length), cntAll (ks.take (j + 1)) = cntAll (ks.take j) + ks[j].cnt
  | n :: ns, 0, _ => by simp [cntAll]
  | n :: ns, j + 1, h => by
    have := cntAll_take ns j (by simpa using h)
    simp only [List.take_succ_cons, cntAll, List.getElem_cons_succ, this]
    omega
theorem cntAll_take_le : ∀ (ks : List PN) (j : Nat), cntAll (ks.take j) ≤ cntAll ks
  | [], j => by simp
  | n :: ns, 0 => by simp [cntAll]
  | n :: ns, j + 1 => by
    have := cntAll_take_le ns j
    simp only [List.take_succ_cons, cntAll]
    omega
theorem toTrees_tame : ∀ {ks : List PN} (_ : tameAll (toTrees ks) = true) (j : Nat) (hj : j < ks.length), tame (toTree ks[j]) = true
  | n :: ns, h, 0, _ => by rw [toTrees] at h; simp only [tameAll, Bool.and_eq_true] at h; exact h.1
  | n :: ns, h, j + 1, hj => by rw [toTrees] at h; simp only [tameAll, Bool.and_eq_true] at h; simpa using toTrees_tame h.2 j (by simpa using hj)
def EntryC (n : PN) : Prop := ∀ (acc E : Names), entryN n acc = some E → ∀ (X : Nat → Prop) (v : Value) (w : World) (mb k : Nat), NodeAt X w v n → (∀ b, X b → b ≠ mb) → SetIs w mb k acc → k + n.cnt ≤ 100000 →
  Calls Tryz.prog 92 #[v, .map (some mb)] w fun e w' => e = .returned .nilIface ∧ ExtM (· = mb) w w' ∧ SetIs w' mb (k + n.cnt) E
set_option maxRecDepth 100000 in
set_option maxHeartbeats 4000000 in
theorem entry_struct {nm : ByteArray} {ks : List PN} (ih : ∀ (j : Nat) (hj : j < ks.length), EntryC ks[j]) (hz : nm.size ≤ 100000) : EntryC (.struct nm ks) := by
  intro acc E hE X v w mb k hv hX hS hk
  rw [NodeAt] at hv
  obtain ⟨a, c, rfl, hc, hks⟩ := hv
  rw [entryN_struct] at hE
  obtain ⟨t1, t2, t3, t4, t5, t6, t7, t8, t9, t10, t11, t12⟩ := ta_127 (.agg #[.string nm, .slice a ks.length c])
  cases hN : (nm.toList == [78, 111, 116])
  · rw [hN] at hE
    simp only [Bool.false_eq_true, if_false] at hE
    cases hn : named nm
    · rw [hn] at hE; cases hE
    rw [hn, if_pos rfl] at hE
    have HE := Lib.hid (Option.some.inj hE)
    have HS := Lib.hid hS
    have HN := Lib.hid hn
    have hcnt : (PN.struct nm ks).cnt = cntAll ks + 1 := by rw [PN.cnt]
    have hk' : k + 1 ≤ 100000 := by omega
    have HK : Hid (k + 1 ≤ k + (PN.struct nm ks).cnt) := Lib.hid (by omega)
    clear hE hS hn hks hcnt hk
    go_enter Tryz.func92, Tryz.ntmps92
    go_wp2_with fail
    refine (types_named HN.out _).mono ?_
    rintro e w1 ⟨g, rfl, hcg, hg, hE1⟩
    have HE1 := Lib.hid hE1
    clear hE1
    go_wp2_with fail
    have HS1 := Lib.hid (HS.out.ext ((Ext.alloc w (.cells #[.string nm, .slice a ks.length c] 127)).trans HE1.out))
    go_loopg [98] 1 (fun j i wr => i = .int .i64 (match j with | 0 => 1 | _ => 0) ∧ j ≤ 1 ∧ ExtM (· = mb) w1 wr ∧ SetIs wr mb (if j = 0 then k + 1 else k) (if j = 0 then E else acc))
    case atStart => exact ⟨rfl, Nat.le_refl _, ExtM.refl _ _, by simpa using HS1.out⟩
    case round =>
      obtain ⟨rfl, hj, hX1, hS1⟩ := hrel
      have hmb : mb < w.heap.size := by obtain ⟨D, h, -⟩ := HS.out; exact h.lt
      have hgs : w.heap.size < g := by simp at hg; omega
      have hcr := hX1.keep (M := (· = mb)) (by simp only; omega) hcg
      have KX := Lib.hid hX1
      have KS := Lib.hid hS1
      clear hX1 hS1 hcg hg
      cases gk with
      | zero =>
        go_wp2_with fail
        go_ret
        have h1 := KS.out
        simp only [if_true] at h1
        exact ⟨rfl, ((Ext.alloc _ _).trans HE1.out).extM KX.out, h1.mono HK.out⟩
      | succ m =>
        obtain rfl : m = 0 := by omega
        obtain ⟨D, hO, h2, h3⟩ := KS.out
        simp only [Nat.zero_add, Nat.one_ne_zero, if_false] at hO h2 h3
        have hT := hO.tidy law9b
        have HD := Lib.hid (And.intro h2 (And.intro h3 hT))
        have HO := Lib.hid hO
        clear h2 h3 hO hT
        have hkey := keyOf_string_mk (P := Tryz.prog) underlying9 (s := nm) (by unfold maxLen; omega)
        rw [← ByteArray.toList_eq] at hkey
        go_wp2_with (first
          | (at_mapUpdate; refine wpList_mapUpdate_own _ rfl _ _ _ 160 rfl 9 4 law9b underlying160 _ mb _ _ rfl HO.out (by unfold maxLen; omega) _ _ _ rfl rfl hkey _ [] (plainElem_bool underlying4 true) ?_; intro w2 hown2 hgrow2; go_frame)
          | go_in)
        go_roundg 0
        case measure => omega
        case rel =>
          refine ⟨rfl, by omega, KX.out.trans' (ExtM.of_grown hgrow2), ?_⟩
          simp only [if_true]
          rw [← HE.out]
          exact SetIs.add HD.out.1 HD.out.2.1 HD.out.2.2 hown2
  · rw [hN, if_pos rfl] at hE
    match ks, ih, hks, hE with
    | [n], ih, hks, hE =>
      obtain ⟨b, o, u, rfl, hb, hcell, hn⟩ := hks.get 0 (by simp)
      have hc0 := hcell
      rw [Nat.add_zero] at hc0
      simp only [List.getElem_cons_zero] at hn
      have hbl := cell_lt hc0
      simp only at hbl
      have HS := Lib.hid hS
      have HX := Lib.hid hX
      have H := Lib.hid hn
      have hcnt : (PN.struct nm [n]).cnt = n.cnt + 1 := by rw [PN.cnt, cntAll, cntAll]
      have hk' : k + n.cnt ≤ 100000 := by omega
      have HK : Hid (k + n.cnt ≤ k + (PN.struct nm [n]).cnt) := Lib.hid (by omega)
      have HE := Lib.hid hE
      simp only [List.length_singleton] at t1 t2 t3 t4 t5 t6 t7 t8 t9 t10 t11 t12
      simp only [List.length_singleton]
      clear hE hS hX hks hcnt hk hn hcell hb
      rcases H.out.shape with rfl | ⟨tt, xx, rfl⟩
      all_goals
        go_enter Tryz.func92, Tryz.ntmps92
        go_wp2_with fail
        refine (ih 0 (by simp) acc E HE.out X _ _ mb k (H.out.mono ((Ext.alloc _ _).keeps X)) HX.out (HS.out.ext (Ext.alloc _ _)) hk').mono ?_
        rintro e w1 ⟨rfl, hX1, hS1⟩
        go_wp2_with fail
        go_ret
        exact ⟨rfl, (Ext.alloc _ _).extM hX1, hS1.mono HK.out⟩
set_option maxRecDepth 100000 in
set_option maxHeartbeats 4000000 in
theorem entry_or {ks : List PN} (ih : ∀ (j : Nat) (hj : j < ks.length), EntryC ks[j]) (hlen : ks.length ≤ 100000) : EntryC (.or ks) := by
  intro acc E hE X v w mb k hv hX hS hk
  rw [NodeAt] at hv
  obtain ⟨a, c, rfl, hc, hks⟩ := hv
  rw [entryN] at hE
  have hcnt : (PN.or ks).cnt = cntAll ks + 1 := by rw [PN.cnt]
  obtain ⟨t1, t2, t3, t4, t5, t6, t7, t8, t9, t10, t11, t12⟩ := ta_140 (.agg #[.slice a ks.length c])
  have q5 := nilne
  have HS := Lib.hid hS
  have HX := Lib.hid hX
  have HE := Lib.hid hE
  have H := Lib.hid hks
  have hmb : mb < w.heap.size := by obtain ⟨D, h, -⟩ := hS; exact h.lt
  have hk' : k + cntAll ks ≤ 100000 := by omega
  have HK : Hid (k + cntAll ks ≤ k + (PN.or ks).cnt) := Lib.hid (by omega)
  clear hE hS hX hks hcnt hk
  go_enter Tryz.func92, Tryz.ntmps92
  go_wp2_with fail
  have HW := Lib.hid (Ext.alloc w (.cells #[.slice a ks.length c] 140))
  go_loopw [27] (fun i wr => ∃ (j : Nat) (acc' : Names), i = .int .i64 j ∧ j ≤ ks.length ∧ entryNs (ks.drop j) acc' = some E ∧ ExtM (· = mb) (w.alloc (.cells #[.slice a ks.length c] 140)) wr ∧ SetIs wr mb (k + cntAll (ks.take j)) acc') (fun i _ => ks.length - (intOf i).toNat)
  case atStart => exact ⟨0, acc, rfl, Nat.zero_le _, by simpa using HE.out, ExtM.refl _ _, by simpa [cntAll] using HS.out.ext HW.out⟩
  case round =>
    obtain ⟨j, acc', rfl, hj, hE', hX1, hS1⟩ := hrel
    have KX := Lib.hid hX1
    have KS := Lib.hid hS1
    have KE := Lib.hid hE'
    clear hX1 hS1 hE'
    by_cases hlt : j < ks.length
    · obtain ⟨b, o, u, rfl, hb, hcell, hn⟩ := H.out.get j hlt
      have hbm := HX.out b hb
      have hcw := KX.out.keep (M := (· = mb)) (by simp only; omega) (HW.out.keep hcell)
      have hke : Keeps X w wr := (HW.out.keeps X).trans (KX.out.keeps fun b hb e => HX.out b hb e)
      have HN := Lib.hid (hn.mono hke)
      have e1 := KE.out
      rw [List.drop_eq_getElem_cons hlt, entryNs] at e1
      have htk : cntAll (ks.take (j + 1)) = cntAll (ks.take j) + ks[j].cnt := cntAll_take ks j hlt
      have hle : cntAll (ks.take (j + 1)) ≤ cntAll ks := cntAll_take_le ks (j + 1)
      clear hcell hn hke hb
      cases hA : entryN ks[j] acc' with
      | none => rw [hA] at e1; cases e1
      | some A =>
        rw [hA] at e1
        have HA := Lib.hid hA
        have HE1 := Lib.hid e1
        have hkk : k + cntAll (ks.take j) + ks[j].cnt ≤ 100000 := by omega
        have HT := Lib.hid htk
        clear e1 hA htk hle
        rcases HN.out.shape with rfl | ⟨tt, xx, rfl⟩
        all_goals
          go_wp2_with fail
          refine (ih j hlt acc' A HA.out X _ _ mb _ HN.out HX.out KS.out hkk).mono ?_
          rintro e w1 ⟨rfl, hX2, hS2⟩
          have KX2 := Lib.hid hX2
          have KS2 := Lib.hid hS2
          clear hX2 hS2
          go_wp2_with fail
          exact ⟨⟨j + 1, A, by go_num, by omega, HE1.out, KX.out.trans' KX2.out, by rw [HT.out, ← Nat.add_assoc]; exact KS2.out⟩, by simp [intOf]; omega⟩
    · obtain rfl : j = ks.length := by omega
      go_wp2_with fail
      go_ret
      have e1 := KE.out
      rw [List.drop_length, entryNs] at e1
      obtain rfl := Option.some.inj e1
      have h1 := KS.out
      rw [List.take_length] at h1
      exact ⟨rfl, HW.out.extM KX.out, h1.mono HK.out⟩
theorem entry_all : ∀ (k : Nat) (n : PN), n.cnt < k → n.cnt ≤ 100000 → tame (toTree n) = true → EntryC n
  | 0, _, h, _, _ => by omega
  | k + 1, .nul, _, _, _ => fun _ _ h => (by unfold entryN at h; cases h)
  | k + 1, .any, _, _, _ => fun _ _ h => (by unfold entryN at h; cases h)
  | k + 1, .nil, _, _, _ => fun _ _ h => (by unfold entryN at h; cases h)
  | k + 1, .str s, _, _, _ => fun _ _ h => (by unfold entryN at h; cases h)
  | k + 1, .tok s, _, _, _ => fun _ _ h => (by unfold entryN at h; cases h)
  | k + 1, .bind _ _ _, _, _, _ => fun _ _ h => (by unfold entryN at h; cases h)
  | k + 1, .list _ _, _, _, _ => fun _ _ h => (by unfold entryN at h; cases h)
  | k + 1, .and _, _, _, _ => fun _ _ h => (by unfold entryN at h; cases h)
  | k + 1, .index _ _ _, _, _, _ => fun _ _ h => (by unfold entryN at h; cases h)
  | k + 1, .or ks, h, hl, ht => by
    rw [PN.cnt] at h hl
    rw [toTree] at ht
    have hta := (tame_parts ht).2.2
    exact entry_or (fun j hj => entry_all k _ (by have := cntAll_get j hj; omega) (by have := cntAll_get j hj; omega) (toTrees_tame hta j hj)) (by have := cntAll_len ks; omega)
  | k + 1, .struct nm ks, h, hl, ht => by
    rw [PN.cnt] at h hl
    rw [toTree] at ht
    obtain ⟨h1, -, hta⟩ := tame_parts ht
    exact entry_struct (fun j hj => entry_all k _ (by have := cntAll_get j hj; omega) (by have := cntAll_get j hj; omega) (toTrees_tame hta j hj)) (by omega)
end Go.Proofs.YtigalkobmfbdaaaGreatDoor
