/- A name is matched: laws.alive. -/
import Derived.Test.YtigalkobmfbdaaaGreatDoorMix1p
import Derived.Test.YtigalkobmfbdaaaGreatDoorSyn1Z1
import Derived.Test.YtigalkobmfbdaaaGreatDoorMix1e
import Derived.Test.YtigalkobmfbdaaaGreatDoorMix1h
set_option linter.unusedVariables false
set_option linter.unusedSimpArgs false
namespace Go.Proofs.YtigalkobmfbdaaaGreatDoor
open Go.RowKit Go.WideMaps Go.Sort
abbrev identS (s : ByteArray) : Syn := .mk ⟨#[73, 100, 101, 110, 116]⟩ false ⟨#[]⟩ 0 [.mk ⟨#[115, 116, 114, 105, 110, 103]⟩ false s 0 []]
set_option maxRecDepth 100000 in
set_option maxHeartbeats 4000000 in
theorem ident_calls (s : ByteArray) (hs : s.size ≤ 140737488351232) (w : World) : Calls Tryz.prog 44 #[.string s] w fun e w' => (∃ a c, e = .returned (synV (identS s) a c) ∧ SynIn (fun b => w.heap.size ≤ b) w' a c (identS s)) ∧ Ext w w' := by
  simp only [synV, skind_mk, snull_mk, stext_mk, snum_mk, skids_mk]
  go_enter Tryz.func44, Tryz.ntmps44
  go_wp2_with fail
  have hB1 := (Blk.new w #[.string ⟨#[73, 100, 101, 110, 116]⟩, .bool false, .string ⟨#[]⟩, .int .i64 0, .slice (some ⟨w.heap.size + 1, 0, none⟩) 1 1] 52).ext (Ext.alloc _ (.cells #[.string ⟨#[115, 116, 114, 105, 110, 103]⟩, .bool false, .string s, .int .i64 0, .slice none 0 0] 52))
  have hB2 := Blk.new (w.alloc (.cells #[.string ⟨#[73, 100, 101, 110, 116]⟩, .bool false, .string ⟨#[]⟩, .int .i64 0, .slice (some ⟨w.heap.size + 1, 0, none⟩) 1 1] 52)) #[.string ⟨#[115, 116, 114, 105, 110, 103]⟩, .bool false, .string s, .int .i64 0, .slice none 0 0] 52
  rw [show (w.alloc (.cells #[.string ⟨#[73, 100, 101, 110, 116]⟩, .bool false, .string ⟨#[]⟩, .int .i64 0, .slice (some ⟨w.heap.size + 1, 0, none⟩) 1 1] 52)).heap.size = w.heap.size + 1 by simp] at hB2
  refine bodyPost_ret (results_c rfl _ _ w.heap.size 52 #[.string ⟨#[73, 100, 101, 110, 116]⟩, .bool false, .string ⟨#[]⟩, .int .i64 0, .slice (some ⟨w.heap.size + 1, 0, none⟩) 1 1] rfl hB1 row52 size52) rfl ?_
  obtain ⟨p0, p1, p2, p3, p4⟩ := Blk5 hB2
  refine ⟨⟨_, _, rfl, ?_⟩, (Ext.alloc _ _).trans (Ext.alloc _ _)⟩
  rw [SynIn]
  refine ⟨⟨by decide, by decide, by decide⟩, Nat.le_refl _, by decide, ?_⟩
  rw [SynsIn]
  exact ⟨_, _, none, 0, rfl, by omega, p0, p1, p2, p3, p4, by rw [SynIn]; exact ⟨⟨by decide, hs, by decide⟩, Nat.le_refl _, by decide, trivial⟩, trivial⟩
def pIdent : Tree := .mk ⟨#[73, 100, 101, 110, 116]⟩ ⟨#[]⟩ [.mk ⟨#[66, 105, 110, 100, 105, 110, 103]⟩ ⟨#[113]⟩ []]
theorem pIdent_facts : good pIdent 97 = true ∧ nodeKind pIdent = true ∧ count pIdent ≤ 60 ∧ text 0 pIdent = ⟨#[40, 73, 100, 101, 110, 116, 32, 113, 41]⟩ := by
  refine ⟨?_, ?_, ?_, ?_⟩ <;> decide +kernel
theorem pIdent_names : namesT pIdent = [[113]] := by decide +kernel
theorem pIdent_mt : mt (namesT pIdent) false (toPN pIdent []).1 (identS ⟨#[120]⟩) [] = some (true, identS ⟨#[120]⟩, [([113], .mk ⟨#[115, 116, 114, 105, 110, 103]⟩ false ⟨#[120]⟩ 0 [])]) := by kernel_rfl
theorem pIdent_entry : ∃ E, entryN (toPN pIdent []).1 [] = some E := ⟨[[73, 100, 101, 110, 116]], by kernel_rfl⟩
theorem identX_right : right (identS ⟨#[120]⟩) 101 ⟨#[]⟩ = true := by decide +kernel
theorem identX_count : countS (identS ⟨#[120]⟩) = 2 ∧ depthS (identS ⟨#[120]⟩) ≤ 31 ∧ sizeS (identS ⟨#[120]⟩) ≤ 40000 := by decide +kernel
theorem identX_rz : RZ (identS ⟨#[120]⟩) := ⟨⟨101, by decide, ⟨#[]⟩, identX_right⟩, identX_count.2.2⟩
set_option maxRecDepth 100000 in
set_option maxHeartbeats 4000000 in
theorem alive_calls {w : World} (hT : TabAt w) : Calls Tryz.prog 39 #[] w fun e w' => e = .returned (.bool true) ∧ Ext w w' := by
  go_enter Tryz.func39, Tryz.ntmps39
  go_wp2_with fail
  refine (ident_calls ⟨#[120]⟩ (by decide) w).mono ?_
  rintro e w1 ⟨⟨a, c, rfl, hS⟩, hE1⟩
  obtain ⟨E, hE⟩ := pIdent_entry
  have HM : Hid (Calls Tryz.prog 37 #[.string ⟨#[40, 73, 100, 101, 110, 116, 32, 113, 41]⟩, synV (identS ⟨#[120]⟩) a c] w1 (MatchRes w1 true [([113], .mk ⟨#[115, 116, 114, 105, 110, 103]⟩ false ⟨#[120]⟩ 0 [])])) := Lib.hid (by
    rw [← pIdent_facts.2.2.2]
    exact imatch_good pIdent_facts.1 pIdent_facts.2.1 pIdent_facts.2.2.1 (by rw [pIdent_facts.2.2.2]; decide) hE (by rw [pIdent_names]; decide) (.inl rfl) identX_right (by rw [identX_count.1]; decide) identX_count.2.1 identX_rz pIdent_mt hS (hT.toExt hE1))
  have HE := Lib.hid hE1
  clear hS hE1 hE
  simp only [synV, skind_mk, snull_mk, stext_mk, snum_mk, skids_mk] at *
  go_wp2_with fail
  refine HM.out.mono ?_
  rintro e w2 ⟨⟨a2, c2, rfl, -, -, -⟩, hE2⟩
  have HE2 := Lib.hid (HE.out.trans hE2)
  clear hE2
  rw [show ([([113], Syn.mk ⟨#[115, 116, 114, 105, 110, 103]⟩ false ⟨#[120]⟩ 0 [])] : SL).length = 1 from rfl]
  go_wp2_with fail
  go_ret
  exact ⟨rfl, HE2.out⟩
end Go.Proofs.YtigalkobmfbdaaaGreatDoor
/- FnEmpty in plain words: what its three patterns make of a list. -/
set_option linter.unusedVariables false
set_option linter.unusedSimpArgs false
namespace Go.Proofs.YtigalkobmfbdaaaGreatDoor
open Go.RowKit Go.WideMaps Go.Sort
abbrev listS (nl : Bool) (ks : List Syn) : Syn := .mk ⟨#[91, 93, 69, 120, 112, 114]⟩ nl ⟨#[]⟩ 0 ks
abbrev retS (nl : Bool) (ks : List Syn) : Syn := .mk ⟨#[82, 101, 116, 117, 114, 110, 83, 116, 109, 116]⟩ false ⟨#[]⟩ 0 [listS nl ks]
abbrev cmpS (nl : Bool) (ks : List Syn) : Syn := .mk ⟨#[67, 111, 109, 112, 111, 115, 105, 116, 101, 76, 105, 116]⟩ false ⟨#[]⟩ 0 [nulS, listS nl ks, .mk ⟨#[98, 111, 111, 108]⟩ false ⟨#[]⟩ 0 []]
def pEmpB : Tree := .mk ⟨#[82, 101, 116, 117, 114, 110, 83, 116, 109, 116]⟩ ⟨#[]⟩ [.mk ⟨#[76, 105, 115, 116]⟩ ⟨#[]⟩ []]
def pEmpC : Tree := .mk ⟨#[67, 111, 109, 112, 111, 115, 105, 116, 101, 76, 105, 116]⟩ ⟨#[]⟩ [.mk ⟨#[76, 105, 115, 116]⟩ ⟨#[]⟩ [], .mk ⟨#[65, 110, 121]⟩ ⟨#[]⟩ []]
theorem item_of {x : Item} {n : Int} {l : List UInt8} (h : tokOf x = (n, l)) (hn : n ≠ 0) : x = ⟨n, ⟨l.toArray⟩, x.pos⟩ := by
  obtain ⟨t, v, p⟩ := x
  simp only [tokOf, Prod.mk.injEq] at h
  obtain ⟨rfl, rfl⟩ := h
  have : v = ⟨v.toList.toArray⟩ := by cases v; simp [ByteArray.toList_eq]
  rw [if_neg hn, ← this]
theorem lexA : lexM (ByteArray.toList ⟨#[40, 82, 101, 116, 117, 114, 110, 83, 116, 109, 116, 32, 40, 76, 105, 115, 116, 32, 110, 105, 108, 32, 110, 105, 108, 41, 41]⟩) .start = some [(1, [40]), (5, [82, 101, 116, 117, 114, 110, 83, 116, 109, 116]), (1, [40]), (5, [76, 105, 115, 116]), (6, [110, 105, 108]), (6, [110, 105, 108]), (2, [41]), (2, [41]), (11, [])] := by
  decide +kernel
abbrev nEmpA : PN := .struct ⟨#[82, 101, 116, 117, 114, 110, 83, 116, 109, 116]⟩ [.list .nil .nil]
theorem parseA (p0 p1 p2 p3 p4 p5 p6 p7 p8 : Int) : parseM false [⟨1, ⟨([40]).toArray⟩, p0⟩, ⟨5, ⟨([82, 101, 116, 117, 114, 110, 83, 116, 109, 116]).toArray⟩, p1⟩, ⟨1, ⟨([40]).toArray⟩, p2⟩, ⟨5, ⟨([76, 105, 115, 116]).toArray⟩, p3⟩, ⟨6, ⟨([110, 105, 108]).toArray⟩, p4⟩, ⟨6, ⟨([110, 105, 108]).toArray⟩, p5⟩, ⟨2, ⟨([41]).toArray⟩, p6⟩, ⟨2, ⟨([41]).toArray⟩, p7⟩, ⟨11, ⟨([] : List UInt8).toArray⟩, p8⟩] 90 = some (some (nEmpA, [])) := by
  kernel_rfl
theorem readsA : Reads false ⟨#[40, 82, 101, 116, 117, 114, 110, 83, 116, 109, 116, 32, 40, 76, 105, 115, 116, 32, 110, 105, 108, 32, 110, 105, 108, 41, 41]⟩ (some (nEmpA, [])) := by
  refine ⟨_, 90, by decide, lexA, fun S hS => ?_⟩
  obtain ⟨x0, S, rfl, h0, hS⟩ := List.map_eq_cons_iff.1 hS
  obtain ⟨x1, S, rfl, h1, hS⟩ := List.map_eq_cons_iff.1 hS
  obtain ⟨x2, S, rfl, h2, hS⟩ := List.map_eq_cons_iff.1 hS
  obtain ⟨x3, S, rfl, h3, hS⟩ := List.map_eq_cons_iff.1 hS
  obtain ⟨x4, S, rfl, h4, hS⟩ := List.map_eq_cons_iff.1 hS
  obtain ⟨x5, S, rfl, h5, hS⟩ := List.map_eq_cons_iff.1 hS
  obtain ⟨x6, S, rfl, h6, hS⟩ := List.map_eq_cons_iff.1 hS
  obtain ⟨x7, S, rfl, h7, hS⟩ := List.map_eq_cons_iff.1 hS
  obtain ⟨x8, S, rfl, h8, hS⟩ := List.map_eq_cons_iff.1 hS
  obtain rfl := List.map_eq_nil_iff.1 hS
  rw [item_of h0 (by decide), item_of h1 (by decide), item_of h2 (by decide), item_of h3 (by decide), item_of h4 (by decide), item_of h5 (by decide), item_of h6 (by decide), item_of h7 (by decide), item_of h8 (by decide)]
  exact parseA ..
theorem pEmpB_facts : good pEmpB 97 = true ∧ nodeKind pEmpB = true ∧ count pEmpB ≤ 60 ∧ text 0 pEmpB = ⟨#[40, 82, 101, 116, 117, 114, 110, 83, 116, 109, 116, 32, 91, 93, 41]⟩ ∧ namesT pEmpB = [] := by
  refine ⟨?_, ?_, ?_, ?_, ?_⟩ <;> decide +kernel
theorem pEmpC_facts : good pEmpC 97 = true ∧ nodeKind pEmpC = true ∧ count pEmpC ≤ 60 ∧ text 0 pEmpC = ⟨#[40, 67, 111, 109, 112, 111, 115, 105, 116, 101, 76, 105, 116, 32, 91, 93, 32, 95, 41]⟩ ∧ namesT pEmpC = [] := by
  refine ⟨?_, ?_, ?_, ?_, ?_⟩ <;> decide +kernel
theorem pEmp_entry : (∃ E, entryN nEmpA [] = some E) ∧ (∃ E, entryN (toPN pEmpB []).1 [] = some E) ∧ (∃ E, entryN (toPN pEmpC []).1 [] = some E) := ⟨⟨[[82, 101, 116, 117, 114, 110, 83, 116, 109, 116]], by kernel_rfl⟩, ⟨[[82, 101, 116, 117, 114, 110, 83, 116, 109, 116]], by kernel_rfl⟩, ⟨[[67, 111, 109, 112, 111, 115, 105, 116, 101, 76, 105, 116]], by kernel_rfl⟩⟩
theorem nEmpA_facts : plainN nEmpA = true ∧ nEmpA.cnt ≤ 900 ∧ tame (toTree nEmpA) = true := by
  refine ⟨?_, ?_, ?_⟩ <;> decide +kernel
theorem pEmpB_pn : (toPN pEmpB []).1 = .struct ⟨#[82, 101, 116, 117, 114, 110, 83, 116, 109, 116]⟩ [.list .nul .nul] := by kernel_rfl
theorem pEmpC_pn : (toPN pEmpC []).1 = .struct ⟨#[67, 111, 109, 112, 111, 115, 105, 116, 101, 76, 105, 116]⟩ [.list .nul .nul, .any] := by kernel_rfl
theorem mt_emptyA (nm : Names) (nl : Bool) (ks : List Syn) : mt nm false nEmpA (retS nl ks) [] = some (ks.isEmpty, retS nl ks, []) := by
  cases ks <;> kernel_rfl
theorem mt_emptyB (nm : Names) (nl : Bool) (ks : List Syn) : mt nm false (.struct ⟨#[82, 101, 116, 117, 114, 110, 83, 116, 109, 116]⟩ [.list .nul .nul]) (retS nl ks) [] = some (ks.isEmpty, retS nl ks, []) := by
  cases ks <;> kernel_rfl
theorem mt_none (nm : Names) (nl : Bool) (ks : List Syn) : mt nm false (.struct ⟨#[67, 111, 109, 112, 111, 115, 105, 116, 101, 76, 105, 116]⟩ [.list .nul .nul, .any]) (cmpS nl ks) [] = some (false, cmpS nl ks, []) := by
  kernel_rfl
theorem emp_right1 (nl : Bool) (ks : List Syn) : right (cmpS nl ks) 101 ⟨#[]⟩ = (right (listS nl ks) 108 ⟨#[67, 111, 109, 112, 111, 115, 105, 116, 101, 76, 105, 116]⟩ && true) := by kernel_rfl
theorem emp_right2 (nl : Bool) (ks : List Syn) : right (retS nl ks) 115 ⟨#[]⟩ = (right (listS nl ks) 108 ⟨#[82, 101, 116, 117, 114, 110, 83, 116, 109, 116]⟩ && true) := by kernel_rfl
theorem emp_right3 (nl : Bool) (ks : List Syn) (o1 o2 : ByteArray) : right (listS nl ks) 108 o1 = right (listS nl ks) 108 o2 := by
  rw [right_mk, right_mk]
  rfl
/-- The third part is right where the list is. -/
theorem emp_right {nl : Bool} {ks : List Syn} (h : right (retS nl ks) 115 ⟨#[]⟩ = true) : right (cmpS nl ks) 101 ⟨#[]⟩ = true := by
  rw [emp_right1, emp_right3 nl ks _ ⟨#[82, 101, 116, 117, 114, 110, 83, 116, 109, 116]⟩, ← emp_right2]
  exact h
end Go.Proofs.YtigalkobmfbdaaaGreatDoor
/- The reference's number of parts and the thin package's are one. -/
set_option linter.unusedVariables false
set_option linter.unusedSimpArgs false
namespace Go.Proofs.YtigalkobmfbdaaaGreatDoor
open Go.RowKit
theorem partsL_stop (ts : List Syn) (s : Int × Int) (h : s.2 ≤ 0) : partsL ts s = s := by
  cases ts with
  | nil => rw [partsL]
  | cons t ts => rw [partsL, if_pos h]
theorem partsL_count (ts : List Syn) (ih : ∀ (j : Nat) (hj : j < ts.length) (n : Int), 1 ≤ n → 1 ≤ (partsF ts[j] n).2 → (partsF ts[j] n).2 = n - countS ts[j] ∧ (partsF ts[j] n).1 = depthS ts[j]) :
    ∀ s : Int × Int, 0 ≤ s.1 → 1 ≤ (partsL ts s).2 → (partsL ts s).2 = s.2 - countSs ts ∧ (partsL ts s).1 = max s.1 (depthSs ts) := by
  induction ts with
  | nil =>
    intro s h0 h1
    simp only [partsL, countSs, depthSs]
    omega
  | cons t ts iht =>
    intro s h0 h1
    unfold partsL at h1 ⊢
    split at h1
    · rename_i h; omega
    · rename_i h
      rw [if_neg h]
      have hl : 1 ≤ (partsF t s.2).2 := by
        refine Decidable.byContradiction fun hc => ?_
        rw [partsL_stop _ _ (by simp only; omega)] at h1
        exact hc h1
      have h2 := ih 0 (by simp) s.2 (by omega) hl
      simp only [List.getElem_cons_zero] at h2
      have h3 := iht (fun j hj n hn h => by
        have := ih (j + 1) (by simpa using hj) n hn
        simp only [List.getElem_cons_succ] at this
        exact this h) (max s.1 (partsF t s.2).1, (partsF t s.2).2) (by simp only; omega) h1
      simp only at h3
      simp only [countSs, depthSs]
      omega
theorem partsF_count (t : Syn) : ∀ n : Int, 1 ≤ n → 1 ≤ (partsF t n).2 → (partsF t n).2 = n - countS t ∧ (partsF t n).1 = depthS t := by
  induction t using Syn.ind with | h t ih => ?_
  intro n hn h1
  rw [partsF_eq] at h1 ⊢
  have := partsL_count t.kids ih (0, n - 1) (by simp) h1
  obtain ⟨k, nl, x, m, ks⟩ := t
  simp only [skids_mk] at *
  rw [countS_mk, depthS_mk]
  omega
mutual
theorem sizeS_count : ∀ t : Syn, sizeS t + 1 ≤ 2 * countS t
  | .mk _ _ _ _ ks => by have := sizeSs_count ks; simp only [sizeS, countS]; omega
theorem sizeSs_count : ∀ ts : List Syn, sizeSs ts ≤ 2 * countSs ts
  | [] => by simp [sizeSs, countSs]
  | t :: ts => by have := sizeS_count t; have := sizeSs_count ts; simp only [sizeSs, countSs]; omega
end
/-- What the reference's Parts says, in the walk's words. -/
theorem parts_fit {t : Syn} {m d : Int} (hm : (partsOf t).1 ≤ m) (hd : (partsOf t).2 ≤ d) (hm2 : m ≤ 120) : (countS t : Int) ≤ m ∧ (depthS t : Int) ≤ d ∧ sizeS t ≤ 40000 := by
  unfold partsOf at hm hd
  simp only at hm hd
  have := partsF_count t 1000 (by omega) (by omega)
  have := sizeS_count t
  omega
end Go.Proofs.YtigalkobmfbdaaaGreatDoor
