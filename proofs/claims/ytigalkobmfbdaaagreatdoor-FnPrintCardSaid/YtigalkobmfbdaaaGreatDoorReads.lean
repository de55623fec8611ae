/- The reader is alive: laws.reads. -/
import Derived.Test.YtigalkobmfbdaaaGreatDoorImp2
set_option linter.unusedVariables false
set_option linter.unusedSimpArgs false
namespace Go.Proofs.YtigalkobmfbdaaaGreatDoor
open Go.RowKit Go.WideMaps Go.Sort
abbrev identT : Tree := .mk ⟨#[73, 100, 101, 110, 116]⟩ noT [.mk ⟨#[66, 105, 110, 100, 105, 110, 103]⟩ ⟨#[113]⟩ []]
theorem ident_text : text 0 identT = ⟨#[40, 73, 100, 101, 110, 116, 32, 113, 41]⟩ := by decide +kernel
theorem ident_good : good identT 97 = true := by decide +kernel
theorem ident_entry : ∃ E, entryN (toPN identT []).1 [] = some E := first_entry identT 97 ident_good (by decide +kernel) [] []
set_option maxRecDepth 100000 in
set_option maxHeartbeats 4000000 in
theorem readsF_calls {w : World} (hT : TabAt w) : Calls Tryz.prog 27 #[] w fun e w' => e = .returned (.bool true) ∧ Ext w w' := by
  obtain ⟨E, hE⟩ := ident_entry
  have h := parse_good (al := false) (s := 0) ident_good (by decide +kernel) (by decide) (by rw [ident_text]; decide) hE hT
  rw [ident_text] at h
  have H := Lib.hid h
  clear h hE
  go_enter Tryz.func27, Tryz.ntmps27
  go_wp2_with fail
  refine H.out.mono ?_
  rintro e w1 ⟨⟨a1, c1, a2, c2, a3, c3, a4, c4, a5, c5, rfl, -⟩, hE⟩
  go_wp2_with fail
  go_ret
  exact ⟨ret_bool (by decide +kernel), hE.trans (Ext.alloc _ _)⟩
/-! ### What a guard says -/
theorem nodesL_left (ts : List Tree) (ih : ∀ t ∈ ts, ∀ n : Int, 0 < (nodesF t n).2 → (nodesF t n).2 = n - count t) : ∀ s : Int × Int, 0 < (nodesL ts s).2 → (nodesL ts s).2 = s.2 - countAll ts := by
  induction ts with
  | nil => intro s h; rw [nodesL, countAll]; simp
  | cons t ts iht =>
    intro s h
    rw [nodesL] at h ⊢
    split at h
    · omega
    · rename_i hs
      rw [if_neg hs]
      have h1 := iht (fun u hu => ih u (List.mem_cons_of_mem _ hu)) _ h
      rw [h1] at h ⊢
      simp only at h ⊢
      have h2 := ih t (List.mem_cons_self ..) s.2 (by omega)
      rw [h2, countAll]
      omega
theorem nodesF_left (t : Tree) : ∀ n : Int, 0 < (nodesF t n).2 → (nodesF t n).2 = n - count t := by
  induction t using Tree.ind with | h t ih => ?_
  intro n h
  obtain ⟨k, x, ks⟩ := t
  rw [nodesF] at h ⊢
  simp only [kids_mk] at ih
  have := nodesL_left ks (fun u hu => by
    obtain ⟨j, hj, rfl⟩ := List.getElem_of_mem hu
    exact ih j hj) (0, n - 1) h
  simp only at this ⊢
  rw [this, count]
  omega
theorem count_of_nodes {t : Tree} {m : Int} (h : (nodesOf t).1 ≤ m) (hm : m < 1000) : (count t : Int) ≤ m := by
  unfold nodesOf at h
  simp only at h
  have := nodesF_left t 1000 (by omega)
  omega
theorem written_parts {t : Tree} (h : written t = true) : count t ≤ 60 ∧ good t 97 = true := by
  unfold written at h
  rw [Bool.and_eq_true, Bool.and_eq_true, decide_eq_true_eq] at h
  have := count_of_nodes h.1.1 (by omega)
  exact ⟨by omega, h.2⟩
end Go.Proofs.YtigalkobmfbdaaaGreatDoor
