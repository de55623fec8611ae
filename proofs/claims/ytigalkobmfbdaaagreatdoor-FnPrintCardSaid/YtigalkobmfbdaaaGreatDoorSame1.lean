/- spec.Same of a tree against itself, wherever its two copies lie. -/
import Derived.Test.YtigalkobmfbdaaaGreatDoorReads
import Derived.BigQuiet
set_option linter.unusedVariables false
set_option linter.unusedSimpArgs false
namespace Go.Proofs.YtigalkobmfbdaaaGreatDoor
open Go.RowKit Go.WideMaps Go.Sort
mutual
theorem TreeAt.toIn {w : World} : ∀ {a : Option Addr} {c : Nat} {t : Tree}, TreeAt w a c t → TreeIn (fun _ => True) w a c t
  | _, _, .mk _ _ _, ⟨hs, hc, _, hk⟩ => ⟨hs, hc, KidsAt.toIn hk⟩
theorem KidsAt.toIn {w : World} : ∀ {a : Option Addr} {ts : List Tree}, KidsAt w a ts → KidsIn (fun _ => True) w a ts
  | _, [], _ => trivial
  | _, _ :: _, ⟨b, o, a', c', ha, h1, h2, h3, ht, hk⟩ => ⟨b, o, a', c', ha, trivial, h1, h2, h3, TreeAt.toIn ht, KidsAt.toIn hk⟩
end
def SameC (t : Tree) : Prop := ∀ (a : Option Addr) (c : Nat) (a' : Option Addr) (c' : Nat) (w : World), TreeIn (fun _ => True) w a c t → TreeIn (fun _ => True) w a' c' t → Calls Tryz.prog 31 #[treeV t a c, treeV t a' c'] w fun e w' => e = .returned (.bool true) ∧ Ext w w'
set_option maxRecDepth 100000 in
set_option maxHeartbeats 4000000 in
theorem same_self (t : Tree) : count t ≤ 1000 → SameC t := by
  induction t using Tree.ind with | h t ih => ?_
  intro hn a c a' c' w hT hT'
  have hl : t.kids.length ≤ 1000 := by obtain ⟨k, x, ks⟩ := t; have := countAll_len ks; simp only [count] at hn; simp only [kids_mk]; omega
  have hc := hT.kids.1
  have hc' := hT'.kids.1
  have HT := Lib.hid (And.intro hT hT')
  have HN := Lib.hid hn
  clear hT hT' hn
  cases hk : (t.kind.toList == [84, 111, 107, 101, 110])
  all_goals
    go_enter Tryz.func31, Tryz.ntmps31
    go_wp2_with fail
    go_quiet (fail)
    go_wp2_with fail
    have HW : Hid (Ext w (((w.alloc (.cells #[.string t.kind, .string t.text, .slice a t.kids.length c] 24)).alloc (.cells #[.string t.kind, .string t.text, .slice a' t.kids.length c'] 24)).drewN nq)) := Lib.hid (((Ext.alloc _ _).trans (Ext.alloc _ _)).trans (Ext.drewN _ nq))
    have hB1 : Blk (((w.alloc (.cells #[.string t.kind, .string t.text, .slice a t.kids.length c] 24)).alloc (.cells #[.string t.kind, .string t.text, .slice a' t.kids.length c'] 24)).drewN nq) w.heap.size #[.string t.kind, .string t.text, .slice a t.kids.length c] 24 := ((Blk.new _ _ _).ext (Ext.alloc _ _)).ext (Ext.drewN _ nq)
    have hB2 : Blk (((w.alloc (.cells #[.string t.kind, .string t.text, .slice a t.kids.length c] 24)).alloc (.cells #[.string t.kind, .string t.text, .slice a' t.kids.length c'] 24)).drewN nq) (w.heap.size + 1) #[.string t.kind, .string t.text, .slice a' t.kids.length c'] 24 := (Blk.second _ _ _ _).ext (Ext.drewN _ nq)
    have KB := Lib.hid (And.intro hB1 hB2)
    clear hB1 hB2
    generalize (((w.alloc (.cells #[.string t.kind, .string t.text, .slice a t.kids.length c] 24)).alloc (.cells #[.string t.kind, .string t.text, .slice a' t.kids.length c'] 24)).drewN nq) = w0 at *
    go_loopw [38] (fun i w' => ∃ j : Nat, i = .int .i64 j ∧ j ≤ t.kids.length ∧ Ext w0 w') (fun i _ => t.kids.length - (intOf i).toNat)
    case atStart => exact ⟨0, rfl, Nat.zero_le _, Ext.refl _⟩
    case round =>
      obtain ⟨j, rfl, hj, hE⟩ := hrel
      have KE := Lib.hid hE
      have f1 := Exts.cell (Blk3 (KB.out.1.ext hE)).2.2
      have f2 := Exts.cell (Blk3 (KB.out.2.ext hE)).2.2
      clear hE
      by_cases hlt : j < t.kids.length
      · obtain ⟨b, o, a1, c1, rfl, -, -, p1, p2, p3, q1⟩ := HT.out.1.kids.2.get j hlt
        obtain ⟨b', o', a2, c2, rfl, -, -, r1, r2, r3, q2⟩ := HT.out.2.kids.2.get j hlt
        have hE' := HW.out.trans KE.out
        have e1 := Exts.cell (hE'.keep p1)
        have e2 := Exts.cell (hE'.keep p2)
        have e3 := Exts.cell (hE'.keep p3)
        have g1 := Exts.cell (hE'.keep r1)
        have g2 := Exts.cell (hE'.keep r2)
        have g3 := Exts.cell (hE'.keep r3)
        have HI := Lib.hid (And.intro q1 (And.intro q2 hE'))
        have hcn := count_kid t j hlt
        have ihj := ih j hlt (by have := HN.out; omega)
        have HJ := Lib.hid ihj
        clear p1 p2 p3 r1 r2 r3 q1 q2 hE' ihj
        go_wp2_with fail
        refine wp_region_ext (by kernel_rfl) (by kernel_rfl) ?_
        repeat (refine BigFrame.wpQuiet_want rfl (fun K hK => ?_); go_big_quiet_op; first | (refine hK _ ?_; clear hK K) | (refine ⟨_, fun e => Calls.ext_of (HJ.out a1 c1 a2 c2 e.val (HI.out.1.mono (HI.out.2.2.trans e.ext)) (HI.out.2.1.mono (HI.out.2.2.trans e.ext))), hK _ ?_⟩; clear hK K))
        refine wpQuiet_nil ?_
        intro e
        obtain ⟨w7, hE7⟩ := e
        clear e1 e2 e3 g1 g2 g3 f1 f2
        go_wp2_with fail
        exact ⟨⟨j + 1, by go_num, by omega, KE.out.trans hE7⟩, by simp [intOf]; omega⟩
      · obtain rfl : j = t.kids.length := by omega
        go_wp2_with fail
        go_ret
        exact ⟨rfl, HW.out.trans KE.out⟩
end Go.Proofs.YtigalkobmfbdaaaGreatDoor
