/- Parts of a syntax: how many there are, and their size guard. -/
import Derived.Test.YtigalkobmfbdaaaGreatDoorSyn0Z1
set_option linter.unusedVariables false
set_option linter.unusedSimpArgs false
namespace Go.Proofs.YtigalkobmfbdaaaGreatDoor
open Go.RowKit
mutual
/-- How deep a part is, and what is left of a number. -/
def partsF : Syn → Int → Int × Int
  | .mk _ _ _ _ ks, n => ((partsL ks (0, n - 1)).1 + 1, (partsL ks (0, n - 1)).2)
def partsL : List Syn → Int × Int → Int × Int
  | [], s => s
  | t :: ts, s => if s.2 ≤ 0 then s else partsL ts (max s.1 (partsF t s.2).1, (partsF t s.2).2)
end
theorem partsF_eq (t : Syn) (n : Int) : partsF t n = ((partsL t.kids (0, n - 1)).1 + 1, (partsL t.kids (0, n - 1)).2) := by
  cases t; simp only [partsF, Syn.kids]
theorem partsL_bound (ts : List Syn) (ih : ∀ (j : Nat) (hj : j < ts.length) (n : Int), 1 ≤ n → 0 ≤ (partsF ts[j] n).2 ∧ 1 ≤ (partsF ts[j] n).1 ∧ (partsF ts[j] n).1 + (partsF ts[j] n).2 ≤ n) :
    ∀ (s : Int × Int) (N : Int), 0 ≤ s.1 → 0 ≤ s.2 → s.1 + s.2 ≤ N → 0 ≤ (partsL ts s).1 ∧ 0 ≤ (partsL ts s).2 ∧ (partsL ts s).1 + (partsL ts s).2 ≤ N := by
  induction ts with
  | nil => intro s N h1 h2 h3; simp only [partsL]; exact ⟨h1, h2, h3⟩
  | cons t ts iht =>
    intro s N h1 h2 h3
    unfold partsL
    split
    · exact ⟨h1, h2, h3⟩
    · have := ih 0 (by simp) s.2 (by omega)
      simp only [List.getElem_cons_zero] at this
      refine iht (fun j hj n hn => ?_) _ N (by omega) this.1 (by simp only; omega)
      have := ih (j + 1) (by simpa using hj) n hn
      simpa using this
theorem partsF_bound (t : Syn) : ∀ n : Int, 1 ≤ n → 0 ≤ (partsF t n).2 ∧ 1 ≤ (partsF t n).1 ∧ (partsF t n).1 + (partsF t n).2 ≤ n := by
  induction t using Syn.ind with | h t ih => ?_
  intro n hn
  rw [partsF_eq]
  have := partsL_bound t.kids ih (0, n - 1) (n - 1) (by simp) (by simp; omega) (by simp)
  simp only
  omega
set_option maxRecDepth 100000 in
set_option maxHeartbeats 1000000 in
theorem parts_calls (t : Syn) : ∀ (X : Nat → Prop) (a : Option Addr) (c : Nat) (n : Int) (lb : Nat) (w0 w : World), SynIn X w0 a c t → Ext w0 w → w0.heap.size ≤ lb → Blk w lb #[.int .i64 n] 3 → 1 ≤ n → n ≤ 1000 →
    Calls Tryz.prog 68 #[synV t a c, .pointer (some ⟨lb, 0, none⟩)] w fun e w' => e = .returned (.int .i64 (partsF t n).1) ∧ Blk w' lb #[.int .i64 (partsF t n).2] 3 ∧ ExtM (· = lb) w w' := by
  induction t using Syn.ind with | h t ih => ?_
  intro X a c n lb w0 w hT hE0 hlb hB h1 h1000
  have HF := Lib.hid (partsF_eq t n)
  have hbd := partsL_bound t.kids (fun j hj => partsF_bound t.kids[j]) (0, n - 1) (n - 1) (by simp) (by simp; omega) (by simp)
  obtain ⟨hc, hl, -⟩ := hT.kids
  have c0 : w.cell? ⟨lb, 0, none⟩ = some (.int .i64 n) := by rw [hB.cell]; rfl
  have f0 := hB.frozen 0
  have lt0 := hB.lt
  go_enter Tryz.func68, Tryz.ntmps68
  go_wp2_with fail
  obtain ⟨W, hW⟩ : ∃ W : World, W = (w.setCell ⟨lb, 0, none⟩ (.int .i64 (n - 1))).alloc (.cells #[.string t.kind, .bool t.null, .string t.text, .int .i64 t.num, .slice a t.kids.length c] 52) := ⟨_, rfl⟩
  rw [← hW]
  have HB : Blk W lb #[.int .i64 (n - 1)] 3 := by rw [hW]; exact (hB.set 0 _).ext (Ext.alloc _ _)
  have HE : ExtM (· = lb) w W := by rw [hW]; exact ((ExtM.refl (· = lb) w).setCell (p := ⟨lb, 0, none⟩) (.inl rfl) _).ext (Ext.alloc _ _)
  have hE1 : Ext w0 W := HE.toExt hE0 (fun i hi h => by omega)
  clear hW
  go_loopw [5, 16] (fun d i w' => ∃ (j : Nat) (dp m : Int), i = .int .i64 j ∧ d = .int .i64 dp ∧ j ≤ t.kids.length ∧ partsL t.kids (0, n - 1) = partsL (t.kids.drop j) (dp, m) ∧ 0 ≤ dp ∧ 0 ≤ m ∧ dp + m ≤ n - 1 ∧ Blk w' lb #[.int .i64 m] 3 ∧ ExtM (· = lb) W w') (fun _ i _ => t.kids.length - (intOf i).toNat)
  case atStart => exact ⟨0, 0, n - 1, rfl, rfl, Nat.zero_le _, rfl, by omega, by omega, by omega, HB, ExtM.refl _ _⟩
  case round =>
    obtain ⟨j, dp, m, rfl, rfl, hj, hL, hd, hm, hdm, HB1, HE1⟩ := hrel
    have HL := Lib.hid hL
    clear hL
    have hE2 : Ext w0 wr := HE1.toExt hE1 (fun i hi h => by omega)
    have c1 : wr.cell? ⟨lb, 0, none⟩ = some (.int .i64 m) := by rw [HB1.cell]; rfl
    have l1 := HB1.lt
    by_cases hlt : j < t.kids.length
    · obtain ⟨b, o, a', c', rfl, hbl, -, p0, p1, p2, p3, p4, hkt⟩ := hT.kid j hlt
      replace p0 := hE2.keep p0
      replace p1 := hE2.keep p1
      replace p2 := hE2.keep p2
      replace p3 := hE2.keep p3
      replace p4 := hE2.keep p4
      have hbl := Nat.lt_of_lt_of_le hbl hE2.size
      have hdrop := Lib.hid (List.drop_eq_getElem_cons hlt)
      by_cases hm0 : m ≤ 0
      · go_wp2_with fail
        go_ret
        refine ⟨ret_int ?_, ?_, (HE.trans' HE1).ext (Ext.alloc _ _)⟩
        · rw [HF.out, HL.out, hdrop.out]; simp only [partsL, if_pos hm0]
        · rw [HF.out, HL.out, hdrop.out]; simp only [partsL, if_pos hm0]; exact HB1.ext (Ext.alloc _ _)
      · have hbk := partsF_bound t.kids[j] m (by omega)
        go_wp2_with fail
        refine (ih j hlt X a' c' m lb w0 _ hkt (hE2.trans (Ext.alloc _ _)) hlb (HB1.ext (Ext.alloc _ _)) (by omega) (by omega)).mono ?_
        rintro e w2 ⟨rfl, HB2, HE2⟩
        have HE3 := (Ext.alloc _ _).extM HE2
        go_wp2_with fail
        refine ⟨⟨j + 1, max dp (partsF t.kids[j] m).1, (partsF t.kids[j] m).2, by go_num, ?_, by omega, ?_, by omega, by omega, by omega, HB2, HE1.trans' HE3⟩, by simp [intOf]; omega⟩
        · congr 1; split <;> omega
        · rw [HL.out, hdrop.out]; simp only [partsL, if_neg (Int.not_le.2 hm0)]
    · obtain rfl : j = t.kids.length := by omega
      go_wp2_with fail
      go_ret
      have hdrop : t.kids.drop t.kids.length = [] := List.drop_of_length_le (Nat.le_refl _)
      refine ⟨ret_int ?_, ?_, HE.trans' HE1⟩
      · rw [HF.out, HL.out, hdrop]; simp only [partsL]
      · rw [HF.out, HL.out, hdrop]; simp only [partsL]; exact HB1
def partsOf (t : Syn) : Int × Int := (1000 - (partsF t 1000).2, (partsF t 1000).1)
set_option maxRecDepth 100000 in
set_option maxHeartbeats 1000000 in
theorem partsOf_calls (t : Syn) {X : Nat → Prop} (a : Option Addr) (c : Nat) (w : World) (hT : SynIn X w a c t) :
    Calls Tryz.prog 40 #[synV t a c] w fun e w' => e = .returned (.tuple #[.int .i64 (partsOf t).1, .int .i64 (partsOf t).2]) ∧ Ext w w' := by
  have hbd := partsF_bound t 1000 (by omega)
  go_enter Tryz.func40, Tryz.ntmps40
  go_wp2_with fail
  refine (parts_calls t X a c 1000 _ w _ hT ?_ ?_ ?_ (by omega) (by omega)).mono ?_
  · exact (Ext.alloc _ _).trans (Ext.alloc _ _)
  · simp
  · have := Blk.new (w.alloc (.cells #[.string t.kind, .bool t.null, .string t.text, .int .i64 t.num, .slice a t.kids.length c] 52)) #[.int .i64 1000] 3
    simpa using this
  rintro e w1 ⟨rfl, hB, hE⟩
  have hc : w1.cell? ⟨w.heap.size + 1, 0, none⟩ = some (.int .i64 (partsF t 1000).2) := by rw [hB.cell]; rfl
  have hE2 : Ext w w1 := hE.toExt ((Ext.alloc _ _).trans (Ext.alloc _ _)) (fun i hi h => by omega)
  go_wp2_with fail
  go_ret2
  exact ⟨rfl, hE2⟩
def fitsS (t : Syn) : Bool := decide (t.kind.size ≤ 2147483647) && decide (t.text.size ≤ 2147483647) && decide (t.kids.length ≤ 2147483647)
set_option maxRecDepth 100000 in
set_option maxHeartbeats 1000000 in
theorem fitsS_calls (t : Syn) {X : Nat → Prop} (a : Option Addr) (c : Nat) (w : World) (hT : SynIn X w a c t) :
    Calls Tryz.prog 34 #[synV t a c] w fun e w' => e = .returned (.bool (fitsS t)) ∧ Ext w w' := by
  have hs := hT.sizes
  have hk := hT.kids
  by_cases h1 : t.kind.size ≤ 2147483647
  · by_cases h2 : t.text.size ≤ 2147483647
    · by_cases h3 : t.kids.length ≤ 2147483647
      · have HF := Lib.hid (show fitsS t = true by unfold fitsS; rw [decide_eq_true h1, decide_eq_true h2, decide_eq_true h3]; rfl)
        go_enter Tryz.func34, Tryz.ntmps34
        go_wp2_with fail
        go_ret
        exact ⟨ret_bool HF.out.symm, Ext.alloc _ _⟩
      · have HF := Lib.hid (show fitsS t = false by unfold fitsS; rw [decide_eq_true h1, decide_eq_true h2, decide_eq_false h3]; rfl)
        go_enter Tryz.func34, Tryz.ntmps34
        go_wp2_with fail
        go_ret
        exact ⟨ret_bool HF.out.symm, Ext.alloc _ _⟩
    · have HF := Lib.hid (show fitsS t = false by unfold fitsS; rw [decide_eq_true h1, decide_eq_false h2]; rfl)
      go_enter Tryz.func34, Tryz.ntmps34
      go_wp2_with fail
      go_ret
      exact ⟨ret_bool HF.out.symm, Ext.alloc _ _⟩
  · have HF := Lib.hid (show fitsS t = false by unfold fitsS; rw [decide_eq_false h1]; rfl)
    go_enter Tryz.func34, Tryz.ntmps34
    go_wp2_with fail
    go_ret
    exact ⟨ret_bool HF.out.symm, Ext.alloc _ _⟩
end Go.Proofs.YtigalkobmfbdaaaGreatDoor
