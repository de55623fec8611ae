/- FnPrint: what the thin package's nodeOf makes of a tree (plain part). -/
import Derived.Test.YtigalkobmfbdaaaGreatDoorPlain8
import Derived.Test.YtigalkobmfbdaaaGreatDoorReads
import Derived.Test.YtigalkobmfbdaaaGreatDoorToTreeB
import Derived.Test.YtigalkobmfbdaaaGreatDoorQuoteA
import Derived.Test.YtigalkobmfbdaaaGreatDoorShelf2
import Derived.Shelf.Abstract
import Derived.Test.YtigalkobmfbdaaaGreatDoorLaw6
import Derived.Test.YtigalkobmfbdaaaGreatDoorLaw8
set_option linter.unusedVariables false
set_option linter.unusedSimpArgs false
namespace Go.Proofs.YtigalkobmfbdaaaGreatDoor
open Go.RowKit
/-- A node out of its kind, its text and its kids. -/
def mkPN (k x : ByteArray) (ns : List PN) : PN :=
  if k.toList == [65, 110, 121] then .any
  else if k.toList == [78, 105, 108] then .nil
  else if k.toList == [83, 116, 114, 105, 110, 103] then .str x
  else if k.toList == [76, 105, 115, 116] then (match ns with | h :: t :: _ => .list h t | _ => .list .nul .nul)
  else if k.toList == [66, 105, 110, 100, 105, 110, 103] then (match ns with | n :: _ => .bind x n 0 | [] => .bind x .nul 0)
  else if k.toList == [79, 114] then .or ns
  else .struct k ns
mutual
def unT : Tree → PN
  | .mk k x ks => mkPN k x (unTs ks)
def unTs : List Tree → List PN
  | [] => []
  | t :: ts => unT t :: unTs ts
end
theorem unT_mk (k x : ByteArray) (ks : List Tree) : unT (.mk k x ks) = mkPN k x (unTs ks) := by rw [unT]
theorem unTs_map : ∀ ks : List Tree, unTs ks = ks.map unT
  | [] => by rw [unTs]; rfl
  | t :: ts => by rw [unTs, unTs_map ts]; rfl
theorem unTs_len (ks : List Tree) : (unTs ks).length = ks.length := by rw [unTs_map, List.length_map]
theorem unTs_take (ks : List Tree) (j : Nat) (h : j < ks.length) : unTs (ks.take (j + 1)) = unTs (ks.take j) ++ [unT ks[j]] := by
  rw [unTs_map, unTs_map, List.take_succ_eq_append_getElem h, List.map_append]; rfl
mutual
/-- How deep a tree is. -/
def depthT : Tree → Nat
  | .mk _ _ ks => depthL ks + 1
def depthL : List Tree → Nat
  | [] => 0
  | t :: ts => max (depthT t) (depthL ts)
end
theorem depthL_get : ∀ {ts : List Tree} (j : Nat) (hj : j < ts.length), depthT ts[j] ≤ depthL ts
  | t :: ts, 0, _ => by simp only [depthL, List.getElem_cons_zero]; omega
  | t :: ts, j + 1, hj => by have := depthL_get (ts := ts) j (by simpa using hj); simp only [depthL, List.getElem_cons_succ]; omega
theorem depthT_pos (t : Tree) : 1 ≤ depthT t := by cases t; simp only [depthT]; omega
theorem depth_kid (t : Tree) (j : Nat) (hj : j < t.kids.length) : depthT t.kids[j] < depthT t := by
  cases t; have := depthL_get j hj; simp only [depthT, Tree.kids] at *; omega
theorem nodesL_depth (ts : List Tree) (ih : ∀ t ∈ ts, ∀ n : Int, 0 < (nodesF t n).2 → (nodesF t n).1 = depthT t) : ∀ s : Int × Int, 0 ≤ s.1 → 0 < (nodesL ts s).2 → (nodesL ts s).1 = max s.1 (depthL ts) := by
  induction ts with
  | nil => intro s h0 h; rw [nodesL, depthL]; omega
  | cons t ts iht =>
    intro s h0 h
    rw [nodesL] at h ⊢
    split at h
    · omega
    · rename_i hs
      rw [if_neg hs]
      have h1 := iht (fun u hu => ih u (List.mem_cons_of_mem _ hu)) _ (by simp only; omega) h
      have h2 := nodesL_left ts (fun u hu => nodesF_left u) _ h
      simp only at h1 h2
      have h3 := ih t (List.mem_cons_self ..) s.2 (by omega)
      rw [h1, h3, depthL]
      omega
theorem nodesF_depth (t : Tree) : ∀ n : Int, 0 < (nodesF t n).2 → (nodesF t n).1 = depthT t := by
  induction t using Tree.ind with | h t ih => ?_
  intro n h
  obtain ⟨k, x, ks⟩ := t
  rw [nodesF] at h ⊢
  simp only [kids_mk] at ih
  have := nodesL_depth ks (fun u hu => by
    obtain ⟨j, hj, rfl⟩ := List.getElem_of_mem hu
    exact ih j hj) (0, n - 1) (by omega) h
  simp only at this ⊢
  rw [this, depthT]
  omega
theorem depth_of_nodes {t : Tree} {m : Int} (h : (nodesOf t).1 ≤ m) (hm : m < 1000) : (nodesOf t).2 = depthT t := by
  unfold nodesOf at h ⊢
  simp only at h ⊢
  exact nodesF_depth t 1000 (by omega)
theorem written_depth {t : Tree} (h : written t = true) : depthT t ≤ 10 := by
  unfold written at h
  rw [Bool.and_eq_true, Bool.and_eq_true, decide_eq_true_eq, decide_eq_true_eq] at h
  have := depth_of_nodes h.1.1 (by omega)
  omega
/-! ### Strings of a pattern are plain -/
theorem colons_facts {t : Tree} (h : colons t = false) : ∀ u ∈ t.kids, colons u = false := by
  obtain ⟨k, x, ks⟩ := t
  rw [colons_mk, Bool.or_eq_false_iff] at h
  exact colonsAny_mem h.2
end Go.Proofs.YtigalkobmfbdaaaGreatDoor
/- The thin package's nodeOf: a tree as a node of the package. -/
set_option linter.unusedVariables false
set_option linter.unusedSimpArgs false
namespace Go.Proofs.YtigalkobmfbdaaaGreatDoor
open Go.RowKit
set_option maxRecDepth 100000 in
set_option maxHeartbeats 1000000 in
theorem zzStruct_yes {nm : ByteArray} {n : Nat} (h : structNodes nm = some n) (h1 : (nm.toList == [79, 114]) = false) (h2 : (nm.toList == [65, 110, 121]) = false) (h3 : (nm.toList == [76, 105, 115, 116]) = false) (h4 : (nm.toList == [66, 105, 110, 100, 105, 110, 103]) = false) (w : World) :
    Calls Tryz.prog 76 #[.string nm, .int .i64 n] w fun e w' => e = .returned (.bool true) ∧ w' = w := by
  go_enter Tryz.func76, Tryz.ntmps76
  go_wp2_with fail
  refine (sn_some h w).mono ?_
  rintro e w1 ⟨rfl, rfl⟩
  go_wp2_with fail
  go_ret
  exact ⟨rfl, rfl⟩
def UnRes (base : Nat) (n : PN) (e : Ending) (w : World) : Prop := ∃ v, e = .returned (.tuple #[v, .bool true]) ∧ NodeAt (fun b => base ≤ b) w v n
def NodeOfC (t : Tree) : Prop := ∀ (cg : Int), good t cg = true → ∀ (X : Nat → Prop) (a : Option Addr) (c : Nat) (dp m : Int) (lb : Nat) (w0 w : World), TreeIn X w0 a c t → Ext w0 w → w0.heap.size ≤ lb → Blk w lb #[.int .i64 m] 3 → 0 ≤ dp → dp + depthT t ≤ 31 → (count t : Int) ≤ m → m ≤ 300 →
  Calls Tryz.prog 59 #[treeV t a c, .int .i64 dp, .pointer (some ⟨lb, 0, none⟩)] w fun e w' => UnRes w.heap.size (unT t) e w' ∧ Blk w' lb #[.int .i64 (m - count t)] 3 ∧ ExtM (· = lb) w w'
theorem Row.extM {M : Nat → Prop} {w w' : World} {base : Nat} {v : Value} {ns : List PN} {vs : List Value} (h : Row w base v ns vs) (hE : ExtM M w w') (hM : ∀ k, base ≤ k → ¬ M k) : Row w' base v ns vs :=
  ⟨ownsRow_extM h.own hE hM, h.len, fun j h1 h2 => (h.node j h1 h2).mono (hE.keeps fun b hb => hM b hb.1)⟩
/-- One more kid, appended in place or anew. -/
theorem nodeOf_snoc {w w' : World} {base : Nat} {v v' : Value} {ns : List PN} {vs : List Value} {n : PN} {x : Value} {cs : Obj} (hR : Row w base v ns vs) (hn : NodeAt (RX base v) w x n)
    (h : w'.ownsRow base 78 1 v' (vs.length + 1) (vs ++ [x]) ∧ (w.alloc cs).grownBy w' v.ownBlock ∧ (v'.ownBlock = v.ownBlock ∨ v'.ownBlock = some (w.heap.size + 1))) : Row w' base v' (ns ++ [n]) (vs ++ [x]) :=
  Row.snoc (w := w.alloc cs) (hR.extM ((Ext.alloc w cs).toM (fun _ => False)) (fun _ _ h => h)) (hn.mono ((Ext.alloc w cs).keeps _)) h.2.1 h.1 (fun g hg => by
    rcases h.2.2 with e | e
    · exact .inl (e ▸ hg)
    · rw [e] at hg
      obtain rfl := Option.some.inj hg
      exact .inr (by simp))
theorem countAll_take (ks : List Tree) (j : Nat) (h : j < ks.length) : countAll (ks.take (j + 1)) = countAll (ks.take j) + count ks[j] := by
  induction ks generalizing j with
  | nil => simp at h
  | cons t ts ih =>
    cases j with
    | zero => simp [countAll]
    | succ j => have := ih j (by simpa using h); simp only [List.take_succ_cons, countAll, List.getElem_cons_succ, this]; omega
theorem countAll_take_le (ks : List Tree) (j : Nat) : countAll (ks.take j) ≤ countAll ks := by
  induction ks generalizing j with
  | nil => simp [countAll]
  | cons t ts ih =>
    cases j with
    | zero => simp [countAll]
    | succ j => have := ih j; simp only [List.take_succ_cons, countAll]; omega
theorem good_kid {t : Tree} {c : Int} (h : good t c = true) : ∀ u ∈ t.kids, ∃ c, good u c = true := by
  obtain ⟨k, x, ks⟩ := t
  intro u hu
  simp only [kids_mk] at hu
  rcases kind_cases k with rfl | rfl | rfl | rfl | rfl | hk
  · obtain ⟨-, rfl⟩ := good_leaf_parts (.inl rfl) h; cases hu
  · obtain ⟨-, rfl⟩ := good_leaf_parts (.inr rfl) h; cases hu
  · obtain ⟨-, rfl, -⟩ := good_string_parts h; cases hu
  · obtain ⟨-, rfl | ⟨a, b, rfl, ha, -, hb⟩⟩ := good_list_parts h
    · cases hu
    · rcases List.mem_cons.1 hu with rfl | hu
      · exact ⟨_, ha⟩
      · obtain rfl := List.mem_singleton.1 hu; exact ⟨_, hb⟩
  · obtain ⟨-, rfl | ⟨a, rfl, -, ha⟩⟩ := good_bind_parts h
    · cases hu
    · obtain rfl := List.mem_singleton.1 hu; exact ⟨_, ha⟩
  · have hk' : (k.toList == [65, 110, 121]) = false ∧ (k.toList == [78, 105, 108]) = false ∧ (k.toList == [83, 116, 114, 105, 110, 103]) = false ∧ (k.toList == [76, 105, 115, 116]) = false ∧ (k.toList == [66, 105, 110, 100, 105, 110, 103]) = false := by
      rcases hk with rfl | rfl | hk
      · simp only [toList_mk]; decide
      · simp only [toList_mk]; decide
      · exact ⟨hk.1, hk.2.1, hk.2.2.1, hk.2.2.2.1, hk.2.2.2.2.1⟩
    obtain ⟨h1, h2, h3, h4, h5⟩ := hk'
    exact (good_node h h1 h2 h3 h4 h5).1 u hu
theorem named_facts2 : ∀ x ∈ fieldsT, (x.1.toList == [84, 111, 107, 101, 110]) = false ∧ (x.1.toList == [65, 110, 100]) = false := by decide +kernel
/-- The forms of a tree that can be printed. -/
def UnForm (t : Tree) : Prop :=
  ((t.kind.toList == [65, 110, 121]) = true ∧ t.kids.length = 0 ∧ unT t = .any) ∨
  ((t.kind.toList == [65, 110, 121]) = false ∧ (t.kind.toList == [78, 105, 108]) = true ∧ t.kids.length = 0 ∧ unT t = .nil) ∨
  ((t.kind.toList == [65, 110, 121]) = false ∧ (t.kind.toList == [78, 105, 108]) = false ∧ (t.kind.toList == [83, 116, 114, 105, 110, 103]) = true ∧ t.kids.length = 0 ∧ unT t = .str t.text) ∨
  ((t.kind.toList == [65, 110, 121]) = false ∧ (t.kind.toList == [78, 105, 108]) = false ∧ (t.kind.toList == [83, 116, 114, 105, 110, 103]) = false ∧ (t.kind.toList == [84, 111, 107, 101, 110]) = false ∧ (t.kind.toList == [76, 105, 115, 116]) = true ∧ t.kids.length = 0 ∧ unT t = .list .nul .nul) ∨
  ((t.kind.toList == [65, 110, 121]) = false ∧ (t.kind.toList == [78, 105, 108]) = false ∧ (t.kind.toList == [83, 116, 114, 105, 110, 103]) = false ∧ (t.kind.toList == [84, 111, 107, 101, 110]) = false ∧ (t.kind.toList == [76, 105, 115, 116]) = true ∧ ∃ a b, t.kids = [a, b] ∧ unT t = .list (unT a) (unT b)) ∨
  ((t.kind.toList == [65, 110, 121]) = false ∧ (t.kind.toList == [78, 105, 108]) = false ∧ (t.kind.toList == [83, 116, 114, 105, 110, 103]) = false ∧ (t.kind.toList == [84, 111, 107, 101, 110]) = false ∧ (t.kind.toList == [76, 105, 115, 116]) = false ∧ (t.kind.toList == [66, 105, 110, 100, 105, 110, 103]) = true ∧ t.kids.length = 0 ∧ unT t = .bind t.text .nul 0) ∨
  ((t.kind.toList == [65, 110, 121]) = false ∧ (t.kind.toList == [78, 105, 108]) = false ∧ (t.kind.toList == [83, 116, 114, 105, 110, 103]) = false ∧ (t.kind.toList == [84, 111, 107, 101, 110]) = false ∧ (t.kind.toList == [76, 105, 115, 116]) = false ∧ (t.kind.toList == [66, 105, 110, 100, 105, 110, 103]) = true ∧ ∃ a, t.kids = [a] ∧ unT t = .bind t.text (unT a) 0) ∨
  ((t.kind.toList == [65, 110, 121]) = false ∧ (t.kind.toList == [78, 105, 108]) = false ∧ (t.kind.toList == [83, 116, 114, 105, 110, 103]) = false ∧ (t.kind.toList == [84, 111, 107, 101, 110]) = false ∧ (t.kind.toList == [76, 105, 115, 116]) = false ∧ (t.kind.toList == [66, 105, 110, 100, 105, 110, 103]) = false ∧ (t.kind.toList == [79, 114]) = true ∧ unT t = .or (unTs t.kids)) ∨
  ((t.kind.toList == [65, 110, 121]) = false ∧ (t.kind.toList == [78, 105, 108]) = false ∧ (t.kind.toList == [83, 116, 114, 105, 110, 103]) = false ∧ (t.kind.toList == [84, 111, 107, 101, 110]) = false ∧ (t.kind.toList == [76, 105, 115, 116]) = false ∧ (t.kind.toList == [66, 105, 110, 100, 105, 110, 103]) = false ∧ (t.kind.toList == [79, 114]) = false ∧ (t.kind.toList == [65, 110, 100]) = false ∧ structNodes t.kind = some t.kids.length ∧ unT t = .struct t.kind (unTs t.kids))
theorem un_form {t : Tree} {c : Int} (h : good t c = true) : UnForm t := by
  obtain ⟨k, x, ks⟩ := t
  unfold UnForm
  simp only [kind_mk, kids_mk, txt_mk, unT_mk]
  rcases kind_cases k with rfl | rfl | rfl | rfl | rfl | hk
  · obtain ⟨-, rfl⟩ := good_leaf_parts (.inl rfl) h
    simp only [toList_mk]; exact .inl ⟨by decide, rfl, by unfold mkPN; simp only [toList_mk]; rfl⟩
  · obtain ⟨-, rfl⟩ := good_leaf_parts (.inr rfl) h
    simp only [toList_mk]; exact .inr (.inl ⟨by decide, by decide, rfl, by unfold mkPN; simp only [toList_mk]; rfl⟩)
  · obtain ⟨-, rfl, -⟩ := good_string_parts h
    simp only [toList_mk]; exact .inr (.inr (.inl ⟨by decide, by decide, by decide, rfl, by unfold mkPN; simp only [toList_mk]; rfl⟩))
  · obtain ⟨-, rfl | ⟨a, b, rfl, -, -, -⟩⟩ := good_list_parts h
    · simp only [toList_mk]; exact .inr (.inr (.inr (.inl ⟨by decide, by decide, by decide, by decide, by decide, rfl, by unfold mkPN; simp only [toList_mk, unTs]; rfl⟩)))
    · simp only [toList_mk]; exact .inr (.inr (.inr (.inr (.inl ⟨by decide, by decide, by decide, by decide, by decide, a, b, rfl, by unfold mkPN; simp only [toList_mk, unTs]; rfl⟩))))
  · obtain ⟨-, rfl | ⟨a, rfl, -, -⟩⟩ := good_bind_parts h
    · simp only [toList_mk]; exact .inr (.inr (.inr (.inr (.inr (.inl ⟨by decide, by decide, by decide, by decide, by decide, by decide, rfl, by unfold mkPN; simp only [toList_mk, unTs]; rfl⟩)))))
    · simp only [toList_mk]; exact .inr (.inr (.inr (.inr (.inr (.inr (.inl ⟨by decide, by decide, by decide, by decide, by decide, by decide, a, rfl, by unfold mkPN; simp only [toList_mk, unTs]; rfl⟩))))))
  · have hk' : (k.toList == [65, 110, 121]) = false ∧ (k.toList == [78, 105, 108]) = false ∧ (k.toList == [83, 116, 114, 105, 110, 103]) = false ∧ (k.toList == [76, 105, 115, 116]) = false ∧ (k.toList == [66, 105, 110, 100, 105, 110, 103]) = false := by
      rcases hk with rfl | rfl | hk
      · simp only [toList_mk]; decide
      · simp only [toList_mk]; decide
      · exact ⟨hk.1, hk.2.1, hk.2.2.1, hk.2.2.2.1, hk.2.2.2.2.1⟩
    obtain ⟨h1, h2, h3, h4, h5⟩ := hk'
    rcases good_node_kind h h1 h2 h3 h4 h5 with ⟨rfl, -⟩ | ⟨rfl, hl⟩ | ⟨hn, hl⟩
    · simp only [toList_mk]; exact .inr (.inr (.inr (.inr (.inr (.inr (.inr (.inl ⟨by decide, by decide, by decide, by decide, by decide, by decide, by decide, by unfold mkPN; simp only [toList_mk]; rfl⟩)))))))
    · have e : structNodes ⟨#[78, 111, 116]⟩ = some 1 := by decide +kernel
      rw [e, hl]
      simp only [toList_mk]; exact .inr (.inr (.inr (.inr (.inr (.inr (.inr (.inr ⟨by decide, by decide, by decide, by decide, by decide, by decide, by decide, by decide, by first | rfl | trivial, by unfold mkPN; simp only [toList_mk]; rfl⟩)))))))
    · obtain ⟨y, hy, rfl⟩ := named_key hn
      obtain ⟨-, -, g1, g2, -⟩ := named_facts y hy
      obtain ⟨g3, g4⟩ := named_facts2 y hy
      refine .inr (.inr (.inr (.inr (.inr (.inr (.inr (.inr ⟨h1, h2, h3, g3, h4, h5, g2, g4, by rw [g1 hn, hl], ?_⟩)))))))
      unfold mkPN
      rw [h1, h2, h3, h4, h5, g2]
      simp only [Bool.false_eq_true, if_false]
/-- The nodes of a row. -/
theorem Row.nodes {w : World} {base : Nat} {v : Value} {ns : List PN} {vs : List Value} (h : Row w base v ns vs) : ∃ a c, v = .slice a ns.length c ∧ ns.length ≤ c ∧ NodesAt (fun b => base ≤ b) w a ns := by
  rcases h.own.2 with ⟨rfl, hn⟩ | ⟨g, cap, cur, rfl, hg, hgg, hnc, -⟩
  · obtain rfl : ns = [] := List.eq_nil_of_length_eq_zero (by rw [h.len, hn])
    exact ⟨none, 0, rfl, Nat.le_refl _, by rw [NodesAt]; trivial⟩
  · refine ⟨_, _, by rw [h.len], by rw [h.len]; exact hnc, nodesAt_of hg ns vs 0 h.len (fun j h1 h2 => (h.node j h1 h2).imp (fun b hb _ => hb.1)) (fun j u hu => ?_)⟩
    have := h.own.cells (g := g) rfl j u hu
    have hadd : (⟨g, 0, none⟩ : Addr).add j = ⟨g, 0 + j, none⟩ := by unfold Addr.add; split <;> simp_all
    rw [hadd] at this
    exact this
set_option maxRecDepth 100000 in
set_option maxHeartbeats 4000000 in
theorem nodeOf_walk {t : Tree} (ih : ∀ (j : Nat) (hj : j < t.kids.length), NodeOfC t.kids[j]) : NodeOfC t := by
  intro cg hg X a c dp m lb w0 w hT hE0 hlb hB hd0 hd hc hm
  obtain ⟨i0, hi, hz0, hz1, hz2⟩ := info_parts info78
  have hct := countAll_of t
  have hKc := hT.kids
  have hlen : t.kids.length ≤ 300 := by have := countAll_len t.kids; omega
  have hdk : ∀ (j : Nat) (hj : j < t.kids.length), depthT t.kids[j] < depthT t := fun j hj => depth_kid t j hj
  have HG := Lib.hid (And.intro hg (And.intro hdk hT))
  have hcp := count_pos t
  have c0 : w.cell? ⟨lb, 0, none⟩ = some (.int .i64 m) := by rw [hB.cell]; rfl
  have f0 := hB.frozen 0
  have lt0 := hB.lt
  have hd30 : ¬ (30 : Int) < dp := by have := depthT_pos t; omega
  have hm0 : ¬ m - 1 < 0 := by omega
  clear hg hdk hT
  go_enter Tryz.func59, Tryz.ntmps59
  go_wp2_with fail
  obtain ⟨W, hW⟩ : ∃ W : World, W = (w.setCell ⟨lb, 0, none⟩ (.int .i64 (m - 1))).alloc (.cells #[.string t.kind, .string t.text, .slice a t.kids.length c] 24) := ⟨_, rfl⟩
  rw [← hW]
  have hne : lb ≠ w.heap.size := by omega
  have KB : Hid (Blk W lb #[.int .i64 (m - 1)] 3) := Lib.hid (by rw [hW]; exact (hB.set 0 _).ext (Ext.alloc _ _))
  have KX : Hid (Blk W w.heap.size #[.string t.kind, .string t.text, .slice a t.kids.length c] 24) := Lib.hid (by rw [hW]; have := Blk.new (w.setCell ⟨lb, 0, none⟩ (.int .i64 (m - 1))) #[.string t.kind, .string t.text, .slice a t.kids.length c] 24; rwa [World.size_setCell] at this)
  have KE : Hid (ExtM (· = lb) w W) := Lib.hid (by rw [hW]; exact ((ExtM.refl (· = lb) w).setCell (p := ⟨lb, 0, none⟩) (.inl rfl) _).ext (Ext.alloc _ _))
  have KE0 : Hid (Ext w0 W) := Lib.hid (KE.out.toExt hE0 (fun i hi h => by omega))
  have hWs : W.heap.size = w.heap.size + 1 := by rw [hW]; simp
  clear hW hB c0 f0
  go_loopw [8, 29] (fun v i wr => ∃ (j : Nat) (vs : List Value), i = .int .i64 j ∧ j ≤ t.kids.length ∧ Row wr (w.heap.size + 1) v (unTs (t.kids.take j)) vs ∧ Blk wr lb #[.int .i64 (m - 1 - countAll (t.kids.take j))] 3 ∧ ExtM (· = lb) W wr) (fun _ i _ => t.kids.length - (intOf i).toNat)
  case atStart => exact ⟨0, [], rfl, Nat.zero_le _, ⟨World.ownsRow_nil _ _ _ _, rfl, fun j h1 => absurd h1 (by simp [unTs])⟩, by simpa [countAll] using KB.out, ExtM.refl _ _⟩
  case round =>
    obtain ⟨j, vs, rfl, hj, hR, hB, hE⟩ := hrel
    have KR := Lib.hid hR
    have KB2 := Lib.hid hB
    have KE2 := Lib.hid hE
    have hvl : vs.length = j := by rw [← hR.len, unTs_len, List.length_take, Nat.min_eq_left hj]
    have hcl := countAll_take_le t.kids j
    have hsz := hE.size
    have hblt := hB.lt
    have KV := Lib.hid hvl
    have E0 := Lib.hid (hE.toExt KE0.out (fun i hi h => by omega))
    clear hR hB hE
    by_cases hlt : j < t.kids.length
    · obtain ⟨b, o, a', c', rfl, hbl, -, p0, p1, p2, hkt⟩ := HG.out.2.2.kids.2.get j hlt
      replace p0 := E0.out.keep p0
      replace p1 := E0.out.keep p1
      replace p2 := E0.out.keep p2
      have hbl := Nat.lt_of_lt_of_le hbl E0.out.size
      have KT := Lib.hid hkt
      obtain ⟨cg2, hg2⟩ := good_kid HG.out.1 t.kids[j] (List.getElem_mem hlt)
      have hd2 := HG.out.2.1 j hlt
      have hct2 := countAll_take t.kids j hlt
      have hct3 := countAll_take_le t.kids (j + 1)
      have KG := Lib.hid hg2
      have hvj : vs.length ≤ 300 := by omega
      clear hkt hg2 hvl
      go_wp2_with fail
      refine (ih j hlt cg2 KG.out X a' c' (dp + 1) (m - 1 - countAll (t.kids.take j)) lb w0 _ KT.out (E0.out.trans (Ext.alloc _ _)) hlb (KB2.out.ext (Ext.alloc _ _)) (by omega) (by omega) (by omega) (by omega)).mono ?_
      rintro e w2 ⟨⟨kv, rfl, hN⟩, hB3, hE3⟩
      have HR2 := Lib.hid (KR.out.extM ((Ext.alloc _ _).extM hE3) (fun k hk e => by omega))
      have hws := hE3.size
      have HN2 : Hid (NodeAt (RX (w.heap.size + 1) u8) w2 kv (unT t.kids[j])) := Lib.hid (hN.imp fun b hb _ => ⟨by simp at hb; omega, fun e => by
        have := (KR.out.own.lt b e).2
        simp at hb
        omega⟩)
      have HB3 := Lib.hid hB3
      have HE3 := Lib.hid (KE2.out.trans' ((Ext.alloc _ _).extM hE3))
      have hw2 : w.heap.size + 1 ≤ w2.heap.size := by simp at hws; omega
      clear hN hB3 hE3 hws
      rcases HN2.out.shape with rfl | ⟨tt, xx, rfl⟩
      ·
        go_wp2_with (first
          | (at_builtin; refine wpList_append_own_at _ rfl _ _ 125 rfl (w.heap.size + 1) 78 i0 _ 1 16 underlying125 hi hz0 hz1 hz2 rfl (by decide) _ _ _ rfl (HR2.out.own.alloc _) ⟨w2.heap.size, 0, none⟩ 1 1 [.nilIface] rfl rfl (cell_one_new _ _ _) (by intro u hu; simp at hu; subst hu; rfl) (by unfold maxLen; omega) (by omega) (by simp; omega) ?_)
          | go_in)
        intro v' w3 hO3 hG hnil hloc
        clear hnil
        have HF := Lib.hid (And.intro hO3 (And.intro hG hloc))
        clear hO3 hG hloc
        go_wp2_with fail
        refine ⟨⟨j + 1, vs ++ [.nilIface], by go_num, by omega, ?_, ?_, ?_⟩, by simp [intOf]; omega⟩
        · rw [unTs_take _ _ hlt]
          exact nodeOf_snoc HR2.out HN2.out HF.out
        · have e1 : m - 1 - (countAll (t.kids.take (j + 1)) : Int) = m - 1 - countAll (t.kids.take j) - count t.kids[j] := by omega
          rw [e1]
          exact (HB3.out.ext (Ext.alloc _ _)).grown HF.out.2.1 (fun e => by have := (HR2.out.own.lt lb e.symm).1; omega)
        · exact (HE3.out.ext (Ext.alloc _ _)).grown HF.out.2.1 (fun k hk => by have := (HR2.out.own.lt k hk).1; omega)
      ·
        go_wp2_with (first
          | (at_builtin; refine wpList_append_own_at _ rfl _ _ 125 rfl (w.heap.size + 1) 78 i0 _ 1 16 underlying125 hi hz0 hz1 hz2 rfl (by decide) _ _ _ rfl (HR2.out.own.alloc _) ⟨w2.heap.size, 0, none⟩ 1 1 [.iface tt xx] rfl rfl (cell_one_new _ _ _) (by intro u hu; simp at hu; subst hu; rfl) (by unfold maxLen; omega) (by omega) (by simp; omega) ?_)
          | go_in)
        intro v' w3 hO3 hG hnil hloc
        clear hnil
        have HF := Lib.hid (And.intro hO3 (And.intro hG hloc))
        clear hO3 hG hloc
        go_wp2_with fail
        refine ⟨⟨j + 1, vs ++ [.iface tt xx], by go_num, by omega, ?_, ?_, ?_⟩, by simp [intOf]; omega⟩
        · rw [unTs_take _ _ hlt]
          exact nodeOf_snoc HR2.out HN2.out HF.out
        · have e1 : m - 1 - (countAll (t.kids.take (j + 1)) : Int) = m - 1 - countAll (t.kids.take j) - count t.kids[j] := by omega
          rw [e1]
          exact (HB3.out.ext (Ext.alloc _ _)).grown HF.out.2.1 (fun e => by have := (HR2.out.own.lt lb e.symm).1; omega)
        · exact (HE3.out.ext (Ext.alloc _ _)).grown HF.out.2.1 (fun k hk => by have := (HR2.out.own.lt k hk).1; omega)
    · obtain rfl : j = t.kids.length := by omega
      rw [List.take_length] at *
      have hbx := (KX.out.extM KE2.out (Ne.symm hne))
      have b3 := Blk3 hbx
      have bl := hbx.lt
      have bf := hbx.frozen
      have KF := Lib.hid (un_form HG.out.1)
      have e1 : m - 1 - (countAll t.kids : Int) = m - count t := by omega
      have kb2 := KB2.out
      rw [e1] at kb2
      have KO := Lib.hid (And.intro kb2 (KE.out.trans' KE2.out))
      clear kb2 e1
      have KV2 := Lib.hid KR.out.vals
      obtain ⟨va, vc, rfl, hvc, hns⟩ := KR.out.nodes
      have KN := Lib.hid hns
      have hul := unTs_len t.kids
      rw [hul] at hvc ⊢
      clear hns hul
      have hz : ∀ (n : PN) (v : Value), NodeAt (fun b => w.heap.size + 1 ≤ b) wr v n → NodeAt (fun b => w.heap.size ≤ b) wr v n := fun n v h => h.imp fun b hb _ => by omega
      have HZ := Lib.hid hz
      clear hz
      clear hbx
      rcases KF.out with ⟨f1, f9, hu⟩ | ⟨f1, f2, f9, hu⟩ | ⟨f1, f2, f3, f9, hu⟩ | ⟨f1, f2, f3, f4, f5, f9, hu⟩ | ⟨f1, f2, f3, f4, f5, f9⟩ | ⟨f1, f2, f3, f4, f5, f6, f9, hu⟩ | ⟨f1, f2, f3, f4, f5, f6, f9⟩ | ⟨f1, f2, f3, f4, f5, f6, f7, hu⟩ | ⟨f1, f2, f3, f4, f5, f6, f7, f8, f9, hu⟩
      · have HU := Lib.hid hu
        clear hu
        rw [f9]
        go_wp2_with fail
        go_ret2
        exact ⟨⟨.iface 130 (.agg #[]), rfl, by rw [HU.out, NodeAt]⟩, KO.out⟩
      · have HU := Lib.hid hu
        clear hu
        rw [f9]
        go_wp2_with fail
        go_ret2
        exact ⟨⟨.iface 131 (.agg #[]), rfl, by rw [HU.out, NodeAt]⟩, KO.out⟩
      · have HU := Lib.hid hu
        clear hu
        rw [f9]
        go_wp2_with fail
        go_ret2
        exact ⟨⟨.iface 132 (.string t.text), rfl, by rw [HU.out, NodeAt]⟩, KO.out⟩
      · have HU := Lib.hid hu
        clear hu
        rw [f9]
        go_wp2_with fail
        go_ret2
        exact ⟨⟨.iface 136 (.agg #[.nilIface, .nilIface]), rfl, by rw [HU.out, NodeAt]; exact ⟨_, _, rfl, by rw [NodeAt], by rw [NodeAt]⟩⟩, KO.out⟩
      · obtain ⟨a1, b1, hk, hu⟩ := f9
        have HU := Lib.hid hu
        clear hu
        obtain ⟨va2, vc2, ev, -, ⟨ps, hl, hN, hC⟩, -⟩ := KV2.out
        have eU : unTs t.kids = [unT a1, unT b1] := by rw [hk, unTs, unTs, unTs]
        rw [eU] at hl hC
        match ps, hl with
        | [p0, p1], _ =>
        obtain ⟨bb, oo, e3, hC2⟩ := hC (by simp)
        subst e3
        obtain ⟨rfl, rfl⟩ : va = some ⟨bb, oo, none⟩ ∧ vc = vc2 := by simpa using ev
        have q0 := hC2 0 p0 rfl
        have q1 := hC2 1 p1 rfl
        have n0 := hN 0 (by rw [eU]; simp) (by simp)
        have n1 := hN 1 (by rw [eU]; simp) (by simp)
        simp only [eU, List.getElem_cons_zero, List.getElem_cons_succ] at n0 n1
        have KN2 := Lib.hid (And.intro n0 n1)
        have bbl := cell_lt q0
        simp only at bbl
        rw [Nat.add_zero] at q0
        have e2 : t.kids.length = 2 := by rw [hk]; rfl
        rw [e2]
        clear n0 n1 hC hC2 hN ev hk eU e2
        rcases KN2.out.1.shape with rfl | ⟨ta, xa, rfl⟩ <;> rcases KN2.out.2.shape with rfl | ⟨tb, xb, rfl⟩
        all_goals
          go_wp2_with fail
          go_quiet (fail)
          go_wp2_with fail
          go_ret2
          refine ⟨⟨.iface 136 (.agg #[_, _]), rfl, ?_⟩, KO.out.1.ext (Ext.drewN _ _), KO.out.2.ext (Ext.drewN _ _)⟩
          rw [HU.out, NodeAt]
          exact ⟨_, _, rfl, (KN2.out.1.mono ((Ext.drewN _ _).keeps _)).imp fun b hb _ => by have := hb.1; omega, (KN2.out.2.mono ((Ext.drewN _ _).keeps _)).imp fun b hb _ => by have := hb.1; omega⟩
      · have HU := Lib.hid hu
        clear hu
        rw [f9]
        go_wp2_with fail
        go_ret2
        exact ⟨⟨.iface 138 (.agg #[.string t.text, .nilIface, .int .i64 0]), rfl, by rw [HU.out, NodeAt]; exact ⟨_, rfl, by rw [NodeAt]⟩⟩, KO.out⟩
      · obtain ⟨a1, hk, hu⟩ := f9
        have HU := Lib.hid hu
        clear hu
        obtain ⟨va2, vc2, ev, -, ⟨ps, hl, hN, hC⟩, -⟩ := KV2.out
        have eU : unTs t.kids = [unT a1] := by rw [hk, unTs, unTs]
        rw [eU] at hl hC
        match ps, hl with
        | [p0], _ =>
        obtain ⟨bb, oo, e3, hC2⟩ := hC (by simp)
        subst e3
        obtain ⟨rfl, rfl⟩ : va = some ⟨bb, oo, none⟩ ∧ vc = vc2 := by simpa using ev
        have q0 := hC2 0 p0 rfl
        have n0 := hN 0 (by rw [eU]; simp) (by simp)
        simp only [eU, List.getElem_cons_zero] at n0
        have KN2 := Lib.hid n0
        have bbl := cell_lt q0
        simp only at bbl
        rw [Nat.add_zero] at q0
        have e2 : t.kids.length = 1 := by rw [hk]; rfl
        rw [e2]
        clear n0 hC hC2 hN ev hk eU e2
        rcases KN2.out.shape with rfl | ⟨ta, xa, rfl⟩
        all_goals
          go_wp2_with fail
          go_quiet (fail)
          go_wp2_with fail
          go_ret2
          refine ⟨⟨.iface 138 (.agg #[.string t.text, _, .int .i64 0]), rfl, ?_⟩, KO.out.1.ext (Ext.drewN _ _), KO.out.2.ext (Ext.drewN _ _)⟩
          rw [HU.out, NodeAt]
          exact ⟨_, rfl, (KN2.out.mono ((Ext.drewN _ _).keeps _)).imp fun b hb _ => by have := hb.1; omega⟩
      · have HU := Lib.hid hu
        clear hu
        go_wp2_with fail
        go_ret2
        refine ⟨⟨.iface 140 (.agg #[.slice va t.kids.length vc]), rfl, ?_⟩, KO.out⟩
        rw [HU.out]
        refine HZ.out _ _ ?_
        rw [NodeAt]
        exact ⟨_, _, by rw [unTs_len], by rw [unTs_len]; exact hvc, KN.out⟩
      · have HU := Lib.hid hu
        have H9 := Lib.hid f9
        clear hu f9
        go_wp2_with fail
        refine (zzStruct_yes H9.out f7 f1 f5 f6 wr).mono ?_
        rintro e w4 ⟨rfl, rfl⟩
        go_wp2_with fail
        go_ret2
        refine ⟨⟨.iface 127 (.agg #[.string t.kind, .slice va t.kids.length vc]), rfl, ?_⟩, KO.out⟩
        rw [HU.out]
        refine HZ.out _ _ ?_
        rw [NodeAt]
        exact ⟨_, _, by rw [unTs_len], by rw [unTs_len]; exact hvc, KN.out⟩
theorem nodeOf_calls (t : Tree) : NodeOfC t := Tree.ind (P := NodeOfC) (fun t ih => nodeOf_walk ih) t
end Go.Proofs.YtigalkobmfbdaaaGreatDoor
/- The nodes' String methods: a node's text is what the reference says. -/
set_option linter.unusedVariables false
set_option linter.unusedSimpArgs false
namespace Go.Proofs.YtigalkobmfbdaaaGreatDoor
open Go.RowKit
/-- Asked for its text, a value answers s. -/
def Shows (v : Value) (s : ByteArray) (w : World) : Prop := ∃ T x f, v = .iface T x ∧ (∀ w, (method 397 T x "String").run Tryz.prog w = .ok (f, x) w) ∧ (∀ args w, (callFunc f args).run Tryz.prog w = .ok (.enter f args) w) ∧ Calls Tryz.prog f #[x] w fun e w' => e = .returned (.string s) ∧ Ext w w'
theorem show127 {x : Value} {s : ByteArray} {w : World} (h : Calls Tryz.prog 214 #[x] w fun e w' => e = .returned (.string s) ∧ Ext w w') : Shows (.iface 127 x) s w := ⟨127, x, 214, rfl, fun _ => by kernel_rfl, enters_of Tryz.func214 (by kernel_rfl) rfl, h⟩
theorem show130 {x : Value} {s : ByteArray} {w : World} (h : Calls Tryz.prog 225 #[x] w fun e w' => e = .returned (.string s) ∧ Ext w w') : Shows (.iface 130 x) s w := ⟨130, x, 225, rfl, fun _ => by kernel_rfl, enters_of Tryz.func225 (by kernel_rfl) rfl, h⟩
theorem show131 {x : Value} {s : ByteArray} {w : World} (h : Calls Tryz.prog 228 #[x] w fun e w' => e = .returned (.string s) ∧ Ext w w') : Shows (.iface 131 x) s w := ⟨131, x, 228, rfl, fun _ => by kernel_rfl, enters_of Tryz.func228 (by kernel_rfl) rfl, h⟩
theorem show132 {x : Value} {s : ByteArray} {w : World} (h : Calls Tryz.prog 231 #[x] w fun e w' => e = .returned (.string s) ∧ Ext w w') : Shows (.iface 132 x) s w := ⟨132, x, 231, rfl, fun _ => by kernel_rfl, enters_of Tryz.func231 (by kernel_rfl) rfl, h⟩
theorem show136 {x : Value} {s : ByteArray} {w : World} (h : Calls Tryz.prog 239 #[x] w fun e w' => e = .returned (.string s) ∧ Ext w w') : Shows (.iface 136 x) s w := ⟨136, x, 239, rfl, fun _ => by kernel_rfl, enters_of Tryz.func239 (by kernel_rfl) rfl, h⟩
theorem show138 {x : Value} {s : ByteArray} {w : World} (h : Calls Tryz.prog 244 #[x] w fun e w' => e = .returned (.string s) ∧ Ext w w') : Shows (.iface 138 x) s w := ⟨138, x, 244, rfl, fun _ => by kernel_rfl, enters_of Tryz.func244 (by kernel_rfl) rfl, h⟩
theorem show140 {x : Value} {s : ByteArray} {w : World} (h : Calls Tryz.prog 248 #[x] w fun e w' => e = .returned (.string s) ∧ Ext w w') : Shows (.iface 140 x) s w := ⟨140, x, 248, rfl, fun _ => by kernel_rfl, enters_of Tryz.func248 (by kernel_rfl) rfl, h⟩
def StrC (t : Tree) : Prop := ∀ (X : Nat → Prop) (v : Value) (w : World), NodeAt X w v (unT t) → Shows v (text 0 t) w
/-! ### Texts without kids -/
set_option maxRecDepth 100000 in
theorem any_string (x : Value) (w : World) : Calls Tryz.prog 225 #[.agg #[]] w fun e w' => e = .returned (.string ⟨#[95]⟩) ∧ Ext w w' := by
  go_enter Tryz.func225, Tryz.ntmps225
  go_wp2_with fail
  go_ret
  exact ⟨rfl, Ext.alloc _ _⟩
set_option maxRecDepth 100000 in
theorem nil_string (x : Value) (w : World) : Calls Tryz.prog 228 #[.agg #[]] w fun e w' => e = .returned (.string ⟨#[110, 105, 108]⟩) ∧ Ext w w' := by
  go_enter Tryz.func228, Tryz.ntmps228
  go_wp2_with fail
  go_ret
  exact ⟨rfl, Ext.alloc _ _⟩
set_option maxRecDepth 100000 in
theorem str_string (s : ByteArray) (hq : s.toList.all qB = true) (hlen : s.size ≤ 1000) (w : World) : Calls Tryz.prog 231 #[.string s] w fun e w' => e = .returned (.string ((⟨#[34]⟩ ++ s) ++ ⟨#[34]⟩)) ∧ Ext w w' := by
  have HQ := Lib.hid hq
  clear hq
  go_enter Tryz.func231, Tryz.ntmps231
  go_wp2_with fail
  refine (quote_calls s HQ.out hlen w).mono ?_
  rintro e w1 ⟨rfl, hE⟩
  have HE := Lib.hid hE
  clear hE
  go_wp2_with fail
  go_ret
  exact ⟨rfl, HE.out⟩
set_option maxRecDepth 100000 in
theorem list_empty (w : World) : Calls Tryz.prog 239 #[.agg #[.nilIface, .nilIface]] w fun e w' => e = .returned (.string ⟨#[91, 93]⟩) ∧ Ext w w' := by
  obtain ⟨t1, t2, t3, t4, t5, t6, t7, t8, t9, t10, t11, t12⟩ := ta_nil
  go_enter Tryz.func239, Tryz.ntmps239
  go_wp2_with fail
  go_ret
  exact ⟨rfl, Ext.alloc _ _⟩
set_option maxRecDepth 100000 in
theorem bind_plain (x : ByteArray) (w : World) : Calls Tryz.prog 244 #[.agg #[.string x, .nilIface, .int .i64 0]] w fun e w' => e = .returned (.string x) ∧ Ext w w' := by
  obtain ⟨t1, t2, t3, t4, t5, t6, t7, t8, t9, t10, t11, t12⟩ := ta_nil
  go_enter Tryz.func244, Tryz.ntmps244
  go_wp2_with fail
  go_ret
  exact ⟨rfl, Ext.alloc _ _⟩
theorem Shows.calls {T : TypeId} {y : Value} {f : FuncId} {s : ByteArray} {w : World} (h : Shows (.iface T y) s w) (hm : ∀ w, (method 397 T y "String").run Tryz.prog w = .ok (f, y) w) : Calls Tryz.prog f #[y] w fun e w' => e = .returned (.string s) ∧ Ext w w' := by
  obtain ⟨T', y', f', e, hm', -, hc⟩ := h
  obtain ⟨rfl, rfl⟩ : T = T' ∧ y = y' := by simpa using e
  have h1 := (hm w).symm.trans (hm' w)
  obtain rfl : f = f' := by simpa using h1
  exact hc
set_option maxRecDepth 100000 in
set_option maxHeartbeats 1000000 in
theorem bind_node {X : Nat → Prop} {t : Tree} (ih : StrC t) (x : ByteArray) (hx : x.size ≤ 140737488351232) (hz : (text 0 t).size ≤ 100000) (hxs : x.size ≤ 100000) (v : Value) (w : World) (hN : NodeAt X w v (unT t)) :
    Calls Tryz.prog 244 #[.agg #[.string x, v, .int .i64 0]] w fun e w' => e = .returned (.string ((x ++ ⟨#[64]⟩) ++ text 0 t)) ∧ Ext w w' := by
  have HI := Lib.hid ih
  have HN := Lib.hid hN
  clear ih hN
  obtain ⟨T, y, f, rfl, hm, he, -⟩ := HI.out X v w HN.out
  have e1 : ∀ w : World, (binOp BinOp.eql 78 (.iface T y) .nilIface).run Tryz.prog w = .ok (.bool false) w := fun w => by kernel_rfl
  go_enter Tryz.func244, Tryz.ntmps244
  go_wp2_with fail
  have HX := Lib.hid (Ext.alloc w (.cells #[.string x, .iface T y, .int .i64 0] 138))
  have hB := Blk3 (Blk.new w #[.string x, .iface T y, .int .i64 0] 138)
  have c0 := Exts.cell hB.1
  have c1 := Exts.cell hB.2.1
  clear hB
  generalize w.alloc (.cells #[.string x, .iface T y, .int .i64 0] 138) = w1 at *
  refine wp_region_ext (by kernel_rfl) (by kernel_rfl) ?_
  repeat (refine BigFrame.wpQuiet_want rfl (fun K hK => ?_); go_big_quiet_op; first | (refine hK _ ?_; clear hK K) | (refine ⟨_, fun e => Calls.ext_of ((HI.out X _ _ (HN.out.mono ((HX.out.trans e.ext).keeps X))).calls hm), hK _ ?_⟩; clear hK K))
  refine wpQuiet_nil ?_
  intro e
  obtain ⟨w7, hE7⟩ := e
  clear c0 c1
  go_wp2_with fail
  go_ret
  exact ⟨rfl, HX.out.trans hE7⟩
/-! ### A node with a name -/
theorem cell_one_new2 (w : World) (A : Obj) (p : Value) (t : TypeId) (j : Nat) (u : Value) (h : [p][j]? = some u) : ((w.alloc A).alloc (.cells #[p] t)).cell? ((⟨w.heap.size + 1, 0, none⟩ : Addr).add j) = some u := by
  have := cell_one_new (w.alloc A) p t j u h
  have e : (w.alloc A).heap.size = w.heap.size + 1 := by simp
  rwa [e] at this
def txtV (l : List ByteArray) : List Value := l.map Value.string
theorem txtV_snoc (l : List ByteArray) (x : ByteArray) : txtV l ++ [.string x] = txtV (l ++ [x]) := by simp [txtV]
theorem strings_at {w : World} {B : Nat} {v : Value} {xs : List ByteArray} {n : Nat} (h : w.ownsRow B 9 1 v n (txtV xs)) (hn : n = xs.length) (h1 : 1 ≤ xs.length) :
    ∃ g cap, v = .slice (some ⟨g, 0, none⟩) xs.length cap ∧ xs.length ≤ cap ∧ g < w.heap.size ∧ ∀ (j : Nat) x, xs[j]? = some x → w.cell? ⟨g, 0 + j, none⟩ = some (.string x) := by
  subst hn
  rcases h.2 with ⟨rfl, hn⟩ | ⟨g, cap, cur, rfl, hg, hgg, hnc, -⟩
  · omega
  · refine ⟨g, cap, rfl, hnc, (Array.getElem?_eq_some_iff.1 hgg).1, fun j x hx => ?_⟩
    have := h.cells (g := g) rfl j (.string x) (by unfold txtV; rw [List.getElem?_map, hx]; rfl)
    have hadd : (⟨g, 0, none⟩ : Addr).add j = ⟨g, 0 + j, none⟩ := by unfold Addr.add; split <;> simp_all
    rw [hadd] at this
    exact this
theorem join_text (k : ByteArray) (l : List Tree) : (⟨(Lib.join ((k :: l.map (text 0)).map (·.data.toList)) (⟨#[32]⟩ : ByteArray).data.toList).toArray⟩ : ByteArray) = k ++ textAll 0 l := by
  apply toList_inj
  rw [toList_mk, app_append, List.map_cons, Lib.join_cons, ByteArray.toList_eq k]
  congr 1
  induction l with
  | nil => rw [textAll, toList_mk]; rfl
  | cons t l ih =>
    rw [textAll, app_append, app_append, ← ih, gap0, toList_mk]
    simp only [List.map_cons, Lib.joinTail, List.flatten_cons, ByteArray.toList_eq]
theorem textAll_part (l : List Tree) (j : Nat) : (textAll 0 (l.take j)).size ≤ (textAll 0 l).size := by
  have e : textAll 0 l = textAll 0 (l.take j) ++ textAll 0 (l.drop j) := by rw [← textAll_append, List.take_append_drop]
  rw [e, app_size]; omega
theorem textAll_get (l : List Tree) (j : Nat) (h : j < l.length) : (text 0 l[j]).size ≤ (textAll 0 l).size := by
  have e : textAll 0 l = textAll 0 (l.take j) ++ (textAll 0 (l.drop j)) := by rw [← textAll_append, List.take_append_drop]
  rw [e, List.drop_eq_getElem_cons h, textAll]
  simp only [app_size]; omega
set_option maxRecDepth 100000 in
set_option maxHeartbeats 4000000 in
theorem struct_string {X : Nat → Prop} {k : ByteArray} {ks : List Tree} (ih : ∀ (j : Nat) (hj : j < ks.length), StrC ks[j]) (hl : ks.length ≤ 1000) (hz : k.size + (textAll 0 ks).size ≤ 100000) (a : Option Addr) (c : Nat) (w : World) (hN : NodesAt X w a (unTs ks)) :
    Calls Tryz.prog 214 #[.agg #[.string k, .slice a ks.length c]] w fun e w' => e = .returned (.string ((⟨#[40]⟩ ++ (k ++ textAll 0 ks)) ++ ⟨#[41]⟩)) ∧ Ext w w' := by
  obtain ⟨i0, hi, hz0, hz1, hz2⟩ := info_parts info9
  have HK := Lib.hid (And.intro ih hN)
  clear ih hN
  go_enter Tryz.func214, Tryz.ntmps214
  go_wp2_with (first
    | (at_builtin; refine wpList_append_own_at _ rfl _ _ 31 rfl (w.heap.size + 1) 9 i0 _ 1 16 underlying31 hi hz0 hz1 hz2 rfl (by decide) (.slice none 0 0) 0 [] rfl (World.ownsRow_nil _ _ _ _) ⟨w.heap.size + 1, 0, none⟩ 1 1 [.string k] rfl rfl ?c1 ?c2 ?c3 ?c4 ?c5 ?_)
    | go_in)
  case c1 => exact cell_one_new2 _ _ _ _
  case c2 => intro u hu; simp at hu; subst hu; rfl
  case c3 => unfold maxLen; omega
  case c4 => omega
  case c5 => simp
  intro v' w1 hO1 hG hnil hloc
  have hA := (Ext.alloc w (.cells #[.string k, .slice a ks.length c] 127)).trans (Ext.alloc _ (.cells #[.string k] 9))
  have HA := Lib.hid (hA.grown hG (fun q hq => by cases hq))
  have HO1 := Lib.hid hO1
  have hbx := ((Blk.new w #[.string k, .slice a ks.length c] 127).ext (Ext.alloc _ (.cells #[.string k] 9))).grown hG (by intro e; cases e)
  have b1 : w1.cell? ⟨w.heap.size, 1, none⟩ = some (.slice a ks.length c) := by rw [hbx.cell]; rfl
  have bl := hbx.lt
  clear hO1 hG hnil hloc hA hbx
  go_wp2_with fail
  go_loopw [3, 14] (fun v i wr => ∃ j : Nat, i = .int .i64 j ∧ j ≤ ks.length ∧ wr.ownsRow (w.heap.size + 1) 9 1 v (j + 1) (txtV (k :: (ks.take j).map (text 0))) ∧ Ext w wr) (fun _ i _ => ks.length - (intOf i).toNat)
  case atStart => exact ⟨0, rfl, Nat.zero_le _, by simpa [txtV] using HO1.out, HA.out⟩
  case round =>
    obtain ⟨j, rfl, hj, hO, hE⟩ := hrel
    have KO := Lib.hid hO
    have KE := Lib.hid hE
    have hws := hE.size
    clear hO hE
    by_cases hlt : j < ks.length
    · obtain ⟨b, o, u, rfl, hb, hcell, hn⟩ := HK.out.2.get j (by rw [unTs_len]; exact hlt)
      have hcw := KE.out.keep hcell
      simp only [unTs_map, List.getElem_map] at hn
      have HN := Lib.hid (hn.mono (KE.out.keeps X))
      have hzj : (text 0 ks[j]).size ≤ 140737488351232 := by have := textAll_get ks j hlt; omega
      clear hcell hn hb
      obtain ⟨T, y, f, rfl, hm, he, hc⟩ := HK.out.1 j hlt X u wr HN.out
      have HC := Lib.hid hc
      clear hc
      go_wp2_with fail
      refine HC.out.mono ?_
      rintro e w2 ⟨rfl, hE2⟩
      have KE2 := Lib.hid hE2
      have hO2 := ownsRow_ext KO.out hE2
      have hs2 := hE2.size
      clear hE2
      go_wp2_with (first
        | (at_builtin; refine wpList_append_own_at _ rfl _ _ 31 rfl (w.heap.size + 1) 9 i0 _ 1 16 underlying31 hi hz0 hz1 hz2 rfl (by decide) _ _ _ rfl (hO2.alloc _) ⟨w2.heap.size, 0, none⟩ 1 1 [.string (text 0 ks[j])] rfl rfl (cell_one_new _ _ _) (by intro u hu; simp at hu; subst hu; rfl) (by unfold maxLen; omega) (by omega) (by simp; omega) ?_)
        | go_in)
      intro v' w3 hO3 hG hnil hloc
      have HF := Lib.hid (And.intro hO3 (((KE.out.trans KE2.out).trans (Ext.alloc _ _)).grown hG (fun q hq => by have := (KO.out.lt q hq).1; omega)))
      clear hO3 hG hnil hloc hO2
      go_wp2_with fail
      refine ⟨⟨j + 1, by go_num, by omega, ?_, HF.out.2⟩, by simp [intOf]; omega⟩
      have e : txtV (k :: (ks.take (j + 1)).map (text 0)) = txtV (k :: (ks.take j).map (text 0)) ++ [.string (text 0 ks[j])] := by
        rw [txtV_snoc, List.take_succ_eq_append_getElem hlt, List.map_append]; rfl
      rw [e, List.map_take]
      exact HF.out.1
    · obtain rfl : j = ks.length := by omega
      rw [List.take_length] at KO
      obtain ⟨g, cap, rfl, hcap, hg, hcells⟩ := strings_at KO.out (by simp) (by simp)
      have HX := Lib.hid hcells
      clear hcells
      have hjl := join_text k ks
      have HJ := Lib.hid hjl
      clear hjl
      have HJn := Tryz.strings_Join g 0 cap (k :: ks.map (text 0)) ⟨#[32]⟩ wr HX.out hg (by simp; omega) hcap (by
        have h1 := congrArg ByteArray.size HJ.out
        rw [app_size] at h1
        have h2 : ∀ l : List UInt8, (⟨l.toArray⟩ : ByteArray).size = l.length := fun l => by simp [ByteArray.size]
        rw [h2] at h1
        omega)
      rw [HJ.out] at HJn
      simp only [List.length_cons, List.length_map] at HJn
      have HJ2 := Lib.hid HJn
      clear HJn
      go_wp2_with fail
      refine HJ2.out.mono ?_
      rintro e w5 ⟨rfl, hE5⟩
      have HE5 := Lib.hid (KE.out.trans hE5)
      clear hE5
      go_wp2_with fail
      go_ret
      exact ⟨rfl, HE5.out⟩
/-! ### Or -/
theorem builder_ext {T e : TypeId} {B b : Nat} {p : Value} {bs : List Value} {w w' : World} (h : Lib.BuilderAt T e B b p bs w) (hE : Ext w w') : Lib.BuilderAt T e B b p bs w' := by
  have hlt := Lib.BuilderAt.lt h
  obtain ⟨hB, v, hb, ho, hne⟩ := h
  exact ⟨hB, v, (hE.block hlt).trans hb, ownsRow_ext ho hE, hne⟩
theorem cells_app (s t : ByteArray) : Lib.byteCells s.toList ++ Lib.strCells t = Lib.byteCells (s ++ t).toList := by
  simp [Lib.byteCells, Lib.strCells, app_append, ByteArray.toList_eq]
theorem strCells_eq (t : ByteArray) : Lib.strCells t = Lib.byteCells t.toList := by simp [Lib.byteCells, Lib.strCells, ByteArray.toList_eq]
/-- A builder of the call's own that holds a text. -/
def Holds (B : Nat) (s : ByteArray) (w : World) : Prop := Lib.BuilderAt 284 5 B B (.pointer (some ⟨B, 0, none⟩)) (Lib.byteCells s.toList) w
theorem write_more {B : Nat} {s t : ByteArray} {w : World} (h : Holds B s w) (hz : s.size + t.size ≤ 100000) :
    Calls Tryz.prog 218 #[.pointer (some ⟨B, 0, none⟩), .string t] w fun e w' => e = .returned (.tuple #[.int .i64 t.size, .nilIface]) ∧ (Holds B (s ++ t) w' ∧ Below B w w') := by
  have := Tryz.Builder_WriteString B B (Lib.byteCells s.toList) t w (.inr h) (by rw [Lib.byteCells_length, size_toList]; omega) (Nat.le_of_lt (Lib.BuilderAt.lt h))
  rw [cells_app] at this
  exact this
set_option maxRecDepth 100000 in
set_option maxHeartbeats 4000000 in
theorem or_string {X : Nat → Prop} {ks : List Tree} (ih : ∀ (j : Nat) (hj : j < ks.length), StrC ks[j]) (hl : ks.length ≤ 1000) (hz : (textAll 0 ks).size ≤ 90000) (a : Option Addr) (c : Nat) (w : World) (hN : NodesAt X w a (unTs ks)) :
    Calls Tryz.prog 248 #[.agg #[.slice a ks.length c]] w fun e w' => e = .returned (.string ((⟨#[40, 79, 114]⟩ ++ textAll 0 ks) ++ ⟨#[41]⟩)) ∧ Ext w w' := by
  have HK := Lib.hid (And.intro ih hN)
  clear ih hN
  go_enter Tryz.func248, Tryz.ntmps248
  go_wp2_with fail
  obtain ⟨B, hB⟩ : ∃ B, B = w.heap.size + 1 := ⟨_, rfl⟩
  rw [← hB]
  obtain ⟨W, hW⟩ : ∃ W, W = (w.alloc (.cells #[.slice a ks.length c] 140)).alloc (.cells #[.pointer none, .slice none 0 0] 284) := ⟨_, rfl⟩
  rw [← hW]
  have hsz : W.heap.size = B + 1 := by rw [hW, hB]; simp
  have KW : Hid (Ext w W) := Lib.hid (by rw [hW]; exact (Ext.alloc _ _).trans (Ext.alloc _ _))
  have hn : Blk W B #[.pointer none, .slice none 0 0] 284 := by
    have := Blk.new (w.alloc (.cells #[.slice a ks.length c] 140)) #[.pointer none, .slice none 0 0] 284
    have e : (w.alloc (.cells #[.slice a ks.length c] 140)).heap.size = B := by rw [hB]; simp
    rw [e, ← hW] at this
    exact this
  have KX : Hid (Blk W w.heap.size #[.slice a ks.length c] 140) := Lib.hid (by rw [hW]; exact (Blk.new _ _ _).ext (Ext.alloc _ _))
  have h0 := Tryz.Builder_WriteString B B [] ⟨#[40, 79, 114]⟩ W (.inl ⟨Nat.le_refl _, _, hn, World.ownsRow_nil _ _ _ _, by simp [Value.ownBlock]⟩) (by decide) (by omega)
  have H0 := Lib.hid h0
  have HB := Lib.hid hB
  clear hW hn h0 hB
  refine H0.out.mono ?_
  rintro e w1 ⟨rfl, hH, hBel⟩
  rw [List.nil_append, strCells_eq] at hH
  have KH : Hid (Holds B ⟨#[40, 79, 114]⟩ w1) := Lib.hid hH
  have KB := Lib.hid hBel
  have hb1 : w1.cell? ⟨w.heap.size, 0, none⟩ = some (.slice a ks.length c) := by rw [Below.cell hBel (by have := HB.out; simp; omega), KX.out.cell]; rfl
  have hbl : w.heap.size < w1.heap.size := by have := hBel.size; have := KX.out.lt; omega
  have KE : Hid (Ext w w1) := Lib.hid (Below.trans KW.out (Below.mono hBel (by have := HB.out; omega)))
  clear hH hBel
  go_wp2_with fail
  go_loopw [10] (fun i wr => ∃ j : Nat, i = .int .i64 j ∧ j ≤ ks.length ∧ Holds B (⟨#[40, 79, 114]⟩ ++ textAll 0 (ks.take j)) wr ∧ Ext w wr) (fun i _ => ks.length - (intOf i).toNat)
  case atStart => exact ⟨0, rfl, Nat.zero_le _, by rw [List.take_zero, textAll, show (⟨#[40, 79, 114]⟩ ++ ⟨#[]⟩ : ByteArray) = ⟨#[40, 79, 114]⟩ from ByteArray.append_empty]; exact KH.out, KE.out⟩
  case round =>
    obtain ⟨j, rfl, hj, hH, hE⟩ := hrel
    have KH := Lib.hid hH
    have KE := Lib.hid hE
    have hzt := textAll_part ks j
    have z3 : (⟨#[40, 79, 114]⟩ : ByteArray).size = 3 := rfl
    clear hH hE
    by_cases hlt : j < ks.length
    · obtain ⟨b, o, u, rfl, hb, hcell, hn⟩ := HK.out.2.get j (by rw [unTs_len]; exact hlt)
      have hcw := KE.out.keep hcell
      simp only [unTs_map, List.getElem_map] at hn
      have HN := Lib.hid hn
      have hzj := textAll_get ks j hlt
      have htk : textAll 0 (ks.take (j + 1)) = textAll 0 (ks.take j) ++ (⟨#[32]⟩ ++ text 0 ks[j]) := by rw [textAll_take 0 ks j hlt, gap0]
      have HTK := Lib.hid htk
      have hzt2 := textAll_part ks (j + 1)
      have hzz : (textAll 0 (ks.take (j + 1))).size = (textAll 0 (ks.take j)).size + (1 + (text 0 ks[j]).size) := by rw [htk, app_size, app_size]; rfl
      clear hcell hn hb htk
      rcases HN.out.shape with rfl | ⟨T0, y0, rfl⟩
      · exfalso
        obtain ⟨T, y, f, e, -⟩ := HK.out.1 j hlt X _ w HN.out
        cases e
      obtain ⟨T, y, f, e0, hm, he, -⟩ := HK.out.1 j hlt X _ w HN.out
      obtain ⟨rfl, rfl⟩ : T0 = T ∧ y0 = y := by simpa using e0
      clear e0
      have z1 : (⟨#[32]⟩ : ByteArray).size = 1 := rfl
      go_wp2_with fail
      refine (write_more (t := ⟨#[32]⟩) KH.out (by rw [app_size, z3, z1]; omega)).mono ?_
      rintro e w2 ⟨rfl, hH2, hB2⟩
      have KH2 := Lib.hid hH2
      have KE2 : Hid (Ext w w2) := Lib.hid (Below.trans KE.out (Below.mono hB2 (by have := HB.out; omega)))
      clear hH2 hB2
      go_wp2_with fail
      refine ((HK.out.1 j hlt X _ w2 (HN.out.mono (KE2.out.keeps X))).calls hm).mono ?_
      rintro e w3 ⟨rfl, hE3⟩
      have KH3 := Lib.hid (builder_ext KH2.out hE3)
      have KE3 := Lib.hid (KE2.out.trans hE3)
      clear hE3
      go_wp2_with fail
      refine (write_more (t := text 0 ks[j]) KH3.out (by rw [app_size, app_size, z3, z1]; omega)).mono ?_
      rintro e w4 ⟨rfl, hH4, hB4⟩
      have KH4 := Lib.hid hH4
      have KE4 : Hid (Ext w w4) := Lib.hid (Below.trans KE3.out (Below.mono hB4 (by have := HB.out; omega)))
      clear hH4 hB4
      go_wp2_with fail
      refine ⟨⟨j + 1, by go_num, by omega, ?_, KE4.out⟩, by simp [intOf]; omega⟩
      have e : ⟨#[40, 79, 114]⟩ ++ textAll 0 (ks.take (j + 1)) = ((⟨#[40, 79, 114]⟩ ++ textAll 0 (ks.take j)) ++ ⟨#[32]⟩) ++ text 0 ks[j] := by rw [HTK.out]; simp only [ByteArray.append_assoc]
      rw [e]
      exact KH4.out
    · obtain rfl : j = ks.length := by omega
      rw [List.take_length] at KH hzt
      go_wp2_with fail
      refine (write_more (t := ⟨#[41]⟩) KH.out (by rw [app_size, z3, show (⟨#[41]⟩ : ByteArray).size = 1 from rfl]; omega)).mono ?_
      rintro e w2 ⟨rfl, hH2, hB2⟩
      have KH2 := Lib.hid hH2
      have KE2 : Hid (Ext w w2) := Lib.hid (Below.trans KE.out (Below.mono hB2 (by have := HB.out; omega)))
      clear hH2 hB2
      go_wp2_with fail
      refine (Tryz.Builder_String B B _ w2 (.inr KH2.out) (fun e => by
        have h1 := size_toList ((⟨#[40, 79, 114]⟩ ++ textAll 0 ks) ++ ⟨#[41]⟩ : ByteArray)
        rw [e, app_size, app_size, z3] at h1
        simp at h1
        omega)).mono ?_
      rintro e w3 ⟨rfl, hB3⟩
      have KE3 : Hid (Ext w w3) := Lib.hid (Below.trans KE2.out (Below.mono hB3 (by have := HB.out; omega)))
      clear hB3
      go_wp2_with fail
      go_ret
      exact ⟨ret_string (toList_inj (toList_mk _)), KE3.out⟩
end Go.Proofs.YtigalkobmfbdaaaGreatDoor
/- The String method of List: with brackets, or with colons. -/
set_option linter.unusedVariables false
set_option linter.unusedSimpArgs false
namespace Go.Proofs.YtigalkobmfbdaaaGreatDoor
open Go.RowKit
theorem un_iface {X : Nat → Prop} {w : World} {t : Tree} {c : Int} (hg : good t c = true) {v : Value} (h : NodeAt X w v (unT t)) : ∃ T x, v = .iface T x := by
  rcases un_form hg with ⟨-, -, hu⟩ | ⟨-, -, -, hu⟩ | ⟨-, -, -, -, hu⟩ | ⟨-, -, -, -, -, -, hu⟩ | ⟨-, -, -, -, -, a, b, -, hu⟩ | ⟨-, -, -, -, -, -, -, hu⟩ | ⟨-, -, -, -, -, -, a, -, hu⟩ | ⟨-, -, -, -, -, -, -, hu⟩ | ⟨-, -, -, -, -, -, -, -, -, hu⟩
  all_goals
    rw [hu] at h
    rcases h.shape with rfl | ⟨T, x, rfl⟩
    · rw [NodeAt] at h
      simp at h
    · exact ⟨T, x, rfl⟩
/-- A list's value. -/
theorem un_list {X : Nat → Prop} {w : World} {x : ByteArray} {ks : List Tree} {c : Int} (hg : good (.mk ⟨#[76, 105, 115, 116]⟩ x ks) c = true) {v : Value} (h : NodeAt X w v (unT (.mk ⟨#[76, 105, 115, 116]⟩ x ks))) : ∃ p q, v = .iface 136 (.agg #[p, q]) ∧ (p = .nilIface ∨ ∃ t y, p = .iface t y) ∧ (q = .nilIface ∨ ∃ t y, q = .iface t y) := by
  obtain ⟨-, rfl | ⟨a, b, rfl, -, -, -⟩⟩ := good_list_parts hg
  · have e : unT (.mk ⟨#[76, 105, 115, 116]⟩ x []) = .list .nul .nul := by rw [unT_mk]; unfold mkPN; simp only [toList_mk, unTs]; rfl
    rw [e, NodeAt] at h
    obtain ⟨p, q, rfl, h1, h2⟩ := h
    exact ⟨p, q, rfl, h1.shape, h2.shape⟩
  · have e : unT (.mk ⟨#[76, 105, 115, 116]⟩ x [a, b]) = .list (unT a) (unT b) := by rw [unT_mk]; unfold mkPN; simp only [toList_mk, unTs]; rfl
    rw [e, NodeAt] at h
    obtain ⟨p, q, rfl, h1, h2⟩ := h
    exact ⟨p, q, rfl, h1.shape, h2.shape⟩
theorem un_pair (x : ByteArray) (a b : Tree) : unT (.mk ⟨#[76, 105, 115, 116]⟩ x [a, b]) = .list (unT a) (unT b) := by rw [unT_mk]; unfold mkPN; simp only [toList_mk, unTs]; rfl
theorem un_nil (x : ByteArray) : unT (.mk ⟨#[76, 105, 115, 116]⟩ x []) = .list .nul .nul := by rw [unT_mk]; unfold mkPN; simp only [toList_mk, unTs]; rfl
theorem whole_pair (x : ByteArray) (a b : Tree) : whole (.mk ⟨#[76, 105, 115, 116]⟩ x [a, b]) = (whole b).map (a :: ·) := by
  rw [whole_mk]; simp only [toList_mk]; rfl
theorem whole_nil (x : ByteArray) : whole (.mk ⟨#[76, 105, 115, 116]⟩ x []) = some [] := by
  rw [whole_mk]; simp only [toList_mk]; rfl
theorem whole_other {t : Tree} (h : (t.kind.toList == [76, 105, 115, 116]) = false) : whole t = none := by
  obtain ⟨k, x, ks⟩ := t
  rw [whole_mk]
  simp only [kind_mk] at h
  rw [h]; rfl
theorem BlkTwo {w : World} {b : Nat} {c0 c1 : Value} {t : TypeId} (h : Blk w b #[c0, c1] t) : w.cell? ⟨b, 0, none⟩ = some c0 ∧ w.cell? ⟨b, 1, none⟩ = some c1 := ⟨by rw [h.cell]; rfl, by rw [h.cell]; rfl⟩
/-- What can be a tail. -/
theorem tail_cases {b : Tree} (h : tailKind b = true) (hg : good b 108 = true) : (∃ x ks, b = .mk ⟨#[76, 105, 115, 116]⟩ x ks) ∨ (∃ x, b = .mk ⟨#[65, 110, 121]⟩ x [] ∧ unT b = .any) ∨ (∃ x, b = .mk ⟨#[66, 105, 110, 100, 105, 110, 103]⟩ x [] ∧ unT b = .bind x .nul 0) := by
  obtain ⟨k, x, ks⟩ := b
  unfold tailKind at h
  simp only [kind_mk, kids_mk, Bool.or_eq_true, Bool.and_eq_true, beq_iff_eq] at h
  rcases h with (h | h) | ⟨h, h0⟩
  · obtain rfl := toList_inj (h.trans (toList_mk _).symm)
    exact .inl ⟨x, ks, rfl⟩
  · obtain rfl := toList_inj (h.trans (toList_mk _).symm)
    obtain ⟨-, rfl⟩ := good_leaf_parts (.inl rfl) hg
    exact .inr (.inl ⟨x, rfl, by rw [unT_mk]; unfold mkPN; simp only [toList_mk]; rfl⟩)
  · obtain rfl := toList_inj (h.trans (toList_mk _).symm)
    obtain rfl := List.eq_nil_of_length_eq_zero h0
    exact .inr (.inr ⟨x, rfl, by rw [unT_mk]; unfold mkPN; simp only [toList_mk, unTs]; rfl⟩)
set_option maxRecDepth 100000 in
set_option maxHeartbeats 2000000 in
theorem proper_calls (t : Tree) : ∀ (x : ByteArray) (ks : List Tree) (c : Int), t = .mk ⟨#[76, 105, 115, 116]⟩ x ks → good t c = true → ∀ (X : Nat → Prop) (p q : Value) (w : World), NodeAt X w (.iface 136 (.agg #[p, q])) (unT t) → Calls Tryz.prog 242 #[.agg #[p, q]] w fun e w' => e = .returned (.bool (whole t).isSome) ∧ Ext w w' := by
  induction t using Tree.ind with | h t ih => ?_
  intro x ks c ht hg X p q w hN
  subst ht
  simp only [kids_mk] at ih
  obtain ⟨-, rfl | ⟨a, b, rfl, ha, hb1, hb⟩⟩ := good_list_parts hg
  · rw [un_nil, NodeAt] at hN
    obtain ⟨p', q', e, e1, e2⟩ := hN
    rw [NodeAt] at e1 e2
    subst e1 e2
    obtain ⟨rfl, rfl⟩ : p = .nilIface ∧ q = .nilIface := by simpa using e
    clear e
    rw [whole_nil]
    obtain ⟨t1, t2, t3, t4, t5, t6, t7, t8, t9, t10, t11, t12⟩ := ta_nil
    clear ih hg
    go_enter Tryz.func242, Tryz.ntmps242
    go_wp2_with fail
    go_ret
    exact ⟨rfl, Ext.alloc _ _⟩
  · rw [un_pair, NodeAt] at hN
    obtain ⟨p', q', e, h1, h2⟩ := hN
    obtain ⟨rfl, rfl⟩ : p = p' ∧ q = q' := by simpa using e
    clear e
    obtain ⟨Ta, xa, rfl⟩ := un_iface ha h1
    rw [whole_pair]
    have e1 : ∀ w : World, (binOp BinOp.eql 78 (.iface Ta xa) .nilIface).run Tryz.prog w = .ok (.bool false) w := fun w => by kernel_rfl
    rcases tail_cases hb1 hb with ⟨x2, ks2, rfl⟩ | ⟨x2, rfl, hu⟩ | ⟨x2, rfl, hu⟩
    · obtain ⟨p2, q2, rfl, sp, sq⟩ := un_list hb h2
      have HI := Lib.hid (ih 1 (by simp) x2 ks2 108 rfl hb X p2 q2)
      have HN := Lib.hid h2
      clear ih hg h1 h2
      have HM : Hid ((Option.map (fun x => a :: x) (whole (.mk ⟨#[76, 105, 115, 116]⟩ x2 ks2))).isSome = (whole (.mk ⟨#[76, 105, 115, 116]⟩ x2 ks2)).isSome) := Lib.hid (by simp)
      obtain ⟨t1, t2, t3, t4, t5, t6, t7, t8, t9, t10, t11, t12⟩ := ta_136 (.agg #[p2, q2])
      rcases sp with rfl | ⟨Tp, yp, rfl⟩ <;> rcases sq with rfl | ⟨Tq, yq, rfl⟩
      all_goals
        go_enter Tryz.func242, Tryz.ntmps242
        go_wp2_with fail
        refine (HI.out _ (HN.out.mono (((Ext.alloc _ _).trans (Ext.alloc _ _)).keeps X))).mono ?_
        rintro e w2 ⟨rfl, hE⟩
        have HE := Lib.hid (((Ext.alloc _ _).trans (Ext.alloc _ _)).trans hE)
        clear hE
        go_wp2_with fail
        go_ret
        exact ⟨ret_bool HM.out.symm, HE.out⟩
    · rw [hu, NodeAt] at h2
      subst h2
      have HM : Hid ((Option.map (fun x => a :: x) (whole (.mk ⟨#[65, 110, 121]⟩ x2 []))).isSome = false) := Lib.hid (by rw [whole_other (by simp only [kind_mk, toList_mk]; decide)]; rfl)
      rw [HM.out]
      clear ih hg h1 hu
      obtain ⟨t1, t2, t3, t4, t5, t6, t7, t8, t9, t10, t11, t12⟩ := ta_130 (.agg #[])
      go_enter Tryz.func242, Tryz.ntmps242
      go_wp2_with fail
      go_ret
      exact ⟨rfl, Ext.alloc _ _⟩
    · rw [hu, NodeAt] at h2
      obtain ⟨nv, rfl, hnv⟩ := h2
      rw [NodeAt] at hnv
      subst hnv
      have HM : Hid ((Option.map (fun x => a :: x) (whole (.mk ⟨#[66, 105, 110, 100, 105, 110, 103]⟩ x2 []))).isSome = false) := Lib.hid (by rw [whole_other (by simp only [kind_mk, toList_mk]; decide)]; rfl)
      rw [HM.out]
      clear ih hg h1 hu
      obtain ⟨t1, t2, t3, t4, t5, t6, t7, t8, t9, t10, t11, t12⟩ := ta_138 (.agg #[.string x2, .nilIface, .int .i64 0])
      go_enter Tryz.func242, Tryz.ntmps242
      go_wp2_with fail
      go_ret
      exact ⟨rfl, Ext.alloc _ _⟩
theorem whole_mem : ∀ (l : List Tree) (b : Tree) (c : Int), good b c = true → colons b = false → whole b = some l → ∀ u ∈ l, count u < count b ∧ (∃ c, good u c = true) ∧ colons u = false
  | [], _, _, _, _, _, u, hu => by cases hu
  | a :: l, b, c, hg, hc, hw, u, hu => by
    obtain ⟨k, x, ks⟩ := b
    have hk : (k.toList == [76, 105, 115, 116]) = true := by
      cases e : (k.toList == [76, 105, 115, 116]) with
      | true => rfl
      | false => rw [whole_other (by rw [kind_mk]; exact e)] at hw; cases hw
    obtain rfl := beq_lit hk
    obtain ⟨-, rfl | ⟨a', b', rfl, ha, hb1, hb⟩⟩ := good_list_parts hg
    · rw [whole_nil] at hw; cases hw
    · rw [whole_pair] at hw
      cases hb2 : whole b' with
      | none => rw [hb2] at hw; cases hw
      | some l' =>
        rw [hb2] at hw
        simp at hw
        obtain ⟨rfl, rfl⟩ := hw
        have hcs := colons_facts hc
        simp only [kids_mk] at hcs
        have hcn : count (.mk ⟨#[76, 105, 115, 116]⟩ x [a', b']) = count a' + (count b' + 0) + 1 := by simp only [count, countAll]
        rcases List.mem_cons.1 hu with rfl | hu
        · exact ⟨by omega, ⟨_, ha⟩, hcs _ (by simp)⟩
        · obtain ⟨q1, q2, q3⟩ := whole_mem l' b' 108 hb (hcs _ (by simp)) hb2 u hu
          exact ⟨by omega, q2, q3⟩
theorem whole_len : ∀ (l : List Tree) (b : Tree), whole b = some l → l.length < count b
  | [], b, _ => count_pos b
  | u :: l, b, h => by
    obtain ⟨k, x, ks⟩ := b
    rw [whole_mk] at h
    split at h
    · match ks, h with
      | a :: b' :: r, h =>
        dsimp only at h
        cases hb : whole b' with
        | none => rw [hb] at h; cases h
        | some l' =>
          rw [hb] at h
          simp at h
          obtain ⟨rfl, rfl⟩ := h
          have := whole_len l' b' hb
          simp only [count, countAll, List.length_cons]
          omega
    · cases h
/-- A list without a tail that is none: what is at its head, and what at its tail. -/
theorem whole_cons {X : Nat → Prop} {w : World} {cur u : Tree} {r : List Tree} {c : Int} (hg : good cur c = true) (hw : whole cur = some (u :: r)) {p q : Value} (h : NodeAt X w (.iface 136 (.agg #[p, q])) (unT cur)) :
    NodeAt X w p (unT u) ∧ ∃ b', good b' 108 = true ∧ whole b' = some r ∧ ∃ p2 q2, q = .iface 136 (.agg #[p2, q2]) ∧ NodeAt X w q (unT b') ∧ (p2 = .nilIface ∨ ∃ t y, p2 = .iface t y) ∧ (q2 = .nilIface ∨ ∃ t y, q2 = .iface t y) := by
  obtain ⟨k, x, ks⟩ := cur
  have hk : (k.toList == [76, 105, 115, 116]) = true := by
    cases e : (k.toList == [76, 105, 115, 116]) with
    | true => rfl
    | false => rw [whole_other (by rw [kind_mk]; exact e)] at hw; cases hw
  obtain rfl := beq_lit hk
  obtain ⟨-, rfl | ⟨a', b', rfl, ha, hb1, hb⟩⟩ := good_list_parts hg
  · rw [whole_nil] at hw; cases hw
  · rw [whole_pair] at hw
    cases hb2 : whole b' with
    | none => rw [hb2] at hw; cases hw
    | some l' =>
      rw [hb2] at hw
      simp at hw
      obtain ⟨rfl, rfl⟩ := hw
      rw [un_pair, NodeAt] at h
      obtain ⟨p', q', e, h1, h2⟩ := h
      obtain ⟨rfl, rfl⟩ : p = p' ∧ q = q' := by simpa using e
      have hk2 : (b'.kind.toList == [76, 105, 115, 116]) = true := by
        cases e : (b'.kind.toList == [76, 105, 115, 116]) with
        | true => rfl
        | false => rw [whole_other e] at hb2; cases hb2
      obtain ⟨k2, x2, ks2⟩ := b'
      obtain rfl := beq_lit hk2
      obtain ⟨p2, q2, rfl, s1, s2⟩ := un_list hb h2
      exact ⟨h1, _, hb, hb2, p2, q2, rfl, h2, s1, s2⟩
theorem whole_end {X : Nat → Prop} {w : World} {cur : Tree} {c : Int} (hg : good cur c = true) (hw : whole cur = some []) {p q : Value} (h : NodeAt X w (.iface 136 (.agg #[p, q])) (unT cur)) : p = .nilIface := by
  obtain ⟨k, x, ks⟩ := cur
  have hk : (k.toList == [76, 105, 115, 116]) = true := by
    cases e : (k.toList == [76, 105, 115, 116]) with
    | true => rfl
    | false => rw [whole_other (by rw [kind_mk]; exact e)] at hw; cases hw
  obtain rfl := beq_lit hk
  obtain ⟨-, rfl | ⟨a', b', rfl, ha, hb1, hb⟩⟩ := good_list_parts hg
  · rw [un_nil, NodeAt] at h
    obtain ⟨p', q', e, h1, -⟩ := h
    rw [NodeAt] at h1
    subst h1
    simp at e
    exact e.1
  · rw [whole_pair] at hw
    cases hb2 : whole b' with
    | none => rw [hb2] at hw; cases hw
    | some l' => rw [hb2] at hw; cases hw
set_option maxRecDepth 100000 in
set_option maxHeartbeats 4000000 in
theorem list_whole {X : Nat → Prop} {x : ByteArray} {a b : Tree} {cg : Int} {lb : List Tree} (hg : good (.mk ⟨#[76, 105, 115, 116]⟩ x [a, b]) cg = true) (hw : whole b = some lb) (hS : ∀ u ∈ a :: lb, StrC u) (hl : lb.length ≤ 1000) (hz : (text 0 a).size + (textAll 0 lb).size ≤ 90000) (p q : Value) (w : World) (hN : NodeAt X w (.iface 136 (.agg #[p, q])) (unT (.mk ⟨#[76, 105, 115, 116]⟩ x [a, b]))) :
    Calls Tryz.prog 239 #[.agg #[p, q]] w fun e w' => e = .returned (.string ((⟨#[91]⟩ ++ (text 0 a ++ textAll 0 lb)) ++ ⟨#[93]⟩)) ∧ Ext w w' := by
  obtain ⟨i0, hi, hz0, hz1, hz2⟩ := info_parts info9
  have hw2 : whole (.mk ⟨#[76, 105, 115, 116]⟩ x [a, b]) = some (a :: lb) := by rw [whole_pair, hw]; rfl
  have HP := Lib.hid (proper_calls _ x [a, b] cg rfl hg X p q)
  rw [hw2] at HP
  obtain ⟨n1, b1, -, -, p2, q2, eq, -⟩ := whole_cons hg hw2 hN
  obtain ⟨Ta, xa, rfl⟩ : ∃ T y, p = .iface T y := by
    obtain ⟨-, h | ⟨a', b', h, ha, -, -⟩⟩ := good_list_parts hg
    · cases h
    · simp at h
      obtain ⟨rfl, rfl⟩ := h
      exact un_iface ha n1
  subst eq
  have HN := Lib.hid hN
  have HS := Lib.hid hS
  have HW := Lib.hid (And.intro hg hw2)
  have e1 : ∀ w : World, (binOp BinOp.eql 78 (.iface Ta xa) .nilIface).run Tryz.prog w = .ok (.bool false) w := fun w => by kernel_rfl
  clear hN hS hw hw2 hg n1
  go_enter Tryz.func239, Tryz.ntmps239
  go_wp2_with fail
  refine (HP.out _ (HN.out.mono ((Ext.alloc _ _).keeps X))).mono ?_
  rintro e w1 ⟨rfl, hE1⟩
  have hbx := (Blk.new w #[.iface Ta xa, .iface 136 (.agg #[p2, q2])] 136).ext hE1
  have KX := Lib.hid hbx
  have KE := Lib.hid ((Ext.alloc w (.cells #[.iface Ta xa, .iface 136 (.agg #[p2, q2])] 136)).trans hE1)
  clear hE1 hbx e1
  go_wp2_with fail
  go_loopg [3] (lb.length + 1) (fun k v wr => ∃ (done rest : List Tree) (cur : Tree) (p q : Value) (c : Int), rest.length = k ∧ done ++ rest = a :: lb ∧ whole cur = some rest ∧ good cur c = true ∧ Blk wr w.heap.size #[p, q] 136 ∧ NodeAt X w (.iface 136 (.agg #[p, q])) (unT cur) ∧ wr.ownsRow (w.heap.size + 1) 9 1 v done.length (txtV (done.map (text 0))) ∧ Ext w wr)
  case atStart => exact ⟨[], a :: lb, _, _, _, cg, rfl, rfl, HW.out.2, HW.out.1, KX.out, HN.out, World.ownsRow_nil _ _ _ _, KE.out⟩
  case round =>
    obtain ⟨done, rest, cur, p, q, c, hk, hdr, hwc, hgc, hB, hNc, hO, hE⟩ := hrel
    have hdl := congrArg List.length hdr
    rw [List.length_append, List.length_cons] at hdl
    have KO := Lib.hid hO
    have KE := Lib.hid hE
    have KB := Lib.hid hB
    have KD := Lib.hid hdr
    have hws := hE.size
    have bl := hB.lt
    have bf := hB.frozen
    have bc : wr.cell? ⟨w.heap.size, 0, none⟩ = some p ∧ wr.cell? ⟨w.heap.size, 1, none⟩ = some q := ⟨by rw [hB.cell]; rfl, by rw [hB.cell]; rfl⟩
    clear hO hE hB hdr
    cases rest with
    | nil =>
      obtain rfl := whole_end hgc hwc hNc
      have e2 : ∀ w : World, (binOp BinOp.neq 78 .nilIface .nilIface).run Tryz.prog w = .ok (.bool false) w := fun w => by kernel_rfl
      have KD2 := Lib.hid ((List.append_nil done).symm.trans KD.out)
      clear hgc hwc hNc hk
      obtain ⟨g, cap, rfl, hcap, hg, hcells⟩ := strings_at KO.out (by simp) (by rw [List.length_map, KD2.out]; simp)
      rw [KD2.out, List.map_cons] at hcells
      rw [List.length_map, KD2.out, List.length_cons] at hcap ⊢
      have HX := Lib.hid hcells
      have hjl := join_text (text 0 a) lb
      have HJ := Lib.hid hjl
      clear hcells hjl hdl
      have HJn := Tryz.strings_Join g 0 cap (text 0 a :: lb.map (text 0)) ⟨#[32]⟩ wr HX.out hg (by simp; omega) (by simpa using hcap) (by
        have h1 := congrArg ByteArray.size HJ.out
        rw [app_size] at h1
        have h2 : ∀ l : List UInt8, (⟨l.toArray⟩ : ByteArray).size = l.length := fun l => by simp [ByteArray.size]
        rw [h2] at h1
        omega)
      rw [HJ.out] at HJn
      simp only [List.length_cons, List.length_map] at HJn
      have HJ2 := Lib.hid HJn
      clear HJn
      go_wp2_with fail
      refine HJ2.out.mono ?_
      rintro e w5 ⟨rfl, hE5⟩
      have HE5 := Lib.hid (KE.out.trans hE5)
      clear hE5
      go_wp2_with fail
      go_ret
      exact ⟨rfl, HE5.out⟩
    | cons u r =>
      obtain ⟨n1, b', gb', wb', p2, q2, rfl, n2, s1, s2⟩ := whole_cons hgc hwc hNc
      have hum : u ∈ a :: lb := by rw [← KD.out]; simp
      have hzu : (text 0 u).size ≤ 140737488351232 := by
        rcases List.mem_cons.1 hum with rfl | hm
        · omega
        · obtain ⟨j, hj, rfl⟩ := List.getElem_of_mem hm
          have := textAll_get lb j hj
          omega
      obtain ⟨T, y, f, rfl, hm, he, -⟩ := HS.out u hum X p w n1
      have e2 : ∀ w : World, (binOp BinOp.neq 78 (.iface T y) .nilIface).run Tryz.prog w = .ok (.bool true) w := fun w => by kernel_rfl
      have e3 : ∀ w : World, (Instr.typeAssert (.iface 136 (.agg #[p2, q2])) 78 136 false).run Tryz.prog w = .ok (.agg #[p2, q2]) w := fun w => by kernel_rfl
      have HU := Lib.hid (And.intro (HS.out u hum) n1)
      have HR := Lib.hid (And.intro gb' (And.intro wb' n2))
      clear hgc hwc hNc n1 n2 gb' wb'
      simp only [List.length_cons] at hdl hk
      rcases s1 with rfl | ⟨T1, y1, rfl⟩ <;> rcases s2 with rfl | ⟨T2, y2, rfl⟩
      all_goals
        go_wp2_with fail
        refine ((HU.out.1 X _ wr (HU.out.2.mono (KE.out.keeps X))).calls hm).mono ?_
        rintro e w2 ⟨rfl, hE2⟩
        have KE2 := Lib.hid (KE.out.trans hE2)
        have hO2 := ownsRow_ext KO.out hE2
        have KB2 := Lib.hid (KB.out.ext hE2)
        have hs2 := hE2.size
        have hf2 := KB2.out.frozen
        have hc1 := (BlkTwo KB2.out).2
        clear hE2
        go_wp2_with (first
          | (at_builtin; refine wpList_append_own_at _ rfl _ _ 31 rfl (w.heap.size + 1) 9 i0 _ 1 16 underlying31 hi hz0 hz1 hz2 rfl (by decide) _ _ _ rfl (hO2.alloc _) ⟨w2.heap.size, 0, none⟩ 1 1 [.string (text 0 u)] rfl rfl (cell_one_new _ _ _) (by intro u hu; simp at hu; subst hu; rfl) (by unfold maxLen; omega) (by omega) (by simp; omega) ?_)
          | go_in)
        intro v' w3 hO3 hG hnil hloc
        have hne : ∀ q, u3.ownBlock = some q → w.heap.size + 1 ≤ q := fun q hq => (hO2.lt q hq).1
        have KB3 := Lib.hid ((KB2.out.ext (Ext.alloc _ (.cells #[.string (text 0 u)] 9))).grown hG (fun e => by have := hne _ e.symm; omega))
        have KF := Lib.hid (And.intro hO3 ((KE2.out.trans (Ext.alloc _ _)).grown hG (fun q hq => by have := hne q hq; omega)))
        have hc3 := BlkTwo KB3.out
        have hl3 := KB3.out.lt
        have hf3 := KB3.out.frozen
        clear hO3 hG hnil hloc hO2 hc1 hf2 hne
        go_wp2_with fail
        go_roundg r.length
        case measure => omega
        case rel =>
          refine ⟨done ++ [u], r, b', _, _, 108, rfl, by rw [List.append_assoc]; exact KD.out, HR.out.2.1, HR.out.1, (KB3.out.set 0 _).set 1 _, HR.out.2.2, ?_, (KF.out.2.setCell (Nat.le_refl _) _).setCell (Nat.le_refl _) _⟩
          have e4 : txtV ((done ++ [u]).map (text 0)) = txtV (done.map (text 0)) ++ [.string (text 0 u)] := by rw [List.map_append, txtV_snoc]; rfl
          rw [e4, List.length_append]
          exact ownsRow_extM KF.out.1 (((ExtM.refl (· = w.heap.size) w3).set1 0 _).set1 1 _) (fun k hk e => by omega)
set_option maxRecDepth 100000 in
set_option maxHeartbeats 4000000 in
theorem list_colon {X : Nat → Prop} {x : ByteArray} {a b : Tree} {cg : Int} (hg : good (.mk ⟨#[76, 105, 115, 116]⟩ x [a, b]) cg = true) (hw : whole b = none) (hSa : StrC a) (hSb : StrC b) (hz : (text 0 a).size + (text 0 b).size ≤ 90000) (p q : Value) (w : World) (hN : NodeAt X w (.iface 136 (.agg #[p, q])) (unT (.mk ⟨#[76, 105, 115, 116]⟩ x [a, b]))) :
    Calls Tryz.prog 239 #[.agg #[p, q]] w fun e w' => e = .returned (.string ((text 0 a ++ ⟨#[58]⟩) ++ text 0 b)) ∧ Ext w w' := by
  have hw2 : whole (.mk ⟨#[76, 105, 115, 116]⟩ x [a, b]) = none := by rw [whole_pair, hw]; rfl
  have HP := Lib.hid (proper_calls _ x [a, b] cg rfl hg X p q)
  rw [hw2] at HP
  have HN := Lib.hid hN
  rw [un_pair, NodeAt] at hN
  obtain ⟨p', q', e, n1, n2⟩ := hN
  obtain ⟨rfl, rfl⟩ : p = p' ∧ q = q' := by simpa using e
  clear e hw hw2
  obtain ⟨Ta, xa, fa, rfl, ma, ea, -⟩ := hSa X p w n1
  obtain ⟨Tb, xb, fb, rfl, mb, eb, -⟩ := hSb X q w n2
  have HA := Lib.hid (And.intro hSa n1)
  have HB := Lib.hid (And.intro hSb n2)
  have e1 : ∀ w : World, (binOp BinOp.eql 78 (.iface Ta xa) .nilIface).run Tryz.prog w = .ok (.bool false) w := fun w => by kernel_rfl
  clear hg hSa hSb n1 n2
  go_enter Tryz.func239, Tryz.ntmps239
  go_wp2_with fail
  refine (HP.out _ (HN.out.mono ((Ext.alloc _ _).keeps X))).mono ?_
  rintro e w1 ⟨rfl, hE1⟩
  have hbx := (Blk.new w #[.iface Ta xa, .iface Tb xb] 136).ext hE1
  have hc := BlkTwo hbx
  have KE := Lib.hid ((Ext.alloc w (.cells #[.iface Ta xa, .iface Tb xb] 136)).trans hE1)
  clear hE1 e1
  go_wp2_with fail
  have c0 := Exts.cell hc.1
  have c1 := Exts.cell hc.2
  clear hc hbx
  refine wp_region_ext (by kernel_rfl) (by kernel_rfl) ?_
  repeat (refine BigFrame.wpQuiet_want rfl (fun K hK => ?_); go_big_quiet_op; first | (refine hK _ ?_; clear hK K) | (refine ⟨_, fun e => Calls.ext_of ((HA.out.1 X _ _ (HA.out.2.mono ((KE.out.trans e.ext).keeps X))).calls ma), hK _ ?_⟩; clear hK K) | (refine ⟨_, fun e => Calls.ext_of ((HB.out.1 X _ _ (HB.out.2.mono ((KE.out.trans e.ext).keeps X))).calls mb), hK _ ?_⟩; clear hK K))
  refine wpQuiet_nil ?_
  intro e
  obtain ⟨w7, hE7⟩ := e
  clear c0 c1
  go_wp2_with fail
  go_ret
  exact ⟨rfl, KE.out.trans hE7⟩
/-! ### All nodes -/
theorem sign_plain : ∀ k ∈ signKinds, ∀ x ∈ tokens k, x.toList.all qB = true := by decide +kernel
theorem word_plain (l : List UInt8) (h : word l = true) : l.all qB = true := by
  unfold word at h
  simp only [Bool.and_eq_true] at h
  have h1 := h.1.1
  rw [List.all_eq_true] at h1 ⊢
  intro c hc
  have h2 := h1 c hc
  have := byte_all (p := fun c => !wordB c || qB c) (by decide +kernel) c
  rw [h2] at this
  simpa using this
theorem str_plain {x : ByteArray} {ks : List Tree} {c : Int} (h : good (.mk ⟨#[83, 116, 114, 105, 110, 103]⟩ x ks) c = true) : x.toList.all qB = true := by
  rw [good_mk] at h
  simp only [toList_mk] at h
  simp (decide := true) only [↓reduceIte] at h
  simp only [Bool.and_eq_true, Bool.or_eq_true, beq_iff_eq, List.length_eq_zero_iff] at h
  rcases h.2 with h | h
  · exact word_plain _ h.2
  · have h := h.2
    unfold sign at h
    rw [List.any_eq_true] at h
    obtain ⟨k, hk, h⟩ := h
    rw [List.any_eq_true] at h
    obtain ⟨y, hy, h⟩ := h
    rw [← eq_of_beq h]
    exact sign_plain k hk y hy
theorem str_all : ∀ (n : Nat) (t : Tree), count t < n → count t ≤ 60 → (∃ c, good t c = true) → colons t = false → StrC t
  | 0, t, h, _, _, _ => by omega
  | n + 1, t, hn, h60, ⟨c, hg⟩, hcol => by
    have IH : ∀ u, count u < count t → (∃ c, good u c = true) → colons u = false → StrC u := fun u hu hgu hcu => str_all n u (by omega) (by omega) hgu hcu
    have htm := good_tame t c hg
    have hcs := colons_facts hcol
    have hct := countAll_of t
    have hkid : ∀ u ∈ t.kids, StrC u := fun u hu => by
      obtain ⟨j, hj, rfl⟩ := List.getElem_of_mem hu
      exact IH _ (count_kid t j hj) (good_kid hg _ hu) (hcs _ hu)
    have hsz : (textAll 0 t.kids).size ≤ 3600 := by have := textAll_bound 0 t.kids (tameAll_of htm); omega
    have hlen : t.kids.length ≤ 60 := by have := countAll_len t.kids; omega
    obtain ⟨k, x, ks⟩ := t
    obtain ⟨hk40, hx48, hta⟩ := tame_parts htm
    simp only [kids_mk] at hkid hsz hlen hcs
    intro X v w hN
    rcases kind_cases k with rfl | rfl | rfl | rfl | rfl | hk
    · obtain ⟨-, rfl⟩ := good_leaf_parts (.inl rfl) hg
      have e1 : unT (.mk ⟨#[65, 110, 121]⟩ x []) = .any := by rw [unT_mk]; unfold mkPN; simp only [toList_mk]; rfl
      have e2 : text 0 (.mk ⟨#[65, 110, 121]⟩ x []) = ⟨#[95]⟩ := by rw [text_mk, bit0 1 (by simp)]; simp only [toList_mk]; rfl
      rw [e1, NodeAt] at hN
      subst hN
      rw [e2]
      exact show130 (any_string .nilIface w)
    · obtain ⟨-, rfl⟩ := good_leaf_parts (.inr rfl) hg
      have e1 : unT (.mk ⟨#[78, 105, 108]⟩ x []) = .nil := by rw [unT_mk]; unfold mkPN; simp only [toList_mk]; rfl
      have e2 : text 0 (.mk ⟨#[78, 105, 108]⟩ x []) = ⟨#[110, 105, 108]⟩ := by rw [text_mk]; simp only [toList_mk]; rfl
      rw [e1, NodeAt] at hN
      subst hN
      rw [e2]
      exact show131 (nil_string .nilIface w)
    · have hq := str_plain hg
      obtain ⟨-, rfl, -⟩ := good_string_parts hg
      have e1 : unT (.mk ⟨#[83, 116, 114, 105, 110, 103]⟩ x []) = .str x := by rw [unT_mk]; unfold mkPN; simp only [toList_mk]; rfl
      have e2 : text 0 (.mk ⟨#[83, 116, 114, 105, 110, 103]⟩ x []) = (⟨#[34]⟩ ++ x) ++ ⟨#[34]⟩ := by rw [text_mk]; simp only [toList_mk]; rfl
      rw [e1, NodeAt] at hN
      subst hN
      rw [e2]
      exact show132 (str_string x hq (by omega) w)
    · obtain ⟨-, rfl | ⟨a, b, rfl, ha, hb1, hb⟩⟩ := good_list_parts hg
      · have e2 : text 0 (.mk ⟨#[76, 105, 115, 116]⟩ x []) = ⟨#[91, 93]⟩ := by rw [text_mk]; simp only [toList_mk]; rfl
        rw [un_nil, NodeAt] at hN
        obtain ⟨p, q, rfl, h1, h2⟩ := hN
        rw [NodeAt] at h1 h2
        subst h1 h2
        rw [e2]
        exact show136 (list_empty w)
      · obtain ⟨p, q, rfl, -, -⟩ := un_list hg hN
        have hza := (text_size 0 a (tameAll_get hta 0 (by simp))).1
        have hzb := text_size 0 b (tameAll_get hta 1 (by simp))
        have hca : count a + count b + 1 = count (.mk ⟨#[76, 105, 115, 116]⟩ x [a, b]) := by simp only [count, countAll]; omega
        have e2 : text 0 (.mk ⟨#[76, 105, 115, 116]⟩ x [a, b]) = if heavy a && !(whole b).isSome then ⟨#[40, 76, 105, 115, 116]⟩ ++ gapOf 0 ++ text 0 a ++ gapOf 0 ++ text 0 b ++ ⟨#[41]⟩ else if !(whole b).isSome then text 0 a ++ ⟨#[58]⟩ ++ text 0 b else ⟨#[91]⟩ ++ (text 0 a ++ spine 0 b) ++ ⟨#[93]⟩ := by
          rw [text_mk, bit0 4 (by simp), bit0 2 (by simp)]
          simp only [toList_mk, Bool.false_or, Bool.or_false]
          rfl
        rw [colons_mk, Bool.or_eq_false_iff, whole_pair] at hcol
        cases hw : whole b with
        | none =>
          have hh : heavy a = false := by
            have h1 := hcol.1
            rw [hw] at h1
            simpa [toList_mk] using h1
          rw [hw, hh] at e2
          simp only [Bool.false_and, Bool.false_eq_true, if_false, Option.isSome_none, Bool.not_false, if_true] at e2
          rw [e2]
          exact show136 (list_colon hg hw (hkid a (by simp)) (hkid b (by simp)) (by omega) p q w hN)
        | some lb =>
          rw [hw] at e2
          simp only [Option.isSome_some, Bool.not_true, Bool.and_false, Bool.false_eq_true, if_false] at e2
          rw [e2, spine_eq 0 b lb hw]
          have hm := whole_mem lb b 108 hb (hcs b (by simp)) hw
          refine show136 (list_whole hg hw (fun u hu => ?_) ?_ ?_ p q w hN)
          · rcases List.mem_cons.1 hu with rfl | hu
            · exact hkid _ (by simp)
            · obtain ⟨q1, q2, q3⟩ := hm u hu
              exact IH u (by omega) q2 q3
          · have := whole_len lb b hw; omega
          · rw [← spine_eq 0 b lb hw]; omega
    · obtain ⟨hx, rfl | ⟨a, rfl, hn2, ha⟩⟩ := good_bind_parts hg
      · have e1 : unT (.mk ⟨#[66, 105, 110, 100, 105, 110, 103]⟩ x []) = .bind x .nul 0 := by rw [unT_mk]; unfold mkPN; simp only [toList_mk, unTs]; rfl
        have e2 : text 0 (.mk ⟨#[66, 105, 110, 100, 105, 110, 103]⟩ x []) = x := by rw [text_mk]; simp only [toList_mk]; rfl
        rw [e1, NodeAt] at hN
        obtain ⟨nv, rfl, h1⟩ := hN
        rw [NodeAt] at h1
        subst h1
        rw [e2]
        exact show138 (bind_plain x w)
      · have e1 : unT (.mk ⟨#[66, 105, 110, 100, 105, 110, 103]⟩ x [a]) = .bind x (unT a) 0 := by rw [unT_mk]; unfold mkPN; simp only [toList_mk, unTs]; rfl
        have e2 : text 0 (.mk ⟨#[66, 105, 110, 100, 105, 110, 103]⟩ x [a]) = (x ++ ⟨#[64]⟩) ++ text 0 a := by rw [text_mk]; simp only [toList_mk]; rfl
        have hza := (text_size 0 a (tameAll_get hta 0 (by simp))).1
        have hca : count a + 1 = count (.mk ⟨#[66, 105, 110, 100, 105, 110, 103]⟩ x [a]) := by simp [count, countAll]
        rw [e1, NodeAt] at hN
        obtain ⟨nv, rfl, h1⟩ := hN
        rw [e2]
        exact show138 (bind_node (hkid a (by simp)) x (by omega) (by omega) (by omega) nv w h1)
    · have hk' : (k.toList == [65, 110, 121]) = false ∧ (k.toList == [78, 105, 108]) = false ∧ (k.toList == [83, 116, 114, 105, 110, 103]) = false ∧ (k.toList == [76, 105, 115, 116]) = false ∧ (k.toList == [66, 105, 110, 100, 105, 110, 103]) = false := by
        rcases hk with rfl | rfl | hk
        · simp only [toList_mk]; decide
        · simp only [toList_mk]; decide
        · exact ⟨hk.1, hk.2.1, hk.2.2.1, hk.2.2.2.1, hk.2.2.2.2.1⟩
      obtain ⟨h1, h2, h3, h4, h5⟩ := hk'
      have e2 : text 0 (.mk k x ks) = ⟨#[40]⟩ ++ k ++ textAll 0 ks ++ ⟨#[41]⟩ := by rw [text_mk, h1, h2, h3, h4, h5]; rfl
      have hkj : ∀ (j : Nat) (hj : j < ks.length), StrC ks[j] := fun j hj => hkid _ (List.getElem_mem hj)
      rw [e2]
      cases h6 : (k.toList == [79, 114]) with
      | true =>
        obtain rfl := beq_lit h6
        have e1 : unT (.mk ⟨#[79, 114]⟩ x ks) = .or (unTs ks) := by rw [unT_mk]; unfold mkPN; simp only [toList_mk]; rfl
        rw [e1, NodeAt] at hN
        obtain ⟨a, c, rfl, -, hk⟩ := hN
        rw [unTs_len]
        exact show140 (or_string hkj (by omega) (by omega) a c w hk)
      | false =>
        have e1 : unT (.mk k x ks) = .struct k (unTs ks) := by rw [unT_mk]; unfold mkPN; rw [h1, h2, h3, h4, h5, h6]; rfl
        rw [e1, NodeAt] at hN
        obtain ⟨a, c, rfl, -, hk⟩ := hN
        rw [unTs_len]
        have := struct_string (k := k) hkj (by omega) (by omega) a c w hk
        rw [show (⟨#[40]⟩ ++ (k ++ textAll 0 ks)) ++ ⟨#[41]⟩ = ⟨#[40]⟩ ++ k ++ textAll 0 ks ++ ⟨#[41]⟩ by simp only [ByteArray.append_assoc]] at this
        exact show127 this
end Go.Proofs.YtigalkobmfbdaaaGreatDoor
/- Colons; the thin package's Print. -/
set_option linter.unusedVariables false
set_option linter.unusedSimpArgs false
namespace Go.Proofs.YtigalkobmfbdaaaGreatDoor
open Go.RowKit
def headHeavy : List Tree → Bool
  | a :: _ => heavy a
  | [] => false
theorem colons_eq (t : Tree) : colons t = ((t.kind.toList == [76, 105, 115, 116] && t.kids.length == 2 && !(whole t).isSome && headHeavy t.kids) || colonsAny t.kids) := by
  obtain ⟨k, x, ks⟩ := t
  rw [colons_mk]
  rcases ks with _ | ⟨a, r⟩ <;> rfl
theorem colonsAny_take (ks : List Tree) (j : Nat) (h : j < ks.length) (h0 : colonsAny (ks.take j) = false) : colonsAny (ks.take (j + 1)) = colons ks[j] := by
  rw [List.take_succ_eq_append_getElem h, colonsAny_append, h0]
  simp [colonsAny]
theorem colonsAny_get (ks : List Tree) (j : Nat) (h : j < ks.length) (h0 : colons ks[j] = true) : colonsAny ks = true := by
  have e : ks = ks.take j ++ ks.drop j := (List.take_append_drop j ks).symm
  rw [e, colonsAny_append, List.drop_eq_getElem_cons h, colonsAny, h0]
  simp
set_option maxRecDepth 100000 in
set_option maxHeartbeats 4000000 in
theorem colons_calls (t : Tree) : tame t = true → count t ≤ 1000 → ∀ (a : Option Addr) (c : Nat) (w : World), TreeAt w a c t → Calls Tryz.prog 32 #[treeV t a c] w fun e w' => e = .returned (.bool (colons t)) ∧ Ext w w' := by
  induction t using Tree.ind with | h t ih => ?_
  intro hm hn a c w hT
  have HC := Lib.hid (colons_eq t)
  have HT := Lib.hid (And.intro hT (And.intro hm hn))
  have hKc := hT.kids
  have hbx := Blk.new w #[.string t.kind, .string t.text, .slice a t.kids.length c] 24
  have KX := Lib.hid hbx
  clear hT hm hn hbx
  go_enter Tryz.func32, Tryz.ntmps32
  go_wp2_with fail
  refine (whole_calls t a c _ (HT.out.1.mono (Ext.alloc _ _)) HT.out.2.1 HT.out.2.2).mono ?_
  rintro e w1 ⟨⟨a1, c1, rfl, -, -⟩, hE1⟩
  have KE := Lib.hid ((Ext.alloc w (.cells #[.string t.kind, .string t.text, .slice a t.kids.length c] 24)).trans hE1)
  have hb := KX.out.ext hE1
  have b3 := Blk3 hb
  have bl := hb.lt
  have bf := hb.frozen
  have KX1 := Lib.hid hb
  clear hb hE1
  generalize hwl : ((whole t).getD []).length = wl
  clear hwl
  cases h1 : (t.kind.toList == [76, 105, 115, 116])
  case' false => have HF : Hid (colons t = colonsAny t.kids) := Lib.hid (by rw [HC.out, h1]; simp)
  case' true =>
    cases h2 : ((t.kids.length : Int) == 2)
    case' false => have HF : Hid (colons t = colonsAny t.kids) := Lib.hid (by
      have h2' : (t.kids.length == 2) = false := by
        cases e : (t.kids.length == 2) with
        | false => rfl
        | true => rw [beq_iff_eq] at e; rw [e] at h2; simp at h2
      rw [HC.out, h2']; simp)
    case' true =>
      have HL : Hid (t.kids.length = 2) := Lib.hid (by rw [beq_iff_eq] at h2; omega)
      cases h3 : (whole t).isSome
      case' true => have HF : Hid (colons t = colonsAny t.kids) := Lib.hid (by rw [HC.out, h3]; simp)
      case' false =>
        have h0 : 0 < t.kids.length := by rw [HL.out]; omega
        obtain ⟨b, o, a', c', rfl, hbl, p0, p1, p2, hkt⟩ := HT.out.1.kid 0 h0
        simp only [Nat.zero_mul, Nat.add_zero] at p0 p1 p2
        replace p0 := KE.out.keep p0
        replace p1 := KE.out.keep p1
        replace p2 := KE.out.keep p2
        have hbl1 := Nat.lt_of_lt_of_le hbl KE.out.size
        go_wp2_with fail
        refine (heavy_calls t.kids[0] a' c' _).mono ?_
        rintro e w2 ⟨rfl, hE2⟩
        have hb2 := KX1.out.ext hE2
        have b32 := Blk3 hb2
        have bl2 := hb2.lt
        have bf2 := hb2.frozen
        have KE2 := Lib.hid (KE.out.trans hE2)
        clear hE2 hb2 p0 p1 p2 hbl1 b3 bl bf KE KX1
        rename Hid (Ext w w2) => KE
        have hh : headHeavy t.kids = heavy t.kids[0] := by
          obtain ⟨a, b, e⟩ : ∃ a b, t.kids = a :: b := by
            cases e : t.kids with
            | nil => rw [e] at h0; simp at h0
            | cons a b => exact ⟨a, b, rfl⟩
          simp only [e]; rfl
        have HH := Lib.hid hh
        clear hh
        cases h4 : heavy t.kids[0]
        case' true =>
          have HF : Hid (colons t = true) := Lib.hid (by
            have := HL.out
            rw [HC.out, h1, h3, HH.out, h4, this]; simp)
          go_wp2_with fail
          go_ret
          exact ⟨ret_bool HF.out.symm, KE.out⟩
        case' false => have HF : Hid (colons t = colonsAny t.kids) := Lib.hid (by rw [HC.out, HH.out, h4]; simp)
  all_goals
    go_wp2_with fail
    go_loopw [35] (fun i wr => ∃ j : Nat, i = .int .i64 j ∧ j ≤ t.kids.length ∧ colonsAny (t.kids.take j) = false ∧ Ext w wr) (fun i _ => t.kids.length - (intOf i).toNat)
    case atStart => exact ⟨0, rfl, Nat.zero_le _, rfl, KE.out⟩
    case round =>
      obtain ⟨j, rfl, hj, hca, hE⟩ := hrel
      have HA := Lib.hid hca
      have KE := Lib.hid hE
      clear hca hE
      by_cases hlt : j < t.kids.length
      · obtain ⟨b, o, a', c', e0, hbl, p0, p1, p2, hkt⟩ := HT.out.1.kid j hlt
        first
          | subst e0
          | (simp only [Option.some.injEq, Addr.mk.injEq, and_true] at e0; obtain ⟨e1, e2⟩ := e0; subst e1; subst e2)
        replace p0 := KE.out.keep p0
        replace p1 := KE.out.keep p1
        replace p2 := KE.out.keep p2
        have hbl1 := Nat.lt_of_lt_of_le hbl KE.out.size
        have HI := Lib.hid (ih j hlt (tame_kid HT.out.2.1 j hlt) (by have := count_kid t j hlt; have := HT.out.2.2; omega) a' c')
        have HK := Lib.hid hkt
        clear hkt
        cases h5 : colons t.kids[j]
        · have H5 := Lib.hid h5
          go_wp2_with fail
          refine (HI.out _ (HK.out.mono (KE.out.trans (Ext.alloc _ _)))).mono ?_
          rintro e w3 ⟨rfl, hE3⟩
          have KE3 := Lib.hid ((KE.out.trans (Ext.alloc _ _)).trans hE3)
          clear hE3
          rw [H5.out]
          go_wp2_with fail
          exact ⟨⟨j + 1, by go_num, by omega, by rw [colonsAny_take _ _ hlt HA.out]; exact H5.out, KE3.out⟩, by simp [intOf]; omega⟩
        · have H5 := Lib.hid h5
          go_wp2_with fail
          refine (HI.out _ (HK.out.mono (KE.out.trans (Ext.alloc _ _)))).mono ?_
          rintro e w3 ⟨rfl, hE3⟩
          have KE3 := Lib.hid ((KE.out.trans (Ext.alloc _ _)).trans hE3)
          clear hE3
          rw [H5.out]
          go_wp2_with fail
          go_ret
          exact ⟨ret_bool (by rw [HF.out]; exact (colonsAny_get _ _ hlt H5.out).symm), KE3.out⟩
      · obtain rfl : j = t.kids.length := by omega
        rw [List.take_length] at HA
        go_wp2_with fail
        go_ret
        exact ⟨ret_bool (by rw [HF.out, HA.out]), KE.out⟩
set_option maxRecDepth 100000 in
set_option maxHeartbeats 4000000 in
/-- impl.Print of a tree that can be written. -/
theorem print_calls {t : Tree} {cg : Int} (hg : good t cg = true) (h60 : count t ≤ 60) (hd : depthT t ≤ 10) (hcol : colons t = false) {X : Nat → Prop} (a : Option Addr) (c : Nat) (w : World) (hT : TreeIn X w a c t) :
    Calls Tryz.prog 33 #[treeV t a c] w fun e w' => e = .returned (.tuple #[.string (text 0 t), .bool true]) ∧ Ext w w' := by
  have HG := Lib.hid (And.intro hg (And.intro hcol hT))
  clear hg hcol hT
  go_enter Tryz.func33, Tryz.ntmps33
  go_wp2_with fail
  have hE0 := (Ext.alloc w (.cells #[.string t.kind, .string t.text, .slice a t.kids.length c] 24)).trans (Ext.alloc _ (.cells #[.int .i64 300] 3))
  have hB0 := Blk.second w (.cells #[.string t.kind, .string t.text, .slice a t.kids.length c] 24) #[.int .i64 300] 3
  refine (nodeOf_calls t cg HG.out.1 X a c 0 300 (w.heap.size + 1) w _ HG.out.2.2 hE0 (by omega) hB0 (by omega) (by omega) (by omega) (by omega)).mono ?_
  rintro e w1 ⟨⟨v, rfl, hN⟩, -, hE1⟩
  have KE := Lib.hid (hE1.toExt hE0 (fun i hi h => by omega))
  have HN := Lib.hid hN
  clear hE0 hB0 hE1 hN
  obtain ⟨T, y, f, rfl, hm, he, hc⟩ := str_all (count t + 1) t (Nat.lt_succ_self _) h60 ⟨cg, HG.out.1⟩ HG.out.2.1 _ v w1 HN.out
  have HC := Lib.hid hc
  clear hc
  go_wp2_with fail
  refine HC.out.mono ?_
  rintro e w2 ⟨rfl, hE2⟩
  have KE2 := Lib.hid (KE.out.trans hE2)
  clear hE2
  go_wp2_with fail
  go_ret2
  exact ⟨rfl, KE2.out⟩
end Go.Proofs.YtigalkobmfbdaaaGreatDoor
/- The law FnPrint, walked: it answers true of every tree and style. -/
set_option linter.unusedVariables false
set_option linter.unusedSimpArgs false
namespace Go.Proofs.YtigalkobmfbdaaaGreatDoor
open Go.RowKit Go.WideMaps Go.Sort
set_option maxRecDepth 100000 in
set_option maxHeartbeats 4000000 in
theorem print_law (t : Tree) (a : Option Addr) (c : Nat) (st : Int) (w : World) (hA : TreeAt w a c t) (hst : (Lit.int .u8 st).wf = true) (hT : TabAt w) : Calls Tryz.prog 10 #[treeV t a c, .int .u8 st] w fun e w' => e = .returned (.bool true) ∧ Ext w w' := by
  have HA := Lib.hid (And.intro hA hT)
  have hB := Blk.new w #[.string t.kind, .string t.text, .slice a t.kids.length c] 24
  have KB := Lib.hid hB
  have hs1 : 0 ≤ st ∧ st ≤ 255 := by
    simp [Lit.wf, IntKind.min, IntKind.max, IntKind.signed, IntKind.bits] at hst
    omega
  clear hA hT hB
  go_enter Tryz.func10, Tryz.ntmps10
  go_wp2_with fail
  refine (fitsT_calls t a c _ (HA.out.1.mono (box_ext w t a c))).mono ?_
  rintro e w1 ⟨rfl, hE1⟩
  have HE1 := Lib.hid ((box_ext w t a c).trans hE1)
  have fb := (KB.out.ext hE1).frozen
  have lb := (KB.out.ext hE1).lt
  have cb := Blk3 (KB.out.ext hE1)
  have KB1 := Lib.hid (KB.out.ext hE1)
  clear hE1
  cases hf : fitsT t
  · go_wp2_with fail
    go_ret
    exact ⟨rfl, HE1.out⟩
  clear hf
  go_wp2_with fail
  refine (written_calls t a c _ (HA.out.1.mono HE1.out)).mono ?_
  rintro e w2 ⟨rfl, hE2⟩
  have HE2 := Lib.hid (HE1.out.trans hE2)
  have fb2 := (KB1.out.ext hE2).frozen
  have lb2 := (KB1.out.ext hE2).lt
  have cb2 := Blk3 (KB1.out.ext hE2)
  have KB2 := Lib.hid (KB1.out.ext hE2)
  clear hE2 fb lb cb
  cases hw : written t
  · go_wp2_with fail
    go_ret
    exact ⟨rfl, HE2.out⟩
  have HW := Lib.hid (written_parts hw)
  have HD := Lib.hid (written_depth hw)
  clear hw
  go_wp2_with fail
  refine (first_calls t a c _ (HA.out.1.mono HE2.out)).mono ?_
  rintro e w3 ⟨rfl, hE3⟩
  have HE3 := Lib.hid (HE2.out.trans hE3)
  have fb3 := (KB2.out.ext hE3).frozen
  have lb3 := (KB2.out.ext hE3).lt
  have cb3 := Blk3 (KB2.out.ext hE3)
  have KB3 := Lib.hid (KB2.out.ext hE3)
  clear hE3 fb2 lb2 cb2
  cases hf : first t
  · go_wp2_with fail
    go_ret
    exact ⟨rfl, HE3.out⟩
  have HF := Lib.hid hf
  have htm := good_tame t 97 HW.out.2
  have hz := (text_size st t htm).1
  have hc60 := HW.out.1
  clear hf
  go_wp2_with fail
  refine (colons_calls t htm (by omega) a c _ (HA.out.1.mono HE3.out)).mono ?_
  rintro e wc ⟨rfl, hEc⟩
  have HEc := Lib.hid (HE3.out.trans hEc)
  have fbc := (KB3.out.ext hEc).frozen
  have lbc := (KB3.out.ext hEc).lt
  have cbc := Blk3 (KB3.out.ext hEc)
  have KBc := Lib.hid (KB3.out.ext hEc)
  clear hEc fb3 lb3 cb3
  cases hcol : colons t
  case true =>
    go_wp2_with fail
    go_ret
    exact ⟨rfl, HEc.out⟩
  have HCol := Lib.hid hcol
  clear hcol
  go_wp2_with fail
  refine (text_calls t st htm (by omega) a c _ (HA.out.1.mono HEc.out)).mono ?_
  rintro e w4 ⟨rfl, hE4⟩
  have HE4 := Lib.hid (HEc.out.trans hE4)
  have fb4 := (KBc.out.ext hE4).frozen
  have lb4 := (KBc.out.ext hE4).lt
  have cb4 := Blk3 (KBc.out.ext hE4)
  have KB4 := Lib.hid (KBc.out.ext hE4)
  clear hE4 fbc lbc cbc
  by_cases h9 : (text st t).size ≤ 700
  · have htl := (text_le st t).1
    go_wp2_with fail
    obtain ⟨E, hE⟩ := first_entry t 97 HW.out.2 HF.out [] []
    have HEE := Lib.hid hE
    refine (parse_good (al := false) (s := st) HW.out.2 (first_node HF.out) HW.out.1 (by omega) hE (HA.out.2.toExt HE4.out)).mono ?_
    rintro e w5 ⟨⟨a1, c1, a2, c2, a3, c3, a4, c4, a5, c5, rfl, q1, -⟩, hE5⟩
    have hA6 := Ext.alloc w5 (.cells #[.string t.kind, .string t.text, .slice a1 t.kids.length c1, .slice a2 E.length c2, .string anyT.kind, .string anyT.text, .slice a3 anyT.kids.length c3, .slice a4 0 c4, .slice a5 (namesT t).length c5] 34)
    have KQ := Lib.hid (And.intro ((HE4.out.trans hE5).trans hA6) (q1.mono hA6))
    have fb5 := ((KB4.out.ext hE5).ext hA6).frozen
    have lb5 := ((KB4.out.ext hE5).ext hA6).lt
    have cb5 := Blk3 ((KB4.out.ext hE5).ext hA6)
    have KB5 := Lib.hid ((KB4.out.ext hE5).ext hA6)
    clear hE hE5 q1 fb4 lb4 cb4 hA6
    go_wp2_with fail
    generalize w5.alloc (.cells #[.string t.kind, .string t.text, .slice a1 t.kids.length c1, .slice a2 E.length c2, .string anyT.kind, .string anyT.text, .slice a3 anyT.kids.length c3, .slice a4 0 c4, .slice a5 (namesT t).length c5] 34) = w6 at *
    refine (print_calls HW.out.2 HW.out.1 HD.out HCol.out a1 c1 _ KQ.out.2).mono ?_
    rintro e w7 ⟨rfl, hE7⟩
    have HE7 := Lib.hid (KQ.out.1.trans hE7)
    have KB7 := Lib.hid (KB5.out.ext hE7)
    clear hE7 fb5 lb5 cb5
    go_wp2_with fail
    refine (parse_good (al := false) (s := 0) HW.out.2 (first_node HF.out) HW.out.1 (by omega) HEE.out (HA.out.2.toExt HE7.out)).mono ?_
    rintro e w8 ⟨⟨d1, g1, d2, g2, d3, g3, d4, g4, d5, g5, rfl, r1, -⟩, hE8⟩
    have hA9 := Ext.alloc w8 (.cells #[.string t.kind, .string t.text, .slice d1 t.kids.length g1, .slice d2 E.length g2, .string anyT.kind, .string anyT.text, .slice d3 anyT.kids.length g3, .slice d4 0 g4, .slice d5 (namesT t).length g5] 34)
    have KR := Lib.hid (And.intro ((HE7.out.trans hE8).trans hA9) (r1.mono hA9))
    have hB9 := (KB7.out.ext hE8).ext hA9
    have fb9 := hB9.frozen
    have lb9 := hB9.lt
    have cb9 := Blk3 hB9
    have KB9 := Lib.hid hB9
    have hN9 := Blk.new w8 #[.string t.kind, .string t.text, .slice d1 t.kids.length g1, .slice d2 E.length g2, .string anyT.kind, .string anyT.text, .slice d3 anyT.kids.length g3, .slice d4 0 g4, .slice d5 (namesT t).length g5] 34
    have KN9 := Lib.hid hN9
    clear hE8 r1 hA9 hB9 hN9
    go_wp2_with fail
    refine (text_calls t 0 htm (by omega) a c _ (HA.out.1.mono KR.out.1)).mono ?_
    rintro e w10 ⟨rfl, hE10⟩
    have hB10 := KB9.out.ext hE10
    have fb10 := hB10.frozen
    have lb10 := hB10.lt
    have cb10 := Blk3 hB10
    have hN10 := KN9.out.ext hE10
    have fn10 := hN10.frozen
    have ln10 := hN10.lt
    have cn10 := Blk9 hN10
    have KX := Lib.hid (And.intro (KR.out.1.trans hE10) (KR.out.2.mono hE10))
    have sb := beq_self_eq_true (text 0 t).toList
    clear hE10 fb9 lb9 cb9 hB10 hN10
    go_wp2_with fail
    refine (same_self t (by omega) d1 g1 a c _ (KX.out.2.imp fun _ _ _ => trivial) ((HA.out.1.toIn).mono KX.out.1)).mono ?_
    rintro e w11 ⟨rfl, hE11⟩
    have HX := Lib.hid (KX.out.1.trans hE11)
    clear hE11
    go_wp2_with fail
    refine (readsF_calls (HA.out.2.toExt HX.out)).mono ?_
    rintro e w12 ⟨rfl, hE12⟩
    go_wp2_with fail
    go_ret
    exact ⟨rfl, HX.out.trans hE12⟩
  · go_wp2_with fail
    go_ret
    exact ⟨rfl, HE4.out⟩
end Go.Proofs.YtigalkobmfbdaaaGreatDoor
