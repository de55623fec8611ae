/- What a field holds; is a part a node, is it a list? -/
import Derived.Test.YtigalkobmfbdaaaGreatDoorPtr1Z1
import Derived.Test.YtigalkobmfbdaaaGreatDoorMix1d
import Derived.Test.YtigalkobmfbdaaaGreatDoorMix1g
import Derived.Test.YtigalkobmfbdaaaGreatDoorMix1h
import Derived.Test.YtigalkobmfbdaaaGreatDoorTaZ1
set_option linter.unusedVariables false
set_option linter.unusedSimpArgs false
namespace Go.Proofs.YtigalkobmfbdaaaGreatDoor
open Go.RowKit
theorem PtrIn.blk {X : Nat → Prop} {w : World} {v : Value} {t : Syn} (h : PtrIn X w v t) (hk : t.kind.toList ≠ []) :
    ∃ b a c, v = .pointer (some ⟨b, 0, none⟩) ∧ X b ∧ b < w.heap.size ∧ w.cell? ⟨b, 0, none⟩ = some (.string t.kind) ∧ w.cell? ⟨b, 1, none⟩ = some (.bool t.null) ∧ w.cell? ⟨b, 2, none⟩ = some (.string t.text) ∧ w.cell? ⟨b, 3, none⟩ = some (.int .i64 t.num) ∧ w.cell? ⟨b, 4, none⟩ = some (.slice a t.kids.length c) ∧ t.kids.length ≤ c ∧ PtrsIn X w a t.kids := by
  cases t
  rw [PtrIn] at h
  obtain ⟨b, a, c, e, hb, h0, h1, h2, h3, h4, hc, hP⟩ := h.2 hk
  exact ⟨b, a, c, e, hb, cell_lt h0, h0, h1, h2, h3, h4, hc, hP⟩
theorem PtrIn.nil {X : Nat → Prop} {w : World} {v : Value} {t : Syn} (h : PtrIn X w v t) (hk : t.kind.toList = []) : v = .pointer none := by
  cases t
  rw [PtrIn] at h
  exact h.1 hk
theorem zfields_small (k : ByteArray) : (zfields k).length ≤ 5 := by
  have h : ∀ x ∈ zfieldsT, x.2.length ≤ 5 := by decide +kernel
  rcases sw_cases k zfieldsT [] with ⟨e, -⟩ | ⟨x, hx, -, e⟩
  · have e' : zfields k = [] := e
    rw [e']; simp
  · have e' : zfields k = x.2 := e
    rw [e']; exact h x hx
set_option maxRecDepth 100000 in
set_option maxHeartbeats 1000000 in
theorem zz_field {w : World} {b g o j m c : Nat} {k nm : ByteArray} {p : Option Addr} (h0 : w.cell? ⟨b, 0, none⟩ = some (.string k)) (h4 : w.cell? ⟨b, 4, none⟩ = some (.slice (some ⟨g, o, none⟩) m c)) (hmc : m ≤ c) (hm : m ≤ 100000) (hj : j < m)
    (hv : w.cell? ⟨g, o + j, none⟩ = some (.pointer p)) (hf : (zfields k)[j]? = some nm) (hn : ∀ i < j, (zfields k)[i]? ≠ some nm) :
    Calls Tryz.prog 123 #[.pointer (some ⟨b, 0, none⟩), .string nm] w fun e w' => e = .returned (.pointer p) ∧ Ext w w' := by
  have lt0 := cell_lt h0
  have HZ := Lib.hid (zfields_calls k)
  have hzs := zfields_small k
  have HF := Lib.hid (And.intro hf hn)
  clear hf hn
  generalize zfields k = fs at *
  go_enter Tryz.func123, Tryz.ntmps123
  go_wp2_with fail
  refine (HZ.out _).mono ?_
  rintro e w1 ⟨fa, fc, rfl, hfc, hfc2, hfs, hE1⟩
  have HS := Lib.hid hfs
  replace h4 := hE1.keep h4
  replace hv := hE1.keep hv
  replace lt0 := Nat.lt_of_lt_of_le lt0 hE1.size
  have HE := Lib.hid hE1
  clear hE1 hfs h0
  go_wp2_with fail
  go_loopw [13] (fun i wr => ∃ j0 : Nat, i = .int .i64 j0 ∧ j0 ≤ j ∧ wr = w1) (fun i _ => j - (intOf i).toNat)
  case atStart => exact ⟨0, rfl, Nat.zero_le _, rfl⟩
  case round =>
    obtain ⟨j0, rfl, hj0, rfl⟩ := hrel
    obtain ⟨hlen, hget⟩ := List.getElem?_eq_some_iff.1 HF.out.1
    have hlt : j0 < fs.length := by omega
    obtain ⟨fb, fo, rfl, hfb, hfcell⟩ := HS.out j0 hlt
    by_cases he : j0 = j
    · obtain rfl := he
      rw [hget] at hfcell
      clear hget
      go_wp2_with fail
      go_ret
      exact ⟨rfl, HE.out⟩
    · have hne : (fs[j0].toList == nm.toList) = false := by
        cases h : (fs[j0].toList == nm.toList) with
        | false => rfl
        | true => exact absurd (by rw [List.getElem?_eq_getElem hlt, toList_inj (eq_of_beq h)]) (HF.out.2 j0 (by omega))
      have hlt2 : j0 < j := by omega
      clear hget he
      go_wp2_with fail
      exact ⟨⟨j0 + 1, by go_num, by omega, by trivial⟩, by simp [intOf]; omega⟩
theorem zfields_val (k : ByteArray) (w : World) : Calls Tryz.prog 145 #[.string k] w fun e w' => e = .returned (strsV w (zfields k)).1 ∧ w' = (strsV w (zfields k)).2 := by
  have h : callK Tryz.prog Tryz.f145 #[.string k] w = some ((strsV w (zfields k)).1, (strsV w (zfields k)).2) := (zfields_run k w).trans (sw_map (fun x => some (strsV w x)) k zfieldsT [])
  exact (callK_sound Tryz.func145 h).mono fun e w' ⟨he, hw⟩ => ⟨he, hw.symm⟩
set_option maxRecDepth 100000 in
set_option maxHeartbeats 1000000 in
theorem is_node {w : World} {b : Nat} {k : ByteArray} (h0 : w.cell? ⟨b, 0, none⟩ = some (.string k)) :
    Calls Tryz.prog 127 #[.pointer (some ⟨b, 0, none⟩)] w fun e w' => e = .returned (.bool (zfields k != [])) ∧ Ext w w' := by
  have lt0 := cell_lt h0
  have HZ := Lib.hid (zfields_val k w)
  generalize zfields k = fs at *
  cases fs with
  | nil =>
    go_enter Tryz.func127, Tryz.ntmps127
    go_wp2_with fail
    refine HZ.out.mono ?_
    rintro e w1 ⟨rfl, rfl⟩
    simp only [strsV]
    go_wp2_with fail
    go_ret
    exact ⟨rfl, Ext.refl _⟩
  | cons x l =>
    go_enter Tryz.func127, Tryz.ntmps127
    go_wp2_with fail
    refine HZ.out.mono ?_
    rintro e w1 ⟨rfl, rfl⟩
    simp only [strsV]
    go_wp2_with fail
    go_ret
    exact ⟨rfl, Ext.alloc _ _⟩
set_option maxRecDepth 100000 in
set_option maxHeartbeats 1000000 in
theorem is_list {w : World} {b : Nat} {k : ByteArray} (h0 : w.cell? ⟨b, 0, none⟩ = some (.string k)) (hk : k.size ≤ 100000) :
    Calls Tryz.prog 147 #[.pointer (some ⟨b, 0, none⟩)] w fun e w' => e = .returned (.bool (decide (2 < k.size) && (k.extract 0 2).toList == [91, 93])) ∧ w' = w := by
  have lt0 := cell_lt h0
  by_cases h2 : 2 < k.size
  · have h2' : (2 : Int) < (k.size : Int) := by omega
    rw [decide_eq_true h2, Bool.true_and]
    generalize hb : ((k.extract 0 2).toList == [91, 93]) = bb
    cases bb <;>
    · go_enter Tryz.func147, Tryz.ntmps147
      go_wp2_with fail
      go_ret
      exact ⟨rfl, rfl⟩
  · have h2' : ¬ (2 : Int) < (k.size : Int) := by omega
    rw [decide_eq_false h2, Bool.false_and]
    go_enter Tryz.func147, Tryz.ntmps147
    go_wp2_with fail
    go_ret
    exact ⟨rfl, rfl⟩
end Go.Proofs.YtigalkobmfbdaaaGreatDoor
/- matchAST: two nodes are compared, field by field. -/
set_option linter.unusedVariables false
set_option linter.unusedSimpArgs false
namespace Go.Proofs.YtigalkobmfbdaaaGreatDoor
open Go.RowKit
theorem nul_form {t : Syn} (h : RS t) (hk : (t.kind.toList == []) = true) : t = nulS := by
  have hf : Form t := h.form
  clear h
  cases hf with
  | nothing => rfl
  | leaf k x n h =>
    rw [skind_mk] at hk
    rcases h with ⟨rfl | rfl, -⟩ | ⟨rfl, -⟩ <;> exact absurd hk (by decide +kernel)
  | list k nl ks h =>
    rw [skind_mk] at hk
    rcases h with rfl | rfl <;> exact absurd hk (by decide +kernel)
  | node k ks hk' =>
    rw [skind_mk, (kind_ok k hk').1] at hk
    cases hk
/-- Two fields of one kind of node. -/
inductive Pair : Syn → Syn → Prop where
  | lists (k : ByteArray) (nl nl' : Bool) (xs ys : List Syn) : (k = ⟨#[91, 93, 69, 120, 112, 114]⟩ ∨ k = ⟨#[91, 93, 83, 116, 109, 116]⟩) → (∀ t ∈ xs, RS t ∧ nodeK t.kind = true) → (∀ t ∈ ys, RS t ∧ nodeK t.kind = true) → Pair (.mk k nl ⟨#[]⟩ 0 xs) (.mk k nl' ⟨#[]⟩ 0 ys)
  | text (k x y : ByteArray) : (k = ⟨#[84, 111, 107, 101, 110]⟩ ∨ k = ⟨#[115, 116, 114, 105, 110, 103]⟩) → Pair (.mk k false x 0 []) (.mk k false y 0 [])
  | bool (m n : Int) : Pair (.mk ⟨#[98, 111, 111, 108]⟩ false ⟨#[]⟩ m []) (.mk ⟨#[98, 111, 111, 108]⟩ false ⟨#[]⟩ n [])
  | other (x y : Syn) : (x.kind.toList = [] ∨ nodeK x.kind = true) → (y.kind.toList = [] ∨ nodeK y.kind = true) → Pair x y
theorem list_form {k : ByteArray} {nl : Bool} {x : ByteArray} {n : Int} {ks : List Syn} {of : ByteArray} {c : Int} (hc : c = 108 ∨ c = 109) (h : right (.mk k nl x n ks) c of = true) : (k = if c = 108 then ⟨#[91, 93, 69, 120, 112, 114]⟩ else ⟨#[91, 93, 83, 116, 109, 116]⟩) ∧ x = ⟨#[]⟩ ∧ n = 0 ∧ ∀ t ∈ ks, RS t ∧ nodeK t.kind = true := by
  rcases hc with rfl | rfl
  · obtain ⟨hnl, hk, ⟨hx, rfl⟩, ha⟩ := rs_l h
    refine ⟨beq_lit hk, nil_bytes hx, rfl, fun t ht => ?_⟩
    obtain ⟨j, hj, rfl⟩ := List.getElem_of_mem ht
    have hr := rightAll_get _ _ ha j hj
    exact ⟨⟨101, by decide, _, hr⟩, nodeK_of (right_kind (.inl rfl) hr)⟩
  · obtain ⟨hnl, hk, ⟨hx, rfl⟩, ha⟩ := rs_m h
    refine ⟨beq_lit hk, nil_bytes hx, rfl, fun t ht => ?_⟩
    obtain ⟨j, hj, rfl⟩ := List.getElem_of_mem ht
    have hr := rightAll_get _ _ ha j hj
    exact ⟨⟨115, by decide, _, hr⟩, nodeK_of (right_kind (.inr rfl) hr)⟩
def flatL (c : Int) : Bool := c == 116 || c == 110 || c == 98 || c == 108 || c == 109
theorem other_kind {t : Syn} {c : Int} {of : ByteArray} (hc : c ∈ letters) (hf : flatL c = false) (h : right t c of = true) : t.kind.toList = [] ∨ nodeK t.kind = true := by
  obtain ⟨k, nl, x, n, ks⟩ := t
  rw [skind_mk]
  by_cases hk : (k.toList == []) = true
  · exact .inl (eq_of_beq hk)
  refine .inr ?_
  have hk' : (k.toList == []) = false := by simpa using hk
  have he : right (.mk k nl x n ks) 101 of = true → nodeK k = true := fun h => nodeK_of (List.mem_append_left _ (fits_101 (rs_node (.inl rfl) h).2.1))
  have hs : right (.mk k nl x n ks) 115 of = true → nodeK k = true := fun h => nodeK_of (List.mem_append_right _ (fits_115 (rs_node (.inr (.inl rfl)) h).2.1))
  simp only [letters, List.mem_cons, List.not_mem_nil, or_false] at hc
  rcases hc with rfl | rfl | rfl | rfl | rfl | rfl | rfl | rfl | rfl | rfl | rfl | rfl
  · cases hf
  · cases hf
  · cases hf
  · cases hf
  · cases hf
  · rw [right_low_69 _ _ _ _ _ _ hk'] at h; exact he h
  · rw [right_low_83 _ _ _ _ _ _ hk'] at h; exact hs h
  · exact he h
  · exact hs h
  · rw [fits_105 (rs_node (.inr (.inr (.inl rfl))) h).2.1]; decide +kernel
  · rw [fits_99 (rs_node (.inr (.inr (.inr (.inl rfl)))) h).2.1]; decide +kernel
  · rw [fits_66 (rs_node (.inr (.inr (.inr (.inr rfl)))) h).2.1]; decide +kernel
theorem pair_of {x y : Syn} {c : Int} {of of' : ByteArray} (hc : c ∈ letters) (hx : right x c of = true) (hy : right y c of' = true) : Pair x y := by
  cases hf : flatL c with
  | false => exact .other x y (other_kind hc hf hx) (other_kind hc hf hy)
  | true =>
    obtain ⟨k, nl, a, n, ks⟩ := x
    obtain ⟨k', nl', a', n', ks'⟩ := y
    unfold flatL at hf
    simp only [Bool.or_eq_true, beq_iff_eq] at hf
    rcases hf with (((rfl | rfl) | rfl) | rfl) | rfl
    · obtain ⟨rfl, hk, hn, hks, -⟩ := rs_t hx
      obtain ⟨rfl, hk', hn', hks', -⟩ := rs_t hy
      obtain rfl := beq_lit hk
      obtain rfl := beq_lit hk'
      obtain rfl := nil_of hks
      obtain rfl := nil_of hks'
      obtain rfl := eq_of_beq hn
      obtain rfl := eq_of_beq hn'
      exact .text _ _ _ (.inl rfl)
    · obtain ⟨rfl, hk, hn, hks, -⟩ := rs_n hx
      obtain ⟨rfl, hk', hn', hks', -⟩ := rs_n hy
      obtain rfl := beq_lit hk
      obtain rfl := beq_lit hk'
      obtain rfl := nil_of hks
      obtain rfl := nil_of hks'
      obtain rfl := eq_of_beq hn
      obtain rfl := eq_of_beq hn'
      exact .text _ _ _ (.inr rfl)
    · obtain ⟨rfl, hk, hxx, -, hks⟩ := rs_b hx
      obtain ⟨rfl, hk', hxx', -, hks'⟩ := rs_b hy
      obtain rfl := beq_lit hk
      obtain rfl := beq_lit hk'
      obtain rfl := nil_of hks
      obtain rfl := nil_of hks'
      obtain rfl := nil_bytes hxx
      obtain rfl := nil_bytes hxx'
      exact .bool _ _
    · obtain ⟨e1, rfl, rfl, h1⟩ := list_form (.inl rfl) hx
      obtain ⟨e2, rfl, rfl, h2⟩ := list_form (.inl rfl) hy
      rw [if_pos rfl] at e1 e2
      subst e1
      subst e2
      exact .lists _ _ _ _ _ (.inl rfl) h1 h2
    · obtain ⟨e1, rfl, rfl, h1⟩ := list_form (.inr rfl) hx
      obtain ⟨e2, rfl, rfl, h2⟩ := list_form (.inr rfl) hy
      rw [if_neg (by decide)] at e1 e2
      subst e1
      subst e2
      exact .lists _ _ _ _ _ (.inr rfl) h1 h2
/-- The names of the fields: as many as asked, no two the same. -/
theorem zfields_ok : ∀ k ∈ expressions ++ statements, (zfields k).length = (asked k).size ∧ ((zfields k).map ByteArray.toList).Nodup := by decide +kernel
theorem first_field {fs : List ByteArray} (h : (fs.map ByteArray.toList).Nodup) {j : Nat} (hj : j < fs.length) : ∀ i < j, fs[i]? ≠ some fs[j] := by
  intro i hi e
  have hil : i < fs.length := by omega
  rw [List.getElem?_eq_getElem hil, Option.some.injEq] at e
  exact List.pairwise_iff_getElem.1 h i j (by simpa using hil) (by simpa using hj) hi (by simp only [List.getElem_map, e])
/-- Two parts are compared. -/
def CmpR (X : Nat → Prop) (w : World) (b : Bool) (t : Syn) (e : Ending) : Prop := ∃ p, e = .returned (.tuple #[.pointer p, .bool b]) ∧ (b = true → PtrIn X w (.pointer p) t)
def CmpC (l r : Syn) : Prop := ∀ (X : Nat → Prop) (mb : Nat) (w : World) (lv rv : Value), w.cell? ⟨mb, 3, none⟩ = some (.bool false) → PtrIn X w lv l → PtrIn X w rv r →
  Calls Tryz.prog 95 #[.pointer (some ⟨mb, 0, none⟩), .nilIface, lv, rv] w fun e w' => CmpR X w' (eqS l r) (bareS r) e ∧ Ext w w'
def CmpIH (N : Nat) : Prop := ∀ l r, sizeS l + sizeS r < N → RS l → RS r → leafK l.kind = false → leafK r.kind = false → mixC l r = false → CmpC l r
theorem leaf_of_other {t : Syn} (h : t.kind.toList = [] ∨ nodeK t.kind = true) : leafK t.kind = false := by
  rcases h with h | h
  · unfold leafK; rw [h]; rfl
  · have hnode : ∀ k ∈ expressions ++ statements, leafK k = false := by decide +kernel
    exact hnode _ (nodeK_mem h)
theorem ptr_shape {X : Nat → Prop} {w : World} {v : Value} {t : Syn} (h : PtrIn X w v t) : ∃ p, v = .pointer p := by
  rcases h.shape with ⟨rfl, -⟩ | ⟨b, rfl, -⟩
  · exact ⟨_, rfl⟩
  · exact ⟨_, rfl⟩
theorem eqL_take (xs ys : List Syn) (j : Nat) (h1 : j < xs.length) (h2 : j < ys.length) : eqL (xs.take (j + 1)) (ys.take (j + 1)) = (eqL (xs.take j) (ys.take j) && eqS xs[j] ys[j]) := by
  induction xs generalizing ys j with
  | nil => simp at h1
  | cons x xs ih =>
    cases ys with
    | nil => simp at h2
    | cons y ys =>
      cases j with
      | zero => simp [eqL]
      | succ j => simp only [List.take_succ_cons, eqL, List.getElem_cons_succ, ih ys j (by simpa using h1) (by simpa using h2), Bool.and_assoc]
theorem eqL_no (xs ys : List Syn) (j : Nat) (h1 : j < xs.length) (h2 : j < ys.length) (h : eqS xs[j] ys[j] = false) : eqL xs ys = false := by
  induction xs generalizing ys j with
  | nil => simp at h1
  | cons x xs ih =>
    cases ys with
    | nil => simp at h2
    | cons y ys =>
      cases j with
      | zero => simp only [List.getElem_cons_zero] at h; simp [eqL, h]
      | succ j => simp only [eqL, ih ys j (by simpa using h1) (by simpa using h2) (by simpa using h), Bool.and_false]
theorem mixL_no (xs ys : List Syn) (j : Nat) (h1 : j < xs.length) (h2 : j < ys.length) (h : mixL xs ys = false) : mixC xs[j] ys[j] = false := by
  induction xs generalizing ys j with
  | nil => simp at h1
  | cons x xs ih =>
    cases ys with
    | nil => simp at h2
    | cons y ys =>
      rw [mixL, Bool.or_eq_false_iff] at h
      cases j with
      | zero => exact h.1
      | succ j => simpa using ih ys j (by simpa using h1) (by simpa using h2) h.2
theorem eqS_list (k : ByteArray) (hk : k = ⟨#[91, 93, 69, 120, 112, 114]⟩ ∨ k = ⟨#[91, 93, 83, 116, 109, 116]⟩) (nl nl' : Bool) (xs ys : List Syn) : eqS (.mk k nl ⟨#[]⟩ 0 xs) (.mk k nl' ⟨#[]⟩ 0 ys) = (xs.length == ys.length && eqL xs ys) := by
  have hw : wrapIx k = none := by rcases hk with rfl | rfl <;> decide +kernel
  rw [eqS_none hw, bareS_none hw]
  simp [stext_mk, snum_mk, skids_mk, skind_mk]
theorem mixC_list (k : ByteArray) (hk : k = ⟨#[91, 93, 69, 120, 112, 114]⟩ ∨ k = ⟨#[91, 93, 83, 116, 109, 116]⟩) (nl nl' : Bool) (xs ys : List Syn) : mixC (.mk k nl ⟨#[]⟩ 0 xs) (.mk k nl' ⟨#[]⟩ 0 ys) = mixL xs ys := by
  have hw : wrapIx k = none := by rcases hk with rfl | rfl <;> decide +kernel
  have hl : lisK k = true := by rcases hk with rfl | rfl <;> decide +kernel
  rw [mixC_none hw, bareS_none hw, skind_mk, skids_mk]
  simp [hl]
theorem eqS_leaf (k : ByteArray) (hk : leafK k = true) (x y : ByteArray) (m n : Int) : eqS (.mk k false x m []) (.mk k false y n []) = (x.toList == y.toList && m == n) := by
  have hw : wrapIx k = none := by
    unfold leafK at hk
    simp only [Bool.or_eq_true] at hk
    rcases hk with (h | h) | h <;> rw [beq_lit h] <;> decide +kernel
  rw [eqS_none hw, bareS_none hw]
  simp [eqL, stext_mk, snum_mk, skids_mk, skind_mk]
end Go.Proofs.YtigalkobmfbdaaaGreatDoor
/- matchAST: the walk. -/
set_option linter.unusedVariables false
set_option linter.unusedSimpArgs false
namespace Go.Proofs.YtigalkobmfbdaaaGreatDoor
open Go.RowKit
theorem node_tests : ∀ k ∈ expressions ++ statements, (k.toList == [115, 116, 114, 105, 110, 103]) = false ∧ (k.toList == [84, 111, 107, 101, 110]) = false ∧ (k.toList == [67, 104, 97, 110, 68, 105, 114]) = false ∧ (k.toList == [98, 111, 111, 108]) = false ∧ (decide (2 < k.size) && (k.extract 0 2).toList == [91, 93]) = false ∧ k.size ≤ 100 := by decide +kernel
theorem is_list_no {w : World} {b : Nat} {k : ByteArray} (h0 : w.cell? ⟨b, 0, none⟩ = some (.string k)) (hk : k.size ≤ 100000) (h : (decide (2 < k.size) && (k.extract 0 2).toList == [91, 93]) = false) : Calls Tryz.prog 147 #[.pointer (some ⟨b, 0, none⟩)] w fun e w' => e = .returned (.bool false) ∧ w' = w := by
  have := is_list h0 hk
  rw [h] at this
  exact this
theorem is_list_yes {w : World} {b : Nat} {k : ByteArray} (h0 : w.cell? ⟨b, 0, none⟩ = some (.string k)) (hk : k.size ≤ 100000) (h : (decide (2 < k.size) && (k.extract 0 2).toList == [91, 93]) = true) : Calls Tryz.prog 147 #[.pointer (some ⟨b, 0, none⟩)] w fun e w' => e = .returned (.bool true) ∧ w' = w := by
  have := is_list h0 hk
  rw [h] at this
  exact this
theorem PtrIn.blk' {X : Nat → Prop} {w : World} {p : Option Addr} {t : Syn} (h : PtrIn X w (.pointer p) t) (hk : t.kind.toList ≠ []) :
    ∃ b a c, p = some ⟨b, 0, none⟩ ∧ b < w.heap.size ∧ w.cell? ⟨b, 0, none⟩ = some (.string t.kind) ∧ w.cell? ⟨b, 1, none⟩ = some (.bool t.null) ∧ w.cell? ⟨b, 2, none⟩ = some (.string t.text) ∧ w.cell? ⟨b, 3, none⟩ = some (.int .i64 t.num) ∧ w.cell? ⟨b, 4, none⟩ = some (.slice a t.kids.length c) ∧ t.kids.length ≤ c ∧ PtrsIn X w a t.kids := by
  obtain ⟨b, a, c, e, -, hb, h0, h1, h2, h3, h4, hc, hP⟩ := h.blk hk
  exact ⟨b, a, c, by simpa using e, hb, h0, h1, h2, h3, h4, hc, hP⟩
theorem sizeSs_len (ks : List Syn) : ks.length ≤ sizeSs ks := by
  induction ks with
  | nil => simp
  | cons t ts ih => simp only [List.length_cons, sizeSs]; omega
theorem node_ne : ∀ k ∈ expressions ++ statements, k.toList ≠ [] := by decide +kernel
set_option maxRecDepth 100000 in
set_option maxHeartbeats 4000000 in
theorem ast_other {k k' : ByteArray} (h : (k.toList == k'.toList) = false) {mb lb rb : Nat} {w : World} (l0 : w.cell? ⟨lb, 0, none⟩ = some (.string k)) (r0 : w.cell? ⟨rb, 0, none⟩ = some (.string k')) :
    Calls Tryz.prog 128 #[.pointer (some ⟨mb, 0, none⟩), .pointer (some ⟨lb, 0, none⟩), .pointer (some ⟨rb, 0, none⟩)] w fun e w' => e = .returned (.tuple #[.pointer none, .bool false]) ∧ Ext w w' := by
  have lt1 := cell_lt l0
  have lt2 := cell_lt r0
  go_enter Tryz.func128, Tryz.ntmps128
  go_wp2_with fail
  go_quiet (fail)
  go_wp2_with fail
  go_ret2
  exact ⟨rfl, Ext.drewN _ _⟩
set_option maxRecDepth 100000 in
set_option maxHeartbeats 4000000 in
theorem ast_walk {N : Nat} (hNb : N ≤ 100000) (ih : CmpIH N) {k : ByteArray} {xs ys : List Syn} (hk : k ∈ expressions ++ statements) (hx : xs.length = (asked k).size) (hy : ys.length = (asked k).size) (hax : rightArgs xs (asked k).toList k = true) (hay : rightArgs ys (asked k).toList k = true) (hN : sizeSs xs + sizeSs ys < N) (hmix : mixL xs ys = false) {X : Nat → Prop} {mb lb rb : Nat} {la ra : Option Addr} {lc rc : Nat} {w : World} (m3 : w.cell? ⟨mb, 3, none⟩ = some (.bool false))
    (l0 : w.cell? ⟨lb, 0, none⟩ = some (.string k)) (l1 : w.cell? ⟨lb, 1, none⟩ = some (.bool false)) (l4 : w.cell? ⟨lb, 4, none⟩ = some (.slice la xs.length lc)) (hlc : xs.length ≤ lc) (hL : PtrsIn X w la xs)
    (r0 : w.cell? ⟨rb, 0, none⟩ = some (.string k)) (r1 : w.cell? ⟨rb, 1, none⟩ = some (.bool false)) (r4 : w.cell? ⟨rb, 4, none⟩ = some (.slice ra ys.length rc)) (hrc : ys.length ≤ rc) (hR : PtrsIn X w ra ys) :
    Calls Tryz.prog 128 #[.pointer (some ⟨mb, 0, none⟩), .pointer (some ⟨lb, 0, none⟩), .pointer (some ⟨rb, 0, none⟩)] w fun e w' => (∃ p, e = .returned (.tuple #[.pointer p, .bool (eqL xs ys)]) ∧ (eqL xs ys = true → p = some ⟨rb, 0, none⟩)) ∧ Ext w w' := by
  have HZ := Lib.hid (zfields_calls k)
  have hself := beq_self_eq_true k.toList
  have hxf : xs.length = (zfields k).length := by rw [hx, (zfields_ok k hk).1]
  have hyf : ys.length = (zfields k).length := by rw [hy, (zfields_ok k hk).1]
  have hfs5 := zfields_small k
  have HP : Hid (∀ (j : Nat) (h1 : j < xs.length) (h2 : j < ys.length), Pair xs[j] ys[j] ∧ RS xs[j] ∧ RS ys[j] ∧ mixC xs[j] ys[j] = false ∧ sizeS xs[j] + sizeS ys[j] < N) := Lib.hid (fun j h1 h2 => by
    have hjl : j < (asked k).toList.length := by rw [size_toList]; omega
    refine ⟨pair_of (asked_letters k _ (List.getElem_mem hjl)) (rightArgs_get _ _ _ hax j h1 hjl) (rightArgs_get _ _ _ hay j h2 hjl), RS.args hx hax j h1, RS.args hy hay j h2, mixL_no xs ys j h1 h2 hmix, ?_⟩
    have := sizeS_kid xs j h1
    have := sizeS_kid ys j h2
    omega)
  have HND := Lib.hid (zfields_ok k hk).2
  have HK := Lib.hid (And.intro hL hR)
  have HI := Lib.hid ih
  clear hL hR hx hy hax hay hmix hN ih hk
  have lt1 := cell_lt l0
  have lt2 := cell_lt r0
  generalize hfe : zfields k = fs at *
  have HFE := Lib.hid hfe
  clear hfe
  go_enter Tryz.func128, Tryz.ntmps128
  go_wp2_with fail
  go_quiet (fail)
  go_wp2_with fail
  refine (HZ.out _).mono ?_
  rintro e w1 ⟨fa, fc, rfl, hfc, hfc2, hfs, hE1⟩
  have HS := Lib.hid hfs
  have hE := (Ext.drewN _ _).trans hE1
  have HE := Lib.hid hE
  clear hfs hE1
  replace m3 := hE.keep m3
  replace l0 := hE.keep l0
  replace l4 := hE.keep l4
  replace r0 := hE.keep r0
  replace r4 := hE.keep r4
  clear hE l1 r1
  go_wp2_with fail
  go_loopw [51] (fun i wr => ∃ j : Nat, i = .int .i64 j ∧ j ≤ xs.length ∧ Ext w1 wr ∧ Hid (eqL (xs.take j) (ys.take j) = true)) (fun i _ => xs.length - (intOf i).toNat)
  case atStart => exact ⟨0, rfl, Nat.zero_le _, Ext.refl _, Lib.hid (by simp [eqL])⟩
  case round =>
    obtain ⟨j, rfl, hj, hEr, hT⟩ := hrel
    by_cases hlt : j < xs.length
    · have hlt2 : j < ys.length := by omega
      obtain ⟨fb, fo, rfl, hfb, hfcell⟩ := HS.out j (by omega)
      obtain ⟨g, o, v, rfl, -, hcell, hpt⟩ := HK.out.1.get j hlt
      obtain ⟨p, rfl⟩ := ptr_shape hpt
      obtain ⟨g', o', v', rfl, -, hcell', hpt'⟩ := HK.out.2.get j hlt2
      obtain ⟨p', rfl⟩ := ptr_shape hpt'
      have hEw := HE.out.trans hEr
      replace hpt := hpt.mono (hEw.keeps X)
      replace hpt' := hpt'.mono (hEw.keeps X)
      replace hcell := hEw.keep hcell
      replace hcell' := hEw.keep hcell'
      replace m3 := hEr.keep m3
      replace l0 := hEr.keep l0
      replace l4 := hEr.keep l4
      replace r0 := hEr.keep r0
      replace r4 := hEr.keep r4
      replace hfcell := hEr.keep hfcell
      replace hfb := Nat.lt_of_lt_of_le hfb hEr.size
      have HF := Lib.hid (show (zfields k)[j]? = some fs[j] by rw [HFE.out]; exact List.getElem?_eq_getElem (by omega))
      have HN1 : Hid (∀ i < j, (zfields k)[i]? ≠ some fs[j]) := Lib.hid (by rw [HFE.out]; exact first_field HND.out (j := j) (by omega))
      have HQ := Lib.hid (And.intro hpt hpt')
      have HJ := Lib.hid (HP.out j hlt hlt2)
      clear hpt hpt'
      generalize fs[j] = nm at *
      go_wp2_with fail
      refine (zz_field l0 l4 hlc (by omega) hlt hcell HF.out HN1.out).mono ?_
      rintro e w2 ⟨rfl, hE2⟩
      replace m3 := hE2.keep m3
      replace l0 := hE2.keep l0
      replace l4 := hE2.keep l4
      replace r0 := hE2.keep r0
      replace r4 := hE2.keep r4
      replace hcell := hE2.keep hcell
      replace hcell' := hE2.keep hcell'
      have K2 := Lib.hid hE2
      clear hE2 hfcell hfb
      go_wp2_with fail
      refine (zz_field r0 r4 hrc (by omega) hlt2 hcell' HF.out HN1.out).mono ?_
      rintro e w3 ⟨rfl, hE3⟩
      replace m3 := hE3.keep m3
      replace l0 := hE3.keep l0
      replace l4 := hE3.keep l4
      replace r0 := hE3.keep r0
      replace r4 := hE3.keep r4
      replace hcell := hE3.keep hcell
      replace hcell' := hE3.keep hcell'
      have K3 := Lib.hid (K2.out.trans hE3)
      clear hE3 K2
      have hq := HQ.out.1.mono (K3.out.keeps X)
      have hq' := HQ.out.2.mono (K3.out.keeps X)
      have hpair := HJ.out.1
      have hstep := eqL_take xs ys j hlt hlt2
      have hno := eqL_no xs ys j hlt hlt2
      have HM := Lib.hid (And.intro hstep hno)
      clear hstep hno HQ
      generalize xs[j] = x at *
      generalize ys[j] = y at *
      cases hpair with
      | lists k2 nl nl' xs2 ys2 hk2 hxs2 hys2 =>
        have hne2 : k2.toList ≠ [] := by rcases hk2 with rfl | rfl <;> decide +kernel
        obtain ⟨b1, a1, c1, rfl, lb1, p0, p1, p2, p3, p4, hc1, hP1⟩ := hq.blk' (by rw [skind_mk]; exact hne2)
        obtain ⟨b2, a2, c2, rfl, lb2, q0, q1, q2, q3, q4, hc2, hP2⟩ := hq'.blk' (by rw [skind_mk]; exact hne2)
        simp only [skind_mk, snull_mk, stext_mk, snum_mk, skids_mk] at p0 p1 p2 p3 p4 q0 q1 q2 q3 q4 hc1 hc2 hP1 hP2
        have HQ := Lib.hid (And.intro hP1 hP2)
        have HB := Lib.hid (eqS_list k2 hk2 nl nl' xs2 ys2)
        have hmx := HJ.out.2.2.2.1
        have hsz := HJ.out.2.2.2.2
        rw [mixC_list k2 hk2] at hmx
        rw [sizeS_mk, sizeS_mk] at hsz
        have hb2 : xs2.length ≤ 100000 := by have := sizeSs_len xs2; omega
        have HX := Lib.hid (And.intro hmx (And.intro hsz (And.intro hxs2 hys2)))
        have HY : Hid (decide (2 < k2.size) && (k2.extract 0 2).toList == [91, 93]) := Lib.hid (by rcases hk2 with rfl | rfl <;> decide +kernel)
        have hz2 : k2.size ≤ 100000 := by rcases hk2 with rfl | rfl <;> decide
        clear hP1 hP2 hmx hsz hxs2 hys2 hne2 hk2 hq hq' p1 p2 p3 q1 q2 q3
        go_wp2_with fail
        refine (is_list_yes p0 hz2 HY.out).mono ?_
        rintro e w4 ⟨rfl, rfl⟩
        go_wp2_with fail
        refine (is_list_yes q0 hz2 HY.out).mono ?_
        rintro e w4 ⟨rfl, rfl⟩
        by_cases hlen : xs2.length = ys2.length
        · have hlen' : ((xs2.length : Int) == (ys2.length : Int)) = true := by rw [beq_iff_eq]; omega
          go_wp2_with fail
          go_quiet (fail)
          go_wp2_with fail
          have hE5 := Ext.drewN w4 nq
          generalize w4.drewN nq = w5 at *
          replace m3 := hE5.keep m3
          replace l0 := hE5.keep l0
          replace l4 := hE5.keep l4
          replace r0 := hE5.keep r0
          replace r4 := hE5.keep r4
          replace p4 := hE5.keep p4
          replace q4 := hE5.keep q4
          have K5 := Lib.hid hE5
          clear hE5 p0 q0
          go_loopw [114] (fun i2 w' => ∃ j2 : Nat, i2 = .int .i64 j2 ∧ j2 ≤ xs2.length ∧ Ext w5 w' ∧ Hid (eqL (xs2.take j2) (ys2.take j2) = true)) (fun i2 _ => xs2.length - (intOf i2).toNat)
          case atStart => exact ⟨0, rfl, Nat.zero_le _, Ext.refl _, Lib.hid (by simp [eqL])⟩
          case round =>
            obtain ⟨j2, rfl, hj2, hEr2, hT2⟩ := hrel
            replace m3 := hEr2.keep m3
            replace l0 := hEr2.keep l0
            replace l4 := hEr2.keep l4
            replace r0 := hEr2.keep r0
            replace r4 := hEr2.keep r4
            replace p4 := hEr2.keep p4
            replace q4 := hEr2.keep q4
            have K6 := Lib.hid (K5.out.trans hEr2)
            by_cases hlt3 : j2 < xs2.length
            · have hlt4 : j2 < ys2.length := by omega
              obtain ⟨g1, o1, v1, rfl, -, kc1, kp1⟩ := HQ.out.1.get j2 hlt3
              obtain ⟨z1, rfl⟩ := ptr_shape kp1
              obtain ⟨g2, o2, v2, rfl, -, kc2, kp2⟩ := HQ.out.2.get j2 hlt4
              obtain ⟨z2, rfl⟩ := ptr_shape kp2
              replace kc1 := K6.out.keep kc1
              replace kc2 := K6.out.keep kc2
              have hx3 := HX.out.2.2.1 _ (List.getElem_mem hlt3)
              have hy3 := HX.out.2.2.2 _ (List.getElem_mem hlt4)
              have HC2 := Lib.hid (HI.out xs2[j2] ys2[j2] (by have := sizeS_kid xs2 j2 hlt3; have := sizeS_kid ys2 j2 hlt4; have := HX.out.2.1; omega) hx3.1 hy3.1 (leaf_of_other (.inr hx3.2)) (leaf_of_other (.inr hy3.2)) (mixL_no xs2 ys2 j2 hlt3 hlt4 HX.out.1))
              have HQ2 := Lib.hid (And.intro (kp1.mono (K6.out.keeps X)) (kp2.mono (K6.out.keeps X)))
              have HM2 := Lib.hid (And.intro (eqL_take xs2 ys2 j2 hlt3 hlt4) (eqL_no xs2 ys2 j2 hlt3 hlt4))
              clear kp1 kp2 hx3 hy3
              generalize xs2[j2] = x2 at *
              generalize ys2[j2] = y2 at *
              cases hb : eqS x2 y2
              · go_wp2_with fail
                go_region_held3 (fun w' => w'.cell? ⟨mb, 3, none⟩ = some (.bool false) ∧ w'.cell? ⟨b1, 4, none⟩ = some (.slice (some ⟨g1, o1, none⟩) xs2.length c1) ∧ w'.cell? ⟨b2, 4, none⟩ = some (.slice (some ⟨g2, o2, none⟩) ys2.length c2) ∧ w'.cell? ⟨g1, o1 + j2, none⟩ = some (.pointer z1) ∧ w'.cell? ⟨g2, o2 + j2, none⟩ = some (.pointer z2)) (go_keep)
                  (first
                    | (go_at_call 95; refine (HC2.out X mb _ _ _ ((Ext.drew _).keep m3) (HQ2.out.1.mono ((Ext.drew _).keeps X)) (HQ2.out.2.mono ((Ext.drew _).keeps X))).mono ?_; rintro e w7 ⟨⟨q, rfl, hq1⟩, hE7⟩; have K7 := Lib.hid ((Ext.drew _).trans hE7); have k1 := K7.out.keep m3; have k2 := K7.out.keep p4; have k3 := K7.out.keep q4; have k4 := K7.out.keep kc1; have k5 := K7.out.keep kc2; rw [hb]; clear hE7 hq1))
                go_wp2_with fail
                go_ret2
                rw [HM.out.2 (by rw [HB.out, HM2.out.2 hb, Bool.and_false])]
                exact ⟨⟨_, rfl, fun h => by cases h⟩, HE.out.trans (hEr.trans (K3.out.trans (K6.out.trans K7.out)))⟩
              · go_wp2_with fail
                go_region_held3 (fun w' => w'.cell? ⟨mb, 3, none⟩ = some (.bool false) ∧ w'.cell? ⟨b1, 4, none⟩ = some (.slice (some ⟨g1, o1, none⟩) xs2.length c1) ∧ w'.cell? ⟨b2, 4, none⟩ = some (.slice (some ⟨g2, o2, none⟩) ys2.length c2) ∧ w'.cell? ⟨g1, o1 + j2, none⟩ = some (.pointer z1) ∧ w'.cell? ⟨g2, o2 + j2, none⟩ = some (.pointer z2)) (go_keep)
                  (first
                    | (go_at_call 95; refine (HC2.out X mb _ _ _ ((Ext.drew _).keep m3) (HQ2.out.1.mono ((Ext.drew _).keeps X)) (HQ2.out.2.mono ((Ext.drew _).keeps X))).mono ?_; rintro e w7 ⟨⟨q, rfl, hq1⟩, hE7⟩; have K7 := Lib.hid ((Ext.drew _).trans hE7); have k1 := K7.out.keep m3; have k2 := K7.out.keep p4; have k3 := K7.out.keep q4; have k4 := K7.out.keep kc1; have k5 := K7.out.keep kc2; rw [hb]; clear hE7 hq1))
                go_wp2_with fail
                exact ⟨⟨j2 + 1, by go_num, by omega, hEr2.trans K7.out, Lib.hid (by rw [HM2.out.1, hT2.out, hb]; rfl)⟩, by simp [intOf]; omega⟩
            · obtain rfl : j2 = xs2.length := by omega
              have hb : Hid (eqS (.mk k2 nl ⟨#[]⟩ 0 xs2) (.mk k2 nl' ⟨#[]⟩ 0 ys2) = true) := Lib.hid (by
                have h1 := hT2.out
                rw [List.take_of_length_le (Nat.le_refl _), List.take_of_length_le (by omega)] at h1
                rw [HB.out, h1, hlen]; simp)
              go_wp2_with fail
              exact ⟨⟨j + 1, by go_num, by omega, hEr.trans (K3.out.trans K6.out), Lib.hid (by rw [HM.out.1, hT.out, hb.out]; rfl)⟩, by simp [intOf]; omega⟩
        · have hlen' : ((xs2.length : Int) == (ys2.length : Int)) = false := by rw [beq_eq_false_iff_ne]; omega
          have hb : Hid (eqS (.mk k2 nl ⟨#[]⟩ 0 xs2) (.mk k2 nl' ⟨#[]⟩ 0 ys2) = false) := Lib.hid (by rw [HB.out, beq_eq_false_iff_ne.2 hlen, Bool.false_and])
          go_wp2_with fail
          go_quiet (fail)
          go_wp2_with fail
          go_ret2
          rw [HM.out.2 hb.out]
          exact ⟨⟨_, rfl, fun h => by cases h⟩, HE.out.trans (hEr.trans (K3.out.trans (Ext.drewN _ _)))⟩
      | text k2 t1 t2 hk2 =>
        have hne2 : k2.toList ≠ [] := by rcases hk2 with rfl | rfl <;> decide +kernel
        obtain ⟨b1, a1, c1, rfl, lb1, p0, p1, p2, p3, p4, -, -⟩ := hq.blk' (by rw [skind_mk]; exact hne2)
        obtain ⟨b2, a2, c2, rfl, lb2, q0, q1, q2, q3, q4, -, -⟩ := hq'.blk' (by rw [skind_mk]; exact hne2)
        simp only [skind_mk, snull_mk, stext_mk, snum_mk, skids_mk] at p0 p1 p2 p3 p4 q0 q1 q2 q3 q4
        have hb := eqS_leaf k2 (by rcases hk2 with rfl | rfl <;> decide +kernel) t1 t2 0 0
        cases ht : (t1.toList == t2.toList)
        · rw [ht, Bool.false_and] at hb
          have HB := Lib.hid hb
          clear hb
          rcases hk2 with rfl | rfl
          all_goals
            go_wp2_with fail
            refine (is_list_no p0 (by decide) (by decide +kernel)).mono ?_
            rintro e w4 ⟨rfl, rfl⟩
            go_wp2_with fail
            go_quiet (fail)
            go_wp2_with fail
            go_ret2
            rw [HM.out.2 HB.out]
            exact ⟨⟨_, rfl, fun h => by cases h⟩, HE.out.trans (hEr.trans (K3.out.trans (Ext.drewN _ _)))⟩
        · rw [ht, Bool.true_and] at hb
          have HB := Lib.hid hb
          clear hb
          rcases hk2 with rfl | rfl
          all_goals
            go_wp2_with fail
            refine (is_list_no p0 (by decide) (by decide +kernel)).mono ?_
            rintro e w4 ⟨rfl, rfl⟩
            go_wp2_with fail
            go_quiet (fail)
            go_wp2_with fail
            exact ⟨⟨j + 1, by go_num, by omega, hEr.trans (K3.out.trans (Ext.drewN _ _)), Lib.hid (by rw [HM.out.1, hT.out, HB.out]; rfl)⟩, by simp [intOf]; omega⟩
      | bool m n =>
        obtain ⟨b1, a1, c1, rfl, lb1, p0, p1, p2, p3, p4, -, -⟩ := hq.blk' (by rw [skind_mk]; decide +kernel)
        obtain ⟨b2, a2, c2, rfl, lb2, q0, q1, q2, q3, q4, -, -⟩ := hq'.blk' (by rw [skind_mk]; decide +kernel)
        simp only [skind_mk, snull_mk, stext_mk, snum_mk, skids_mk] at p0 p1 p2 p3 p4 q0 q1 q2 q3 q4
        have hb := eqS_leaf ⟨#[98, 111, 111, 108]⟩ (by decide +kernel) ⟨#[]⟩ ⟨#[]⟩ m n
        rw [beq_self_eq_true, Bool.true_and] at hb
        cases ht : (m == n)
        · rw [ht] at hb
          have HB := Lib.hid hb
          clear hb
          go_wp2_with fail
          refine (is_list_no p0 (by decide) (by decide +kernel)).mono ?_
          rintro e w4 ⟨rfl, rfl⟩
          go_wp2_with fail
          go_quiet (fail)
          go_wp2_with fail
          go_ret2
          rw [HM.out.2 HB.out]
          exact ⟨⟨_, rfl, fun h => by cases h⟩, HE.out.trans (hEr.trans (K3.out.trans (Ext.drewN _ _)))⟩
        · rw [ht] at hb
          have HB := Lib.hid hb
          clear hb
          go_wp2_with fail
          refine (is_list_no p0 (by decide) (by decide +kernel)).mono ?_
          rintro e w4 ⟨rfl, rfl⟩
          go_wp2_with fail
          go_quiet (fail)
          go_wp2_with fail
          exact ⟨⟨j + 1, by go_num, by omega, hEr.trans (K3.out.trans (Ext.drewN _ _)), Lib.hid (by rw [HM.out.1, hT.out, HB.out]; rfl)⟩, by simp [intOf]; omega⟩
      | other x y hx1 hy1 =>
        have HC := Lib.hid (HI.out x y HJ.out.2.2.2.2 HJ.out.2.1 HJ.out.2.2.1 (leaf_of_other hx1) (leaf_of_other hy1) HJ.out.2.2.2.1)
        rcases hx1 with hx1 | hx1
        · obtain rfl : p = none := by simpa using hq.nil hx1
          cases hb : eqS x y
          · go_wp2_with fail
            go_region_held3 (fun w' => w'.cell? ⟨mb, 3, none⟩ = some (.bool false) ∧ w'.cell? ⟨lb, 4, none⟩ = some (.slice (some ⟨g, o, none⟩) xs.length lc) ∧ w'.cell? ⟨rb, 4, none⟩ = some (.slice (some ⟨g', o', none⟩) ys.length rc) ∧ w'.cell? ⟨g, o + j, none⟩ = some (.pointer none) ∧ w'.cell? ⟨g', o' + j, none⟩ = some (.pointer p')) (go_keep)
              (first
                | (go_at_call 95; refine (HC.out X mb _ _ _ ((Ext.drew _).keep m3) (hq.mono ((Ext.drew _).keeps X)) (hq'.mono ((Ext.drew _).keeps X))).mono ?_; rintro e w4 ⟨⟨q, rfl, hq1⟩, hE4⟩; have K4 := Lib.hid ((Ext.drew _).trans hE4); have k1 := K4.out.keep m3; have k2 := K4.out.keep l4; have k3 := K4.out.keep r4; have k4 := K4.out.keep hcell; have k5 := K4.out.keep hcell'; rw [hb]; clear hE4 hq1))
            go_wp2_with fail
            go_ret2
            rw [HM.out.2 hb]
            exact ⟨⟨_, rfl, fun h => by cases h⟩, HE.out.trans (hEr.trans (K3.out.trans K4.out))⟩
          · go_wp2_with fail
            go_region_held3 (fun w' => w'.cell? ⟨mb, 3, none⟩ = some (.bool false) ∧ w'.cell? ⟨lb, 4, none⟩ = some (.slice (some ⟨g, o, none⟩) xs.length lc) ∧ w'.cell? ⟨rb, 4, none⟩ = some (.slice (some ⟨g', o', none⟩) ys.length rc) ∧ w'.cell? ⟨g, o + j, none⟩ = some (.pointer none) ∧ w'.cell? ⟨g', o' + j, none⟩ = some (.pointer p')) (go_keep)
              (first
                | (go_at_call 95; refine (HC.out X mb _ _ _ ((Ext.drew _).keep m3) (hq.mono ((Ext.drew _).keeps X)) (hq'.mono ((Ext.drew _).keeps X))).mono ?_; rintro e w4 ⟨⟨q, rfl, hq1⟩, hE4⟩; have K4 := Lib.hid ((Ext.drew _).trans hE4); have k1 := K4.out.keep m3; have k2 := K4.out.keep l4; have k3 := K4.out.keep r4; have k4 := K4.out.keep hcell; have k5 := K4.out.keep hcell'; rw [hb]; clear hE4 hq1))
            go_wp2_with fail
            exact ⟨⟨j + 1, by go_num, by omega, hEr.trans (K3.out.trans K4.out), Lib.hid (by rw [HM.out.1, hT.out, hb]; rfl)⟩, by simp [intOf]; omega⟩
        · obtain ⟨b1, a1, c1, rfl, lb1, p0, p1, p2, p3, p4, -, -⟩ := hq.blk' (node_ne _ (nodeK_mem hx1))
          obtain ⟨n1, n2, n3, n4, hnl, hsz⟩ := node_tests _ (nodeK_mem hx1)
          rcases hy1 with hy1 | hy1
          · obtain rfl : p' = none := by simpa using hq'.nil hy1
            cases hb : eqS x y
            · go_wp2_with fail
              go_region_held3 (fun w' => w'.cell? ⟨mb, 3, none⟩ = some (.bool false) ∧ w'.cell? ⟨lb, 4, none⟩ = some (.slice (some ⟨g, o, none⟩) xs.length lc) ∧ w'.cell? ⟨rb, 4, none⟩ = some (.slice (some ⟨g', o', none⟩) ys.length rc) ∧ w'.cell? ⟨g, o + j, none⟩ = some (.pointer (some ⟨b1, 0, none⟩)) ∧ w'.cell? ⟨g', o' + j, none⟩ = some (.pointer none)) (go_keep)
                (first
                  | (go_at_call 95; refine (HC.out X mb _ _ _ ((Ext.drew _).keep m3) (hq.mono ((Ext.drew _).keeps X)) (hq'.mono ((Ext.drew _).keeps X))).mono ?_; rintro e w4 ⟨⟨q, rfl, hq1⟩, hE4⟩; have K4 := Lib.hid ((Ext.drew _).trans hE4); have k1 := K4.out.keep m3; have k2 := K4.out.keep l4; have k3 := K4.out.keep r4; have k4 := K4.out.keep hcell; have k5 := K4.out.keep hcell'; rw [hb]; clear hE4 hq1))
              go_wp2_with fail
              go_ret2
              rw [HM.out.2 hb]
              exact ⟨⟨_, rfl, fun h => by cases h⟩, HE.out.trans (hEr.trans (K3.out.trans K4.out))⟩
            · go_wp2_with fail
              go_region_held3 (fun w' => w'.cell? ⟨mb, 3, none⟩ = some (.bool false) ∧ w'.cell? ⟨lb, 4, none⟩ = some (.slice (some ⟨g, o, none⟩) xs.length lc) ∧ w'.cell? ⟨rb, 4, none⟩ = some (.slice (some ⟨g', o', none⟩) ys.length rc) ∧ w'.cell? ⟨g, o + j, none⟩ = some (.pointer (some ⟨b1, 0, none⟩)) ∧ w'.cell? ⟨g', o' + j, none⟩ = some (.pointer none)) (go_keep)
                (first
                  | (go_at_call 95; refine (HC.out X mb _ _ _ ((Ext.drew _).keep m3) (hq.mono ((Ext.drew _).keeps X)) (hq'.mono ((Ext.drew _).keeps X))).mono ?_; rintro e w4 ⟨⟨q, rfl, hq1⟩, hE4⟩; have K4 := Lib.hid ((Ext.drew _).trans hE4); have k1 := K4.out.keep m3; have k2 := K4.out.keep l4; have k3 := K4.out.keep r4; have k4 := K4.out.keep hcell; have k5 := K4.out.keep hcell'; rw [hb]; clear hE4 hq1))
              go_wp2_with fail
              exact ⟨⟨j + 1, by go_num, by omega, hEr.trans (K3.out.trans K4.out), Lib.hid (by rw [HM.out.1, hT.out, hb]; rfl)⟩, by simp [intOf]; omega⟩
          · obtain ⟨b2, a2, c2, rfl, lb2, q0, q1, q2, q3, q4, -, -⟩ := hq'.blk' (node_ne _ (nodeK_mem hy1))
            cases hb : eqS x y
            · go_wp2_with fail
              refine (is_list_no p0 (by omega) hnl).mono ?_
              rintro e w4 ⟨rfl, rfl⟩
              go_wp2_with fail
              go_region_held3 (fun w' => w'.cell? ⟨mb, 3, none⟩ = some (.bool false) ∧ w'.cell? ⟨lb, 4, none⟩ = some (.slice (some ⟨g, o, none⟩) xs.length lc) ∧ w'.cell? ⟨rb, 4, none⟩ = some (.slice (some ⟨g', o', none⟩) ys.length rc) ∧ w'.cell? ⟨g, o + j, none⟩ = some (.pointer (some ⟨b1, 0, none⟩)) ∧ w'.cell? ⟨g', o' + j, none⟩ = some (.pointer (some ⟨b2, 0, none⟩))) (go_keep)
                (first
                  | (go_at_call 95; refine (HC.out X mb _ _ _ ((Ext.drew _).keep m3) (hq.mono ((Ext.drew _).keeps X)) (hq'.mono ((Ext.drew _).keeps X))).mono ?_; rintro e w4 ⟨⟨q, rfl, hq1⟩, hE4⟩; have K4 := Lib.hid ((Ext.drew _).trans hE4); have k1 := K4.out.keep m3; have k2 := K4.out.keep l4; have k3 := K4.out.keep r4; have k4 := K4.out.keep hcell; have k5 := K4.out.keep hcell'; rw [hb]; clear hE4 hq1))
              go_wp2_with fail
              go_ret2
              rw [HM.out.2 hb]
              exact ⟨⟨_, rfl, fun h => by cases h⟩, HE.out.trans (hEr.trans (K3.out.trans K4.out))⟩
            · go_wp2_with fail
              refine (is_list_no p0 (by omega) hnl).mono ?_
              rintro e w4 ⟨rfl, rfl⟩
              go_wp2_with fail
              go_region_held3 (fun w' => w'.cell? ⟨mb, 3, none⟩ = some (.bool false) ∧ w'.cell? ⟨lb, 4, none⟩ = some (.slice (some ⟨g, o, none⟩) xs.length lc) ∧ w'.cell? ⟨rb, 4, none⟩ = some (.slice (some ⟨g', o', none⟩) ys.length rc) ∧ w'.cell? ⟨g, o + j, none⟩ = some (.pointer (some ⟨b1, 0, none⟩)) ∧ w'.cell? ⟨g', o' + j, none⟩ = some (.pointer (some ⟨b2, 0, none⟩))) (go_keep)
                (first
                  | (go_at_call 95; refine (HC.out X mb _ _ _ ((Ext.drew _).keep m3) (hq.mono ((Ext.drew _).keeps X)) (hq'.mono ((Ext.drew _).keeps X))).mono ?_; rintro e w4 ⟨⟨q, rfl, hq1⟩, hE4⟩; have K4 := Lib.hid ((Ext.drew _).trans hE4); have k1 := K4.out.keep m3; have k2 := K4.out.keep l4; have k3 := K4.out.keep r4; have k4 := K4.out.keep hcell; have k5 := K4.out.keep hcell'; rw [hb]; clear hE4 hq1))
              go_wp2_with fail
              exact ⟨⟨j + 1, by go_num, by omega, hEr.trans (K3.out.trans K4.out), Lib.hid (by rw [HM.out.1, hT.out, hb]; rfl)⟩, by simp [intOf]; omega⟩
    · obtain rfl : j = xs.length := by omega
      have hall : Hid (eqL xs ys = true) := Lib.hid (by
        have := hT.out
        rwa [List.take_of_length_le (Nat.le_refl _), List.take_of_length_le (by omega)] at this)
      go_wp2_with fail
      go_ret2
      rw [hall.out]
      exact ⟨⟨_, rfl, fun _ => rfl⟩, HE.out.trans hEr⟩
end Go.Proofs.YtigalkobmfbdaaaGreatDoor
/- match of two parts: they are compared. -/
set_option linter.unusedVariables false
set_option linter.unusedSimpArgs false
namespace Go.Proofs.YtigalkobmfbdaaaGreatDoor
open Go.RowKit
/-- The kinds that are around something for form alone; the field that they hold it in. -/
theorem wrap_cases {k : ByteArray} {i : Nat} (h : wrapIx k = some i) : (k = ⟨#[80, 97, 114, 101, 110, 69, 120, 112, 114]⟩ ∧ i = 0) ∨ (k = ⟨#[69, 120, 112, 114, 83, 116, 109, 116]⟩ ∧ i = 0) ∨ (k = ⟨#[66, 108, 111, 99, 107, 83, 116, 109, 116]⟩ ∧ i = 0) ∨ (k = ⟨#[76, 97, 98, 101, 108, 101, 100, 83, 116, 109, 116]⟩ ∧ i = 1) := by
  unfold wrapIx at h
  split at h
  · rename_i e
    simp only [Bool.or_eq_true] at e
    cases h
    rcases e with (e | e) | e
    · exact .inl ⟨beq_lit e, rfl⟩
    · exact .inr (.inl ⟨beq_lit e, rfl⟩)
    · exact .inr (.inr (.inl ⟨beq_lit e, rfl⟩))
  · split at h
    · rename_i e; cases h; exact .inr (.inr (.inr ⟨beq_lit e, rfl⟩))
    · cases h
theorem wrap_no {k : ByteArray} (h : wrapIx k = none) : (k.toList == [80, 97, 114, 101, 110, 69, 120, 112, 114]) = false ∧ (k.toList == [69, 120, 112, 114, 83, 116, 109, 116]) = false ∧ (k.toList == [66, 108, 111, 99, 107, 83, 116, 109, 116]) = false ∧ (k.toList == [76, 97, 98, 101, 108, 101, 100, 83, 116, 109, 116]) = false := by
  unfold wrapIx at h
  split at h
  · cases h
  · rename_i e
    split at h
    · cases h
    · rename_i e2
      simp only [Bool.or_eq_true, not_or, Bool.not_eq_true] at e e2
      exact ⟨e.1.1, e.1.2, e.2, e2⟩
/-- No DeclStmt, no FieldList. -/
theorem other_tests : ∀ k ∈ [⟨#[]⟩, ⟨#[84, 111, 107, 101, 110]⟩, ⟨#[115, 116, 114, 105, 110, 103]⟩, ⟨#[98, 111, 111, 108]⟩, ⟨#[91, 93, 69, 120, 112, 114]⟩, ⟨#[91, 93, 83, 116, 109, 116]⟩] ++ (expressions ++ statements), (k.toList == [68, 101, 99, 108, 83, 116, 109, 116]) = false ∧ (k.toList == [70, 105, 101, 108, 100, 76, 105, 115, 116]) = false := by decide +kernel
theorem Form.kind {t : Syn} (h : Form t) : t.kind ∈ [⟨#[]⟩, ⟨#[84, 111, 107, 101, 110]⟩, ⟨#[115, 116, 114, 105, 110, 103]⟩, ⟨#[98, 111, 111, 108]⟩, ⟨#[91, 93, 69, 120, 112, 114]⟩, ⟨#[91, 93, 83, 116, 109, 116]⟩] ++ (expressions ++ statements) := by
  cases h with
  | nothing => rw [skind_mk]; exact List.mem_append_left _ (by simp)
  | leaf k x n h => rw [skind_mk]; rcases h with ⟨rfl | rfl, -⟩ | ⟨rfl, -⟩ <;> exact List.mem_append_left _ (by simp)
  | list k nl ks h => rw [skind_mk]; rcases h with rfl | rfl <;> exact List.mem_append_left _ (by simp)
  | node k ks h => rw [skind_mk]; exact List.mem_append_right _ h
/-- A part that holds another one for form alone: where it lies. -/
theorem wrap_at {X : Nat → Prop} {w : World} {v : Value} {t : Syn} (hf : Form t) {i : Nat} (hw : wrapIx t.kind = some i) (h : PtrIn X w v t) :
    ∃ b g o c p, v = .pointer (some ⟨b, 0, none⟩) ∧ w.cell? ⟨b, 0, none⟩ = some (.string t.kind) ∧ w.cell? ⟨b, 1, none⟩ = some (.bool false) ∧ w.cell? ⟨b, 4, none⟩ = some (.slice (some ⟨g, o, none⟩) t.kids.length c) ∧ t.kids.length ≤ c ∧ t.kids.length ≤ 5 ∧ w.cell? ⟨g, o + i, none⟩ = some (.pointer p) ∧ ∃ hi : i < t.kids.length, PtrIn X w (.pointer p) t.kids[i] ∧ RS t.kids[i] ∧ leafK t.kids[i].kind = false ∧ bareS t = bareS t.kids[i] ∧ sizeS t.kids[i] < sizeS t ∧ (∀ u, eqS t u = eqS t.kids[i] u) ∧ (∀ u, mixC t u = mixC t.kids[i] u) := by
  obtain ⟨k, ks, rfl, hk, hi, hr, hlf⟩ := hf.wrap hw
  rw [skind_mk] at hw
  have hne : (Syn.mk k false ⟨#[]⟩ 0 ks).kind.toList ≠ [] := by
    rw [skind_mk]
    rcases wrap_cases hw with ⟨rfl, -⟩ | ⟨rfl, -⟩ | ⟨rfl, -⟩ | ⟨rfl, -⟩ <;> decide +kernel
  obtain ⟨b, a, c, rfl, hX, -, h0, h1, -, -, h4, hc, hP⟩ := h.blk hne
  simp only [skind_mk, snull_mk, skids_mk] at *
  obtain ⟨g, o, u, rfl, -, hcell, hpt⟩ := hP.get i hi
  obtain ⟨p, rfl⟩ := ptr_shape hpt
  have hl5 : ks.length ≤ 5 := by
    cases hf with
    | node k ks hk' hl ha =>
      rw [hl, ← (zfields_ok k hk').1]; exact zfields_small k
    | list k nl ks h' =>
      rcases h' with rfl | rfl <;> rcases wrap_cases hw with ⟨e, -⟩ | ⟨e, -⟩ | ⟨e, -⟩ | ⟨e, -⟩ <;> exact absurd e (by decide)
    | nothing => simp
    | leaf => simp
  refine ⟨b, g, o, c, p, rfl, h0, h1, h4, hc, hl5, hcell, hi, hpt, hr, hlf, bareS_wrap hw hi, ?_, fun u => eqS_wrap hw hi u, fun u => mixC_wrap hw hi u⟩
  have := sizeS_kid ks i hi
  rw [sizeS_mk]
  omega
set_option maxRecDepth 100000 in
set_option maxHeartbeats 4000000 in
/-- The left part is around another one for form alone. -/
theorem cmp_left {l r : Syn} (hl : Form l) {i : Nat} (hw : wrapIx l.kind = some i) (ih : ∀ hi : i < l.kids.length, CmpC l.kids[i] r) : CmpC l r := by
  intro X mb w lv rv m3 hL hR
  obtain ⟨b, g, o, c, p, rfl, h0, h1, h4, hc, hl5, hp, hi, hP, -, -, -, -, he, -⟩ := wrap_at hl hw hL
  have lt0 := cell_lt h0
  have ltm := cell_lt m3
  have HC := Lib.hid (ih hi)
  have HE := Lib.hid (he r)
  obtain ⟨t1, t2, t3, t4, t5, t6, t7, t8, t9, t10, t11, t12⟩ := ta_nil
  have HP := Lib.hid (And.intro hP hR)
  clear ih he hP hR hL
  rcases wrap_cases hw with ⟨hk, rfl⟩ | ⟨hk, rfl⟩ | ⟨hk, rfl⟩ | ⟨hk, rfl⟩
  all_goals
    rw [hk] at h0
    clear hk hw
    go_enter Tryz.func95, Tryz.ntmps95
    go_wp2_with fail
    refine (zz_field h0 h4 hc (by omega) hi hp (by decide +kernel) (by decide +kernel)).mono ?_
    rintro e w1 ⟨rfl, hE1⟩
    replace m3 := hE1.keep m3
    have KE := Lib.hid hE1
    clear hE1
    go_wp2_with fail
    refine (HC.out X mb w1 (.pointer p) rv m3 (HP.out.1.mono (KE.out.keeps X)) (HP.out.2.mono (KE.out.keeps X))).mono ?_
    rintro e w2 ⟨⟨q, rfl, hq⟩, hE2⟩
    have K2 := Lib.hid (And.intro hq hE2)
    clear hq hE2
    go_wp2_with fail
    go_ret2
    exact ⟨⟨q, by rw [HE.out]; rfl, fun h => K2.out.1 (by rw [← HE.out]; exact h)⟩, KE.out.trans K2.out.2⟩
theorem eqS_bare {l t u : Syn} (hl : wrapIx l.kind = none) (hb : bareS t = bareS u) : eqS l t = eqS l u := by
  cases l
  rw [skind_mk] at hl
  rw [eqS_none hl, eqS_none hl, hb]
theorem mixC_bare {l t u : Syn} (hl : wrapIx l.kind = none) (hb : bareS t = bareS u) : mixC l t = mixC l u := by
  cases l
  rw [skind_mk] at hl
  rw [mixC_none hl, mixC_none hl, hb]
/-- What a walk asks of a part that stands bare. -/
theorem flat_at {X : Nat → Prop} {w : World} {v : Value} {t : Syn} (hf : Form t) (h : PtrIn X w v t) (hne : t.kind.toList ≠ []) (hlf : leafK t.kind = false) :
    ∃ b a c, v = .pointer (some ⟨b, 0, none⟩) ∧ w.cell? ⟨b, 0, none⟩ = some (.string t.kind) ∧ w.cell? ⟨b, 1, none⟩ = some (.bool t.null) ∧ w.cell? ⟨b, 4, none⟩ = some (.slice a t.kids.length c) ∧ t.kids.length ≤ c ∧ PtrsIn X w a t.kids ∧ (t.kind.toList == [68, 101, 99, 108, 83, 116, 109, 116]) = false ∧ (t.kind.toList == [70, 105, 101, 108, 100, 76, 105, 115, 116]) = false := by
  obtain ⟨b, a, c, rfl, hX, -, h0, h1, -, -, h4, hc, hP⟩ := h.blk hne
  have := other_tests _ hf.kind
  exact ⟨b, a, c, rfl, h0, h1, h4, hc, hP, this.1, this.2⟩
set_option maxRecDepth 100000 in
set_option maxHeartbeats 4000000 in
/-- The right part is around another one for form alone, the left one is not. -/
theorem cmp_right {l r : Syn} (hl : Form l) (hll : leafK l.kind = false) (hwl : wrapIx l.kind = none) (hr : Form r) {i : Nat} (hw : wrapIx r.kind = some i) (ih : ∀ hi : i < r.kids.length, CmpC l r.kids[i]) : CmpC l r := by
  intro X mb w lv rv m3 hL hR
  obtain ⟨b, g, o, c, p, rfl, h0, h1, h4, hc, hl5, hp, hi, hP, -, -, hbr, -, -, -⟩ := wrap_at hr hw hR
  have lt0 := cell_lt h0
  have ltm := cell_lt m3
  have HC := Lib.hid (ih hi)
  have HE := Lib.hid (eqS_bare hwl hbr)
  have HB := Lib.hid hbr
  obtain ⟨t1, t2, t3, t4, t5, t6, t7, t8, t9, t10, t11, t12⟩ := ta_nil
  have HP := Lib.hid (And.intro hL hP)
  obtain ⟨n1, n2, n3, n4⟩ := wrap_no hwl
  by_cases hne : l.kind.toList = []
  · obtain rfl : lv = .pointer none := hL.nil hne
    clear ih hbr hP hR hL hne
    rcases wrap_cases hw with ⟨hk, rfl⟩ | ⟨hk, rfl⟩ | ⟨hk, rfl⟩ | ⟨hk, rfl⟩
    all_goals
      rw [hk] at h0
      clear hk hw
      go_enter Tryz.func95, Tryz.ntmps95
      go_wp2_with fail
      refine (zz_field h0 h4 hc (by omega) hi hp (by decide +kernel) (by decide +kernel)).mono ?_
      rintro e w1 ⟨rfl, hE1⟩
      replace m3 := hE1.keep m3
      have KE := Lib.hid hE1
      clear hE1
      go_wp2_with fail
      refine (HC.out X mb w1 _ (.pointer p) m3 (HP.out.1.mono (KE.out.keeps X)) (HP.out.2.mono (KE.out.keeps X))).mono ?_
      rintro e w2 ⟨⟨q, rfl, hq⟩, hE2⟩
      have K2 := Lib.hid (And.intro hq hE2)
      clear hq hE2
      go_wp2_with fail
      go_ret2
      exact ⟨⟨q, by rw [HE.out]; rfl, fun h => by rw [HB.out]; exact K2.out.1 (by rw [← HE.out]; exact h)⟩, KE.out.trans K2.out.2⟩
  · obtain ⟨b1, a1, c1, rfl, k0, k1, k4, -, -, d1, d2⟩ := flat_at hl hL hne hll
    have lt1 := cell_lt k0
    clear ih hbr hP hR hL hne
    rcases wrap_cases hw with ⟨hk, rfl⟩ | ⟨hk, rfl⟩ | ⟨hk, rfl⟩ | ⟨hk, rfl⟩
    all_goals
      rw [hk] at h0
      clear hk hw
      go_enter Tryz.func95, Tryz.ntmps95
      go_wp2_with fail
      refine (zz_field h0 h4 hc (by omega) hi hp (by decide +kernel) (by decide +kernel)).mono ?_
      rintro e w1 ⟨rfl, hE1⟩
      replace m3 := hE1.keep m3
      have KE := Lib.hid hE1
      clear hE1
      go_wp2_with fail
      refine (HC.out X mb w1 _ (.pointer p) m3 (HP.out.1.mono (KE.out.keeps X)) (HP.out.2.mono (KE.out.keeps X))).mono ?_
      rintro e w2 ⟨⟨q, rfl, hq⟩, hE2⟩
      have K2 := Lib.hid (And.intro hq hE2)
      clear hq hE2
      go_wp2_with fail
      go_ret2
      exact ⟨⟨q, by rw [HE.out]; rfl, fun h => by rw [HB.out]; exact K2.out.1 (by rw [← HE.out]; exact h)⟩, KE.out.trans K2.out.2⟩
theorem zfields_ne : ∀ k ∈ expressions ++ statements, (zfields k != []) = true := by decide +kernel
theorem is_node_yes {w : World} {b : Nat} {k : ByteArray} (h0 : w.cell? ⟨b, 0, none⟩ = some (.string k)) (hk : k ∈ expressions ++ statements) : Calls Tryz.prog 127 #[.pointer (some ⟨b, 0, none⟩)] w fun e w' => e = .returned (.bool true) ∧ Ext w w' := by
  have := is_node h0
  rw [zfields_ne k hk] at this
  exact this
theorem is_node_no {w : World} {b : Nat} {k : ByteArray} (h0 : w.cell? ⟨b, 0, none⟩ = some (.string k)) (hk : (zfields k != []) = false) : Calls Tryz.prog 127 #[.pointer (some ⟨b, 0, none⟩)] w fun e w' => e = .returned (.bool false) ∧ Ext w w' := by
  have := is_node h0
  rw [hk] at this
  exact this
theorem nil_ptr (b : Nat) (w : World) : (binOp BinOp.eql 96 (.pointer none) (.pointer (some ⟨b, 0, none⟩))).run Tryz.prog w = .ok (.bool false) w := by kernel_rfl
set_option maxRecDepth 100000 in
set_option maxHeartbeats 4000000 in
/-- One of the two is nothing. -/
theorem cmp_nothing {l r : Syn} (hl : Form l) (hr : Form r) (hll : leafK l.kind = false) (hlr : leafK r.kind = false) (hwl : wrapIx l.kind = none) (hwr : wrapIx r.kind = none) (h : l.kind.toList = [] ∨ r.kind.toList = []) (he : eqS l r = (l.kind.toList == r.kind.toList)) : CmpC l r := by
  intro X mb w lv rv m3 hL hR
  have ltm := cell_lt m3
  obtain ⟨t1, t2, t3, t4, t5, t6, t7, t8, t9, t10, t11, t12⟩ := ta_nil
  obtain ⟨n1, n2, n3, n4⟩ := wrap_no hwl
  obtain ⟨m1', m2', m3', m4'⟩ := wrap_no hwr
  have HE := Lib.hid he
  clear he
  by_cases h1 : l.kind.toList = []
  · obtain rfl : lv = .pointer none := hL.nil h1
    by_cases h2 : r.kind.toList = []
    · obtain rfl : rv = .pointer none := hR.nil h2
      have HN := Lib.hid (And.intro h1 h2)
      have HR := Lib.hid hR
      clear h1 h2 hR hL h
      go_enter Tryz.func95, Tryz.ntmps95
      go_wp2_with fail
      go_ret2
      refine ⟨⟨none, by rw [HE.out, HN.out.1, HN.out.2]; rfl, fun _ => ?_⟩, Ext.refl _⟩
      have hb : bareS r = r := by
        cases r
        exact bareS_none hwr
      rw [hb]
      exact HR.out
    · obtain ⟨b1, a1, c1, rfl, k0, k1, k4, -, -, d1, d2⟩ := flat_at hr hR h2 hlr
      have lt1 := cell_lt k0
      have HN : Hid ((l.kind.toList == r.kind.toList) = false) := Lib.hid (by rw [h1]; exact beq_eq_false_iff_ne.2 (fun e => h2 e.symm))
      have hnull : r.null = false ∨ (r.kind.toList == [66, 97, 115, 105, 99, 76, 105, 116]) = false := by
        cases hr with
        | nothing => exact .inl rfl
        | leaf => exact .inl rfl
        | node => exact .inl rfl
        | list k nl ks hk => right; rw [skind_mk]; rcases hk with rfl | rfl <;> decide +kernel
      clear h1 h2 hR hL h
      have tq := nil_ptr b1
      rcases hnull with hn | hn
      · rw [hn] at k1
        cases hbl : (r.kind.toList == [66, 97, 115, 105, 99, 76, 105, 116])
        all_goals
          go_enter Tryz.func95, Tryz.ntmps95
          go_wp2_with fail
          go_ret2
          rw [HE.out, HN.out]
          exact ⟨⟨_, rfl, fun h => by cases h⟩, Ext.refl _⟩
      · go_enter Tryz.func95, Tryz.ntmps95
        go_wp2_with fail
        go_ret2
        rw [HE.out, HN.out]
        exact ⟨⟨_, rfl, fun h => by cases h⟩, Ext.refl _⟩
  · obtain ⟨b1, a1, c1, rfl, k0, k1, k4, -, -, d1, d2⟩ := flat_at hl hL h1 hll
    have lt1 := cell_lt k0
    have h2 := h.resolve_left h1
    obtain rfl : rv = .pointer none := hR.nil h2
    have HN : Hid ((l.kind.toList == r.kind.toList) = false) := Lib.hid (by rw [h2]; exact beq_eq_false_iff_ne.2 h1)
    clear h1 h2 hR hL h
    go_enter Tryz.func95, Tryz.ntmps95
    go_wp2_with fail
    go_ret2
    rw [HE.out, HN.out]
    exact ⟨⟨_, rfl, fun h => by cases h⟩, Ext.refl _⟩
set_option maxRecDepth 100000 in
set_option maxHeartbeats 4000000 in
/-- Two nodes. -/
theorem cmp_nodes {N : Nat} (hN : N ≤ 100000) (ih : CmpIH N) {k k' : ByteArray} {xs ys : List Syn} (hl : Form (.mk k false ⟨#[]⟩ 0 xs)) (hr : Form (.mk k' false ⟨#[]⟩ 0 ys)) (hk : k ∈ expressions ++ statements) (hk' : k' ∈ expressions ++ statements) (hwl : wrapIx k = none) (hwr : wrapIx k' = none) (hs : sizeSs xs + sizeSs ys < N) (hm : mixC (.mk k false ⟨#[]⟩ 0 xs) (.mk k' false ⟨#[]⟩ 0 ys) = false) : CmpC (.mk k false ⟨#[]⟩ 0 xs) (.mk k' false ⟨#[]⟩ 0 ys) := by
  intro X mb w lv rv m3 hL hR
  have ltm := cell_lt m3
  obtain ⟨t1, t2, t3, t4, t5, t6, t7, t8, t9, t10, t11, t12⟩ := ta_nil
  obtain ⟨n1, n2, n3, n4⟩ := wrap_no hwl
  obtain ⟨m1', m2', m3', m4'⟩ := wrap_no hwr
  have hlf : ∀ k ∈ expressions ++ statements, leafK k = false := by decide +kernel
  obtain ⟨b1, a1, c1, rfl, p0, p1, p4, hc1, hP1, d1, d2⟩ := flat_at hl hL (by rw [skind_mk]; exact node_ne k hk) (by rw [skind_mk]; exact hlf k hk)
  obtain ⟨b2, a2, c2, rfl, q0, q1, q4, hc2, hP2, e1, e2⟩ := flat_at hr hR (by rw [skind_mk]; exact node_ne k' hk') (by rw [skind_mk]; exact hlf k' hk')
  simp only [skind_mk, snull_mk, skids_mk] at p0 p1 p4 q0 q1 q4 hc1 hc2 hP1 hP2 d1 d2 e1 e2
  have lt1 := cell_lt p0
  have lt2 := cell_lt q0
  have hlk : ∀ k ∈ expressions ++ statements, lisK k = false := by decide +kernel
  have hargs : ∀ {k : ByteArray} {ks : List Syn}, k ∈ expressions ++ statements → Form (.mk k false ⟨#[]⟩ 0 ks) → ks.length = (asked k).size ∧ rightArgs ks (asked k).toList k = true := by
    intro k ks hk hf
    cases hf with
    | node k ks h h1 h2 => exact ⟨h1, h2⟩
    | nothing => exact absurd (nodeK_of hk) (by decide +kernel)
    | leaf k x n h => exact absurd (nodeK_of hk) (by rcases h with ⟨rfl | rfl, -⟩ | ⟨rfl, -⟩ <;> decide +kernel)
    | list k nl ks h => exact absurd (nodeK_of hk) (by rcases h with rfl | rfl <;> decide +kernel)
  obtain ⟨x1, x2⟩ := hargs hk hl
  obtain ⟨y1, y2⟩ := hargs hk' hr
  have hE : eqS (.mk k false ⟨#[]⟩ 0 xs) (.mk k' false ⟨#[]⟩ 0 ys) = (k.toList == k'.toList && (xs.length == ys.length && eqL xs ys)) := by
    rw [eqS_none hwl, bareS_none hwr]
    simp [stext_mk, snum_mk, skids_mk, skind_mk, Bool.and_assoc]
  have HE := Lib.hid hE
  have HB : Hid (bareS (.mk k' false ⟨#[]⟩ 0 ys) = .mk k' false ⟨#[]⟩ 0 ys) := Lib.hid (bareS_none hwr)
  have HR := Lib.hid hR
  have HK := Lib.hid (And.intro hk hk')
  have HA : ∀ (wq : World), Ext w wq → Calls Tryz.prog 128 #[.pointer (some ⟨mb, 0, none⟩), .pointer (some ⟨b1, 0, none⟩), .pointer (some ⟨b2, 0, none⟩)] wq fun e w' => (∃ p, e = .returned (.tuple #[.pointer p, .bool (k.toList == k'.toList && (xs.length == ys.length && eqL xs ys))]) ∧ ((k.toList == k'.toList && (xs.length == ys.length && eqL xs ys)) = true → p = some ⟨b2, 0, none⟩)) ∧ Ext wq w' := by
    intro wq hEq
    cases hkk : (k.toList == k'.toList)
    · refine (ast_other hkk (hEq.keep p0) (hEq.keep q0)).mono ?_
      rintro e w' ⟨rfl, hx⟩
      exact ⟨⟨none, by simp, by simp⟩, hx⟩
    · obtain rfl : k = k' := toList_inj (eq_of_beq hkk)
      have hlen : (xs.length == ys.length) = true := by rw [x1, y1]; simp
      rw [hlen, Bool.true_and, Bool.true_and]
      have hm' : mixL xs ys = false := by
        rw [mixC_none hwl, bareS_none hwr, skind_mk, skids_mk, hlk k hk] at hm
        simpa using hm
      exact ast_walk hN ih hk x1 y1 x2 y2 hs hm' (hEq.keep m3) (hEq.keep p0) (hEq.keep p1) (hEq.keep p4) hc1 (hP1.mono (hEq.keeps X)) (hEq.keep q0) (hEq.keep q1) (hEq.keep q4) hc2 (hP2.mono (hEq.keeps X))
  have HC := Lib.hid HA
  generalize (k.toList == k'.toList && (xs.length == ys.length && eqL xs ys)) = bb at *
  clear hE HA hP1 hP2 hL hR hm hs x1 x2 y1 y2 hl hr hk hk' ih hlk hlf hargs
  cases hbl : (k'.toList == [66, 97, 115, 105, 99, 76, 105, 116])
  all_goals
    go_enter Tryz.func95, Tryz.ntmps95
    go_wp2_with fail
    refine (is_node_yes p0 HK.out.1).mono ?_
    rintro e w1 ⟨rfl, hE1⟩
    replace q0 := hE1.keep q0
    have K1 := Lib.hid hE1
    clear hE1
    go_wp2_with fail
    refine (is_node_yes q0 HK.out.2).mono ?_
    rintro e w2 ⟨rfl, hE2⟩
    have K2 := Lib.hid (K1.out.trans hE2)
    clear hE2
    go_wp2_with fail
    refine (HC.out w2 K2.out).mono ?_
    rintro e w3 ⟨⟨q, rfl, hq⟩, hE3⟩
    have K3 := Lib.hid (And.intro hq (K2.out.trans hE3))
    clear hq hE3
    go_wp2_with fail
    go_ret2
    exact ⟨⟨q, by rw [HE.out]; rfl, fun h => by rw [HE.out] at h; obtain rfl := K3.out.1 h; rw [HB.out]; exact HR.out.mono (K3.out.2.keeps X)⟩, K3.out.2⟩
set_option maxRecDepth 100000 in
set_option maxHeartbeats 4000000 in
theorem fits_stmt {w : World} {b : Nat} (h0 : w.cell? ⟨b, 0, none⟩ = some (.string ⟨#[91, 93, 83, 116, 109, 116]⟩)) : Calls Tryz.prog 129 #[.string ⟨#[91, 93, 69, 120, 112, 114]⟩, .pointer (some ⟨b, 0, none⟩)] w fun e w' => e = .returned (.bool false) ∧ w' = w := by
  have lt := cell_lt h0
  have HC : Hid (Calls Tryz.prog 148 #[.pointer (some ⟨b, 0, none⟩)] w fun e w' => e = .returned (.bool false) ∧ w' = w) := Lib.hid (by
    go_enter Tryz.func148, Tryz.ntmps148
    go_wp2_with fail
    go_ret
    exact ⟨rfl, rfl⟩)
  go_enter Tryz.func129, Tryz.ntmps129
  go_wp2_with fail
  refine HC.out.mono ?_
  rintro e w1 ⟨rfl, rfl⟩
  go_wp2_with fail
  go_ret
  exact ⟨rfl, rfl⟩
set_option maxRecDepth 100000 in
set_option maxHeartbeats 4000000 in
/-- Lists of two kinds. -/
theorem cmp_mixed {k k' : ByteArray} {nl nl' : Bool} {xs ys : List Syn} (h : (k = ⟨#[91, 93, 69, 120, 112, 114]⟩ ∧ k' = ⟨#[91, 93, 83, 116, 109, 116]⟩) ∨ (k = ⟨#[91, 93, 83, 116, 109, 116]⟩ ∧ k' = ⟨#[91, 93, 69, 120, 112, 114]⟩)) (hl : Form (.mk k nl ⟨#[]⟩ 0 xs)) (hr : Form (.mk k' nl' ⟨#[]⟩ 0 ys)) : CmpC (.mk k nl ⟨#[]⟩ 0 xs) (.mk k' nl' ⟨#[]⟩ 0 ys) := by
  intro X mb w lv rv m3 hL hR
  have ltm := cell_lt m3
  obtain ⟨t1, t2, t3, t4, t5, t6, t7, t8, t9, t10, t11, t12⟩ := ta_nil
  have hE : eqS (.mk k nl ⟨#[]⟩ 0 xs) (.mk k' nl' ⟨#[]⟩ 0 ys) = false := by
    have hkk : (k.toList == k'.toList) = false := by rcases h with ⟨rfl, rfl⟩ | ⟨rfl, rfl⟩ <;> decide +kernel
    rw [eqS_none (by rcases h with ⟨rfl, rfl⟩ | ⟨rfl, rfl⟩ <;> decide +kernel), bareS_none (by rcases h with ⟨rfl, rfl⟩ | ⟨rfl, rfl⟩ <;> decide +kernel), skind_mk, hkk]
    simp
  have HE := Lib.hid hE
  have hne : k.toList ≠ [] ∧ k'.toList ≠ [] ∧ leafK k = false ∧ leafK k' = false := by rcases h with ⟨rfl, rfl⟩ | ⟨rfl, rfl⟩ <;> decide +kernel
  obtain ⟨b1, a1, c1, rfl, p0, p1, p4, hc1, hP1, -, -⟩ := flat_at hl hL hne.1 hne.2.2.1
  obtain ⟨b2, a2, c2, rfl, q0, q1, q4, hc2, hP2, -, -⟩ := flat_at hr hR hne.2.1 hne.2.2.2
  simp only [skind_mk, snull_mk, skids_mk] at p0 p1 p4 q0 q1 q4 hc1 hc2 hP1 hP2
  have lt1 := cell_lt p0
  have lt2 := cell_lt q0
  clear hE hL hR hl hr hP1 hP2 hne
  rcases h with ⟨rfl, rfl⟩ | ⟨rfl, rfl⟩
  all_goals
    go_enter Tryz.func95, Tryz.ntmps95
    go_wp2_with fail
    refine (is_node_no p0 (by decide +kernel)).mono ?_
    rintro e w1 ⟨rfl, hE1⟩
    have K1 := Lib.hid hE1
    replace p0 := hE1.keep p0
    replace q0 := hE1.keep q0
    replace lt1 := cell_lt p0
    replace lt2 := cell_lt q0
    clear hE1
    go_wp2_with fail
    go_loopw [229] (fun i wr => i = .int .i64 0 ∧ wr = w1.alloc (.cells #[.string ⟨#[91, 93, 69, 120, 112, 114]⟩, .string ⟨#[91, 93, 83, 116, 109, 116]⟩, .string ⟨#[91, 93, 70, 105, 101, 108, 100]⟩] 9)) (fun _ _ => 0)
    case atStart => exact ⟨rfl, rfl⟩
    case round =>
      obtain ⟨rfl, rfl⟩ := hrel
      replace p0 := (Ext.alloc w1 (.cells #[.string ⟨#[91, 93, 69, 120, 112, 114]⟩, .string ⟨#[91, 93, 83, 116, 109, 116]⟩, .string ⟨#[91, 93, 70, 105, 101, 108, 100]⟩] 9)).keep p0
      replace q0 := (Ext.alloc w1 (.cells #[.string ⟨#[91, 93, 69, 120, 112, 114]⟩, .string ⟨#[91, 93, 83, 116, 109, 116]⟩, .string ⟨#[91, 93, 70, 105, 101, 108, 100]⟩] 9)).keep q0
      have lt1' := cell_lt p0
      have lt2' := cell_lt q0
      go_wp2_with fail
      first
        | refine (fits_stmt q0).mono ?_
        | refine (fits_stmt p0).mono ?_
      rintro e w3 ⟨rfl, rfl⟩
      go_wp2_with fail
      go_ret2
      rw [HE.out]
      exact ⟨⟨_, rfl, fun h => by cases h⟩, K1.out.trans (Ext.alloc _ _)⟩
end Go.Proofs.YtigalkobmfbdaaaGreatDoor
/- match of two lists of one kind; every two parts. -/
set_option linter.unusedVariables false
set_option linter.unusedSimpArgs false
namespace Go.Proofs.YtigalkobmfbdaaaGreatDoor
open Go.RowKit
theorem Form.elems {k : ByteArray} {nl : Bool} {x : ByteArray} {n : Int} {ks : List Syn} (h : Form (.mk k nl x n ks)) (hk : lisK k = true := by decide +kernel) : ∀ t ∈ ks, RS t ∧ nodeK t.kind = true := by
  have hlk : ∀ k ∈ expressions ++ statements, lisK k = false := by decide +kernel
  cases h with
  | nothing => exact absurd hk (by decide +kernel)
  | leaf k x n h => exact absurd hk (by rcases h with ⟨rfl | rfl, -⟩ | ⟨rfl, -⟩ <;> decide +kernel)
  | list k nl ks h h1 h2 => exact h2
  | node k ks h => rw [hlk k h] at hk; cases hk
set_option maxRecDepth 100000 in
set_option maxHeartbeats 4000000 in
theorem cmp_exprs {N : Nat} (hN : N ≤ 100000) (ih : CmpIH N) {nl nl' : Bool} {xs ys : List Syn} (hl : Form (.mk ⟨#[91, 93, 69, 120, 112, 114]⟩ nl ⟨#[]⟩ 0 xs)) (hr : Form (.mk ⟨#[91, 93, 69, 120, 112, 114]⟩ nl' ⟨#[]⟩ 0 ys)) (hs : sizeSs xs + sizeSs ys < N) (hm : mixC (.mk ⟨#[91, 93, 69, 120, 112, 114]⟩ nl ⟨#[]⟩ 0 xs) (.mk ⟨#[91, 93, 69, 120, 112, 114]⟩ nl' ⟨#[]⟩ 0 ys) = false) : CmpC (.mk ⟨#[91, 93, 69, 120, 112, 114]⟩ nl ⟨#[]⟩ 0 xs) (.mk ⟨#[91, 93, 69, 120, 112, 114]⟩ nl' ⟨#[]⟩ 0 ys) := by
  intro X mb w lv rv m3 hL hR
  have ltm := cell_lt m3
  obtain ⟨t1, t2, t3, t4, t5, t6, t7, t8, t9, t10, t11, t12⟩ := ta_nil
  have HE := Lib.hid (eqS_list ⟨#[91, 93, 69, 120, 112, 114]⟩ (.inl rfl) nl nl' xs ys)
  obtain ⟨b1, a1, c1, rfl, p0, p1, p4, hc1, hP1, -, -⟩ := flat_at hl hL (by rw [skind_mk]; decide +kernel) (by rw [skind_mk]; decide +kernel)
  obtain ⟨b2, a2, c2, rfl, q0, q1, q4, hc2, hP2, -, -⟩ := flat_at hr hR (by rw [skind_mk]; decide +kernel) (by rw [skind_mk]; decide +kernel)
  simp only [skind_mk, snull_mk, skids_mk] at p0 p1 p4 q0 q1 q4 hc1 hc2 hP1 hP2
  have lt1 := cell_lt p0
  have lt2 := cell_lt q0
  have hmx : mixL xs ys = false := by rwa [mixC_list ⟨#[91, 93, 69, 120, 112, 114]⟩ (.inl rfl)] at hm
  have hbx : xs.length ≤ 100000 ∧ ys.length ≤ 100000 := by have := sizeSs_len xs; have := sizeSs_len ys; omega
  obtain ⟨hbx, hby⟩ := hbx
  have HX := Lib.hid (And.intro hmx (And.intro hl.elems hr.elems))
  have HI := Lib.hid ih
  have HQ := Lib.hid (And.intro hP1 hP2)
  have HB : Hid (bareS (.mk ⟨#[91, 93, 69, 120, 112, 114]⟩ nl' ⟨#[]⟩ 0 ys) = .mk ⟨#[91, 93, 69, 120, 112, 114]⟩ nl' ⟨#[]⟩ 0 ys) := Lib.hid (bareS_none (by decide +kernel))
  have HR := Lib.hid hR
  clear hL hR hl hr hP1 hP2 hm hmx ih
  go_enter Tryz.func95, Tryz.ntmps95
  go_wp2_with fail
  refine (is_node_no p0 (by decide +kernel)).mono ?_
  rintro e w2 ⟨rfl, hE1⟩
  have K2 := Lib.hid hE1
  replace m3 := hE1.keep m3
  replace p0 := hE1.keep p0
  replace q0 := hE1.keep q0
  replace p4 := hE1.keep p4
  replace q4 := hE1.keep q4
  replace lt1 := cell_lt p0
  replace lt2 := cell_lt q0
  clear hE1 p1 q1
  go_wp2_with fail
  go_loopw [229] (fun i wr => i = .int .i64 0 ∧ wr = w2.alloc (.cells #[.string ⟨#[91, 93, 69, 120, 112, 114]⟩, .string ⟨#[91, 93, 83, 116, 109, 116]⟩, .string ⟨#[91, 93, 70, 105, 101, 108, 100]⟩] 9)) (fun _ _ => 0)
  case atStart => exact ⟨rfl, rfl⟩
  case round =>
      obtain ⟨rfl, rfl⟩ := hrel
      have W5e := Ext.alloc w2 (.cells #[.string ⟨#[91, 93, 69, 120, 112, 114]⟩, .string ⟨#[91, 93, 83, 116, 109, 116]⟩, .string ⟨#[91, 93, 70, 105, 101, 108, 100]⟩] 9)
      replace m3 := W5e.keep m3
      replace p0 := W5e.keep p0
      replace q0 := W5e.keep q0
      replace p4 := W5e.keep p4
      replace q4 := W5e.keep q4
      have lt1' := cell_lt p0
      have lt2' := cell_lt q0
      by_cases hlen : xs.length = ys.length
      · have hlen' : ((xs.length : Int) == (ys.length : Int)) = true := by rw [beq_iff_eq]; omega
        go_wp2_with fail
        go_quiet (fail)
        have W6e := Ext.drewN (w2.alloc (.cells #[.string ⟨#[91, 93, 69, 120, 112, 114]⟩, .string ⟨#[91, 93, 83, 116, 109, 116]⟩, .string ⟨#[91, 93, 70, 105, 101, 108, 100]⟩] 9)) nq
        have K6 := Lib.hid (K2.out.trans (W5e.trans W6e))
        replace m3 := W6e.keep m3
        replace p0 := W6e.keep p0
        replace q0 := W6e.keep q0
        replace p4 := W6e.keep p4
        replace q4 := W6e.keep q4
        clear W5e W6e lt1' lt2'
        generalize (w2.alloc (.cells #[.string ⟨#[91, 93, 69, 120, 112, 114]⟩, .string ⟨#[91, 93, 83, 116, 109, 116]⟩, .string ⟨#[91, 93, 70, 105, 101, 108, 100]⟩] 9)).drewN nq = w5 at *
        have lt1' := cell_lt p0
        have lt2' := cell_lt q0
        go_wp2_with fail
        go_loopw [291] (fun i2 w' => ∃ j2 : Nat, i2 = .int .i64 j2 ∧ j2 ≤ xs.length ∧ Ext w5 w' ∧ Hid (eqL (xs.take j2) (ys.take j2) = true)) (fun i2 _ => xs.length - (intOf i2).toNat)
        case atStart => exact ⟨0, rfl, Nat.zero_le _, Ext.refl _, Lib.hid (by simp [eqL])⟩
        case round =>
          obtain ⟨j2, rfl, hj2, hEr2, hT2⟩ := hrel
          replace m3 := hEr2.keep m3
          replace p4 := hEr2.keep p4
          replace q4 := hEr2.keep q4
          replace lt1' := cell_lt p4
          replace lt2' := cell_lt q4
          have K7 := Lib.hid (K6.out.trans hEr2)
          by_cases hlt3 : j2 < xs.length
          · have hlt4 : j2 < ys.length := by omega
            obtain ⟨g1, o1, v1, rfl, -, kc1, kp1⟩ := HQ.out.1.get j2 hlt3
            obtain ⟨z1, rfl⟩ := ptr_shape kp1
            obtain ⟨g2, o2, v2, rfl, -, kc2, kp2⟩ := HQ.out.2.get j2 hlt4
            obtain ⟨z2, rfl⟩ := ptr_shape kp2
            replace kc1 := K7.out.keep kc1
            replace kc2 := K7.out.keep kc2
            have hx3 := HX.out.2.1 _ (List.getElem_mem hlt3)
            have hy3 := HX.out.2.2 _ (List.getElem_mem hlt4)
            have HC2 := Lib.hid (HI.out xs[j2] ys[j2] (by have := sizeS_kid xs j2 hlt3; have := sizeS_kid ys j2 hlt4; have := hs; omega) hx3.1 hy3.1 (leaf_of_other (.inr hx3.2)) (leaf_of_other (.inr hy3.2)) (mixL_no xs ys j2 hlt3 hlt4 HX.out.1))
            have HQ2 := Lib.hid (And.intro (kp1.mono (K7.out.keeps X)) (kp2.mono (K7.out.keeps X)))
            have HM2 := Lib.hid (And.intro (eqL_take xs ys j2 hlt3 hlt4) (eqL_no xs ys j2 hlt3 hlt4))
            clear kp1 kp2 hx3 hy3
            generalize xs[j2] = x2 at *
            generalize ys[j2] = y2 at *
            go_wp2_with fail
            refine (HC2.out X mb _ _ _ m3 HQ2.out.1 HQ2.out.2).mono ?_
            rintro e w7 ⟨⟨q, rfl, hq1⟩, hE7⟩
            have K8 := Lib.hid hE7
            clear hE7 hq1
            cases hb : eqS x2 y2
            · go_wp2_with fail
              go_ret2
              rw [HE.out, HM2.out.2 hb, Bool.and_false]
              exact ⟨⟨_, rfl, fun h => by cases h⟩, K7.out.trans K8.out⟩
            · go_wp2_with fail
              exact ⟨⟨j2 + 1, by go_num, by omega, hEr2.trans K8.out, Lib.hid (by rw [HM2.out.1, hT2.out, hb]; rfl)⟩, by simp [intOf]; omega⟩
          · obtain rfl : j2 = xs.length := by omega
            have hb : Hid ((xs.length == ys.length && eqL xs ys) = true) := Lib.hid (by
              have h1 := hT2.out
              rw [List.take_of_length_le (Nat.le_refl _), List.take_of_length_le (by omega)] at h1
              rw [h1, hlen]; simp)
            go_wp2_with fail
            go_ret2
            rw [HE.out, hb.out]
            exact ⟨⟨_, rfl, fun _ => by rw [HB.out]; exact HR.out.mono (K7.out.keeps X)⟩, K7.out⟩
      · have hlen' : ((xs.length : Int) == (ys.length : Int)) = false := by rw [beq_eq_false_iff_ne]; omega
        have hb : Hid ((xs.length == ys.length && eqL xs ys) = false) := Lib.hid (by rw [beq_eq_false_iff_ne.2 hlen, Bool.false_and])
        go_wp2_with fail
        go_quiet (fail)
        go_wp2_with fail
        go_ret2
        rw [HE.out, hb.out]
        exact ⟨⟨_, rfl, fun h => by cases h⟩, (K2.out.trans W5e).trans (Ext.drewN _ _)⟩
set_option maxRecDepth 100000 in
set_option maxHeartbeats 4000000 in
theorem cmp_stmts {N : Nat} (hN : N ≤ 100000) (ih : CmpIH N) {nl nl' : Bool} {xs ys : List Syn} (hl : Form (.mk ⟨#[91, 93, 83, 116, 109, 116]⟩ nl ⟨#[]⟩ 0 xs)) (hr : Form (.mk ⟨#[91, 93, 83, 116, 109, 116]⟩ nl' ⟨#[]⟩ 0 ys)) (hs : sizeSs xs + sizeSs ys < N) (hm : mixC (.mk ⟨#[91, 93, 83, 116, 109, 116]⟩ nl ⟨#[]⟩ 0 xs) (.mk ⟨#[91, 93, 83, 116, 109, 116]⟩ nl' ⟨#[]⟩ 0 ys) = false) : CmpC (.mk ⟨#[91, 93, 83, 116, 109, 116]⟩ nl ⟨#[]⟩ 0 xs) (.mk ⟨#[91, 93, 83, 116, 109, 116]⟩ nl' ⟨#[]⟩ 0 ys) := by
  intro X mb w lv rv m3 hL hR
  have ltm := cell_lt m3
  obtain ⟨t1, t2, t3, t4, t5, t6, t7, t8, t9, t10, t11, t12⟩ := ta_nil
  have HE := Lib.hid (eqS_list ⟨#[91, 93, 83, 116, 109, 116]⟩ (.inr rfl) nl nl' xs ys)
  obtain ⟨b1, a1, c1, rfl, p0, p1, p4, hc1, hP1, -, -⟩ := flat_at hl hL (by rw [skind_mk]; decide +kernel) (by rw [skind_mk]; decide +kernel)
  obtain ⟨b2, a2, c2, rfl, q0, q1, q4, hc2, hP2, -, -⟩ := flat_at hr hR (by rw [skind_mk]; decide +kernel) (by rw [skind_mk]; decide +kernel)
  simp only [skind_mk, snull_mk, skids_mk] at p0 p1 p4 q0 q1 q4 hc1 hc2 hP1 hP2
  have lt1 := cell_lt p0
  have lt2 := cell_lt q0
  have hmx : mixL xs ys = false := by rwa [mixC_list ⟨#[91, 93, 83, 116, 109, 116]⟩ (.inr rfl)] at hm
  have hbx : xs.length ≤ 100000 ∧ ys.length ≤ 100000 := by have := sizeSs_len xs; have := sizeSs_len ys; omega
  obtain ⟨hbx, hby⟩ := hbx
  have HX := Lib.hid (And.intro hmx (And.intro hl.elems hr.elems))
  have HI := Lib.hid ih
  have HQ := Lib.hid (And.intro hP1 hP2)
  have HB : Hid (bareS (.mk ⟨#[91, 93, 83, 116, 109, 116]⟩ nl' ⟨#[]⟩ 0 ys) = .mk ⟨#[91, 93, 83, 116, 109, 116]⟩ nl' ⟨#[]⟩ 0 ys) := Lib.hid (bareS_none (by decide +kernel))
  have HR := Lib.hid hR
  clear hL hR hl hr hP1 hP2 hm hmx ih
  go_enter Tryz.func95, Tryz.ntmps95
  go_wp2_with fail
  refine (is_node_no p0 (by decide +kernel)).mono ?_
  rintro e w2 ⟨rfl, hE1⟩
  have K2 := Lib.hid hE1
  replace m3 := hE1.keep m3
  replace p0 := hE1.keep p0
  replace q0 := hE1.keep q0
  replace p4 := hE1.keep p4
  replace q4 := hE1.keep q4
  replace lt1 := cell_lt p0
  replace lt2 := cell_lt q0
  clear hE1 p1 q1
  go_wp2_with fail
  go_loopw [229] (fun i wr => ∃ j0 : Nat, i = .int .i64 j0 ∧ j0 ≤ 1 ∧ wr = w2.alloc (.cells #[.string ⟨#[91, 93, 69, 120, 112, 114]⟩, .string ⟨#[91, 93, 83, 116, 109, 116]⟩, .string ⟨#[91, 93, 70, 105, 101, 108, 100]⟩] 9)) (fun i _ => 2 - (intOf i).toNat)
  case atStart => exact ⟨0, rfl, Nat.zero_le _, rfl⟩
  case round =>
    obtain ⟨j0, rfl, hj0, rfl⟩ := hrel
    by_cases h00 : j0 = 0
    · subst h00
      have W5e := Ext.alloc w2 (.cells #[.string ⟨#[91, 93, 69, 120, 112, 114]⟩, .string ⟨#[91, 93, 83, 116, 109, 116]⟩, .string ⟨#[91, 93, 70, 105, 101, 108, 100]⟩] 9)
      replace p0 := W5e.keep p0
      replace q0 := W5e.keep q0
      have lt1' := cell_lt p0
      have lt2' := cell_lt q0
      go_wp2_with fail
      exact ⟨⟨1, by go_num, Nat.le_refl _, by trivial⟩, by simp [intOf]⟩
    · obtain rfl : j0 = 1 := by omega
      clear h00
      have W5e := Ext.alloc w2 (.cells #[.string ⟨#[91, 93, 69, 120, 112, 114]⟩, .string ⟨#[91, 93, 83, 116, 109, 116]⟩, .string ⟨#[91, 93, 70, 105, 101, 108, 100]⟩] 9)
      replace m3 := W5e.keep m3
      replace p0 := W5e.keep p0
      replace q0 := W5e.keep q0
      replace p4 := W5e.keep p4
      replace q4 := W5e.keep q4
      have lt1' := cell_lt p0
      have lt2' := cell_lt q0
      by_cases hlen : xs.length = ys.length
      · have hlen' : ((xs.length : Int) == (ys.length : Int)) = true := by rw [beq_iff_eq]; omega
        go_wp2_with fail
        go_quiet (fail)
        have W6e := Ext.drewN (w2.alloc (.cells #[.string ⟨#[91, 93, 69, 120, 112, 114]⟩, .string ⟨#[91, 93, 83, 116, 109, 116]⟩, .string ⟨#[91, 93, 70, 105, 101, 108, 100]⟩] 9)) nq
        have K6 := Lib.hid (K2.out.trans (W5e.trans W6e))
        replace m3 := W6e.keep m3
        replace p0 := W6e.keep p0
        replace q0 := W6e.keep q0
        replace p4 := W6e.keep p4
        replace q4 := W6e.keep q4
        clear W5e W6e lt1' lt2'
        generalize (w2.alloc (.cells #[.string ⟨#[91, 93, 69, 120, 112, 114]⟩, .string ⟨#[91, 93, 83, 116, 109, 116]⟩, .string ⟨#[91, 93, 70, 105, 101, 108, 100]⟩] 9)).drewN nq = w5 at *
        have lt1' := cell_lt p0
        have lt2' := cell_lt q0
        go_wp2_with fail
        go_loopw [291] (fun i2 w' => ∃ j2 : Nat, i2 = .int .i64 j2 ∧ j2 ≤ xs.length ∧ Ext w5 w' ∧ Hid (eqL (xs.take j2) (ys.take j2) = true)) (fun i2 _ => xs.length - (intOf i2).toNat)
        case atStart => exact ⟨0, rfl, Nat.zero_le _, Ext.refl _, Lib.hid (by simp [eqL])⟩
        case round =>
          obtain ⟨j2, rfl, hj2, hEr2, hT2⟩ := hrel
          replace m3 := hEr2.keep m3
          replace p4 := hEr2.keep p4
          replace q4 := hEr2.keep q4
          replace lt1' := cell_lt p4
          replace lt2' := cell_lt q4
          have K7 := Lib.hid (K6.out.trans hEr2)
          by_cases hlt3 : j2 < xs.length
          · have hlt4 : j2 < ys.length := by omega
            obtain ⟨g1, o1, v1, rfl, -, kc1, kp1⟩ := HQ.out.1.get j2 hlt3
            obtain ⟨z1, rfl⟩ := ptr_shape kp1
            obtain ⟨g2, o2, v2, rfl, -, kc2, kp2⟩ := HQ.out.2.get j2 hlt4
            obtain ⟨z2, rfl⟩ := ptr_shape kp2
            replace kc1 := K7.out.keep kc1
            replace kc2 := K7.out.keep kc2
            have hx3 := HX.out.2.1 _ (List.getElem_mem hlt3)
            have hy3 := HX.out.2.2 _ (List.getElem_mem hlt4)
            have HC2 := Lib.hid (HI.out xs[j2] ys[j2] (by have := sizeS_kid xs j2 hlt3; have := sizeS_kid ys j2 hlt4; have := hs; omega) hx3.1 hy3.1 (leaf_of_other (.inr hx3.2)) (leaf_of_other (.inr hy3.2)) (mixL_no xs ys j2 hlt3 hlt4 HX.out.1))
            have HQ2 := Lib.hid (And.intro (kp1.mono (K7.out.keeps X)) (kp2.mono (K7.out.keeps X)))
            have HM2 := Lib.hid (And.intro (eqL_take xs ys j2 hlt3 hlt4) (eqL_no xs ys j2 hlt3 hlt4))
            clear kp1 kp2 hx3 hy3
            generalize xs[j2] = x2 at *
            generalize ys[j2] = y2 at *
            go_wp2_with fail
            refine (HC2.out X mb _ _ _ m3 HQ2.out.1 HQ2.out.2).mono ?_
            rintro e w7 ⟨⟨q, rfl, hq1⟩, hE7⟩
            have K8 := Lib.hid hE7
            clear hE7 hq1
            cases hb : eqS x2 y2
            · go_wp2_with fail
              go_ret2
              rw [HE.out, HM2.out.2 hb, Bool.and_false]
              exact ⟨⟨_, rfl, fun h => by cases h⟩, K7.out.trans K8.out⟩
            · go_wp2_with fail
              exact ⟨⟨j2 + 1, by go_num, by omega, hEr2.trans K8.out, Lib.hid (by rw [HM2.out.1, hT2.out, hb]; rfl)⟩, by simp [intOf]; omega⟩
          · obtain rfl : j2 = xs.length := by omega
            have hb : Hid ((xs.length == ys.length && eqL xs ys) = true) := Lib.hid (by
              have h1 := hT2.out
              rw [List.take_of_length_le (Nat.le_refl _), List.take_of_length_le (by omega)] at h1
              rw [h1, hlen]; simp)
            go_wp2_with fail
            go_ret2
            rw [HE.out, hb.out]
            exact ⟨⟨_, rfl, fun _ => by rw [HB.out]; exact HR.out.mono (K7.out.keeps X)⟩, K7.out⟩
      · have hlen' : ((xs.length : Int) == (ys.length : Int)) = false := by rw [beq_eq_false_iff_ne]; omega
        have hb : Hid ((xs.length == ys.length && eqL xs ys) = false) := Lib.hid (by rw [beq_eq_false_iff_ne.2 hlen, Bool.false_and])
        go_wp2_with fail
        go_quiet (fail)
        go_wp2_with fail
        go_ret2
        rw [HE.out, hb.out]
        exact ⟨⟨_, rfl, fun h => by cases h⟩, (K2.out.trans W5e).trans (Ext.drewN _ _)⟩
theorem mix_no {k k' : ByteArray} {nl nl' : Bool} {x x' : ByteArray} {n n' : Int} {ks ks' : List Syn} (hw : wrapIx k = none) (hw' : wrapIx k' = none) (h : (lisK k != lisK k') = true) (hm : mixC (.mk k nl x n ks) (.mk k' nl' x' n' ks') = false) : False := by
  rw [mixC_none hw, bareS_none hw', skind_mk, if_pos h] at hm
  cases hm
/-- Every two parts that are right are compared. -/
theorem cmp_all : ∀ N, N ≤ 100000 → CmpIH N := by
  intro N
  induction N with
  | zero => intro _ l r h; omega
  | succ N ih =>
    intro hN l r hs hl hr hll hlr hm
    have ih := ih (by omega)
    cases hw : wrapIx l.kind with
    | some i =>
      refine cmp_left hl.form hw (fun hi => ?_)
      obtain ⟨k, ks, rfl, hk, hi', hrk, hlf⟩ := hl.form.wrap hw
      rw [skind_mk] at hw
      rw [mixC_wrap hw hi'] at hm
      rw [sizeS_mk] at hs
      have := sizeS_kid ks i hi'
      exact ih _ _ (by simp only [skids_mk]; omega) hrk hr hlf hlr hm
    | none =>
      cases hw2 : wrapIx r.kind with
      | some i =>
        refine cmp_right hl.form hll hw hr.form hw2 (fun hi => ?_)
        obtain ⟨k, ks, rfl, hk, hi', hrk, hlf⟩ := hr.form.wrap hw2
        rw [skind_mk] at hw2
        rw [mixC_bare hw (bareS_wrap hw2 hi')] at hm
        rw [sizeS_mk] at hs
        have := sizeS_kid ks i hi'
        exact ih _ _ (by simp only [skids_mk]; omega) hl hrk hll hlf hm
      | none =>
        have hlk : ∀ k ∈ expressions ++ statements, lisK k = false := by decide +kernel
        have h00 : (⟨#[]⟩ : ByteArray).toList = [] := by decide +kernel
        have fl := hl.form
        have fr := hr.form
        have hne : ∀ {k : ByteArray}, k ∈ expressions ++ statements → (k.toList == ([] : List UInt8)) = false := fun h => beq_eq_false_iff_ne.2 (node_ne _ h)
        cases fl with
        | leaf k x n h => rw [skind_mk] at hll; exact absurd hll (by rcases h with ⟨rfl | rfl, -⟩ | ⟨rfl, -⟩ <;> decide +kernel)
        | nothing =>
          cases fr with
          | leaf k x n h => rw [skind_mk] at hlr; exact absurd hlr (by rcases h with ⟨rfl | rfl, -⟩ | ⟨rfl, -⟩ <;> decide +kernel)
          | nothing => exact cmp_nothing hl.form hr.form hll hlr hw hw2 (.inl (by decide +kernel)) (by decide +kernel)
          | list k nl ks hk => exact (mix_no hw hw2 (by simp only [skind_mk]; rcases hk with rfl | rfl <;> decide +kernel) hm).elim
          | node k ks hk h1 h2 =>
            refine cmp_nothing hl.form hr.form hll hlr hw hw2 (.inl (by decide +kernel)) ?_
            rw [skind_mk] at hw2
            rw [eqS_none (by decide +kernel), bareS_none hw2, skind_mk, skind_mk]
            have e : ((⟨#[]⟩ : ByteArray).toList == k.toList) = false := by
              have := hne hk
              rw [h00]
              rw [beq_eq_false_iff_ne] at this ⊢
              exact fun e => this e.symm
            rw [e]
            simp
        | list k nl ks hk hnl hel =>
          cases fr with
          | leaf k x n h => rw [skind_mk] at hlr; exact absurd hlr (by rcases h with ⟨rfl | rfl, -⟩ | ⟨rfl, -⟩ <;> decide +kernel)
          | nothing => exact (mix_no hw hw2 (by simp only [skind_mk]; rcases hk with rfl | rfl <;> decide +kernel) hm).elim
          | node k' ks' hk' h1 h2 => exact (mix_no hw hw2 (by simp only [skind_mk]; rw [hlk k' hk']; rcases hk with rfl | rfl <;> decide +kernel) hm).elim
          | list k' nl' ks' hk' hnl' hel' =>
            rw [sizeS_mk, sizeS_mk] at hs
            rcases hk with rfl | rfl <;> rcases hk' with rfl | rfl
            · exact cmp_exprs (by omega) ih hl.form hr.form (by omega) hm
            · exact cmp_mixed (.inl ⟨rfl, rfl⟩) hl.form hr.form
            · exact cmp_mixed (.inr ⟨rfl, rfl⟩) hl.form hr.form
            · exact cmp_stmts (by omega) ih hl.form hr.form (by omega) hm
        | node k ks hk h1 h2 =>
          cases fr with
          | leaf k x n h => rw [skind_mk] at hlr; exact absurd hlr (by rcases h with ⟨rfl | rfl, -⟩ | ⟨rfl, -⟩ <;> decide +kernel)
          | nothing =>
            refine cmp_nothing hl.form hr.form hll hlr hw hw2 (.inr (by decide +kernel)) ?_
            rw [skind_mk] at hw
            rw [eqS_none hw, bareS_none (by decide +kernel), skind_mk, skind_mk]
            have e : (k.toList == (⟨#[]⟩ : ByteArray).toList) = false := by rw [h00]; exact hne hk
            rw [e]
            simp
          | list k' nl' ks' hk' => exact (mix_no hw hw2 (by simp only [skind_mk]; rw [hlk k hk]; rcases hk' with rfl | rfl <;> decide +kernel) hm).elim
          | node k' ks' hk' h1' h2' =>
            rw [sizeS_mk, sizeS_mk] at hs
            rw [skind_mk] at hw hw2
            exact cmp_nodes (by omega) ih hl.form hr.form hk hk' hw hw2 (by omega) hm
end Go.Proofs.YtigalkobmfbdaaaGreatDoor
