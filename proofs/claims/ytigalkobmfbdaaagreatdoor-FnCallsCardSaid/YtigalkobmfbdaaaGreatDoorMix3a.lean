/- The plain law of FnCalls: the two forms of a symbol. -/
import Derived.Test.YtigalkobmfbdaaaGreatDoorImp3
set_option linter.unusedVariables false
set_option linter.unusedSimpArgs false
namespace Go.Proofs.YtigalkobmfbdaaaGreatDoor
open Go.RowKit Go.WideMaps Go.Sort
theorem app_list (a b : ByteArray) : (a ++ b).toList = a.toList ++ b.toList := by
  simp only [ByteArray.toList_eq]; simp
theorem not_in {s : ByteArray} {f : UInt8 → Bool} (h : s.toList.all f = true) {c : UInt8} (hc : f c = false) : c ∉ s.toList := fun hm => by
  rw [List.all_eq_true.1 h c hm] at hc; cases hc
theorem symI_func {p i : ByteArray} (hp : PathOK p) (hi : TitleOK i) : SymI ((p ++ ⟨#[46]⟩) ++ i) p ⟨#[]⟩ i := fun w => by
  have hl : ((p ++ ⟨#[46]⟩) ++ i).toList = p.toList ++ 46 :: i.toList := by rw [app_list, app_list, toList_mk]; simp
  have hz : ((p ++ ⟨#[46]⟩) ++ i).size = p.size + 1 + i.size := by rw [← size_toList, hl, List.length_append, List.length_cons, size_toList, size_toList]; omega
  refine sym_func hl (fun h e => ?_) (not_in hi.1 (by decide)) (by have := hp.2.2.1; have := hi.2.2; omega) w
  have h0 : 0 < p.size := hp.2.1
  have hb := hp.2.2.2 h0
  rw [← get_toList _ 0 h] at e
  have e2 : p[0] = 40 := by
    rw [← get_toList p 0 h0, ← e]
    simp only [hl]
    rw [List.getElem_append_left]
  rw [e2] at hb
  exact absurd hb (by decide)
theorem symI_method {p t i : ByteArray} (hp : PathOK p) (ht : TitleOK t) (hi : TitleOK i) : SymI (((((⟨#[40]⟩ ++ p) ++ ⟨#[46]⟩) ++ t) ++ ⟨#[41, 46]⟩) ++ i) p t i := fun w => by
  have hl : (((((⟨#[40]⟩ ++ p) ++ ⟨#[46]⟩) ++ t) ++ ⟨#[41, 46]⟩) ++ i : ByteArray).toList = 40 :: (p.toList ++ 46 :: (t.toList ++ 41 :: 46 :: i.toList)) := by
    simp only [app_list, toList_mk]; simp
  have hz : (((((⟨#[40]⟩ ++ p) ++ ⟨#[46]⟩) ++ t) ++ ⟨#[41, 46]⟩) ++ i : ByteArray).size = p.size + t.size + i.size + 4 := by
    rw [← size_toList, hl]; simp [size_toList]; omega
  have h0 : 0 < p.size := hp.2.1
  have hb := hp.2.2.2 h0
  cases hpl : p.toList with
  | nil => have := size_toList p; rw [hpl] at this; simp at this; omega
  | cons c0 pl =>
    have e2 : p[0] = c0 := by
      rw [← get_toList p 0 h0]
      simp only [hpl, List.getElem_cons_zero]
    rw [e2] at hb
    refine sym_method hl hpl (fun e => ?_) (not_in hp.1 (by decide)) (not_in ht.1 (by decide)) (not_in ht.1 (by decide)) (by have := hp.2.2.1; have := ht.2.2; have := hi.2.2; omega) (by rw [size_toList]; exact hi.2.1) w
    rw [e] at hb
    exact absurd hb (by decide)
theorem text_callT (x : ByteArray) (q : Tree) : text 0 (callT x q) = (((⟨#[40, 67, 97, 108, 108, 69, 120, 112, 114, 32, 40, 83, 121, 109, 98, 111, 108, 32, 34]⟩ ++ x) ++ ⟨#[34, 41, 32]⟩) ++ text 0 q) ++ ⟨#[41]⟩ := by
  have hg : gapOf 0 = ⟨#[32]⟩ := by decide +kernel
  apply toList_inj
  rw [text_mk]
  simp only [toList_mk]
  simp (decide := true) only [↓reduceIte]
  simp only [textAll, hg]
  rw [text_mk]
  simp only [toList_mk]
  simp (decide := true) only [↓reduceIte]
  simp only [textAll, hg]
  rw [text_mk]
  simp only [toList_mk]
  simp (decide := true) only [↓reduceIte]
  simp only [app_list, toList_mk]
  simp
theorem strB_app {a b : List UInt8} (ha : strB a = true) (hb : strB b = true) : strB (a ++ b) = true := by
  unfold strB at *; rw [List.all_append, ha, hb]; rfl
theorem strB_of {f : UInt8 → Bool} (hf : ∀ c, f c = true → (c != 34 && c != 92 && decide (c.toNat < 128)) = true) {s : ByteArray} (h : s.toList.all f = true) : strB s.toList = true := by
  unfold strB
  rw [List.all_eq_true] at *
  exact fun c hc => hf c (h c hc)
theorem byte_ok {c : UInt8} (h1 : c ≠ 34) (h2 : c ≠ 92) (h3 : c.toNat < 128) : (c != 34 && c != 92 && decide (c.toNat < 128)) = true := by
  rw [decide_eq_true h3, bne_iff_ne.2 h1, bne_iff_ne.2 h2]; rfl
theorem title_str {s : ByteArray} (h : TitleOK s) : strB s.toList = true := strB_of (f := capLowB) (fun c hc => byte_ok (fun e => by rw [e] at hc; exact absurd hc (by decide)) (fun e => by rw [e] at hc; exact absurd hc (by decide)) (by
  simp only [capLowB, Bool.or_eq_true, Bool.and_eq_true, decide_eq_true_eq, UInt8.le_iff_toNat_le] at hc
  have a1 : (122 : UInt8).toNat = 122 := rfl
  have a2 : (90 : UInt8).toNat = 90 := rfl
  omega)) h.1
theorem path_str {s : ByteArray} (h : PathOK s) : strB s.toList = true := strB_of (f := pathB) (fun c hc => byte_ok (fun e => by rw [e] at hc; exact absurd hc (by decide)) (fun e => by rw [e] at hc; exact absurd hc (by decide)) (by
  have h47 : (47 : UInt8).toNat = 47 := rfl
  have a1 : (122 : UInt8).toNat = 122 := rfl
  simp only [pathB, nameB, Bool.or_eq_true, Bool.and_eq_true, decide_eq_true_eq, beq_iff_eq, UInt8.le_iff_toNat_le] at hc
  rcases hc with hc | hc
  · omega
  · subst hc; decide)) h.1
theorem strB_func {p i : ByteArray} (hp : PathOK p) (hi : TitleOK i) : strB ((p ++ ⟨#[46]⟩) ++ i).toList = true := by
  rw [app_list, app_list]
  exact strB_app (strB_app (path_str hp) (by rw [toList_mk]; decide)) (title_str hi)
theorem strB_method {p t i : ByteArray} (hp : PathOK p) (ht : TitleOK t) (hi : TitleOK i) : strB (((((⟨#[40]⟩ ++ p) ++ ⟨#[46]⟩) ++ t) ++ ⟨#[41, 46]⟩) ++ i : ByteArray).toList = true := by
  simp only [app_list]
  exact strB_app (strB_app (strB_app (strB_app (strB_app (by rw [toList_mk]; decide) (path_str hp)) (by rw [toList_mk]; decide)) (title_str ht)) (by rw [toList_mk]; decide)) (title_str hi)
end Go.Proofs.YtigalkobmfbdaaaGreatDoor
/- needs: a symbol is what is needed. -/
set_option linter.unusedVariables false
set_option linter.unusedSimpArgs false
namespace Go.Proofs.YtigalkobmfbdaaaGreatDoor
open Go.RowKit Go.WideMaps Go.Sort
theorem same_bytes (s : ByteArray) : (s.toList == s.toList) = true := beq_self_eq_true _
set_option maxRecDepth 100000 in
set_option maxHeartbeats 4000000 in
theorem needs_yes (p t i : ByteArray) (a : Option Addr) (c : Nat) (w : World) {X : Nat → Prop} (hT : TreeIn X w a c (idxT p t i)) :
    Calls Tryz.prog 25 #[treeV (idxT p t i) a c, .string p, .string t, .string i] w fun e w' => e = .returned (.bool true) ∧ Ext w w' := by
  obtain ⟨-, hc, hK⟩ := hT
  obtain ⟨b, o, a1, c1, rfl, -, k1, x1, r1, -, hK⟩ := hK
  obtain ⟨b2, o2, a2, c2, e2, -, k2, x2, r2, -, hK⟩ := hK
  obtain ⟨rfl, rfl⟩ : b = b2 ∧ o + 3 = o2 := by simpa using e2
  obtain ⟨b3, o3, a3, c3, e3, -, k3, x3, r3, -, -⟩ := hK
  obtain ⟨rfl, rfl⟩ : b = b3 ∧ o + 3 + 3 = o3 := by simpa using e3
  have hbl := cell_lt x1
  simp only at hbl
  have s0 : ((idxT p t i).kind.toList == [73, 110, 100, 101, 120, 83, 121, 109, 98, 111, 108]) = true := by simp only [kind_mk, toList_mk]; decide
  have s1 := same_bytes p
  have s2 := same_bytes t
  have s3 := same_bytes i
  go_enter Tryz.func25, Tryz.ntmps25
  go_wp2_with fail
  go_ret
  exact ⟨ret_bool s3, Ext.alloc _ _⟩
end Go.Proofs.YtigalkobmfbdaaaGreatDoor
/- The law FnCalls, walked: it answers true of every three texts and every tree. -/
set_option linter.unusedVariables false
set_option linter.unusedSimpArgs false
namespace Go.Proofs.YtigalkobmfbdaaaGreatDoor
open Go.RowKit Go.WideMaps Go.Sort
/-- What a method's type may be: none, or a name. -/
def OfOK (s : ByteArray) : Prop := s = ⟨#[]⟩ ∨ TitleOK s
def symOf (p t i : ByteArray) : ByteArray := if t.toList == [] then (p ++ ⟨#[46]⟩) ++ i else ((((⟨#[40]⟩ ++ p) ++ ⟨#[46]⟩) ++ t) ++ ⟨#[41, 46]⟩) ++ i
theorem TitleOK.ne {s : ByteArray} (h : TitleOK s) : (s.toList == []) = false := by
  cases e : (s.toList == []) with
  | false => rfl
  | true =>
    have h1 := size_toList s
    rw [eq_of_beq e] at h1
    have := h.2.1
    simp at h1
    omega
theorem symOf_facts {p t i : ByteArray} (hp : PathOK p) (ht : OfOK t) (hi : TitleOK i) : SymI (symOf p t i) p t i ∧ strB (symOf p t i).toList = true ∧ (symOf p t i).size ≤ 48 ∧ t.size ≤ 48 := by
  have h1 := hp.2.2.1
  have h2 := hi.2.2
  rcases ht with rfl | ht
  · have e : symOf p ⟨#[]⟩ i = (p ++ ⟨#[46]⟩) ++ i := by unfold symOf; rw [toList_mk]; rfl
    rw [e]
    refine ⟨symI_func hp hi, strB_func hp hi, ?_, by decide⟩
    have l1 : (ByteArray.mk #[46]).size = 1 := rfl
    rw [app_size, app_size, l1]; omega
  · have e : symOf p t i = ((((⟨#[40]⟩ ++ p) ++ ⟨#[46]⟩) ++ t) ++ ⟨#[41, 46]⟩) ++ i := by unfold symOf; rw [ht.ne]; rfl
    rw [e]
    have h3 := ht.2.2
    refine ⟨symI_method hp ht hi, strB_method hp ht hi, ?_, by omega⟩
    have l1 : (ByteArray.mk #[46]).size = 1 := rfl
    have l2 : (ByteArray.mk #[40]).size = 1 := rfl
    have l3 : (ByteArray.mk #[41, 46]).size = 2 := rfl
    simp only [app_size, l1, l2, l3]; omega
/-- Texts of threes are compared. -/
theorem eq37d (d : Nat) (a b c : ByteArray) (w : World) : (Op.equalIn (d + 1 + 1) 37 (.agg #[.string a, .string b, .string c]) (.agg #[.string a, .string b, .string c])).run Tryz.prog w = .ok true w := by
  have u37 : Tryz.prog.underlying 37 = some (.array 3 9) := by kernel_rfl
  have u9 : Tryz.prog.underlying 9 = some .string := by kernel_rfl
  have e : ∀ (d : Nat) (x : ByteArray) (w : World), (Op.equalIn (d + 1) 9 (.string x) (.string x)).run Tryz.prog w = .ok true w := fun d x w => by
    rw [run_equalIn_string w d 9 x x u9, beq_self_eq_true]
  have p0 : ∀ w, (part 9 #[.string a, .string b, .string c] 0).run Tryz.prog w = .ok (.string a) w := fun w => by kernel_rfl
  have p1 : ∀ w, (part 9 #[.string a, .string b, .string c] 1).run Tryz.prog w = .ok (.string b) w := fun w => by kernel_rfl
  have p2 : ∀ w, (part 9 #[.string a, .string b, .string c] 2).run Tryz.prog w = .ok (.string c) w := fun w => by kernel_rfl
  have s9 : ∀ w, (sizeOf 9).run Tryz.prog w = .ok 1 w := fun w => by kernel_rfl
  rw [Op.equalIn]
  simp only [Sem.run_bind, run_underlying u37, Result.andThen_ok, run_program]
  simp only [s9, Result.andThen_ok, Std.Legacy.Range.forIn_eq_forIn_range', Std.Legacy.Range.size]
  simp only [show List.range' 0 ((3 - 0 + 1 - 1) / 1) 1 = [0, 1, 2] from rfl, List.forIn_cons, List.forIn_nil, Sem.run_bind, Nat.zero_mul, Nat.mul_one, p0, p1, p2, e, Result.andThen_ok, Bool.not_true, Bool.false_eq_true, if_false, Sem.run_pure]
theorem eq37 (a b c : ByteArray) (w : World) : (Op.equalIn 10000 37 (.agg #[.string a, .string b, .string c]) (.agg #[.string a, .string b, .string c])).run Tryz.prog w = .ok true w := eq37d 9998 a b c w
set_option maxRecDepth 100000 in
set_option maxHeartbeats 4000000 in
theorem calls_law (s0 s1 s2 : ByteArray) (t : Tree) (a : Option Addr) (c : Nat) (w : World) (hs0 : s0.size ≤ 140737488351232) (hs1 : s1.size ≤ 140737488351232) (hs2 : s2.size ≤ 140737488351232) (hA : TreeAt w a c t) (hT : TabAt w) :
    Calls Tryz.prog 3 #[.string s0, .string s1, .string s2, treeV t a c] w fun e w' => e = .returned (.bool true) ∧ Ext w w' := by
  have HA := Lib.hid (And.intro hA hT)
  have hB := Blk.new w #[.string t.kind, .string t.text, .slice a t.kids.length c] 24
  have KB := Lib.hid hB
  clear hA hT hB
  by_cases hb0 : 2147483647 < s0.size
  · have hb' : (2147483647 : Int) < (s0.size : Int) := by omega
    go_enter Tryz.func3, Tryz.ntmps3
    go_wp2_with fail
    go_ret
    exact ⟨rfl, Ext.alloc _ _⟩
  have hb0' : ¬ (2147483647 : Int) < (s0.size : Int) := by omega
  by_cases hb1 : 2147483647 < s1.size
  · have hb' : (2147483647 : Int) < (s1.size : Int) := by omega
    go_enter Tryz.func3, Tryz.ntmps3
    go_wp2_with fail
    go_ret
    exact ⟨rfl, Ext.alloc _ _⟩
  have hb1' : ¬ (2147483647 : Int) < (s1.size : Int) := by omega
  by_cases hb2 : 2147483647 < s2.size
  · have hb' : (2147483647 : Int) < (s2.size : Int) := by omega
    go_enter Tryz.func3, Tryz.ntmps3
    go_wp2_with fail
    go_ret
    exact ⟨rfl, Ext.alloc _ _⟩
  have hb2' : ¬ (2147483647 : Int) < (s2.size : Int) := by omega
  go_enter Tryz.func3, Tryz.ntmps3
  go_wp2_with fail
  refine (fitsT_calls t a c _ (HA.out.1.mono (box_ext w t a c))).mono ?_
  rintro e w1 ⟨rfl, hE1⟩
  have HE1 := Lib.hid ((box_ext w t a c).trans hE1)
  have fb := (KB.out.ext hE1).frozen
  have lb := (KB.out.ext hE1).lt
  have cb := Blk3 (KB.out.ext hE1)
  have KB1 := Lib.hid (KB.out.ext hE1)
  clear hE1
  cases hf : fitsT t
  · go_wp2_with fail
    go_ret
    exact ⟨rfl, HE1.out⟩
  clear hf
  go_wp2_with fail
  refine (nodesOf_calls t a c _ (HA.out.1.mono HE1.out)).mono ?_
  rintro e w2 ⟨rfl, hE2⟩
  have HE2 := Lib.hid (HE1.out.trans hE2)
  have fb2 := (KB1.out.ext hE2).frozen
  have lb2 := (KB1.out.ext hE2).lt
  have cb2 := Blk3 (KB1.out.ext hE2)
  have KB2 := Lib.hid (KB1.out.ext hE2)
  clear hE2 fb lb cb
  have HN : Hid (∀ m, (nodesOf t).1 ≤ m → m < 1000 → (count t : Int) ≤ m) := Lib.hid fun m h1 h2 => count_of_nodes h1 h2
  generalize nodesOf t = pq at *
  obtain ⟨n, d⟩ := pq
  simp only at HN ⊢
  go_wp2_with fail
  refine (path_calls s0 hs0 _).mono ?_
  rintro e wx ⟨⟨b, rfl, hp⟩, rfl⟩
  cases b
  · go_wp2_with fail
    go_ret
    exact ⟨rfl, HE2.out⟩
  have HP := Lib.hid (hp rfl)
  clear hp
  go_wp2_with fail
  refine (title_calls s2 hs2 _).mono ?_
  rintro e wx ⟨⟨b, rfl, hp⟩, rfl⟩
  cases b
  · go_wp2_with fail
    go_ret
    exact ⟨rfl, HE2.out⟩
  have HI := Lib.hid (hp rfl)
  clear hp
  cases ho : (s1.toList == [])
  case' true =>
    obtain rfl : s1 = ⟨#[]⟩ := toList_inj ((eq_of_beq ho).trans (toList_mk []).symm)
    have HO : Hid (OfOK ⟨#[]⟩) := Lib.hid (.inl rfl)
    have HS : Hid (symOf s0 ⟨#[]⟩ s2 = (s0 ++ ⟨#[46]⟩) ++ s2) := Lib.hid (by unfold symOf; rw [toList_mk]; rfl)
    clear ho
  case' false =>
    have HS : Hid (symOf s0 s1 s2 = ((((⟨#[40]⟩ ++ s0) ++ ⟨#[46]⟩) ++ s1) ++ ⟨#[41, 46]⟩) ++ s2) := Lib.hid (by unfold symOf; rw [ho]; rfl)
    go_wp2_with fail
    refine (title_calls s1 hs1 _).mono ?_
    rintro e wx ⟨⟨b, rfl, hp⟩, rfl⟩
    cases b
    · go_wp2_with fail
      go_ret
      exact ⟨rfl, HE2.out⟩
    have HO : Hid (OfOK s1) := Lib.hid (.inr (hp rfl))
    clear hp
  all_goals
    by_cases z3 : (40 : Int) < n
    · go_wp2_with fail
      go_ret
      exact ⟨rfl, HE2.out⟩
    by_cases z4 : (10 : Int) < d
    · go_wp2_with fail
      go_ret
      exact ⟨rfl, HE2.out⟩
    have hct := HN.out 40 (by omega) (by omega)
    go_wp2_with fail
    refine (good_calls t 108 a c _ (HA.out.1.mono HE2.out)).mono ?_
    rintro e w3 ⟨rfl, hE3⟩
    have HE3 := Lib.hid (HE2.out.trans hE3)
    have fb3 := (KB2.out.ext hE3).frozen
    have lb3 := (KB2.out.ext hE3).lt
    have cb3 := Blk3 (KB2.out.ext hE3)
    have KB3 := Lib.hid (KB2.out.ext hE3)
    clear hE3 fb2 lb2 cb2
    cases hg : good t 108
    · go_wp2_with fail
      go_ret
      exact ⟨rfl, HE3.out⟩
    have HG := Lib.hid hg
    have htm := good_tame t 108 hg
    have HM := Lib.hid htm
    clear hg htm
    go_wp2_with fail
    refine (text_calls t 0 HM.out (by omega) a c _ (HA.out.1.mono HE3.out)).mono ?_
    rintro e w4 ⟨rfl, hE4⟩
    have HE4 := Lib.hid (HE3.out.trans hE4)
    have fb4 := (KB3.out.ext hE4).frozen
    have lb4 := (KB3.out.ext hE4).lt
    have cb4 := Blk3 (KB3.out.ext hE4)
    have KB4 := Lib.hid (KB3.out.ext hE4)
    clear hE4 fb3 lb3 cb3
    by_cases z5 : 600 < (text 0 t).size
    · have z5' : (600 : Int) < ((text 0 t).size : Int) := by omega
      go_wp2_with fail
      go_ret
      exact ⟨rfl, HE4.out⟩
    have HF := Lib.hid (symOf_facts HP.out HO.out HI.out)
    go_wp2_with fail
    refine (text_calls t 0 HM.out (by omega) a c _ (HA.out.1.mono HE4.out)).mono ?_
    rintro e w5 ⟨rfl, hE5⟩
    have HE5 := Lib.hid (HE4.out.trans hE5)
    clear hE5 fb4 lb4 cb4
    go_wp2_with fail
    rw [← HS.out, ← text_callT]
    refine (parse_callT (c := 108) HF.out.1 HF.out.2.1 HF.out.2.2.1 (by have := HP.out.2.2.1; omega) HF.out.2.2.2 (by have := HI.out.2.2; omega) HG.out (by omega) (by
      have h1 := HF.out.2.2.1
      have l1 : (ByteArray.mk #[40, 67, 97, 108, 108, 69, 120, 112, 114, 32, 40, 83, 121, 109, 98, 111, 108, 32, 34]).size = 19 := rfl
      have l2 : (ByteArray.mk #[34, 41, 32]).size = 3 := rfl
      have l3 : (ByteArray.mk #[41]).size = 1 := rfl
      rw [text_callT]
      simp only [app_size, l1, l2, l3]
      omega) (HA.out.2.toExt HE5.out)).mono ?_
    rintro e w6 ⟨⟨a1, c1, a2, c2, a3, c3, a4, c4, a5, c5, rfl, -, q2, q3, q4, -⟩, hE6⟩
    obtain ⟨bI, oI, rfl, y1, y2, y3⟩ := q4 0 (Nat.zero_lt_one)
    obtain ⟨bE, oE, rfl, y4⟩ := q2 0 (Nat.zero_lt_one)
    simp only [Nat.zero_mul, Nat.add_zero, List.getElem_cons_zero] at y1 y2 y3 y4
    simp only [List.length_cons, List.length_nil, Nat.zero_add]
    have HX := Lib.hid (And.intro (HE5.out.trans hE6) q3)
    clear hE6 q2 q3 q4
    have x1 : ∀ o, (w6.alloc o).cell? ⟨bI, oI, none⟩ = some (.string s0) := fun o => (Ext.alloc w6 o).keep y1
    have x2 : ∀ o, (w6.alloc o).cell? ⟨bI, oI + 1, none⟩ = some (.string _) := fun o => (Ext.alloc w6 o).keep y2
    have x3 : ∀ o, (w6.alloc o).cell? ⟨bI, oI + 2, none⟩ = some (.string s2) := fun o => (Ext.alloc w6 o).keep y3
    have x4 : ∀ o, (w6.alloc o).cell? ⟨bE, oE, none⟩ = some (.string ⟨#[67, 97, 108, 108, 69, 120, 112, 114]⟩) := fun o => (Ext.alloc w6 o).keep y4
    clear y1 y2 y3 y4
    first
      | have EQ := fun w => eq37 s0 s1 s2 w
      | have EQ := fun w => eq37 s0 ⟨#[]⟩ s2 w
    go_wp2_with fail
    refine (needs_yes s0 _ s2 a3 c3 _ (HX.out.2.mono (Ext.alloc _ _))).mono ?_
    rintro e w7 ⟨rfl, hE7⟩
    have HY := Lib.hid ((HX.out.1.trans (Ext.alloc _ _)).trans hE7)
    clear hE7
    go_wp2_with fail
    go_ret
    exact ⟨rfl, HY.out⟩
end Go.Proofs.YtigalkobmfbdaaaGreatDoor
