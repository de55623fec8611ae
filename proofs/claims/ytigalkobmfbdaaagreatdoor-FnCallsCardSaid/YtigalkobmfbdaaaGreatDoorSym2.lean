/- What a symbol's name stands for: symbolToIndexSymbol. -/
import Derived.Test.YtigalkobmfbdaaaGreatDoorIdx1
import Derived.Test.YtigalkobmfbdaaaGreatDoorPar
import Derived.Test.YtigalkobmfbdaaaGreatDoorShelf
set_option linter.unusedVariables false
set_option linter.unusedSimpArgs false
namespace Go.Proofs.YtigalkobmfbdaaaGreatDoor
open Go.RowKit
theorem extract_list (s : ByteArray) (i j : Nat) : (s.extract i j).toList = (s.toList.drop i).take (j - i) := by
  simp only [ByteArray.toList_eq]
  rw [ByteArray.data_extract, Array.toList_extract, List.extract_eq_take_drop]
theorem extract_left {s p : ByteArray} {v : List UInt8} (h : s.toList = p.toList ++ v) : s.extract 0 p.toList.length = p := by
  apply toList_inj
  rw [extract_list, h]; simp
theorem extract_right {s i : ByteArray} {u : List UInt8} {n : Nat} (h : s.toList = u ++ i.toList) (hn : u.length = n) : s.extract n s.size = i := by
  apply toList_inj
  have hz : s.size = u.length + i.toList.length := by rw [← size_toList, h, List.length_append]
  rw [extract_list, h, ← hn, hz]; simp
theorem row87 : (Tryz.prog.underlying 87).map (fun d => match d with | .struct _ | .array _ _ => true | _ => false) = some true := by kernel_rfl
theorem size87 : (Tryz.prog.info? 87).map (·.size) = some 3 := by kernel_rfl
set_option maxRecDepth 100000 in
set_option maxHeartbeats 1000000 in
theorem sym_func {s p i : ByteArray} (hs : s.toList = p.toList ++ 46 :: i.toList) (h0 : ∀ h : 0 < s.size, s[0] ≠ 40) (hi : 46 ∉ i.toList) (hz : s.size ≤ 1000) (w : World) :
    Calls Tryz.prog 118 #[.string s] w fun e w' => e = .returned (.agg #[.string p, .string ⟨#[]⟩, .string i]) ∧ Ext w w' := by
  have hlen : s.size = p.toList.length + (i.toList.length + 1) := by rw [← size_toList, hs]; simp
  have hpos : 0 < s.size := by omega
  have t0 : (((s.size : Nat) : Int) == 0) = false := beq_eq_false_iff_ne.2 (by omega)
  have t1 : ((s[0].toNat : Int) == 40) = false := beq_eq_false_iff_ne.2 (fun e => h0 hpos (by rw [← UInt8.toNat_inj]; show s[0].toNat = 40; omega))
  have t2 : (((p.toList.length : Nat) : Int) == -1) = false := beq_eq_false_iff_ne.2 (by omega)
  have E1 := extract_left hs
  have E2 : s.extract (p.toList.length + 1) s.size = i := extract_right (u := p.toList ++ [46]) (by rw [hs]; simp) (by simp)
  rw [hlen] at E2
  have H := Lib.hid (And.intro hs (And.intro hi (And.intro E1 E2)))
  have HB := Lib.hid (Blk.new w #[.string ⟨#[]⟩, .string ⟨#[]⟩, .string ⟨#[]⟩] 87)
  have hp : p.toList.length + 1 ≤ s.size := by omega
  clear hs hi h0 E1 E2
  go_enter Tryz.func118, Tryz.ntmps118
  go_wp2_with fail
  refine (lastIndex_calls H.out.1 H.out.2.1 (by omega) _).mono ?_
  rintro e w1 ⟨rfl, rfl⟩
  go_wp2_with fail
  refine bodyPost_ret (results_c rfl _ _ w.heap.size 87 #[.string (s.extract 0 p.toList.length), .string ⟨#[]⟩, .string (s.extract (p.toList.length + 1) (p.toList.length + (i.toList.length + 1)))] rfl (Blk.new _ _ _) row87 size87) rfl ?_
  exact ⟨by rw [H.out.2.2.1, H.out.2.2.2], Ext.alloc _ _⟩
theorem trim_other {s : ByteArray} {c d : UInt8} {l : List UInt8} (h : s.toList = c :: l) (hc : c ≠ d) : (⟨(Lib.trimPrefix s.data.toList (⟨#[d]⟩ : ByteArray).data.toList).toArray⟩ : ByteArray) = s := by
  have e : s.data.toList = c :: l := by rw [← h, ByteArray.toList_eq]
  apply toList_inj
  rw [toList_mk, h]
  unfold Lib.trimPrefix
  rw [e]
  rw [if_neg]
  simp [Lib.hasPrefix, hc, Ne.symm hc]
set_option maxRecDepth 100000 in
set_option maxHeartbeats 1000000 in
theorem sym_method {s p t i : ByteArray} {c0 : UInt8} {pl : List UInt8} (hs : s.toList = 40 :: (p.toList ++ 46 :: (t.toList ++ 41 :: 46 :: i.toList))) (hp0 : p.toList = c0 :: pl) (hc0 : c0 ≠ 42) (hp : 41 ∉ p.toList) (ht : 41 ∉ t.toList) (ht2 : 46 ∉ t.toList) (hz : s.size ≤ 1000) (hi1 : 1 ≤ i.toList.length) (w : World) :
    Calls Tryz.prog 118 #[.string s] w fun e w' => e = .returned (.agg #[.string p, .string t, .string i]) ∧ Ext w w' := by
  have hlen : s.size = p.toList.length + t.toList.length + i.toList.length + 4 := by rw [← size_toList, hs]; simp; omega
  have hpos : 0 < s.size := by omega
  have t0 : (((s.size : Nat) : Int) == 0) = false := beq_eq_false_iff_ne.2 (by omega)
  have g0 : s[0] = 40 := by rw [← get_toList s 0 hpos]; simp [hs]
  have t1 : ((s[0].toNat : Int) == 40) = true := by rw [g0]; rfl
  have hsz1 : (40 :: (p.toList ++ 46 :: t.toList)).length = p.toList.length + t.toList.length + 2 := by simp; omega
  have hs1 : s.toList = (40 :: (p.toList ++ 46 :: t.toList)) ++ 41 :: (46 :: i.toList) := by rw [hs]; simp
  have hn1 : 41 ∉ (40 :: (p.toList ++ 46 :: t.toList)) := by simp [hp, ht]
  have t2 : ((((40 :: (p.toList ++ 46 :: t.toList)).length : Nat) : Int) == -1) = false := beq_eq_false_iff_ne.2 (by omega)
  have e1 : (s.extract 1 (40 :: (p.toList ++ 46 :: t.toList)).length).toList = p.toList ++ 46 :: t.toList := by
    rw [extract_list, hs, hsz1]
    have hl : p.toList.length + t.toList.length + 2 - 1 = (p.toList ++ 46 :: t.toList).length := by simp; omega
    rw [List.drop_one, List.tail_cons, hl]
    have : p.toList ++ 46 :: (t.toList ++ 41 :: 46 :: i.toList) = (p.toList ++ 46 :: t.toList) ++ (41 :: 46 :: i.toList) := by simp
    rw [this, List.take_left]
  have H := Lib.hid (And.intro hs1 (And.intro hn1 (And.intro e1 (And.intro ht2 hp0))))
  have HL := Lib.hid (And.intro hlen hsz1)
  have hlt : (40 :: (p.toList ++ 46 :: t.toList)).length + 2 ≤ s.size := by omega
  have hen : 1 ≤ (40 :: (p.toList ++ 46 :: t.toList)).length := by simp
  have hI : s.extract ((40 :: (p.toList ++ 46 :: t.toList)).length + 2) s.size = i := extract_right (u := 40 :: (p.toList ++ 46 :: t.toList) ++ [41, 46]) (by rw [hs]; simp) (by simp; omega)
  have HI := Lib.hid hI
  clear hI
  clear hs hs1 hn1 e1 ht2 hp ht hlen hsz1 hp0
  generalize hE : (40 :: (p.toList ++ 46 :: t.toList)).length = en at *
  have HE := Lib.hid hE
  clear hE
  go_enter Tryz.func118, Tryz.ntmps118
  go_wp2_with fail
  refine (index_calls H.out.1 H.out.2.1 (by omega) _).mono ?_
  rw [HE.out]
  rintro e w1 ⟨rfl, rfl⟩
  go_wp2_with fail
  have hq := H.out.2.2.1
  generalize s.extract 1 en = q at *
  refine (Tryz.strings_TrimPrefix q ⟨#[42]⟩ _).mono ?_
  rintro e w1 ⟨rfl, rfl⟩
  rw [trim_other (by rw [hq, H.out.2.2.2.2, List.cons_append]) hc0]
  have hql : q.size = p.toList.length + (t.toList.length + 1) := by rw [← size_toList, hq]; simp
  have F1 := extract_left hq
  have F2 : q.extract (p.toList.length + 1) q.size = t := extract_right (u := p.toList ++ [46]) (by rw [hq]; simp) (by simp)
  have t3 : (((p.toList.length : Nat) : Int) == -1) = false := beq_eq_false_iff_ne.2 (by omega)
  have hp1 : p.toList.length + 1 ≤ q.size := by omega
  have hq9 : q.size ≤ 1000 := by have := HL.out; omega
  have HQ := Lib.hid (And.intro hq (And.intro F1 (And.intro F2 hql)))
  clear hq F1 F2 hql
  go_wp2_with fail
  refine (lastIndex_calls HQ.out.1 H.out.2.2.2.1 (by omega) _).mono ?_
  rintro e w1 ⟨rfl, rfl⟩
  go_wp2_with fail
  refine bodyPost_ret (results_c rfl _ _ w.heap.size 87 #[.string (q.extract 0 p.toList.length), .string (q.extract (p.toList.length + 1) q.size), .string (s.extract (en + 2) s.size)] rfl (Blk.new _ _ _) row87 size87) rfl ?_
  exact ⟨by rw [HQ.out.2.1, HQ.out.2.2.1, HI.out], Ext.alloc _ _⟩
end Go.Proofs.YtigalkobmfbdaaaGreatDoor
