/- strconv.Quote of a text of plain bytes (printable ASCII, no quote, no backslash): the text between quotes. No table is read. -/
import Derived.Test.YtigalkobmfbdaaaGreatDoorLex
import Derived.Lib.BufSteps
import Derived.Laws.BytesArg
import Derived.OwnWalk
set_option linter.unusedVariables false
set_option linter.unusedSimpArgs false
namespace Go.Proofs.YtigalkobmfbdaaaGreatDoor
open Go.RowKit
theorem info5 : (Tryz.prog.info? 5).map (fun i => (i.zero, i.size, i.bytes)) = some (some (.int .u8 0), 1, 1) := by kernel_rfl
theorem u260 : Tryz.prog.underlying 260 = some (.slice 5) := by kernel_rfl
/-- Bytes that strconv.Quote leaves as they are. -/
def qB (c : UInt8) : Bool := 32 ≤ c && c ≤ 126 && c != 34 && c != 92
theorem qB_iff {c : UInt8} : qB c = true ↔ 32 ≤ c.toNat ∧ c.toNat ≤ 126 ∧ c.toNat ≠ 34 ∧ c.toNat ≠ 92 := by
  unfold qB
  have a1 : (32 : UInt8).toNat = 32 := rfl
  have a2 : (126 : UInt8).toNat = 126 := rfl
  have e : ∀ d : UInt8, (c != d) = true ↔ c.toNat ≠ d.toNat := fun d => by
    rw [bne_iff_ne, ne_eq, ne_eq, ← UInt8.toNat_inj]
  rw [Bool.and_eq_true, Bool.and_eq_true, Bool.and_eq_true, decide_eq_true_eq, decide_eq_true_eq, e, e, UInt8.le_iff_toNat_le, UInt8.le_iff_toNat_le]
  show ((32 ≤ c.toNat ∧ c.toNat ≤ 126) ∧ c.toNat ≠ 34) ∧ c.toNat ≠ 92 ↔ _
  omega
set_option maxRecDepth 100000 in
set_option maxHeartbeats 1000000 in
theorem isPrint_calls (r : Int) (h1 : 32 ≤ r) (h2 : r ≤ 126) (w : World) : Calls Tryz.prog 193 #[.int .i32 r] w fun e w' => e = .returned (.bool true) ∧ w' = w := by
  have h3 : r ≤ 255 := by omega
  go_enter Tryz.func193, Tryz.ntmps193
  go_wp2_with fail
  go_ret
  exact ⟨rfl, rfl⟩
set_option maxRecDepth 100000 in
set_option maxHeartbeats 4000000 in
theorem appendRune_calls (r : Int) (h1 : 32 ≤ r) (h2 : r ≤ 126) (B : Nat) (v : Value) (n : Nat) (xs : List Value) (W0 w : World) (hb : Lib.OwnBuf B 5 v n xs W0 w) (hn : n + 1 ≤ 140737488355328) :
    Calls Tryz.prog 195 #[v, .int .i32 r] w fun e w' => ∃ v', e = .returned v' ∧ Lib.OwnBuf B 5 v' (n + 1) (xs ++ [.int .u8 r]) W0 w' := by
  obtain ⟨i0, hi, hz0, hz1, hz2⟩ := info_parts info5
  go_enter Tryz.func195, Tryz.ntmps195
  go_wp2_with (first
    | (at_builtin; refine Lib.wpList_append_byte rfl _ _ 260 rfl B 5 i0 u260 hi hz0 hz1 hz2 _ _ _ rfl W0 _ _ (by assumption) rfl (by omega) ?_; intro v' w' hb')
    | go_in)
  go_ret
  exact ⟨_, rfl, hb'⟩
set_option maxRecDepth 100000 in
set_option maxHeartbeats 4000000 in
theorem escaped_calls (r : Int) (h1 : 32 ≤ r) (h2 : r ≤ 126) (h34 : r ≠ 34) (h92 : r ≠ 92) (B : Nat) (v : Value) (n : Nat) (xs : List Value) (W0 w : World) (hb : Lib.OwnBuf B 5 v n xs W0 w) (hn : n + 1 ≤ 140737488355328) :
    Calls Tryz.prog 192 #[v, .int .i32 r, .int .u8 34, .bool false, .bool false] w fun e w' => ∃ v', e = .returned v' ∧ Lib.OwnBuf B 5 v' (n + 1) (xs ++ [.int .u8 r]) W0 w' := by
  have HB := Lib.hid hb
  have e34 : (r == 34) = false := by simp [h34]
  have e92 : (r == 92) = false := by simp [h92]
  clear hb h34 h92
  go_enter Tryz.func192, Tryz.ntmps192
  go_big_wp2_with fail
  refine (isPrint_calls r h1 h2 _).mono ?_
  rintro e w1 ⟨rfl, rfl⟩
  go_big_wp2_with fail
  refine (appendRune_calls r h1 h2 B v n xs W0 _ HB.out hn).mono ?_
  rintro e w2 ⟨v2, rfl, hb2⟩
  have HB2 := Lib.hid hb2
  clear hb2
  go_big_wp2_with fail
  go_ret
  exact ⟨_, rfl, HB2.out⟩
theorem app_append (a b : ByteArray) : (a ++ b).toList = a.toList ++ b.toList := by
  simp only [ByteArray.toList_eq]; simp
/-- Bytes as cells. -/
def cellsB (l : List UInt8) : List Value := l.map fun c => Value.int .u8 c.toNat
theorem ext_tail (s : ByteArray) (h : 0 < s.size) : (s.extract 1 s.size).toList = s.toList.tail ∧ (s.extract 1 s.size).size = s.size - 1 := by
  have h1 : (s.extract 1 s.size).toList = s.toList.tail := by
    refine List.ext_getElem (by rw [size_toList, List.length_tail, size_toList]; simp [ByteArray.size_extract]) fun j h1 h2 => ?_
    have hj : j < (s.extract 1 s.size).size := by rw [← size_toList]; exact h1
    have hj2 : 1 + j < s.size := by simp [ByteArray.size_extract] at hj; omega
    rw [get_toList _ j hj, List.getElem_tail, ByteArray.getElem_extract, ← get_toList s (1 + j) hj2]
    congr 1
    omega
  exact ⟨h1, by simp [ByteArray.size_extract]⟩
set_option maxRecDepth 100000 in
set_option maxHeartbeats 4000000 in
theorem quoted_calls (a : Option Addr) (c : Nat) (s : ByteArray) (W0 w : World) (hq : s.toList.all qB = true) (hb : Lib.OwnBuf W0.heap.size 5 (.slice a 0 c) 0 [] W0 w) (hroom : s.size ≤ c) (hc : c ≤ 9223372036854775807) (hlen : s.size ≤ 1000) :
    Calls Tryz.prog 191 #[.slice a 0 c, .string s, .int .u8 34, .bool false, .bool false] w fun e w' => ∃ v', e = .returned v' ∧ Lib.OwnBuf W0.heap.size 5 v' (s.size + 2) ([.int .u8 34] ++ cellsB s.toList ++ [.int .u8 34]) W0 w' := by
  obtain ⟨i0, hi, hz0, hz1, hz2⟩ := info_parts info5
  obtain ⟨B, hB⟩ : ∃ B, B = W0.heap.size := ⟨_, rfl⟩
  rw [← hB] at hb ⊢
  have HB : Hid (B = W0.heap.size) := hB
  have HQ := Lib.hid hq
  clear hB hq
  have hwc : wrap64 ((c : Int) - ((0 : Nat) : Int)) = (c : Int) := by unfold wrap64; omega
  have hroom' : ¬ ((c : Int) < (s.size : Int)) := by omega
  go_enter Tryz.func191, Tryz.ntmps191
  go_big_wp2_with (at_builtin; refine Lib.wpList_append_byte rfl _ _ 260 rfl B 5 i0 u260 hi hz0 hz1 hz2 _ _ _ rfl W0 _ _ (by assumption) rfl (by omega) ?_; intro _ _ hb)
  have Hb0 := Lib.hid hb
  clear hb
  go_loopw [0, 1, 12, 13] (fun vb vs _ _ wr => ∃ (rest : ByteArray) (acc : List UInt8), vs = .string rest ∧ Hid (Lib.OwnBuf B 5 vb (1 + acc.length) ([.int .u8 34] ++ cellsB acc) W0 wr) ∧ Hid (acc ++ rest.toList = s.toList) ∧ acc.length + rest.size = s.size)
    (fun _ vs _ _ _ => match vs with | .string r => r.size | _ => 0)
  case atStart => exact ⟨s, [], rfl, by simpa [Hid, cellsB] using Hb0.out, Lib.hid (by simp), by simp⟩
  case round =>
    obtain ⟨rest, acc, rfl, hbr, hq, hl⟩ := hrel
    by_cases h0 : 0 < rest.size
    · have h0' : (0 : Int) < (rest.size : Int) := by omega
      have hm : qB rest[0] = true := by
        have h1 := HQ.out
        rw [← hq.out, List.all_append, Bool.and_eq_true] at h1
        have h2 := List.all_eq_true.1 h1.2 (rest.toList[0]'(by rw [size_toList]; exact h0)) (List.getElem_mem _)
        rwa [get_toList rest 0 h0] at h2
      have hm2 := qB_iff.1 hm
      have HM := Lib.hid hm2
      have eb : (((rest[0].toNat : Nat) : Int) == 65533) = false := by
        have : ((rest[0].toNat : Nat) : Int) ≠ 65533 := by omega
        simp [this]
      clear hm hm2
      go_big_wp2_with fail
      refine (decode_calls rest h0 (by have := HM.out; omega) _).mono ?_
      rintro e w1 ⟨rfl, rfl⟩
      go_big_wp2_with fail
      refine (escaped_calls (rest[0].toNat : Int) (by have := HM.out; omega) (by have := HM.out; omega) (by have := HM.out; omega) (by have := HM.out; omega) B _ _ _ W0 _ hbr.out (by omega)).mono ?_
      rintro e w2 ⟨v2, rfl, hb2⟩
      have HB2 := Lib.hid hb2
      clear hb2
      go_big_wp2_with fail
      go_roundw
      case rel =>
        refine ⟨_, acc ++ [rest[0]], rfl, ?_, ?_, ?_⟩
        · simpa [Hid, cellsB, Nat.add_assoc] using HB2.out
        · refine Lib.hid ?_
          have e1 := (ext_tail rest h0).1
          have e2 : rest.toList = rest[0] :: rest.toList.tail := by
            have h3 : rest.toList ≠ [] := fun e => by have := size_toList rest; rw [e] at this; simp at this; omega
            rw [← get_toList rest 0 h0, ← List.head_eq_getElem h3, List.cons_head_tail]
          rw [← hq.out]
          show (acc ++ [rest[0]]) ++ (rest.extract 1 rest.size).toList = _
          rw [e1, List.append_assoc]
          exact congrArg (acc ++ ·) e2.symm
        · have e3 := (ext_tail rest h0).2
          show (acc ++ [rest[0]]).length + (rest.extract 1 rest.size).size = _
          rw [e3, List.length_append]
          simp; omega
      case measure =>
        have e3 := (ext_tail rest h0).2
        show (rest.extract 1 rest.size).size < rest.size
        omega
    · have hr : rest.size = 0 := by omega
      have hr' : ¬ (0 : Int) < (rest.size : Int) := by omega
      have hb := hbr.out
      go_big_wp2_with (at_builtin; refine Lib.wpList_append_byte rfl _ _ 260 rfl B 5 i0 u260 hi hz0 hz1 hz2 _ _ _ rfl W0 _ _ (by assumption) rfl (by omega) ?_; intro _ _ hb)
      go_ret
      have e0 : rest.toList = [] := List.eq_nil_of_length_eq_zero (by rw [size_toList]; exact hr)
      have e1 : acc = s.toList := by rw [← hq.out, e0, List.append_nil]
      have e2 : 1 + acc.length + 1 = s.size + 2 := by omega
      subst e1
      exact ⟨_, rfl, by rw [← e2]; assumption⟩
theorem strOfNums_cells (l : List UInt8) : strOfNums (l.map fun c => (c.toNat : Int)) = ⟨l.toArray⟩ := by
  unfold strOfNums
  rw [List.map_map]
  have e : (fun n : Int => UInt8.ofNat n.toNat) ∘ (fun c : UInt8 => (c.toNat : Int)) = id := by funext c; simp
  rw [e, List.map_id]
theorem buf_bytes {B : Nat} {v : Value} {l : List UInt8} {W0 w : World} {n : Nat} (h : Lib.OwnBuf B 5 v n (cellsB l) W0 w) (hn : n = l.length) (hl : 0 < l.length) :
    ∃ g cap, v = .slice (some ⟨g, 0, none⟩) l.length cap ∧ ∀ i, i < l.length → w.cell? ⟨g, 0 + i, none⟩ = some (.int .u8 ((l.map fun c => (c.toNat : Int)).getD i 0)) := by
  subst hn
  rcases h.1.2 with ⟨_, h0⟩ | ⟨g, cap, cur, fz, rfl, _⟩
  · omega
  · refine ⟨g, cap, rfl, fun i hi => ?_⟩
    have := h.1.cells (g := g) (by simp [Value.ownBlock]) i (.int .u8 l[i].toNat) (by simp [cellsB, List.getElem?_eq_getElem hi])
    have hadd : (⟨g, 0, none⟩ : Addr).add i = ⟨g, 0 + i, none⟩ := by unfold Addr.add; split <;> simp_all
    rw [hadd] at this
    rw [this]
    simp [List.getD, List.getElem?_eq_getElem hi]
set_option maxRecDepth 100000 in
set_option maxHeartbeats 4000000 in
theorem quoteWith_calls (s : ByteArray) (hq : s.toList.all qB = true) (hlen : s.size ≤ 1000) (w : World) :
    Calls Tryz.prog 190 #[.string s, .int .u8 34, .bool false, .bool false] w fun e w' => e = .returned (.string ((⟨#[34]⟩ ++ s) ++ ⟨#[34]⟩)) ∧ Ext w w' := by
  obtain ⟨i0, hi, hz0, hz1, hz2⟩ := info_parts info5
  obtain ⟨c, hc⟩ : ∃ c, c = 3 * s.size / 2 := ⟨_, rfl⟩
  have hcI : 3 * (s.size : Int) / 2 = (c : Int) := by omega
  have hc1 : s.size ≤ c := by omega
  have hc2 : c ≤ 140737488355328 := by omega
  have HQ := Lib.hid hq
  have Hc : Hid (c = 3 * s.size / 2) := hc
  clear hc hq
  go_enter Tryz.func190, Tryz.ntmps190
  go_wp2_with (at_make; refine wpList_make_own _ rfl _ _ 260 rfl w.heap.size 5 i0 (.int .u8 0) 1 u260 hi hz0 hz1 _ _ _ c rfl rfl (by first | rfl | assumption) (by rw [hz2]; omega) (by unfold maxLen; omega) (Nat.le_refl _) ?_; intro w1 hown hg)
  refine (quoted_calls _ c s w w1 HQ.out ⟨World.ownsRowF_of hown, (Below.refl _ _).grown hg (Nat.le_refl _) (by intro k hk; cases hk), hg.size⟩ hc1 (by omega) hlen).mono ?_
  rintro e w2 ⟨v2, rfl, hb2⟩
  have e1 : [Value.int .u8 34] ++ cellsB s.toList ++ [.int .u8 34] = cellsB ([34] ++ s.toList ++ [34]) := by simp [cellsB]
  rw [e1] at hb2
  obtain ⟨g, cap, rfl, hcells⟩ := buf_bytes hb2 (by simp [size_toList]) (by simp)
  have hx := hb2.2.1
  have HX := Lib.hid hx
  have hcv := run_convert_bytes_arg w2 260 5 u260 (by kernel_rfl) g 0 ([34] ++ s.toList ++ [34]).length cap (([34] ++ s.toList ++ [34]).map fun b : UInt8 => (b.toNat : Int)) (by simp) hcells 9 (by kernel_rfl)
  have e2 : strOfNums (([34] ++ s.toList ++ [34]).map fun b : UInt8 => (b.toNat : Int)) = (⟨#[34]⟩ ++ s) ++ ⟨#[34]⟩ := by
    rw [strOfNums_cells]
    apply toList_inj
    simp only [app_append, toList_mk]
  rw [e2] at hcv
  clear hcells hb2 hx e1 e2
  generalize ([34] ++ s.toList ++ [34]).length = nn at hcv ⊢
  go_wp2_with fail
  go_ret
  exact ⟨rfl, HX.out⟩
set_option maxRecDepth 100000 in
/-- strconv.Quote. -/
theorem quote_calls (s : ByteArray) (hq : s.toList.all qB = true) (hlen : s.size ≤ 1000) (w : World) :
    Calls Tryz.prog 189 #[.string s] w fun e w' => e = .returned (.string ((⟨#[34]⟩ ++ s) ++ ⟨#[34]⟩)) ∧ Ext w w' := by
  have HQ := Lib.hid hq
  clear hq
  go_enter Tryz.func189, Tryz.ntmps189
  go_wp2_with fail
  refine (quoteWith_calls s HQ.out hlen w).mono ?_
  rintro e w1 ⟨rfl, hE⟩
  have HE := Lib.hid hE
  clear hE
  go_wp2_with fail
  go_ret
  exact ⟨rfl, HE.out⟩
end Go.Proofs.YtigalkobmfbdaaaGreatDoor
