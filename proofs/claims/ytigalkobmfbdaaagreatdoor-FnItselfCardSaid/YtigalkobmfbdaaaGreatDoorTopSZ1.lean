/- An argument of type impl.Syn, opened as a part in memory. -/
import Derived.Test.YtigalkobmfbdaaaGreatDoorTopZ1
import Derived.Test.YtigalkobmfbdaaaGreatDoorSyn0Z1
set_option linter.unusedVariables false
set_option linter.unusedSimpArgs false
namespace Go.Proofs.YtigalkobmfbdaaaGreatDoor
open Go.ChangeShapes Go.WideShapes Go.ChangeAt Go.RowKit
theorem struct5_of_map {P : Program} {t : TypeId} {t0 o0 t1 o1 t2 o2 t3 o3 t4 o4 : Nat} (h : (P.underlying t).map (fun d => match d with | .struct fs => some (fs.toList.map fun f => (f.type, f.offset)) | _ => none) = some (some [(t0, o0), (t1, o1), (t2, o2), (t3, o3), (t4, o4)])) : ∃ f0 f1 f2 f3 f4 : Field, P.underlying t = some (.struct #[f0, f1, f2, f3, f4]) ∧ (f0.type = t0 ∧ f0.offset = o0) ∧ (f1.type = t1 ∧ f1.offset = o1) ∧ (f2.type = t2 ∧ f2.offset = o2) ∧ (f3.type = t3 ∧ f3.offset = o3) ∧ f4.type = t4 ∧ f4.offset = o4 := by
  obtain ⟨fs, h, e⟩ := struct_of_map h
  obtain ⟨fs⟩ := fs
  match fs, e with
  | [f0, f1, f2, f3, f4], e =>
    simp at e
    exact ⟨f0, f1, f2, f3, f4, h, e.1, e.2.1, e.2.2.1, e.2.2.2.1, e.2.2.2.2⟩
theorem trod_syn_parts : ∃ f0 f1 f2 f3 f4 : Field, Tryz.prog.underlying 52 = some (.struct #[f0, f1, f2, f3, f4]) ∧ (f0.type = 9 ∧ f0.offset = 0) ∧ (f1.type = 4 ∧ f1.offset = 1) ∧ (f2.type = 9 ∧ f2.offset = 2) ∧ (f3.type = 3 ∧ f3.offset = 3) ∧ f4.type = 50 ∧ f4.offset = 4 := struct5_of_map (by kernel_rfl)
theorem bytes52 : Tryz.prog.bytesOf 52 = 72 := by kernel_rfl
theorem cells52 : Tryz.prog.cellsOf 52 = 5 := by kernel_rfl
theorem cells4 : Tryz.prog.cellsOf 4 = 1 := by kernel_rfl
theorem cells3 : Tryz.prog.cellsOf 3 = 1 := by kernel_rfl
theorem cells50 : Tryz.prog.cellsOf 50 = 1 := by kernel_rfl
theorem under50 : Tryz.prog.underlying 50 = some (.slice 52) := by kernel_rfl
abbrev LiveIn (W : World) : Nat → Prop := fun b => b < W.heap.size
theorem syns_of_cells {W : World} {b : Nat} : ∀ (n o : Nat), (∀ i, i < n → ∃ t a' c', W.cell? ⟨b, o + i * 5, none⟩ = some (.string (Syn.kind t)) ∧ W.cell? ⟨b, o + i * 5 + 1, none⟩ = some (.bool t.null) ∧ W.cell? ⟨b, o + i * 5 + 2, none⟩ = some (.string t.text) ∧ W.cell? ⟨b, o + i * 5 + 3, none⟩ = some (.int .i64 t.num) ∧ W.cell? ⟨b, o + i * 5 + 4, none⟩ = some (.slice a' t.kids.length c') ∧ SynIn (LiveIn W) W a' c' t) → ∃ ts : List Syn, ts.length = n ∧ SynsIn (LiveIn W) W (some ⟨b, o, none⟩) ts
  | 0, o, _ => ⟨[], rfl, trivial⟩
  | n + 1, o, h => by
    obtain ⟨t, a', c', h0, h1, h2, h3, h4, h5⟩ := h 0 (by omega)
    obtain ⟨ts, hl, hk⟩ := syns_of_cells n (o + 5) (fun i hi => by
      obtain ⟨t, a', c', h0, h1, h2, h3, h4, h5⟩ := h (i + 1) (by omega)
      have e : o + (i + 1) * 5 = o + 5 + i * 5 := by omega
      rw [e] at h0 h1 h2 h3 h4
      exact ⟨t, a', c', h0, h1, h2, h3, h4, h5⟩)
    rw [Nat.zero_mul, Nat.add_zero] at h0 h1 h2 h3 h4
    exact ⟨t :: ts, by rw [List.length_cons, hl], b, o, a', c', rfl, cell_lt h0, h0, h1, h2, h3, h4, h5, hk⟩
set_option maxRecDepth 100000 in
set_option maxHeartbeats 1000000 in
theorem syn_of_trod {H : Type} {enc : TypeId × Value → H} {W : World} : ∀ (N fuel : Nat) (_ : fuel < N) {cs : List Value} {x : DataW H × List MemPlace}, DataW.trod enc Tryz.prog W 0 (fun _ => true) true fuel 52 cs = some x → (∀ n ∈ x.1.weights Tryz.prog 52, n ≤ reachBytes) →
    ∃ (t : Syn) (a : Option Addr) (c : Nat), cs = [.string t.kind, .bool t.null, .string t.text, .int .i64 t.num, .slice a t.kids.length c] ∧ SynIn (LiveIn W) W a c t
  | 0, _, hN, _, _, _, _ => by omega
  | N + 1, fuel, hN, cs, x, h, hw => by
    obtain ⟨f0, f1, f2, f3, f4, hu, ⟨t0, o0⟩, ⟨t1, o1⟩, ⟨t2, o2⟩, ⟨t3, o3⟩, t4, o4⟩ := trod_syn_parts
    obtain ⟨xs, n, rfl, rfl, hl, hlen, hf⟩ := DataW.trod_struct hu h
    rw [cells52] at hl
    match cs, hl, xs, hlen with
    | [c0, c1, c2, c3, c4], _, [y0, y1, y2, y3, y4], _ =>
      have g0 := hf 0 f0 rfl
      have g1 := hf 1 f1 rfl
      have g2 := hf 2 f2 rfl
      have g3 := hf 3 f3 rfl
      have g4 := hf 4 f4 rfl
      rw [t0, o0, cells9] at g0
      rw [t1, o1, cells4] at g1
      rw [t2, o2, cells9] at g2
      rw [t3, o3, cells3] at g3
      rw [t4, o4, cells50] at g4
      simp at g0 g1 g2 g3 g4
      have hw3 : ∀ n ∈ y0.1.weights Tryz.prog 9 ++ (y1.1.weights Tryz.prog 4 ++ (y2.1.weights Tryz.prog 9 ++ (y3.1.weights Tryz.prog 3 ++ y4.1.weights Tryz.prog 50))), n ≤ reachBytes := by
        intro n hn
        refine hw n ?_
        simp only [List.map_cons, List.map_nil]
        unfold DataW.weights
        rw [hu]
        simp only [List.map_cons, List.map_nil, DataW.weightsEach, t0, t1, t2, t3, t4, List.append_nil]
        exact hn
      clear hw
      obtain ⟨s0, e0, v0, -⟩ := DataW.trod_string underlying9 g0
      obtain ⟨b1, e1, v1⟩ := DataW.trod_bool (by kernel_rfl) g1
      obtain ⟨s2, e2, v2, -⟩ := DataW.trod_string underlying9 g2
      obtain ⟨n3, e3, v3, wf3⟩ := DataW.trod_int (k := .i64) (by kernel_rfl) g3
      simp at e0 e1 e2 e3
      subst e0; subst e1; subst e2; subst e3
      subst v0; subst v2
      have z0 : s0.size ≤ 140737488351232 := by
        have := hw3 s0.data.toList.length (List.mem_append_left _ (by rw [weights_string]; exact List.mem_singleton.2 rfl))
        rw [Array.length_toList] at this
        exact this
      have z2 : s2.size ≤ 140737488351232 := by
        have := hw3 s2.data.toList.length (List.mem_append_right _ (List.mem_append_right _ (List.mem_append_left _ (by rw [weights_string]; exact List.mem_singleton.2 rfl))))
        rw [Array.length_toList] at this
        exact this
      have z3 : i64 n3 := by unfold i64; simpa [Lit.wf] using wf3
      rcases DataW.trod_slice under50 g4 with ⟨e4, -⟩ | ⟨a, len, cap, elems, rest, m, rfl, e4, e5, -, hle, -, hel, helt, hsp, -⟩
      · simp at e4
        subst e4
        exact ⟨.mk s0 b1 s2 n3 [], none, 0, rfl, ⟨z0, z2, z3⟩, Nat.le_refl _, by omega, trivial⟩
      · simp at e4
        subst e4
        subst e5
        have hw4 : ∀ n ∈ (elems.length + rest.length) * 72 :: (DataW.weightsAll Tryz.prog 52 (elems.map (·.1)) ++ DataW.weightsAll Tryz.prog 52 (rest.map (·.1))), n ≤ reachBytes := by
          intro n hn
          refine hw3 n (List.mem_append_right _ (List.mem_append_right _ (List.mem_append_right _ (List.mem_append_right _ ?_))))
          unfold DataW.weights
          rw [under50]
          simp only [bytes52, List.length_map]
          exact hn
        have hcap' : cap ≤ 140737488351232 := by
          have h1 := hw4 _ (List.mem_cons_self ..)
          have h2 := (hsp rfl).1
          have h3 : reachBytes = 140737488351232 := rfl
          omega
        obtain ⟨b, o, sp⟩ := a
        have key : ∀ i, i < len → ∃ (t : Syn) (a' : Option Addr) (c' : Nat), W.cells? 0 ((⟨b, o, sp⟩ : Addr).add (i * 5)) 5 = some [.string t.kind, .bool t.null, .string t.text, .int .i64 t.num, .slice a' t.kids.length c'] ∧ SynIn (LiveIn W) W a' c' t := by
          intro i hi
          have hE := helt i hi
          rw [cells52, List.getElem?_eq_getElem (by omega)] at hE
          obtain ⟨cs', h1, h2⟩ := Option.bind_eq_some_iff.1 hE
          obtain ⟨t, a', c', rfl, ht⟩ := syn_of_trod N m (by omega) h2 (fun n hn => hw4 n (List.mem_cons_of_mem _ (List.mem_append_left _ (weightsAll_mem hn (List.mem_map.2 ⟨_, List.getElem_mem _, rfl⟩)))))
          exact ⟨t, a', c', h1, ht⟩
        by_cases h0 : len = 0
        · subst h0
          exact ⟨.mk s0 b1 s2 n3 [], some ⟨b, o, sp⟩, cap, rfl, ⟨z0, z2, z3⟩, Nat.zero_le _, hcap', trivial⟩
        · have hsp : sp = none := by
            obtain ⟨t, a', c', h1, -⟩ := key 0 (by omega)
            obtain ⟨-, -, hc⟩ := World.cells?_some h1
            have := hc 0 (by omega)
            simpa [Addr.add] using World.cell?_spot this
          subst hsp
          obtain ⟨ts, hts, hk⟩ := syns_of_cells (W := W) (b := b) len o (fun i hi => by
            obtain ⟨t, a', c', h1, ht⟩ := key i hi
            obtain ⟨-, -, hc⟩ := World.cells?_some h1
            rw [add_plain] at hc
            have q0 := hc 0 (by omega)
            have q1 := hc 1 (by omega)
            have q2 := hc 2 (by omega)
            have q3 := hc 3 (by omega)
            have q4 := hc 4 (by omega)
            rw [add_plain] at q0 q1 q2 q3 q4
            exact ⟨t, a', c', q0, q1, q2, q3, q4, ht⟩)
          subst hts
          exact ⟨.mk s0 b1 s2 n3 ts, some ⟨b, o, none⟩, cap, rfl, ⟨z0, z2, z3⟩, hle, hcap', hk⟩
set_option maxRecDepth 100000 in
/-- An argument of type impl.Syn. -/
theorem open_syn {H : Type} {enc : TypeId × Value → H} {W : World} {r : Reach} {b0 : Nat} {v : Value} {d : DataW H} {p : List MemPlace} (hval : Value.okWide Tryz.prog W r b0 52 v) (h : DataW.Trod enc Tryz.prog W 0 (fun _ => true) true 52 v d p) (hw : ∀ n ∈ d.weights Tryz.prog 52, n ≤ reachBytes) :
    ∃ (t : Syn) (a : Option Addr) (c : Nat), v = synV t a c ∧ SynIn (LiveIn W) W a c t := by
  obtain ⟨f0, f1, f2, f3, f4, hu, -⟩ := trod_syn_parts
  obtain ⟨cs, rfl, hsz⟩ := okWide_struct hu hval
  obtain ⟨fuel, hf⟩ := h
  obtain ⟨t, a, c, e, ht⟩ := syn_of_trod (fuel + 1) fuel (Nat.lt_succ_self _) hf hw
  refine ⟨t, a, c, ?_, ht⟩
  congr 1
  exact Array.ext' (by simpa [Value.cells] using e)
end Go.Proofs.YtigalkobmfbdaaaGreatDoor
