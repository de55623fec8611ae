-- PRINTED BY print.sh 35421559b90ae4d0a3588c463048766b98c2df88dd9212a6774a882060cdf62d: not written by this session
import Derived.Test.YtigalkobmfbdaaaPFnFieldsx0
import Derived.Test.YtigalkobmfbdaaaPFnFieldsx1
namespace Go.Proofs.Ytigalkobmfbdaaa.PFnFields
open Go.RowKit Go.Proofs.YtigalkobmfbdaaaW.PrintWords Go.Proofs.YtigalkobmfbdaaaW.PrintLast Go.Proofs.YtigalkobmfbdaaaW.PrintMore
attribute [local go_sem] max2_int min2_int max_two min_two max_three min_three max_four min_four   -- for this text's walks alone
set_option linter.unusedVariables false
set_option linter.unusedSimpArgs false

/-! ### impl_Fields: function 6 -/
def impl_Fields.f (a0 : ByteArray) : Option (List ByteArray) := (sapattern_ZZFieldsOf.f a0).bind fun t254 => (some t254)
set_option maxHeartbeats 8000000 in
set_option maxRecDepth 100000 in
theorem impl_Fields.calls (a0 : ByteArray) (r : List ByteArray) (w : World) (h : impl_Fields.f a0 = some r) :
    Calls Try.prog 6 #[.string a0] w fun e w' => ∃ v0_ : Value, e = .returned (v0_) ∧ Kd.R Kd.string 9 w' w.heap.size (fun _ => True) v0_ r ∧ Below w.heap.size w w' := by
  have HB := Aside0.mk (Below.refl w.heap.size w)
  have H : ((sapattern_ZZFieldsOf.f a0).bind fun t254 => (some t254)) = some r := h
  clear h
  replace H := Option.bind_eq_some_iff.mp H
  obtain ⟨t254, A20, H⟩ := H
  replace H : (some t254) = some r := H
  have A2 := Aside0.mk A20
  clear A20
  obtain rfl := Option.some.inj H
  go_enter Try.func6, Try.ntmps6
  go_wp2_with (first | ((with_reducible refine gate_callee (f := 8) rfl ?_); refine goesL_ (some 4) rfl rfl Try.func8 (by kernel_rfl) rfl #[.string a0] rfl (by (try simp only [List.map_toArray, List.map_cons, List.map_nil]); first | done | rfl | (simp only [List.length_drop, List.length_take]; rfl)) ?_; (with_reducible refine (sapattern_ZZFieldsOf.calls a0 t254 _ A2.out).mono ?_); rintro e w3 ⟨v255, rfl, ho0, hb⟩; refine ⟨_, rfl, ?_⟩; have n0_ := Aside0.mk (Kd.R_lower ho0 (below_size (by repeat (first | (with_reducible first | exact HB.out | apply below_alloc | apply pw_below_drewN | apply below_drew1) | exact HB.out)))); have n1_ := Aside0.mk (below_step (by repeat (first | (with_reducible first | exact HB.out | apply below_alloc | apply pw_below_drewN | apply below_drew1) | exact HB.out)) hb); clear HB; have HO256 := n0_; have HB := n1_; clear n0_ n1_; (try clear hb); (try clear hb2); (try clear hk); (try clear hi); (try clear ho0)))
  go_ret
  exact ⟨_, by first | rfl | (simp [errW_none, errW_some] <;> rfl) | (simp [*, errW_none, errW_some] <;> rfl), by (with_reducible repeat (first | apply Kd.R_alloc | apply Kd.R_drewN | apply Kd.R_drew)); exact HO256.out, by repeat (first | (with_reducible first | exact HB.out | apply below_alloc | apply pw_below_drewN | apply below_drew1) | exact HB.out)⟩

/-! ### spec_Fields: function 7 -/
mutual
def spec_Fields.j0 : Nat → ByteArray → Bool → Option (List ByteArray)
  | 0, _, _ => none
  | k + 1, x3, x25 => if x25 = true then (some (([(⟨#[88]⟩ : ByteArray)] : List ByteArray))) else (if x3.toList = ([75, 101, 121, 86, 97, 108, 117, 101, 69, 120, 112, 114] : List UInt8) then (some (([(⟨#[75, 101, 121]⟩ : ByteArray), (⟨#[86, 97, 108, 117, 101]⟩ : ByteArray)] : List ByteArray))) else (if x3.toList = ([67, 111, 109, 112, 111, 115, 105, 116, 101, 76, 105, 116] : List UInt8) then (some (([(⟨#[84, 121, 112, 101]⟩ : ByteArray), (⟨#[69, 108, 116, 115]⟩ : ByteArray), (⟨#[73, 110, 99, 111, 109, 112, 108, 101, 116, 101]⟩ : ByteArray)] : List ByteArray))) else (if x3.toList = ([83, 108, 105, 99, 101, 69, 120, 112, 114] : List UInt8) then (some (([(⟨#[88]⟩ : ByteArray), (⟨#[76, 111, 119]⟩ : ByteArray), (⟨#[72, 105, 103, 104]⟩ : ByteArray), (⟨#[77, 97, 120]⟩ : ByteArray), (⟨#[83, 108, 105, 99, 101, 51]⟩ : ByteArray)] : List ByteArray))) else (if x3.toList = ([84, 121, 112, 101, 65, 115, 115, 101, 114, 116, 69, 120, 112, 114] : List UInt8) then (some (([(⟨#[88]⟩ : ByteArray), (⟨#[84, 121, 112, 101]⟩ : ByteArray)] : List ByteArray))) else (if x3.toList = ([65, 115, 115, 105, 103, 110, 83, 116, 109, 116] : List UInt8) then (some (([(⟨#[76, 104, 115]⟩ : ByteArray), (⟨#[84, 111, 107]⟩ : ByteArray), (⟨#[82, 104, 115]⟩ : ByteArray)] : List ByteArray))) else (if x3.toList = ([82, 101, 116, 117, 114, 110, 83, 116, 109, 116] : List UInt8) then (some (([(⟨#[82, 101, 115, 117, 108, 116, 115]⟩ : ByteArray)] : List ByteArray))) else (if x3.toList = ([73, 102, 83, 116, 109, 116] : List UInt8) then (some (([(⟨#[73, 110, 105, 116]⟩ : ByteArray), (⟨#[67, 111, 110, 100]⟩ : ByteArray), (⟨#[66, 111, 100, 121]⟩ : ByteArray), (⟨#[69, 108, 115, 101]⟩ : ByteArray)] : List ByteArray))) else (if x3.toList = ([66, 108, 111, 99, 107, 83, 116, 109, 116] : List UInt8) then (some (([(⟨#[76, 105, 115, 116]⟩ : ByteArray)] : List ByteArray))) else (if x3.toList = ([73, 110, 99, 68, 101, 99, 83, 116, 109, 116] : List UInt8) then (some (([(⟨#[88]⟩ : ByteArray), (⟨#[84, 111, 107]⟩ : ByteArray)] : List ByteArray))) else (if x3.toList = ([83, 101, 110, 100, 83, 116, 109, 116] : List UInt8) then (some (([(⟨#[67, 104, 97, 110]⟩ : ByteArray), (⟨#[86, 97, 108, 117, 101]⟩ : ByteArray)] : List ByteArray))) else (if x3.toList = ([71, 111, 83, 116, 109, 116] : List UInt8) then (spec_Fields.j1 k x3 (x3.toList == ([71, 111, 83, 116, 109, 116] : List UInt8))) else (spec_Fields.j1 k x3 (x3.toList == ([68, 101, 102, 101, 114, 83, 116, 109, 116] : List UInt8))))))))))))))
def spec_Fields.j1 : Nat → ByteArray → Bool → Option (List ByteArray)
  | 0, _, _ => none
  | k + 1, x3, x60 => if x60 = true then (some (([(⟨#[67, 97, 108, 108]⟩ : ByteArray)] : List ByteArray))) else (if x3.toList = ([70, 111, 114, 83, 116, 109, 116] : List UInt8) then (some (([(⟨#[73, 110, 105, 116]⟩ : ByteArray), (⟨#[67, 111, 110, 100]⟩ : ByteArray), (⟨#[80, 111, 115, 116]⟩ : ByteArray), (⟨#[66, 111, 100, 121]⟩ : ByteArray)] : List ByteArray))) else (if x3.toList = ([82, 97, 110, 103, 101, 83, 116, 109, 116] : List UInt8) then (some (([(⟨#[75, 101, 121]⟩ : ByteArray), (⟨#[86, 97, 108, 117, 101]⟩ : ByteArray), (⟨#[84, 111, 107]⟩ : ByteArray), (⟨#[88]⟩ : ByteArray), (⟨#[66, 111, 100, 121]⟩ : ByteArray)] : List ByteArray))) else (if x3.toList = ([76, 97, 98, 101, 108, 101, 100, 83, 116, 109, 116] : List UInt8) then (some (([(⟨#[76, 97, 98, 101, 108]⟩ : ByteArray), (⟨#[83, 116, 109, 116]⟩ : ByteArray)] : List ByteArray))) else (if x3.toList = ([69, 109, 112, 116, 121, 83, 116, 109, 116] : List UInt8) then (some (([(⟨#[73, 109, 112, 108, 105, 99, 105, 116]⟩ : ByteArray)] : List ByteArray))) else (if x3.toList = ([67, 97, 115, 101, 67, 108, 97, 117, 115, 101] : List UInt8) then (some (([(⟨#[76, 105, 115, 116]⟩ : ByteArray), (⟨#[66, 111, 100, 121]⟩ : ByteArray)] : List ByteArray))) else (if x3.toList = ([83, 119, 105, 116, 99, 104, 83, 116, 109, 116] : List UInt8) then (some (([(⟨#[73, 110, 105, 116]⟩ : ByteArray), (⟨#[84, 97, 103]⟩ : ByteArray), (⟨#[66, 111, 100, 121]⟩ : ByteArray)] : List ByteArray))) else (some ([] : List ByteArray))))))))
end
def spec_Fields.f (k : Nat) (a0 : ByteArray) : Option (List ByteArray) := if a0.toList = ([73, 100, 101, 110, 116] : List UInt8) then (some (([(⟨#[78, 97, 109, 101]⟩ : ByteArray)] : List ByteArray))) else (if a0.toList = ([66, 97, 115, 105, 99, 76, 105, 116] : List UInt8) then (some (([(⟨#[75, 105, 110, 100]⟩ : ByteArray), (⟨#[86, 97, 108, 117, 101]⟩ : ByteArray)] : List ByteArray))) else (if a0.toList = ([66, 105, 110, 97, 114, 121, 69, 120, 112, 114] : List UInt8) then (some (([(⟨#[88]⟩ : ByteArray), (⟨#[79, 112]⟩ : ByteArray), (⟨#[89]⟩ : ByteArray)] : List ByteArray))) else (if a0.toList = ([85, 110, 97, 114, 121, 69, 120, 112, 114] : List UInt8) then (some (([(⟨#[79, 112]⟩ : ByteArray), (⟨#[88]⟩ : ByteArray)] : List ByteArray))) else (if a0.toList = ([67, 97, 108, 108, 69, 120, 112, 114] : List UInt8) then (some (([(⟨#[70, 117, 110]⟩ : ByteArray), (⟨#[65, 114, 103, 115]⟩ : ByteArray)] : List ByteArray))) else (if a0.toList = ([83, 101, 108, 101, 99, 116, 111, 114, 69, 120, 112, 114] : List UInt8) then (some (([(⟨#[88]⟩ : ByteArray), (⟨#[83, 101, 108]⟩ : ByteArray)] : List ByteArray))) else (if a0.toList = ([73, 110, 100, 101, 120, 69, 120, 112, 114] : List UInt8) then (some (([(⟨#[88]⟩ : ByteArray), (⟨#[73, 110, 100, 101, 120]⟩ : ByteArray)] : List ByteArray))) else (if a0.toList = ([83, 116, 97, 114, 69, 120, 112, 114] : List UInt8) then (spec_Fields.j0 k a0 (a0.toList == ([83, 116, 97, 114, 69, 120, 112, 114] : List UInt8))) else (if a0.toList = ([80, 97, 114, 101, 110, 69, 120, 112, 114] : List UInt8) then (spec_Fields.j0 k a0 (a0.toList == ([80, 97, 114, 101, 110, 69, 120, 112, 114] : List UInt8))) else (spec_Fields.j0 k a0 (a0.toList == ([69, 120, 112, 114, 83, 116, 109, 116] : List UInt8)))))))))))
theorem spec_Fields.mono_l : ∀ k, (∀ y0 y1, LeO (spec_Fields.j0 k y0 y1) (spec_Fields.j0 (k + 1) y0 y1)) ∧ (∀ y0 y1, LeO (spec_Fields.j1 k y0 y1) (spec_Fields.j1 (k + 1) y0 y1))
  | 0 => ⟨fun _ _ r h => by simp [spec_Fields.j0] at h, fun _ _ r h => by simp [spec_Fields.j1] at h⟩
  | k + 1 => by
    obtain ⟨ih0, ih1⟩ := spec_Fields.mono_l k
    refine ⟨?_, ?_⟩
    · intro y0 y1
      unfold spec_Fields.j0
      repeat' first
      | (with_reducible exact ih0 _ _)
      | (with_reducible exact ih1 _ _)
      | (with_reducible exact LeO.refl _)
      | (with_reducible exact LeO.none _)
      | (with_reducible refine LeO.ite ?_ ?_)
      | (with_reducible refine LeO.bind ?_ (fun _ => ?_))
      | exact ih0 _ _
      | exact ih1 _ _
      | exact LeO.none _
      | refine LeO.ite ?_ ?_
      | refine LeO.bind ?_ (fun _ => ?_)
    · intro y0 y1
      unfold spec_Fields.j1
      repeat' first
      | (with_reducible exact ih0 _ _)
      | (with_reducible exact ih1 _ _)
      | (with_reducible exact LeO.refl _)
      | (with_reducible exact LeO.none _)
      | (with_reducible refine LeO.ite ?_ ?_)
      | (with_reducible refine LeO.bind ?_ (fun _ => ?_))
      | exact ih0 _ _
      | exact ih1 _ _
      | exact LeO.none _
      | refine LeO.ite ?_ ?_
      | refine LeO.bind ?_ (fun _ => ?_)
theorem spec_Fields.mono : ∀ a0 k, LeO (spec_Fields.f k a0) (spec_Fields.f (k + 1) a0) := by
  intro a0 k
  obtain ⟨ih0, ih1⟩ := spec_Fields.mono_l k
  unfold spec_Fields.f
  repeat' first
      | (with_reducible exact ih0 _ _)
      | (with_reducible exact ih1 _ _)
      | (with_reducible exact LeO.refl _)
      | (with_reducible exact LeO.none _)
      | (with_reducible refine LeO.ite ?_ ?_)
      | (with_reducible refine LeO.bind ?_ (fun _ => ?_))
      | exact ih0 _ _
      | exact ih1 _ _
      | exact LeO.none _
      | refine LeO.ite ?_ ?_
      | refine LeO.bind ?_ (fun _ => ?_)
set_option maxHeartbeats 8000000 in
set_option maxRecDepth 100000 in
theorem spec_Fields.calls (k : Nat) (a0 : ByteArray) (r : List ByteArray) (w : World) (h : spec_Fields.f k a0 = some r) :
    Calls Try.prog 7 #[.string a0] w fun e w' => ∃ v0_ : Value, e = .returned (v0_) ∧ Kd.R Kd.string 9 w' w.heap.size (fun _ => True) v0_ r ∧ Below w.heap.size w w' := by
  have HB := Aside0.mk (Below.refl w.heap.size w)
  have H : (if a0.toList = ([73, 100, 101, 110, 116] : List UInt8) then (some (([(⟨#[78, 97, 109, 101]⟩ : ByteArray)] : List ByteArray))) else (if a0.toList = ([66, 97, 115, 105, 99, 76, 105, 116] : List UInt8) then (some (([(⟨#[75, 105, 110, 100]⟩ : ByteArray), (⟨#[86, 97, 108, 117, 101]⟩ : ByteArray)] : List ByteArray))) else (if a0.toList = ([66, 105, 110, 97, 114, 121, 69, 120, 112, 114] : List UInt8) then (some (([(⟨#[88]⟩ : ByteArray), (⟨#[79, 112]⟩ : ByteArray), (⟨#[89]⟩ : ByteArray)] : List ByteArray))) else (if a0.toList = ([85, 110, 97, 114, 121, 69, 120, 112, 114] : List UInt8) then (some (([(⟨#[79, 112]⟩ : ByteArray), (⟨#[88]⟩ : ByteArray)] : List ByteArray))) else (if a0.toList = ([67, 97, 108, 108, 69, 120, 112, 114] : List UInt8) then (some (([(⟨#[70, 117, 110]⟩ : ByteArray), (⟨#[65, 114, 103, 115]⟩ : ByteArray)] : List ByteArray))) else (if a0.toList = ([83, 101, 108, 101, 99, 116, 111, 114, 69, 120, 112, 114] : List UInt8) then (some (([(⟨#[88]⟩ : ByteArray), (⟨#[83, 101, 108]⟩ : ByteArray)] : List ByteArray))) else (if a0.toList = ([73, 110, 100, 101, 120, 69, 120, 112, 114] : List UInt8) then (some (([(⟨#[88]⟩ : ByteArray), (⟨#[73, 110, 100, 101, 120]⟩ : ByteArray)] : List ByteArray))) else (if a0.toList = ([83, 116, 97, 114, 69, 120, 112, 114] : List UInt8) then (spec_Fields.j0 k a0 (a0.toList == ([83, 116, 97, 114, 69, 120, 112, 114] : List UInt8))) else (if a0.toList = ([80, 97, 114, 101, 110, 69, 120, 112, 114] : List UInt8) then (spec_Fields.j0 k a0 (a0.toList == ([80, 97, 114, 101, 110, 69, 120, 112, 114] : List UInt8))) else (spec_Fields.j0 k a0 (a0.toList == ([69, 120, 112, 114, 83, 116, 109, 116] : List UInt8)))))))))))) = some r := h
  clear h
  by_cases c2 : a0.toList = ([73, 100, 101, 110, 116] : List UInt8)
  · rw [if_pos c2] at H
    have c2b0 : (a0.toList == ([73, 100, 101, 110, 116] : List UInt8)) = true := beq_iff_eq.mpr c2
    have c2b1 : (a0.toList != ([73, 100, 101, 110, 116] : List UInt8)) = false := bne_eq_false_iff_eq.mpr c2
    clear c2
    obtain ⟨y257, hy257⟩ : ∃ y_ : List ByteArray, y_ = (([(⟨#[78, 97, 109, 101]⟩ : ByteArray)] : List ByteArray)) := ⟨_, rfl⟩
    replace H : (some y257) = some r := by first | (rw [hy257]; with_reducible exact H) | (have H2_ := (Option.bind_some _ _).symm.trans H; rw [hy257]; with_reducible exact H2_) | (have H2_ := (Option.bind_some _ _).symm.trans H; with_reducible exact H2_) | with_reducible exact H | (rw [hy257]; exact H) | exact H
    have Ny257 := Aside0.mk hy257
    clear hy257
    obtain rfl := Option.some.inj H
    go_enter Try.func7, Try.ntmps7
    go_wp2_with (first | ((with_reducible refine gate_dst (N := 6) rfl ?_); refine Kd.R_lit Kd.string _ 9 ?hg (N := 6) ?hd (xs := ([(⟨#[78, 97, 109, 101]⟩ : ByteArray)] : List ByteArray)) (inner := [.string (⟨#[78, 97, 109, 101]⟩ : ByteArray)]) (ok := fun _ => True) (okp := fun _ => True) ?hr ?hp (fun _ hk => hk) trivial (Below.refl _ _) (Nat.le_refl _) (by simp) ?_; (case hd => rfl); (case hg => rfl); (case hr => first | (go_simp; done) | (go_simp; rfl)); (case hp => exact (Reps.one (show Kd.M Kd.string _ _ _ (⟨#[78, 97, 109, 101]⟩ : ByteArray) [.string (⟨#[78, 97, 109, 101]⟩ : ByteArray)] from rfl) (Reps.none _ _))); intro v258 w3 ho4 hb hg_ hnew_; clear hg_ hnew_; (first | rw [← Ny257.out] at ho4 | (simp only [Int.reduceToNat] at ho4; rw [← Ny257.out] at ho4)); have n0_ := Aside0.mk (Kd.R_lower ho4 (below_size (by repeat (first | (with_reducible first | exact HB.out | apply below_alloc | apply pw_below_drewN | apply below_drew1) | exact HB.out)))); have n1_ := Aside0.mk (below_step (by repeat (first | (with_reducible first | exact HB.out | apply below_alloc | apply pw_below_drewN | apply below_drew1) | exact HB.out)) hb); clear HB; have HO259 := n0_; have HB := n1_; clear n0_ n1_; clear hb ho4))
    go_ret
    exact ⟨_, by first | rfl | (simp [errW_none, errW_some] <;> rfl) | (simp [*, errW_none, errW_some] <;> rfl), by (with_reducible repeat (first | apply Kd.R_alloc | apply Kd.R_drewN | apply Kd.R_drew)); exact HO259.out, by repeat (first | (with_reducible first | exact HB.out | apply below_alloc | apply pw_below_drewN | apply below_drew1) | exact HB.out)⟩
  · rw [if_neg c2] at H
    have c2b0 : (a0.toList == ([73, 100, 101, 110, 116] : List UInt8)) = false := beq_eq_false_iff_ne.mpr c2
    have c2b1 : (a0.toList != ([73, 100, 101, 110, 116] : List UInt8)) = true := bne_iff_ne.mpr c2
    by_cases c5 : a0.toList = ([66, 97, 115, 105, 99, 76, 105, 116] : List UInt8)
    · rw [if_pos c5] at H
      have c5b0 : (a0.toList == ([66, 97, 115, 105, 99, 76, 105, 116] : List UInt8)) = true := beq_iff_eq.mpr c5
      have c5b1 : (a0.toList != ([66, 97, 115, 105, 99, 76, 105, 116] : List UInt8)) = false := bne_eq_false_iff_eq.mpr c5
      clear c5
      obtain ⟨y260, hy260⟩ : ∃ y_ : List ByteArray, y_ = (([(⟨#[75, 105, 110, 100]⟩ : ByteArray), (⟨#[86, 97, 108, 117, 101]⟩ : ByteArray)] : List ByteArray)) := ⟨_, rfl⟩
      replace H : (some y260) = some r := by first | (rw [hy260]; with_reducible exact H) | (have H2_ := (Option.bind_some _ _).symm.trans H; rw [hy260]; with_reducible exact H2_) | (have H2_ := (Option.bind_some _ _).symm.trans H; with_reducible exact H2_) | with_reducible exact H | (rw [hy260]; exact H) | exact H
      have Ny260 := Aside0.mk hy260
      clear hy260
      obtain rfl := Option.some.inj H
      go_enter Try.func7, Try.ntmps7
      go_wp2_with (first | ((with_reducible refine gate_dst (N := 9) rfl ?_); refine Kd.R_lit Kd.string _ 9 ?hg (N := 9) ?hd (xs := ([(⟨#[75, 105, 110, 100]⟩ : ByteArray), (⟨#[86, 97, 108, 117, 101]⟩ : ByteArray)] : List ByteArray)) (inner := [.string (⟨#[75, 105, 110, 100]⟩ : ByteArray), .string (⟨#[86, 97, 108, 117, 101]⟩ : ByteArray)]) (ok := fun _ => True) (okp := fun _ => True) ?hr ?hp (fun _ hk => hk) trivial (Below.refl _ _) (Nat.le_refl _) (by simp) ?_; (case hd => rfl); (case hg => rfl); (case hr => first | (go_simp; done) | (go_simp; rfl)); (case hp => exact (Reps.one (show Kd.M Kd.string _ _ _ (⟨#[75, 105, 110, 100]⟩ : ByteArray) [.string (⟨#[75, 105, 110, 100]⟩ : ByteArray)] from rfl) (Reps.one (show Kd.M Kd.string _ _ _ (⟨#[86, 97, 108, 117, 101]⟩ : ByteArray) [.string (⟨#[86, 97, 108, 117, 101]⟩ : ByteArray)] from rfl) (Reps.none _ _)))); intro v261 w6 ho7 hb hg_ hnew_; clear hg_ hnew_; (first | rw [← Ny260.out] at ho7 | (simp only [Int.reduceToNat] at ho7; rw [← Ny260.out] at ho7)); have n0_ := Aside0.mk (Kd.R_lower ho7 (below_size (by repeat (first | (with_reducible first | exact HB.out | apply below_alloc | apply pw_below_drewN | apply below_drew1) | exact HB.out)))); have n1_ := Aside0.mk (below_step (by repeat (first | (with_reducible first | exact HB.out | apply below_alloc | apply pw_below_drewN | apply below_drew1) | exact HB.out)) hb); clear HB; have HO262 := n0_; have HB := n1_; clear n0_ n1_; clear hb ho7))
      go_ret
      exact ⟨_, by first | rfl | (simp [errW_none, errW_some] <;> rfl) | (simp [*, errW_none, errW_some] <;> rfl), by (with_reducible repeat (first | apply Kd.R_alloc | apply Kd.R_drewN | apply Kd.R_drew)); exact HO262.out, by repeat (first | (with_reducible first | exact HB.out | apply below_alloc | apply pw_below_drewN | apply below_drew1) | exact HB.out)⟩
    · rw [if_neg c5] at H
      have c5b0 : (a0.toList == ([66, 97, 115, 105, 99, 76, 105, 116] : List UInt8)) = false := beq_eq_false_iff_ne.mpr c5
      have c5b1 : (a0.toList != ([66, 97, 115, 105, 99, 76, 105, 116] : List UInt8)) = true := bne_iff_ne.mpr c5
      by_cases c8 : a0.toList = ([66, 105, 110, 97, 114, 121, 69, 120, 112, 114] : List UInt8)
      · rw [if_pos c8] at H
        have c8b0 : (a0.toList == ([66, 105, 110, 97, 114, 121, 69, 120, 112, 114] : List UInt8)) = true := beq_iff_eq.mpr c8
        have c8b1 : (a0.toList != ([66, 105, 110, 97, 114, 121, 69, 120, 112, 114] : List UInt8)) = false := bne_eq_false_iff_eq.mpr c8
        clear c8
        obtain ⟨y263, hy263⟩ : ∃ y_ : List ByteArray, y_ = (([(⟨#[88]⟩ : ByteArray), (⟨#[79, 112]⟩ : ByteArray), (⟨#[89]⟩ : ByteArray)] : List ByteArray)) := ⟨_, rfl⟩
        replace H : (some y263) = some r := by first | (rw [hy263]; with_reducible exact H) | (have H2_ := (Option.bind_some _ _).symm.trans H; rw [hy263]; with_reducible exact H2_) | (have H2_ := (Option.bind_some _ _).symm.trans H; with_reducible exact H2_) | with_reducible exact H | (rw [hy263]; exact H) | exact H
        have Ny263 := Aside0.mk hy263
        clear hy263
        obtain rfl := Option.some.inj H
        go_enter Try.func7, Try.ntmps7
        go_wp2_with (first | ((with_reducible refine gate_dst (N := 12) rfl ?_); refine Kd.R_lit Kd.string _ 9 ?hg (N := 12) ?hd (xs := ([(⟨#[88]⟩ : ByteArray), (⟨#[79, 112]⟩ : ByteArray), (⟨#[89]⟩ : ByteArray)] : List ByteArray)) (inner := [.string (⟨#[88]⟩ : ByteArray), .string (⟨#[79, 112]⟩ : ByteArray), .string (⟨#[89]⟩ : ByteArray)]) (ok := fun _ => True) (okp := fun _ => True) ?hr ?hp (fun _ hk => hk) trivial (Below.refl _ _) (Nat.le_refl _) (by simp) ?_; (case hd => rfl); (case hg => rfl); (case hr => first | (go_simp; done) | (go_simp; rfl)); (case hp => exact (Reps.one (show Kd.M Kd.string _ _ _ (⟨#[88]⟩ : ByteArray) [.string (⟨#[88]⟩ : ByteArray)] from rfl) (Reps.one (show Kd.M Kd.string _ _ _ (⟨#[79, 112]⟩ : ByteArray) [.string (⟨#[79, 112]⟩ : ByteArray)] from rfl) (Reps.one (show Kd.M Kd.string _ _ _ (⟨#[89]⟩ : ByteArray) [.string (⟨#[89]⟩ : ByteArray)] from rfl) (Reps.none _ _))))); intro v264 w9 ho10 hb hg_ hnew_; clear hg_ hnew_; (first | rw [← Ny263.out] at ho10 | (simp only [Int.reduceToNat] at ho10; rw [← Ny263.out] at ho10)); have n0_ := Aside0.mk (Kd.R_lower ho10 (below_size (by repeat (first | (with_reducible first | exact HB.out | apply below_alloc | apply pw_below_drewN | apply below_drew1) | exact HB.out)))); have n1_ := Aside0.mk (below_step (by repeat (first | (with_reducible first | exact HB.out | apply below_alloc | apply pw_below_drewN | apply below_drew1) | exact HB.out)) hb); clear HB; have HO265 := n0_; have HB := n1_; clear n0_ n1_; clear hb ho10))
        go_ret
        exact ⟨_, by first | rfl | (simp [errW_none, errW_some] <;> rfl) | (simp [*, errW_none, errW_some] <;> rfl), by (with_reducible repeat (first | apply Kd.R_alloc | apply Kd.R_drewN | apply Kd.R_drew)); exact HO265.out, by repeat (first | (with_reducible first | exact HB.out | apply below_alloc | apply pw_below_drewN | apply below_drew1) | exact HB.out)⟩
      · rw [if_neg c8] at H
        have c8b0 : (a0.toList == ([66, 105, 110, 97, 114, 121, 69, 120, 112, 114] : List UInt8)) = false := beq_eq_false_iff_ne.mpr c8
        have c8b1 : (a0.toList != ([66, 105, 110, 97, 114, 121, 69, 120, 112, 114] : List UInt8)) = true := bne_iff_ne.mpr c8
        by_cases c11 : a0.toList = ([85, 110, 97, 114, 121, 69, 120, 112, 114] : List UInt8)
        · rw [if_pos c11] at H
          have c11b0 : (a0.toList == ([85, 110, 97, 114, 121, 69, 120, 112, 114] : List UInt8)) = true := beq_iff_eq.mpr c11
          have c11b1 : (a0.toList != ([85, 110, 97, 114, 121, 69, 120, 112, 114] : List UInt8)) = false := bne_eq_false_iff_eq.mpr c11
          clear c11
          obtain ⟨y266, hy266⟩ : ∃ y_ : List ByteArray, y_ = (([(⟨#[79, 112]⟩ : ByteArray), (⟨#[88]⟩ : ByteArray)] : List ByteArray)) := ⟨_, rfl⟩
          replace H : (some y266) = some r := by first | (rw [hy266]; with_reducible exact H) | (have H2_ := (Option.bind_some _ _).symm.trans H; rw [hy266]; with_reducible exact H2_) | (have H2_ := (Option.bind_some _ _).symm.trans H; with_reducible exact H2_) | with_reducible exact H | (rw [hy266]; exact H) | exact H
          have Ny266 := Aside0.mk hy266
          clear hy266
          obtain rfl := Option.some.inj H
          go_enter Try.func7, Try.ntmps7
          go_wp2_with (first | ((with_reducible refine gate_dst (N := 15) rfl ?_); refine Kd.R_lit Kd.string _ 9 ?hg (N := 15) ?hd (xs := ([(⟨#[79, 112]⟩ : ByteArray), (⟨#[88]⟩ : ByteArray)] : List ByteArray)) (inner := [.string (⟨#[79, 112]⟩ : ByteArray), .string (⟨#[88]⟩ : ByteArray)]) (ok := fun _ => True) (okp := fun _ => True) ?hr ?hp (fun _ hk => hk) trivial (Below.refl _ _) (Nat.le_refl _) (by simp) ?_; (case hd => rfl); (case hg => rfl); (case hr => first | (go_simp; done) | (go_simp; rfl)); (case hp => exact (Reps.one (show Kd.M Kd.string _ _ _ (⟨#[79, 112]⟩ : ByteArray) [.string (⟨#[79, 112]⟩ : ByteArray)] from rfl) (Reps.one (show Kd.M Kd.string _ _ _ (⟨#[88]⟩ : ByteArray) [.string (⟨#[88]⟩ : ByteArray)] from rfl) (Reps.none _ _)))); intro v267 w12 ho13 hb hg_ hnew_; clear hg_ hnew_; (first | rw [← Ny266.out] at ho13 | (simp only [Int.reduceToNat] at ho13; rw [← Ny266.out] at ho13)); have n0_ := Aside0.mk (Kd.R_lower ho13 (below_size (by repeat (first | (with_reducible first | exact HB.out | apply below_alloc | apply pw_below_drewN | apply below_drew1) | exact HB.out)))); have n1_ := Aside0.mk (below_step (by repeat (first | (with_reducible first | exact HB.out | apply below_alloc | apply pw_below_drewN | apply below_drew1) | exact HB.out)) hb); clear HB; have HO268 := n0_; have HB := n1_; clear n0_ n1_; clear hb ho13))
          go_ret
          exact ⟨_, by first | rfl | (simp [errW_none, errW_some] <;> rfl) | (simp [*, errW_none, errW_some] <;> rfl), by (with_reducible repeat (first | apply Kd.R_alloc | apply Kd.R_drewN | apply Kd.R_drew)); exact HO268.out, by repeat (first | (with_reducible first | exact HB.out | apply below_alloc | apply pw_below_drewN | apply below_drew1) | exact HB.out)⟩
        · rw [if_neg c11] at H
          have c11b0 : (a0.toList == ([85, 110, 97, 114, 121, 69, 120, 112, 114] : List UInt8)) = false := beq_eq_false_iff_ne.mpr c11
          have c11b1 : (a0.toList != ([85, 110, 97, 114, 121, 69, 120, 112, 114] : List UInt8)) = true := bne_iff_ne.mpr c11
          by_cases c14 : a0.toList = ([67, 97, 108, 108, 69, 120, 112, 114] : List UInt8)
          · rw [if_pos c14] at H
            have c14b0 : (a0.toList == ([67, 97, 108, 108, 69, 120, 112, 114] : List UInt8)) = true := beq_iff_eq.mpr c14
            have c14b1 : (a0.toList != ([67, 97, 108, 108, 69, 120, 112, 114] : List UInt8)) = false := bne_eq_false_iff_eq.mpr c14
            clear c14
            obtain ⟨y269, hy269⟩ : ∃ y_ : List ByteArray, y_ = (([(⟨#[70, 117, 110]⟩ : ByteArray), (⟨#[65, 114, 103, 115]⟩ : ByteArray)] : List ByteArray)) := ⟨_, rfl⟩
            replace H : (some y269) = some r := by first | (rw [hy269]; with_reducible exact H) | (have H2_ := (Option.bind_some _ _).symm.trans H; rw [hy269]; with_reducible exact H2_) | (have H2_ := (Option.bind_some _ _).symm.trans H; with_reducible exact H2_) | with_reducible exact H | (rw [hy269]; exact H) | exact H
            have Ny269 := Aside0.mk hy269
            clear hy269
            obtain rfl := Option.some.inj H
            go_enter Try.func7, Try.ntmps7
            go_wp2_with (first | ((with_reducible refine gate_dst (N := 18) rfl ?_); refine Kd.R_lit Kd.string _ 9 ?hg (N := 18) ?hd (xs := ([(⟨#[70, 117, 110]⟩ : ByteArray), (⟨#[65, 114, 103, 115]⟩ : ByteArray)] : List ByteArray)) (inner := [.string (⟨#[70, 117, 110]⟩ : ByteArray), .string (⟨#[65, 114, 103, 115]⟩ : ByteArray)]) (ok := fun _ => True) (okp := fun _ => True) ?hr ?hp (fun _ hk => hk) trivial (Below.refl _ _) (Nat.le_refl _) (by simp) ?_; (case hd => rfl); (case hg => rfl); (case hr => first | (go_simp; done) | (go_simp; rfl)); (case hp => exact (Reps.one (show Kd.M Kd.string _ _ _ (⟨#[70, 117, 110]⟩ : ByteArray) [.string (⟨#[70, 117, 110]⟩ : ByteArray)] from rfl) (Reps.one (show Kd.M Kd.string _ _ _ (⟨#[65, 114, 103, 115]⟩ : ByteArray) [.string (⟨#[65, 114, 103, 115]⟩ : ByteArray)] from rfl) (Reps.none _ _)))); intro v270 w15 ho16 hb hg_ hnew_; clear hg_ hnew_; (first | rw [← Ny269.out] at ho16 | (simp only [Int.reduceToNat] at ho16; rw [← Ny269.out] at ho16)); have n0_ := Aside0.mk (Kd.R_lower ho16 (below_size (by repeat (first | (with_reducible first | exact HB.out | apply below_alloc | apply pw_below_drewN | apply below_drew1) | exact HB.out)))); have n1_ := Aside0.mk (below_step (by repeat (first | (with_reducible first | exact HB.out | apply below_alloc | apply pw_below_drewN | apply below_drew1) | exact HB.out)) hb); clear HB; have HO271 := n0_; have HB := n1_; clear n0_ n1_; clear hb ho16))
            go_ret
            exact ⟨_, by first | rfl | (simp [errW_none, errW_some] <;> rfl) | (simp [*, errW_none, errW_some] <;> rfl), by (with_reducible repeat (first | apply Kd.R_alloc | apply Kd.R_drewN | apply Kd.R_drew)); exact HO271.out, by repeat (first | (with_reducible first | exact HB.out | apply below_alloc | apply pw_below_drewN | apply below_drew1) | exact HB.out)⟩
          · rw [if_neg c14] at H
            have c14b0 : (a0.toList == ([67, 97, 108, 108, 69, 120, 112, 114] : List UInt8)) = false := beq_eq_false_iff_ne.mpr c14
            have c14b1 : (a0.toList != ([67, 97, 108, 108, 69, 120, 112, 114] : List UInt8)) = true := bne_iff_ne.mpr c14
            by_cases c17 : a0.toList = ([83, 101, 108, 101, 99, 116, 111, 114, 69, 120, 112, 114] : List UInt8)
            · rw [if_pos c17] at H
              have c17b0 : (a0.toList == ([83, 101, 108, 101, 99, 116, 111, 114, 69, 120, 112, 114] : List UInt8)) = true := beq_iff_eq.mpr c17
              have c17b1 : (a0.toList != ([83, 101, 108, 101, 99, 116, 111, 114, 69, 120, 112, 114] : List UInt8)) = false := bne_eq_false_iff_eq.mpr c17
              clear c17
              obtain ⟨y272, hy272⟩ : ∃ y_ : List ByteArray, y_ = (([(⟨#[88]⟩ : ByteArray), (⟨#[83, 101, 108]⟩ : ByteArray)] : List ByteArray)) := ⟨_, rfl⟩
              replace H : (some y272) = some r := by first | (rw [hy272]; with_reducible exact H) | (have H2_ := (Option.bind_some _ _).symm.trans H; rw [hy272]; with_reducible exact H2_) | (have H2_ := (Option.bind_some _ _).symm.trans H; with_reducible exact H2_) | with_reducible exact H | (rw [hy272]; exact H) | exact H
              have Ny272 := Aside0.mk hy272
              clear hy272
              obtain rfl := Option.some.inj H
              go_enter Try.func7, Try.ntmps7
              go_wp2_with (first | ((with_reducible refine gate_dst (N := 21) rfl ?_); refine Kd.R_lit Kd.string _ 9 ?hg (N := 21) ?hd (xs := ([(⟨#[88]⟩ : ByteArray), (⟨#[83, 101, 108]⟩ : ByteArray)] : List ByteArray)) (inner := [.string (⟨#[88]⟩ : ByteArray), .string (⟨#[83, 101, 108]⟩ : ByteArray)]) (ok := fun _ => True) (okp := fun _ => True) ?hr ?hp (fun _ hk => hk) trivial (Below.refl _ _) (Nat.le_refl _) (by simp) ?_; (case hd => rfl); (case hg => rfl); (case hr => first | (go_simp; done) | (go_simp; rfl)); (case hp => exact (Reps.one (show Kd.M Kd.string _ _ _ (⟨#[88]⟩ : ByteArray) [.string (⟨#[88]⟩ : ByteArray)] from rfl) (Reps.one (show Kd.M Kd.string _ _ _ (⟨#[83, 101, 108]⟩ : ByteArray) [.string (⟨#[83, 101, 108]⟩ : ByteArray)] from rfl) (Reps.none _ _)))); intro v273 w18 ho19 hb hg_ hnew_; clear hg_ hnew_; (first | rw [← Ny272.out] at ho19 | (simp only [Int.reduceToNat] at ho19; rw [← Ny272.out] at ho19)); have n0_ := Aside0.mk (Kd.R_lower ho19 (below_size (by repeat (first | (with_reducible first | exact HB.out | apply below_alloc | apply pw_below_drewN | apply below_drew1) | exact HB.out)))); have n1_ := Aside0.mk (below_step (by repeat (first | (with_reducible first | exact HB.out | apply below_alloc | apply pw_below_drewN | apply below_drew1) | exact HB.out)) hb); clear HB; have HO274 := n0_; have HB := n1_; clear n0_ n1_; clear hb ho19))
              go_ret
              exact ⟨_, by first | rfl | (simp [errW_none, errW_some] <;> rfl) | (simp [*, errW_none, errW_some] <;> rfl), by (with_reducible repeat (first | apply Kd.R_alloc | apply Kd.R_drewN | apply Kd.R_drew)); exact HO274.out, by repeat (first | (with_reducible first | exact HB.out | apply below_alloc | apply pw_below_drewN | apply below_drew1) | exact HB.out)⟩
            · rw [if_neg c17] at H
              have c17b0 : (a0.toList == ([83, 101, 108, 101, 99, 116, 111, 114, 69, 120, 112, 114] : List UInt8)) = false := beq_eq_false_iff_ne.mpr c17
              have c17b1 : (a0.toList != ([83, 101, 108, 101, 99, 116, 111, 114, 69, 120, 112, 114] : List UInt8)) = true := bne_iff_ne.mpr c17
              by_cases c20 : a0.toList = ([73, 110, 100, 101, 120, 69, 120, 112, 114] : List UInt8)
              · rw [if_pos c20] at H
                have c20b0 : (a0.toList == ([73, 110, 100, 101, 120, 69, 120, 112, 114] : List UInt8)) = true := beq_iff_eq.mpr c20
                have c20b1 : (a0.toList != ([73, 110, 100, 101, 120, 69, 120, 112, 114] : List UInt8)) = false := bne_eq_false_iff_eq.mpr c20
                clear c20
                obtain ⟨y275, hy275⟩ : ∃ y_ : List ByteArray, y_ = (([(⟨#[88]⟩ : ByteArray), (⟨#[73, 110, 100, 101, 120]⟩ : ByteArray)] : List ByteArray)) := ⟨_, rfl⟩
                replace H : (some y275) = some r := by first | (rw [hy275]; with_reducible exact H) | (have H2_ := (Option.bind_some _ _).symm.trans H; rw [hy275]; with_reducible exact H2_) | (have H2_ := (Option.bind_some _ _).symm.trans H; with_reducible exact H2_) | with_reducible exact H | (rw [hy275]; exact H) | exact H
                have Ny275 := Aside0.mk hy275
                clear hy275
                obtain rfl := Option.some.inj H
                go_enter Try.func7, Try.ntmps7
                go_wp2_with (first | ((with_reducible refine gate_dst (N := 24) rfl ?_); refine Kd.R_lit Kd.string _ 9 ?hg (N := 24) ?hd (xs := ([(⟨#[88]⟩ : ByteArray), (⟨#[73, 110, 100, 101, 120]⟩ : ByteArray)] : List ByteArray)) (inner := [.string (⟨#[88]⟩ : ByteArray), .string (⟨#[73, 110, 100, 101, 120]⟩ : ByteArray)]) (ok := fun _ => True) (okp := fun _ => True) ?hr ?hp (fun _ hk => hk) trivial (Below.refl _ _) (Nat.le_refl _) (by simp) ?_; (case hd => rfl); (case hg => rfl); (case hr => first | (go_simp; done) | (go_simp; rfl)); (case hp => exact (Reps.one (show Kd.M Kd.string _ _ _ (⟨#[88]⟩ : ByteArray) [.string (⟨#[88]⟩ : ByteArray)] from rfl) (Reps.one (show Kd.M Kd.string _ _ _ (⟨#[73, 110, 100, 101, 120]⟩ : ByteArray) [.string (⟨#[73, 110, 100, 101, 120]⟩ : ByteArray)] from rfl) (Reps.none _ _)))); intro v276 w21 ho22 hb hg_ hnew_; clear hg_ hnew_; (first | rw [← Ny275.out] at ho22 | (simp only [Int.reduceToNat] at ho22; rw [← Ny275.out] at ho22)); have n0_ := Aside0.mk (Kd.R_lower ho22 (below_size (by repeat (first | (with_reducible first | exact HB.out | apply below_alloc | apply pw_below_drewN | apply below_drew1) | exact HB.out)))); have n1_ := Aside0.mk (below_step (by repeat (first | (with_reducible first | exact HB.out | apply below_alloc | apply pw_below_drewN | apply below_drew1) | exact HB.out)) hb); clear HB; have HO277 := n0_; have HB := n1_; clear n0_ n1_; clear hb ho22))
                go_ret
                exact ⟨_, by first | rfl | (simp [errW_none, errW_some] <;> rfl) | (simp [*, errW_none, errW_some] <;> rfl), by (with_reducible repeat (first | apply Kd.R_alloc | apply Kd.R_drewN | apply Kd.R_drew)); exact HO277.out, by repeat (first | (with_reducible first | exact HB.out | apply below_alloc | apply pw_below_drewN | apply below_drew1) | exact HB.out)⟩
              · rw [if_neg c20] at H
                have c20b0 : (a0.toList == ([73, 110, 100, 101, 120, 69, 120, 112, 114] : List UInt8)) = false := beq_eq_false_iff_ne.mpr c20
                have c20b1 : (a0.toList != ([73, 110, 100, 101, 120, 69, 120, 112, 114] : List UInt8)) = true := bne_iff_ne.mpr c20
                have HC23 := Aside0.mk H
                clear H
                go_enter Try.func7, Try.ntmps7
                go_upto_if 25 with (fail)
                go_cut [25] (fun v25 wc => ∃ (kq : Nat) (x25_22 : Bool), v25 = .bool x25_22 ∧ Aside0 (spec_Fields.j0 kq a0 x25_22 = some r) ∧ Aside0 (kq ≤ k) ∧ Aside0 (Below w.heap.size w wc))
                case first =>
                  have H := HC23.out
                  clear HC23
                  by_cases c24 : a0.toList = ([83, 116, 97, 114, 69, 120, 112, 114] : List UInt8)
                  · rw [if_pos c24] at H
                    have c24b0 : (a0.toList == ([83, 116, 97, 114, 69, 120, 112, 114] : List UInt8)) = true := beq_iff_eq.mpr c24
                    have c24b1 : (a0.toList != ([83, 116, 97, 114, 69, 120, 112, 114] : List UInt8)) = false := bne_eq_false_iff_eq.mpr c24
                    clear c24
                    (first | rw [c24b0] | (simp only [i64_w, i32_w]; rw [c24b0]) | skip)
                    have H' := Aside0.mk H
                    clear H
                    go_wp2
                    go_meet
                    case rel => exact ⟨_, ((a0.toList == ([83, 116, 97, 114, 69, 120, 112, 114] : List UInt8))), (by first | rfl | (simp; done) | (simp [*]; done)), H', ⟨by first | omega | exact Nat.le_refl _⟩, ⟨by repeat (first | (with_reducible first | exact HB.out | apply below_alloc | apply pw_below_drewN | apply below_drew1) | exact HB.out)⟩⟩
                  · rw [if_neg c24] at H
                    have c24b0 : (a0.toList == ([83, 116, 97, 114, 69, 120, 112, 114] : List UInt8)) = false := beq_eq_false_iff_ne.mpr c24
                    have c24b1 : (a0.toList != ([83, 116, 97, 114, 69, 120, 112, 114] : List UInt8)) = true := bne_iff_ne.mpr c24
                    (first | rw [c24b0] | (simp only [i64_w, i32_w]; rw [c24b0]) | skip)
                    by_cases c25 : a0.toList = ([80, 97, 114, 101, 110, 69, 120, 112, 114] : List UInt8)
                    · rw [if_pos c25] at H
                      have c25b0 : (a0.toList == ([80, 97, 114, 101, 110, 69, 120, 112, 114] : List UInt8)) = true := beq_iff_eq.mpr c25
                      have c25b1 : (a0.toList != ([80, 97, 114, 101, 110, 69, 120, 112, 114] : List UInt8)) = false := bne_eq_false_iff_eq.mpr c25
                      clear c25
                      have H' := Aside0.mk H
                      clear H
                      go_wp2
                      go_meet
                      case rel => exact ⟨_, ((a0.toList == ([80, 97, 114, 101, 110, 69, 120, 112, 114] : List UInt8))), (by first | rfl | (simp; done) | (simp [*]; done)), H', ⟨by first | omega | exact Nat.le_refl _⟩, ⟨by repeat (first | (with_reducible first | exact HB.out | apply below_alloc | apply pw_below_drewN | apply below_drew1) | exact HB.out)⟩⟩
                    · rw [if_neg c25] at H
                      have c25b0 : (a0.toList == ([80, 97, 114, 101, 110, 69, 120, 112, 114] : List UInt8)) = false := beq_eq_false_iff_ne.mpr c25
                      have c25b1 : (a0.toList != ([80, 97, 114, 101, 110, 69, 120, 112, 114] : List UInt8)) = true := bne_iff_ne.mpr c25
                      have H' := Aside0.mk H
                      clear H
                      go_wp2
                      go_meet
                      case rel => exact ⟨_, ((a0.toList == ([69, 120, 112, 114, 83, 116, 109, 116] : List UInt8))), (by first | rfl | (simp; done) | (simp [*]; done)), H', ⟨by first | omega | exact Nat.le_refl _⟩, ⟨by repeat (first | (with_reducible first | exact HB.out | apply below_alloc | apply pw_below_drewN | apply below_drew1) | exact HB.out)⟩⟩
                case rest =>
                  clear HC23
                  try clear c1
                  try clear c2
                  try clear c2b0
                  try clear c2b1
                  try clear p2
                  try clear c5
                  try clear c5b0
                  try clear c5b1
                  try clear c7
                  try clear c8
                  try clear c8b0
                  try clear c8b1
                  try clear c11
                  try clear c11b0
                  try clear c11b1
                  try clear c14
                  try clear c14b0
                  try clear c14b1
                  try clear c17
                  try clear c17b0
                  try clear c17b1
                  try clear c20
                  try clear c20b0
                  try clear c20b1
                  try clear c24
                  try clear c24b0
                  try clear c24b1
                  try clear c25
                  try clear c25b0
                  try clear c25b1
                  obtain ⟨kq, x25_22, rfl, HA, HJ22, HB⟩ := hcut
                  cases kq with
                  | zero => exact absurd HA.out (by simp [spec_Fields.j0])
                  | succ kj22 =>
                    have H := HA.out
                    clear HA
                    simp only [spec_Fields.j0] at H
                    by_cases c26 : x25_22 = true
                    · subst c26
                      have H1 : (some (([(⟨#[88]⟩ : ByteArray)] : List ByteArray))) = some r := by rw [if_pos rfl] at H; exact H
                      clear H
                      have H := H1
                      clear H1
                      obtain ⟨y278, hy278⟩ : ∃ y_ : List ByteArray, y_ = (([(⟨#[88]⟩ : ByteArray)] : List ByteArray)) := ⟨_, rfl⟩
                      replace H : (some y278) = some r := by first | (rw [hy278]; with_reducible exact H) | (have H2_ := (Option.bind_some _ _).symm.trans H; rw [hy278]; with_reducible exact H2_) | (have H2_ := (Option.bind_some _ _).symm.trans H; with_reducible exact H2_) | with_reducible exact H | (rw [hy278]; exact H) | exact H
                      have Ny278 := Aside0.mk hy278
                      clear hy278
                      obtain rfl := Option.some.inj H
                      go_wp2_with (first | ((with_reducible refine gate_dst (N := 29) rfl ?_); refine Kd.R_lit Kd.string _ 9 ?hg (N := 29) ?hd (xs := ([(⟨#[88]⟩ : ByteArray)] : List ByteArray)) (inner := [.string (⟨#[88]⟩ : ByteArray)]) (ok := fun _ => True) (okp := fun _ => True) ?hr ?hp (fun _ hk => hk) trivial (Below.refl _ _) (Nat.le_refl _) (by simp) ?_; (case hd => rfl); (case hg => rfl); (case hr => first | (go_simp; done) | (go_simp; rfl)); (case hp => exact (Reps.one (show Kd.M Kd.string _ _ _ (⟨#[88]⟩ : ByteArray) [.string (⟨#[88]⟩ : ByteArray)] from rfl) (Reps.none _ _))); intro v279 w27 ho28 hb hg_ hnew_; clear hg_ hnew_; (first | rw [← Ny278.out] at ho28 | (simp only [Int.reduceToNat] at ho28; rw [← Ny278.out] at ho28)); have n0_ := Aside0.mk (Kd.R_lower ho28 (below_size (by repeat (first | (with_reducible first | exact HB.out | apply below_alloc | apply pw_below_drewN | apply below_drew1) | exact HB.out)))); have n1_ := Aside0.mk (below_step (by repeat (first | (with_reducible first | exact HB.out | apply below_alloc | apply pw_below_drewN | apply below_drew1) | exact HB.out)) hb); clear HB; have HO280 := n0_; have HB := n1_; clear n0_ n1_; clear hb ho28))
                      go_ret
                      exact ⟨_, by first | rfl | (simp [errW_none, errW_some] <;> rfl) | (simp [*, errW_none, errW_some] <;> rfl), by (with_reducible repeat (first | apply Kd.R_alloc | apply Kd.R_drewN | apply Kd.R_drew)); exact HO280.out, by repeat (first | (with_reducible first | exact HB.out | apply below_alloc | apply pw_below_drewN | apply below_drew1) | exact HB.out)⟩
                    · replace c26 := Bool.eq_false_iff.mpr c26
                      subst c26
                      have H1 : (if a0.toList = ([75, 101, 121, 86, 97, 108, 117, 101, 69, 120, 112, 114] : List UInt8) then (some (([(⟨#[75, 101, 121]⟩ : ByteArray), (⟨#[86, 97, 108, 117, 101]⟩ : ByteArray)] : List ByteArray))) else (if a0.toList = ([67, 111, 109, 112, 111, 115, 105, 116, 101, 76, 105, 116] : List UInt8) then (some (([(⟨#[84, 121, 112, 101]⟩ : ByteArray), (⟨#[69, 108, 116, 115]⟩ : ByteArray), (⟨#[73, 110, 99, 111, 109, 112, 108, 101, 116, 101]⟩ : ByteArray)] : List ByteArray))) else (if a0.toList = ([83, 108, 105, 99, 101, 69, 120, 112, 114] : List UInt8) then (some (([(⟨#[88]⟩ : ByteArray), (⟨#[76, 111, 119]⟩ : ByteArray), (⟨#[72, 105, 103, 104]⟩ : ByteArray), (⟨#[77, 97, 120]⟩ : ByteArray), (⟨#[83, 108, 105, 99, 101, 51]⟩ : ByteArray)] : List ByteArray))) else (if a0.toList = ([84, 121, 112, 101, 65, 115, 115, 101, 114, 116, 69, 120, 112, 114] : List UInt8) then (some (([(⟨#[88]⟩ : ByteArray), (⟨#[84, 121, 112, 101]⟩ : ByteArray)] : List ByteArray))) else (if a0.toList = ([65, 115, 115, 105, 103, 110, 83, 116, 109, 116] : List UInt8) then (some (([(⟨#[76, 104, 115]⟩ : ByteArray), (⟨#[84, 111, 107]⟩ : ByteArray), (⟨#[82, 104, 115]⟩ : ByteArray)] : List ByteArray))) else (if a0.toList = ([82, 101, 116, 117, 114, 110, 83, 116, 109, 116] : List UInt8) then (some (([(⟨#[82, 101, 115, 117, 108, 116, 115]⟩ : ByteArray)] : List ByteArray))) else (if a0.toList = ([73, 102, 83, 116, 109, 116] : List UInt8) then (some (([(⟨#[73, 110, 105, 116]⟩ : ByteArray), (⟨#[67, 111, 110, 100]⟩ : ByteArray), (⟨#[66, 111, 100, 121]⟩ : ByteArray), (⟨#[69, 108, 115, 101]⟩ : ByteArray)] : List ByteArray))) else (if a0.toList = ([66, 108, 111, 99, 107, 83, 116, 109, 116] : List UInt8) then (some (([(⟨#[76, 105, 115, 116]⟩ : ByteArray)] : List ByteArray))) else (if a0.toList = ([73, 110, 99, 68, 101, 99, 83, 116, 109, 116] : List UInt8) then (some (([(⟨#[88]⟩ : ByteArray), (⟨#[84, 111, 107]⟩ : ByteArray)] : List ByteArray))) else (if a0.toList = ([83, 101, 110, 100, 83, 116, 109, 116] : List UInt8) then (some (([(⟨#[67, 104, 97, 110]⟩ : ByteArray), (⟨#[86, 97, 108, 117, 101]⟩ : ByteArray)] : List ByteArray))) else (if a0.toList = ([71, 111, 83, 116, 109, 116] : List UInt8) then (spec_Fields.j1 kj22 a0 (a0.toList == ([71, 111, 83, 116, 109, 116] : List UInt8))) else (spec_Fields.j1 kj22 a0 (a0.toList == ([68, 101, 102, 101, 114, 83, 116, 109, 116] : List UInt8)))))))))))))) = some r := by rw [if_neg (show ¬ (false = true) by decide)] at H; exact H
                      clear H
                      have H := H1
                      clear H1
                      by_cases c29 : a0.toList = ([75, 101, 121, 86, 97, 108, 117, 101, 69, 120, 112, 114] : List UInt8)
                      · rw [if_pos c29] at H
                        have c29b0 : (a0.toList == ([75, 101, 121, 86, 97, 108, 117, 101, 69, 120, 112, 114] : List UInt8)) = true := beq_iff_eq.mpr c29
                        have c29b1 : (a0.toList != ([75, 101, 121, 86, 97, 108, 117, 101, 69, 120, 112, 114] : List UInt8)) = false := bne_eq_false_iff_eq.mpr c29
                        clear c29
                        obtain ⟨y281, hy281⟩ : ∃ y_ : List ByteArray, y_ = (([(⟨#[75, 101, 121]⟩ : ByteArray), (⟨#[86, 97, 108, 117, 101]⟩ : ByteArray)] : List ByteArray)) := ⟨_, rfl⟩
                        replace H : (some y281) = some r := by first | (rw [hy281]; with_reducible exact H) | (have H2_ := (Option.bind_some _ _).symm.trans H; rw [hy281]; with_reducible exact H2_) | (have H2_ := (Option.bind_some _ _).symm.trans H; with_reducible exact H2_) | with_reducible exact H | (rw [hy281]; exact H) | exact H
                        have Ny281 := Aside0.mk hy281
                        clear hy281
                        obtain rfl := Option.some.inj H
                        go_wp2_with (first | ((with_reducible refine gate_dst (N := 32) rfl ?_); refine Kd.R_lit Kd.string _ 9 ?hg (N := 32) ?hd (xs := ([(⟨#[75, 101, 121]⟩ : ByteArray), (⟨#[86, 97, 108, 117, 101]⟩ : ByteArray)] : List ByteArray)) (inner := [.string (⟨#[75, 101, 121]⟩ : ByteArray), .string (⟨#[86, 97, 108, 117, 101]⟩ : ByteArray)]) (ok := fun _ => True) (okp := fun _ => True) ?hr ?hp (fun _ hk => hk) trivial (Below.refl _ _) (Nat.le_refl _) (by simp) ?_; (case hd => rfl); (case hg => rfl); (case hr => first | (go_simp; done) | (go_simp; rfl)); (case hp => exact (Reps.one (show Kd.M Kd.string _ _ _ (⟨#[75, 101, 121]⟩ : ByteArray) [.string (⟨#[75, 101, 121]⟩ : ByteArray)] from rfl) (Reps.one (show Kd.M Kd.string _ _ _ (⟨#[86, 97, 108, 117, 101]⟩ : ByteArray) [.string (⟨#[86, 97, 108, 117, 101]⟩ : ByteArray)] from rfl) (Reps.none _ _)))); intro v282 w30 ho31 hb hg_ hnew_; clear hg_ hnew_; (first | rw [← Ny281.out] at ho31 | (simp only [Int.reduceToNat] at ho31; rw [← Ny281.out] at ho31)); have n0_ := Aside0.mk (Kd.R_lower ho31 (below_size (by repeat (first | (with_reducible first | exact HB.out | apply below_alloc | apply pw_below_drewN | apply below_drew1) | exact HB.out)))); have n1_ := Aside0.mk (below_step (by repeat (first | (with_reducible first | exact HB.out | apply below_alloc | apply pw_below_drewN | apply below_drew1) | exact HB.out)) hb); clear HB; have HO283 := n0_; have HB := n1_; clear n0_ n1_; clear hb ho31))
                        go_ret
                        exact ⟨_, by first | rfl | (simp [errW_none, errW_some] <;> rfl) | (simp [*, errW_none, errW_some] <;> rfl), by (with_reducible repeat (first | apply Kd.R_alloc | apply Kd.R_drewN | apply Kd.R_drew)); exact HO283.out, by repeat (first | (with_reducible first | exact HB.out | apply below_alloc | apply pw_below_drewN | apply below_drew1) | exact HB.out)⟩
                      · rw [if_neg c29] at H
                        have c29b0 : (a0.toList == ([75, 101, 121, 86, 97, 108, 117, 101, 69, 120, 112, 114] : List UInt8)) = false := beq_eq_false_iff_ne.mpr c29
                        have c29b1 : (a0.toList != ([75, 101, 121, 86, 97, 108, 117, 101, 69, 120, 112, 114] : List UInt8)) = true := bne_iff_ne.mpr c29
                        by_cases c32 : a0.toList = ([67, 111, 109, 112, 111, 115, 105, 116, 101, 76, 105, 116] : List UInt8)
                        · rw [if_pos c32] at H
                          have c32b0 : (a0.toList == ([67, 111, 109, 112, 111, 115, 105, 116, 101, 76, 105, 116] : List UInt8)) = true := beq_iff_eq.mpr c32
                          have c32b1 : (a0.toList != ([67, 111, 109, 112, 111, 115, 105, 116, 101, 76, 105, 116] : List UInt8)) = false := bne_eq_false_iff_eq.mpr c32
                          clear c32
                          obtain ⟨y284, hy284⟩ : ∃ y_ : List ByteArray, y_ = (([(⟨#[84, 121, 112, 101]⟩ : ByteArray), (⟨#[69, 108, 116, 115]⟩ : ByteArray), (⟨#[73, 110, 99, 111, 109, 112, 108, 101, 116, 101]⟩ : ByteArray)] : List ByteArray)) := ⟨_, rfl⟩
                          replace H : (some y284) = some r := by first | (rw [hy284]; with_reducible exact H) | (have H2_ := (Option.bind_some _ _).symm.trans H; rw [hy284]; with_reducible exact H2_) | (have H2_ := (Option.bind_some _ _).symm.trans H; with_reducible exact H2_) | with_reducible exact H | (rw [hy284]; exact H) | exact H
                          have Ny284 := Aside0.mk hy284
                          clear hy284
                          obtain rfl := Option.some.inj H
                          go_wp2_with (first | ((with_reducible refine gate_dst (N := 35) rfl ?_); refine Kd.R_lit Kd.string _ 9 ?hg (N := 35) ?hd (xs := ([(⟨#[84, 121, 112, 101]⟩ : ByteArray), (⟨#[69, 108, 116, 115]⟩ : ByteArray), (⟨#[73, 110, 99, 111, 109, 112, 108, 101, 116, 101]⟩ : ByteArray)] : List ByteArray)) (inner := [.string (⟨#[84, 121, 112, 101]⟩ : ByteArray), .string (⟨#[69, 108, 116, 115]⟩ : ByteArray), .string (⟨#[73, 110, 99, 111, 109, 112, 108, 101, 116, 101]⟩ : ByteArray)]) (ok := fun _ => True) (okp := fun _ => True) ?hr ?hp (fun _ hk => hk) trivial (Below.refl _ _) (Nat.le_refl _) (by simp) ?_; (case hd => rfl); (case hg => rfl); (case hr => first | (go_simp; done) | (go_simp; rfl)); (case hp => exact (Reps.one (show Kd.M Kd.string _ _ _ (⟨#[84, 121, 112, 101]⟩ : ByteArray) [.string (⟨#[84, 121, 112, 101]⟩ : ByteArray)] from rfl) (Reps.one (show Kd.M Kd.string _ _ _ (⟨#[69, 108, 116, 115]⟩ : ByteArray) [.string (⟨#[69, 108, 116, 115]⟩ : ByteArray)] from rfl) (Reps.one (show Kd.M Kd.string _ _ _ (⟨#[73, 110, 99, 111, 109, 112, 108, 101, 116, 101]⟩ : ByteArray) [.string (⟨#[73, 110, 99, 111, 109, 112, 108, 101, 116, 101]⟩ : ByteArray)] from rfl) (Reps.none _ _))))); intro v285 w33 ho34 hb hg_ hnew_; clear hg_ hnew_; (first | rw [← Ny284.out] at ho34 | (simp only [Int.reduceToNat] at ho34; rw [← Ny284.out] at ho34)); have n0_ := Aside0.mk (Kd.R_lower ho34 (below_size (by repeat (first | (with_reducible first | exact HB.out | apply below_alloc | apply pw_below_drewN | apply below_drew1) | exact HB.out)))); have n1_ := Aside0.mk (below_step (by repeat (first | (with_reducible first | exact HB.out | apply below_alloc | apply pw_below_drewN | apply below_drew1) | exact HB.out)) hb); clear HB; have HO286 := n0_; have HB := n1_; clear n0_ n1_; clear hb ho34))
                          go_ret
                          exact ⟨_, by first | rfl | (simp [errW_none, errW_some] <;> rfl) | (simp [*, errW_none, errW_some] <;> rfl), by (with_reducible repeat (first | apply Kd.R_alloc | apply Kd.R_drewN | apply Kd.R_drew)); exact HO286.out, by repeat (first | (with_reducible first | exact HB.out | apply below_alloc | apply pw_below_drewN | apply below_drew1) | exact HB.out)⟩
                        · rw [if_neg c32] at H
                          have c32b0 : (a0.toList == ([67, 111, 109, 112, 111, 115, 105, 116, 101, 76, 105, 116] : List UInt8)) = false := beq_eq_false_iff_ne.mpr c32
                          have c32b1 : (a0.toList != ([67, 111, 109, 112, 111, 115, 105, 116, 101, 76, 105, 116] : List UInt8)) = true := bne_iff_ne.mpr c32
                          by_cases c35 : a0.toList = ([83, 108, 105, 99, 101, 69, 120, 112, 114] : List UInt8)
                          · rw [if_pos c35] at H
                            have c35b0 : (a0.toList == ([83, 108, 105, 99, 101, 69, 120, 112, 114] : List UInt8)) = true := beq_iff_eq.mpr c35
                            have c35b1 : (a0.toList != ([83, 108, 105, 99, 101, 69, 120, 112, 114] : List UInt8)) = false := bne_eq_false_iff_eq.mpr c35
                            clear c35
                            obtain ⟨y287, hy287⟩ : ∃ y_ : List ByteArray, y_ = (([(⟨#[88]⟩ : ByteArray), (⟨#[76, 111, 119]⟩ : ByteArray), (⟨#[72, 105, 103, 104]⟩ : ByteArray), (⟨#[77, 97, 120]⟩ : ByteArray), (⟨#[83, 108, 105, 99, 101, 51]⟩ : ByteArray)] : List ByteArray)) := ⟨_, rfl⟩
                            replace H : (some y287) = some r := by first | (rw [hy287]; with_reducible exact H) | (have H2_ := (Option.bind_some _ _).symm.trans H; rw [hy287]; with_reducible exact H2_) | (have H2_ := (Option.bind_some _ _).symm.trans H; with_reducible exact H2_) | with_reducible exact H | (rw [hy287]; exact H) | exact H
                            have Ny287 := Aside0.mk hy287
                            clear hy287
                            obtain rfl := Option.some.inj H
                            go_wp2_with (first | ((with_reducible refine gate_dst (N := 38) rfl ?_); refine Kd.R_lit Kd.string _ 9 ?hg (N := 38) ?hd (xs := ([(⟨#[88]⟩ : ByteArray), (⟨#[76, 111, 119]⟩ : ByteArray), (⟨#[72, 105, 103, 104]⟩ : ByteArray), (⟨#[77, 97, 120]⟩ : ByteArray), (⟨#[83, 108, 105, 99, 101, 51]⟩ : ByteArray)] : List ByteArray)) (inner := [.string (⟨#[88]⟩ : ByteArray), .string (⟨#[76, 111, 119]⟩ : ByteArray), .string (⟨#[72, 105, 103, 104]⟩ : ByteArray), .string (⟨#[77, 97, 120]⟩ : ByteArray), .string (⟨#[83, 108, 105, 99, 101, 51]⟩ : ByteArray)]) (ok := fun _ => True) (okp := fun _ => True) ?hr ?hp (fun _ hk => hk) trivial (Below.refl _ _) (Nat.le_refl _) (by simp) ?_; (case hd => rfl); (case hg => rfl); (case hr => first | (go_simp; done) | (go_simp; rfl)); (case hp => exact (Reps.one (show Kd.M Kd.string _ _ _ (⟨#[88]⟩ : ByteArray) [.string (⟨#[88]⟩ : ByteArray)] from rfl) (Reps.one (show Kd.M Kd.string _ _ _ (⟨#[76, 111, 119]⟩ : ByteArray) [.string (⟨#[76, 111, 119]⟩ : ByteArray)] from rfl) (Reps.one (show Kd.M Kd.string _ _ _ (⟨#[72, 105, 103, 104]⟩ : ByteArray) [.string (⟨#[72, 105, 103, 104]⟩ : ByteArray)] from rfl) (Reps.one (show Kd.M Kd.string _ _ _ (⟨#[77, 97, 120]⟩ : ByteArray) [.string (⟨#[77, 97, 120]⟩ : ByteArray)] from rfl) (Reps.one (show Kd.M Kd.string _ _ _ (⟨#[83, 108, 105, 99, 101, 51]⟩ : ByteArray) [.string (⟨#[83, 108, 105, 99, 101, 51]⟩ : ByteArray)] from rfl) (Reps.none _ _))))))); intro v288 w36 ho37 hb hg_ hnew_; clear hg_ hnew_; (first | rw [← Ny287.out] at ho37 | (simp only [Int.reduceToNat] at ho37; rw [← Ny287.out] at ho37)); have n0_ := Aside0.mk (Kd.R_lower ho37 (below_size (by repeat (first | (with_reducible first | exact HB.out | apply below_alloc | apply pw_below_drewN | apply below_drew1) | exact HB.out)))); have n1_ := Aside0.mk (below_step (by repeat (first | (with_reducible first | exact HB.out | apply below_alloc | apply pw_below_drewN | apply below_drew1) | exact HB.out)) hb); clear HB; have HO289 := n0_; have HB := n1_; clear n0_ n1_; clear hb ho37))
                            go_ret
                            exact ⟨_, by first | rfl | (simp [errW_none, errW_some] <;> rfl) | (simp [*, errW_none, errW_some] <;> rfl), by (with_reducible repeat (first | apply Kd.R_alloc | apply Kd.R_drewN | apply Kd.R_drew)); exact HO289.out, by repeat (first | (with_reducible first | exact HB.out | apply below_alloc | apply pw_below_drewN | apply below_drew1) | exact HB.out)⟩
                          · rw [if_neg c35] at H
                            have c35b0 : (a0.toList == ([83, 108, 105, 99, 101, 69, 120, 112, 114] : List UInt8)) = false := beq_eq_false_iff_ne.mpr c35
                            have c35b1 : (a0.toList != ([83, 108, 105, 99, 101, 69, 120, 112, 114] : List UInt8)) = true := bne_iff_ne.mpr c35
                            by_cases c38 : a0.toList = ([84, 121, 112, 101, 65, 115, 115, 101, 114, 116, 69, 120, 112, 114] : List UInt8)
                            · rw [if_pos c38] at H
                              have c38b0 : (a0.toList == ([84, 121, 112, 101, 65, 115, 115, 101, 114, 116, 69, 120, 112, 114] : List UInt8)) = true := beq_iff_eq.mpr c38
                              have c38b1 : (a0.toList != ([84, 121, 112, 101, 65, 115, 115, 101, 114, 116, 69, 120, 112, 114] : List UInt8)) = false := bne_eq_false_iff_eq.mpr c38
                              clear c38
                              obtain ⟨y290, hy290⟩ : ∃ y_ : List ByteArray, y_ = (([(⟨#[88]⟩ : ByteArray), (⟨#[84, 121, 112, 101]⟩ : ByteArray)] : List ByteArray)) := ⟨_, rfl⟩
                              replace H : (some y290) = some r := by first | (rw [hy290]; with_reducible exact H) | (have H2_ := (Option.bind_some _ _).symm.trans H; rw [hy290]; with_reducible exact H2_) | (have H2_ := (Option.bind_some _ _).symm.trans H; with_reducible exact H2_) | with_reducible exact H | (rw [hy290]; exact H) | exact H
                              have Ny290 := Aside0.mk hy290
                              clear hy290
                              obtain rfl := Option.some.inj H
                              go_wp2_with (first | ((with_reducible refine gate_dst (N := 41) rfl ?_); refine Kd.R_lit Kd.string _ 9 ?hg (N := 41) ?hd (xs := ([(⟨#[88]⟩ : ByteArray), (⟨#[84, 121, 112, 101]⟩ : ByteArray)] : List ByteArray)) (inner := [.string (⟨#[88]⟩ : ByteArray), .string (⟨#[84, 121, 112, 101]⟩ : ByteArray)]) (ok := fun _ => True) (okp := fun _ => True) ?hr ?hp (fun _ hk => hk) trivial (Below.refl _ _) (Nat.le_refl _) (by simp) ?_; (case hd => rfl); (case hg => rfl); (case hr => first | (go_simp; done) | (go_simp; rfl)); (case hp => exact (Reps.one (show Kd.M Kd.string _ _ _ (⟨#[88]⟩ : ByteArray) [.string (⟨#[88]⟩ : ByteArray)] from rfl) (Reps.one (show Kd.M Kd.string _ _ _ (⟨#[84, 121, 112, 101]⟩ : ByteArray) [.string (⟨#[84, 121, 112, 101]⟩ : ByteArray)] from rfl) (Reps.none _ _)))); intro v291 w39 ho40 hb hg_ hnew_; clear hg_ hnew_; (first | rw [← Ny290.out] at ho40 | (simp only [Int.reduceToNat] at ho40; rw [← Ny290.out] at ho40)); have n0_ := Aside0.mk (Kd.R_lower ho40 (below_size (by repeat (first | (with_reducible first | exact HB.out | apply below_alloc | apply pw_below_drewN | apply below_drew1) | exact HB.out)))); have n1_ := Aside0.mk (below_step (by repeat (first | (with_reducible first | exact HB.out | apply below_alloc | apply pw_below_drewN | apply below_drew1) | exact HB.out)) hb); clear HB; have HO292 := n0_; have HB := n1_; clear n0_ n1_; clear hb ho40))
                              go_ret
                              exact ⟨_, by first | rfl | (simp [errW_none, errW_some] <;> rfl) | (simp [*, errW_none, errW_some] <;> rfl), by (with_reducible repeat (first | apply Kd.R_alloc | apply Kd.R_drewN | apply Kd.R_drew)); exact HO292.out, by repeat (first | (with_reducible first | exact HB.out | apply below_alloc | apply pw_below_drewN | apply below_drew1) | exact HB.out)⟩
                            · rw [if_neg c38] at H
                              have c38b0 : (a0.toList == ([84, 121, 112, 101, 65, 115, 115, 101, 114, 116, 69, 120, 112, 114] : List UInt8)) = false := beq_eq_false_iff_ne.mpr c38
                              have c38b1 : (a0.toList != ([84, 121, 112, 101, 65, 115, 115, 101, 114, 116, 69, 120, 112, 114] : List UInt8)) = true := bne_iff_ne.mpr c38
                              by_cases c41 : a0.toList = ([65, 115, 115, 105, 103, 110, 83, 116, 109, 116] : List UInt8)
                              · rw [if_pos c41] at H
                                have c41b0 : (a0.toList == ([65, 115, 115, 105, 103, 110, 83, 116, 109, 116] : List UInt8)) = true := beq_iff_eq.mpr c41
                                have c41b1 : (a0.toList != ([65, 115, 115, 105, 103, 110, 83, 116, 109, 116] : List UInt8)) = false := bne_eq_false_iff_eq.mpr c41
                                clear c41
                                obtain ⟨y293, hy293⟩ : ∃ y_ : List ByteArray, y_ = (([(⟨#[76, 104, 115]⟩ : ByteArray), (⟨#[84, 111, 107]⟩ : ByteArray), (⟨#[82, 104, 115]⟩ : ByteArray)] : List ByteArray)) := ⟨_, rfl⟩
                                replace H : (some y293) = some r := by first | (rw [hy293]; with_reducible exact H) | (have H2_ := (Option.bind_some _ _).symm.trans H; rw [hy293]; with_reducible exact H2_) | (have H2_ := (Option.bind_some _ _).symm.trans H; with_reducible exact H2_) | with_reducible exact H | (rw [hy293]; exact H) | exact H
                                have Ny293 := Aside0.mk hy293
                                clear hy293
                                obtain rfl := Option.some.inj H
                                go_wp2_with (first | ((with_reducible refine gate_dst (N := 44) rfl ?_); refine Kd.R_lit Kd.string _ 9 ?hg (N := 44) ?hd (xs := ([(⟨#[76, 104, 115]⟩ : ByteArray), (⟨#[84, 111, 107]⟩ : ByteArray), (⟨#[82, 104, 115]⟩ : ByteArray)] : List ByteArray)) (inner := [.string (⟨#[76, 104, 115]⟩ : ByteArray), .string (⟨#[84, 111, 107]⟩ : ByteArray), .string (⟨#[82, 104, 115]⟩ : ByteArray)]) (ok := fun _ => True) (okp := fun _ => True) ?hr ?hp (fun _ hk => hk) trivial (Below.refl _ _) (Nat.le_refl _) (by simp) ?_; (case hd => rfl); (case hg => rfl); (case hr => first | (go_simp; done) | (go_simp; rfl)); (case hp => exact (Reps.one (show Kd.M Kd.string _ _ _ (⟨#[76, 104, 115]⟩ : ByteArray) [.string (⟨#[76, 104, 115]⟩ : ByteArray)] from rfl) (Reps.one (show Kd.M Kd.string _ _ _ (⟨#[84, 111, 107]⟩ : ByteArray) [.string (⟨#[84, 111, 107]⟩ : ByteArray)] from rfl) (Reps.one (show Kd.M Kd.string _ _ _ (⟨#[82, 104, 115]⟩ : ByteArray) [.string (⟨#[82, 104, 115]⟩ : ByteArray)] from rfl) (Reps.none _ _))))); intro v294 w42 ho43 hb hg_ hnew_; clear hg_ hnew_; (first | rw [← Ny293.out] at ho43 | (simp only [Int.reduceToNat] at ho43; rw [← Ny293.out] at ho43)); have n0_ := Aside0.mk (Kd.R_lower ho43 (below_size (by repeat (first | (with_reducible first | exact HB.out | apply below_alloc | apply pw_below_drewN | apply below_drew1) | exact HB.out)))); have n1_ := Aside0.mk (below_step (by repeat (first | (with_reducible first | exact HB.out | apply below_alloc | apply pw_below_drewN | apply below_drew1) | exact HB.out)) hb); clear HB; have HO295 := n0_; have HB := n1_; clear n0_ n1_; clear hb ho43))
                                go_ret
                                exact ⟨_, by first | rfl | (simp [errW_none, errW_some] <;> rfl) | (simp [*, errW_none, errW_some] <;> rfl), by (with_reducible repeat (first | apply Kd.R_alloc | apply Kd.R_drewN | apply Kd.R_drew)); exact HO295.out, by repeat (first | (with_reducible first | exact HB.out | apply below_alloc | apply pw_below_drewN | apply below_drew1) | exact HB.out)⟩
                              · rw [if_neg c41] at H
                                have c41b0 : (a0.toList == ([65, 115, 115, 105, 103, 110, 83, 116, 109, 116] : List UInt8)) = false := beq_eq_false_iff_ne.mpr c41
                                have c41b1 : (a0.toList != ([65, 115, 115, 105, 103, 110, 83, 116, 109, 116] : List UInt8)) = true := bne_iff_ne.mpr c41
                                by_cases c44 : a0.toList = ([82, 101, 116, 117, 114, 110, 83, 116, 109, 116] : List UInt8)
                                · rw [if_pos c44] at H
                                  have c44b0 : (a0.toList == ([82, 101, 116, 117, 114, 110, 83, 116, 109, 116] : List UInt8)) = true := beq_iff_eq.mpr c44
                                  have c44b1 : (a0.toList != ([82, 101, 116, 117, 114, 110, 83, 116, 109, 116] : List UInt8)) = false := bne_eq_false_iff_eq.mpr c44
                                  clear c44
                                  obtain ⟨y296, hy296⟩ : ∃ y_ : List ByteArray, y_ = (([(⟨#[82, 101, 115, 117, 108, 116, 115]⟩ : ByteArray)] : List ByteArray)) := ⟨_, rfl⟩
                                  replace H : (some y296) = some r := by first | (rw [hy296]; with_reducible exact H) | (have H2_ := (Option.bind_some _ _).symm.trans H; rw [hy296]; with_reducible exact H2_) | (have H2_ := (Option.bind_some _ _).symm.trans H; with_reducible exact H2_) | with_reducible exact H | (rw [hy296]; exact H) | exact H
                                  have Ny296 := Aside0.mk hy296
                                  clear hy296
                                  obtain rfl := Option.some.inj H
                                  go_wp2_with (first | ((with_reducible refine gate_dst (N := 47) rfl ?_); refine Kd.R_lit Kd.string _ 9 ?hg (N := 47) ?hd (xs := ([(⟨#[82, 101, 115, 117, 108, 116, 115]⟩ : ByteArray)] : List ByteArray)) (inner := [.string (⟨#[82, 101, 115, 117, 108, 116, 115]⟩ : ByteArray)]) (ok := fun _ => True) (okp := fun _ => True) ?hr ?hp (fun _ hk => hk) trivial (Below.refl _ _) (Nat.le_refl _) (by simp) ?_; (case hd => rfl); (case hg => rfl); (case hr => first | (go_simp; done) | (go_simp; rfl)); (case hp => exact (Reps.one (show Kd.M Kd.string _ _ _ (⟨#[82, 101, 115, 117, 108, 116, 115]⟩ : ByteArray) [.string (⟨#[82, 101, 115, 117, 108, 116, 115]⟩ : ByteArray)] from rfl) (Reps.none _ _))); intro v297 w45 ho46 hb hg_ hnew_; clear hg_ hnew_; (first | rw [← Ny296.out] at ho46 | (simp only [Int.reduceToNat] at ho46; rw [← Ny296.out] at ho46)); have n0_ := Aside0.mk (Kd.R_lower ho46 (below_size (by repeat (first | (with_reducible first | exact HB.out | apply below_alloc | apply pw_below_drewN | apply below_drew1) | exact HB.out)))); have n1_ := Aside0.mk (below_step (by repeat (first | (with_reducible first | exact HB.out | apply below_alloc | apply pw_below_drewN | apply below_drew1) | exact HB.out)) hb); clear HB; have HO298 := n0_; have HB := n1_; clear n0_ n1_; clear hb ho46))
                                  go_ret
                                  exact ⟨_, by first | rfl | (simp [errW_none, errW_some] <;> rfl) | (simp [*, errW_none, errW_some] <;> rfl), by (with_reducible repeat (first | apply Kd.R_alloc | apply Kd.R_drewN | apply Kd.R_drew)); exact HO298.out, by repeat (first | (with_reducible first | exact HB.out | apply below_alloc | apply pw_below_drewN | apply below_drew1) | exact HB.out)⟩
                                · rw [if_neg c44] at H
                                  have c44b0 : (a0.toList == ([82, 101, 116, 117, 114, 110, 83, 116, 109, 116] : List UInt8)) = false := beq_eq_false_iff_ne.mpr c44
                                  have c44b1 : (a0.toList != ([82, 101, 116, 117, 114, 110, 83, 116, 109, 116] : List UInt8)) = true := bne_iff_ne.mpr c44
                                  by_cases c47 : a0.toList = ([73, 102, 83, 116, 109, 116] : List UInt8)
                                  · rw [if_pos c47] at H
                                    have c47b0 : (a0.toList == ([73, 102, 83, 116, 109, 116] : List UInt8)) = true := beq_iff_eq.mpr c47
                                    have c47b1 : (a0.toList != ([73, 102, 83, 116, 109, 116] : List UInt8)) = false := bne_eq_false_iff_eq.mpr c47
                                    clear c47
                                    obtain ⟨y299, hy299⟩ : ∃ y_ : List ByteArray, y_ = (([(⟨#[73, 110, 105, 116]⟩ : ByteArray), (⟨#[67, 111, 110, 100]⟩ : ByteArray), (⟨#[66, 111, 100, 121]⟩ : ByteArray), (⟨#[69, 108, 115, 101]⟩ : ByteArray)] : List ByteArray)) := ⟨_, rfl⟩
                                    replace H : (some y299) = some r := by first | (rw [hy299]; with_reducible exact H) | (have H2_ := (Option.bind_some _ _).symm.trans H; rw [hy299]; with_reducible exact H2_) | (have H2_ := (Option.bind_some _ _).symm.trans H; with_reducible exact H2_) | with_reducible exact H | (rw [hy299]; exact H) | exact H
                                    have Ny299 := Aside0.mk hy299
                                    clear hy299
                                    obtain rfl := Option.some.inj H
                                    go_wp2_with (first | ((with_reducible refine gate_dst (N := 50) rfl ?_); refine Kd.R_lit Kd.string _ 9 ?hg (N := 50) ?hd (xs := ([(⟨#[73, 110, 105, 116]⟩ : ByteArray), (⟨#[67, 111, 110, 100]⟩ : ByteArray), (⟨#[66, 111, 100, 121]⟩ : ByteArray), (⟨#[69, 108, 115, 101]⟩ : ByteArray)] : List ByteArray)) (inner := [.string (⟨#[73, 110, 105, 116]⟩ : ByteArray), .string (⟨#[67, 111, 110, 100]⟩ : ByteArray), .string (⟨#[66, 111, 100, 121]⟩ : ByteArray), .string (⟨#[69, 108, 115, 101]⟩ : ByteArray)]) (ok := fun _ => True) (okp := fun _ => True) ?hr ?hp (fun _ hk => hk) trivial (Below.refl _ _) (Nat.le_refl _) (by simp) ?_; (case hd => rfl); (case hg => rfl); (case hr => first | (go_simp; done) | (go_simp; rfl)); (case hp => exact (Reps.one (show Kd.M Kd.string _ _ _ (⟨#[73, 110, 105, 116]⟩ : ByteArray) [.string (⟨#[73, 110, 105, 116]⟩ : ByteArray)] from rfl) (Reps.one (show Kd.M Kd.string _ _ _ (⟨#[67, 111, 110, 100]⟩ : ByteArray) [.string (⟨#[67, 111, 110, 100]⟩ : ByteArray)] from rfl) (Reps.one (show Kd.M Kd.string _ _ _ (⟨#[66, 111, 100, 121]⟩ : ByteArray) [.string (⟨#[66, 111, 100, 121]⟩ : ByteArray)] from rfl) (Reps.one (show Kd.M Kd.string _ _ _ (⟨#[69, 108, 115, 101]⟩ : ByteArray) [.string (⟨#[69, 108, 115, 101]⟩ : ByteArray)] from rfl) (Reps.none _ _)))))); intro v300 w48 ho49 hb hg_ hnew_; clear hg_ hnew_; (first | rw [← Ny299.out] at ho49 | (simp only [Int.reduceToNat] at ho49; rw [← Ny299.out] at ho49)); have n0_ := Aside0.mk (Kd.R_lower ho49 (below_size (by repeat (first | (with_reducible first | exact HB.out | apply below_alloc | apply pw_below_drewN | apply below_drew1) | exact HB.out)))); have n1_ := Aside0.mk (below_step (by repeat (first | (with_reducible first | exact HB.out | apply below_alloc | apply pw_below_drewN | apply below_drew1) | exact HB.out)) hb); clear HB; have HO301 := n0_; have HB := n1_; clear n0_ n1_; clear hb ho49))
                                    go_ret
                                    exact ⟨_, by first | rfl | (simp [errW_none, errW_some] <;> rfl) | (simp [*, errW_none, errW_some] <;> rfl), by (with_reducible repeat (first | apply Kd.R_alloc | apply Kd.R_drewN | apply Kd.R_drew)); exact HO301.out, by repeat (first | (with_reducible first | exact HB.out | apply below_alloc | apply pw_below_drewN | apply below_drew1) | exact HB.out)⟩
                                  · rw [if_neg c47] at H
                                    have c47b0 : (a0.toList == ([73, 102, 83, 116, 109, 116] : List UInt8)) = false := beq_eq_false_iff_ne.mpr c47
                                    have c47b1 : (a0.toList != ([73, 102, 83, 116, 109, 116] : List UInt8)) = true := bne_iff_ne.mpr c47
                                    by_cases c50 : a0.toList = ([66, 108, 111, 99, 107, 83, 116, 109, 116] : List UInt8)
                                    · rw [if_pos c50] at H
                                      have c50b0 : (a0.toList == ([66, 108, 111, 99, 107, 83, 116, 109, 116] : List UInt8)) = true := beq_iff_eq.mpr c50
                                      have c50b1 : (a0.toList != ([66, 108, 111, 99, 107, 83, 116, 109, 116] : List UInt8)) = false := bne_eq_false_iff_eq.mpr c50
                                      clear c50
                                      obtain ⟨y302, hy302⟩ : ∃ y_ : List ByteArray, y_ = (([(⟨#[76, 105, 115, 116]⟩ : ByteArray)] : List ByteArray)) := ⟨_, rfl⟩
                                      replace H : (some y302) = some r := by first | (rw [hy302]; with_reducible exact H) | (have H2_ := (Option.bind_some _ _).symm.trans H; rw [hy302]; with_reducible exact H2_) | (have H2_ := (Option.bind_some _ _).symm.trans H; with_reducible exact H2_) | with_reducible exact H | (rw [hy302]; exact H) | exact H
                                      have Ny302 := Aside0.mk hy302
                                      clear hy302
                                      obtain rfl := Option.some.inj H
                                      go_wp2_with (first | ((with_reducible refine gate_dst (N := 53) rfl ?_); refine Kd.R_lit Kd.string _ 9 ?hg (N := 53) ?hd (xs := ([(⟨#[76, 105, 115, 116]⟩ : ByteArray)] : List ByteArray)) (inner := [.string (⟨#[76, 105, 115, 116]⟩ : ByteArray)]) (ok := fun _ => True) (okp := fun _ => True) ?hr ?hp (fun _ hk => hk) trivial (Below.refl _ _) (Nat.le_refl _) (by simp) ?_; (case hd => rfl); (case hg => rfl); (case hr => first | (go_simp; done) | (go_simp; rfl)); (case hp => exact (Reps.one (show Kd.M Kd.string _ _ _ (⟨#[76, 105, 115, 116]⟩ : ByteArray) [.string (⟨#[76, 105, 115, 116]⟩ : ByteArray)] from rfl) (Reps.none _ _))); intro v303 w51 ho52 hb hg_ hnew_; clear hg_ hnew_; (first | rw [← Ny302.out] at ho52 | (simp only [Int.reduceToNat] at ho52; rw [← Ny302.out] at ho52)); have n0_ := Aside0.mk (Kd.R_lower ho52 (below_size (by repeat (first | (with_reducible first | exact HB.out | apply below_alloc | apply pw_below_drewN | apply below_drew1) | exact HB.out)))); have n1_ := Aside0.mk (below_step (by repeat (first | (with_reducible first | exact HB.out | apply below_alloc | apply pw_below_drewN | apply below_drew1) | exact HB.out)) hb); clear HB; have HO304 := n0_; have HB := n1_; clear n0_ n1_; clear hb ho52))
                                      go_ret
                                      exact ⟨_, by first | rfl | (simp [errW_none, errW_some] <;> rfl) | (simp [*, errW_none, errW_some] <;> rfl), by (with_reducible repeat (first | apply Kd.R_alloc | apply Kd.R_drewN | apply Kd.R_drew)); exact HO304.out, by repeat (first | (with_reducible first | exact HB.out | apply below_alloc | apply pw_below_drewN | apply below_drew1) | exact HB.out)⟩
                                    · rw [if_neg c50] at H
                                      have c50b0 : (a0.toList == ([66, 108, 111, 99, 107, 83, 116, 109, 116] : List UInt8)) = false := beq_eq_false_iff_ne.mpr c50
                                      have c50b1 : (a0.toList != ([66, 108, 111, 99, 107, 83, 116, 109, 116] : List UInt8)) = true := bne_iff_ne.mpr c50
                                      by_cases c53 : a0.toList = ([73, 110, 99, 68, 101, 99, 83, 116, 109, 116] : List UInt8)
                                      · rw [if_pos c53] at H
                                        have c53b0 : (a0.toList == ([73, 110, 99, 68, 101, 99, 83, 116, 109, 116] : List UInt8)) = true := beq_iff_eq.mpr c53
                                        have c53b1 : (a0.toList != ([73, 110, 99, 68, 101, 99, 83, 116, 109, 116] : List UInt8)) = false := bne_eq_false_iff_eq.mpr c53
                                        clear c53
                                        obtain ⟨y305, hy305⟩ : ∃ y_ : List ByteArray, y_ = (([(⟨#[88]⟩ : ByteArray), (⟨#[84, 111, 107]⟩ : ByteArray)] : List ByteArray)) := ⟨_, rfl⟩
                                        replace H : (some y305) = some r := by first | (rw [hy305]; with_reducible exact H) | (have H2_ := (Option.bind_some _ _).symm.trans H; rw [hy305]; with_reducible exact H2_) | (have H2_ := (Option.bind_some _ _).symm.trans H; with_reducible exact H2_) | with_reducible exact H | (rw [hy305]; exact H) | exact H
                                        have Ny305 := Aside0.mk hy305
                                        clear hy305
                                        obtain rfl := Option.some.inj H
                                        go_wp2_with (first | ((with_reducible refine gate_dst (N := 56) rfl ?_); refine Kd.R_lit Kd.string _ 9 ?hg (N := 56) ?hd (xs := ([(⟨#[88]⟩ : ByteArray), (⟨#[84, 111, 107]⟩ : ByteArray)] : List ByteArray)) (inner := [.string (⟨#[88]⟩ : ByteArray), .string (⟨#[84, 111, 107]⟩ : ByteArray)]) (ok := fun _ => True) (okp := fun _ => True) ?hr ?hp (fun _ hk => hk) trivial (Below.refl _ _) (Nat.le_refl _) (by simp) ?_; (case hd => rfl); (case hg => rfl); (case hr => first | (go_simp; done) | (go_simp; rfl)); (case hp => exact (Reps.one (show Kd.M Kd.string _ _ _ (⟨#[88]⟩ : ByteArray) [.string (⟨#[88]⟩ : ByteArray)] from rfl) (Reps.one (show Kd.M Kd.string _ _ _ (⟨#[84, 111, 107]⟩ : ByteArray) [.string (⟨#[84, 111, 107]⟩ : ByteArray)] from rfl) (Reps.none _ _)))); intro v306 w54 ho55 hb hg_ hnew_; clear hg_ hnew_; (first | rw [← Ny305.out] at ho55 | (simp only [Int.reduceToNat] at ho55; rw [← Ny305.out] at ho55)); have n0_ := Aside0.mk (Kd.R_lower ho55 (below_size (by repeat (first | (with_reducible first | exact HB.out | apply below_alloc | apply pw_below_drewN | apply below_drew1) | exact HB.out)))); have n1_ := Aside0.mk (below_step (by repeat (first | (with_reducible first | exact HB.out | apply below_alloc | apply pw_below_drewN | apply below_drew1) | exact HB.out)) hb); clear HB; have HO307 := n0_; have HB := n1_; clear n0_ n1_; clear hb ho55))
                                        go_ret
                                        exact ⟨_, by first | rfl | (simp [errW_none, errW_some] <;> rfl) | (simp [*, errW_none, errW_some] <;> rfl), by (with_reducible repeat (first | apply Kd.R_alloc | apply Kd.R_drewN | apply Kd.R_drew)); exact HO307.out, by repeat (first | (with_reducible first | exact HB.out | apply below_alloc | apply pw_below_drewN | apply below_drew1) | exact HB.out)⟩
                                      · rw [if_neg c53] at H
                                        have c53b0 : (a0.toList == ([73, 110, 99, 68, 101, 99, 83, 116, 109, 116] : List UInt8)) = false := beq_eq_false_iff_ne.mpr c53
                                        have c53b1 : (a0.toList != ([73, 110, 99, 68, 101, 99, 83, 116, 109, 116] : List UInt8)) = true := bne_iff_ne.mpr c53
                                        by_cases c56 : a0.toList = ([83, 101, 110, 100, 83, 116, 109, 116] : List UInt8)
                                        · rw [if_pos c56] at H
                                          have c56b0 : (a0.toList == ([83, 101, 110, 100, 83, 116, 109, 116] : List UInt8)) = true := beq_iff_eq.mpr c56
                                          have c56b1 : (a0.toList != ([83, 101, 110, 100, 83, 116, 109, 116] : List UInt8)) = false := bne_eq_false_iff_eq.mpr c56
                                          clear c56
                                          obtain ⟨y308, hy308⟩ : ∃ y_ : List ByteArray, y_ = (([(⟨#[67, 104, 97, 110]⟩ : ByteArray), (⟨#[86, 97, 108, 117, 101]⟩ : ByteArray)] : List ByteArray)) := ⟨_, rfl⟩
                                          replace H : (some y308) = some r := by first | (rw [hy308]; with_reducible exact H) | (have H2_ := (Option.bind_some _ _).symm.trans H; rw [hy308]; with_reducible exact H2_) | (have H2_ := (Option.bind_some _ _).symm.trans H; with_reducible exact H2_) | with_reducible exact H | (rw [hy308]; exact H) | exact H
                                          have Ny308 := Aside0.mk hy308
                                          clear hy308
                                          obtain rfl := Option.some.inj H
                                          go_wp2_with (first | ((with_reducible refine gate_dst (N := 59) rfl ?_); refine Kd.R_lit Kd.string _ 9 ?hg (N := 59) ?hd (xs := ([(⟨#[67, 104, 97, 110]⟩ : ByteArray), (⟨#[86, 97, 108, 117, 101]⟩ : ByteArray)] : List ByteArray)) (inner := [.string (⟨#[67, 104, 97, 110]⟩ : ByteArray), .string (⟨#[86, 97, 108, 117, 101]⟩ : ByteArray)]) (ok := fun _ => True) (okp := fun _ => True) ?hr ?hp (fun _ hk => hk) trivial (Below.refl _ _) (Nat.le_refl _) (by simp) ?_; (case hd => rfl); (case hg => rfl); (case hr => first | (go_simp; done) | (go_simp; rfl)); (case hp => exact (Reps.one (show Kd.M Kd.string _ _ _ (⟨#[67, 104, 97, 110]⟩ : ByteArray) [.string (⟨#[67, 104, 97, 110]⟩ : ByteArray)] from rfl) (Reps.one (show Kd.M Kd.string _ _ _ (⟨#[86, 97, 108, 117, 101]⟩ : ByteArray) [.string (⟨#[86, 97, 108, 117, 101]⟩ : ByteArray)] from rfl) (Reps.none _ _)))); intro v309 w57 ho58 hb hg_ hnew_; clear hg_ hnew_; (first | rw [← Ny308.out] at ho58 | (simp only [Int.reduceToNat] at ho58; rw [← Ny308.out] at ho58)); have n0_ := Aside0.mk (Kd.R_lower ho58 (below_size (by repeat (first | (with_reducible first | exact HB.out | apply below_alloc | apply pw_below_drewN | apply below_drew1) | exact HB.out)))); have n1_ := Aside0.mk (below_step (by repeat (first | (with_reducible first | exact HB.out | apply below_alloc | apply pw_below_drewN | apply below_drew1) | exact HB.out)) hb); clear HB; have HO310 := n0_; have HB := n1_; clear n0_ n1_; clear hb ho58))
                                          go_ret
                                          exact ⟨_, by first | rfl | (simp [errW_none, errW_some] <;> rfl) | (simp [*, errW_none, errW_some] <;> rfl), by (with_reducible repeat (first | apply Kd.R_alloc | apply Kd.R_drewN | apply Kd.R_drew)); exact HO310.out, by repeat (first | (with_reducible first | exact HB.out | apply below_alloc | apply pw_below_drewN | apply below_drew1) | exact HB.out)⟩
                                        · rw [if_neg c56] at H
                                          have c56b0 : (a0.toList == ([83, 101, 110, 100, 83, 116, 109, 116] : List UInt8)) = false := beq_eq_false_iff_ne.mpr c56
                                          have c56b1 : (a0.toList != ([83, 101, 110, 100, 83, 116, 109, 116] : List UInt8)) = true := bne_iff_ne.mpr c56
                                          have HC59 := Aside0.mk H
                                          clear H
                                          go_upto_if 60 with (fail)
                                          go_cut [60] (fun v60 wc => ∃ (kq : Nat) (x60_58 : Bool), v60 = .bool x60_58 ∧ Aside0 (spec_Fields.j1 kq a0 x60_58 = some r) ∧ Aside0 (kq ≤ kj22) ∧ Aside0 (Below w.heap.size w wc))
                                          case first =>
                                            have H := HC59.out
                                            clear HC59
                                            by_cases c60 : a0.toList = ([71, 111, 83, 116, 109, 116] : List UInt8)
                                            · rw [if_pos c60] at H
                                              have c60b0 : (a0.toList == ([71, 111, 83, 116, 109, 116] : List UInt8)) = true := beq_iff_eq.mpr c60
                                              have c60b1 : (a0.toList != ([71, 111, 83, 116, 109, 116] : List UInt8)) = false := bne_eq_false_iff_eq.mpr c60
                                              clear c60
                                              (first | rw [c60b0] | (simp only [i64_w, i32_w]; rw [c60b0]) | skip)
                                              have H' := Aside0.mk H
                                              clear H
                                              go_wp2
                                              go_meet
                                              case rel => exact ⟨_, ((a0.toList == ([71, 111, 83, 116, 109, 116] : List UInt8))), (by first | rfl | (simp; done) | (simp [*]; done)), H', ⟨by have := HJ22.out; first | omega | exact Nat.le_refl _⟩, ⟨by repeat (first | (with_reducible first | exact HB.out | apply below_alloc | apply pw_below_drewN | apply below_drew1) | exact HB.out)⟩⟩
                                            · rw [if_neg c60] at H
                                              have c60b0 : (a0.toList == ([71, 111, 83, 116, 109, 116] : List UInt8)) = false := beq_eq_false_iff_ne.mpr c60
                                              have c60b1 : (a0.toList != ([71, 111, 83, 116, 109, 116] : List UInt8)) = true := bne_iff_ne.mpr c60
                                              (first | rw [c60b0] | (simp only [i64_w, i32_w]; rw [c60b0]) | skip)
                                              have H' := Aside0.mk H
                                              clear H
                                              go_wp2
                                              go_meet
                                              case rel => exact ⟨_, ((a0.toList == ([68, 101, 102, 101, 114, 83, 116, 109, 116] : List UInt8))), (by first | rfl | (simp; done) | (simp [*]; done)), H', ⟨by have := HJ22.out; first | omega | exact Nat.le_refl _⟩, ⟨by repeat (first | (with_reducible first | exact HB.out | apply below_alloc | apply pw_below_drewN | apply below_drew1) | exact HB.out)⟩⟩
                                          case rest =>
                                            clear HC59
                                            try clear c1
                                            try clear c2
                                            try clear c2b0
                                            try clear c2b1
                                            try clear p2
                                            try clear c3
                                            try clear c4
                                            try clear c5
                                            try clear c5b0
                                            try clear c5b1
                                            try clear c6
                                            try clear c7
                                            try clear c8
                                            try clear c8b0
                                            try clear c8b1
                                            try clear c11
                                            try clear c11b0
                                            try clear c11b1
                                            try clear c14
                                            try clear c14b0
                                            try clear c14b1
                                            try clear c17
                                            try clear c17b0
                                            try clear c17b1
                                            try clear c20
                                            try clear c20b0
                                            try clear c20b1
                                            try clear c24
                                            try clear c24b0
                                            try clear c24b1
                                            try clear c25
                                            try clear c25b0
                                            try clear c25b1
                                            try clear c26
                                            try clear c29
                                            try clear c29b0
                                            try clear c29b1
                                            try clear c32
                                            try clear c32b0
                                            try clear c32b1
                                            try clear c35
                                            try clear c35b0
                                            try clear c35b1
                                            try clear c38
                                            try clear c38b0
                                            try clear c38b1
                                            try clear c41
                                            try clear c41b0
                                            try clear c41b1
                                            try clear c44
                                            try clear c44b0
                                            try clear c44b1
                                            try clear c47
                                            try clear c47b0
                                            try clear c47b1
                                            try clear c50
                                            try clear c50b0
                                            try clear c50b1
                                            try clear c53
                                            try clear c53b0
                                            try clear c53b1
                                            try clear c56
                                            try clear c56b0
                                            try clear c56b1
                                            try clear c60
                                            try clear c60b0
                                            try clear c60b1
                                            try clear p2
                                            obtain ⟨kq, x60_58, rfl, HA, HJ58, HB⟩ := hcut
                                            cases kq with
                                            | zero => exact absurd HA.out (by simp [spec_Fields.j1])
                                            | succ kj58 =>
                                              have H := HA.out
                                              clear HA
                                              simp only [spec_Fields.j1] at H
                                              by_cases c61 : x60_58 = true
                                              · subst c61
                                                have H1 : (some (([(⟨#[67, 97, 108, 108]⟩ : ByteArray)] : List ByteArray))) = some r := by rw [if_pos rfl] at H; exact H
                                                clear H
                                                have H := H1
                                                clear H1
                                                obtain ⟨y311, hy311⟩ : ∃ y_ : List ByteArray, y_ = (([(⟨#[67, 97, 108, 108]⟩ : ByteArray)] : List ByteArray)) := ⟨_, rfl⟩
                                                replace H : (some y311) = some r := by first | (rw [hy311]; with_reducible exact H) | (have H2_ := (Option.bind_some _ _).symm.trans H; rw [hy311]; with_reducible exact H2_) | (have H2_ := (Option.bind_some _ _).symm.trans H; with_reducible exact H2_) | with_reducible exact H | (rw [hy311]; exact H) | exact H
                                                have Ny311 := Aside0.mk hy311
                                                clear hy311
                                                obtain rfl := Option.some.inj H
                                                go_wp2_with (first | ((with_reducible refine gate_dst (N := 63) rfl ?_); refine Kd.R_lit Kd.string _ 9 ?hg (N := 63) ?hd (xs := ([(⟨#[67, 97, 108, 108]⟩ : ByteArray)] : List ByteArray)) (inner := [.string (⟨#[67, 97, 108, 108]⟩ : ByteArray)]) (ok := fun _ => True) (okp := fun _ => True) ?hr ?hp (fun _ hk => hk) trivial (Below.refl _ _) (Nat.le_refl _) (by simp) ?_; (case hd => rfl); (case hg => rfl); (case hr => first | (go_simp; done) | (go_simp; rfl)); (case hp => exact (Reps.one (show Kd.M Kd.string _ _ _ (⟨#[67, 97, 108, 108]⟩ : ByteArray) [.string (⟨#[67, 97, 108, 108]⟩ : ByteArray)] from rfl) (Reps.none _ _))); intro v312 w62 ho63 hb hg_ hnew_; clear hg_ hnew_; (first | rw [← Ny311.out] at ho63 | (simp only [Int.reduceToNat] at ho63; rw [← Ny311.out] at ho63)); have n0_ := Aside0.mk (Kd.R_lower ho63 (below_size (by repeat (first | (with_reducible first | exact HB.out | apply below_alloc | apply pw_below_drewN | apply below_drew1) | exact HB.out)))); have n1_ := Aside0.mk (below_step (by repeat (first | (with_reducible first | exact HB.out | apply below_alloc | apply pw_below_drewN | apply below_drew1) | exact HB.out)) hb); clear HB; have HO313 := n0_; have HB := n1_; clear n0_ n1_; clear hb ho63))
                                                go_ret
                                                exact ⟨_, by first | rfl | (simp [errW_none, errW_some] <;> rfl) | (simp [*, errW_none, errW_some] <;> rfl), by (with_reducible repeat (first | apply Kd.R_alloc | apply Kd.R_drewN | apply Kd.R_drew)); exact HO313.out, by repeat (first | (with_reducible first | exact HB.out | apply below_alloc | apply pw_below_drewN | apply below_drew1) | exact HB.out)⟩
                                              · replace c61 := Bool.eq_false_iff.mpr c61
                                                subst c61
                                                have H1 : (if a0.toList = ([70, 111, 114, 83, 116, 109, 116] : List UInt8) then (some (([(⟨#[73, 110, 105, 116]⟩ : ByteArray), (⟨#[67, 111, 110, 100]⟩ : ByteArray), (⟨#[80, 111, 115, 116]⟩ : ByteArray), (⟨#[66, 111, 100, 121]⟩ : ByteArray)] : List ByteArray))) else (if a0.toList = ([82, 97, 110, 103, 101, 83, 116, 109, 116] : List UInt8) then (some (([(⟨#[75, 101, 121]⟩ : ByteArray), (⟨#[86, 97, 108, 117, 101]⟩ : ByteArray), (⟨#[84, 111, 107]⟩ : ByteArray), (⟨#[88]⟩ : ByteArray), (⟨#[66, 111, 100, 121]⟩ : ByteArray)] : List ByteArray))) else (if a0.toList = ([76, 97, 98, 101, 108, 101, 100, 83, 116, 109, 116] : List UInt8) then (some (([(⟨#[76, 97, 98, 101, 108]⟩ : ByteArray), (⟨#[83, 116, 109, 116]⟩ : ByteArray)] : List ByteArray))) else (if a0.toList = ([69, 109, 112, 116, 121, 83, 116, 109, 116] : List UInt8) then (some (([(⟨#[73, 109, 112, 108, 105, 99, 105, 116]⟩ : ByteArray)] : List ByteArray))) else (if a0.toList = ([67, 97, 115, 101, 67, 108, 97, 117, 115, 101] : List UInt8) then (some (([(⟨#[76, 105, 115, 116]⟩ : ByteArray), (⟨#[66, 111, 100, 121]⟩ : ByteArray)] : List ByteArray))) else (if a0.toList = ([83, 119, 105, 116, 99, 104, 83, 116, 109, 116] : List UInt8) then (some (([(⟨#[73, 110, 105, 116]⟩ : ByteArray), (⟨#[84, 97, 103]⟩ : ByteArray), (⟨#[66, 111, 100, 121]⟩ : ByteArray)] : List ByteArray))) else (some ([] : List ByteArray)))))))) = some r := by rw [if_neg (show ¬ (false = true) by decide)] at H; exact H
                                                clear H
                                                have H := H1
                                                clear H1
                                                by_cases c64 : a0.toList = ([70, 111, 114, 83, 116, 109, 116] : List UInt8)
                                                · rw [if_pos c64] at H
                                                  have c64b0 : (a0.toList == ([70, 111, 114, 83, 116, 109, 116] : List UInt8)) = true := beq_iff_eq.mpr c64
                                                  have c64b1 : (a0.toList != ([70, 111, 114, 83, 116, 109, 116] : List UInt8)) = false := bne_eq_false_iff_eq.mpr c64
                                                  clear c64
                                                  obtain ⟨y314, hy314⟩ : ∃ y_ : List ByteArray, y_ = (([(⟨#[73, 110, 105, 116]⟩ : ByteArray), (⟨#[67, 111, 110, 100]⟩ : ByteArray), (⟨#[80, 111, 115, 116]⟩ : ByteArray), (⟨#[66, 111, 100, 121]⟩ : ByteArray)] : List ByteArray)) := ⟨_, rfl⟩
                                                  replace H : (some y314) = some r := by first | (rw [hy314]; with_reducible exact H) | (have H2_ := (Option.bind_some _ _).symm.trans H; rw [hy314]; with_reducible exact H2_) | (have H2_ := (Option.bind_some _ _).symm.trans H; with_reducible exact H2_) | with_reducible exact H | (rw [hy314]; exact H) | exact H
                                                  have Ny314 := Aside0.mk hy314
                                                  clear hy314
                                                  obtain rfl := Option.some.inj H
                                                  go_wp2_with (first | ((with_reducible refine gate_dst (N := 66) rfl ?_); refine Kd.R_lit Kd.string _ 9 ?hg (N := 66) ?hd (xs := ([(⟨#[73, 110, 105, 116]⟩ : ByteArray), (⟨#[67, 111, 110, 100]⟩ : ByteArray), (⟨#[80, 111, 115, 116]⟩ : ByteArray), (⟨#[66, 111, 100, 121]⟩ : ByteArray)] : List ByteArray)) (inner := [.string (⟨#[73, 110, 105, 116]⟩ : ByteArray), .string (⟨#[67, 111, 110, 100]⟩ : ByteArray), .string (⟨#[80, 111, 115, 116]⟩ : ByteArray), .string (⟨#[66, 111, 100, 121]⟩ : ByteArray)]) (ok := fun _ => True) (okp := fun _ => True) ?hr ?hp (fun _ hk => hk) trivial (Below.refl _ _) (Nat.le_refl _) (by simp) ?_; (case hd => rfl); (case hg => rfl); (case hr => first | (go_simp; done) | (go_simp; rfl)); (case hp => exact (Reps.one (show Kd.M Kd.string _ _ _ (⟨#[73, 110, 105, 116]⟩ : ByteArray) [.string (⟨#[73, 110, 105, 116]⟩ : ByteArray)] from rfl) (Reps.one (show Kd.M Kd.string _ _ _ (⟨#[67, 111, 110, 100]⟩ : ByteArray) [.string (⟨#[67, 111, 110, 100]⟩ : ByteArray)] from rfl) (Reps.one (show Kd.M Kd.string _ _ _ (⟨#[80, 111, 115, 116]⟩ : ByteArray) [.string (⟨#[80, 111, 115, 116]⟩ : ByteArray)] from rfl) (Reps.one (show Kd.M Kd.string _ _ _ (⟨#[66, 111, 100, 121]⟩ : ByteArray) [.string (⟨#[66, 111, 100, 121]⟩ : ByteArray)] from rfl) (Reps.none _ _)))))); intro v315 w65 ho66 hb hg_ hnew_; clear hg_ hnew_; (first | rw [← Ny314.out] at ho66 | (simp only [Int.reduceToNat] at ho66; rw [← Ny314.out] at ho66)); have n0_ := Aside0.mk (Kd.R_lower ho66 (below_size (by repeat (first | (with_reducible first | exact HB.out | apply below_alloc | apply pw_below_drewN | apply below_drew1) | exact HB.out)))); have n1_ := Aside0.mk (below_step (by repeat (first | (with_reducible first | exact HB.out | apply below_alloc | apply pw_below_drewN | apply below_drew1) | exact HB.out)) hb); clear HB; have HO316 := n0_; have HB := n1_; clear n0_ n1_; clear hb ho66))
                                                  go_ret
                                                  exact ⟨_, by first | rfl | (simp [errW_none, errW_some] <;> rfl) | (simp [*, errW_none, errW_some] <;> rfl), by (with_reducible repeat (first | apply Kd.R_alloc | apply Kd.R_drewN | apply Kd.R_drew)); exact HO316.out, by repeat (first | (with_reducible first | exact HB.out | apply below_alloc | apply pw_below_drewN | apply below_drew1) | exact HB.out)⟩
                                                · rw [if_neg c64] at H
                                                  have c64b0 : (a0.toList == ([70, 111, 114, 83, 116, 109, 116] : List UInt8)) = false := beq_eq_false_iff_ne.mpr c64
                                                  have c64b1 : (a0.toList != ([70, 111, 114, 83, 116, 109, 116] : List UInt8)) = true := bne_iff_ne.mpr c64
                                                  by_cases c67 : a0.toList = ([82, 97, 110, 103, 101, 83, 116, 109, 116] : List UInt8)
                                                  · rw [if_pos c67] at H
                                                    have c67b0 : (a0.toList == ([82, 97, 110, 103, 101, 83, 116, 109, 116] : List UInt8)) = true := beq_iff_eq.mpr c67
                                                    have c67b1 : (a0.toList != ([82, 97, 110, 103, 101, 83, 116, 109, 116] : List UInt8)) = false := bne_eq_false_iff_eq.mpr c67
                                                    clear c67
                                                    obtain ⟨y317, hy317⟩ : ∃ y_ : List ByteArray, y_ = (([(⟨#[75, 101, 121]⟩ : ByteArray), (⟨#[86, 97, 108, 117, 101]⟩ : ByteArray), (⟨#[84, 111, 107]⟩ : ByteArray), (⟨#[88]⟩ : ByteArray), (⟨#[66, 111, 100, 121]⟩ : ByteArray)] : List ByteArray)) := ⟨_, rfl⟩
                                                    replace H : (some y317) = some r := by first | (rw [hy317]; with_reducible exact H) | (have H2_ := (Option.bind_some _ _).symm.trans H; rw [hy317]; with_reducible exact H2_) | (have H2_ := (Option.bind_some _ _).symm.trans H; with_reducible exact H2_) | with_reducible exact H | (rw [hy317]; exact H) | exact H
                                                    have Ny317 := Aside0.mk hy317
                                                    clear hy317
                                                    obtain rfl := Option.some.inj H
                                                    go_wp2_with (first | ((with_reducible refine gate_dst (N := 69) rfl ?_); refine Kd.R_lit Kd.string _ 9 ?hg (N := 69) ?hd (xs := ([(⟨#[75, 101, 121]⟩ : ByteArray), (⟨#[86, 97, 108, 117, 101]⟩ : ByteArray), (⟨#[84, 111, 107]⟩ : ByteArray), (⟨#[88]⟩ : ByteArray), (⟨#[66, 111, 100, 121]⟩ : ByteArray)] : List ByteArray)) (inner := [.string (⟨#[75, 101, 121]⟩ : ByteArray), .string (⟨#[86, 97, 108, 117, 101]⟩ : ByteArray), .string (⟨#[84, 111, 107]⟩ : ByteArray), .string (⟨#[88]⟩ : ByteArray), .string (⟨#[66, 111, 100, 121]⟩ : ByteArray)]) (ok := fun _ => True) (okp := fun _ => True) ?hr ?hp (fun _ hk => hk) trivial (Below.refl _ _) (Nat.le_refl _) (by simp) ?_; (case hd => rfl); (case hg => rfl); (case hr => first | (go_simp; done) | (go_simp; rfl)); (case hp => exact (Reps.one (show Kd.M Kd.string _ _ _ (⟨#[75, 101, 121]⟩ : ByteArray) [.string (⟨#[75, 101, 121]⟩ : ByteArray)] from rfl) (Reps.one (show Kd.M Kd.string _ _ _ (⟨#[86, 97, 108, 117, 101]⟩ : ByteArray) [.string (⟨#[86, 97, 108, 117, 101]⟩ : ByteArray)] from rfl) (Reps.one (show Kd.M Kd.string _ _ _ (⟨#[84, 111, 107]⟩ : ByteArray) [.string (⟨#[84, 111, 107]⟩ : ByteArray)] from rfl) (Reps.one (show Kd.M Kd.string _ _ _ (⟨#[88]⟩ : ByteArray) [.string (⟨#[88]⟩ : ByteArray)] from rfl) (Reps.one (show Kd.M Kd.string _ _ _ (⟨#[66, 111, 100, 121]⟩ : ByteArray) [.string (⟨#[66, 111, 100, 121]⟩ : ByteArray)] from rfl) (Reps.none _ _))))))); intro v318 w68 ho69 hb hg_ hnew_; clear hg_ hnew_; (first | rw [← Ny317.out] at ho69 | (simp only [Int.reduceToNat] at ho69; rw [← Ny317.out] at ho69)); have n0_ := Aside0.mk (Kd.R_lower ho69 (below_size (by repeat (first | (with_reducible first | exact HB.out | apply below_alloc | apply pw_below_drewN | apply below_drew1) | exact HB.out)))); have n1_ := Aside0.mk (below_step (by repeat (first | (with_reducible first | exact HB.out | apply below_alloc | apply pw_below_drewN | apply below_drew1) | exact HB.out)) hb); clear HB; have HO319 := n0_; have HB := n1_; clear n0_ n1_; clear hb ho69))
                                                    go_ret
                                                    exact ⟨_, by first | rfl | (simp [errW_none, errW_some] <;> rfl) | (simp [*, errW_none, errW_some] <;> rfl), by (with_reducible repeat (first | apply Kd.R_alloc | apply Kd.R_drewN | apply Kd.R_drew)); exact HO319.out, by repeat (first | (with_reducible first | exact HB.out | apply below_alloc | apply pw_below_drewN | apply below_drew1) | exact HB.out)⟩
                                                  · rw [if_neg c67] at H
                                                    have c67b0 : (a0.toList == ([82, 97, 110, 103, 101, 83, 116, 109, 116] : List UInt8)) = false := beq_eq_false_iff_ne.mpr c67
                                                    have c67b1 : (a0.toList != ([82, 97, 110, 103, 101, 83, 116, 109, 116] : List UInt8)) = true := bne_iff_ne.mpr c67
                                                    by_cases c70 : a0.toList = ([76, 97, 98, 101, 108, 101, 100, 83, 116, 109, 116] : List UInt8)
                                                    · rw [if_pos c70] at H
                                                      have c70b0 : (a0.toList == ([76, 97, 98, 101, 108, 101, 100, 83, 116, 109, 116] : List UInt8)) = true := beq_iff_eq.mpr c70
                                                      have c70b1 : (a0.toList != ([76, 97, 98, 101, 108, 101, 100, 83, 116, 109, 116] : List UInt8)) = false := bne_eq_false_iff_eq.mpr c70
                                                      clear c70
                                                      obtain ⟨y320, hy320⟩ : ∃ y_ : List ByteArray, y_ = (([(⟨#[76, 97, 98, 101, 108]⟩ : ByteArray), (⟨#[83, 116, 109, 116]⟩ : ByteArray)] : List ByteArray)) := ⟨_, rfl⟩
                                                      replace H : (some y320) = some r := by first | (rw [hy320]; with_reducible exact H) | (have H2_ := (Option.bind_some _ _).symm.trans H; rw [hy320]; with_reducible exact H2_) | (have H2_ := (Option.bind_some _ _).symm.trans H; with_reducible exact H2_) | with_reducible exact H | (rw [hy320]; exact H) | exact H
                                                      have Ny320 := Aside0.mk hy320
                                                      clear hy320
                                                      obtain rfl := Option.some.inj H
                                                      go_wp2_with (first | ((with_reducible refine gate_dst (N := 72) rfl ?_); refine Kd.R_lit Kd.string _ 9 ?hg (N := 72) ?hd (xs := ([(⟨#[76, 97, 98, 101, 108]⟩ : ByteArray), (⟨#[83, 116, 109, 116]⟩ : ByteArray)] : List ByteArray)) (inner := [.string (⟨#[76, 97, 98, 101, 108]⟩ : ByteArray), .string (⟨#[83, 116, 109, 116]⟩ : ByteArray)]) (ok := fun _ => True) (okp := fun _ => True) ?hr ?hp (fun _ hk => hk) trivial (Below.refl _ _) (Nat.le_refl _) (by simp) ?_; (case hd => rfl); (case hg => rfl); (case hr => first | (go_simp; done) | (go_simp; rfl)); (case hp => exact (Reps.one (show Kd.M Kd.string _ _ _ (⟨#[76, 97, 98, 101, 108]⟩ : ByteArray) [.string (⟨#[76, 97, 98, 101, 108]⟩ : ByteArray)] from rfl) (Reps.one (show Kd.M Kd.string _ _ _ (⟨#[83, 116, 109, 116]⟩ : ByteArray) [.string (⟨#[83, 116, 109, 116]⟩ : ByteArray)] from rfl) (Reps.none _ _)))); intro v321 w71 ho72 hb hg_ hnew_; clear hg_ hnew_; (first | rw [← Ny320.out] at ho72 | (simp only [Int.reduceToNat] at ho72; rw [← Ny320.out] at ho72)); have n0_ := Aside0.mk (Kd.R_lower ho72 (below_size (by repeat (first | (with_reducible first | exact HB.out | apply below_alloc | apply pw_below_drewN | apply below_drew1) | exact HB.out)))); have n1_ := Aside0.mk (below_step (by repeat (first | (with_reducible first | exact HB.out | apply below_alloc | apply pw_below_drewN | apply below_drew1) | exact HB.out)) hb); clear HB; have HO322 := n0_; have HB := n1_; clear n0_ n1_; clear hb ho72))
                                                      go_ret
                                                      exact ⟨_, by first | rfl | (simp [errW_none, errW_some] <;> rfl) | (simp [*, errW_none, errW_some] <;> rfl), by (with_reducible repeat (first | apply Kd.R_alloc | apply Kd.R_drewN | apply Kd.R_drew)); exact HO322.out, by repeat (first | (with_reducible first | exact HB.out | apply below_alloc | apply pw_below_drewN | apply below_drew1) | exact HB.out)⟩
                                                    · rw [if_neg c70] at H
                                                      have c70b0 : (a0.toList == ([76, 97, 98, 101, 108, 101, 100, 83, 116, 109, 116] : List UInt8)) = false := beq_eq_false_iff_ne.mpr c70
                                                      have c70b1 : (a0.toList != ([76, 97, 98, 101, 108, 101, 100, 83, 116, 109, 116] : List UInt8)) = true := bne_iff_ne.mpr c70
                                                      by_cases c73 : a0.toList = ([69, 109, 112, 116, 121, 83, 116, 109, 116] : List UInt8)
                                                      · rw [if_pos c73] at H
                                                        have c73b0 : (a0.toList == ([69, 109, 112, 116, 121, 83, 116, 109, 116] : List UInt8)) = true := beq_iff_eq.mpr c73
                                                        have c73b1 : (a0.toList != ([69, 109, 112, 116, 121, 83, 116, 109, 116] : List UInt8)) = false := bne_eq_false_iff_eq.mpr c73
                                                        clear c73
                                                        obtain ⟨y323, hy323⟩ : ∃ y_ : List ByteArray, y_ = (([(⟨#[73, 109, 112, 108, 105, 99, 105, 116]⟩ : ByteArray)] : List ByteArray)) := ⟨_, rfl⟩
                                                        replace H : (some y323) = some r := by first | (rw [hy323]; with_reducible exact H) | (have H2_ := (Option.bind_some _ _).symm.trans H; rw [hy323]; with_reducible exact H2_) | (have H2_ := (Option.bind_some _ _).symm.trans H; with_reducible exact H2_) | with_reducible exact H | (rw [hy323]; exact H) | exact H
                                                        have Ny323 := Aside0.mk hy323
                                                        clear hy323
                                                        obtain rfl := Option.some.inj H
                                                        go_wp2_with (first | ((with_reducible refine gate_dst (N := 75) rfl ?_); refine Kd.R_lit Kd.string _ 9 ?hg (N := 75) ?hd (xs := ([(⟨#[73, 109, 112, 108, 105, 99, 105, 116]⟩ : ByteArray)] : List ByteArray)) (inner := [.string (⟨#[73, 109, 112, 108, 105, 99, 105, 116]⟩ : ByteArray)]) (ok := fun _ => True) (okp := fun _ => True) ?hr ?hp (fun _ hk => hk) trivial (Below.refl _ _) (Nat.le_refl _) (by simp) ?_; (case hd => rfl); (case hg => rfl); (case hr => first | (go_simp; done) | (go_simp; rfl)); (case hp => exact (Reps.one (show Kd.M Kd.string _ _ _ (⟨#[73, 109, 112, 108, 105, 99, 105, 116]⟩ : ByteArray) [.string (⟨#[73, 109, 112, 108, 105, 99, 105, 116]⟩ : ByteArray)] from rfl) (Reps.none _ _))); intro v324 w74 ho75 hb hg_ hnew_; clear hg_ hnew_; (first | rw [← Ny323.out] at ho75 | (simp only [Int.reduceToNat] at ho75; rw [← Ny323.out] at ho75)); have n0_ := Aside0.mk (Kd.R_lower ho75 (below_size (by repeat (first | (with_reducible first | exact HB.out | apply below_alloc | apply pw_below_drewN | apply below_drew1) | exact HB.out)))); have n1_ := Aside0.mk (below_step (by repeat (first | (with_reducible first | exact HB.out | apply below_alloc | apply pw_below_drewN | apply below_drew1) | exact HB.out)) hb); clear HB; have HO325 := n0_; have HB := n1_; clear n0_ n1_; clear hb ho75))
                                                        go_ret
                                                        exact ⟨_, by first | rfl | (simp [errW_none, errW_some] <;> rfl) | (simp [*, errW_none, errW_some] <;> rfl), by (with_reducible repeat (first | apply Kd.R_alloc | apply Kd.R_drewN | apply Kd.R_drew)); exact HO325.out, by repeat (first | (with_reducible first | exact HB.out | apply below_alloc | apply pw_below_drewN | apply below_drew1) | exact HB.out)⟩
                                                      · rw [if_neg c73] at H
                                                        have c73b0 : (a0.toList == ([69, 109, 112, 116, 121, 83, 116, 109, 116] : List UInt8)) = false := beq_eq_false_iff_ne.mpr c73
                                                        have c73b1 : (a0.toList != ([69, 109, 112, 116, 121, 83, 116, 109, 116] : List UInt8)) = true := bne_iff_ne.mpr c73
                                                        by_cases c76 : a0.toList = ([67, 97, 115, 101, 67, 108, 97, 117, 115, 101] : List UInt8)
                                                        · rw [if_pos c76] at H
                                                          have c76b0 : (a0.toList == ([67, 97, 115, 101, 67, 108, 97, 117, 115, 101] : List UInt8)) = true := beq_iff_eq.mpr c76
                                                          have c76b1 : (a0.toList != ([67, 97, 115, 101, 67, 108, 97, 117, 115, 101] : List UInt8)) = false := bne_eq_false_iff_eq.mpr c76
                                                          clear c76
                                                          obtain ⟨y326, hy326⟩ : ∃ y_ : List ByteArray, y_ = (([(⟨#[76, 105, 115, 116]⟩ : ByteArray), (⟨#[66, 111, 100, 121]⟩ : ByteArray)] : List ByteArray)) := ⟨_, rfl⟩
                                                          replace H : (some y326) = some r := by first | (rw [hy326]; with_reducible exact H) | (have H2_ := (Option.bind_some _ _).symm.trans H; rw [hy326]; with_reducible exact H2_) | (have H2_ := (Option.bind_some _ _).symm.trans H; with_reducible exact H2_) | with_reducible exact H | (rw [hy326]; exact H) | exact H
                                                          have Ny326 := Aside0.mk hy326
                                                          clear hy326
                                                          obtain rfl := Option.some.inj H
                                                          go_wp2_with (first | ((with_reducible refine gate_dst (N := 78) rfl ?_); refine Kd.R_lit Kd.string _ 9 ?hg (N := 78) ?hd (xs := ([(⟨#[76, 105, 115, 116]⟩ : ByteArray), (⟨#[66, 111, 100, 121]⟩ : ByteArray)] : List ByteArray)) (inner := [.string (⟨#[76, 105, 115, 116]⟩ : ByteArray), .string (⟨#[66, 111, 100, 121]⟩ : ByteArray)]) (ok := fun _ => True) (okp := fun _ => True) ?hr ?hp (fun _ hk => hk) trivial (Below.refl _ _) (Nat.le_refl _) (by simp) ?_; (case hd => rfl); (case hg => rfl); (case hr => first | (go_simp; done) | (go_simp; rfl)); (case hp => exact (Reps.one (show Kd.M Kd.string _ _ _ (⟨#[76, 105, 115, 116]⟩ : ByteArray) [.string (⟨#[76, 105, 115, 116]⟩ : ByteArray)] from rfl) (Reps.one (show Kd.M Kd.string _ _ _ (⟨#[66, 111, 100, 121]⟩ : ByteArray) [.string (⟨#[66, 111, 100, 121]⟩ : ByteArray)] from rfl) (Reps.none _ _)))); intro v327 w77 ho78 hb hg_ hnew_; clear hg_ hnew_; (first | rw [← Ny326.out] at ho78 | (simp only [Int.reduceToNat] at ho78; rw [← Ny326.out] at ho78)); have n0_ := Aside0.mk (Kd.R_lower ho78 (below_size (by repeat (first | (with_reducible first | exact HB.out | apply below_alloc | apply pw_below_drewN | apply below_drew1) | exact HB.out)))); have n1_ := Aside0.mk (below_step (by repeat (first | (with_reducible first | exact HB.out | apply below_alloc | apply pw_below_drewN | apply below_drew1) | exact HB.out)) hb); clear HB; have HO328 := n0_; have HB := n1_; clear n0_ n1_; clear hb ho78))
                                                          go_ret
                                                          exact ⟨_, by first | rfl | (simp [errW_none, errW_some] <;> rfl) | (simp [*, errW_none, errW_some] <;> rfl), by (with_reducible repeat (first | apply Kd.R_alloc | apply Kd.R_drewN | apply Kd.R_drew)); exact HO328.out, by repeat (first | (with_reducible first | exact HB.out | apply below_alloc | apply pw_below_drewN | apply below_drew1) | exact HB.out)⟩
                                                        · rw [if_neg c76] at H
                                                          have c76b0 : (a0.toList == ([67, 97, 115, 101, 67, 108, 97, 117, 115, 101] : List UInt8)) = false := beq_eq_false_iff_ne.mpr c76
                                                          have c76b1 : (a0.toList != ([67, 97, 115, 101, 67, 108, 97, 117, 115, 101] : List UInt8)) = true := bne_iff_ne.mpr c76
                                                          by_cases c79 : a0.toList = ([83, 119, 105, 116, 99, 104, 83, 116, 109, 116] : List UInt8)
                                                          · rw [if_pos c79] at H
                                                            have c79b0 : (a0.toList == ([83, 119, 105, 116, 99, 104, 83, 116, 109, 116] : List UInt8)) = true := beq_iff_eq.mpr c79
                                                            have c79b1 : (a0.toList != ([83, 119, 105, 116, 99, 104, 83, 116, 109, 116] : List UInt8)) = false := bne_eq_false_iff_eq.mpr c79
                                                            clear c79
                                                            obtain ⟨y329, hy329⟩ : ∃ y_ : List ByteArray, y_ = (([(⟨#[73, 110, 105, 116]⟩ : ByteArray), (⟨#[84, 97, 103]⟩ : ByteArray), (⟨#[66, 111, 100, 121]⟩ : ByteArray)] : List ByteArray)) := ⟨_, rfl⟩
                                                            replace H : (some y329) = some r := by first | (rw [hy329]; with_reducible exact H) | (have H2_ := (Option.bind_some _ _).symm.trans H; rw [hy329]; with_reducible exact H2_) | (have H2_ := (Option.bind_some _ _).symm.trans H; with_reducible exact H2_) | with_reducible exact H | (rw [hy329]; exact H) | exact H
                                                            have Ny329 := Aside0.mk hy329
                                                            clear hy329
                                                            obtain rfl := Option.some.inj H
                                                            go_wp2_with (first | ((with_reducible refine gate_dst (N := 81) rfl ?_); refine Kd.R_lit Kd.string _ 9 ?hg (N := 81) ?hd (xs := ([(⟨#[73, 110, 105, 116]⟩ : ByteArray), (⟨#[84, 97, 103]⟩ : ByteArray), (⟨#[66, 111, 100, 121]⟩ : ByteArray)] : List ByteArray)) (inner := [.string (⟨#[73, 110, 105, 116]⟩ : ByteArray), .string (⟨#[84, 97, 103]⟩ : ByteArray), .string (⟨#[66, 111, 100, 121]⟩ : ByteArray)]) (ok := fun _ => True) (okp := fun _ => True) ?hr ?hp (fun _ hk => hk) trivial (Below.refl _ _) (Nat.le_refl _) (by simp) ?_; (case hd => rfl); (case hg => rfl); (case hr => first | (go_simp; done) | (go_simp; rfl)); (case hp => exact (Reps.one (show Kd.M Kd.string _ _ _ (⟨#[73, 110, 105, 116]⟩ : ByteArray) [.string (⟨#[73, 110, 105, 116]⟩ : ByteArray)] from rfl) (Reps.one (show Kd.M Kd.string _ _ _ (⟨#[84, 97, 103]⟩ : ByteArray) [.string (⟨#[84, 97, 103]⟩ : ByteArray)] from rfl) (Reps.one (show Kd.M Kd.string _ _ _ (⟨#[66, 111, 100, 121]⟩ : ByteArray) [.string (⟨#[66, 111, 100, 121]⟩ : ByteArray)] from rfl) (Reps.none _ _))))); intro v330 w80 ho81 hb hg_ hnew_; clear hg_ hnew_; (first | rw [← Ny329.out] at ho81 | (simp only [Int.reduceToNat] at ho81; rw [← Ny329.out] at ho81)); have n0_ := Aside0.mk (Kd.R_lower ho81 (below_size (by repeat (first | (with_reducible first | exact HB.out | apply below_alloc | apply pw_below_drewN | apply below_drew1) | exact HB.out)))); have n1_ := Aside0.mk (below_step (by repeat (first | (with_reducible first | exact HB.out | apply below_alloc | apply pw_below_drewN | apply below_drew1) | exact HB.out)) hb); clear HB; have HO331 := n0_; have HB := n1_; clear n0_ n1_; clear hb ho81))
                                                            go_ret
                                                            exact ⟨_, by first | rfl | (simp [errW_none, errW_some] <;> rfl) | (simp [*, errW_none, errW_some] <;> rfl), by (with_reducible repeat (first | apply Kd.R_alloc | apply Kd.R_drewN | apply Kd.R_drew)); exact HO331.out, by repeat (first | (with_reducible first | exact HB.out | apply below_alloc | apply pw_below_drewN | apply below_drew1) | exact HB.out)⟩
                                                          · rw [if_neg c79] at H
                                                            have c79b0 : (a0.toList == ([83, 119, 105, 116, 99, 104, 83, 116, 109, 116] : List UInt8)) = false := beq_eq_false_iff_ne.mpr c79
                                                            have c79b1 : (a0.toList != ([83, 119, 105, 116, 99, 104, 83, 116, 109, 116] : List UInt8)) = true := bne_iff_ne.mpr c79
                                                            obtain rfl := Option.some.inj H
                                                            go_wp2
                                                            go_ret
                                                            exact ⟨_, by first | rfl | (simp [errW_none, errW_some] <;> rfl) | (simp [*, errW_none, errW_some] <;> rfl), by first | exact Kd.R_nil _ _ _ _ _ | exact Kd.N_nil _ _ _ _ _ | exact Kd.V_nil _ _ _ _ _ | exact Kd.Q_nil _ _ _ _ _ | exact Kd.S_nil _ _ _ _ _, by repeat (first | (with_reducible first | exact HB.out | apply below_alloc | apply pw_below_drewN | apply below_drew1) | exact HB.out)⟩

end Go.Proofs.Ytigalkobmfbdaaa.PFnFields
