/- The plain law of FnPrint: the text of style 0 is the shortest one; Colons. -/
import Derived.Test.YtigalkobmfbdaaaGreatDoorPlain7
set_option linter.unusedVariables false
set_option linter.unusedSimpArgs false
namespace Go.Proofs.YtigalkobmfbdaaaGreatDoor
open Go.RowKit
theorem gap_low (s : Int) : 1 ≤ (gapOf s).size := by unfold gapOf; split <;> decide
theorem bit0 (m : Int) (h : m = 1 ∨ m = 2 ∨ m = 4 ∨ m = 8) : bit 0 m = false := by
  rcases h with rfl | rfl | rfl | rfl <;> decide +kernel
theorem gap0 : gapOf 0 = ⟨#[32]⟩ := by decide +kernel
theorem gap0_size : (gapOf 0).size = 1 := by rw [gap0]; rfl
theorem spine_mk (s : Int) (k x : ByteArray) (ks : List Tree) : spine s (.mk k x ks) = (match ks with
    | a :: b :: _ => gapOf s ++ text s a ++ spine s b
    | _ => ⟨#[]⟩) := by rcases ks with _ | ⟨a, _ | ⟨b, r⟩⟩ <;> simp only [spine]
theorem z0 : (ByteArray.mk #[]).size = 0 := rfl
theorem zL : (⟨#[40, 76, 105, 115, 116]⟩ : ByteArray).size = 5 := rfl
theorem z58 : (⟨#[58]⟩ : ByteArray).size = 1 := rfl
theorem z91 : (⟨#[91]⟩ : ByteArray).size = 1 := rfl
theorem z93 : (⟨#[93]⟩ : ByteArray).size = 1 := rfl
theorem z41 : (⟨#[41]⟩ : ByteArray).size = 1 := rfl
theorem zE : (⟨#[91, 93]⟩ : ByteArray).size = 2 := rfl
theorem zA : (⟨#[40, 65, 110, 121, 41]⟩ : ByteArray).size = 5 := rfl
theorem zB : (⟨#[95]⟩ : ByteArray).size = 1 := rfl
/-- A spine's text is shorter than the list's. -/
theorem spine_lt {b : Tree} (h : (whole b).isSome = true) : (spine 0 b).size + 1 ≤ (text 0 b).size := by
  obtain ⟨k, x, ks⟩ := b
  rw [whole_mk] at h
  have hk : (k.toList == [76, 105, 115, 116]) = true := by
    cases e : (k.toList == [76, 105, 115, 116]) with
    | true => rfl
    | false => rw [e] at h; cases h
  rw [hk, if_pos rfl] at h
  have hk0 : (k.toList == [65, 110, 121]) = false ∧ (k.toList == [78, 105, 108]) = false ∧ (k.toList == [83, 116, 114, 105, 110, 103]) = false := by
    rw [eq_of_beq hk]; decide
  rw [text_mk, hk0.1, hk0.2.1, hk0.2.2, hk, spine_mk, bit0 4 (by simp), bit0 2 (by simp)]
  simp only [Bool.false_eq_true, if_false, if_true, Bool.or_false, Bool.false_or]
  match ks, h with
  | [], _ => simp only [z0, zE]; omega
  | [_], h => cases h
  | a :: b :: r, h =>
    have hb : (whole b).isSome = true := by simpa using h
    dsimp only
    simp only [hb, Bool.not_true, Bool.and_false, Bool.false_eq_true, if_false, app_size, gap0_size, z91, z93]
    omega
theorem text_le (s : Int) (t : Tree) : (text 0 t).size ≤ (text s t).size ∧ (spine 0 t).size ≤ (spine s t).size := by
  refine Tree.ind (P := fun t => (text 0 t).size ≤ (text s t).size ∧ (spine 0 t).size ≤ (spine s t).size) ?_ t
  clear t
  rintro ⟨k, x, ks⟩ ih
  simp only [kids_mk] at ih
  have ihm : ∀ t ∈ ks, (text 0 t).size ≤ (text s t).size ∧ (spine 0 t).size ≤ (spine s t).size := fun t ht => by
    obtain ⟨j, hj, rfl⟩ := List.getElem_of_mem ht
    exact ih j hj
  clear ih
  have g0 := gap0_size
  have g1 := gap_low s
  have hall : ∀ l : List Tree, (∀ t ∈ l, t ∈ ks) → (textAll 0 l).size ≤ (textAll s l).size := by
    intro l
    induction l with
    | nil => intro _; exact Nat.le_refl _
    | cons u l ihl =>
      intro h
      have h1 := ihl fun t ht => h t (List.mem_cons_of_mem _ ht)
      have h2 := (ihm u (h u (List.mem_cons_self ..))).1
      simp only [textAll, app_size]
      omega
  constructor
  · rw [text_mk, text_mk, bit0 1 (by simp), bit0 2 (by simp), bit0 4 (by simp)]
    simp only [Bool.false_eq_true, if_false, Bool.or_false, Bool.false_or]
    split
    · split
      · simp only [zA, zB]; omega
      · exact Nat.le_refl _
    split
    · exact Nat.le_refl _
    split
    · exact Nat.le_refl _
    split
    · match ks, ihm with
      | [], _ => exact Nat.le_refl _
      | [_], _ => exact Nat.le_refl _
      | a :: b :: r, ihm =>
        obtain ⟨a1, a2⟩ := ihm a (by simp)
        obtain ⟨b1, b2⟩ := ihm b (by simp)
        have hsp := @spine_lt b
        simp only
        generalize (whole b).isSome = wb at *
        generalize heavy a = ha
        generalize bit s 4 = s4
        generalize bit s 2 = s2
        cases wb <;> cases ha <;> cases s4 <;> cases s2 <;> simp only [Bool.not_true, Bool.not_false, Bool.and_false, Bool.and_true, Bool.true_and, Bool.false_and, Bool.or_false, Bool.or_true, Bool.false_or, Bool.true_or, Bool.false_eq_true, if_false, if_true, app_size, g0, zL, z58, z91, z93, z41] at * <;> first | omega | (have hsp2 := hsp trivial; omega)
    split
    · match ks, ihm with
      | [], _ => exact Nat.le_refl _
      | a :: r, ihm =>
        have := (ihm a (by simp)).1
        simp only [app_size]
        omega
    · have := hall ks fun t ht => ht
      simp only [app_size]
      omega
  · rw [spine_mk, spine_mk]
    match ks, ihm with
    | [], _ => exact Nat.le_refl _
    | [_], _ => exact Nat.le_refl _
    | a :: b :: r, ihm =>
      obtain ⟨a1, a2⟩ := ihm a (by simp)
      obtain ⟨b1, b2⟩ := ihm b (by simp)
      simp only [app_size]
      omega
mutual
/-- Has it a list without an end, one of whose elements can't stand ahead of a colon? -/
def colons : Tree → Bool
  | .mk k x ks => (k.toList == [76, 105, 115, 116] && ks.length == 2 && !(whole (.mk k x ks)).isSome && (match ks with | a :: _ => heavy a | [] => false)) || colonsAny ks
def colonsAny : List Tree → Bool
  | [] => false
  | t :: ts => colons t || colonsAny ts
end
theorem colons_mk (k x : ByteArray) (ks : List Tree) : colons (.mk k x ks) = ((k.toList == [76, 105, 115, 116] && ks.length == 2 && !(whole (.mk k x ks)).isSome && (match ks with | a :: _ => heavy a | [] => false)) || colonsAny ks) := by rcases ks with _ | ⟨a, r⟩ <;> simp only [colons]
theorem colonsAny_mem : ∀ {ks : List Tree} (_ : colonsAny ks = false), ∀ t ∈ ks, colons t = false
  | u :: ks, h, t, ht => by
    rw [colonsAny, Bool.or_eq_false_iff] at h
    rcases List.mem_cons.1 ht with rfl | ht
    · exact h.1
    · exact colonsAny_mem h.2 t ht
theorem colonsAny_append (l m : List Tree) : colonsAny (l ++ m) = (colonsAny l || colonsAny m) := by
  induction l with
  | nil => simp [colonsAny]
  | cons t l ih => simp only [List.cons_append, colonsAny, ih, Bool.or_assoc]
end Go.Proofs.YtigalkobmfbdaaaGreatDoor
