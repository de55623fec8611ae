/- The plain law of the lexer: what the text of a pattern is cut into. No program in sight. -/
import Derived.Test.YtigalkobmfbdaaaGreatDoorMix2b
import Derived.Test.YtigalkobmfbdaaaGreatDoorTextZ2
import Derived.Test.YtigalkobmfbdaaaGreatDoorNodesZ2
set_option linter.unusedVariables false
set_option linter.unusedSimpArgs false
namespace Go.Proofs.YtigalkobmfbdaaaGreatDoor
open Go.RowKit
def capB : List UInt8 -> Bool
 | []=>false
 | c :: l=>isUp c.toNat && l.all fun c=>alnum c.toNat
def lowB : List UInt8 -> Bool
 | []=>false
 | c :: l=>isLow c.toNat && l.all fun c=>alnum c.toNat
def strB (l : List UInt8) : Bool:=l.all fun c=>c != 34 && c != 92 && decide (c.toNat < 128)
def Stop (rest : List UInt8) : Prop:=∀ c l,rest=c :: l -> alnum c.toNat=false
theorem Stop.nil : Stop []:=fun _ _ h=>by cases h
theorem Stop.cons {c : UInt8} (l : List UInt8) (h : alnum c.toNat=false) : Stop (c :: l):=fun _ _ e=>by cases e;exact h
theorem byte_all {p : UInt8 -> Bool} (h : ∀ n : Nat,n < 256 -> p (UInt8.ofNat n)=true) (c : UInt8) : p c=true:=by
 have:=h c.toNat (by have:=c.toBitVec.isLt;exact this)
 simpa using this
theorem up_facts (c : UInt8) : (!isUp c.toNat || (!isSpace c.toNat && (punct c).isNone && c != 34 && alnum c.toNat))=true :=
 byte_all (p:=fun c=>!isUp c.toNat || (!isSpace c.toNat && (punct c).isNone && c != 34 && alnum c.toNat)) (by decide +kernel) c
theorem low_facts (c : UInt8) : (!isLow c.toNat || (!isSpace c.toNat && (punct c).isNone && c != 34 && !isUp c.toNat && alnum c.toNat))=true :=
 byte_all (p:=fun c=>!isLow c.toNat || (!isSpace c.toNat && (punct c).isNone && c != 34 && !isUp c.toNat && alnum c.toNat)) (by decide +kernel) c
theorem start_cap {c : UInt8} (h : isUp c.toNat=true) (k : Mode -> Option (List Tok)) : startStep c k=k (.typ [c]):=by
 have:=up_facts c
 rw [h] at this
 simp at this
 obtain ⟨⟨⟨h1,h2⟩,h3⟩,-⟩:=this
 simp [startStep,h1,h2,h3,h]
theorem start_lowr {c : UInt8} (h : isLow c.toNat=true) (k : Mode -> Option (List Tok)) : startStep c k=k (.var [c]):=by
 have:=low_facts c
 rw [h] at this
 simp at this
 obtain ⟨⟨⟨⟨h1,h2⟩,h3⟩,h4⟩,-⟩:=this
 simp [startStep,h1,h2,h3,h4,h]
theorem lex_typ : ∀ (l acc rest : List UInt8),(l.all fun c=>alnum c.toNat)=true -> Stop rest -> lexM (l ++ rest) (.typ acc)=(lexM rest .start).map ((5,acc ++ l) :: ·)
 | [],acc,rest,_,hs=>by
  cases rest with
  | nil=>simp [lexM]
  | cons c r =>
   rw [List.nil_append]
   conv=>lhs;rw [lexM,hs c r rfl]
   simp [lexM]
 | c :: l,acc,rest,h,hs=>by
  simp only [List.all_cons,Bool.and_eq_true] at h
  rw [List.cons_append,lexM,h.1,if_pos rfl,lex_typ l _ rest h.2 hs]
  simp
theorem lex_var : ∀ (l acc rest : List UInt8),(l.all fun c=>alnum c.toNat)=true -> Stop rest -> lexM (l ++ rest) (.var acc)=(lexM rest .start).map ((6,acc ++ l) :: ·)
 | [],acc,rest,_,hs=>by
  cases rest with
  | nil=>simp [lexM]
  | cons c r =>
   rw [List.nil_append]
   conv=>lhs;rw [lexM,hs c r rfl]
   simp [lexM]
 | c :: l,acc,rest,h,hs=>by
  simp only [List.all_cons,Bool.and_eq_true] at h
  rw [List.cons_append,lexM,h.1,if_pos rfl,lex_var l _ rest h.2 hs]
  simp
theorem lex_cap {l rest : List UInt8} (h : capB l=true) (hs : Stop rest) : lexM (l ++ rest) .start=(lexM rest .start).map ((5,l) :: ·):=by
 cases l with
 | nil=>cases h
 | cons c l =>
  simp only [capB,Bool.and_eq_true] at h
  rw [List.cons_append,lexM,start_cap h.1,lex_typ l _ rest h.2 hs]
  simp
theorem lex_low {l rest : List UInt8} (h : lowB l=true) (hs : Stop rest) : lexM (l ++ rest) .start=(lexM rest .start).map ((6,l) :: ·):=by
 cases l with
 | nil=>cases h
 | cons c l =>
  simp only [lowB,Bool.and_eq_true] at h
  rw [List.cons_append,lexM,start_lowr h.1,lex_var l _ rest h.2 hs]
  simp
theorem lex_strm : ∀ (l acc rest : List UInt8),strB l=true -> lexM (l ++ 34 :: rest) (.str acc)=(lexM rest .start).map ((10,acc ++ l) :: ·)
 | [],acc,rest,_=>by simp [lexM]
 | c :: l,acc,rest,h=>by
  simp only [strB,List.all_cons,Bool.and_eq_true,bne_iff_ne,decide_eq_true_eq] at h
  obtain ⟨⟨⟨h1,h2⟩,h3⟩,h4⟩:=h
  rw [List.cons_append,lexM,if_neg (by simpa using h1),if_neg (by simp only [Bool.or_eq_true,decide_eq_true_eq,beq_iff_eq,not_or];exact ⟨h2,by omega⟩),lex_strm l _ rest (by simpa [strB] using h4)]
  simp
theorem lex_str {l rest : List UInt8} (h : strB l=true) : lexM (34 :: (l ++ 34 :: rest)) .start=(lexM rest .start).map ((10,l) :: ·):=by
 rw [lexM]
 show lexM (l ++ 34 :: rest) (.str [])=_
 rw [lex_strm l [] rest h];rfl
theorem lex_lp (rest : List UInt8) : lexM (40 :: rest) .start=(lexM rest .start).map ((1,[40]) :: ·):=by rw [lexM];rfl
theorem lex_rp (rest : List UInt8) : lexM (41 :: rest) .start=(lexM rest .start).map ((2,[41]) :: ·):=by rw [lexM];rfl
theorem lex_lb (rest : List UInt8) : lexM (91 :: rest) .start=(lexM rest .start).map ((3,[91]) :: ·):=by rw [lexM];rfl
theorem lex_rb (rest : List UInt8) : lexM (93 :: rest) .start=(lexM rest .start).map ((4,[93]) :: ·):=by rw [lexM];rfl
theorem lex_at (rest : List UInt8) : lexM (64 :: rest) .start=(lexM rest .start).map ((7,[64]) :: ·):=by rw [lexM];rfl
theorem lex_colon (rest : List UInt8) : lexM (58 :: rest) .start=(lexM rest .start).map ((8,[58]) :: ·):=by rw [lexM];rfl
theorem lex_blank (rest : List UInt8) : lexM (95 :: rest) .start=(lexM rest .start).map ((9,[95]) :: ·):=by rw [lexM];rfl
theorem lex_space (rest : List UInt8) : lexM (32 :: rest) .start=lexM rest .start:=by rw [lexM];rfl
theorem lex_nl (rest : List UInt8) : lexM (10 :: rest) .start=lexM rest .start:=by rw [lexM];rfl
theorem lex_tab (rest : List UInt8) : lexM (9 :: rest) .start=lexM rest .start:=by rw [lexM];rfl
theorem gap_list (s : Int) : (gapOf s).toList=[32] \/ (gapOf s).toList=[32,32,10,9]:=by
 unfold gapOf;split
 ·exact .inr (toList_mk _)
 ·exact .inl (toList_mk _)
theorem lex_gap (s : Int) (rest : List UInt8) : lexM ((gapOf s).toList ++ rest) .start=lexM rest .start:=by
 rcases gap_list s with h | h <;> rw [h]
 ·exact lex_space _
 ·simp only [List.cons_append,List.nil_append,lex_space,lex_nl,lex_tab]
theorem Stop.gap (s : Int) (rest : List UInt8) : Stop ((gapOf s).toList ++ rest):=by
 rcases gap_list s with h | h <;> rw [h] <;> exact Stop.cons _ (by decide)
theorem toList_app (a b : ByteArray) : (a ++ b).toList=a.toList ++ b.toList:=by simp [ByteArray.toList_eq]
mutual
def toks (s : Int) : Tree -> List Tok
 | .mk k x ks =>
  if k.toList == [65,110,121] then (if bit s 1 then [(1,[40]),(5,[65,110,121]),(2,[41])] else [(9,[95])])
  else if k.toList == [78,105,108] then [(6,[110,105,108])]
  else if k.toList == [83,116,114,105,110,103] then [(10,x.toList)]
  else if k.toList == [76,105,115,116] then (match ks with
   | []=>[(3,[91]),(4,[93])]
   | a :: b :: _ =>
    if bit s 4 || (heavy a && (!(whole b).isSome || bit s 2)) then (1,[40]) :: (5,[76,105,115,116]) :: (toks s a ++ (toks s b ++ [(2,[41])]))
    else if !(whole b).isSome || bit s 2 then toks s a ++ (8,[58]) :: toks s b
    else (3,[91]) :: (toks s a ++ (spineT s b ++ [(4,[93])]))
   | [_]=>[])
  else if k.toList == [66,105,110,100,105,110,103] then (match ks with
   | []=>[(6,x.toList)]
   | a :: _=>(6,x.toList) :: (7,[64]) :: toks s a)
  else (1,[40]) :: (5,k.toList) :: (toksAll s ks ++ [(2,[41])])
def toksAll (s : Int) : List Tree -> List Tok
 | []=>[]
 | t :: ts=>toks s t ++ toksAll s ts
def spineT (s : Int) : Tree -> List Tok
 | .mk _ _ ks=>(match ks with
  | a :: b :: _=>toks s a ++ spineT s b
  | _=>[])
end
theorem toks_mk (s : Int) (k x : ByteArray) (ks : List Tree) : toks s (.mk k x ks)=(
  if k.toList == [65,110,121] then (if bit s 1 then [(1,[40]),(5,[65,110,121]),(2,[41])] else [(9,[95])])
  else if k.toList == [78,105,108] then [(6,[110,105,108])]
  else if k.toList == [83,116,114,105,110,103] then [(10,x.toList)]
  else if k.toList == [76,105,115,116] then (match ks with
   | []=>[(3,[91]),(4,[93])]
   | a :: b :: _ =>
    if bit s 4 || (heavy a && (!(whole b).isSome || bit s 2)) then (1,[40]) :: (5,[76,105,115,116]) :: (toks s a ++ (toks s b ++ [(2,[41])]))
    else if !(whole b).isSome || bit s 2 then toks s a ++ (8,[58]) :: toks s b
    else (3,[91]) :: (toks s a ++ (spineT s b ++ [(4,[93])]))
   | [_]=>[])
  else if k.toList == [66,105,110,100,105,110,103] then (match ks with
   | []=>[(6,x.toList)]
   | a :: _=>(6,x.toList) :: (7,[64]) :: toks s a)
  else (1,[40]) :: (5,k.toList) :: (toksAll s ks ++ [(2,[41])])):=by
 conv=>lhs;unfold toks
theorem spineT_eq (s : Int) (b : Tree) (l : List Tree) (h : whole b=some l) : spineT s b=toksAll s l:=by
 induction l generalizing b with
 | nil =>
  obtain ⟨k,x,ks⟩:=b
  rw [whole_mk] at h
  split at h
  ·split at h
   ·simp [spineT,toksAll]
   ·rename_i b' _
    cases hb : whole b' <;> rw [hb] at h <;> simp at h
   ·cases h
  ·cases h
 | cons t l ih =>
  obtain ⟨k,x,ks⟩:=b
  rw [whole_mk] at h
  split at h
  ·split at h
   ·cases h
   ·rename_i a b' _
    cases hb : whole b' with
    | none=>rw [hb] at h;simp at h
    | some l' =>
     rw [hb] at h
     simp at h
     obtain ⟨rfl,rfl⟩:=h
     simp [spineT,toksAll,ih b' hb]
   ·cases h
  ·cases h
def LexOK (s : Int) (t : Tree) : Prop:=∀ rest,Stop rest -> lexM ((text s t).toList ++ rest) .start=(lexM rest .start).map (toks s t ++ ·)
theorem omap2 {α : Type} (o : Option (List α)) (a b : List α) : (o.map (b ++ ·)).map (a ++ ·)=o.map ((a ++ b) ++ ·):=by cases o <;> simp
theorem ocons {α : Type} (o : Option (List α)) (a : α) : o.map (a :: ·)=o.map ([a] ++ ·):=by cases o <;> simp
theorem lex_all (s : Int) : ∀ (l : List Tree),(∀ t ∈ l,LexOK s t) -> ∀ rest,Stop rest -> lexM ((textAll s l).toList ++ rest) .start=(lexM rest .start).map (toksAll s l ++ ·) /\ Stop ((textAll s l).toList ++ rest)
 | [],_,rest,hs=>by
  have e : (textAll s []).toList=[]:=by rw [textAll];exact toList_mk []
  rw [e,toksAll]
  refine ⟨?_,hs⟩
  rw [List.nil_append]
  cases lexM rest .start <;> rfl
 | t :: l,h,rest,hs=>by
  obtain ⟨h1,h2⟩:=lex_all s l (fun u hu=>h u (List.mem_cons_of_mem _ hu)) rest hs
  rw [textAll,toksAll,toList_app,toList_app,List.append_assoc,List.append_assoc]
  refine ⟨?_,Stop.gap _ _⟩
  rw [lex_gap,h t (List.mem_cons_self ..) _ h2,h1,omap2]
theorem fields_names : ∀ x ∈ fieldsT,capB x.1.toList=true:=by decide +kernel
theorem fieldsT_key {k : ByteArray} (h : fields k ≠ []) : ∃ x ∈ fieldsT,k=x.1:=by
 rcases sw_cases k fieldsT [] with ⟨h',-⟩ | ⟨x,hx,hk,-⟩
 ·exact absurd h' h
 ·exact ⟨x,hx,hk⟩
theorem named_key {k : ByteArray} (h : named k=true) : ∃ x ∈ fieldsT,k=x.1:=by
 unfold named at h
 rw [Bool.or_eq_true,decide_eq_true_eq] at h
 rcases h with h | h
 ·refine fieldsT_key fun e=>?_
  unfold args at h
  rw [e] at h
  split at h
  ·simp at h
  ·split at h <;> simp at h
 ·exact fieldsT_key (by rw [beq_lit h];decide +kernel)
theorem named_cap {k : ByteArray} (h : named k=true) : capB k.toList=true:=by
 obtain ⟨x,hx,rfl⟩:=named_key h
 exact fields_names x hx
theorem word_str (l : List UInt8) (h : word l=true) : strB l=true:=by
 unfold word at h
 simp only [Bool.and_eq_true] at h
 have h1:=h.1.1
 rw [List.all_eq_true] at h1
 rw [strB,List.all_eq_true]
 intro c hc
 have:=(wordB_iff c).1 (h1 c hc)
 have:=byte_all (p:=fun c=>!wordB c || (c != 34 && c != 92 && decide (c.toNat < 128))) (by decide +kernel) c
 rw [h1 c hc] at this
 simpa using this
theorem sign_all : ∀ k ∈ signKinds,∀ x ∈ tokens k,strB x.toList=true:=by decide +kernel
theorem sign_str (x : ByteArray) (h : sign x=true) : strB x.toList=true:=by
 unfold sign at h
 rw [List.any_eq_true] at h
 obtain ⟨k,hk,h⟩:=h
 rw [List.any_eq_true] at h
 obtain ⟨y,hy,h⟩:=h
 rw [<- eq_of_beq h]
 exact sign_all k hk y hy
theorem name_low (l : List UInt8) (h : name l=true) : lowB l=true:=by
 unfold name at h
 simp only [Bool.and_eq_true,decide_eq_true_eq] at h
 obtain ⟨⟨⟨h1,h2⟩,-⟩,-⟩:=h
 have key : ∀ c : UInt8,(!nameB c || (isLow c.toNat && alnum c.toNat))=true:=byte_all (by decide +kernel)
 cases l with
 | nil=>simp at h2
 | cons c l =>
  simp only [List.all_cons,Bool.and_eq_true] at h1
  simp only [lowB,Bool.and_eq_true]
  refine ⟨?_,?_⟩
  ·have:=key c;rw [h1.1] at this;simp at this;exact this.1
  ·rw [List.all_eq_true]
   intro d hd
   have:=key d;rw [List.all_eq_true.1 h1.2 d hd] at this;simp at this;exact this.2
theorem kind_cases (k : ByteArray) : k=⟨#[65,110,121]⟩ \/ k=⟨#[78,105,108]⟩ \/ k=⟨#[83,116,114,105,110,103]⟩ \/ k=⟨#[76,105,115,116]⟩ \/ k=⟨#[66,105,110,100,105,110,103]⟩ \/ k=⟨#[79,114]⟩ \/ k=⟨#[78,111,116]⟩ ∨
  ((k.toList == [65,110,121])=false /\ (k.toList == [78,105,108])=false /\ (k.toList == [83,116,114,105,110,103])=false /\ (k.toList == [76,105,115,116])=false /\ (k.toList == [66,105,110,100,105,110,103])=false /\ (k.toList == [79,114])=false /\ (k.toList == [78,111,116])=false):=by
 cases h1 : (k.toList == [65,110,121]) with
 | true=>exact .inl (beq_lit h1)
 | false =>
 cases h2 : (k.toList == [78,105,108]) with
 | true=>exact .inr (.inl (beq_lit h2))
 | false =>
 cases h3 : (k.toList == [83,116,114,105,110,103]) with
 | true=>exact .inr (.inr (.inl (beq_lit h3)))
 | false =>
 cases h4 : (k.toList == [76,105,115,116]) with
 | true=>exact .inr (.inr (.inr (.inl (beq_lit h4))))
 | false =>
 cases h5 : (k.toList == [66,105,110,100,105,110,103]) with
 | true=>exact .inr (.inr (.inr (.inr (.inl (beq_lit h5)))))
 | false =>
 cases h6 : (k.toList == [79,114]) with
 | true=>exact .inr (.inr (.inr (.inr (.inr (.inl (beq_lit h6))))))
 | false =>
 cases h7 : (k.toList == [78,111,116]) with
 | true=>exact .inr (.inr (.inr (.inr (.inr (.inr (.inl (beq_lit h7)))))))
 | false=>exact .inr (.inr (.inr (.inr (.inr (.inr (.inr ⟨rfl,rfl,rfl,rfl,rfl,rfl,rfl⟩))))))
theorem goodAll_mem {ks : List Tree} {c : Int} (h : goodAll ks c=true) : ∀ t ∈ ks,good t c=true:=by
 rw [goodAll_eq,List.all_eq_true] at h;exact h
theorem goodArgs_mem : ∀ {ks : List Tree} {L : List UInt8} (_ : goodArgs ks L=true),∀ t ∈ ks,∃ c,good t c=true
 | [],_,_,t,ht=>by cases ht
 | u :: ks,[],h,t,ht=>by simp [goodArgs] at h
 | u :: ks,c :: L,h,t,ht=>by
  simp only [goodArgs,Bool.and_eq_true] at h
  rcases List.mem_cons.1 ht with rfl | ht
  ·exact ⟨_,h.1⟩
  ·exact goodArgs_mem h.2 t ht
theorem good_node {k x : ByteArray} {ks : List Tree} {c : Int} (h : good (.mk k x ks) c=true) (h1 : (k.toList == [65,110,121])=false) (h2 : (k.toList == [78,105,108])=false) (h3 : (k.toList == [83,116,114,105,110,103])=false) (h4 : (k.toList == [76,105,115,116])=false) (h5 : (k.toList == [66,105,110,100,105,110,103])=false) :
  (∀ t ∈ ks,∃ c,good t c=true) /\ capB k.toList=true /\ x.toList=[]:=by
 rw [good_mk,h1,h2,h3,h4,h5] at h
 simp only [Bool.or_self,Bool.false_eq_true,if_false] at h
 split at h
 ·rename_i h6
  simp only [Bool.and_eq_true,decide_eq_true_eq,beq_iff_eq] at h
  exact ⟨fun t ht=>⟨c,goodAll_mem h.1.1 t ht⟩,by rw [eq_of_beq h6];decide,h.1.2⟩
 ·split at h
  ·rename_i h7
   split at h
   ·rename_i a
    simp only [Bool.and_eq_true,beq_iff_eq] at h
    exact ⟨fun t ht=>⟨c,by rw [List.mem_singleton.1 ht];exact h.2.1⟩,by rw [eq_of_beq h7];decide,h.1⟩
   ·simp at h
  ·simp only [Bool.and_eq_true,beq_iff_eq] at h
   exact ⟨goodArgs_mem h.2,named_cap h.1.1.1.2,h.1.1.2⟩
theorem good_list_parts {x : ByteArray} {ks : List Tree} {c : Int} (h : good (.mk ⟨#[76,105,115,116]⟩ x ks) c=true) : x.toList=[] /\ (ks=[] \/ ∃ a b,ks=[a,b] /\ good a 97=true /\ tailKind b=true /\ good b 108=true):=by
 rw [good_mk] at h
 simp only [toList_mk] at h
 simp (decide:=true) only [↓reduceIte] at h
 simp only [Bool.and_eq_true,beq_iff_eq] at h
 refine ⟨h.1.2,?_⟩
 match ks,h.2 with
 | [],_=>exact .inl rfl
 | [a,b],h2=>simp only [Bool.and_eq_true] at h2;exact .inr ⟨a,b,rfl,h2.1,h2.2.1,h2.2.2⟩
 | [_],h2=>simp at h2
 | _ :: _ :: _ :: _,h2=>simp at h2
theorem good_bind_parts {x : ByteArray} {ks : List Tree} {c : Int} (h : good (.mk ⟨#[66,105,110,100,105,110,103]⟩ x ks) c=true) : name x.toList=true /\ (ks=[] \/ ∃ a,ks=[a] /\ named a.kind=true /\ good a c=true):=by
 rw [good_mk] at h
 simp only [toList_mk] at h
 simp (decide:=true) only [↓reduceIte] at h
 simp only [Bool.and_eq_true,beq_iff_eq] at h
 refine ⟨h.1,?_⟩
 match ks,h.2 with
 | [],_=>exact .inl rfl
 | [a],h2=>simp only [Bool.and_eq_true] at h2;exact .inr ⟨a,rfl,h2.1.2,h2.2⟩
 | _ :: _ :: _,h2=>simp at h2
theorem good_leaf_parts {k x : ByteArray} {ks : List Tree} {c : Int} (hk : k=⟨#[65,110,121]⟩ \/ k=⟨#[78,105,108]⟩) (h : good (.mk k x ks) c=true) : x.toList=[] /\ ks=[]:=by
 rw [good_mk] at h
 have : (k.toList == [65,110,121] || k.toList == [78,105,108])=true:=by rcases hk with rfl | rfl <;> simp only [toList_mk] <;> decide
 rw [this,if_pos rfl] at h
 simpa [List.length_eq_zero_iff] using h
theorem good_string_parts {x : ByteArray} {ks : List Tree} {c : Int} (h : good (.mk ⟨#[83,116,114,105,110,103]⟩ x ks) c=true) : textLetter c=true /\ ks=[] /\ strB x.toList=true:=by
 rw [good_mk] at h
 simp only [toList_mk] at h
 simp (decide:=true) only [↓reduceIte] at h
 simp only [Bool.and_eq_true,Bool.or_eq_true,beq_iff_eq,List.length_eq_zero_iff] at h
 refine ⟨h.1.1,h.1.2,?_⟩
 rcases h.2 with h | h
 ·exact word_str _ h.2
 ·exact sign_str _ h.2
theorem node_lex {s : Int} {k x : ByteArray} {ks : List Tree} (h1 : (k.toList == [65,110,121])=false) (h2 : (k.toList == [78,105,108])=false) (h3 : (k.toList == [83,116,114,105,110,103])=false) (h4 : (k.toList == [76,105,115,116])=false) (h5 : (k.toList == [66,105,110,100,105,110,103])=false) (hcap : capB k.toList=true) (hks : ∀ t ∈ ks,LexOK s t) : LexOK s (.mk k x ks):=by
 intro rest hs
 rw [text_mk,toks_mk,h1,h2,h3,h4,h5]
 simp only [Bool.false_eq_true,if_false]
 obtain ⟨g1,g2⟩:=lex_all s ks hks (41 :: rest) (Stop.cons _ (by decide))
 simp only [toList_app,toList_mk,List.append_assoc,List.cons_append,List.nil_append]
 rw [lex_lp,lex_cap hcap g2,g1,lex_rp]
 cases lexM rest .start <;> simp
theorem lex_text (s : Int) (t : Tree) : (∀ c,good t c=true -> LexOK s t) /\ (∀ l,whole t=some l -> good t 108=true -> ∀ u ∈ l,LexOK s u):=by
 refine Tree.ind (P:=fun t=>(∀ c,good t c=true -> LexOK s t) /\ (∀ l,whole t=some l -> good t 108=true -> ∀ u ∈ l,LexOK s u)) ?_ t
 clear t
 rintro ⟨k,x,ks⟩ ih
 simp only [kids_mk] at ih
 have ihm : ∀ t ∈ ks,∀ c,good t c=true -> LexOK s t:=fun t ht=>by
  obtain ⟨j,hj,rfl⟩:=List.getElem_of_mem ht
  exact (ih j hj).1
 refine ⟨fun c hg rest hs=>?_,fun l hw hg u hu=>?_⟩
 ·rcases kind_cases k with rfl | rfl | rfl | rfl | rfl | hk
  ·rw [text_mk,toks_mk]
   simp only [toList_mk]
   simp (decide:=true) only [↓reduceIte]
   split
   ·rw [toList_mk]
    show lexM (40 :: ([65,110,121] ++ 41 :: rest)) .start=_
    rw [lex_lp,lex_cap (by decide) (Stop.cons _ (by decide)),lex_rp]
    cases lexM rest .start <;> simp
   ·rw [toList_mk]
    show lexM (95 :: rest) .start=_
    rw [lex_blank,ocons]
  ·rw [text_mk,toks_mk]
   simp only [toList_mk]
   simp (decide:=true) only [↓reduceIte]
   rw [toList_mk,lex_low (by decide) hs,ocons]
  ·obtain ⟨-,-,hx⟩:=good_string_parts hg
   rw [text_mk,toks_mk]
   simp only [toList_mk]
   simp (decide:=true) only [↓reduceIte]
   rw [toList_app,toList_app,toList_mk]
   simp only [List.cons_append,List.nil_append,List.append_assoc]
   rw [lex_str hx,ocons]
  ·obtain ⟨-,rfl | ⟨a,b,rfl,ha,hb1,hb⟩⟩:=good_list_parts hg
   ·rw [text_mk,toks_mk]
    simp only [toList_mk]
    simp (decide:=true) only [↓reduceIte]
    rw [toList_mk]
    show lexM (91 :: 93 :: rest) .start=_
    rw [lex_lb,lex_rb]
    cases lexM rest .start <;> simp
   ·have iA : LexOK s a:=ihm a (by simp) _ ha
    have iB : LexOK s b:=ihm b (by simp) _ hb
    have iS:=(ih 1 (by simp)).2
    rw [text_mk,toks_mk]
    simp only [toList_mk]
    simp (decide:=true) only [↓reduceIte]
    split
    ·simp only [toList_app,toList_mk,List.append_assoc,List.cons_append,List.nil_append]
     show lexM (40 :: ([76,105,115,116] ++ ((gapOf s).toList ++ ((text s a).toList ++ ((gapOf s).toList ++ ((text s b).toList ++ 41 :: rest)))))) .start=_
     rw [lex_lp,lex_cap (by decide) (Stop.gap _ _),lex_gap,iA _ (Stop.gap _ _),lex_gap,iB _ (Stop.cons _ (by decide)),lex_rp]
     cases lexM rest .start <;> simp
    ·split
     ·simp only [toList_app,toList_mk,List.append_assoc,List.cons_append,List.nil_append]
      rw [iA _ (Stop.cons _ (by decide)),lex_colon,iB _ hs]
      cases lexM rest .start <;> simp
     ·rename_i h1 h2
      have hw : ∃ l,whole b=some l:=by
       cases hw : whole b with
       | none=>rw [hw] at h2;simp at h2
       | some l=>exact ⟨l,rfl⟩
      obtain ⟨l,hw⟩:=hw
      obtain ⟨g1,g2⟩:=lex_all s l (iS l hw hb) (93 :: rest) (Stop.cons _ (by decide))
      rw [spine_eq s b l hw,spineT_eq s b l hw]
      simp only [toList_app,toList_mk,List.append_assoc,List.cons_append,List.nil_append]
      rw [lex_lb,iA _ g2,g1,lex_rb]
      cases lexM rest .start <;> simp
  ·obtain ⟨hx,rfl | ⟨a,rfl,hn,ha⟩⟩:=good_bind_parts hg
   ·rw [text_mk,toks_mk]
    simp only [toList_mk]
    simp (decide:=true) only [↓reduceIte]
    rw [lex_low (name_low _ hx) hs,ocons]
   ·have iA : LexOK s a:=ihm a (by simp) _ ha
    rw [text_mk,toks_mk]
    simp only [toList_mk]
    simp (decide:=true) only [↓reduceIte]
    simp only [toList_app,toList_mk,List.append_assoc,List.cons_append,List.nil_append]
    rw [lex_low (name_low _ hx) (Stop.cons _ (by decide)),lex_at,iA _ hs]
    cases lexM rest .start <;> simp
  ·have hk' : (k.toList == [65,110,121])=false /\ (k.toList == [78,105,108])=false /\ (k.toList == [83,116,114,105,110,103])=false /\ (k.toList == [76,105,115,116])=false /\ (k.toList == [66,105,110,100,105,110,103])=false:=by
    rcases hk with rfl | rfl | hk
    ·simp only [toList_mk];decide
    ·simp only [toList_mk];decide
    ·exact ⟨hk.1,hk.2.1,hk.2.2.1,hk.2.2.2.1,hk.2.2.2.2.1⟩
   obtain ⟨h1,h2,h3,h4,h5⟩:=hk'
   obtain ⟨hks,hcap,-⟩:=good_node hg h1 h2 h3 h4 h5
   exact node_lex h1 h2 h3 h4 h5 hcap (fun t ht=>by obtain ⟨c,hc⟩:=hks t ht;exact ihm t ht c hc) rest hs
 ·rw [whole_mk] at hw
  split at hw
  ·rename_i hk
   obtain rfl:=beq_lit hk
   obtain ⟨-,rfl | ⟨a,b,rfl,ha,hb1,hb⟩⟩:=good_list_parts hg
   ·simp at hw;subst hw;cases hu
   ·simp only at hw
    cases hwb : whole b with
    | none=>rw [hwb] at hw;simp at hw
    | some l' =>
     rw [hwb] at hw
     simp at hw
     subst hw
     rcases List.mem_cons.1 hu with rfl | hu
     ·exact ihm u (by simp) _ ha
     ·exact (ih 1 (by simp)).2 l' hwb hb u hu
  ·cases hw
end Go.Proofs.YtigalkobmfbdaaaGreatDoor
namespace Go.Proofs.YtigalkobmfbdaaaGreatDoor
open Go.RowKit
mutual
def toPN : Tree -> Names -> PN × Names
 | .mk k x ks,nm =>
  if k.toList == [65,110,121] then (.any,nm)
  else if k.toList == [78,105,108] then (.nil,nm)
  else if k.toList == [83,116,114,105,110,103] then (.str x,nm)
  else if k.toList == [76,105,115,116] then (match ks with
   | []=>(.list .nul .nul,nm)
   | a :: b :: _=>(.list (toPN a nm).1 (toPN b (toPN a nm).2).1,(toPN b (toPN a nm).2).2)
   | [_]=>(.nul,nm))
  else if k.toList == [66,105,110,100,105,110,103] then (match ks with
   | []=>(.bind x .nul (nm.idxOf x.toList),addName nm x.toList)
   | a :: _=>(.bind x (toPN a nm).1 ((toPN a nm).2.idxOf x.toList),addName (toPN a nm).2 x.toList))
  else if k.toList == [79,114] then (.or (toPNs ks nm).1,(toPNs ks nm).2)
  else (.struct k (toPNs ks nm).1,(toPNs ks nm).2)
def toPNs : List Tree -> Names -> List PN × Names
 | [],nm=>([],nm)
 | t :: ts,nm=>((toPN t nm).1 :: (toPNs ts (toPN t nm).2).1,(toPNs ts (toPN t nm).2).2)
end
theorem toPN_mk (k x : ByteArray) (ks : List Tree) (nm : Names) : toPN (.mk k x ks) nm=(
  if k.toList == [65,110,121] then (.any,nm)
  else if k.toList == [78,105,108] then (.nil,nm)
  else if k.toList == [83,116,114,105,110,103] then (.str x,nm)
  else if k.toList == [76,105,115,116] then (match ks with
   | []=>(.list .nul .nul,nm)
   | a :: b :: _=>(.list (toPN a nm).1 (toPN b (toPN a nm).2).1,(toPN b (toPN a nm).2).2)
   | [_]=>(.nul,nm))
  else if k.toList == [66,105,110,100,105,110,103] then (match ks with
   | []=>(.bind x .nul (nm.idxOf x.toList),addName nm x.toList)
   | a :: _=>(.bind x (toPN a nm).1 ((toPN a nm).2.idxOf x.toList),addName (toPN a nm).2 x.toList))
  else if k.toList == [79,114] then (.or (toPNs ks nm).1,(toPNs ks nm).2)
  else (.struct k (toPNs ks nm).1,(toPNs ks nm).2)):=by
 conv=>lhs;unfold toPN
theorem toPNs_cons (t : Tree) (ts : List Tree) (nm : Names) : toPNs (t :: ts) nm=((toPN t nm).1 :: (toPNs ts (toPN t nm).2).1,(toPNs ts (toPN t nm).2).2):=by rw [toPNs]
theorem toPNs_len : ∀ (ts : List Tree) (nm : Names),(toPNs ts nm).1.length=ts.length
 | [],_=>by rw [toPNs];rfl
 | t :: ts,nm=>by rw [toPNs_cons];simp [toPNs_len ts]
theorem toPN_whole : ∀ (l : List Tree) (t : Tree) (nm : Names),whole t=some l -> toPN t nm=((toPNs l nm).1.foldr PN.list (.list .nul .nul),(toPNs l nm).2)
 | [],⟨k,x,ks⟩,nm,h=>by
  rw [whole_mk] at h
  split at h
  ·rename_i hk
   obtain rfl:=beq_lit hk
   rw [toPN_mk]
   simp only [toList_mk]
   simp (decide:=true) only [↓reduceIte]
   rw [toPNs]
   match ks,h with
   | [],_=>rfl
   | [_],h=>simp at h
   | a :: b :: _,h=>simp only at h;cases hb : whole b <;> rw [hb] at h <;> simp at h
  ·cases h
 | u :: l,⟨k,x,ks⟩,nm,h=>by
  rw [whole_mk] at h
  split at h
  ·rename_i hk
   obtain rfl:=beq_lit hk
   rw [toPN_mk]
   simp only [toList_mk]
   simp (decide:=true) only [↓reduceIte]
   rw [toPNs_cons]
   match ks,h with
   | [],h=>simp at h
   | [_],h=>simp at h
   | a :: b :: _,h =>
    simp only at h
    cases hb : whole b with
    | none=>rw [hb] at h;simp at h
    | some l' =>
     rw [hb] at h
     simp at h
     obtain ⟨rfl,rfl⟩:=h
     simp only
     rw [toPN_whole l' b _ hb]
     simp
  ·cases h
theorem named_facts : ∀ x ∈ fieldsT,x.1.size <= 40 /\ typeInfo x.1=false /\ (named x.1=true -> structNodes x.1=some (args x.1).length) /\ (x.1.toList == [79,114])=false /\ (x.1.toList == [65,110,121])=false /\ (x.1.toList == [78,105,108])=false /\ (x.1.toList == [83,116,114,105,110,103])=false /\ (x.1.toList == [78,111,116])=false /\ (x.1.toList == [76,105,115,116])=false /\ (x.1.toList == [66,105,110,100,105,110,103])=false:=by decide +kernel
theorem signs_small : ∀ k ∈ signKinds,∀ x ∈ tokens k,x.size <= 40:=by decide +kernel
theorem empty_size {x : ByteArray} (h : x.toList=[]) : x.size=0:=by rw [<- size_toList,h];rfl
theorem name_size {x : ByteArray} (h : name x.toList=true) : x.size <= 6:=by
 unfold name at h
 simp only [Bool.and_eq_true,decide_eq_true_eq,size_toList] at h
 exact h.1.2
theorem string_size {x : ByteArray} {ks : List Tree} {c : Int} (h : good (.mk ⟨#[83,116,114,105,110,103]⟩ x ks) c=true) : x.size <= 40:=by
 rw [good_mk] at h
 simp only [toList_mk] at h
 simp (decide:=true) only [↓reduceIte] at h
 simp only [Bool.and_eq_true,Bool.or_eq_true,beq_iff_eq,List.length_eq_zero_iff] at h
 rcases h.2 with h | h
 ·have:=h.2
  unfold word at this
  simp only [Bool.and_eq_true,decide_eq_true_eq,size_toList] at this
  omega
 ·have:=h.2
  unfold sign at this
  rw [List.any_eq_true] at this
  obtain ⟨k,hk,this⟩:=this
  rw [List.any_eq_true] at this
  obtain ⟨y,hy,this⟩:=this
  rw [<- toList_inj (eq_of_beq this)]
  exact signs_small k hk y hy
theorem good_node_kind {k x : ByteArray} {ks : List Tree} {c : Int} (h : good (.mk k x ks) c=true) (h1 : (k.toList == [65,110,121])=false) (h2 : (k.toList == [78,105,108])=false) (h3 : (k.toList == [83,116,114,105,110,103])=false) (h4 : (k.toList == [76,105,115,116])=false) (h5 : (k.toList == [66,105,110,100,105,110,103])=false) :
  (k=⟨#[79,114]⟩ /\ ks ≠ []) \/ (k=⟨#[78,111,116]⟩ /\ ks.length=1) \/ (named k=true /\ ks.length=(args k).length):=by
 rw [good_mk,h1,h2,h3,h4,h5] at h
 simp only [Bool.or_self,Bool.false_eq_true,if_false] at h
 split at h
 ·rename_i h6
  simp only [Bool.and_eq_true,decide_eq_true_eq,beq_iff_eq] at h
  exact .inl ⟨beq_lit h6,fun e=>by rw [e] at h;simp at h⟩
 ·split at h
  ·rename_i h7
   split at h
   ·exact .inr (.inl ⟨beq_lit h7,rfl⟩)
   ·simp at h
  ·simp only [Bool.and_eq_true,beq_iff_eq] at h
   exact .inr (.inr ⟨h.1.1.1.2,h.1.2⟩)
theorem tameAll_of_mem : ∀ {ks : List Tree},(∀ t ∈ ks,tame t=true) -> tameAll ks=true
 | [],_=>rfl
 | t :: ks,h=>by simp only [tameAll,Bool.and_eq_true];exact ⟨h t (List.mem_cons_self ..),tameAll_of_mem fun u hu=>h u (List.mem_cons_of_mem _ hu)⟩
theorem tame_of {k x : ByteArray} {ks : List Tree} (h0 : (k.toList == [76,105,115,116] && ks.length == 1)=false) (h1 : k.size <= 40) (h2 : x.size <= 40) (h3 : ∀ t ∈ ks,tame t=true) : tame (.mk k x ks)=true:=by
 simp only [tame,h0,tameAll_of_mem h3,decide_eq_true h1,decide_eq_true (show x.size <= 48 by omega)];rfl
theorem good_tame (t : Tree) : ∀ c,good t c=true -> tame t=true:=by
 refine Tree.ind (P:=fun t=>∀ c,good t c=true -> tame t=true) ?_ t
 clear t
 rintro ⟨k,x,ks⟩ ih c hg
 simp only [kids_mk] at ih
 have ihm : ∀ t ∈ ks,∀ c,good t c=true -> tame t=true:=fun t ht=>by
  obtain ⟨j,hj,rfl⟩:=List.getElem_of_mem ht
  exact ih j hj
 rcases kind_cases k with rfl | rfl | rfl | rfl | rfl | hk
 ·obtain ⟨hx,rfl⟩:=good_leaf_parts (.inl rfl) hg
  exact tame_of (by simp only [toList_mk];simp) (by decide) (by rw [empty_size hx];decide) (by simp)
 ·obtain ⟨hx,rfl⟩:=good_leaf_parts (.inr rfl) hg
  exact tame_of (by simp only [toList_mk];simp) (by decide) (by rw [empty_size hx];decide) (by simp)
 ·have hz:=string_size hg
  obtain ⟨-,rfl,-⟩:=good_string_parts hg
  exact tame_of (by simp only [toList_mk];simp) (by decide) hz (by simp)
 ·obtain ⟨hx,rfl | ⟨a,b,rfl,ha,hb1,hb⟩⟩:=good_list_parts hg
  ·exact tame_of (by simp only [toList_mk];simp) (by decide) (by rw [empty_size hx];decide) (by simp)
  ·exact tame_of (by simp only [toList_mk];simp) (by decide) (by rw [empty_size hx];decide) (by
    intro t ht
    simp at ht
    rcases ht with rfl | rfl
    ·exact ihm _ (by simp) _ ha
    ·exact ihm _ (by simp) _ hb)
 ·obtain ⟨hx,rfl | ⟨a,rfl,hn,ha⟩⟩:=good_bind_parts hg
  ·exact tame_of (by simp only [toList_mk];simp) (by decide) (by have:=name_size hx;omega) (by simp)
  ·exact tame_of (by simp only [toList_mk];simp) (by decide) (by have:=name_size hx;omega) (by
    intro t ht
    rw [List.mem_singleton.1 ht]
    exact ihm _ (by simp) _ ha)
 ·have hk' : (k.toList == [65,110,121])=false /\ (k.toList == [78,105,108])=false /\ (k.toList == [83,116,114,105,110,103])=false /\ (k.toList == [76,105,115,116])=false /\ (k.toList == [66,105,110,100,105,110,103])=false:=by
   rcases hk with rfl | rfl | hk
   ·simp only [toList_mk];decide
   ·simp only [toList_mk];decide
   ·exact ⟨hk.1,hk.2.1,hk.2.2.1,hk.2.2.2.1,hk.2.2.2.2.1⟩
  obtain ⟨h1,h2,h3,h4,h5⟩:=hk'
  obtain ⟨hks,hcap,hx⟩:=good_node hg h1 h2 h3 h4 h5
  refine tame_of (by rw [h4];rfl) ?_ (by rw [empty_size hx];decide) (fun t ht=>by obtain ⟨c,hc⟩:=hks t ht;exact ihm t ht c hc)
  rcases good_node_kind hg h1 h2 h3 h4 h5 with ⟨rfl,-⟩ | ⟨rfl,-⟩ | ⟨hn,-⟩
  ·decide
  ·decide
  ·obtain ⟨y,hy,rfl⟩:=named_key hn
   exact (named_facts y hy).1
theorem toks_head (s : Int) (t : Tree) : ∀ c,good t c=true -> ∃ y r,toks s t=y :: r /\ (y.1=1 \/ y.1=3 \/ y.1=6 \/ y.1=9 \/ y.1=10):=by
 refine Tree.ind (P:=fun t=>∀ c,good t c=true -> ∃ y r,toks s t=y :: r /\ (y.1=1 \/ y.1=3 \/ y.1=6 \/ y.1=9 \/ y.1=10)) ?_ t
 clear t
 rintro ⟨k,x,ks⟩ ih c hg
 simp only [kids_mk] at ih
 rw [toks_mk]
 split
 ·split
  ·exact ⟨_,_,rfl,by simp⟩
  ·exact ⟨_,_,rfl,by simp⟩
 ·split
  ·exact ⟨_,_,rfl,by simp⟩
  ·split
   ·exact ⟨_,_,rfl,by simp⟩
   ·split
    ·rename_i hk
     obtain rfl:=beq_lit hk
     obtain ⟨-,rfl | ⟨a,b,rfl,ha,hb1,hb⟩⟩:=good_list_parts hg
     ·exact ⟨_,_,rfl,by simp⟩
     ·simp only
      split
      ·exact ⟨_,_,rfl,by simp⟩
      ·split
       ·obtain ⟨y,r,e,hy⟩:=ih 0 (by simp) _ ha
        simp only [List.getElem_cons_zero] at e
        rw [e]
        exact ⟨_,_,rfl,hy⟩
       ·exact ⟨_,_,rfl,by simp⟩
    ·split
     ·rename_i hk
      obtain rfl:=beq_lit hk
      obtain ⟨-,rfl | ⟨a,rfl,-⟩⟩:=good_bind_parts hg
      ·exact ⟨_,_,rfl,by simp⟩
      ·exact ⟨_,_,rfl,by simp⟩
     ·exact ⟨_,_,rfl,by simp⟩
def HeadT (s : Int) (t : Tree) : Prop:=∃ y r,toks s t=y :: r /\ (y.1=1 \/ y.1=3 \/ y.1=6 \/ y.1=9 \/ y.1=10)
theorem items_cons {S : List Item} {y : Tok} {R : List Tok} (h : S.map tokOf=y :: R) (h0 : y.1 ≠ 0) : ∃ x S',S=x :: S' /\ x.typ=y.1 /\ x.val.toList=y.2 /\ S'.map tokOf=R:=by
 cases S with
 | nil=>simp at h
 | cons x S' =>
  simp only [List.map_cons,List.cons.injEq] at h
  refine ⟨x,S',rfl,?_,?_,h.2⟩
  ·rw [<- h.1];rfl
  ·have h1 : x.typ ≠ 0:=fun e=>h0 (by rw [<- h.1];exact e)
   rw [<- h.1];simp [tokOf,h1]
theorem items_head {S : List Item} {y : Tok} {R : List Tok} (h : S.map tokOf=y :: R) : ∃ x S',S=x :: S' /\ x.typ=y.1 /\ S'.map tokOf=R:=by
 cases S with
 | nil=>simp at h
 | cons x S' =>
  simp only [List.map_cons,List.cons.injEq] at h
  exact ⟨x,S',rfl,by rw [<- h.1];rfl,h.2⟩
def Follow (R : List Tok) : Prop:=∃ y R',R=y :: R' /\ y.1 ≠ 7 /\ y.1 ≠ 8
def Follow7 (R : List Tok) : Prop:=∃ y R',R=y :: R' /\ y.1 ≠ 7
def ObjOK (s : Int) (al : Bool) (t : Tree) : Prop:=∀ (nm : Names) (f : Nat) (S : List Item) (R : List Tok),10 * count t <= f -> S.map tokOf=toks s t ++ R -> Follow R -> ∃ S',S'.map tokOf=R /\ objectM al (f + 1) S nm=some (some ((toPN t nm).1,S',(toPN t nm).2))
def HeadOK (s : Int) (al : Bool) (t : Tree) : Prop:=∀ (nm : Names) (f : Nat) (S : List Item) (R : List Tok),10 * count t <= f -> S.map tokOf=toks s t ++ R -> Follow7 R -> ∃ S',S'.map tokOf=R /\ objectM al (f + 1) S nm=tailM al f (toPN t nm).1 S' (toPN t nm).2
def NodeOK (s : Int) (al : Bool) (t : Tree) : Prop:=∀ (nm : Names) (f : Nat) (S : List Item) (R : List Tok),10 * count t <= f -> S.map tokOf=toks s t ++ R -> ∃ S',S'.map tokOf=R /\ nodeM al f S nm=some (some ((toPN t nm).1,S',(toPN t nm).2))
theorem tail_done {al : Bool} {f : Nat} {n : PN} {S : List Item} {nm : Names} {R : List Tok} (hf : 0 < f) (h : S.map tokOf=R) (hF : Follow R) : tailM al f n S nm=some (some (n,S,nm)):=by
 obtain ⟨y,R',rfl,-,h8⟩:=hF
 obtain ⟨x,S',rfl,hx,-⟩:=items_head h
 obtain ⟨g,rfl⟩ : ∃ g,f=g + 1:=⟨f - 1,by omega⟩
 rw [tailM_cons,if_neg (by rw [hx];simpa using h8)]
theorem HeadOK.obj {s : Int} {al : Bool} {t : Tree} (h : HeadOK s al t) : ObjOK s al t:=by
 intro nm f S R hf hS hF
 obtain ⟨S',h1,h2⟩:=h nm f S R hf hS (by obtain ⟨y,R',e,a,b⟩:=hF;exact ⟨y,R',e,a⟩)
 have:=count_pos t
 exact ⟨S',h1,by rw [h2,tail_done (by omega) h1 hF]⟩
theorem NodeOK.head {s : Int} {al : Bool} {t : Tree} {v : List UInt8} {r : List Tok} (h : NodeOK s al t) (ht : toks s t=(1,v) :: r) : HeadOK s al t:=by
 intro nm f S R hf hS hF
 obtain ⟨S',h1,h2⟩:=h nm f S R hf hS
 rw [ht] at hS
 obtain ⟨x,S1,rfl,hx,-⟩:=items_head hS
 refine ⟨S',h1,?_⟩
 rw [objectM_cons,if_pos (by rw [hx];rfl),h2]
 rfl
theorem objs_read {s : Int} {al : Bool} {stop : Int} (hst : stop=2 \/ stop=4) : ∀ (ks : List Tree),(∀ t ∈ ks,ObjOK s al t /\ HeadT s t) -> ∀ (nm : Names) (f : Nat) (S : List Item) (R : List Tok) (v : List UInt8),10 * countAll ks + 2 <= f -> S.map tokOf=toksAll s ks ++ (stop,v) :: R →
  ∃ S',S'.map tokOf=R /\ objsM al f stop S nm=some (some ((toPNs ks nm).1,S',(toPNs ks nm).2))
 | [],_,nm,f,S,R,v,hf,hS=>by
  rw [toksAll] at hS
  obtain ⟨x,S1,rfl,hx,h1⟩:=items_head hS
  obtain ⟨g,rfl⟩ : ∃ g,f=g + 1:=⟨f - 1,by omega⟩
  refine ⟨S1,h1,?_⟩
  rw [objsM_cons,if_pos (by rw [hx];simp),toPNs]
 | t :: ks,h,nm,f,S,R,v,hf,hS=>by
  obtain ⟨h1,y,r,ey,hy⟩:=h t (List.mem_cons_self ..)
  simp only [countAll] at hf
  have hpos:=count_pos t
  obtain ⟨g,rfl⟩ : ∃ g,f=g + 2:=⟨f - 2,by omega⟩
  rw [toksAll,List.append_assoc] at hS
  have hF : Follow (toksAll s ks ++ (stop,v) :: R):=by
   cases ks with
   | nil=>rw [toksAll];refine ⟨_,_,rfl,?_⟩;rcases hst with rfl | rfl <;> simp
   | cons u ks' =>
    obtain ⟨-,y',r',ey',hy'⟩:=h u (by simp)
    rw [toksAll,ey']
    refine ⟨_,_,rfl,?_⟩
    rcases hy' with e | e | e | e | e <;> rw [e] <;> decide
  obtain ⟨S1,e1,e2⟩:=h1 nm g S _ (by omega) hS hF
  obtain ⟨S2,e3,e4⟩:=objs_read hst ks (fun u hu=>h u (List.mem_cons_of_mem _ hu)) (toPN t nm).2 (g + 1) S1 R v (by omega) e1
  refine ⟨S2,e3,?_⟩
  rw [ey] at hS
  obtain ⟨x,S',rfl,hx,-⟩:=items_head hS
  rw [objsM_cons,if_neg (by
   rw [hx]
   rcases hst with rfl | rfl <;> rcases hy with e | e | e | e | e <;> rw [e] <;> decide),e2]
  simp only [PRes.andThen]
  rw [e4,toPNs_cons]
theorem populate_named {al : Bool} {k : ByteArray} {ks : List PN} (hn : named k=true) (hl : ks.length=(args k).length) : said k ks=true /\ populate al k ks=some (.struct k ks):=by
 obtain ⟨y,hy,rfl⟩:=named_key hn
 obtain ⟨-,h1,h2,h3,h4,-,-,h5,h6,h7⟩:=named_facts y hy
 constructor
 ·unfold said;rw [h7,h3];rfl
 ·unfold populate
  rw [h2 hn]
  simp only [h1,h3,h4,h6,hl,Bool.and_false,Bool.false_eq_true,if_false,bne_self_eq_false]
theorem populate_Or (al : Bool) (ks : List PN) (hne : ks ≠ []) : said ⟨#[79,114]⟩ ks=true /\ populate al ⟨#[79,114]⟩ ks=some (.or ks):=by
 constructor
 ·unfold said
  simp only [toList_mk]
  cases ks with
  | nil=>exact absurd rfl hne
  | cons a l=>simp
 ·unfold populate
  rw [show structNodes ⟨#[79,114]⟩=some 0 by decide +kernel]
  simp only [show typeInfo ⟨#[79,114]⟩=false by decide +kernel,toList_mk,Bool.and_false]
  rfl
theorem populate_Not (al : Bool) (a : PN) : said ⟨#[78,111,116]⟩ [a]=true /\ populate al ⟨#[78,111,116]⟩ [a]=some (.struct ⟨#[78,111,116]⟩ [a]):=by
 constructor
 ·unfold said
  simp only [toList_mk]
  rfl
 ·unfold populate
  rw [show structNodes ⟨#[78,111,116]⟩=some 1 by decide +kernel]
  simp only [show typeInfo ⟨#[78,111,116]⟩=false by decide +kernel,toList_mk,Bool.and_false]
  rfl
theorem populate_List (al : Bool) (a b : PN) : said ⟨#[76,105,115,116]⟩ [a,b]=true /\ populate al ⟨#[76,105,115,116]⟩ [a,b]=some (.list a b):=by
 constructor
 ·unfold said
  simp only [toList_mk]
  rfl
 ·unfold populate
  rw [show structNodes ⟨#[76,105,115,116]⟩=some 2 by decide +kernel]
  simp only [show typeInfo ⟨#[76,105,115,116]⟩=false by decide +kernel,toList_mk,Bool.and_false]
  rfl
theorem populate_Any (al : Bool) : said ⟨#[65,110,121]⟩ []=true /\ populate al ⟨#[65,110,121]⟩ []=some .any:=by
 constructor
 ·unfold said
  simp only [toList_mk]
  rfl
 ·unfold populate
  rw [show structNodes ⟨#[65,110,121]⟩=some 0 by decide +kernel]
  simp only [show typeInfo ⟨#[65,110,121]⟩=false by decide +kernel,toList_mk,Bool.and_false]
  rfl
theorem node_gen {s : Int} {al : Bool} {k : ByteArray} {ks : List Tree} (hks : ∀ t ∈ ks,ObjOK s al t /\ HeadT s t)
  (nm : Names) (hp : said k (toPNs ks nm).1=true) (f : Nat) (S : List Item) (R : List Tok) (hf : 10 * countAll ks + 3 <= f) (hS : S.map tokOf=(1,[40]) :: (5,k.toList) :: (toksAll s ks ++ (2,[41]) :: R)) :
  ∃ S',S'.map tokOf=R /\ nodeM al f S nm=some ((populate al k (toPNs ks nm).1).map fun n=>(n,S',(toPNs ks nm).2)):=by
 obtain ⟨x,S1,rfl,hx,h1⟩:=items_head hS
 obtain ⟨t,S2,rfl,ht,hv,h2⟩:=items_cons h1 (by simp)
 obtain ⟨g,rfl⟩ : ∃ g,f=g + 1:=⟨f - 1,by omega⟩
 obtain ⟨S3,h3,h4⟩:=objs_read (.inl rfl) ks hks nm g S2 R [41] (by omega) h2
 refine ⟨S3,h3,?_⟩
 obtain rfl : t.val=k:=toList_inj hv
 rw [nodeM_cons,if_pos (by rw [hx];rfl)]
 simp only
 rw [if_pos (by rw [ht];rfl),h4]
 simp only [PRes.andThen]
 rw [if_pos hp]
theorem node_read {s : Int} {al : Bool} {k : ByteArray} {ks : List Tree} (hks : ∀ t ∈ ks,ObjOK s al t /\ HeadT s t) {n : List PN -> PN} (hp : ∀ l : List PN,l.length=ks.length -> said k l=true /\ populate al k l=some (n l))
  (nm : Names) (f : Nat) (S : List Item) (R : List Tok) (hf : 10 * countAll ks + 3 <= f) (hS : S.map tokOf=(1,[40]) :: (5,k.toList) :: (toksAll s ks ++ (2,[41]) :: R)) :
  ∃ S',S'.map tokOf=R /\ nodeM al f S nm=some (some (n (toPNs ks nm).1,S',(toPNs ks nm).2)):=by
 obtain ⟨p1,p2⟩:=hp (toPNs ks nm).1 (toPNs_len ks nm)
 obtain ⟨S',h1,h2⟩:=node_gen hks nm p1 f S R hf hS
 exact ⟨S',h1,by rw [h2,p2];rfl⟩
def nodeKind (t : Tree) : Bool:=!(t.kind.toList == [65,110,121]) && !(t.kind.toList == [78,105,108]) && !(t.kind.toList == [83,116,114,105,110,103]) && !(t.kind.toList == [76,105,115,116]) && !(t.kind.toList == [66,105,110,100,105,110,103])
theorem named_node {t : Tree} (h : named t.kind=true) : nodeKind t=true:=by
 obtain ⟨y,hy,e⟩:=named_key h
 obtain ⟨-,-,-,-,h1,h2,h3,-,h4,h5⟩:=named_facts y hy
 unfold nodeKind
 rw [e,h1,h2,h3,h4,h5];rfl
theorem countAll_two (a b : Tree) : countAll [a,b]=count a + count b:=by simp [countAll]
theorem read_text (s : Int) (al : Bool) (t : Tree) : (∀ c,good t c=true -> ObjOK s al t /\ (heavy t=false -> (t.kind.toList == [83,116,114,105,110,103])=false -> HeadOK s al t) /\ (nodeKind t=true -> NodeOK s al t)) /\ (∀ l,whole t=some l -> good t 108=true -> ∀ u ∈ l,ObjOK s al u /\ HeadT s u):=by
 refine Tree.ind (P:=fun t=>(∀ c,good t c=true -> ObjOK s al t /\ (heavy t=false -> (t.kind.toList == [83,116,114,105,110,103])=false -> HeadOK s al t) /\ (nodeKind t=true -> NodeOK s al t)) /\ (∀ l,whole t=some l -> good t 108=true -> ∀ u ∈ l,ObjOK s al u /\ HeadT s u)) ?_ t
 clear t
 rintro ⟨k,x,ks⟩ ih
 simp only [kids_mk] at ih
 have ihm : ∀ t ∈ ks,∀ c,good t c=true -> ObjOK s al t /\ (heavy t=false -> (t.kind.toList == [83,116,114,105,110,103])=false -> HeadOK s al t) /\ (nodeKind t=true -> NodeOK s al t):=fun t ht=>by
  obtain ⟨j,hj,rfl⟩:=List.getElem_of_mem ht
  exact (ih j hj).1
 refine ⟨fun c hg=>?_,fun l hw hg u hu=>?_⟩
 ·rcases kind_cases k with rfl | rfl | rfl | rfl | rfl | hk
  ·obtain ⟨hx,rfl⟩:=good_leaf_parts (.inl rfl) hg
   have hH : HeadOK s al (.mk ⟨#[65,110,121]⟩ x []):=by
    intro nm f S R hf hS hF
    rw [toks_mk] at hS
    simp only [toList_mk] at hS
    simp (decide:=true) only [↓reduceIte] at hS
    rw [toPN_mk]
    simp only [toList_mk]
    simp (decide:=true) only [↓reduceIte]
    split at hS
    ·simp only [List.cons_append,List.nil_append] at hS
     obtain ⟨S',h1,h2⟩:=node_read (s:=s) (al:=al) (k:=⟨#[65,110,121]⟩) (ks:=[]) (by simp) (n:=fun _=>.any) (fun l hl=>by
      obtain rfl:=List.eq_nil_of_length_eq_zero hl
      exact populate_Any al) nm f S R (by simp [count,countAll] at hf ⊢;omega) (by rw [hS,toksAll,toList_mk];rfl)
     obtain ⟨x0,S1,rfl,hx0,-⟩:=items_head hS
     refine ⟨S',h1,?_⟩
     rw [objectM_cons,if_pos (by rw [hx0];rfl),h2,toPNs]
     rfl
    ·simp only [List.cons_append,List.nil_append] at hS
     obtain ⟨x0,S1,rfl,hx0,h1⟩:=items_head hS
     refine ⟨S1,h1,?_⟩
     rw [objectM_cons,if_neg (by rw [hx0];simp),if_neg (by rw [hx0];simp),if_neg (by rw [hx0];simp),if_pos (by rw [hx0];rfl)]
   exact ⟨hH.obj,fun _ _=>hH,fun h=>by simp only [nodeKind,kind_mk,toList_mk] at h;exact absurd h (by decide)⟩
  ·obtain ⟨hx,rfl⟩:=good_leaf_parts (.inr rfl) hg
   refine ⟨?_,fun h=>by simp only [heavy,kind_mk,toList_mk] at h;exact absurd h (by decide),fun h=>by simp only [nodeKind,kind_mk,toList_mk] at h;exact absurd h (by decide)⟩
   intro nm f S R hf hS hF
   rw [toks_mk] at hS
   simp only [toList_mk] at hS
   simp (decide:=true) only [↓reduceIte] at hS
   rw [toPN_mk]
   simp only [toList_mk]
   simp (decide:=true) only [↓reduceIte]
   simp only [List.cons_append,List.nil_append] at hS
   obtain ⟨x0,S1,rfl,hx0,hv,h1⟩:=items_cons hS (by simp)
   refine ⟨S1,h1,?_⟩
   rw [objectM_cons,if_neg (by rw [hx0];simp),if_neg (by rw [hx0];simp),if_pos (by rw [hx0];rfl),if_pos (by rw [hv];rfl)]
  ·obtain ⟨-,rfl,-⟩:=good_string_parts hg
   refine ⟨?_,fun _ h=>by simp only [kind_mk,toList_mk] at h;exact absurd h (by decide),fun h=>by simp only [nodeKind,kind_mk,toList_mk] at h;exact absurd h (by decide)⟩
   intro nm f S R hf hS hF
   rw [toks_mk] at hS
   simp only [toList_mk] at hS
   simp (decide:=true) only [↓reduceIte] at hS
   rw [toPN_mk]
   simp only [toList_mk]
   simp (decide:=true) only [↓reduceIte]
   simp only [List.cons_append,List.nil_append] at hS
   obtain ⟨x0,S1,rfl,hx0,hv,h1⟩:=items_cons hS (by simp)
   refine ⟨S1,h1,?_⟩
   obtain rfl : x0.val=x:=toList_inj hv
   rw [objectM_cons,if_neg (by rw [hx0];simp),if_neg (by rw [hx0];simp),if_neg (by rw [hx0];simp),if_neg (by rw [hx0];simp),if_pos (by rw [hx0];rfl)]
  ·refine ⟨?_,fun h=>by simp only [heavy,kind_mk,toList_mk] at h;exact absurd h (by decide),fun h=>by simp only [nodeKind,kind_mk,toList_mk] at h;exact absurd h (by decide)⟩
   obtain ⟨-,rfl | ⟨a,b,rfl,ha,hb1,hb⟩⟩:=good_list_parts hg
   ·intro nm f S R hf hS hF
    rw [toks_mk] at hS
    simp only [toList_mk] at hS
    simp (decide:=true) only [↓reduceIte] at hS
    rw [toPN_mk]
    simp only [toList_mk]
    simp (decide:=true) only [↓reduceIte]
    simp only [List.cons_append,List.nil_append] at hS
    obtain ⟨x0,S1,rfl,hx0,h1⟩:=items_head hS
    obtain ⟨x1,S2,rfl,hx1,h2⟩:=items_head h1
    simp [count,countAll] at hf
    obtain ⟨g,rfl⟩ : ∃ g,f=g + 2:=⟨f - 2,by omega⟩
    refine ⟨S2,h2,?_⟩
    rw [objectM_cons,if_neg (by rw [hx0];simp),if_pos (by rw [hx0];rfl),arrayM_cons,if_pos (by rw [hx0];rfl),objsM_cons,if_pos (by rw [hx1];rfl)]
    rfl
   ·have iA:=ihm a (by simp) _ ha
    have iB:=ihm b (by simp) _ hb
    have iS:=(ih 1 (by simp)).2
    simp only [List.getElem_cons_succ,List.getElem_cons_zero] at iS
    have hcnt : count (.mk ⟨#[76,105,115,116]⟩ x [a,b])=count a + count b + 1:=by simp [count,countAll]
    have hpa:=count_pos a
    have hpb:=count_pos b
    intro nm f S R hf hS hF
    rw [hcnt] at hf
    rw [toks_mk] at hS
    simp only [toList_mk] at hS
    simp (decide:=true) only [↓reduceIte] at hS
    split at hS
    ·simp only [List.cons_append,List.append_assoc,List.nil_append] at hS
     obtain ⟨S',h1,h2⟩:=node_read (s:=s) (al:=al) (k:=⟨#[76,105,115,116]⟩) (ks:=[a,b]) (by
       intro t ht
       simp at ht
       rcases ht with rfl | rfl
       ·exact ⟨iA.1,toks_head s _ _ ha⟩
       ·exact ⟨iB.1,toks_head s _ _ hb⟩) (n:=fun l=>match l with | [p,q]=>.list p q | _=>.nul) (fun l hl=>by
      match l,hl with
      | [p,q],_=>exact populate_List al p q) nm f S R (by simp only [countAll_two];omega) (by rw [hS,toksAll,toksAll,toksAll,toList_mk];simp)
     obtain ⟨x0,S1,rfl,hx0,-⟩:=items_head hS
     refine ⟨S',h1,?_⟩
     rw [objectM_cons,if_pos (by rw [hx0];rfl),h2]
     simp only [PRes.andThen]
     rw [tail_done (by omega) h1 hF,toPN_mk]
     simp only [toList_mk]
     simp (decide:=true) only [↓reduceIte]
     rw [toPNs_cons,toPNs_cons,toPNs]
    ·split at hS
     ·rename_i g1 g2
      have hh : heavy a=false:=by
       cases e : heavy a with
       | false=>rfl
       | true=>rw [e,g2] at g1;simp at g1
      have hstr : (a.kind.toList == [83,116,114,105,110,103])=false:=by
       cases e : (a.kind.toList == [83,116,114,105,110,103]) with
       | false=>rfl
       | true =>
        obtain ⟨ka,xa,kas⟩:=a
        obtain rfl:=beq_lit e
        have:=(good_string_parts ha).1
        simp [textLetter] at this
      simp only [List.append_assoc,List.cons_append] at hS
      obtain ⟨S1,h1,h2⟩:=iA.2.1 hh hstr nm f S _ (by omega) hS ⟨_,_,rfl,by decide⟩
      obtain ⟨x0,S2,rfl,hx0,h3⟩:=items_head h1
      obtain ⟨g,rfl⟩ : ∃ g,f=g + 2:=⟨f - 2,by omega⟩
      obtain ⟨S3,h4,h5⟩:=iB.1 (toPN a nm).2 g S2 R (by omega) h3 hF
      refine ⟨S3,h4,?_⟩
      rw [h2,tailM_cons,if_pos (by rw [hx0];rfl),h5,toPN_mk]
      simp only [toList_mk]
      simp (decide:=true) only [↓reduceIte]
      rfl
     ·rename_i g1 g2
      obtain ⟨l,hw⟩ : ∃ l,whole b=some l:=by
       cases hw : whole b with
       | none=>rw [hw] at g2;simp at g2
       | some l=>exact ⟨l,rfl⟩
      have hwl:=whole_list b l hw (good_tame b _ hb)
      have e0 : (3,[91]) :: (toks s a ++ (spineT s b ++ [(4,[93])])) ++ R=(3,[91]) :: (toksAll s (a :: l) ++ (4,[93]) :: R):=by rw [spineT_eq s b l hw,toksAll];simp
      rw [e0] at hS
      obtain ⟨x0,S1,rfl,hx0,h1⟩:=items_head hS
      obtain ⟨g,rfl⟩ : ∃ g,f=g + 1:=⟨f - 1,by omega⟩
      obtain ⟨S2,h2,h3⟩:=objs_read (s:=s) (al:=al) (stop:=4) (.inr rfl) (a :: l) (by
       intro t ht
       rcases List.mem_cons.1 ht with rfl | ht
       ·exact ⟨iA.1,toks_head s _ _ ha⟩
       ·exact iS l hw hb t ht) nm g S1 R [93] (by simp only [countAll];have:=hwl.2.1;omega) h1
      refine ⟨S2,h2,?_⟩
      have hwhole : whole (.mk ⟨#[76,105,115,116]⟩ x [a,b])=some (a :: l):=by
       rw [whole_mk]
       simp only [toList_mk]
       simp (decide:=true) only [↓reduceIte]
       rw [hw]
       rfl
      rw [objectM_cons,if_neg (by rw [hx0];simp),if_pos (by rw [hx0];rfl),arrayM_cons,if_pos (by rw [hx0];rfl),h3,toPN_whole _ _ _ hwhole]
      rfl
  ·obtain ⟨hx,hks⟩:=good_bind_parts hg
   have hnil : (x.toList == [110,105,108])=false:=by
    unfold name at hx
    simp only [Bool.and_eq_true,bne_iff_ne] at hx
    simpa using hx.2
   have hH : HeadOK s al (.mk ⟨#[66,105,110,100,105,110,103]⟩ x ks):=by
    intro nm f S R hf hS hF
    rw [toks_mk] at hS
    simp only [toList_mk] at hS
    simp (decide:=true) only [↓reduceIte] at hS
    rw [toPN_mk]
    simp only [toList_mk]
    simp (decide:=true) only [↓reduceIte]
    rcases hks with rfl | ⟨a,rfl,hn,ha⟩
    ·simp only [List.cons_append,List.nil_append] at hS
     obtain ⟨x0,S1,rfl,hx0,hv,h1⟩:=items_cons hS (by simp)
     obtain rfl : x0.val=x:=toList_inj hv
     obtain ⟨y,R',rfl,hy⟩:=hF
     obtain ⟨x1,S2,rfl,hx1,h2⟩:=items_head h1
     refine ⟨x1 :: S2,h1,?_⟩
     rw [objectM_cons,if_neg (by rw [hx0];simp),if_neg (by rw [hx0];simp),if_pos (by rw [hx0];rfl),if_neg (by rw [hnil];decide)]
     simp only
     rw [if_neg (by rw [hx1];simpa using hy)]
    ·have iA:=ihm a (by simp) _ ha
     simp only [List.cons_append,List.nil_append] at hS
     obtain ⟨x0,S1,rfl,hx0,hv,h1⟩:=items_cons hS (by simp)
     obtain rfl : x0.val=x:=toList_inj hv
     obtain ⟨x1,S2,rfl,hx1,h2⟩:=items_head h1
     simp only [count,countAll] at hf
     obtain ⟨S3,h3,h4⟩:=iA.2.2 (named_node hn) nm f S2 R (by omega) h2
     refine ⟨S3,h3,?_⟩
     rw [objectM_cons,if_neg (by rw [hx0];simp),if_neg (by rw [hx0];simp),if_pos (by rw [hx0];rfl),if_neg (by rw [hnil];decide)]
     simp only
     rw [if_pos (by rw [hx1];rfl),h4]
     rfl
   exact ⟨hH.obj,fun _ _=>hH,fun h=>by simp only [nodeKind,kind_mk,toList_mk] at h;exact absurd h (by decide)⟩
  ·have hk' : (k.toList == [65,110,121])=false /\ (k.toList == [78,105,108])=false /\ (k.toList == [83,116,114,105,110,103])=false /\ (k.toList == [76,105,115,116])=false /\ (k.toList == [66,105,110,100,105,110,103])=false:=by
    rcases hk with rfl | rfl | hk
    ·simp only [toList_mk];decide
    ·simp only [toList_mk];decide
    ·exact ⟨hk.1,hk.2.1,hk.2.2.1,hk.2.2.2.1,hk.2.2.2.2.1⟩
   obtain ⟨h1,h2,h3,h4,h5⟩:=hk'
   obtain ⟨hks,hcap,-⟩:=good_node hg h1 h2 h3 h4 h5
   have hkk : ∀ t ∈ ks,ObjOK s al t /\ HeadT s t:=fun t ht=>by obtain ⟨c,hc⟩:=hks t ht;exact ⟨(ihm t ht c hc).1,toks_head s t c hc⟩
   have hto : toks s (.mk k x ks)=(1,[40]) :: (5,k.toList) :: (toksAll s ks ++ [(2,[41])]):=by
    rw [toks_mk,h1,h2,h3,h4,h5]
    simp only [Bool.false_eq_true,if_false]
   have hN : NodeOK s al (.mk k x ks):=by
    intro nm f S R hf hS
    rw [hto] at hS
    simp only [List.cons_append,List.append_assoc,List.nil_append] at hS
    have hcnt : 10 * countAll ks + 3 <= f:=by simp only [count] at hf;omega
    rcases good_node_kind hg h1 h2 h3 h4 h5 with ⟨rfl,hne⟩ | ⟨rfl,hl⟩ | ⟨hn,hl⟩
    ·obtain ⟨S',g1,g2⟩:=node_read hkk (n:=PN.or) (fun l hl=>populate_Or al l (fun e=>hne (by subst e;exact List.eq_nil_of_length_eq_zero hl.symm))) nm f S R hcnt hS
     refine ⟨S',g1,?_⟩
     rw [g2,toPN_mk,h1,h2,h3,h4,h5]
     simp only [toList_mk]
     rfl
    ·obtain ⟨S',g1,g2⟩:=node_read hkk (n:=PN.struct ⟨#[78,111,116]⟩) (fun l hl'=>by
      match l,hl'.trans hl with
      | [a],_=>exact populate_Not al a) nm f S R hcnt hS
     refine ⟨S',g1,?_⟩
     rw [g2,toPN_mk,h1,h2,h3,h4,h5]
     simp only [toList_mk]
     rfl
    ·obtain ⟨S',g1,g2⟩:=node_read hkk (n:=PN.struct k) (fun l hl'=>populate_named hn (hl'.trans hl)) nm f S R hcnt hS
     refine ⟨S',g1,?_⟩
     obtain ⟨y,hy,rfl⟩:=named_key hn
     rw [g2,toPN_mk,h1,h2,h3,h4,h5,(named_facts y hy).2.2.2.1]
     rfl
   exact ⟨(hN.head hto).obj,fun _ _=>hN.head hto,fun _=>hN⟩
 ·rw [whole_mk] at hw
  split at hw
  ·rename_i hk
   obtain rfl:=beq_lit hk
   obtain ⟨-,rfl | ⟨a,b,rfl,ha,hb1,hb⟩⟩:=good_list_parts hg
   ·simp at hw;subst hw;cases hu
   ·simp only at hw
    cases hwb : whole b with
    | none=>rw [hwb] at hw;simp at hw
    | some l' =>
     rw [hwb] at hw
     simp at hw
     subst hw
     rcases List.mem_cons.1 hu with rfl | hu
     ·exact ⟨(ihm u (by simp) _ ha).1,toks_head s u _ ha⟩
     ·exact (ih 1 (by simp)).2 l' hwb hb u hu
  ·cases hw
end Go.Proofs.YtigalkobmfbdaaaGreatDoor
namespace Go.Proofs.YtigalkobmfbdaaaGreatDoor
open Go.RowKit
def PN.isNul : PN -> Bool
 | .nul=>true
 | _=>false
abbrev noT : ByteArray:=⟨#[]⟩
abbrev strT (s : ByteArray) : Tree:=.mk ⟨#[83,116,114,105,110,103]⟩ s []
mutual
def toTree : PN -> Tree
 | .nul=>.mk noT noT []
 | .any=>.mk ⟨#[65,110,121]⟩ noT []
 | .nil=>.mk ⟨#[78,105,108]⟩ noT []
 | .str s=>strT s
 | .tok s=>.mk ⟨#[84,111,107,101,110]⟩ s []
 | .struct nm ks=>.mk nm noT (toTrees ks)
 | .list h t=>if h.isNul && t.isNul then .mk ⟨#[76,105,115,116]⟩ noT [] else .mk ⟨#[76,105,115,116]⟩ noT [toTree h,toTree t]
 | .bind nm n i=>if n.isNul then .mk ⟨#[66,105,110,100,105,110,103]⟩ nm [] else .mk ⟨#[66,105,110,100,105,110,103]⟩ nm [toTree n]
 | .or ks=>.mk ⟨#[79,114]⟩ noT (toTrees ks)
 | .and ks=>.mk ⟨#[65,110,100]⟩ noT (toTrees ks)
 | .index p t i=>.mk ⟨#[73,110,100,101,120,83,121,109,98,111,108]⟩ noT [strT p,strT t,strT i]
def toTrees : List PN -> List Tree
 | []=>[]
 | n :: ns=>toTree n :: toTrees ns
end
theorem empty_is {x : ByteArray} (h : x.toList=[]) : x=noT:=toList_inj (h.trans (toList_mk []).symm)
theorem toTree_toPN (t : Tree) : ∀ c,good t c=true -> ∀ nm,toTree (toPN t nm).1=t /\ (toPN t nm).1.isNul=false:=by
 refine Tree.ind (P:=fun t=>∀ c,good t c=true -> ∀ nm,toTree (toPN t nm).1=t /\ (toPN t nm).1.isNul=false) ?_ t
 clear t
 rintro ⟨k,x,ks⟩ ih c hg nm
 simp only [kids_mk] at ih
 have ihm : ∀ t ∈ ks,∀ c,good t c=true -> ∀ nm,toTree (toPN t nm).1=t /\ (toPN t nm).1.isNul=false:=fun t ht=>by
  obtain ⟨j,hj,rfl⟩:=List.getElem_of_mem ht
  exact ih j hj
 have ihl : ∀ (l : List Tree),(∀ t ∈ l,t ∈ ks /\ ∃ c,good t c=true) -> ∀ nm,toTrees (toPNs l nm).1=l:=by
  intro l
  induction l with
  | nil=>intro _ nm;rw [toPNs,toTrees]
  | cons u l ihl =>
   intro h nm
   obtain ⟨hu,c,hc⟩:=h u (List.mem_cons_self ..)
   rw [toPNs_cons,toTrees,(ihm u hu c hc nm).1,ihl (fun t ht=>h t (List.mem_cons_of_mem _ ht))]
 rw [toPN_mk]
 rcases kind_cases k with rfl | rfl | rfl | rfl | rfl | hk
 ·obtain ⟨hx,rfl⟩:=good_leaf_parts (.inl rfl) hg
  obtain rfl:=empty_is hx
  simp only [toList_mk]
  simp (decide:=true) only [↓reduceIte]
  exact ⟨by rw [toTree],by first | rfl | trivial⟩
 ·obtain ⟨hx,rfl⟩:=good_leaf_parts (.inr rfl) hg
  obtain rfl:=empty_is hx
  simp only [toList_mk]
  simp (decide:=true) only [↓reduceIte]
  exact ⟨by rw [toTree],by first | rfl | trivial⟩
 ·obtain ⟨-,rfl,-⟩:=good_string_parts hg
  simp only [toList_mk]
  simp (decide:=true) only [↓reduceIte]
  exact ⟨by rw [toTree],by first | rfl | trivial⟩
 ·obtain ⟨hx,rfl | ⟨a,b,rfl,ha,hb1,hb⟩⟩:=good_list_parts hg
  ·obtain rfl:=empty_is hx
   simp only [toList_mk]
   simp (decide:=true) only [↓reduceIte]
   exact ⟨by rw [toTree];rfl,by first | rfl | trivial⟩
  ·obtain rfl:=empty_is hx
   simp only [toList_mk]
   simp (decide:=true) only [↓reduceIte]
   obtain ⟨a1,a2⟩:=ihm a (by simp) _ ha nm
   obtain ⟨b1,b2⟩:=ihm b (by simp) _ hb (toPN a nm).2
   refine ⟨?_,by first | rfl | trivial⟩
   rw [toTree,a1,b1,a2]
   rfl
 ·obtain ⟨hx,rfl | ⟨a,rfl,hn,ha⟩⟩:=good_bind_parts hg
  ·simp only [toList_mk]
   simp (decide:=true) only [↓reduceIte]
   exact ⟨by rw [toTree];rfl,by first | rfl | trivial⟩
  ·simp only [toList_mk]
   simp (decide:=true) only [↓reduceIte]
   obtain ⟨a1,a2⟩:=ihm a (by simp) _ ha nm
   refine ⟨?_,by first | rfl | trivial⟩
   rw [toTree,a1,a2]
   rfl
 ·have hk' : (k.toList == [65,110,121])=false /\ (k.toList == [78,105,108])=false /\ (k.toList == [83,116,114,105,110,103])=false /\ (k.toList == [76,105,115,116])=false /\ (k.toList == [66,105,110,100,105,110,103])=false:=by
   rcases hk with rfl | rfl | hk
   ·simp only [toList_mk];decide
   ·simp only [toList_mk];decide
   ·exact ⟨hk.1,hk.2.1,hk.2.2.1,hk.2.2.2.1,hk.2.2.2.2.1⟩
  obtain ⟨h1,h2,h3,h4,h5⟩:=hk'
  obtain ⟨hks,hcap,hx⟩:=good_node hg h1 h2 h3 h4 h5
  obtain rfl:=empty_is hx
  have e:=ihl ks (fun t ht=>⟨ht,hks t ht⟩) nm
  rw [h1,h2,h3,h4,h5]
  simp only [Bool.false_eq_true,if_false]
  split
  ·rename_i h6
   obtain rfl:=beq_lit h6
   exact ⟨by rw [toTree,e],rfl⟩
  ·exact ⟨by rw [toTree,e],rfl⟩
mutual
def namesT : Tree -> Names
 | .mk k x ks=>if k.toList == [66,105,110,100,105,110,103] then addName (namesTs ks []) x.toList else namesTs ks []
def namesTs : List Tree -> Names -> Names
 | [],acc=>acc
 | t :: ts,acc=>namesTs ts ((namesT t).foldl addName acc)
end
theorem namesT_mk (k x : ByteArray) (ks : List Tree) : namesT (.mk k x ks)=if k.toList == [66,105,110,100,105,110,103] then addName (namesTs ks []) x.toList else namesTs ks []:=by rw [namesT]
theorem namesTs_cons (t : Tree) (ts : List Tree) (acc : Names) : namesTs (t :: ts) acc=namesTs ts ((namesT t).foldl addName acc):=by rw [namesTs]
theorem mem_addName {nm : Names} {s u : List UInt8} : u ∈ addName nm s ↔ u ∈ nm \/ u=s:=by
 unfold addName;split
 ·constructor
  ·exact .inl
  ·rintro (h | rfl) <;> assumption
 ·simp
theorem mem_foldl_addName : ∀ {l nm : Names} {u : List UInt8},u ∈ l.foldl addName nm ↔ u ∈ nm \/ u ∈ l
 | [],nm,u=>by simp
 | s :: l,nm,u=>by
  rw [List.foldl_cons,mem_foldl_addName,mem_addName]
  simp only [List.mem_cons]
  constructor
  ·rintro ((h | h) | h)
   ·exact .inl h
   ·exact .inr (.inl h)
   ·exact .inr (.inr h)
  ·rintro (h | h | h)
   ·exact .inl (.inl h)
   ·exact .inl (.inr h)
   ·exact .inr h
theorem addName_in {nm : Names} {s : List UInt8} (h : s ∈ nm) : addName nm s=nm:=by rw [addName,if_pos h]
theorem foldl_addName (a nm : Names) (s : List UInt8) : (addName a s).foldl addName nm=addName (a.foldl addName nm) s:=by
 by_cases h : s ∈ a
 ·rw [addName_in h,addName_in (mem_foldl_addName.2 (.inr h))]
 ·rw [addName,if_neg h,List.foldl_append];rfl
theorem foldl_foldl (l : Names) : ∀ (a nm : Names),(l.foldl addName a).foldl addName nm=l.foldl addName (a.foldl addName nm):=by
 induction l with
 | nil=>intro a nm;rfl
 | cons s l ih=>intro a nm;rw [List.foldl_cons,ih,foldl_addName];rfl
theorem namesTs_foldl : ∀ (ts : List Tree) (acc nm : Names),(namesTs ts acc).foldl addName nm=namesTs ts (acc.foldl addName nm)
 | [],acc,nm=>by rw [namesTs,namesTs]
 | t :: ts,acc,nm=>by rw [namesTs_cons,namesTs_foldl ts,foldl_foldl,namesTs_cons]
theorem toPN_names (t : Tree) : ∀ c,good t c=true -> ∀ nm,(toPN t nm).2=(namesT t).foldl addName nm:=by
 refine Tree.ind (P:=fun t=>∀ c,good t c=true -> ∀ nm,(toPN t nm).2=(namesT t).foldl addName nm) ?_ t
 clear t
 rintro ⟨k,x,ks⟩ ih c hg nm
 simp only [kids_mk] at ih
 have ihm : ∀ t ∈ ks,∀ c,good t c=true -> ∀ nm,(toPN t nm).2=(namesT t).foldl addName nm:=fun t ht=>by
  obtain ⟨j,hj,rfl⟩:=List.getElem_of_mem ht
  exact ih j hj
 have ihl : ∀ (l : List Tree),(∀ t ∈ l,t ∈ ks /\ ∃ c,good t c=true) -> ∀ nm,(toPNs l nm).2=namesTs l nm:=by
  intro l
  induction l with
  | nil=>intro _ nm;rw [toPNs,namesTs]
  | cons u l ihl =>
   intro h nm
   obtain ⟨hu,c,hc⟩:=h u (List.mem_cons_self ..)
   rw [toPNs_cons,namesTs_cons,<- ihm u hu c hc nm,<- ihl (fun t ht=>h t (List.mem_cons_of_mem _ ht))]
 rw [toPN_mk,namesT_mk]
 rcases kind_cases k with rfl | rfl | rfl | rfl | rfl | hk
 ·obtain ⟨hx,rfl⟩:=good_leaf_parts (.inl rfl) hg
  simp only [toList_mk]
  simp (decide:=true) only [↓reduceIte]
  rw [namesTs]
  rfl
 ·obtain ⟨hx,rfl⟩:=good_leaf_parts (.inr rfl) hg
  simp only [toList_mk]
  simp (decide:=true) only [↓reduceIte]
  rw [namesTs]
  rfl
 ·obtain ⟨-,rfl,-⟩:=good_string_parts hg
  simp only [toList_mk]
  simp (decide:=true) only [↓reduceIte]
  rw [namesTs]
  rfl
 ·obtain ⟨hx,rfl | ⟨a,b,rfl,ha,hb1,hb⟩⟩:=good_list_parts hg
  ·simp only [toList_mk]
   simp (decide:=true) only [↓reduceIte]
   rw [namesTs]
   rfl
  ·simp only [toList_mk]
   simp (decide:=true) only [↓reduceIte]
   rw [ihm b (by simp) _ hb,ihm a (by simp) _ ha,namesTs_foldl,namesTs_cons,namesTs_cons,namesTs]
   rfl
 ·obtain ⟨hx,rfl | ⟨a,rfl,hn,ha⟩⟩:=good_bind_parts hg
  ·simp only [toList_mk]
   simp (decide:=true) only [↓reduceIte]
   rw [namesTs,foldl_addName]
   rfl
  ·simp only [toList_mk]
   simp (decide:=true) only [↓reduceIte]
   rw [ihm a (by simp) _ ha,foldl_addName,namesTs_foldl,namesTs_cons,namesTs]
   rfl
 ·have hk' : (k.toList == [65,110,121])=false /\ (k.toList == [78,105,108])=false /\ (k.toList == [83,116,114,105,110,103])=false /\ (k.toList == [76,105,115,116])=false /\ (k.toList == [66,105,110,100,105,110,103])=false:=by
   rcases hk with rfl | rfl | hk
   ·simp only [toList_mk];decide
   ·simp only [toList_mk];decide
   ·exact ⟨hk.1,hk.2.1,hk.2.2.1,hk.2.2.2.1,hk.2.2.2.2.1⟩
  obtain ⟨h1,h2,h3,h4,h5⟩:=hk'
  obtain ⟨hks,hcap,hx⟩:=good_node hg h1 h2 h3 h4 h5
  have e:=ihl ks (fun t ht=>⟨ht,hks t ht⟩) nm
  rw [h1,h2,h3,h4,h5]
  simp only [Bool.false_eq_true,if_false]
  rw [namesTs_foldl]
  simp only [List.foldl_nil]
  split <;> exact e
theorem toPN_names_nil (t : Tree) {c : Int} (hg : good t c=true) : (toPN t []).2=namesT t:=by
 rw [toPN_names t c hg []]
 have key : ∀ (l acc : Names),l.Nodup -> (∀ s ∈ l,s ∉ acc) -> l.foldl addName acc=acc ++ l:=by
  intro l
  induction l with
  | nil=>intro acc _ _;simp
  | cons s l ih =>
   intro acc hn hd
   rw [List.foldl_cons,addName,if_neg (hd s (List.mem_cons_self ..)),ih]
   ·simp
   ·exact (List.nodup_cons.1 hn).2
   ·intro u hu hm
    rcases List.mem_append.1 hm with hm | hm
    ·exact hd u (List.mem_cons_of_mem _ hu) hm
    ·rw [List.mem_singleton.1 hm] at hu;exact (List.nodup_cons.1 hn).1 hu
 have add_nodup : ∀ (a : Names) s,a.Nodup -> (addName a s).Nodup:=by
  intro a s h
  unfold addName;split
  ·exact h
  ·rename_i hs
   rw [List.nodup_append]
   refine ⟨h,by simp,?_⟩
   intro u hu v hv e
   rw [List.mem_singleton.1 hv] at e
   exact hs (e ▸ hu)
 have fold_nodup : ∀ (l a : Names),a.Nodup -> (l.foldl addName a).Nodup:=by
  intro l
  induction l with
  | nil=>intro a h;exact h
  | cons s l ih=>intro a h;exact ih _ (add_nodup a s h)
 have all_nodup : ∀ (ts : List Tree) (acc : Names),acc.Nodup -> (namesTs ts acc).Nodup:=by
  intro ts
  induction ts with
  | nil=>intro acc h;rw [namesTs];exact h
  | cons t ts ih=>intro acc h;rw [namesTs_cons];exact ih _ (fold_nodup _ _ h)
 have hnd : (namesT t).Nodup:=by
  obtain ⟨k,x,ks⟩:=t
  rw [namesT_mk]
  split
  ·exact add_nodup _ _ (all_nodup _ _ List.nodup_nil)
  ·exact all_nodup _ _ List.nodup_nil
 rw [key _ _ hnd (by simp)]
 rfl
theorem namesT_len (t : Tree) : (namesT t).length <= count t:=by
 have fold_len : ∀ (l a : Names),(l.foldl addName a).length <= a.length + l.length:=by
  intro l
  induction l with
  | nil=>intro a;simp
  | cons s l ih=>intro a;rw [List.foldl_cons];have:=ih (addName a s);have:=addName_len a s;simp only [List.length_cons];omega
 refine Tree.rec (motive_1:=fun t=>(namesT t).length <= count t) (motive_2:=fun ts=>∀ acc,(namesTs ts acc).length <= acc.length + countAll ts) ?_ ?_ ?_ t
 ·intro k x ks ih
  have:=ih []
  rw [namesT_mk]
  simp only [count]
  split
  ·have:=addName_len (namesTs ks []) x.toList;simp at *;omega
  ·simp at *;omega
 ·intro acc;rw [namesTs];simp [countAll]
 ·intro t ts h1 h2 acc
  rw [namesTs_cons]
  have a1:=h2 ((namesT t).foldl addName acc)
  have a2:=fold_len (namesT t) acc
  simp only [countAll]
  omega
end Go.Proofs.YtigalkobmfbdaaaGreatDoor
namespace Go.Proofs.YtigalkobmfbdaaaGreatDoor
open Go.RowKit
def kindOK (v : List UInt8) : Bool:=!([66,105,110,100,105,110,103].isPrefixOf v)
def head2 : List Tok -> Bool
 | []=>false
 | y :: _=>y.1 == 2
def safe : List Tok -> Bool
 | []=>true
 | x :: l=>(if x.1 == 5 then kindOK x.2 && !(x.2 == [79,114] && head2 l) else true) && safe l
def term : List Tok -> Bool
 | []=>false
 | y :: l=>if y.1 == 11 || y.1 == 0 then l.isEmpty else term l
def bal : List Tok -> Int
 | []=>0
 | y :: l=>(if y.1 == 1 then 1 else if y.1 == 2 then -1 else 0) + bal l
def Pre (R R' : List Tok) : Prop:=(safe R=true -> safe R'=true) /\ (head2 R'=true -> head2 R=true)
theorem Pre.cons {R R' : List Tok} (h : Pre R R') (y : Tok) : Pre (y :: R) (y :: R'):=by
 refine ⟨fun hs=>?_,fun hs=>hs⟩
 simp only [safe,Bool.and_eq_true] at hs ⊢
 refine ⟨?_,h.1 hs.2⟩
 have hs1:=hs.1
 split
 ·rename_i h5
  rw [if_pos h5] at hs1
  simp only [Bool.and_eq_true,Bool.not_eq_true',Bool.and_eq_false_imp] at hs1 ⊢
  refine ⟨hs1.1,fun e=>?_⟩
  have:=hs1.2 e
  cases h2 : head2 R' with
  | false=>rfl
  | true=>rw [h.2 h2] at this;cases this
 ·rfl
def cb : List UInt8 -> Bool -> Int
 | [],_=>0
 | c :: cs,false=>(if c == 40 then 1 else if c == 41 then -1 else 0) + cb cs (c == 34)
 | c :: cs,true=>cb cs (!(c == 34))
def pb1 (c : UInt8) : Int:=if c == 40 then 1 else if c == 41 then -1 else 0
theorem cb_cons (c : UInt8) (cs : List UInt8) : cb (c :: cs) false=pb1 c + cb cs (c == 34):=by rw [cb];rfl
def WB (l : List UInt8) : Prop:=(∀ r,cb (l ++ r) false=cb r false) /\ ∀ n,0 <= cb (l.take n) false
theorem WB.nil : WB []:=⟨fun _=>rfl,fun n=>by simp [cb]⟩
theorem WB.app {a b : List UInt8} (ha : WB a) (hb : WB b) : WB (a ++ b):=by
 refine ⟨fun r=>by rw [List.append_assoc,ha.1,hb.1],fun n=>?_⟩
 rw [List.take_append]
 by_cases h : n <= a.length
 ·rw [show n - a.length=0 by omega,List.take_zero,List.append_nil];exact ha.2 n
 ·rw [List.take_of_length_le (by omega),ha.1];exact hb.2 _
def plainB (l : List UInt8) : Bool:=l.all fun c=>c != 40 && c != 41 && c != 34
theorem cb_plain : ∀ (l r : List UInt8),plainB l=true -> cb (l ++ r) false=cb r false
 | [],_,_=>rfl
 | c :: l,r,h=>by
  simp only [plainB,List.all_cons,Bool.and_eq_true,bne_iff_ne] at h
  obtain ⟨⟨⟨h1,h2⟩,h3⟩,h4⟩:=h
  have e : (c == 34)=false:=by simpa using h3
  rw [List.cons_append,cb_cons,e,cb_plain l r (by simpa [plainB] using h4)]
  unfold pb1
  simp [h1,h2]
theorem WB.plain {l : List UInt8} (h : plainB l=true) : WB l:=by
 refine ⟨fun r=>cb_plain l r h,fun n=>?_⟩
 have:=cb_plain (l.take n) [] (by
  unfold plainB at *
  rw [List.all_eq_true] at *
  exact fun c hc=>h c (List.mem_of_mem_take hc))
 rw [List.append_nil] at this
 rw [this];simp [cb]
theorem WB.gap (s : Int) : WB (gapOf s).toList:=by
 rcases gap_list s with h | h <;> rw [h] <;> exact WB.plain (by decide)
theorem WB.all (s : Int) : ∀ (l : List Tree),(∀ t ∈ l,WB (text s t).toList) -> WB (textAll s l).toList
 | [],_=>by rw [textAll,toList_mk];exact WB.nil
 | t :: l,h=>by
  rw [textAll,toList_app,toList_app]
  exact ((WB.gap s).app (h t (List.mem_cons_self ..))).app (WB.all s l fun u hu=>h u (List.mem_cons_of_mem _ hu))
abbrev tk (S : List Item) : List Tok:=S.map tokOf
def Fine (S : List Item) : Prop:=term (tk S)=true /\ safe (tk S)=true
theorem Fine.cons {S : List Item} (h : Fine S) : ∃ x S',S=x :: S' /\ ((x.typ ≠ 11 /\ x.typ ≠ 0 /\ Fine S') \/ ((x.typ=11 \/ x.typ=0) /\ S'=[])):=by
 obtain ⟨h1,h2⟩:=h
 cases S with
 | nil=>simp [term] at h1
 | cons x S' =>
  refine ⟨x,S',rfl,?_⟩
  simp only [tk,List.map_cons,term] at h1
  simp only [tk,List.map_cons,safe,Bool.and_eq_true] at h2
  have e : (tokOf x).1=x.typ:=rfl
  rw [e] at h1
  split at h1
  ·rename_i h
   right
   refine ⟨by simpa using h,by simpa using h1⟩
  ·rename_i h
   left
   simp only [Bool.or_eq_true,beq_iff_eq,not_or] at h
   exact ⟨h.1,h.2,h1,h2.2⟩
theorem Fine.next {x : Item} {S : List Item} (h : Fine (x :: S)) (h1 : x.typ ≠ 11) (h0 : x.typ ≠ 0) : Fine S:=by
 obtain ⟨y,S',e,h⟩:=h.cons
 obtain ⟨rfl,rfl⟩:=List.cons.inj e
 rcases h with ⟨-,-,h⟩ | ⟨h | h,-⟩
 ·exact h
 ·exact absurd h h1
 ·exact absurd h h0
def Tot {α : Type} (d : Int) (k : Nat) (S : List Item) (r : PRes α) : Prop:=r ≠ none /\ ∀ a S' nm',r=some (some (a,S',nm')) -> Fine S' /\ S'.length + k <= S.length /\ bal (tk S')=bal (tk S) + d
theorem Tot.err {α : Type} {d : Int} {k : Nat} {S : List Item} : Tot (α:=α) d k S (some none):=⟨by simp,fun _ _ _ e=>by cases e⟩
theorem Tot.ret {α : Type} {d : Int} {k : Nat} {S S1 : List Item} {nm : Names} {a : α} (h1 : Fine S1) (h2 : S1.length + k <= S.length) (h3 : bal (tk S1)=bal (tk S) + d) : Tot d k S (some (some (a,S1,nm))):=⟨by simp,fun _ _ _ e=>by cases e;exact ⟨h1,h2,h3⟩⟩
theorem Tot.andThen {α β : Type} {d1 d2 d : Int} {k1 k2 k : Nat} {S0 S : List Item} {r : PRes α} {g : α -> List Item -> Names -> PRes β} (h : Tot d1 k1 S r) (hl : S.length + k2 <= S0.length) (hd : bal (tk S)=bal (tk S0) + d2)
  (hg : ∀ a S' nm',r=some (some (a,S',nm')) -> Fine S' -> S'.length + (k1 + k2) <= S0.length -> bal (tk S')=bal (tk S0) + (d1 + d2) -> Tot d k S0 (g a S' nm')) : Tot d k S0 (r.andThen g):=by
 obtain ⟨h1,h2⟩:=h
 unfold PRes.andThen
 split
 ·exact absurd rfl h1
 ·exact Tot.err
 ·rename_i a S' nm' h1
  obtain ⟨f1,f2,f3⟩:=h2 _ _ _ rfl
  exact hg _ _ _ rfl f1 (by omega) (by omega)
theorem Tot.of {α : Type} {d1 d2 d : Int} {k1 k2 k : Nat} {S0 S : List Item} {r : PRes α} (h : Tot d1 k1 S r) (hl : S.length + k2 <= S0.length) (hd : bal (tk S)=bal (tk S0) + d2) (hk : k <= k1 + k2) (he : d=d1 + d2) : Tot d k S0 r:=by
 refine ⟨h.1,fun a S' nm' e=>?_⟩
 obtain ⟨f1,f2,f3⟩:=h.2 _ _ _ e
 exact ⟨f1,by omega,by omega⟩
end Go.Proofs.YtigalkobmfbdaaaGreatDoor
namespace Go.Proofs.YtigalkobmfbdaaaGreatDoor
open Go.RowKit
def parseM (al : Bool) (S : List Item) (f : Nat) : Option (Option (PN × Names)) :=
 match nodeM al f S [] with
 | none=>none
 | some none=>some none
 | some (some (n,S',nm))=>match S' with
  | []=>none
  | x :: _=>if x.typ == 11 then (if nm.length <= 64 then some (some (n,nm)) else some none) else some none
def Reads (al : Bool) (inp : ByteArray) (r : Option (PN × Names)) : Prop :=
 ∃ R f,f <= 100000 /\ lexM inp.toList .start=some R /\ ∀ S : List Item,S.map tokOf=R -> parseM al S f=some r
theorem LexOK.alone {s : Int} {t : Tree} (h : LexOK s t) : lexM (text s t).toList .start=some (toks s t ++ [(11,[])]):=by
 have:=h [] Stop.nil
 rw [List.append_nil] at this
 rw [this,lexM];rfl
theorem reads_node {s : Int} {al : Bool} {t : Tree} (h1 : LexOK s t) (h2 : NodeOK s al t) (hn : count t <= 1000) (hl : (toPN t []).2.length <= 64) : Reads al (text s t) (some ((toPN t []).1,(toPN t []).2)):=by
 refine ⟨_,10 * count t,by omega,h1.alone,fun S hS=>?_⟩
 obtain ⟨S',e1,e2⟩:=h2 [] (10 * count t) S _ (Nat.le_refl _) hS
 obtain ⟨x,S2,rfl,hx,-⟩:=items_head e1
 unfold parseM
 rw [e2]
 simp only
 rw [if_pos (by rw [hx];rfl),if_pos hl]
theorem reads_good {s : Int} (al : Bool) {t : Tree} {c : Int} (hg : good t c=true) (hk : nodeKind t=true) (hn : count t <= 60) : Reads al (text s t) (some ((toPN t []).1,namesT t)):=by
 have:=reads_node ((lex_text s t).1 c hg) (((read_text s al t).1 c hg).2.2 hk) (by omega) (by rw [toPN_names_nil t hg];have:=namesT_len t;omega)
 rwa [toPN_names_nil t hg] at this
end Go.Proofs.YtigalkobmfbdaaaGreatDoor
namespace Go.Proofs.YtigalkobmfbdaaaGreatDoor
open Go.RowKit
mutual
def plainN : PN -> Bool
 | .nul=>true
 | .any=>true
 | .nil=>true
 | .str _=>true
 | .tok _=>true
 | .struct nm ks=>!(nm.toList == [83,121,109,98,111,108]) && plainNs ks
 | .list h t=>plainN h && plainN t
 | .bind _ n _=>plainN n
 | .or ks=>!ks.isEmpty && plainNs ks
 | .and _=>false
 | .index _ _ _=>false
def plainNs : List PN -> Bool
 | []=>true
 | n :: ns=>plainN n && plainNs ns
end
theorem fields_plain : ∀ x ∈ fieldsT,(x.1.toList == [83,121,109,98,111,108])=false:=by decide +kernel
theorem toPN_plain (t : Tree) : ∀ c,good t c=true -> ∀ nm,plainN (toPN t nm).1=true:=by
 refine Tree.ind (P:=fun t=>∀ c,good t c=true -> ∀ nm,plainN (toPN t nm).1=true) ?_ t
 clear t
 rintro ⟨k,x,ks⟩ ih c hg nm
 simp only [kids_mk] at ih
 have ihm : ∀ t ∈ ks,∀ c,good t c=true -> ∀ nm,plainN (toPN t nm).1=true:=fun t ht=>by
  obtain ⟨j,hj,rfl⟩:=List.getElem_of_mem ht
  exact ih j hj
 have ihl : ∀ (l : List Tree),(∀ t ∈ l,t ∈ ks /\ ∃ c,good t c=true) -> ∀ nm,plainNs (toPNs l nm).1=true:=by
  intro l
  induction l with
  | nil=>intro _ nm;rw [toPNs,plainNs]
  | cons u l ihl =>
   intro h nm
   obtain ⟨hu,c,hc⟩:=h u (List.mem_cons_self ..)
   rw [toPNs_cons,plainNs,ihm u hu c hc nm,ihl (fun t ht=>h t (List.mem_cons_of_mem _ ht))]
   rfl
 rw [toPN_mk]
 rcases kind_cases k with rfl | rfl | rfl | rfl | rfl | hk
 ·simp only [toList_mk]
  simp (decide:=true) only [↓reduceIte]
  try rw [plainN]
 ·simp only [toList_mk]
  simp (decide:=true) only [↓reduceIte]
  try rw [plainN]
 ·simp only [toList_mk]
  simp (decide:=true) only [↓reduceIte]
  try rw [plainN]
 ·obtain ⟨hx,rfl | ⟨a,b,rfl,ha,hb1,hb⟩⟩:=good_list_parts hg
  ·simp only [toList_mk]
   simp (decide:=true) only [↓reduceIte]
   try simp [plainN]
  ·simp only [toList_mk]
   simp (decide:=true) only [↓reduceIte]
   rw [plainN,ihm a (by simp) _ ha,ihm b (by simp) _ hb]
   rfl
 ·obtain ⟨hx,rfl | ⟨a,rfl,hn,ha⟩⟩:=good_bind_parts hg
  ·simp only [toList_mk]
   simp (decide:=true) only [↓reduceIte]
   try simp [plainN]
  ·simp only [toList_mk]
   simp (decide:=true) only [↓reduceIte]
   rw [plainN,ihm a (by simp) _ ha]
 ·have hk' : (k.toList == [65,110,121])=false /\ (k.toList == [78,105,108])=false /\ (k.toList == [83,116,114,105,110,103])=false /\ (k.toList == [76,105,115,116])=false /\ (k.toList == [66,105,110,100,105,110,103])=false:=by
   rcases hk with rfl | rfl | hk
   ·simp only [toList_mk];decide
   ·simp only [toList_mk];decide
   ·exact ⟨hk.1,hk.2.1,hk.2.2.1,hk.2.2.2.1,hk.2.2.2.2.1⟩
  obtain ⟨h1,h2,h3,h4,h5⟩:=hk'
  obtain ⟨hks,hcap,hx⟩:=good_node hg h1 h2 h3 h4 h5
  have e:=ihl ks (fun t ht=>⟨ht,hks t ht⟩) nm
  rw [h1,h2,h3,h4,h5]
  simp only [Bool.false_eq_true,if_false]
  rcases good_node_kind hg h1 h2 h3 h4 h5 with ⟨rfl,hne⟩ | ⟨rfl,-⟩ | ⟨hn,-⟩
  ·simp only [toList_mk]
   simp (decide:=true) only [↓reduceIte]
   rw [plainN,e]
   cases ks with
   | nil=>exact absurd rfl hne
   | cons u l=>rw [toPNs_cons];rfl
  ·simp only [toList_mk]
   simp (decide:=true) only [↓reduceIte]
   rw [plainN,e]
   simp only [toList_mk]
   decide
  ·obtain ⟨y,hy,rfl⟩:=named_key hn
   rw [(named_facts y hy).2.2.2.1,if_neg (by decide),plainN,e,fields_plain y hy]
   rfl
mutual
def entryN : PN -> Names -> Option Names
 | .struct nm ks,acc=>if nm.toList == [78,111,116] then (match ks with
  | [a]=>entryN a acc
  | _=>none) else if named nm then some (addName acc nm.toList) else none
 | .or ks,acc=>entryNs ks acc
 | _,_=>none
def entryNs : List PN -> Names -> Option Names
 | [],acc=>some acc
 | n :: ns,acc=>match entryN n acc with
  | none=>none
  | some a=>entryNs ns a
end
theorem entryN_struct (nm : ByteArray) (ks : List PN) (acc : Names) : entryN (.struct nm ks) acc=if nm.toList == [78,111,116] then (match ks with
  | [a]=>entryN a acc
  | _=>none) else if named nm then some (addName acc nm.toList) else none:=by
 conv=>lhs;unfold entryN
theorem firstAll_mem {ks : List Tree} (h : ks.all first=true) : ∀ t ∈ ks,first t=true:=by rw [List.all_eq_true] at h;exact h
theorem first_entry (t : Tree) : ∀ c,good t c=true -> first t=true -> ∀ nm acc,∃ E,entryN (toPN t nm).1 acc=some E:=by
 refine Tree.ind (P:=fun t=>∀ c,good t c=true -> first t=true -> ∀ nm acc,∃ E,entryN (toPN t nm).1 acc=some E) ?_ t
 clear t
 rintro ⟨k,x,ks⟩ ih c hg hf nm acc
 simp only [kids_mk] at ih
 have ihm : ∀ t ∈ ks,∀ c,good t c=true -> first t=true -> ∀ nm acc,∃ E,entryN (toPN t nm).1 acc=some E:=fun t ht=>by
  obtain ⟨j,hj,rfl⟩:=List.getElem_of_mem ht
  exact ih j hj
 have ihl : ∀ (l : List Tree),(∀ t ∈ l,t ∈ ks /\ first t=true /\ ∃ c,good t c=true) -> ∀ nm acc,∃ E,entryNs (toPNs l nm).1 acc=some E:=by
  intro l
  induction l with
  | nil=>intro _ nm acc;rw [toPNs,entryNs];exact ⟨_,rfl⟩
  | cons u l ihl =>
   intro h nm acc
   obtain ⟨hu,h1,c,hc⟩:=h u (List.mem_cons_self ..)
   obtain ⟨E,hE⟩:=ihm u hu c hc h1 nm acc
   rw [toPNs_cons,entryNs,hE]
   exact ihl (fun t ht=>h t (List.mem_cons_of_mem _ ht)) _ _
 replace hf : (if k.toList == [79,114] then ks.all first else decide (0 < (fields k).length))=true:=by rw [first_eq] at hf;exact hf
 by_cases h6 : (k.toList == [79,114])=true
 ·rw [if_pos h6] at hf
  obtain rfl:=beq_lit h6
  have h1 : ((⟨#[79,114]⟩ : ByteArray).toList == [65,110,121])=false:=by simp only [toList_mk];decide
  have h2 : ((⟨#[79,114]⟩ : ByteArray).toList == [78,105,108])=false:=by simp only [toList_mk];decide
  have h3 : ((⟨#[79,114]⟩ : ByteArray).toList == [83,116,114,105,110,103])=false:=by simp only [toList_mk];decide
  have h4 : ((⟨#[79,114]⟩ : ByteArray).toList == [76,105,115,116])=false:=by simp only [toList_mk];decide
  have h5 : ((⟨#[79,114]⟩ : ByteArray).toList == [66,105,110,100,105,110,103])=false:=by simp only [toList_mk];decide
  obtain ⟨hks,-,-⟩:=good_node hg h1 h2 h3 h4 h5
  rw [toPN_mk,h1,h2,h3,h4,h5]
  simp only [Bool.false_eq_true,if_false]
  rw [if_pos (by simp only [toList_mk];decide),entryN]
  exact ihl ks (fun t ht=>⟨ht,firstAll_mem hf t ht,hks t ht⟩) nm acc
 ·rw [if_neg h6,decide_eq_true_eq] at hf
  obtain ⟨y,hy,rfl⟩:=fieldsT_key (k:=k) (by intro e;rw [e] at hf;simp at hf)
  obtain ⟨-,-,-,-,h1,h2,h3,h7,h4,h5⟩:=named_facts y hy
  rw [toPN_mk,h1,h2,h3,h4,h5]
  simp only [Bool.false_eq_true,if_false]
  rw [if_neg h6,entryN_struct,h7]
  rcases good_node_kind hg h1 h2 h3 h4 h5 with ⟨e,-⟩ | ⟨e,-⟩ | ⟨hn,-⟩
  ·rw [e,toList_mk] at h6;exact absurd (by decide) h6
  ·rw [e,toList_mk] at h7;exact absurd h7 (by decide)
  ·rw [hn];exact ⟨_,rfl⟩
end Go.Proofs.YtigalkobmfbdaaaGreatDoor
