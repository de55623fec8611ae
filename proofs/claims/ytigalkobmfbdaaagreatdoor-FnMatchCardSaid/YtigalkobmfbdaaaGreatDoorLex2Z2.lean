/- The lexer's states, and the lexer whole: what 'lex' gives. -/
import Derived.Test.YtigalkobmfbdaaaGreatDoorLexZ2
import Derived.Laws.Cover4
set_option linter.unusedVariables false
set_option linter.unusedSimpArgs false
set_option maxRecDepth 100000
set_option maxHeartbeats 1000000
namespace Go.Proofs.YtigalkobmfbdaaaGreatDoor
open Go.RowKit
abbrev Tok:=Int × List UInt8
inductive Mode where
 | start
 | str (acc : List UInt8)
 | typ (acc : List UInt8)
 | var (acc : List UInt8)
def punct (c : UInt8) : Option Int :=
 if c == 40 then some 1 else if c == 41 then some 2 else if c == 91 then some 3 else if c == 93 then some 4 else if c == 64 then some 7 else if c == 58 then some 8 else if c == 95 then some 9 else none
def startStep (c : UInt8) (k : Mode -> Option (List Tok)) : Option (List Tok) :=
 if isSpace c.toNat then k .start
 else match punct c with
 | some t=>(k .start).map ((t,[c]) :: ·)
 | none=>if c == 34 then k (.str []) else if isUp c.toNat then k (.typ [c]) else if isLow c.toNat then k (.var [c]) else none
def lexM : List UInt8 -> Mode -> Option (List Tok)
 | [],.start=>some [(11,[])]
 | [],.str _=>some [(0,[])]
 | [],.typ acc=>some [(5,acc),(11,[])]
 | [],.var acc=>some [(6,acc),(11,[])]
 | c :: cs,.start=>startStep c (fun m=>lexM cs m)
 | c :: cs,.str acc=>if c == 34 then (lexM cs .start).map ((10,acc) :: ·) else if c == 92 || decide (128 <= c.toNat) then none else lexM cs (.str (acc ++ [c]))
 | c :: cs,.typ acc=>if alnum c.toNat then lexM cs (.typ (acc ++ [c])) else (startStep c (fun m=>lexM cs m)).map ((5,acc) :: ·)
 | c :: cs,.var acc=>if alnum c.toNat then lexM cs (.var (acc ++ [c])) else (startStep c (fun m=>lexM cs m)).map ((6,acc) :: ·)
theorem lexM_word (ty : Int) (mk : List UInt8 -> Mode) (hn : ∀ acc,lexM [] (mk acc)=some [(ty,acc),(11,[])])
  (hc : ∀ c cs acc,lexM (c :: cs) (mk acc)=if alnum c.toNat then lexM cs (mk (acc ++ [c])) else (startStep c (fun m=>lexM cs m)).map ((ty,acc) :: ·)) :
  ∀ (cs acc : List UInt8) (R : List Tok),lexM cs (mk acc)=some R -> ∃ body rest R',cs=body ++ rest /\ (∀ c ∈ body,alnum c.toNat=true) /\ (∀ c l,rest=c :: l -> alnum c.toNat=false) /\ R=(ty,acc ++ body) :: R' /\ lexM rest .start=some R'
 | [],acc,R,h=>by
  rw [hn] at h;cases h
  exact ⟨[],[],_,rfl,by simp,by simp,by simp,rfl⟩
 | c :: cs,acc,R,h=>by
  rw [hc] at h
  cases ha : alnum c.toNat
  ·rw [ha] at h
   simp only [Bool.false_eq_true,if_false,Option.map_eq_some_iff] at h
   obtain ⟨R',h1,rfl⟩:=h
   refine ⟨[],c :: cs,R',rfl,by simp,?_,by simp,?_⟩
   ·intro c' l e;cases e;exact ha
   ·exact h1
  ·rw [ha,if_pos rfl] at h
   obtain ⟨body,rest,R',rfl,h1,h2,rfl,h3⟩:=lexM_word ty mk hn hc cs _ R h
   refine ⟨c :: body,rest,R',rfl,?_,h2,by simp,h3⟩
   intro d hd
   rcases List.mem_cons.1 hd with rfl | hd
   ·exact ha
   ·exact h1 d hd
theorem lexM_typ (cs acc : List UInt8) (R : List Tok) (h : lexM cs (.typ acc)=some R) : ∃ body rest R',cs=body ++ rest /\ (∀ c ∈ body,alnum c.toNat=true) /\ (∀ c l,rest=c :: l -> alnum c.toNat=false) /\ R=(5,acc ++ body) :: R' /\ lexM rest .start=some R':=lexM_word 5 .typ (fun _=>by rw [lexM]) (fun _ _ _=>by rw [lexM]) cs acc R h
theorem lexM_var (cs acc : List UInt8) (R : List Tok) (h : lexM cs (.var acc)=some R) : ∃ body rest R',cs=body ++ rest /\ (∀ c ∈ body,alnum c.toNat=true) /\ (∀ c l,rest=c :: l -> alnum c.toNat=false) /\ R=(6,acc ++ body) :: R' /\ lexM rest .start=some R':=lexM_word 6 .var (fun _=>by rw [lexM]) (fun _ _ _=>by rw [lexM]) cs acc R h
theorem lexM_str : ∀ (cs acc : List UInt8) (R : List Tok),lexM cs (.str acc)=some R -> ∃ body rest,cs=body ++ rest /\ (∀ c ∈ body,c ≠ 34 /\ c ≠ 92 /\ c.toNat < 128) /\ ((rest=[] /\ R=[(0,[])]) \/ ∃ rest' R',rest=34 :: rest' /\ R=(10,acc ++ body) :: R' /\ lexM rest' .start=some R')
 | [],acc,R,h=>by
  rw [lexM] at h;cases h
  exact ⟨[],[],rfl,by simp,.inl ⟨rfl,rfl⟩⟩
 | c :: cs,acc,R,h=>by
  rw [lexM] at h
  split at h
  ·rename_i hc
   simp only [Option.map_eq_some_iff] at h
   obtain ⟨R',h1,rfl⟩:=h
   obtain rfl:=eq_of_beq hc
   exact ⟨[],34 :: cs,rfl,by simp,.inr ⟨cs,R',rfl,by simp,h1⟩⟩
  ·rename_i hc
   split at h
   ·cases h
   ·rename_i hd
    obtain ⟨body,rest,rfl,h1,h2⟩:=lexM_str cs _ R h
    refine ⟨c :: body,rest,rfl,?_,?_⟩
    ·intro d hd'
     rcases List.mem_cons.1 hd' with rfl | hd'
     ·simp only [Bool.or_eq_true,beq_iff_eq,decide_eq_true_eq,not_or] at hc hd
      exact ⟨hc,hd.1,by omega⟩
     ·exact h1 d hd'
    ·simpa using h2
theorem start_ascii {c : UInt8} {k : Mode -> Option (List Tok)} {R : List Tok} (h : startStep c k=some R) : c.toNat < 128:=by
 unfold startStep at h
 split at h
 ·rename_i hs;simp [isSpace] at hs;omega
 ·split at h
  ·rename_i t ht
   unfold punct at ht
   repeat' split at ht
   all_goals first
    | (rename_i hc;obtain rfl:=eq_of_beq hc;decide)
    | (cases ht)
  ·split at h
   ·rename_i hc;obtain rfl:=eq_of_beq hc;decide
   ·split at h
    ·rename_i hu;simp [isUp] at hu;omega
    ·split at h
     ·rename_i hl;simp [isLow] at hl;omega
     ·cases h
abbrev fn (n : Nat) : Value:=.func (.func n) #[] #[]
def tokOf (i : Item) : Tok:=(i.typ,if i.typ=0 then [] else i.val.toList)
theorem start_end {w0 w : World} {inp : ByteArray} {ps wd : Nat} {its : List Item} (h : LexAt w0 w inp ps ps wd its) (hs : inp.size <= 100000) (hp : ps=inp.size) (hn : its.length <= 100000) :
  Calls Tryz.prog 137 #[.pointer (some ⟨w0.heap.size + 1,0,none⟩)] w fun e w'=>e=.returned .nilFunc /\ LexAt w0 w' inp ps ps 0 (its ++ [⟨11,inp.extract ps ps,ps⟩]):=by
 have H:=Lib.hid h
 clear h
 go_enter Tryz.func137,Tryz.ntmps137
 go_wp2_with fail
 refine (next_end H.out hs hp).mono ?_
 rintro e w1 ⟨rfl,h1,-⟩
 have H1:=Lib.hid h1
 clear h1
 go_wp2_with fail
 refine (emit_calls 11 H1.out hs (Nat.le_refl _) (Nat.le_of_eq hp) hn).mono ?_
 rintro e w2 ⟨rfl,h2⟩
 have H2:=Lib.hid h2
 clear h2
 go_wp2_with fail
 go_ret
 exact ⟨rfl,H2.out⟩
theorem start_space {w0 w : World} {inp : ByteArray} {ps wd : Nat} {its : List Item} (h : LexAt w0 w inp ps ps wd its) (hs : inp.size <= 100000) (hp : ps < inp.size) (hc : isSpace inp[ps].toNat=true) :
  Calls Tryz.prog 137 #[.pointer (some ⟨w0.heap.size + 1,0,none⟩)] w fun e w'=>e=.returned (fn 137) /\ LexAt w0 w' inp (ps + 1) (ps + 1) 1 its:=by
 have H:=Lib.hid h
 have HS:=Lib.hid hc
 have hlt : inp[ps].toNat < 128:=by simp [isSpace] at hc;omega
 have hne : (((inp[ps].toNat : Nat) : Int) == -1)=false:=beq_eq_false_iff_ne.2 (by omega)
 clear h hc
 go_enter Tryz.func137,Tryz.ntmps137
 go_wp2_with fail
 refine (next_more H.out hs hp hlt).mono ?_
 rintro e w1 ⟨rfl,h1,-⟩
 have H1:=Lib.hid h1
 clear h1
 go_wp2_with fail
 refine (isSpace_calls _ hlt _).mono ?_
 rintro e w2 ⟨rfl,rfl⟩
 rw [HS.out]
 go_wp2_with fail
 refine (ignore_calls H1.out).mono ?_
 rintro e w3 ⟨rfl,h3⟩
 have H3:=Lib.hid h3
 clear h3
 go_wp2_with fail
 go_ret
 exact ⟨rfl,H3.out⟩
theorem start_punct40 {w0 w : World} {inp : ByteArray} {ps wd : Nat} {its : List Item} (h : LexAt w0 w inp ps ps wd its) (hs : inp.size <= 100000) (hp : ps < inp.size) (hc : inp[ps].toNat=40) (hn : its.length <= 100000) :
  Calls Tryz.prog 137 #[.pointer (some ⟨w0.heap.size + 1,0,none⟩)] w fun e w'=>e=.returned (fn 137) /\ LexAt w0 w' inp (ps + 1) (ps + 1) 1 (its ++ [⟨1,inp.extract ps (ps + 1),ps⟩]):=by
 have H:=Lib.hid h
 have HC:=Lib.hid hc
 have hlt : inp[ps].toNat < 128:=by omega
 clear h hc
 go_enter Tryz.func137,Tryz.ntmps137
 go_wp2_with fail
 refine (next_more H.out hs hp hlt).mono ?_
 rw [HC.out]
 rintro e w1 ⟨rfl,h1,-⟩
 have H1:=Lib.hid h1
 clear h1
 go_wp2_with fail
 refine (isSpace_calls 40 (by omega) _).mono ?_
 rw [show isSpace ((40 : Nat) : Int)=false from rfl]
 rintro e w2 ⟨rfl,rfl⟩
 go_wp2_with fail
 refine (emit_calls 1 H1.out hs (by omega) (by omega) hn).mono ?_
 rintro e w3 ⟨rfl,h3⟩
 have H3:=Lib.hid h3
 clear h3
 go_wp2_with fail
 go_ret
 exact ⟨rfl,H3.out⟩
theorem start_punct41 {w0 w : World} {inp : ByteArray} {ps wd : Nat} {its : List Item} (h : LexAt w0 w inp ps ps wd its) (hs : inp.size <= 100000) (hp : ps < inp.size) (hc : inp[ps].toNat=41) (hn : its.length <= 100000) :
  Calls Tryz.prog 137 #[.pointer (some ⟨w0.heap.size + 1,0,none⟩)] w fun e w'=>e=.returned (fn 137) /\ LexAt w0 w' inp (ps + 1) (ps + 1) 1 (its ++ [⟨2,inp.extract ps (ps + 1),ps⟩]):=by
 have H:=Lib.hid h
 have HC:=Lib.hid hc
 have hlt : inp[ps].toNat < 128:=by omega
 clear h hc
 go_enter Tryz.func137,Tryz.ntmps137
 go_wp2_with fail
 refine (next_more H.out hs hp hlt).mono ?_
 rw [HC.out]
 rintro e w1 ⟨rfl,h1,-⟩
 have H1:=Lib.hid h1
 clear h1
 go_wp2_with fail
 refine (isSpace_calls 41 (by omega) _).mono ?_
 rw [show isSpace ((41 : Nat) : Int)=false from rfl]
 rintro e w2 ⟨rfl,rfl⟩
 go_wp2_with fail
 refine (emit_calls 2 H1.out hs (by omega) (by omega) hn).mono ?_
 rintro e w3 ⟨rfl,h3⟩
 have H3:=Lib.hid h3
 clear h3
 go_wp2_with fail
 go_ret
 exact ⟨rfl,H3.out⟩
theorem start_punct91 {w0 w : World} {inp : ByteArray} {ps wd : Nat} {its : List Item} (h : LexAt w0 w inp ps ps wd its) (hs : inp.size <= 100000) (hp : ps < inp.size) (hc : inp[ps].toNat=91) (hn : its.length <= 100000) :
  Calls Tryz.prog 137 #[.pointer (some ⟨w0.heap.size + 1,0,none⟩)] w fun e w'=>e=.returned (fn 137) /\ LexAt w0 w' inp (ps + 1) (ps + 1) 1 (its ++ [⟨3,inp.extract ps (ps + 1),ps⟩]):=by
 have H:=Lib.hid h
 have HC:=Lib.hid hc
 have hlt : inp[ps].toNat < 128:=by omega
 clear h hc
 go_enter Tryz.func137,Tryz.ntmps137
 go_wp2_with fail
 refine (next_more H.out hs hp hlt).mono ?_
 rw [HC.out]
 rintro e w1 ⟨rfl,h1,-⟩
 have H1:=Lib.hid h1
 clear h1
 go_wp2_with fail
 refine (isSpace_calls 91 (by omega) _).mono ?_
 rw [show isSpace ((91 : Nat) : Int)=false from rfl]
 rintro e w2 ⟨rfl,rfl⟩
 go_wp2_with fail
 refine (emit_calls 3 H1.out hs (by omega) (by omega) hn).mono ?_
 rintro e w3 ⟨rfl,h3⟩
 have H3:=Lib.hid h3
 clear h3
 go_wp2_with fail
 go_ret
 exact ⟨rfl,H3.out⟩
theorem start_punct93 {w0 w : World} {inp : ByteArray} {ps wd : Nat} {its : List Item} (h : LexAt w0 w inp ps ps wd its) (hs : inp.size <= 100000) (hp : ps < inp.size) (hc : inp[ps].toNat=93) (hn : its.length <= 100000) :
  Calls Tryz.prog 137 #[.pointer (some ⟨w0.heap.size + 1,0,none⟩)] w fun e w'=>e=.returned (fn 137) /\ LexAt w0 w' inp (ps + 1) (ps + 1) 1 (its ++ [⟨4,inp.extract ps (ps + 1),ps⟩]):=by
 have H:=Lib.hid h
 have HC:=Lib.hid hc
 have hlt : inp[ps].toNat < 128:=by omega
 clear h hc
 go_enter Tryz.func137,Tryz.ntmps137
 go_wp2_with fail
 refine (next_more H.out hs hp hlt).mono ?_
 rw [HC.out]
 rintro e w1 ⟨rfl,h1,-⟩
 have H1:=Lib.hid h1
 clear h1
 go_wp2_with fail
 refine (isSpace_calls 93 (by omega) _).mono ?_
 rw [show isSpace ((93 : Nat) : Int)=false from rfl]
 rintro e w2 ⟨rfl,rfl⟩
 go_wp2_with fail
 refine (emit_calls 4 H1.out hs (by omega) (by omega) hn).mono ?_
 rintro e w3 ⟨rfl,h3⟩
 have H3:=Lib.hid h3
 clear h3
 go_wp2_with fail
 go_ret
 exact ⟨rfl,H3.out⟩
theorem start_punct64 {w0 w : World} {inp : ByteArray} {ps wd : Nat} {its : List Item} (h : LexAt w0 w inp ps ps wd its) (hs : inp.size <= 100000) (hp : ps < inp.size) (hc : inp[ps].toNat=64) (hn : its.length <= 100000) :
  Calls Tryz.prog 137 #[.pointer (some ⟨w0.heap.size + 1,0,none⟩)] w fun e w'=>e=.returned (fn 137) /\ LexAt w0 w' inp (ps + 1) (ps + 1) 1 (its ++ [⟨7,inp.extract ps (ps + 1),ps⟩]):=by
 have H:=Lib.hid h
 have HC:=Lib.hid hc
 have hlt : inp[ps].toNat < 128:=by omega
 clear h hc
 go_enter Tryz.func137,Tryz.ntmps137
 go_wp2_with fail
 refine (next_more H.out hs hp hlt).mono ?_
 rw [HC.out]
 rintro e w1 ⟨rfl,h1,-⟩
 have H1:=Lib.hid h1
 clear h1
 go_wp2_with fail
 refine (isSpace_calls 64 (by omega) _).mono ?_
 rw [show isSpace ((64 : Nat) : Int)=false from rfl]
 rintro e w2 ⟨rfl,rfl⟩
 go_wp2_with fail
 refine (emit_calls 7 H1.out hs (by omega) (by omega) hn).mono ?_
 rintro e w3 ⟨rfl,h3⟩
 have H3:=Lib.hid h3
 clear h3
 go_wp2_with fail
 go_ret
 exact ⟨rfl,H3.out⟩
theorem start_punct58 {w0 w : World} {inp : ByteArray} {ps wd : Nat} {its : List Item} (h : LexAt w0 w inp ps ps wd its) (hs : inp.size <= 100000) (hp : ps < inp.size) (hc : inp[ps].toNat=58) (hn : its.length <= 100000) :
  Calls Tryz.prog 137 #[.pointer (some ⟨w0.heap.size + 1,0,none⟩)] w fun e w'=>e=.returned (fn 137) /\ LexAt w0 w' inp (ps + 1) (ps + 1) 1 (its ++ [⟨8,inp.extract ps (ps + 1),ps⟩]):=by
 have H:=Lib.hid h
 have HC:=Lib.hid hc
 have hlt : inp[ps].toNat < 128:=by omega
 clear h hc
 go_enter Tryz.func137,Tryz.ntmps137
 go_wp2_with fail
 refine (next_more H.out hs hp hlt).mono ?_
 rw [HC.out]
 rintro e w1 ⟨rfl,h1,-⟩
 have H1:=Lib.hid h1
 clear h1
 go_wp2_with fail
 refine (isSpace_calls 58 (by omega) _).mono ?_
 rw [show isSpace ((58 : Nat) : Int)=false from rfl]
 rintro e w2 ⟨rfl,rfl⟩
 go_wp2_with fail
 refine (emit_calls 8 H1.out hs (by omega) (by omega) hn).mono ?_
 rintro e w3 ⟨rfl,h3⟩
 have H3:=Lib.hid h3
 clear h3
 go_wp2_with fail
 go_ret
 exact ⟨rfl,H3.out⟩
theorem start_punct95 {w0 w : World} {inp : ByteArray} {ps wd : Nat} {its : List Item} (h : LexAt w0 w inp ps ps wd its) (hs : inp.size <= 100000) (hp : ps < inp.size) (hc : inp[ps].toNat=95) (hn : its.length <= 100000) :
  Calls Tryz.prog 137 #[.pointer (some ⟨w0.heap.size + 1,0,none⟩)] w fun e w'=>e=.returned (fn 137) /\ LexAt w0 w' inp (ps + 1) (ps + 1) 1 (its ++ [⟨9,inp.extract ps (ps + 1),ps⟩]):=by
 have H:=Lib.hid h
 have HC:=Lib.hid hc
 have hlt : inp[ps].toNat < 128:=by omega
 clear h hc
 go_enter Tryz.func137,Tryz.ntmps137
 go_wp2_with fail
 refine (next_more H.out hs hp hlt).mono ?_
 rw [HC.out]
 rintro e w1 ⟨rfl,h1,-⟩
 have H1:=Lib.hid h1
 clear h1
 go_wp2_with fail
 refine (isSpace_calls 95 (by omega) _).mono ?_
 rw [show isSpace ((95 : Nat) : Int)=false from rfl]
 rintro e w2 ⟨rfl,rfl⟩
 go_wp2_with fail
 refine (emit_calls 9 H1.out hs (by omega) (by omega) hn).mono ?_
 rintro e w3 ⟨rfl,h3⟩
 have H3:=Lib.hid h3
 clear h3
 go_wp2_with fail
 go_ret
 exact ⟨rfl,H3.out⟩
theorem start_quote {w0 w : World} {inp : ByteArray} {ps wd : Nat} {its : List Item} (h : LexAt w0 w inp ps ps wd its) (hs : inp.size <= 100000) (hp : ps < inp.size) (hc : inp[ps].toNat=34) :
  Calls Tryz.prog 137 #[.pointer (some ⟨w0.heap.size + 1,0,none⟩)] w fun e w'=>e=.returned (fn 156) /\ LexAt w0 w' inp ps ps 1 its:=by
 have H:=Lib.hid h
 have HC:=Lib.hid hc
 have hlt : inp[ps].toNat < 128:=by omega
 clear h hc
 go_enter Tryz.func137,Tryz.ntmps137
 go_wp2_with fail
 refine (next_more H.out hs hp hlt).mono ?_
 rw [HC.out]
 rintro e w1 ⟨rfl,h1,-⟩
 have H1:=Lib.hid h1
 clear h1
 go_wp2_with fail
 refine (isSpace_calls 34 (by omega) _).mono ?_
 rw [show isSpace ((34 : Nat) : Int)=false from rfl]
 rintro e w2 ⟨rfl,rfl⟩
 go_wp2_with fail
 refine (backup_calls H1.out (by omega) (by omega)).mono ?_
 rintro e w3 ⟨rfl,h3⟩
 have H3:=Lib.hid h3
 clear h3
 go_wp2_with fail
 go_ret
 exact ⟨rfl,H3.out⟩
theorem start_up {w0 w : World} {inp : ByteArray} {ps wd : Nat} {its : List Item} (h : LexAt w0 w inp ps ps wd its) (hs : inp.size <= 100000) (hp : ps < inp.size) (hc : isUp inp[ps].toNat=true) (hT : TabAt w0) :
  Calls Tryz.prog 137 #[.pointer (some ⟨w0.heap.size + 1,0,none⟩)] w fun e w'=>e=.returned (fn 158) /\ LexAt w0 w' inp ps ps 1 its:=by
 have H:=Lib.hid h
 have HC:=Lib.hid hc
 simp [isUp] at hc
 have hlt : inp[ps].toNat < 128:=by omega
 have HSp:=Lib.hid (show isSpace inp[ps].toNat=false by simp [isSpace];omega)
 have nn : (((inp[ps].toNat : Nat) : Int) == -1)=false:=beq_eq_false_iff_ne.2 (by omega)
 have n40 : (((inp[ps].toNat : Nat) : Int) == 40)=false:=beq_eq_false_iff_ne.2 (by omega)
 have n41 : (((inp[ps].toNat : Nat) : Int) == 41)=false:=beq_eq_false_iff_ne.2 (by omega)
 have n91 : (((inp[ps].toNat : Nat) : Int) == 91)=false:=beq_eq_false_iff_ne.2 (by omega)
 have n93 : (((inp[ps].toNat : Nat) : Int) == 93)=false:=beq_eq_false_iff_ne.2 (by omega)
 have n64 : (((inp[ps].toNat : Nat) : Int) == 64)=false:=beq_eq_false_iff_ne.2 (by omega)
 have n58 : (((inp[ps].toNat : Nat) : Int) == 58)=false:=beq_eq_false_iff_ne.2 (by omega)
 have n95 : (((inp[ps].toNat : Nat) : Int) == 95)=false:=beq_eq_false_iff_ne.2 (by omega)
 have n34 : (((inp[ps].toNat : Nat) : Int) == 34)=false:=beq_eq_false_iff_ne.2 (by omega)
 clear h hc
 go_enter Tryz.func137,Tryz.ntmps137
 go_wp2_with fail
 refine (next_more H.out hs hp hlt).mono ?_
 rintro e w1 ⟨rfl,h1,-⟩
 have H1:=Lib.hid h1
 clear h1
 go_wp2_with fail
 refine (isSpace_calls _ hlt _).mono ?_
 rw [HSp.out]
 rintro e w2 ⟨rfl,rfl⟩
 go_wp2_with fail
 refine (isUpper_calls _ hlt _ (hT.mono H1.out.1)).mono ?_
 rw [HC.out]
 rintro e w2 ⟨rfl,rfl⟩
 go_wp2_with fail
 refine (backup_calls H1.out (by omega) (by omega)).mono ?_
 rintro e w3 ⟨rfl,h3⟩
 have H3:=Lib.hid h3
 clear h3
 go_wp2_with fail
 go_ret
 exact ⟨rfl,H3.out⟩
theorem start_low {w0 w : World} {inp : ByteArray} {ps wd : Nat} {its : List Item} (h : LexAt w0 w inp ps ps wd its) (hs : inp.size <= 100000) (hp : ps < inp.size) (hc : isLow inp[ps].toNat=true) (hT : TabAt w0) :
  Calls Tryz.prog 137 #[.pointer (some ⟨w0.heap.size + 1,0,none⟩)] w fun e w'=>e=.returned (fn 160) /\ LexAt w0 w' inp ps ps 1 its:=by
 have H:=Lib.hid h
 have HC:=Lib.hid hc
 simp [isLow] at hc
 have hlt : inp[ps].toNat < 128:=by omega
 have HSp:=Lib.hid (show isSpace inp[ps].toNat=false by simp [isSpace];omega)
 have HU:=Lib.hid (show isUp inp[ps].toNat=false by simp [isUp];omega)
 have nn : (((inp[ps].toNat : Nat) : Int) == -1)=false:=beq_eq_false_iff_ne.2 (by omega)
 have n40 : (((inp[ps].toNat : Nat) : Int) == 40)=false:=beq_eq_false_iff_ne.2 (by omega)
 have n41 : (((inp[ps].toNat : Nat) : Int) == 41)=false:=beq_eq_false_iff_ne.2 (by omega)
 have n91 : (((inp[ps].toNat : Nat) : Int) == 91)=false:=beq_eq_false_iff_ne.2 (by omega)
 have n93 : (((inp[ps].toNat : Nat) : Int) == 93)=false:=beq_eq_false_iff_ne.2 (by omega)
 have n64 : (((inp[ps].toNat : Nat) : Int) == 64)=false:=beq_eq_false_iff_ne.2 (by omega)
 have n58 : (((inp[ps].toNat : Nat) : Int) == 58)=false:=beq_eq_false_iff_ne.2 (by omega)
 have n95 : (((inp[ps].toNat : Nat) : Int) == 95)=false:=beq_eq_false_iff_ne.2 (by omega)
 have n34 : (((inp[ps].toNat : Nat) : Int) == 34)=false:=beq_eq_false_iff_ne.2 (by omega)
 clear h hc
 go_enter Tryz.func137,Tryz.ntmps137
 go_wp2_with fail
 refine (next_more H.out hs hp hlt).mono ?_
 rintro e w1 ⟨rfl,h1,-⟩
 have H1:=Lib.hid h1
 clear h1
 go_wp2_with fail
 refine (isSpace_calls _ hlt _).mono ?_
 rw [HSp.out]
 rintro e w2 ⟨rfl,rfl⟩
 go_wp2_with fail
 refine (isUpper_calls _ hlt _ (hT.mono H1.out.1)).mono ?_
 rw [HU.out]
 rintro e w2 ⟨rfl,rfl⟩
 go_wp2_with fail
 refine (isLower_calls _ hlt _ (hT.mono H1.out.1)).mono ?_
 rw [HC.out]
 rintro e w2 ⟨rfl,rfl⟩
 go_wp2_with fail
 refine (backup_calls H1.out (by omega) (by omega)).mono ?_
 rintro e w3 ⟨rfl,h3⟩
 have H3:=Lib.hid h3
 clear h3
 go_wp2_with fail
 go_ret
 exact ⟨rfl,H3.out⟩
theorem lexType_calls {w0 w : World} {inp : ByteArray} {ps wd : Nat} {its : List Item} (h : LexAt w0 w inp ps ps wd its) (hs : inp.size <= 100000) (hn : its.length <= 100000) (e : Nat) (h1 : ps < e) (h2 : e <= inp.size)
  (hc0 : inp[ps].toNat < 128) (hb : ∀ (j : Nat) (hj : j < inp.size),ps < j -> j < e -> alnum inp[j].toNat=true) (he : ∀ hj : e < inp.size,inp[e].toNat < 128 /\ alnum inp[e].toNat=false) :
  Calls Tryz.prog 158 #[.pointer (some ⟨w0.heap.size + 1,0,none⟩)] w fun r w'=>r=.returned (fn 137) /\ ∃ wd',LexAt w0 w' inp e e wd' (its ++ [⟨5,inp.extract ps e,ps⟩]):=by
 have H:=Lib.hid h
 have HB:=Lib.hid hb
 have HE:=Lib.hid he
 clear h hb he
 go_enter Tryz.func158,Tryz.ntmps158
 go_wp2_with fail
 refine (next_more H.out hs (by omega) hc0).mono ?_
 rintro r w1 ⟨rfl,g1,-⟩
 have G1:=Lib.hid g1
 clear g1
 go_wp2_with fail
 go_loopg [5] (e - ps) (fun k v w'=>∃ (j wd' : Nat),k + j=e + 1 /\ ps < j /\ j <= e /\ LexAt w0 w' inp ps j wd' its)
 case atStart=>exact ⟨ps + 1,1,by omega,by omega,by omega,G1.out⟩
 case round =>
  obtain ⟨j,wd',hk,hj1,hj2,hL⟩:=hrel
  have HL:=Lib.hid hL
  clear hL
  by_cases hje : j < e
  ·have hjs : j < inp.size:=by omega
   have ha:=HB.out j hjs hj1 hje
   have hlt : inp[j].toNat < 128:=by simp [alnum] at ha;omega
   have HA:=Lib.hid ha
   clear ha
   go_wp2_with fail
   refine (next_more HL.out hs hjs hlt).mono ?_
   rintro r w2 ⟨rfl,g2,-⟩
   have G2:=Lib.hid g2
   clear g2
   go_wp2_with fail
   refine (alnum_calls _ _).mono ?_
   rw [HA.out]
   rintro r w3 ⟨rfl,rfl⟩
   go_wp2_with fail
   go_roundg (gk - 1)
   case measure=>omega
   case rel=>exact ⟨j + 1,1,by omega,by omega,by omega,G2.out⟩
  ·obtain rfl : j=e:=by omega
   by_cases hjs : j < inp.size
   ·obtain ⟨hlt,ha⟩:=HE.out hjs
    have HA:=Lib.hid ha
    clear ha
    go_wp2_with fail
    refine (next_more HL.out hs hjs hlt).mono ?_
    rintro r w2 ⟨rfl,g2,-⟩
    have G2:=Lib.hid g2
    clear g2
    go_wp2_with fail
    refine (alnum_calls _ _).mono ?_
    rw [HA.out]
    rintro r w3 ⟨rfl,rfl⟩
    go_wp2_with fail
    refine (backup_calls G2.out (by omega) (by omega)).mono ?_
    rintro r w4 ⟨rfl,g4⟩
    rw [Nat.add_sub_cancel] at g4
    have G4:=Lib.hid g4
    clear g4
    go_wp2_with fail
    refine (emit_calls 5 G4.out hs (by omega) (by omega) hn).mono ?_
    rintro r w5 ⟨rfl,g5⟩
    have G5:=Lib.hid g5
    clear g5
    go_wp2_with fail
    go_ret
    exact ⟨rfl,_,G5.out⟩
   ·go_wp2_with fail
    refine (next_end HL.out hs (by omega)).mono ?_
    rintro r w2 ⟨rfl,g2,-⟩
    have G2:=Lib.hid g2
    clear g2
    go_wp2_with fail
    refine (alnum_calls _ _).mono ?_
    rw [show alnum (-1)=false from rfl]
    rintro r w3 ⟨rfl,rfl⟩
    go_wp2_with fail
    refine (backup_calls G2.out (by omega) (by omega)).mono ?_
    rintro r w4 ⟨rfl,g4⟩
    rw [Nat.sub_zero] at g4
    have G4:=Lib.hid g4
    clear g4
    go_wp2_with fail
    refine (emit_calls 5 G4.out hs (by omega) (by omega) hn).mono ?_
    rintro r w5 ⟨rfl,g5⟩
    have G5:=Lib.hid g5
    clear g5
    go_wp2_with fail
    go_ret
    exact ⟨rfl,_,G5.out⟩
theorem lexVariable_calls {w0 w : World} {inp : ByteArray} {ps wd : Nat} {its : List Item} (h : LexAt w0 w inp ps ps wd its) (hs : inp.size <= 100000) (hn : its.length <= 100000) (e : Nat) (h1 : ps < e) (h2 : e <= inp.size)
  (hc0 : inp[ps].toNat < 128) (hb : ∀ (j : Nat) (hj : j < inp.size),ps < j -> j < e -> alnum inp[j].toNat=true) (he : ∀ hj : e < inp.size,inp[e].toNat < 128 /\ alnum inp[e].toNat=false) :
  Calls Tryz.prog 160 #[.pointer (some ⟨w0.heap.size + 1,0,none⟩)] w fun r w'=>r=.returned (fn 137) /\ ∃ wd',LexAt w0 w' inp e e wd' (its ++ [⟨6,inp.extract ps e,ps⟩]):=by
 have H:=Lib.hid h
 have HB:=Lib.hid hb
 have HE:=Lib.hid he
 clear h hb he
 go_enter Tryz.func160,Tryz.ntmps160
 go_wp2_with fail
 refine (next_more H.out hs (by omega) hc0).mono ?_
 rintro r w1 ⟨rfl,g1,-⟩
 have G1:=Lib.hid g1
 clear g1
 go_wp2_with fail
 go_loopg [5] (e - ps) (fun k v w'=>∃ (j wd' : Nat),k + j=e + 1 /\ ps < j /\ j <= e /\ LexAt w0 w' inp ps j wd' its)
 case atStart=>exact ⟨ps + 1,1,by omega,by omega,by omega,G1.out⟩
 case round =>
  obtain ⟨j,wd',hk,hj1,hj2,hL⟩:=hrel
  have HL:=Lib.hid hL
  clear hL
  by_cases hje : j < e
  ·have hjs : j < inp.size:=by omega
   have ha:=HB.out j hjs hj1 hje
   have hlt : inp[j].toNat < 128:=by simp [alnum] at ha;omega
   have HA:=Lib.hid ha
   clear ha
   go_wp2_with fail
   refine (next_more HL.out hs hjs hlt).mono ?_
   rintro r w2 ⟨rfl,g2,-⟩
   have G2:=Lib.hid g2
   clear g2
   go_wp2_with fail
   refine (alnum_calls _ _).mono ?_
   rw [HA.out]
   rintro r w3 ⟨rfl,rfl⟩
   go_wp2_with fail
   go_roundg (gk - 1)
   case measure=>omega
   case rel=>exact ⟨j + 1,1,by omega,by omega,by omega,G2.out⟩
  ·obtain rfl : j=e:=by omega
   by_cases hjs : j < inp.size
   ·obtain ⟨hlt,ha⟩:=HE.out hjs
    have HA:=Lib.hid ha
    clear ha
    go_wp2_with fail
    refine (next_more HL.out hs hjs hlt).mono ?_
    rintro r w2 ⟨rfl,g2,-⟩
    have G2:=Lib.hid g2
    clear g2
    go_wp2_with fail
    refine (alnum_calls _ _).mono ?_
    rw [HA.out]
    rintro r w3 ⟨rfl,rfl⟩
    go_wp2_with fail
    refine (backup_calls G2.out (by omega) (by omega)).mono ?_
    rintro r w4 ⟨rfl,g4⟩
    rw [Nat.add_sub_cancel] at g4
    have G4:=Lib.hid g4
    clear g4
    go_wp2_with fail
    refine (emit_calls 6 G4.out hs (by omega) (by omega) hn).mono ?_
    rintro r w5 ⟨rfl,g5⟩
    have G5:=Lib.hid g5
    clear g5
    go_wp2_with fail
    go_ret
    exact ⟨rfl,_,G5.out⟩
   ·go_wp2_with fail
    refine (next_end HL.out hs (by omega)).mono ?_
    rintro r w2 ⟨rfl,g2,-⟩
    have G2:=Lib.hid g2
    clear g2
    go_wp2_with fail
    refine (alnum_calls _ _).mono ?_
    rw [show alnum (-1)=false from rfl]
    rintro r w3 ⟨rfl,rfl⟩
    go_wp2_with fail
    refine (backup_calls G2.out (by omega) (by omega)).mono ?_
    rintro r w4 ⟨rfl,g4⟩
    rw [Nat.sub_zero] at g4
    have G4:=Lib.hid g4
    clear g4
    go_wp2_with fail
    refine (emit_calls 6 G4.out hs (by omega) (by omega) hn).mono ?_
    rintro r w5 ⟨rfl,g5⟩
    have G5:=Lib.hid g5
    clear g5
    go_wp2_with fail
    go_ret
    exact ⟨rfl,_,G5.out⟩
theorem ExtM.grown {M : Nat -> Prop} {a b c : World} (h : ExtM M a b) {row : Option Nat} (hg : b.grownBy c row) (hr : ∀ k,row=some k -> a.heap.size <= k) : ExtM M a c :=
 ⟨hg.os.trans h.os,hg.tape.trans h.tape,hg.output.trans h.output,Nat.le_trans h.size hg.size,fun k hk hM=>(hg.block k (Nat.lt_of_lt_of_le hk h.size) (fun e=>by have:=hr k e.symm;omega)).trans (h.block k hk hM)⟩
theorem ownsRow_extM {M : Nat -> Prop} {w w' : World} {base : Nat} {e : TypeId} {size : Nat} {v : Value} {n : Nat} {xs : List Value} (h : w.ownsRow base e size v n xs) (hE : ExtM M w w') (hM : ∀ k,base <= k -> ¬ M k) : w'.ownsRow base e size v n xs:=by
 obtain ⟨h1,h2⟩:=h
 refine ⟨h1,?_⟩
 rcases h2 with h2 | ⟨g,cap,cur,rfl,hb,hg,r⟩
 ·exact .inl h2
 ·exact .inr ⟨g,cap,cur,rfl,hb,(hE.block g (Array.getElem?_eq_some_iff.1 hg).1 (hM g hb)).trans hg,r⟩
theorem LexAt.extM {w0 W w : World} {inp : ByteArray} {st ps wd st' ps' wd' : Nat} {its : List Item} (h : LexAt w0 W inp st ps wd its) (hE : ExtM (·=w0.heap.size + 1) W w)
  (hB : Blk w (w0.heap.size + 1) #[.string inp,.int .i64 st',.int .i64 ps',.int .i64 wd',.func (.func 108) #[] #[.pointer (some ⟨w0.heap.size,0,none⟩)]] 179) : LexAt w0 w inp st' ps' wd' its:=by
 obtain ⟨h1,h2,v,h3,h4⟩:=h
 exact ⟨hE.toExt h1 (fun i hi e=>by omega),hB,v,h3.extM hE (by omega),ownsRow_extM h4 hE (fun k hk e=>by omega)⟩
theorem underlying227 : Tryz.prog.underlying 227=some (.slice 21):=by kernel_rfl
theorem underlying21 : Tryz.prog.underlying 21=some (.int .i32):=by kernel_rfl
theorem underlying9 : Tryz.prog.underlying 9=some .string:=by kernel_rfl
theorem info21 : (Tryz.prog.info? 21).map (fun i=>(i.zero,i.size,i.bytes))=some (some (.int .i32 0),1,4):=by kernel_rfl
theorem encode_ascii : ∀ n : Nat,n < 128 -> Utf8.encode n=⟨#[n.toUInt8]⟩:=by decide +kernel
theorem runesBytes_ascii (bs : List UInt8) (h : ∀ c ∈ bs,c.toNat < 128) : runesBytes (bs.map (fun c=>(c.toNat : Int)))=⟨bs.toArray⟩:=by
 have : ∀ (bs : List UInt8) (r : ByteArray),(∀ c ∈ bs,c.toNat < 128) -> (bs.map (fun c=>(c.toNat : Int))).foldl (fun r n=>r ++ Utf8.encode n) r=r ++ ⟨bs.toArray⟩:=by
  intro bs
  induction bs with
  | nil=>intro r _;exact ByteArray.append_empty.symm
  | cons c bs ih =>
   intro r hb
   rw [List.map_cons,List.foldl_cons,ih _ (fun d hd=>hb d (List.mem_cons_of_mem _ hd)),encode_ascii _ (hb c (List.mem_cons_self ..)),ByteArray.append_assoc,ByteArray.mk_append_mk [c.toNat.toUInt8] bs]
   simp
 unfold runesBytes
 rw [this bs _ h]
 exact ByteArray.empty_append
theorem convert_runes {w : World} {base : Nat} {a : Option Addr} {c : Nat} {bs : List UInt8} (h : w.ownsRow base 21 1 (.slice a bs.length c) bs.length (bs.map (fun c=>.int .i32 c.toNat))) (hb : ∀ c ∈ bs,c.toNat < 128) :
  (convert 227 9 (.slice a bs.length c)).run Tryz.prog w=.ok (.string ⟨bs.toArray⟩) w:=by
 rcases h.2 with ⟨he,hn⟩ | ⟨g,cap,cur,he,hbb,hg,hnc,-⟩
 ·obtain rfl:=List.eq_nil_of_length_eq_zero hn
  simp at he
  obtain ⟨rfl,rfl⟩:=he
  exact run_convert_runes_nil w 227 9 21 0 0 underlying227 underlying21 underlying9
 ·simp at he
  obtain ⟨rfl,rfl⟩:=he
  have:=run_convert_runes (P:=Tryz.prog) w 227 9 21 ⟨g,0,none⟩ bs.length c (bs.map (fun c=>(c.toNat : Int))) (by simp) underlying227 underlying21 underlying9 (fun j hj=>by
   have hj' : j < bs.length:=by simpa using hj
   have:=h.cells (g:=g) rfl j (.int .i32 (bs[j].toNat)) (by simp [hj'])
   rw [this]
   simp [List.getD,hj'])
  rw [this,List.take_of_length_le (by simp),runesBytes_ascii bs hb]
def seg (inp : ByteArray) (a b : Nat) : List UInt8:=(inp.toList.drop a).take (b - a)
theorem seg_len (inp : ByteArray) (a b : Nat) (h1 : a <= b) (h2 : b <= inp.size) : (seg inp a b).length=b - a:=by
 have:=size_toList inp
 simp [seg];omega
theorem seg_succ (inp : ByteArray) (a b : Nat) (h1 : a <= b) (h2 : b < inp.size) : seg inp a (b + 1)=seg inp a b ++ [inp[b]]:=by
 have hs:=size_toList inp
 unfold seg
 rw [show b + 1 - a=(b - a) + 1 by omega,List.take_succ_eq_append_getElem (by simp;omega)]
 congr 1
 rw [List.getElem_drop]
 have:=get_toList inp b h2
 simp only [show a + (b - a)=b by omega,this]
theorem seg_extract (inp : ByteArray) (a b : Nat) (h2 : b <= inp.size) : (⟨(seg inp a b).toArray⟩ : ByteArray)=inp.extract a b:=by
 apply toList_inj
 rw [toList_mk]
 simp only [seg,ByteArray.toList_eq]
 simp [ByteArray.data_extract]
theorem lexString_calls {w0 w : World} {inp : ByteArray} {ps wd : Nat} {its : List Item} (h : LexAt w0 w inp ps ps wd its) (hs : inp.size <= 100000) (hn : its.length <= 100000) (e : Nat) (h1 : ps < e) (h2 : e <= inp.size)
  (hc0 : inp[ps].toNat < 128) (hb : ∀ (j : Nat) (hj : j < inp.size),ps < j -> j < e -> inp[j].toNat ≠ 34 /\ inp[j].toNat ≠ 92 /\ inp[j].toNat < 128) (he : ∀ hj : e < inp.size,inp[e].toNat=34) :
  Calls Tryz.prog 156 #[.pointer (some ⟨w0.heap.size + 1,0,none⟩)] w fun r w'=>(e < inp.size /\ r=.returned (fn 137) /\ LexAt w0 w' inp (e + 1) (e + 1) 1 (its ++ [⟨10,inp.extract (ps + 1) e,ps⟩])) ∨
   (e=inp.size /\ r=.returned .nilFunc /\ ∃ st' ps' wd' x,x.size <= 100 /\ LexAt w0 w' inp st' ps' wd' (its ++ [⟨0,x,ps⟩])):=by
 obtain ⟨i0,hi,hz0,hz1,hz2⟩:=info_parts info21
 have H:=Lib.hid h
 have HB:=Lib.hid hb
 have HE:=Lib.hid he
 clear h hb he
 go_enter Tryz.func156,Tryz.ntmps156
 go_wp2_with fail
 refine (next_more H.out hs (by omega) hc0).mono ?_
 rintro r W ⟨rfl,g1,-⟩
 have G1:=Lib.hid g1
 have hlbW:=g1.cells.2.2.2.2.2.2
 clear g1
 go_wp2_with fail
 go_loopg [3,4] (e - ps) (fun k x v w'=>∃ (j wd' : Nat),k + j=e + 1 /\ ps < j /\ j <= e /\ x=.bool false /\ ExtM (·=w0.heap.size + 1) W w' /\ LexAt w0 w' inp ps j wd' its /\ w'.ownsRow W.heap.size 21 1 v (seg inp (ps + 1) j).length ((seg inp (ps + 1) j).map (fun c=>.int .i32 c.toNat)))
 case atStart=>exact ⟨ps + 1,1,by omega,by omega,by omega,rfl,ExtM.refl _ _,G1.out,by simp [seg];exact World.ownsRow_nil _ _ _ _⟩
 case round =>
  obtain ⟨j,wd',hk,hj1,hj2,rfl,hX,hL,hO⟩:=hrel
  have HL:=Lib.hid hL
  have HX:=Lib.hid hX
  have HO:=Lib.hid hO
  clear hL hX hO
  have hsl:=seg_len inp (ps + 1) j (by omega) (by omega)
  by_cases hje : j < e
  ·have hjs : j < inp.size:=by omega
   obtain ⟨ha1,ha2,hlt⟩:=HB.out j hjs hj1 hje
   have b1 : (((inp[j].toNat : Nat) : Int) == -1)=false:=beq_eq_false_iff_ne.2 (by omega)
   have b2 : (((inp[j].toNat : Nat) : Int) == 34)=false:=beq_eq_false_iff_ne.2 (by omega)
   have b3 : (((inp[j].toNat : Nat) : Int) == 92)=false:=beq_eq_false_iff_ne.2 (by omega)
   have HSS:=Lib.hid (seg_succ inp (ps + 1) j (by omega) hjs)
   clear ha1 ha2
   go_wp2_with fail
   refine (next_more HL.out hs hjs hlt).mono ?_
   rintro r w2 ⟨rfl,g2,x2⟩
   have hO2:=ownsRow_extM HO.out x2 (fun k hk e=>by omega)
   have hlow:=HX.out.size
   have hlow2:=x2.size
   have G2:=Lib.hid g2
   have X2:=Lib.hid x2
   clear g2 x2
   go_wp2_with (first
    | (at_builtin;refine wpList_append_own _ rfl _ _ 227 rfl W.heap.size 21 i0 _ 1 4 underlying227 hi hz0 hz1 hz2 rfl (by decide) _ _ _ rfl (hO2.alloc _) ⟨w2.heap.size,0,none⟩ 1 1 [.int .i32 inp[j].toNat] rfl rfl ?c1 ?c2 ?c3 ?c4 ?c5 ?_)
    | go_in)
   case c1 =>
    intro i u hu
    match i,hu with
    | 0,hu=>simp at hu;subst hu;simp [Addr.add]
    | i + 1,hu=>simp at hu
   case c2=>intro u hu;simp at hu;subst hu;rfl
   case c3=>unfold maxLen;omega
   case c4=>omega
   case c5=>simp;omega
   intro v' w3 hO3 hG hnil
   clear hnil
   have hown : ∀ k,u4.ownBlock=some k -> W.heap.size <= k:=fun k hk=>(hO2.lt k hk).1
   have hL2:=G2.out
   have hx3 : ExtM (·=w0.heap.size + 1) W w3:=((HX.out.trans' X2.out).ext (Ext.alloc w2 _)).grown hG (fun k hk=>hown k hk)
   have hB3:=(hL2.2.1.ext (Ext.alloc w2 _)).grown' hG (by intro e;have:=hown _ e.symm;omega)
   have hL3:=Lib.hid (G1.out.extM hx3 hB3)
   have HX3:=Lib.hid hx3
   have HO3:=Lib.hid hO3
   clear hL2 hx3 hB3 hO3 hG hO2
   go_wp2_with fail
   go_roundg (gk - 1)
   case measure=>omega
   case rel =>
    refine ⟨j + 1,1,by omega,by omega,by omega,rfl,HX3.out,hL3.out,?_⟩
    have:=HO3.out
    rw [HSS.out,List.length_append,List.map_append,hsl]
    exact this
  ·obtain rfl : j=e:=by omega
   by_cases hjs : j < inp.size
   ·have HQ:=Lib.hid (HE.out hjs)
    have hbs : ∀ c ∈ seg inp (ps + 1) j,c.toNat < 128:=by
     intro c hc
     obtain ⟨i,hi,rfl⟩:=List.getElem_of_mem hc
     have hi' : i < j - (ps + 1):=by omega
     have e1 : (seg inp (ps + 1) j)[i]=inp[ps + 1 + i]'(by omega):=by
      simp only [seg,List.getElem_take,List.getElem_drop]
      exact get_toList inp (ps + 1 + i) (by omega)
     rw [e1]
     exact (HB.out (ps + 1 + i) (by omega) (by omega) (by omega)).2.2
    have HBS:=Lib.hid hbs
    clear hbs
    go_wp2_with fail
    refine (next_more HL.out hs hjs (by have:=HQ.out;omega)).mono ?_
    rw [HQ.out]
    rintro r w2 ⟨rfl,g2,x2⟩
    have hO2:=ownsRow_extM HO.out x2 (fun k hk e=>by omega)
    obtain ⟨va,vc,rfl⟩:=owns_slice hO2
    have hcv:=convert_runes hO2 HBS.out
    have G2:=Lib.hid g2
    clear g2 x2 hO2
    rw [seg_extract inp (ps + 1) j (by omega),hsl] at hcv
    go_wp2_with fail
    refine (emitValue_calls 10 _ G2.out hn).mono ?_
    rintro r w3 ⟨rfl,g3⟩
    have G3:=Lib.hid g3
    clear g3
    go_wp2_with fail
    go_ret
    exact .inl ⟨hjs,rfl,G3.out⟩
   ·go_wp2_with fail
    refine (next_end HL.out hs (by omega)).mono ?_
    rintro r w2 ⟨rfl,g2,x2⟩
    have G2:=Lib.hid g2
    clear g2 x2
    go_wp2_with fail
    refine (errorf_calls _ G2.out hn).mono ?_
    rintro r w3 ⟨rfl,g3⟩
    have G3:=Lib.hid g3
    clear g3
    go_wp2_with fail
    go_ret
    exact .inr ⟨by omega,rfl,_,_,_,_,by decide,G3.out⟩
theorem startStep_len {c : UInt8} {k : Mode -> Option (List Tok)} {R : List Tok} {n : Nat} (h : startStep c k=some R) (h1 : ∀ R,k .start=some R -> R.length <= n + 1) (h2 : ∀ a R,k (.str a)=some R -> R.length <= n + 1) (h3 : ∀ a R,k (.typ a)=some R -> R.length <= n + 2) (h4 : ∀ a R,k (.var a)=some R -> R.length <= n + 2) : R.length <= n + 2:=by
 unfold startStep at h
 split at h
 ·have:=h1 _ h;omega
 ·split at h
  ·simp only [Option.map_eq_some_iff] at h
   obtain ⟨R',h5,rfl⟩:=h
   have:=h1 _ h5;simp;omega
  ·split at h
   ·have:=h2 _ _ h;omega
   ·split at h
    ·exact h3 _ _ h
    ·split at h
     ·exact h4 _ _ h
     ·cases h
theorem lexM_len : ∀ (cs : List UInt8),(∀ R,lexM cs .start=some R -> R.length <= cs.length + 1) /\ (∀ a R,lexM cs (.str a)=some R -> R.length <= cs.length + 1) /\ (∀ a R,lexM cs (.typ a)=some R -> R.length <= cs.length + 2) /\ (∀ a R,lexM cs (.var a)=some R -> R.length <= cs.length + 2)
 | []=>by
  refine ⟨fun R h=>?_,fun a R h=>?_,fun a R h=>?_,fun a R h=>?_⟩ <;> (rw [lexM] at h;cases h;simp)
 | c :: cs=>by
  obtain ⟨h1,h2,h3,h4⟩:=lexM_len cs
  have hs : ∀ R,startStep c (fun m=>lexM cs m)=some R -> R.length <= cs.length + 2:=fun R h=>startStep_len h h1 h2 h3 h4
  refine ⟨fun R h=>?_,fun a R h=>?_,fun a R h=>?_,fun a R h=>?_⟩
  ·rw [lexM] at h;have:=hs R h;simp;omega
  ·rw [lexM] at h
   split at h
   ·simp only [Option.map_eq_some_iff] at h
    obtain ⟨R',h5,rfl⟩:=h
    have:=h1 _ h5;simp;omega
   ·split at h
    ·cases h
    ·have:=h2 _ _ h;simp;omega
  ·rw [lexM] at h
   split at h
   ·have:=h3 _ _ h;simp;omega
   ·simp only [Option.map_eq_some_iff] at h
    obtain ⟨R',h5,rfl⟩:=h
    have:=hs _ h5;simp;omega
  ·rw [lexM] at h
   split at h
   ·have:=h4 _ _ h;simp;omega
   ·simp only [Option.map_eq_some_iff] at h
    obtain ⟨R',h5,rfl⟩:=h
    have:=hs _ h5;simp;omega
theorem drop_at (inp : ByteArray) (ps : Nat) (hp : ps < inp.size) : inp.toList.drop ps=inp[ps] :: inp.toList.drop (ps + 1):=by
 have hs:=size_toList inp
 rw [List.drop_eq_getElem_cons (by omega),get_toList inp ps hp]
theorem drop_split {inp : ByteArray} {a : Nat} {body rest : List UInt8} (ha : a <= inp.size) (h : inp.toList.drop a=body ++ rest) :
  a + body.length <= inp.size /\ rest=inp.toList.drop (a + body.length) /\ (∀ (j : Nat) (hj : j < inp.size),a <= j -> j < a + body.length -> inp[j] ∈ body) /\ seg inp a (a + body.length)=body:=by
 have hs:=size_toList inp
 have hl : inp.size - a=body.length + rest.length:=by
  have:=congrArg List.length h
  simp at this;omega
 refine ⟨by omega,?_,?_,?_⟩
 ·rw [<- List.drop_drop,h];simp
 ·intro j hj h1 h2
  have hm : (inp.toList.drop a)[j - a]?=body[j - a]?:=by
   rw [h,List.getElem?_append_left (by omega)]
  rw [List.getElem?_drop,show a + (j - a)=j by omega,List.getElem?_eq_getElem (by omega),get_toList inp j hj,List.getElem?_eq_getElem (by omega)] at hm
  have e:=Option.some.inj hm
  rw [e];exact List.getElem_mem _
 ·unfold seg;rw [h];simp
theorem extract_toList (inp : ByteArray) (a b : Nat) (h : b <= inp.size) : (inp.extract a b).toList=seg inp a b:=by
 rw [<- seg_extract inp a b h,toList_mk]
theorem seg_one (inp : ByteArray) (a : Nat) (h : a < inp.size) : seg inp a (a + 1)=[inp[a]]:=by
 rw [seg_succ inp a a (Nat.le_refl _) h];simp [seg]
theorem seg_head (inp : ByteArray) (a b : Nat) (h1 : a < b) (h : b <= inp.size) : seg inp a b=inp[a] :: seg inp (a + 1) b:=by
 unfold seg
 rw [drop_at inp a (by omega),show b - a=(b - (a + 1)) + 1 by omega,List.take_succ_cons]
def Fit (its : List Item) : Prop:=∀ i ∈ its,i.val.size <= 100000
theorem Fit.add {its : List Item} {t p : Int} {x : ByteArray} (h : Fit its) (hx : x.size <= 100000) : Fit (its ++ [⟨t,x,p⟩]):=by
 intro i hi
 rcases List.mem_append.1 hi with hi | hi
 ·exact h i hi
 ·obtain rfl:=List.mem_singleton.1 hi;exact hx
theorem ext_size (inp : ByteArray) (a b : Nat) (h : inp.size <= 90000) : (inp.extract a b).size <= 100000:=by simp;omega
def RunInv (w0 : World) (inp : ByteArray) (R : List Tok) (k : Nat) (v : Value) (w : World) : Prop :=
 (v=.nilFunc /\ ∃ st ps wd its,LexAt w0 w inp st ps wd its /\ Fit its /\ its.map tokOf=R) ∨
 (∃ ps wd its R',ps <= inp.size /\ LexAt w0 w inp ps ps wd its /\ Fit its /\ its.map tokOf ++ R'=R ∧
  ((v=fn 137 /\ k=2 * (inp.size - ps) + 2 /\ lexM (inp.toList.drop ps) .start=some R') ∨
   (∃ hp : ps < inp.size,k=2 * (inp.size - ps) + 1 /\ inp[ps].toNat < 128 /\ ((v=fn 156 /\ lexM (inp.toList.drop (ps + 1)) (.str [])=some R') \/ (v=fn 158 /\ lexM (inp.toList.drop (ps + 1)) (.typ [inp[ps]])=some R') \/ (v=fn 160 /\ lexM (inp.toList.drop (ps + 1)) (.var [inp[ps]])=some R')))))
theorem its_len {its : List Item} {R' R : List Tok} (h : its.map tokOf ++ R'=R) : its.length <= R.length:=by
 rw [<- h];simp
theorem start_run {w0 w : World} {inp : ByteArray} {ps wd : Nat} {its : List Item} {R R' : List Tok} (h : LexAt w0 w inp ps ps wd its) (hs : inp.size <= 90000) (hp : ps <= inp.size) (hT : TabAt w0) (hR : R.length <= 90001) (hF : Fit its) (hI : its.map tokOf ++ R'=R)
  (hM : lexM (inp.toList.drop ps) .start=some R') :
  Calls Tryz.prog 137 #[.pointer (some ⟨w0.heap.size + 1,0,none⟩)] w fun e w'=>∃ v k,e=.returned v /\ k < 2 * (inp.size - ps) + 2 /\ RunInv w0 inp R k v w':=by
 have hn : its.length <= 100000:=by have:=its_len hI;omega
 rcases Nat.lt_or_eq_of_le hp with hp | hp
 ·rw [drop_at inp ps hp,lexM] at hM
  have hlt:=start_ascii hM
  unfold startStep at hM
  split at hM
  ·rename_i hsp
   refine (start_space h (by omega) hp hsp).mono ?_
   rintro e w' ⟨rfl,h1⟩
   exact ⟨_,_,rfl,by omega,.inr ⟨ps + 1,1,its,R',by omega,h1,hF,hI,.inl ⟨rfl,rfl,hM⟩⟩⟩
  ·split at hM
   ·rename_i t ht
    simp only [Option.map_eq_some_iff] at hM
    obtain ⟨R2,h2,rfl⟩:=hM
    have fin : ∀ (tt : Int),tt ≠ 0 -> tt=t -> Calls Tryz.prog 137 #[.pointer (some ⟨w0.heap.size + 1,0,none⟩)] w (fun e w'=>e=.returned (fn 137) /\ LexAt w0 w' inp (ps + 1) (ps + 1) 1 (its ++ [⟨tt,inp.extract ps (ps + 1),ps⟩])) →
      Calls Tryz.prog 137 #[.pointer (some ⟨w0.heap.size + 1,0,none⟩)] w fun e w'=>∃ v k,e=.returned v /\ k < 2 * (inp.size - ps) + 2 /\ RunInv w0 inp R k v w':=by
     intro tt ht0 htt hc
     refine hc.mono ?_
     rintro e w' ⟨rfl,h3⟩
     refine ⟨_,_,rfl,by omega,.inr ⟨ps + 1,1,_,R2,by omega,h3,hF.add (ext_size _ _ _ hs),?_,.inl ⟨rfl,rfl,h2⟩⟩⟩
     subst htt
     rw [<- hI,List.map_append]
     simp [tokOf,ht0,extract_toList inp ps (ps + 1) (by omega),seg_one inp ps hp]
    unfold punct at ht
    repeat' split at ht
    all_goals
     try (rename_i hc;have hc':=congrArg UInt8.toNat (eq_of_beq hc);cases ht)
    ·exact fin _ (by decide) rfl (start_punct40 h (by omega) hp hc' hn)
    ·exact fin _ (by decide) rfl (start_punct41 h (by omega) hp hc' hn)
    ·exact fin _ (by decide) rfl (start_punct91 h (by omega) hp hc' hn)
    ·exact fin _ (by decide) rfl (start_punct93 h (by omega) hp hc' hn)
    ·exact fin _ (by decide) rfl (start_punct64 h (by omega) hp hc' hn)
    ·exact fin _ (by decide) rfl (start_punct58 h (by omega) hp hc' hn)
    ·exact fin _ (by decide) rfl (start_punct95 h (by omega) hp hc' hn)
    ·cases ht
   ·split at hM
    ·rename_i hc
     refine (start_quote h (by omega) hp (congrArg UInt8.toNat (eq_of_beq hc))).mono ?_
     rintro e w' ⟨rfl,h1⟩
     exact ⟨_,_,rfl,by omega,.inr ⟨ps,1,its,R',by omega,h1,hF,hI,.inr ⟨hp,rfl,hlt,.inl ⟨rfl,hM⟩⟩⟩⟩
    ·split at hM
     ·rename_i hc
      refine (start_up h (by omega) hp hc hT).mono ?_
      rintro e w' ⟨rfl,h1⟩
      exact ⟨_,_,rfl,by omega,.inr ⟨ps,1,its,R',by omega,h1,hF,hI,.inr ⟨hp,rfl,hlt,.inr (.inl ⟨rfl,hM⟩)⟩⟩⟩
     ·split at hM
      ·rename_i hc
       refine (start_low h (by omega) hp hc hT).mono ?_
       rintro e w' ⟨rfl,h1⟩
       exact ⟨_,_,rfl,by omega,.inr ⟨ps,1,its,R',by omega,h1,hF,hI,.inr ⟨hp,rfl,hlt,.inr (.inr ⟨rfl,hM⟩)⟩⟩⟩
      ·cases hM
 ·have hnil : inp.toList.drop ps=[]:=List.drop_of_length_le (by rw [size_toList];omega)
  rw [hnil,lexM] at hM
  cases hM
  refine (start_end h (by omega) hp hn).mono ?_
  rintro e w' ⟨rfl,h1⟩
  refine ⟨_,0,rfl,by omega,.inl ⟨rfl,_,_,_,_,h1,hF.add (ext_size _ _ _ hs),?_⟩⟩
  rw [<- hI,List.map_append]
  simp [tokOf,extract_toList inp ps ps (by omega),seg]
theorem typ_run {w0 w : World} {inp : ByteArray} {ps wd : Nat} {its : List Item} {R R' : List Tok} (h : LexAt w0 w inp ps ps wd its) (hs : inp.size <= 90000) (hp : ps < inp.size) (hR : R.length <= 90001) (hF : Fit its) (hI : its.map tokOf ++ R'=R) (hc0 : inp[ps].toNat < 128)
  (hM : lexM (inp.toList.drop (ps + 1)) (.typ [inp[ps]])=some R') :
  Calls Tryz.prog 158 #[.pointer (some ⟨w0.heap.size + 1,0,none⟩)] w fun e w'=>∃ v k,e=.returned v /\ k < 2 * (inp.size - ps) + 1 /\ RunInv w0 inp R k v w':=by
 have hn : its.length <= 100000:=by have:=its_len hI;omega
 obtain ⟨body,rest,R2,hd,hb,hr,rfl,h2⟩:=lexM_typ _ _ _ hM
 obtain ⟨he,rfl,hj,hsg⟩:=drop_split (by omega) hd
 refine (lexType_calls h (by omega) hn (ps + 1 + body.length) (by omega) he hc0 (fun j hj' h3 h4=>hb _ (hj j hj' (by omega) h4)) (fun h5=>?_)).mono ?_
 ·have h6:=drop_at inp _ h5
  rw [h6,lexM] at h2
  exact ⟨start_ascii h2,hr _ _ h6⟩
 ·rintro e w' ⟨rfl,wd',h7⟩
  refine ⟨_,_,rfl,by omega,.inr ⟨ps + 1 + body.length,wd',_,R2,he,h7,hF.add (ext_size _ _ _ hs),?_,.inl ⟨rfl,rfl,h2⟩⟩⟩
  rw [<- hI,List.map_append]
  simp [tokOf,extract_toList inp ps (ps + 1 + body.length) he,seg_head inp ps (ps + 1 + body.length) (by omega) he,hsg]
theorem var_run {w0 w : World} {inp : ByteArray} {ps wd : Nat} {its : List Item} {R R' : List Tok} (h : LexAt w0 w inp ps ps wd its) (hs : inp.size <= 90000) (hp : ps < inp.size) (hR : R.length <= 90001) (hF : Fit its) (hI : its.map tokOf ++ R'=R) (hc0 : inp[ps].toNat < 128)
  (hM : lexM (inp.toList.drop (ps + 1)) (.var [inp[ps]])=some R') :
  Calls Tryz.prog 160 #[.pointer (some ⟨w0.heap.size + 1,0,none⟩)] w fun e w'=>∃ v k,e=.returned v /\ k < 2 * (inp.size - ps) + 1 /\ RunInv w0 inp R k v w':=by
 have hn : its.length <= 100000:=by have:=its_len hI;omega
 obtain ⟨body,rest,R2,hd,hb,hr,rfl,h2⟩:=lexM_var _ _ _ hM
 obtain ⟨he,rfl,hj,hsg⟩:=drop_split (by omega) hd
 refine (lexVariable_calls h (by omega) hn (ps + 1 + body.length) (by omega) he hc0 (fun j hj' h3 h4=>hb _ (hj j hj' (by omega) h4)) (fun h5=>?_)).mono ?_
 ·have h6:=drop_at inp _ h5
  rw [h6,lexM] at h2
  exact ⟨start_ascii h2,hr _ _ h6⟩
 ·rintro e w' ⟨rfl,wd',h7⟩
  refine ⟨_,_,rfl,by omega,.inr ⟨ps + 1 + body.length,wd',_,R2,he,h7,hF.add (ext_size _ _ _ hs),?_,.inl ⟨rfl,rfl,h2⟩⟩⟩
  rw [<- hI,List.map_append]
  simp [tokOf,extract_toList inp ps (ps + 1 + body.length) he,seg_head inp ps (ps + 1 + body.length) (by omega) he,hsg]
theorem str_run {w0 w : World} {inp : ByteArray} {ps wd : Nat} {its : List Item} {R R' : List Tok} (h : LexAt w0 w inp ps ps wd its) (hs : inp.size <= 90000) (hp : ps < inp.size) (hR : R.length <= 90001) (hF : Fit its) (hI : its.map tokOf ++ R'=R) (hc0 : inp[ps].toNat < 128)
  (hM : lexM (inp.toList.drop (ps + 1)) (.str [])=some R') :
  Calls Tryz.prog 156 #[.pointer (some ⟨w0.heap.size + 1,0,none⟩)] w fun e w'=>∃ v k,e=.returned v /\ k < 2 * (inp.size - ps) + 1 /\ RunInv w0 inp R k v w':=by
 have hn : its.length <= 100000:=by have:=its_len hI;omega
 obtain ⟨body,rest,hd,hb,hr⟩:=lexM_str _ _ _ hM
 obtain ⟨he,hrest,hj,hsg⟩:=drop_split (by omega) hd
 have hq : ∀ h5 : ps + 1 + body.length < inp.size,inp[ps + 1 + body.length].toNat=34 /\ ∃ R2,R'=(10,body) :: R2 /\ lexM (inp.toList.drop (ps + 1 + body.length + 1)) .start=some R2:=by
  intro h5
  have h6:=drop_at inp _ h5
  rw [<- hrest] at h6
  rcases hr with ⟨rfl,-⟩ | ⟨rest',R2,rfl,rfl,h2⟩
  ·cases h6
  ·obtain ⟨h7,rfl⟩:=List.cons.inj h6
   refine ⟨by rw [<- h7];rfl,R2,by simp,h2⟩
 refine (lexString_calls h (by omega) hn (ps + 1 + body.length) (by omega) he hc0 (fun j hj' h3 h4=>?_) (fun h5=>(hq h5).1)).mono ?_
 ·obtain ⟨g1,g2,g3⟩:=hb _ (hj j hj' (by omega) h4)
  exact ⟨fun e=>g1 (UInt8.toNat_inj.1 e),fun e=>g2 (UInt8.toNat_inj.1 e),g3⟩
 ·rintro e w' (⟨h5,rfl,h7⟩ | ⟨h5,rfl,st',ps',wd',x,hx,h7⟩)
  ·obtain ⟨-,R2,rfl,h2⟩:=hq h5
   refine ⟨_,_,rfl,by omega,.inr ⟨ps + 1 + body.length + 1,1,_,R2,by omega,h7,hF.add (ext_size _ _ _ hs),?_,.inl ⟨rfl,rfl,h2⟩⟩⟩
   rw [<- hI,List.map_append]
   simp [tokOf,extract_toList inp (ps + 1) (ps + 1 + body.length) he,hsg]
  ·refine ⟨_,0,rfl,by omega,.inl ⟨rfl,_,_,_,_,h7,hF.add (by omega),?_⟩⟩
   rcases hr with ⟨-,rfl⟩ | ⟨rest',R2,rfl,-⟩
   ·rw [<- hI,List.map_append];rfl
   ·have:=congrArg List.length hrest
    rw [List.drop_of_length_le (by rw [size_toList];omega)] at this
    cases this
theorem neq_fn (n : Nat) (w : World) : (binOp BinOp.neq 211 (.func (.func n) #[] #[]) Value.nilFunc).run Tryz.prog w=.ok (.bool true) w:=by kernel_rfl
theorem neq_nil (w : World) : (binOp BinOp.neq 211 Value.nilFunc Value.nilFunc).run Tryz.prog w=.ok (.bool false) w:=by kernel_rfl
theorem run_calls {w0 w : World} {inp : ByteArray} {R : List Tok} (h : LexAt w0 w inp 0 0 0 []) (hs : inp.size <= 90000) (hT : TabAt w0) (hM : lexM inp.toList .start=some R) :
  Calls Tryz.prog 109 #[.pointer (some ⟨w0.heap.size + 1,0,none⟩)] w fun e w'=>e=.returned (.tuple #[]) /\ ∃ st ps wd its,LexAt w0 w' inp st ps wd its /\ Fit its /\ its.map tokOf=R:=by
 have hR : R.length <= 90001:=by have:=(lexM_len _).1 _ hM;rw [size_toList] at this;omega
 have HI : Hid (RunInv w0 inp R (2 * (inp.size - 0) + 2) (fn 137) w):=Lib.hid (.inr ⟨0,0,[],R,Nat.zero_le _,h,by simp [Fit],rfl,.inl ⟨rfl,rfl,by simpa using hM⟩⟩)
 clear h hM
 have q1:=neq_fn 137
 have q2:=neq_fn 156
 have q3:=neq_fn 158
 have q4:=neq_fn 160
 have q5:=neq_nil
 go_enter Tryz.func109,Tryz.ntmps109
 go_wp2_with fail
 go_loopg [2] (2 * (inp.size - 0) + 2) (fun k v w'=>RunInv w0 inp R k v w')
 case atStart=>exact HI.out
 case round =>
  clear HI
  rcases hrel with ⟨rfl,hfin⟩ | ⟨ps,wd,its,R',hp,hL,hF,hI,hst⟩
  ·have HF:=Lib.hid hfin
   clear hfin
   go_wp2_with fail
   go_end0
   exact ⟨rfl,HF.out⟩
  ·have HL:=Lib.hid hL
   have HIt:=Lib.hid hI
   clear hL hI
   rcases hst with ⟨rfl,rfl,hm⟩ | ⟨hp',rfl,hc0,⟨rfl,hm⟩ | ⟨rfl,hm⟩ | ⟨rfl,hm⟩⟩
   ·have HM:=Lib.hid hm
    clear hm
    unfold fn
    go_wp2_with fail
    refine (start_run HL.out hs hp hT hR hF HIt.out HM.out).mono ?_
    rintro e w' ⟨v,k,rfl,hk,hinv⟩
    have HV:=Lib.hid hinv
    clear hinv
    go_wp2_with fail
    go_roundg k
    case measure=>exact hk
    case rel=>exact HV.out
   ·have HM:=Lib.hid hm
    clear hm
    unfold fn
    go_wp2_with fail
    refine (str_run HL.out hs hp' hR hF HIt.out hc0 HM.out).mono ?_
    rintro e w' ⟨v,k,rfl,hk,hinv⟩
    have HV:=Lib.hid hinv
    clear hinv
    go_wp2_with fail
    go_roundg k
    case measure=>exact hk
    case rel=>exact HV.out
   ·have HM:=Lib.hid hm
    clear hm
    unfold fn
    go_wp2_with fail
    refine (typ_run HL.out hs hp' hR hF HIt.out hc0 HM.out).mono ?_
    rintro e w' ⟨v,k,rfl,hk,hinv⟩
    have HV:=Lib.hid hinv
    clear hinv
    go_wp2_with fail
    go_roundg k
    case measure=>exact hk
    case rel=>exact HV.out
   ·have HM:=Lib.hid hm
    clear hm
    unfold fn
    go_wp2_with fail
    refine (var_run HL.out hs hp' hR hF HIt.out hc0 HM.out).mono ?_
    rintro e w' ⟨v,k,rfl,hk,hinv⟩
    have HV:=Lib.hid hinv
    clear hinv
    go_wp2_with fail
    go_roundg k
    case measure=>exact hk
    case rel=>exact HV.out
def ItemsAt (w : World) (a : Option Addr) (its : List Item) : Prop:=its=[] \/ ∃ b o,a=some ⟨b,o,none⟩ /\ ∀ (j : Nat) (hj : j < its.length),w.cell? ⟨b,o + j * 3,none⟩=some (.int .i64 its[j].typ) /\ w.cell? ⟨b,o + j * 3 + 1,none⟩=some (.string its[j].val) /\ w.cell? ⟨b,o + j * 3 + 2,none⟩=some (.int .i64 its[j].pos)
theorem itemsV_get : ∀ (l : List Item) (j : Nat) (hj : j < l.length),(itemsV l)[j * 3]?=some (.int .i64 l[j].typ) /\ (itemsV l)[j * 3 + 1]?=some (.string l[j].val) /\ (itemsV l)[j * 3 + 2]?=some (.int .i64 l[j].pos)
 | x :: l,0,_=>⟨rfl,rfl,rfl⟩
 | x :: l,j + 1,hj=>by
  have:=itemsV_get l j (by simpa using hj)
  rw [show (j + 1) * 3=j * 3 + 3 by omega]
  simpa [itemsV] using this
theorem itemsAt_of_owns {w : World} {base : Nat} {v : Value} {its : List Item} (h : w.ownsRow base 115 3 v its.length (itemsV its)) : ∃ a c,v=.slice a its.length c /\ its.length <= c /\ ItemsAt w a its:=by
 rcases h.2 with ⟨rfl,hn⟩ | ⟨g,cap,cur,rfl,hb,hg,hnc,-⟩
 ·obtain rfl:=List.eq_nil_of_length_eq_zero hn
  exact ⟨none,0,rfl,Nat.le_refl _,.inl rfl⟩
 ·refine ⟨_,_,rfl,hnc,.inr ⟨g,0,rfl,fun j hj=>?_⟩⟩
  obtain ⟨h1,h2,h3⟩:=itemsV_get its j hj
  have hadd : ∀ n,(⟨g,0,none⟩ : Addr).add n=⟨g,0 + n,none⟩:=fun n=>by unfold Addr.add;split <;> simp_all
  have c1:=h.cells (g:=g) rfl _ _ h1
  have c2:=h.cells (g:=g) rfl _ _ h2
  have c3:=h.cells (g:=g) rfl _ _ h3
  rw [hadd] at c1 c2 c3
  exact ⟨c1,c2,c3⟩
end Go.Proofs.YtigalkobmfbdaaaGreatDoor
