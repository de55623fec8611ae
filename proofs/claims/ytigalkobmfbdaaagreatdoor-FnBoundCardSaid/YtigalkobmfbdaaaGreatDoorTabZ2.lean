/- The functions that are one switch over a text, as tables, with their contracts: what each call answers. No conditions. -/
import Derived.Test.YtigalkobmfbdaaaGreatDoorMix2a
namespace Go.Proofs.YtigalkobmfbdaaaGreatDoor
open Go.RowKit
def sw {α : Type} (k : ByteArray) : List (ByteArray × α) -> α -> α
 | [],d=>d
 | (c,v) :: r,d=>bif k.toList == c.toList then v else sw k r d
theorem sw_map {α β : Type} (f : α -> β) (k : ByteArray) (l : List (ByteArray × α)) (d : α) : sw k (l.map fun x=>(x.1,f x.2)) (f d)=f (sw k l d):=by
 induction l with
 | nil=>rfl
 | cons x l ih =>
  obtain ⟨c,v⟩:=x
  simp only [List.map_cons,sw,ih]
  cases k.toList == c.toList <;> rfl
theorem toList_inj {a b : ByteArray} (h : a.toList=b.toList) : a=b:=by
 rw [ByteArray.toList_eq,ByteArray.toList_eq] at h
 exact ByteArray.ext (Array.ext' h)
theorem sw_cases {α : Type} (k : ByteArray) (l : List (ByteArray × α)) (d : α) : (sw k l d=d /\ ∀ x ∈ l,k ≠ x.1) \/ ∃ x ∈ l,k=x.1 /\ sw k l d=x.2:=by
 induction l with
 | nil=>exact .inl ⟨rfl,fun _ h=>by cases h⟩
 | cons x l ih =>
  obtain ⟨c,v⟩:=x
  simp only [sw]
  cases hb : k.toList == c.toList
  ·rcases ih with ⟨h1,h2⟩ | ⟨x,hx,hk,h⟩
   ·refine .inl ⟨h1,fun x hx=>?_⟩
    rcases List.mem_cons.1 hx with rfl | hx
    ·rintro rfl;simp at hb
    ·exact h2 x hx
   ·exact .inr ⟨x,List.mem_cons_of_mem _ hx,hk,h⟩
  ·exact .inr ⟨(c,v),List.mem_cons_self ..,toList_inj (eq_of_beq hb),rfl⟩
def StrsAt (w : World) (a : Option Addr) (l : List ByteArray) : Prop :=
 ∀ (j : Nat) (h : j < l.length),∃ b o,a=some ⟨b,o,none⟩ /\ b < w.heap.size /\ w.cell? ⟨b,o + j,none⟩=some (.string l[j])
theorem StrsAt.mono {w w' : World} (h : Ext w w') {a : Option Addr} {l : List ByteArray} (hs : StrsAt w a l) : StrsAt w' a l:=fun j hj=>by
 obtain ⟨b,o,ha,hb,hc⟩:=hs j hj
 exact ⟨b,o,ha,Nat.lt_of_lt_of_le hb h.size,h.keep hc⟩
theorem StrsAt.nil (w : World) (a : Option Addr) : StrsAt w a []:=fun _ h=>absurd h (by simp)
def strsV (w : World) : List ByteArray -> Value × World
 | []=>(.slice none 0 0,w)
 | x :: l=>(.slice (some ⟨w.heap.size,0,none⟩) (l.length + 1) (l.length + 1),w.alloc (.cells (((x :: l).map Value.string).toArray) 9))
theorem strsV_ext (w : World) (l : List ByteArray) : Ext w (strsV w l).2:=by
 cases l with
 | nil=>exact Ext.refl _
 | cons x l=>exact Ext.alloc _ _
theorem strsV_at (w : World) (l : List ByteArray) : ∃ a c,(strsV w l).1=.slice a l.length c /\ l.length <= c /\ c <= l.length /\ StrsAt (strsV w l).2 a l:=by
 cases l with
 | nil=>exact ⟨none,0,rfl,Nat.le_refl _,Nat.le_refl _,StrsAt.nil _ _⟩
 | cons x l =>
  refine ⟨_,_,rfl,Nat.le_refl _,Nat.le_refl _,fun j hj=>⟨w.heap.size,0,rfl,by simp [strsV],?_⟩⟩
  have e : (strsV w (x :: l)).2.heap[w.heap.size]?=some (.cells (((x :: l).map Value.string).toArray) 9):=by
   show (w.heap.push _)[w.heap.size]?=_
   simp
  simp only [World.cell?,e]
  simp only [List.getElem?_toArray,Nat.zero_add]
  rw [List.getElem?_map,List.getElem?_eq_getElem hj]
  rfl
def AnswersStrs (f : FuncId) (args : Array Value) (w : World) (l : List ByteArray) : Prop :=
 Calls Tryz.prog f args w fun e w'=>∃ a c,e=.returned (.slice a l.length c) /\ l.length <= c /\ c <= l.length /\ StrsAt w' a l /\ Ext w w'
theorem answersStrs_of_run {f : FuncId} {fn : Func} {args : Array Value} {w : World} {l : List ByteArray} (hf : Tryz.prog.funcs[f]?=some fn)
  (h : callK Tryz.prog fn args w=some (strsV w l)) : AnswersStrs f args w l:=by
 have h' : callK Tryz.prog fn args w=some ((strsV w l).1,(strsV w l).2):=h
 refine (callK_sound hf h').mono fun e w' ⟨he,hw⟩=>?_
 subst hw
 obtain ⟨a,c,hv,h1,h2,h3⟩:=strsV_at w l
 exact ⟨a,c,by rw [he,hv],h1,h2,h3,strsV_ext w l⟩
def fieldsT : List (ByteArray × List ByteArray):=[(⟨#[73,100,101,110,116]⟩,[⟨#[78,97,109,101]⟩]),
 (⟨#[66,97,115,105,99,76,105,116]⟩,[⟨#[75,105,110,100]⟩,⟨#[86,97,108,117,101]⟩]),
 (⟨#[66,105,110,97,114,121,69,120,112,114]⟩,[⟨#[88]⟩,⟨#[79,112]⟩,⟨#[89]⟩]),
 (⟨#[85,110,97,114,121,69,120,112,114]⟩,[⟨#[79,112]⟩,⟨#[88]⟩]),
 (⟨#[67,97,108,108,69,120,112,114]⟩,[⟨#[70,117,110]⟩,⟨#[65,114,103,115]⟩]),
 (⟨#[83,101,108,101,99,116,111,114,69,120,112,114]⟩,[⟨#[88]⟩,⟨#[83,101,108]⟩]),
 (⟨#[73,110,100,101,120,69,120,112,114]⟩,[⟨#[88]⟩,⟨#[73,110,100,101,120]⟩]),
 (⟨#[83,116,97,114,69,120,112,114]⟩,[⟨#[88]⟩]),
 (⟨#[80,97,114,101,110,69,120,112,114]⟩,[⟨#[88]⟩]),
 (⟨#[69,120,112,114,83,116,109,116]⟩,[⟨#[88]⟩]),
 (⟨#[75,101,121,86,97,108,117,101,69,120,112,114]⟩,[⟨#[75,101,121]⟩,⟨#[86,97,108,117,101]⟩]),
 (⟨#[67,111,109,112,111,115,105,116,101,76,105,116]⟩,[⟨#[84,121,112,101]⟩,⟨#[69,108,116,115]⟩,⟨#[73,110,99,111,109,112,108,101,116,101]⟩]),
 (⟨#[83,108,105,99,101,69,120,112,114]⟩,[⟨#[88]⟩,⟨#[76,111,119]⟩,⟨#[72,105,103,104]⟩,⟨#[77,97,120]⟩,⟨#[83,108,105,99,101,51]⟩]),
 (⟨#[84,121,112,101,65,115,115,101,114,116,69,120,112,114]⟩,[⟨#[88]⟩,⟨#[84,121,112,101]⟩]),
 (⟨#[65,115,115,105,103,110,83,116,109,116]⟩,[⟨#[76,104,115]⟩,⟨#[84,111,107]⟩,⟨#[82,104,115]⟩]),
 (⟨#[82,101,116,117,114,110,83,116,109,116]⟩,[⟨#[82,101,115,117,108,116,115]⟩]),
 (⟨#[73,102,83,116,109,116]⟩,[⟨#[73,110,105,116]⟩,⟨#[67,111,110,100]⟩,⟨#[66,111,100,121]⟩,⟨#[69,108,115,101]⟩]),
 (⟨#[66,108,111,99,107,83,116,109,116]⟩,[⟨#[76,105,115,116]⟩]),
 (⟨#[73,110,99,68,101,99,83,116,109,116]⟩,[⟨#[88]⟩,⟨#[84,111,107]⟩]),
 (⟨#[83,101,110,100,83,116,109,116]⟩,[⟨#[67,104,97,110]⟩,⟨#[86,97,108,117,101]⟩]),
 (⟨#[71,111,83,116,109,116]⟩,[⟨#[67,97,108,108]⟩]),
 (⟨#[68,101,102,101,114,83,116,109,116]⟩,[⟨#[67,97,108,108]⟩]),
 (⟨#[70,111,114,83,116,109,116]⟩,[⟨#[73,110,105,116]⟩,⟨#[67,111,110,100]⟩,⟨#[80,111,115,116]⟩,⟨#[66,111,100,121]⟩]),
 (⟨#[82,97,110,103,101,83,116,109,116]⟩,[⟨#[75,101,121]⟩,⟨#[86,97,108,117,101]⟩,⟨#[84,111,107]⟩,⟨#[88]⟩,⟨#[66,111,100,121]⟩]),
 (⟨#[76,97,98,101,108,101,100,83,116,109,116]⟩,[⟨#[76,97,98,101,108]⟩,⟨#[83,116,109,116]⟩]),
 (⟨#[69,109,112,116,121,83,116,109,116]⟩,[⟨#[73,109,112,108,105,99,105,116]⟩]),
 (⟨#[67,97,115,101,67,108,97,117,115,101]⟩,[⟨#[76,105,115,116]⟩,⟨#[66,111,100,121]⟩]),
 (⟨#[83,119,105,116,99,104,83,116,109,116]⟩,[⟨#[73,110,105,116]⟩,⟨#[84,97,103]⟩,⟨#[66,111,100,121]⟩])]
def fields (k : ByteArray) : List ByteArray:=sw k fieldsT []
theorem fields_run (k : ByteArray) (w : World) : callK Tryz.prog Tryz.f26 #[.string k] w=sw k (fieldsT.map fun x=>(x.1,some (strsV w x.2))) (some (strsV w [])):=by kernel_rfl
theorem fields_calls (k : ByteArray) (w : World) : AnswersStrs 26 #[.string k] w (fields k) :=
 answersStrs_of_run Tryz.func26 ((fields_run k w).trans (sw_map (fun x=>some (strsV w x)) k fieldsT []))
def askedT : List (ByteArray × ByteArray):=[(⟨#[73,100,101,110,116]⟩,⟨#[110]⟩),
 (⟨#[66,97,115,105,99,76,105,116]⟩,⟨#[116,110]⟩),
 (⟨#[66,105,110,97,114,121,69,120,112,114]⟩,⟨#[101,116,101]⟩),
 (⟨#[85,110,97,114,121,69,120,112,114]⟩,⟨#[116,101]⟩),
 (⟨#[67,97,108,108,69,120,112,114]⟩,⟨#[101,108]⟩),
 (⟨#[83,101,108,101,99,116,111,114,69,120,112,114]⟩,⟨#[101,105]⟩),
 (⟨#[73,110,100,101,120,69,120,112,114]⟩,⟨#[101,101]⟩),
 (⟨#[75,101,121,86,97,108,117,101,69,120,112,114]⟩,⟨#[101,101]⟩),
 (⟨#[83,101,110,100,83,116,109,116]⟩,⟨#[101,101]⟩),
 (⟨#[83,116,97,114,69,120,112,114]⟩,⟨#[101]⟩),
 (⟨#[80,97,114,101,110,69,120,112,114]⟩,⟨#[101]⟩),
 (⟨#[69,120,112,114,83,116,109,116]⟩,⟨#[101]⟩),
 (⟨#[67,111,109,112,111,115,105,116,101,76,105,116]⟩,⟨#[69,108,98]⟩),
 (⟨#[83,108,105,99,101,69,120,112,114]⟩,⟨#[101,69,69,69,98]⟩),
 (⟨#[84,121,112,101,65,115,115,101,114,116,69,120,112,114]⟩,⟨#[101,69]⟩),
 (⟨#[65,115,115,105,103,110,83,116,109,116]⟩,⟨#[108,116,108]⟩),
 (⟨#[82,101,116,117,114,110,83,116,109,116]⟩,⟨#[108]⟩),
 (⟨#[73,102,83,116,109,116]⟩,⟨#[83,101,66,83]⟩),
 (⟨#[66,108,111,99,107,83,116,109,116]⟩,⟨#[109]⟩),
 (⟨#[73,110,99,68,101,99,83,116,109,116]⟩,⟨#[101,116]⟩),
 (⟨#[71,111,83,116,109,116]⟩,⟨#[99]⟩),
 (⟨#[68,101,102,101,114,83,116,109,116]⟩,⟨#[99]⟩),
 (⟨#[70,111,114,83,116,109,116]⟩,⟨#[83,69,83,66]⟩),
 (⟨#[82,97,110,103,101,83,116,109,116]⟩,⟨#[69,69,116,101,66]⟩),
 (⟨#[76,97,98,101,108,101,100,83,116,109,116]⟩,⟨#[105,115]⟩),
 (⟨#[69,109,112,116,121,83,116,109,116]⟩,⟨#[98]⟩),
 (⟨#[67,97,115,101,67,108,97,117,115,101]⟩,⟨#[108,109]⟩),
 (⟨#[83,119,105,116,99,104,83,116,109,116]⟩,⟨#[83,69,66]⟩)]
def asked (k : ByteArray) : ByteArray:=sw k askedT ⟨#[]⟩
theorem asked_run (k : ByteArray) (w : World) : callK Tryz.prog Tryz.f70 #[.string k] w=sw k (askedT.map fun x=>(x.1,some (Value.string x.2,w))) (some (Value.string ⟨#[]⟩,w)):=by kernel_rfl
theorem asked_calls (k : ByteArray) (w : World) : Calls Tryz.prog 70 #[.string k] w fun e w'=>e=.returned (.string (asked k)) /\ w=w' :=
 callK_sound Tryz.func70 ((asked_run k w).trans (sw_map (fun x=>some (Value.string x,w)) k askedT ⟨#[]⟩))
def tokensT : List (ByteArray × List ByteArray):=[(⟨#[66,97,115,105,99,76,105,116]⟩,[⟨#[73,78,84]⟩,⟨#[70,76,79,65,84]⟩,⟨#[67,72,65,82]⟩,⟨#[83,84,82,73,78,71]⟩]),
 (⟨#[66,105,110,97,114,121,69,120,112,114]⟩,[⟨#[43]⟩,⟨#[45]⟩,⟨#[42]⟩,⟨#[47]⟩,⟨#[61,61]⟩,⟨#[33,61]⟩,⟨#[60]⟩,⟨#[38,38]⟩,⟨#[124,124]⟩,⟨#[60,60]⟩]),
 (⟨#[85,110,97,114,121,69,120,112,114]⟩,[⟨#[45]⟩,⟨#[33]⟩,⟨#[38]⟩,⟨#[94]⟩,⟨#[60,45]⟩]),
 (⟨#[65,115,115,105,103,110,83,116,109,116]⟩,[⟨#[61]⟩,⟨#[58,61]⟩,⟨#[43,61]⟩,⟨#[45,61]⟩]),
 (⟨#[73,110,99,68,101,99,83,116,109,116]⟩,[⟨#[43,43]⟩,⟨#[45,45]⟩]),
 (⟨#[82,97,110,103,101,83,116,109,116]⟩,[⟨#[61]⟩,⟨#[58,61]⟩])]
def tokens (k : ByteArray) : List ByteArray:=sw k tokensT []
theorem tokens_run (k : ByteArray) (w : World) : callK Tryz.prog Tryz.f69 #[.string k] w=sw k (tokensT.map fun x=>(x.1,some (strsV w x.2))) (some (strsV w [])):=by kernel_rfl
theorem tokens_calls (k : ByteArray) (w : World) : AnswersStrs 69 #[.string k] w (tokens k) :=
 answersStrs_of_run Tryz.func69 ((tokens_run k w).trans (sw_map (fun x=>some (strsV w x)) k tokensT []))
def expressions : List ByteArray:=[⟨#[73,100,101,110,116]⟩,⟨#[66,97,115,105,99,76,105,116]⟩,⟨#[66,105,110,97,114,121,69,120,112,114]⟩,⟨#[85,110,97,114,121,69,120,112,114]⟩,⟨#[67,97,108,108,69,120,112,114]⟩,⟨#[83,101,108,101,99,116,111,114,69,120,112,114]⟩,⟨#[73,110,100,101,120,69,120,112,114]⟩,⟨#[83,116,97,114,69,120,112,114]⟩,⟨#[80,97,114,101,110,69,120,112,114]⟩,⟨#[75,101,121,86,97,108,117,101,69,120,112,114]⟩,⟨#[67,111,109,112,111,115,105,116,101,76,105,116]⟩,⟨#[83,108,105,99,101,69,120,112,114]⟩,⟨#[84,121,112,101,65,115,115,101,114,116,69,120,112,114]⟩]
theorem expressions_calls (w : World) : AnswersStrs 71 #[] w expressions:=answersStrs_of_run Tryz.func71 (by kernel_rfl)
def statements : List ByteArray:=[⟨#[69,120,112,114,83,116,109,116]⟩,⟨#[65,115,115,105,103,110,83,116,109,116]⟩,⟨#[82,101,116,117,114,110,83,116,109,116]⟩,⟨#[73,102,83,116,109,116]⟩,⟨#[66,108,111,99,107,83,116,109,116]⟩,⟨#[73,110,99,68,101,99,83,116,109,116]⟩,⟨#[83,101,110,100,83,116,109,116]⟩,⟨#[71,111,83,116,109,116]⟩,⟨#[68,101,102,101,114,83,116,109,116]⟩,⟨#[70,111,114,83,116,109,116]⟩,⟨#[82,97,110,103,101,83,116,109,116]⟩,⟨#[76,97,98,101,108,101,100,83,116,109,116]⟩,⟨#[69,109,112,116,121,83,116,109,116]⟩,⟨#[67,97,115,101,67,108,97,117,115,101]⟩,⟨#[83,119,105,116,99,104,83,116,109,116]⟩]
theorem statements_calls (w : World) : AnswersStrs 72 #[] w statements:=answersStrs_of_run Tryz.func72 (by kernel_rfl)
def structNodesT : List (ByteArray × Option Nat):=[(⟨#[79,114]⟩,some 0),
 (⟨#[65,110,121]⟩,some 0),
 (⟨#[76,105,115,116]⟩,some 2),
 (⟨#[66,105,110,100,105,110,103]⟩,some 2),
 (⟨#[69,109,112,116,121,83,116,109,116]⟩,some 0),
 (⟨#[69,108,108,105,112,115,105,115]⟩,some 1),
 (⟨#[73,100,101,110,116]⟩,some 1),
 (⟨#[66,117,105,108,116,105,110]⟩,some 1),
 (⟨#[68,101,102,101,114,83,116,109,116]⟩,some 1),
 (⟨#[82,101,116,117,114,110,83,116,109,116]⟩,some 1),
 (⟨#[83,116,97,114,69,120,112,114]⟩,some 1),
 (⟨#[83,101,108,101,99,116,83,116,109,116]⟩,some 1),
 (⟨#[71,111,83,116,109,116]⟩,some 1),
 (⟨#[83,116,114,117,99,116,84,121,112,101]⟩,some 1),
 (⟨#[73,110,116,101,114,102,97,99,101,84,121,112,101]⟩,some 1),
 (⟨#[79,98,106,101,99,116]⟩,some 1),
 (⟨#[83,121,109,98,111,108]⟩,some 1),
 (⟨#[78,111,116]⟩,some 1),
 (⟨#[73,110,116,101,103,101,114,76,105,116,101,114,97,108]⟩,some 1),
 (⟨#[84,114,117,108,121,67,111,110,115,116,97,110,116,69,120,112,114,101,115,115,105,111,110]⟩,some 1),
 (⟨#[73,110,100,101,120,69,120,112,114]⟩,some 2),
 (⟨#[71,101,110,68,101,99,108]⟩,some 2),
 (⟨#[65,114,114,97,121,84,121,112,101]⟩,some 2),
 (⟨#[77,97,112,84,121,112,101]⟩,some 2),
 (⟨#[85,110,97,114,121,69,120,112,114]⟩,some 2),
 (⟨#[83,101,110,100,83,116,109,116]⟩,some 2),
 (⟨#[73,109,112,111,114,116,83,112,101,99]⟩,some 2),
 (⟨#[83,101,108,101,99,116,111,114,69,120,112,114]⟩,some 2),
 (⟨#[75,101,121,86,97,108,117,101,69,120,112,114]⟩,some 2),
 (⟨#[70,117,110,99,84,121,112,101]⟩,some 2),
 (⟨#[70,117,110,99,76,105,116]⟩,some 2),
 (⟨#[67,104,97,110,84,121,112,101]⟩,some 2),
 (⟨#[67,97,108,108,69,120,112,114]⟩,some 2),
 (⟨#[67,97,115,101,67,108,97,117,115,101]⟩,some 2),
 (⟨#[67,111,109,109,67,108,97,117,115,101]⟩,some 2),
 (⟨#[67,111,109,112,111,115,105,116,101,76,105,116]⟩,some 2),
 (⟨#[84,121,112,101,65,115,115,101,114,116,69,120,112,114]⟩,some 2),
 (⟨#[84,121,112,101,83,112,101,99]⟩,some 2),
 (⟨#[66,114,97,110,99,104,83,116,109,116]⟩,some 2),
 (⟨#[73,110,99,68,101,99,83,116,109,116]⟩,some 2),
 (⟨#[66,97,115,105,99,76,105,116]⟩,some 2),
 (⟨#[65,115,115,105,103,110,83,116,109,116]⟩,some 3),
 (⟨#[86,97,108,117,101,83,112,101,99]⟩,some 3),
 (⟨#[66,105,110,97,114,121,69,120,112,114]⟩,some 3),
 (⟨#[70,105,101,108,100]⟩,some 3),
 (⟨#[83,119,105,116,99,104,83,116,109,116]⟩,some 3),
 (⟨#[84,121,112,101,83,119,105,116,99,104,83,116,109,116]⟩,some 3),
 (⟨#[70,111,114,83,116,109,116]⟩,some 4),
 (⟨#[83,108,105,99,101,69,120,112,114]⟩,some 4),
 (⟨#[73,102,83,116,109,116]⟩,some 4),
 (⟨#[70,117,110,99,68,101,99,108]⟩,some 4),
 (⟨#[82,97,110,103,101,83,116,109,116]⟩,some 5)]
def structNodes (k : ByteArray) : Option Nat:=sw k structNodesT none
def structV (n : Option Nat) : Value:=.tuple #[.int .i64 ((n.getD 0 : Nat) : Int),.bool n.isSome]
theorem structNodes_run (k : ByteArray) (w : World) : callK Tryz.prog Tryz.f93 #[.string k] w=sw k (structNodesT.map fun x=>(x.1,some (structV x.2,w))) (some (structV none,w)):=by kernel_rfl
theorem structNodes_calls (k : ByteArray) (w : World) : Calls Tryz.prog 93 #[.string k] w fun e w'=>e=.returned (structV (structNodes k)) /\ w=w' :=
 callK_sound Tryz.func93 ((structNodes_run k w).trans (sw_map (fun x=>some (structV x,w)) k structNodesT none))
def typeInfoT : List (ByteArray × Bool):=[(⟨#[83,121,109,98,111,108]⟩,true),
 (⟨#[66,117,105,108,116,105,110]⟩,true),
 (⟨#[79,98,106,101,99,116]⟩,true),
 (⟨#[73,110,116,101,103,101,114,76,105,116,101,114,97,108]⟩,true),
 (⟨#[84,114,117,108,121,67,111,110,115,116,97,110,116,69,120,112,114,101,115,115,105,111,110]⟩,true)]
def typeInfo (k : ByteArray) : Bool:=sw k typeInfoT false
theorem typeInfo_run (k : ByteArray) (w : World) : callK Tryz.prog Tryz.f162 #[.string k] w=sw k (typeInfoT.map fun x=>(x.1,some (Value.bool x.2,w))) (some (Value.bool false,w)):=by kernel_rfl
theorem typeInfo_calls (k : ByteArray) (w : World) : Calls Tryz.prog 162 #[.string k] w fun e w'=>e=.returned (.bool (typeInfo k)) /\ w=w' :=
 callK_sound Tryz.func162 ((typeInfo_run k w).trans (sw_map (fun x=>some (Value.bool x,w)) k typeInfoT false))
end Go.Proofs.YtigalkobmfbdaaaGreatDoor
