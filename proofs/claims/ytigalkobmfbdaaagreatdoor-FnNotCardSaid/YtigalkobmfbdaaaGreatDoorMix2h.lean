/- More functions that are one switch over a text, as tables, with their contracts. No conditions. -/
import Derived.Test.YtigalkobmfbdaaaGreatDoorTabZ2
import Derived.Test.YtigalkobmfbdaaaGreatDoorLex2Z2
import Derived.Maps.AppendAt
import Derived.Test.YtigalkobmfbdaaaGreatDoorSpec1Z2
import Derived.Test.YtigalkobmfbdaaaGreatDoorMix2a
namespace Go.Proofs.YtigalkobmfbdaaaGreatDoor
open Go.RowKit
def iaskedT : List (ByteArray × ByteArray):=[(⟨#[70,105,101,108,100]⟩,⟨#[91,93,73,100,101,110,116,32,101,120,112,114,32,42,66,97,115,105,99,76,105,116]⟩),
 (⟨#[70,105,101,108,100,76,105,115,116]⟩,⟨#[91,93,70,105,101,108,100]⟩),
 (⟨#[73,100,101,110,116]⟩,⟨#[115,116,114,105,110,103]⟩),
 (⟨#[69,108,108,105,112,115,105,115]⟩,⟨#[101,120,112,114]⟩),
 (⟨#[66,97,115,105,99,76,105,116]⟩,⟨#[84,111,107,101,110,32,115,116,114,105,110,103]⟩),
 (⟨#[70,117,110,99,76,105,116]⟩,⟨#[42,70,117,110,99,84,121,112,101,32,42,66,108,111,99,107,83,116,109,116]⟩),
 (⟨#[67,111,109,112,111,115,105,116,101,76,105,116]⟩,⟨#[101,120,112,114,32,91,93,69,120,112,114,32,98,111,111,108]⟩),
 (⟨#[80,97,114,101,110,69,120,112,114]⟩,⟨#[101,120,112,114]⟩),
 (⟨#[83,101,108,101,99,116,111,114,69,120,112,114]⟩,⟨#[101,120,112,114,32,42,73,100,101,110,116]⟩),
 (⟨#[73,110,100,101,120,69,120,112,114]⟩,⟨#[101,120,112,114,32,101,120,112,114]⟩),
 (⟨#[73,110,100,101,120,76,105,115,116,69,120,112,114]⟩,⟨#[101,120,112,114,32,91,93,69,120,112,114]⟩),
 (⟨#[83,108,105,99,101,69,120,112,114]⟩,⟨#[101,120,112,114,32,101,120,112,114,32,101,120,112,114,32,101,120,112,114,32,98,111,111,108]⟩),
 (⟨#[84,121,112,101,65,115,115,101,114,116,69,120,112,114]⟩,⟨#[101,120,112,114,32,101,120,112,114]⟩),
 (⟨#[67,97,108,108,69,120,112,114]⟩,⟨#[101,120,112,114,32,91,93,69,120,112,114]⟩),
 (⟨#[83,116,97,114,69,120,112,114]⟩,⟨#[101,120,112,114]⟩),
 (⟨#[85,110,97,114,121,69,120,112,114]⟩,⟨#[84,111,107,101,110,32,101,120,112,114]⟩),
 (⟨#[66,105,110,97,114,121,69,120,112,114]⟩,⟨#[101,120,112,114,32,84,111,107,101,110,32,101,120,112,114]⟩),
 (⟨#[75,101,121,86,97,108,117,101,69,120,112,114]⟩,⟨#[101,120,112,114,32,101,120,112,114]⟩),
 (⟨#[65,114,114,97,121,84,121,112,101]⟩,⟨#[101,120,112,114,32,101,120,112,114]⟩),
 (⟨#[83,116,114,117,99,116,84,121,112,101]⟩,⟨#[42,70,105,101,108,100,76,105,115,116,32,98,111,111,108]⟩),
 (⟨#[70,117,110,99,84,121,112,101]⟩,⟨#[42,70,105,101,108,100,76,105,115,116,32,42,70,105,101,108,100,76,105,115,116,32,42,70,105,101,108,100,76,105,115,116]⟩),
 (⟨#[73,110,116,101,114,102,97,99,101,84,121,112,101]⟩,⟨#[42,70,105,101,108,100,76,105,115,116,32,98,111,111,108]⟩),
 (⟨#[77,97,112,84,121,112,101]⟩,⟨#[101,120,112,114,32,101,120,112,114]⟩),
 (⟨#[67,104,97,110,84,121,112,101]⟩,⟨#[67,104,97,110,68,105,114,32,101,120,112,114]⟩),
 (⟨#[68,101,99,108,83,116,109,116]⟩,⟨#[71,101,110,68,101,99,108]⟩),
 (⟨#[69,109,112,116,121,83,116,109,116]⟩,⟨#[98,111,111,108]⟩),
 (⟨#[76,97,98,101,108,101,100,83,116,109,116]⟩,⟨#[42,73,100,101,110,116,32,115,116,109,116]⟩),
 (⟨#[69,120,112,114,83,116,109,116]⟩,⟨#[101,120,112,114]⟩),
 (⟨#[83,101,110,100,83,116,109,116]⟩,⟨#[101,120,112,114,32,101,120,112,114]⟩),
 (⟨#[73,110,99,68,101,99,83,116,109,116]⟩,⟨#[101,120,112,114,32,84,111,107,101,110]⟩),
 (⟨#[65,115,115,105,103,110,83,116,109,116]⟩,⟨#[91,93,69,120,112,114,32,84,111,107,101,110,32,91,93,69,120,112,114]⟩),
 (⟨#[71,111,83,116,109,116]⟩,⟨#[42,67,97,108,108,69,120,112,114]⟩),
 (⟨#[68,101,102,101,114,83,116,109,116]⟩,⟨#[42,67,97,108,108,69,120,112,114]⟩),
 (⟨#[82,101,116,117,114,110,83,116,109,116]⟩,⟨#[91,93,69,120,112,114]⟩),
 (⟨#[66,114,97,110,99,104,83,116,109,116]⟩,⟨#[84,111,107,101,110,32,42,73,100,101,110,116]⟩),
 (⟨#[66,108,111,99,107,83,116,109,116]⟩,⟨#[91,93,83,116,109,116]⟩),
 (⟨#[73,102,83,116,109,116]⟩,⟨#[115,116,109,116,32,101,120,112,114,32,42,66,108,111,99,107,83,116,109,116,32,115,116,109,116]⟩),
 (⟨#[67,97,115,101,67,108,97,117,115,101]⟩,⟨#[91,93,69,120,112,114,32,91,93,83,116,109,116]⟩),
 (⟨#[83,119,105,116,99,104,83,116,109,116]⟩,⟨#[115,116,109,116,32,101,120,112,114,32,42,66,108,111,99,107,83,116,109,116]⟩),
 (⟨#[84,121,112,101,83,119,105,116,99,104,83,116,109,116]⟩,⟨#[115,116,109,116,32,115,116,109,116,32,42,66,108,111,99,107,83,116,109,116]⟩),
 (⟨#[67,111,109,109,67,108,97,117,115,101]⟩,⟨#[115,116,109,116,32,91,93,83,116,109,116]⟩),
 (⟨#[83,101,108,101,99,116,83,116,109,116]⟩,⟨#[42,66,108,111,99,107,83,116,109,116]⟩),
 (⟨#[70,111,114,83,116,109,116]⟩,⟨#[115,116,109,116,32,101,120,112,114,32,115,116,109,116,32,42,66,108,111,99,107,83,116,109,116]⟩),
 (⟨#[82,97,110,103,101,83,116,109,116]⟩,⟨#[101,120,112,114,32,101,120,112,114,32,84,111,107,101,110,32,101,120,112,114,32,42,66,108,111,99,107,83,116,109,116]⟩),
 (⟨#[73,109,112,111,114,116,83,112,101,99]⟩,⟨#[42,73,100,101,110,116,32,42,66,97,115,105,99,76,105,116]⟩),
 (⟨#[86,97,108,117,101,83,112,101,99]⟩,⟨#[91,93,73,100,101,110,116,32,101,120,112,114,32,91,93,69,120,112,114]⟩),
 (⟨#[84,121,112,101,83,112,101,99]⟩,⟨#[42,73,100,101,110,116,32,42,70,105,101,108,100,76,105,115,116,32,101,120,112,114]⟩),
 (⟨#[71,101,110,68,101,99,108]⟩,⟨#[84,111,107,101,110,32,91,93,83,112,101,99]⟩),
 (⟨#[70,117,110,99,68,101,99,108]⟩,⟨#[42,70,105,101,108,100,76,105,115,116,32,42,73,100,101,110,116,32,42,70,117,110,99,84,121,112,101,32,42,66,108,111,99,107,83,116,109,116]⟩)]
def iasked (k : ByteArray) : ByteArray:=sw k iaskedT ⟨#[]⟩
theorem iasked_run (k : ByteArray) (w : World) : callK Tryz.prog Tryz.f63 #[.string k] w=sw k (iaskedT.map fun x=>(x.1,some (Value.string x.2,w))) (some (Value.string ⟨#[]⟩,w)):=by kernel_rfl
theorem iasked_calls (k : ByteArray) (w : World) : Calls Tryz.prog 63 #[.string k] w fun e w'=>e=.returned (.string (iasked k)) /\ w=w' :=
 callK_sound Tryz.func63 ((iasked_run k w).trans (sw_map (fun x=>some (Value.string x,w)) k iaskedT ⟨#[]⟩))
def zfieldsT : List (ByteArray × List ByteArray):=[(⟨#[70,105,101,108,100]⟩,[⟨#[78,97,109,101,115]⟩,⟨#[84,121,112,101]⟩,⟨#[84,97,103]⟩]),
 (⟨#[70,105,101,108,100,76,105,115,116]⟩,[⟨#[76,105,115,116]⟩]),
 (⟨#[73,100,101,110,116]⟩,[⟨#[78,97,109,101]⟩]),
 (⟨#[69,108,108,105,112,115,105,115]⟩,[⟨#[69,108,116]⟩]),
 (⟨#[66,97,115,105,99,76,105,116]⟩,[⟨#[75,105,110,100]⟩,⟨#[86,97,108,117,101]⟩]),
 (⟨#[70,117,110,99,76,105,116]⟩,[⟨#[84,121,112,101]⟩,⟨#[66,111,100,121]⟩]),
 (⟨#[67,111,109,112,111,115,105,116,101,76,105,116]⟩,[⟨#[84,121,112,101]⟩,⟨#[69,108,116,115]⟩,⟨#[73,110,99,111,109,112,108,101,116,101]⟩]),
 (⟨#[80,97,114,101,110,69,120,112,114]⟩,[⟨#[88]⟩]),
 (⟨#[83,101,108,101,99,116,111,114,69,120,112,114]⟩,[⟨#[88]⟩,⟨#[83,101,108]⟩]),
 (⟨#[73,110,100,101,120,69,120,112,114]⟩,[⟨#[88]⟩,⟨#[73,110,100,101,120]⟩]),
 (⟨#[73,110,100,101,120,76,105,115,116,69,120,112,114]⟩,[⟨#[88]⟩,⟨#[73,110,100,105,99,101,115]⟩]),
 (⟨#[83,108,105,99,101,69,120,112,114]⟩,[⟨#[88]⟩,⟨#[76,111,119]⟩,⟨#[72,105,103,104]⟩,⟨#[77,97,120]⟩,⟨#[83,108,105,99,101,51]⟩]),
 (⟨#[84,121,112,101,65,115,115,101,114,116,69,120,112,114]⟩,[⟨#[88]⟩,⟨#[84,121,112,101]⟩]),
 (⟨#[67,97,108,108,69,120,112,114]⟩,[⟨#[70,117,110]⟩,⟨#[65,114,103,115]⟩]),
 (⟨#[83,116,97,114,69,120,112,114]⟩,[⟨#[88]⟩]),
 (⟨#[85,110,97,114,121,69,120,112,114]⟩,[⟨#[79,112]⟩,⟨#[88]⟩]),
 (⟨#[66,105,110,97,114,121,69,120,112,114]⟩,[⟨#[88]⟩,⟨#[79,112]⟩,⟨#[89]⟩]),
 (⟨#[75,101,121,86,97,108,117,101,69,120,112,114]⟩,[⟨#[75,101,121]⟩,⟨#[86,97,108,117,101]⟩]),
 (⟨#[65,114,114,97,121,84,121,112,101]⟩,[⟨#[76,101,110]⟩,⟨#[69,108,116]⟩]),
 (⟨#[83,116,114,117,99,116,84,121,112,101]⟩,[⟨#[70,105,101,108,100,115]⟩,⟨#[73,110,99,111,109,112,108,101,116,101]⟩]),
 (⟨#[70,117,110,99,84,121,112,101]⟩,[⟨#[84,121,112,101,80,97,114,97,109,115]⟩,⟨#[80,97,114,97,109,115]⟩,⟨#[82,101,115,117,108,116,115]⟩]),
 (⟨#[73,110,116,101,114,102,97,99,101,84,121,112,101]⟩,[⟨#[77,101,116,104,111,100,115]⟩,⟨#[73,110,99,111,109,112,108,101,116,101]⟩]),
 (⟨#[77,97,112,84,121,112,101]⟩,[⟨#[75,101,121]⟩,⟨#[86,97,108,117,101]⟩]),
 (⟨#[67,104,97,110,84,121,112,101]⟩,[⟨#[68,105,114]⟩,⟨#[86,97,108,117,101]⟩]),
 (⟨#[68,101,99,108,83,116,109,116]⟩,[⟨#[68,101,99,108]⟩]),
 (⟨#[69,109,112,116,121,83,116,109,116]⟩,[⟨#[73,109,112,108,105,99,105,116]⟩]),
 (⟨#[76,97,98,101,108,101,100,83,116,109,116]⟩,[⟨#[76,97,98,101,108]⟩,⟨#[83,116,109,116]⟩]),
 (⟨#[69,120,112,114,83,116,109,116]⟩,[⟨#[88]⟩]),
 (⟨#[83,101,110,100,83,116,109,116]⟩,[⟨#[67,104,97,110]⟩,⟨#[86,97,108,117,101]⟩]),
 (⟨#[73,110,99,68,101,99,83,116,109,116]⟩,[⟨#[88]⟩,⟨#[84,111,107]⟩]),
 (⟨#[65,115,115,105,103,110,83,116,109,116]⟩,[⟨#[76,104,115]⟩,⟨#[84,111,107]⟩,⟨#[82,104,115]⟩]),
 (⟨#[71,111,83,116,109,116]⟩,[⟨#[67,97,108,108]⟩]),
 (⟨#[68,101,102,101,114,83,116,109,116]⟩,[⟨#[67,97,108,108]⟩]),
 (⟨#[82,101,116,117,114,110,83,116,109,116]⟩,[⟨#[82,101,115,117,108,116,115]⟩]),
 (⟨#[66,114,97,110,99,104,83,116,109,116]⟩,[⟨#[84,111,107]⟩,⟨#[76,97,98,101,108]⟩]),
 (⟨#[66,108,111,99,107,83,116,109,116]⟩,[⟨#[76,105,115,116]⟩]),
 (⟨#[73,102,83,116,109,116]⟩,[⟨#[73,110,105,116]⟩,⟨#[67,111,110,100]⟩,⟨#[66,111,100,121]⟩,⟨#[69,108,115,101]⟩]),
 (⟨#[67,97,115,101,67,108,97,117,115,101]⟩,[⟨#[76,105,115,116]⟩,⟨#[66,111,100,121]⟩]),
 (⟨#[83,119,105,116,99,104,83,116,109,116]⟩,[⟨#[73,110,105,116]⟩,⟨#[84,97,103]⟩,⟨#[66,111,100,121]⟩]),
 (⟨#[84,121,112,101,83,119,105,116,99,104,83,116,109,116]⟩,[⟨#[73,110,105,116]⟩,⟨#[65,115,115,105,103,110]⟩,⟨#[66,111,100,121]⟩]),
 (⟨#[67,111,109,109,67,108,97,117,115,101]⟩,[⟨#[67,111,109,109]⟩,⟨#[66,111,100,121]⟩]),
 (⟨#[83,101,108,101,99,116,83,116,109,116]⟩,[⟨#[66,111,100,121]⟩]),
 (⟨#[70,111,114,83,116,109,116]⟩,[⟨#[73,110,105,116]⟩,⟨#[67,111,110,100]⟩,⟨#[80,111,115,116]⟩,⟨#[66,111,100,121]⟩]),
 (⟨#[82,97,110,103,101,83,116,109,116]⟩,[⟨#[75,101,121]⟩,⟨#[86,97,108,117,101]⟩,⟨#[84,111,107]⟩,⟨#[88]⟩,⟨#[66,111,100,121]⟩]),
 (⟨#[73,109,112,111,114,116,83,112,101,99]⟩,[⟨#[78,97,109,101]⟩,⟨#[80,97,116,104]⟩]),
 (⟨#[86,97,108,117,101,83,112,101,99]⟩,[⟨#[78,97,109,101,115]⟩,⟨#[84,121,112,101]⟩,⟨#[86,97,108,117,101,115]⟩]),
 (⟨#[84,121,112,101,83,112,101,99]⟩,[⟨#[78,97,109,101]⟩,⟨#[84,121,112,101,80,97,114,97,109,115]⟩,⟨#[84,121,112,101]⟩]),
 (⟨#[71,101,110,68,101,99,108]⟩,[⟨#[84,111,107]⟩,⟨#[83,112,101,99,115]⟩]),
 (⟨#[70,117,110,99,68,101,99,108]⟩,[⟨#[82,101,99,118]⟩,⟨#[78,97,109,101]⟩,⟨#[84,121,112,101]⟩,⟨#[66,111,100,121]⟩])]
def zfields (k : ByteArray) : List ByteArray:=sw k zfieldsT []
theorem zfields_run (k : ByteArray) (w : World) : callK Tryz.prog Tryz.f145 #[.string k] w=sw k (zfieldsT.map fun x=>(x.1,some (strsV w x.2))) (some (strsV w [])):=by kernel_rfl
theorem zfields_calls (k : ByteArray) (w : World) : AnswersStrs 145 #[.string k] w (zfields k) :=
 answersStrs_of_run Tryz.func145 ((zfields_run k w).trans (sw_map (fun x=>some (strsV w x)) k zfieldsT []))
def pfieldsT : List (ByteArray × List ByteArray):=[(⟨#[69,108,108,105,112,115,105,115]⟩,[⟨#[69,108,116]⟩]),
 (⟨#[82,97,110,103,101,83,116,109,116]⟩,[⟨#[75,101,121]⟩,⟨#[86,97,108,117,101]⟩,⟨#[84,111,107]⟩,⟨#[88]⟩,⟨#[66,111,100,121]⟩]),
 (⟨#[65,115,115,105,103,110,83,116,109,116]⟩,[⟨#[76,104,115]⟩,⟨#[84,111,107]⟩,⟨#[82,104,115]⟩]),
 (⟨#[73,110,100,101,120,69,120,112,114]⟩,[⟨#[88]⟩,⟨#[73,110,100,101,120]⟩]),
 (⟨#[73,100,101,110,116]⟩,[⟨#[78,97,109,101]⟩]),
 (⟨#[86,97,108,117,101,83,112,101,99]⟩,[⟨#[78,97,109,101,115]⟩,⟨#[84,121,112,101]⟩,⟨#[86,97,108,117,101,115]⟩]),
 (⟨#[71,101,110,68,101,99,108]⟩,[⟨#[84,111,107]⟩,⟨#[83,112,101,99,115]⟩]),
 (⟨#[66,105,110,97,114,121,69,120,112,114]⟩,[⟨#[88]⟩,⟨#[79,112]⟩,⟨#[89]⟩]),
 (⟨#[70,111,114,83,116,109,116]⟩,[⟨#[73,110,105,116]⟩,⟨#[67,111,110,100]⟩,⟨#[80,111,115,116]⟩,⟨#[66,111,100,121]⟩]),
 (⟨#[65,114,114,97,121,84,121,112,101]⟩,[⟨#[76,101,110]⟩,⟨#[69,108,116]⟩]),
 (⟨#[68,101,102,101,114,83,116,109,116]⟩,[⟨#[67,97,108,108]⟩]),
 (⟨#[77,97,112,84,121,112,101]⟩,[⟨#[75,101,121]⟩,⟨#[86,97,108,117,101]⟩]),
 (⟨#[82,101,116,117,114,110,83,116,109,116]⟩,[⟨#[82,101,115,117,108,116,115]⟩]),
 (⟨#[83,108,105,99,101,69,120,112,114]⟩,[⟨#[88]⟩,⟨#[76,111,119]⟩,⟨#[72,105,103,104]⟩,⟨#[77,97,120]⟩]),
 (⟨#[83,116,97,114,69,120,112,114]⟩,[⟨#[88]⟩]),
 (⟨#[85,110,97,114,121,69,120,112,114]⟩,[⟨#[79,112]⟩,⟨#[88]⟩]),
 (⟨#[83,101,110,100,83,116,109,116]⟩,[⟨#[67,104,97,110]⟩,⟨#[86,97,108,117,101]⟩]),
 (⟨#[83,101,108,101,99,116,83,116,109,116]⟩,[⟨#[66,111,100,121]⟩]),
 (⟨#[73,109,112,111,114,116,83,112,101,99]⟩,[⟨#[78,97,109,101]⟩,⟨#[80,97,116,104]⟩]),
 (⟨#[73,102,83,116,109,116]⟩,[⟨#[73,110,105,116]⟩,⟨#[67,111,110,100]⟩,⟨#[66,111,100,121]⟩,⟨#[69,108,115,101]⟩]),
 (⟨#[71,111,83,116,109,116]⟩,[⟨#[67,97,108,108]⟩]),
 (⟨#[70,105,101,108,100]⟩,[⟨#[78,97,109,101,115]⟩,⟨#[84,121,112,101]⟩,⟨#[84,97,103]⟩]),
 (⟨#[83,101,108,101,99,116,111,114,69,120,112,114]⟩,[⟨#[88]⟩,⟨#[83,101,108]⟩]),
 (⟨#[83,116,114,117,99,116,84,121,112,101]⟩,[⟨#[70,105,101,108,100,115]⟩]),
 (⟨#[75,101,121,86,97,108,117,101,69,120,112,114]⟩,[⟨#[75,101,121]⟩,⟨#[86,97,108,117,101]⟩]),
 (⟨#[70,117,110,99,84,121,112,101]⟩,[⟨#[80,97,114,97,109,115]⟩,⟨#[82,101,115,117,108,116,115]⟩]),
 (⟨#[70,117,110,99,76,105,116]⟩,[⟨#[84,121,112,101]⟩,⟨#[66,111,100,121]⟩]),
 (⟨#[70,117,110,99,68,101,99,108]⟩,[⟨#[82,101,99,118]⟩,⟨#[78,97,109,101]⟩,⟨#[84,121,112,101]⟩,⟨#[66,111,100,121]⟩]),
 (⟨#[67,104,97,110,84,121,112,101]⟩,[⟨#[68,105,114]⟩,⟨#[86,97,108,117,101]⟩]),
 (⟨#[67,97,108,108,69,120,112,114]⟩,[⟨#[70,117,110]⟩,⟨#[65,114,103,115]⟩]),
 (⟨#[67,97,115,101,67,108,97,117,115,101]⟩,[⟨#[76,105,115,116]⟩,⟨#[66,111,100,121]⟩]),
 (⟨#[67,111,109,109,67,108,97,117,115,101]⟩,[⟨#[67,111,109,109]⟩,⟨#[66,111,100,121]⟩]),
 (⟨#[67,111,109,112,111,115,105,116,101,76,105,116]⟩,[⟨#[84,121,112,101]⟩,⟨#[69,108,116,115]⟩]),
 (⟨#[83,119,105,116,99,104,83,116,109,116]⟩,[⟨#[73,110,105,116]⟩,⟨#[84,97,103]⟩,⟨#[66,111,100,121]⟩]),
 (⟨#[84,121,112,101,83,119,105,116,99,104,83,116,109,116]⟩,[⟨#[73,110,105,116]⟩,⟨#[65,115,115,105,103,110]⟩,⟨#[66,111,100,121]⟩]),
 (⟨#[84,121,112,101,65,115,115,101,114,116,69,120,112,114]⟩,[⟨#[88]⟩,⟨#[84,121,112,101]⟩]),
 (⟨#[84,121,112,101,83,112,101,99]⟩,[⟨#[78,97,109,101]⟩,⟨#[84,121,112,101]⟩]),
 (⟨#[73,110,116,101,114,102,97,99,101,84,121,112,101]⟩,[⟨#[77,101,116,104,111,100,115]⟩]),
 (⟨#[66,114,97,110,99,104,83,116,109,116]⟩,[⟨#[84,111,107]⟩,⟨#[76,97,98,101,108]⟩]),
 (⟨#[73,110,99,68,101,99,83,116,109,116]⟩,[⟨#[88]⟩,⟨#[84,111,107]⟩]),
 (⟨#[66,97,115,105,99,76,105,116]⟩,[⟨#[75,105,110,100]⟩,⟨#[86,97,108,117,101]⟩])]
def pfields (k : ByteArray) : List ByteArray:=sw k pfieldsT []
theorem pfields_run (k : ByteArray) (w : World) : callK Tryz.prog Tryz.f146 #[.string k] w=sw k (pfieldsT.map fun x=>(x.1,some (strsV w x.2))) (some (strsV w [])):=by kernel_rfl
end Go.Proofs.YtigalkobmfbdaaaGreatDoor
set_option maxRecDepth 100000
set_option maxHeartbeats 4000000
namespace Go.Proofs.YtigalkobmfbdaaaGreatDoor
open Go.RowKit
theorem inf9 : (Tryz.prog.info? 9).map (fun i=>(i.zero,i.size,i.bytes))=some (some (.string ⟨#[]⟩),1,16):=by kernel_rfl
theorem und31 : Tryz.prog.underlying 31=some (.slice 9):=by kernel_rfl
def wordsM (s : ByteArray) : Nat -> Nat -> Nat -> List ByteArray
 | 0,_,_=>[]
 | f + 1,i,fr =>
  if h : i < s.size then
   (if s[i] == 32 then (if fr < i then s.extract fr i :: wordsM s f (i + 1) (i + 1) else wordsM s f (i + 1) (i + 1)) else wordsM s f (i + 1) fr)
  else if fr < i then [s.extract fr i] else []
def words (s : ByteArray) : List ByteArray:=wordsM s (s.size + 1) 0 0
theorem wordsM_lt (s : ByteArray) (f i fr : Nat) (h : i < s.size) : wordsM s (f + 1) i fr=(if s[i] == 32 then (if fr < i then s.extract fr i :: wordsM s f (i + 1) (i + 1) else wordsM s f (i + 1) (i + 1)) else wordsM s f (i + 1) fr):=by
 rw [wordsM,dif_pos h]
theorem wordsM_end (s : ByteArray) (f : Nat) (fr : Nat) : wordsM s (f + 1) s.size fr=if fr < s.size then [s.extract fr s.size] else []:=by
 rw [wordsM,dif_neg (Nat.lt_irrefl _)]
def rowS (l : List ByteArray) : List Value:=l.map Value.string
theorem rowS_snoc (l : List ByteArray) (x : ByteArray) : rowS l ++ [.string x]=rowS (l ++ [x]):=by simp [rowS]
theorem strs_of_row {w : World} {B : Nat} {v : Value} {l : List ByteArray} {n : Nat} (h : w.ownsRow B 9 1 v n (rowS l)) (hn : n=l.length) : ∃ a c,v=.slice a l.length c /\ l.length <= c /\ StrsAt w a l /\ ∀ b o,a=some ⟨b,o,none⟩ -> B <= b:=by
 subst hn
 rcases h.2 with ⟨rfl,hn⟩ | ⟨g,cap,cur,rfl,hg,hgg,hnc,-⟩
 ·have : l=[]:=List.eq_nil_of_length_eq_zero hn
  subst this
  exact ⟨none,0,rfl,Nat.le_refl _,StrsAt.nil _ _,fun b o e=>by cases e⟩
 ·refine ⟨_,cap,rfl,hnc,fun j hj=>⟨g,0,rfl,(Array.getElem?_eq_some_iff.1 hgg).1,?_⟩,fun b o e=>by
   obtain ⟨rfl,-⟩ : g=b /\ 0=o:=by simpa using e
   exact hg⟩
  have:=h.cells (g:=g) rfl j (.string l[j]) (by unfold rowS;rw [List.getElem?_map,List.getElem?_eq_getElem hj];rfl)
  have hadd : (⟨g,0,none⟩ : Addr).add j=⟨g,0 + j,none⟩:=by unfold Addr.add;split <;> simp_all
  rw [hadd] at this
  exact this
theorem words_calls (s : ByteArray) (hs : s.size <= 1000) (w : World) : Calls Tryz.prog 80 #[.string s] w fun e w'=>(∃ a c,e=.returned (.slice a (words s).length c) /\ (words s).length <= c /\ StrsAt w' a (words s) /\ ∀ b o,a=some ⟨b,o,none⟩ -> w.heap.size <= b) /\ Ext w w':=by
 obtain ⟨i0,hi,hz0,hz1,hz2⟩:=info_parts inf9
 go_enter Tryz.func80,Tryz.ntmps80
 go_wp2_with fail
 go_loopw [3,4,5] (fun v fv iv wr=>∃ (i fr : Nat) (done : List ByteArray),iv=.int .i64 i /\ fv=.int .i64 fr /\ fr <= i /\ i <= s.size + 1 /\ done.length <= i /\ Hid (done ++ wordsM s (s.size + 1 - i) i fr=words s) /\ wr.ownsRow w.heap.size 9 1 v done.length (rowS done) /\ Ext w wr) (fun _ _ iv _=>s.size + 1 - (intOf iv).toNat)
 case atStart=>exact ⟨0,0,[],rfl,rfl,Nat.le_refl _,Nat.zero_le _,Nat.zero_le _,Lib.hid rfl,World.ownsRow_nil _ _ _ _,Ext.refl _⟩
 case round =>
  obtain ⟨i,fr,done,rfl,rfl,hfi,hi1,hdl,hW,hO,hE⟩:=hrel
  have KO:=Lib.hid hO
  have KE:=Lib.hid hE
  have hws:=hE.size
  clear hO hE
  by_cases hle : i <= s.size
  ·by_cases heq : i=s.size
   ·subst heq
    have hw:=hW.out
    rw [show s.size + 1 - s.size=0 + 1 by omega,wordsM_end] at hw
    by_cases hfr : fr < s.size
    ·rw [if_pos hfr] at hw
     have HW:=Lib.hid hw
     clear hw hW
     go_wp2_with (first
      | (at_builtin;refine wpList_append_own_at _ rfl _ _ 31 rfl w.heap.size 9 i0 _ 1 16 und31 hi hz0 hz1 hz2 rfl (by decide) _ _ _ rfl (KO.out.alloc _) ⟨wr.heap.size,0,none⟩ 1 1 [.string (s.extract fr s.size)] rfl rfl (cell_one_new _ _ _) (by intro u hu;simp at hu;subst hu;rfl) (by unfold maxLen;omega) (by omega) (by simp;omega) ?_)
      | go_in)
     intro v' w2 hO2 hG hnil hloc
     have HF:=Lib.hid (And.intro hO2 ((KE.out.trans (Ext.alloc _ _)).grown hG (fun q hq=>(KO.out.lt q hq).1)))
     clear hO2 hG hnil hloc
     go_wp2_with fail
     refine ⟨⟨s.size + 1,s.size + 1,done ++ [s.extract fr s.size],by go_num,by go_num,Nat.le_refl _,by omega,by simp;omega,Lib.hid (by have h:=HW.out;simpa [wordsM] using h),?_,HF.out.2⟩,by simp [intOf]⟩
     rw [List.length_append,<- rowS_snoc]
     exact HF.out.1
    ·rw [if_neg hfr,List.append_nil] at hw
     have HW:=Lib.hid hw
     clear hw hW
     go_wp2_with fail
     exact ⟨⟨s.size + 1,s.size + 1,done,by go_num,by go_num,Nat.le_refl _,by omega,by omega,Lib.hid (by have h:=HW.out;simpa [wordsM] using h),KO.out,KE.out⟩,by simp [intOf]⟩
   ·have hlt : i < s.size:=by omega
    have hw:=hW.out
    rw [show s.size + 1 - i=(s.size + 1 - (i + 1)) + 1 by omega,wordsM_lt _ _ _ _ hlt] at hw
    have hne : ((i : Int) == (s.size : Int))=false:=by
     have : (i : Int) ≠ (s.size : Int):=by omega
     simp [this]
    clear heq
    cases hb : (s[i] == 32)
    ·have hbi : (((s[i].toNat : Nat) : Int) == 32)=false:=by
      have h1 : s[i] ≠ 32:=by simpa using hb
      have : s[i].toNat ≠ 32:=fun e=>h1 (UInt8.toNat_inj.1 e)
      have : ((s[i].toNat : Nat) : Int) ≠ 32:=by omega
      simp [this]
     rw [hb] at hw
     have HW:=Lib.hid hw
     clear hw hW hb
     go_wp2_with fail
     exact ⟨⟨i + 1,fr,done,by go_num,rfl,by omega,by omega,by omega,HW.out,KO.out,KE.out⟩,by simp [intOf];omega⟩
    ·have hbi : (((s[i].toNat : Nat) : Int) == 32)=true:=by
      rw [eq_of_beq hb];rfl
     rw [hb,if_pos rfl] at hw
     by_cases hfr : fr < i
     ·rw [if_pos hfr] at hw
      have HW:=Lib.hid hw
      clear hw hW hb
      go_wp2_with (first
       | (at_builtin;refine wpList_append_own_at _ rfl _ _ 31 rfl w.heap.size 9 i0 _ 1 16 und31 hi hz0 hz1 hz2 rfl (by decide) _ _ _ rfl (KO.out.alloc _) ⟨wr.heap.size,0,none⟩ 1 1 [.string (s.extract fr i)] rfl rfl (cell_one_new _ _ _) (by intro u hu;simp at hu;subst hu;rfl) (by unfold maxLen;omega) (by omega) (by simp;omega) ?_)
       | go_in)
      intro v' w2 hO2 hG hnil hloc
      have HF:=Lib.hid (And.intro hO2 ((KE.out.trans (Ext.alloc _ _)).grown hG (fun q hq=>(KO.out.lt q hq).1)))
      clear hO2 hG hnil hloc
      go_wp2_with fail
      refine ⟨⟨i + 1,i + 1,done ++ [s.extract fr i],by go_num,by go_num,Nat.le_refl _,by omega,by simp;omega,Lib.hid (by rw [List.append_assoc];exact HW.out),?_,HF.out.2⟩,by simp [intOf];omega⟩
      rw [List.length_append,<- rowS_snoc]
      exact HF.out.1
     ·rw [if_neg hfr] at hw
      have HW:=Lib.hid hw
      clear hw hW hb
      go_wp2_with fail
      exact ⟨⟨i + 1,i + 1,done,by go_num,by go_num,Nat.le_refl _,by omega,by omega,HW.out,KO.out,KE.out⟩,by simp [intOf];omega⟩
  ·obtain rfl : i=s.size + 1:=by omega
   have hw:=hW.out
   rw [Nat.sub_self,wordsM,List.append_nil] at hw
   have HW:=Lib.hid hw
   clear hw hW
   go_wp2_with fail
   go_ret
   obtain ⟨a,c,rfl,hc,hS,hfr⟩:=strs_of_row KO.out rfl
   rw [<- HW.out]
   exact ⟨⟨a,c,rfl,hc,hS,hfr⟩,KE.out⟩
end Go.Proofs.YtigalkobmfbdaaaGreatDoor
set_option maxRecDepth 100000
set_option maxHeartbeats 4000000
namespace Go.Proofs.YtigalkobmfbdaaaGreatDoor
open Go.RowKit
theorem any_mem {l : List ByteArray} {k : ByteArray} (h : (l.any fun y=>y.toList == k.toList)=true) : k ∈ l:=by
 rw [List.any_eq_true] at h
 obtain ⟨y,hy,e⟩:=h
 rw [<- toList_inj (eq_of_beq e)]
 exact hy
theorem iasked_ne : ∀ k ∈ expressions ++ statements,((iasked k).toList == [])=false:=by decide +kernel
def direct (k : ByteArray) : Bool:=k.toList == [73,100,101,110,116] || k.toList == [66,97,115,105,99,76,105,116] || k.toList == [67,111,109,112,111,115,105,116,101,76,105,116]
theorem expr_facts : ∀ k ∈ expressions,direct k=true \/ ((k.toList == [73,100,101,110,116])=false /\ (k.toList == [69,108,108,105,112,115,105,115])=false /\ (k.toList == [66,97,115,105,99,76,105,116])=false /\ (k.toList == [70,117,110,99,76,105,116])=false /\ (k.toList == [67,111,109,112,111,115,105,116,101,76,105,116])=false /\ (4 < k.size /\ k.size <= 40) /\ ((k.extract (k.size - 4) k.size).toList == [69,120,112,114])=true):=by decide +kernel
theorem stmt_facts : ∀ k ∈ statements,k=⟨#[67,97,115,101,67,108,97,117,115,101]⟩ \/ ((k.toList == [67,97,115,101,67,108,97,117,115,101])=false /\ (k.toList == [67,111,109,109,67,108,97,117,115,101])=false /\ (4 < k.size /\ k.size <= 40) /\ ((k.extract (k.size - 4) k.size).toList == [83,116,109,116])=true):=by decide +kernel
theorem is_expr {k : ByteArray} (hk : k ∈ expressions) (w : World) : Calls Tryz.prog 82 #[.string k,.string ⟨#[101,120,112,114]⟩] w fun e w'=>e=.returned (.bool true) /\ w=w':=by
 have hne:=iasked_ne k (List.mem_append_left _ hk)
 have HC:=Lib.hid (iasked_calls k w)
 rcases expr_facts k hk with hd | ⟨h1,h2,h3,h4,h5,h6,h7⟩
 ·clear hne HC
  unfold direct at hd
  rw [Bool.or_eq_true,Bool.or_eq_true] at hd
  rcases hd with (hd | hd) | hd
  all_goals
   obtain rfl:=beq_lit hd
   clear hd hk
   go_enter Tryz.func82,Tryz.ntmps82
   go_wp2_with fail
   go_ret
   exact ⟨rfl,rfl⟩
 ·obtain ⟨h6,h9⟩:=h6
  have h6' : (4 : Int) < (k.size : Int):=by omega
  have hw : wrap64 ((k.size : Int) - 4)=(k.size : Int) - 4:=by unfold wrap64;omega
  clear hk
  generalize iasked k=ik at *
  go_enter Tryz.func82,Tryz.ntmps82
  go_wp2_with fail
  refine HC.out.mono ?_
  rintro e w1 ⟨rfl,rfl⟩
  go_wp2_with fail
  go_ret
  exact ⟨rfl,rfl⟩
theorem is_stmt {k : ByteArray} (hk : k ∈ statements) (w : World) : Calls Tryz.prog 82 #[.string k,.string ⟨#[115,116,109,116]⟩] w fun e w'=>e=.returned (.bool true) /\ w=w':=by
 have hne:=iasked_ne k (List.mem_append_right _ hk)
 have HC:=Lib.hid (iasked_calls k w)
 rcases stmt_facts k hk with rfl | ⟨h1,h2,h6,h7⟩
 ·clear hne HC hk
  go_enter Tryz.func82,Tryz.ntmps82
  go_wp2_with fail
  go_ret
  exact ⟨rfl,rfl⟩
 ·obtain ⟨h6,h9⟩:=h6
  have h6' : (4 : Int) < (k.size : Int):=by omega
  have hw : wrap64 ((k.size : Int) - 4)=(k.size : Int) - 4:=by unfold wrap64;omega
  clear hk
  generalize iasked k=ik at *
  go_enter Tryz.func82,Tryz.ntmps82
  go_wp2_with fail
  refine HC.out.mono ?_
  rintro e w1 ⟨rfl,rfl⟩
  go_wp2_with fail
  go_ret
  exact ⟨rfl,rfl⟩
theorem is_same (k : ByteArray) (h1 : (k.toList == [101,120,112,114])=false) (h2 : (k.toList == [115,116,109,116])=false) (w : World) : Calls Tryz.prog 82 #[.string k,.string k] w fun e w'=>e=.returned (.bool true) /\ w=w':=by
 have h3:=beq_self_eq_true k.toList
 go_enter Tryz.func82,Tryz.ntmps82
 go_wp2_with fail
 go_ret
 exact ⟨rfl,rfl⟩
theorem elem_expr (w : World) : Calls Tryz.prog 81 #[.string ⟨#[91,93,69,120,112,114]⟩] w fun e w'=>e=.returned (.string ⟨#[101,120,112,114]⟩) /\ w=w':=by
 go_enter Tryz.func81,Tryz.ntmps81
 go_wp2_with fail
 go_ret
 exact ⟨rfl,rfl⟩
theorem elem_stmt (w : World) : Calls Tryz.prog 81 #[.string ⟨#[91,93,83,116,109,116]⟩] w fun e w'=>e=.returned (.string ⟨#[115,116,109,116]⟩) /\ w=w':=by
 go_enter Tryz.func81,Tryz.ntmps81
 go_wp2_with fail
 go_ret
 exact ⟨rfl,rfl⟩
def whatL (c : Int) : List UInt8 :=
 if c == 101 || c == 69 then [101,120,112,114] else if c == 115 || c == 83 then [115,116,109,116] else if c == 105 then [42,73,100,101,110,116] else if c == 99 then [42,67,97,108,108,69,120,112,114] else if c == 66 then [42,66,108,111,99,107,83,116,109,116]
 else if c == 108 then [91,93,69,120,112,114] else if c == 109 then [91,93,83,116,109,116] else if c == 116 then [84,111,107,101,110] else if c == 110 then [115,116,114,105,110,103] else [98,111,111,108]
def whatOf (c : Int) : ByteArray:=⟨(whatL c).toArray⟩
theorem words_asked : ∀ x ∈ askedT,words (iasked x.1)=x.2.toList.map (fun c=>whatOf c.toNat):=by decide +kernel
theorem iasked_small (k : ByteArray) : (iasked k).size <= 100:=by
 have h : ∀ x ∈ iaskedT,x.2.size <= 100:=by decide +kernel
 rcases sw_cases k iaskedT ⟨#[]⟩ with ⟨e,-⟩ | ⟨x,hx,-,e⟩
 ·have e' : iasked k=⟨#[]⟩:=e
  rw [e'];decide
 ·have e' : iasked k=x.2:=e
  rw [e'];exact h x hx
theorem words_of {k : ByteArray} (h : asked k ≠ ⟨#[]⟩) : words (iasked k)=(asked k).toList.map (fun c=>whatOf c.toNat):=by
 rcases sw_cases k askedT ⟨#[]⟩ with ⟨e,-⟩ | ⟨x,hx,hk,e⟩
 ·exact absurd e h
 ·have e' : asked k=x.2:=e
  rw [e',hk]
  exact words_asked x hx
end Go.Proofs.YtigalkobmfbdaaaGreatDoor
namespace Go.Proofs.YtigalkobmfbdaaaGreatDoor
open Go.RowKit
def pathB (c : UInt8) : Bool:=(97 <= c && c <= 122) || c == 47
def BoolRes (ok : Prop) (e : Ending) : Prop:=∃ b,e=.returned (.bool b) /\ (b=true -> ok)
def PathOK (s : ByteArray) : Prop:=s.toList.all pathB=true /\ 1 <= s.size /\ s.size <= 20 /\ ∀ h : 0 < s.size,nameB s[0]=true
def PathTo (s : ByteArray) (j : Nat) (c : UInt8) : Prop:=(s.toList.take j).all pathB=true /\ (j=0 -> c=47) /\ (0 < j -> ∀ h : 0 < s.size,nameB s[0]=true)
theorem PathTo.step {s : ByteArray} {j : Nat} {c : UInt8} (h : PathTo s j c) (hj : j < s.size) (hb : pathB s[j]=true) (h0 : j=0 -> nameB s[j]=true) : PathTo s (j + 1) s[j]:=by
 have hlt' : j < s.toList.length:=by rw [size_toList];exact hj
 refine ⟨by rw [all_take_succ _ _ _ hlt',h.1,get_toList s j hj,hb];rfl,by omega,fun _ hz=>?_⟩
 by_cases e : j=0
 ·subst e;exact h0 rfl
 ·exact h.2.2 (by omega) hz
theorem PathTo.ok {s : ByteArray} {c : UInt8} (h : PathTo s s.size c) (hc : c ≠ 47) (hz : s.size <= 20) : PathOK s:=by
 have h1 : 1 <= s.size:=by
  rcases Nat.eq_zero_or_pos s.size with e | e
  ·exact absurd (h.2.1 e) hc
  ·exact e
 exact ⟨by rw [<- take_size s];exact h.1,h1,hz,h.2.2 h1⟩
end Go.Proofs.YtigalkobmfbdaaaGreatDoor
