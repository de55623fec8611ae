/- The shelf's contracts of strings.Join and strings.Builder, laid at this program in plain declarations (by the kit's lay-shelf and lay-plain; WriteString's by hand, over Join's laying). -/
import Derived.Shelf.Strings.Builder1
import Derived.Shelf.Strings.OnBuilder
import Derived.Test.YtigalkobmfbdaaaGreatDoorProg
namespace Go.Proofs
open Go.Shelf
def Tryz.lays169_ren : Go.Shelf.Ren := ⟨fun | 169 => 219 | n => n, fun | 70 => 282 | 9 => 9 | 0 => 0 | 72 => 284 | 37 => 260 | 127 => 254 | 3 => 3 | 5 => 5 | n => n, fun | n => n⟩
theorem Tryz.lays169 : Go.Proofs.Lays.n169 Tryz.prog Tryz.lays169_ren := {
  mixed := by kernel_rfl
  f169 := Tryz.func219.trans (congrArg some (by kernel_rfl))
  t0 := Tryz.underlying0
  a0 := Tryz.isAgg0
  z0 := Tryz.sizeOf0
  v0 := Tryz.zeroValue0
  t3 := Tryz.underlying3
  a3 := Tryz.isAgg3
  z3 := Tryz.sizeOf3
  v3 := Tryz.zeroValue3
  t9 := Tryz.underlying9
  a9 := Tryz.isAgg9
  z9 := Tryz.sizeOf9
  v9 := Tryz.zeroValue9
  t37 := Tryz.underlying260
  a37 := Tryz.isAgg260
  z37 := Tryz.sizeOf260
  v37 := Tryz.zeroValue260
  t70 := Tryz.underlying282
  a70 := Tryz.isAgg282
  z70 := Tryz.sizeOf282
  v70 := Tryz.zeroValue282
  t72 := Tryz.underlying284
  a72 := Tryz.isAgg284
  z72 := Tryz.sizeOf284
  v72 := Tryz.zeroValue284
  t127 := Tryz.underlying254
  a127 := Tryz.isAgg254
  z127 := Tryz.sizeOf254
  v127 := Tryz.zeroValue254 }
theorem Tryz.Builder_Extra_169 : Builder.Extra Tryz.prog Tryz.lays169_ren := {
  sizeBuilder := by kernel_rfl
  liesBuilder := by kernel_rfl
  t5 := Tryz.underlying5
  a5 := Tryz.isAgg5
  z5 := Tryz.sizeOf5
  v5 := Tryz.zeroValue5
  infoByte := by kernel_rfl
  cellsByte := by kernel_rfl
  sizeByte := by kernel_rfl
  neB5 := by decide }
open Go.RowKit in
theorem Tryz.Builder_String (B b : Nat) (l : List UInt8) (w : World) (h : Lib.IsBuilder 284 5 B b (Lib.byteCells l) w) (h0 : l ≠ []) :
    Calls Tryz.prog 219 #[.pointer (some ⟨b, 0, none⟩)] w fun e w' => e = .returned (.string ⟨l.toArray⟩) ∧ Below B w w' := Any.Builder_String Tryz.lays169 Tryz.Builder_Extra_169 B b l w h h0
open Go.RowKit in
theorem Tryz.Builder_String_empty (B b : Nat) (w : World) (h : Lib.IsBuilder 284 5 B b [] w) (hBw : B ≤ w.heap.size) :
    Calls Tryz.prog 219 #[.pointer (some ⟨b, 0, none⟩)] w fun e w' => e = .returned (.string ⟨#[]⟩) ∧ Below B w w' := Any.Builder_String_empty Tryz.lays169 Tryz.Builder_Extra_169 B b w h hBw
open Go.RowKit in
theorem Tryz.Builder_String_any (B b : Nat) (l : List UInt8) (w : World) (h : Lib.IsBuilder 284 5 B b (Lib.byteCells l) w) (hBw : B ≤ w.heap.size) :
    Calls Tryz.prog 219 #[.pointer (some ⟨b, 0, none⟩)] w fun e w' => e = .returned (.string ⟨l.toArray⟩) ∧ Below B w w' := Any.Builder_String_any Tryz.lays169 Tryz.Builder_Extra_169 B b l w h hBw
def Tryz.lays156_ren : Go.Shelf.Ren := ⟨fun | 156 => 216 | 165 => 217 | 166 => 218 | 169 => 219 | 240 => 220 | 241 => 221 | 276 => 222 | 277 => 223 | n => n, fun | 31 => 31 | 9 => 9 | 3 => 3 | 4 => 4 | 0 => 0 | 20 => 20 | 72 => 284 | 76 => 286 | 70 => 282 | 37 => 260 | 75 => 122 | 127 => 254 | 164 => 288 | 5 => 5 | 80 => 91 | n => n, fun | n => n⟩
theorem Tryz.lays156 : Go.Proofs.Lays.n156 Tryz.prog Tryz.lays156_ren := {
  mixed := by kernel_rfl
  f156 := Tryz.func216.trans (congrArg some (by kernel_rfl))
  f165 := Tryz.func217.trans (congrArg some (by kernel_rfl))
  f166 := Tryz.func218.trans (congrArg some (by kernel_rfl))
  f169 := Tryz.func219.trans (congrArg some (by kernel_rfl))
  f240 := Tryz.func220.trans (congrArg some (by kernel_rfl))
  f241 := Tryz.func221.trans (congrArg some (by kernel_rfl))
  f276 := Tryz.func222.trans (congrArg some (by kernel_rfl))
  f277 := Tryz.func223.trans (congrArg some (by kernel_rfl))
  t0 := Tryz.underlying0
  a0 := Tryz.isAgg0
  z0 := Tryz.sizeOf0
  v0 := Tryz.zeroValue0
  t3 := Tryz.underlying3
  a3 := Tryz.isAgg3
  z3 := Tryz.sizeOf3
  v3 := Tryz.zeroValue3
  t4 := Tryz.underlying4
  a4 := Tryz.isAgg4
  z4 := Tryz.sizeOf4
  v4 := Tryz.zeroValue4
  t9 := Tryz.underlying9
  a9 := Tryz.isAgg9
  z9 := Tryz.sizeOf9
  v9 := Tryz.zeroValue9
  t20 := Tryz.underlying20
  a20 := Tryz.isAgg20
  z20 := Tryz.sizeOf20
  v20 := Tryz.zeroValue20
  t31 := Tryz.underlying31
  a31 := Tryz.isAgg31
  z31 := Tryz.sizeOf31
  v31 := Tryz.zeroValue31
  t37 := Tryz.underlying260
  a37 := Tryz.isAgg260
  z37 := Tryz.sizeOf260
  v37 := Tryz.zeroValue260
  t70 := Tryz.underlying282
  a70 := Tryz.isAgg282
  z70 := Tryz.sizeOf282
  v70 := Tryz.zeroValue282
  t72 := Tryz.underlying284
  a72 := Tryz.isAgg284
  z72 := Tryz.sizeOf284
  v72 := Tryz.zeroValue284
  t75 := Tryz.underlying122
  a75 := Tryz.isAgg122
  z75 := Tryz.sizeOf122
  v75 := Tryz.zeroValue122
  t76 := Tryz.underlying286
  a76 := Tryz.isAgg286
  z76 := Tryz.sizeOf286
  v76 := Tryz.zeroValue286
  t127 := Tryz.underlying254
  a127 := Tryz.isAgg254
  z127 := Tryz.sizeOf254
  v127 := Tryz.zeroValue254
  t164 := Tryz.underlying288
  a164 := Tryz.isAgg288
  z164 := Tryz.sizeOf288
  v164 := Tryz.zeroValue288 }
theorem Tryz.Builder_Extra_156 : Builder.Extra Tryz.prog Tryz.lays156_ren := {
  sizeBuilder := by kernel_rfl
  liesBuilder := by kernel_rfl
  t5 := Tryz.underlying5
  a5 := Tryz.isAgg5
  z5 := Tryz.sizeOf5
  v5 := Tryz.zeroValue5
  infoByte := by kernel_rfl
  cellsByte := by kernel_rfl
  sizeByte := by kernel_rfl
  neB5 := by decide }
open Go.RowKit in
theorem Tryz.strings_Join_none (a : Option Addr) (c : Nat) (sep : ByteArray) (w : World) :
    Calls Tryz.prog 216 #[.slice a 0 c, .string sep] w fun e w' => e = .returned (.string ⟨#[]⟩) ∧ w' = w := Any.strings_Join_none Tryz.lays156 Tryz.Builder_Extra_156 a c sep w
open Go.RowKit in
theorem Tryz.strings_Join (bk o c : Nat) (xs : List ByteArray) (sep : ByteArray) (w : World) (hcells : ∀ (j : Nat) x, xs[j]? = some x → w.cell? ⟨bk, o + j, none⟩ = some (.string x)) (hbk : bk < w.heap.size) (hN : xs.length ≤ 140737488355328) (hcap : xs.length ≤ c) (hlen : (Lib.join (xs.map (·.data.toList)) sep.data.toList).length ≤ 140737488355328) :
    Calls Tryz.prog 216 #[.slice (some ⟨bk, o, none⟩) xs.length c, .string sep] w fun e w' => e = .returned (.string ⟨(Lib.join (xs.map (·.data.toList)) sep.data.toList).toArray⟩) ∧ Below w.heap.size w w' := Any.strings_Join Tryz.lays156 Tryz.Builder_Extra_156 bk o c xs sep w hcells hbk hN hcap hlen
open Go.RowKit in
theorem Tryz.Builder_WriteString (B b : Nat) (bs : List Value) (s : ByteArray) (w : World) (h : Lib.IsBuilder 284 5 B b bs w) (hlen : bs.length + s.size ≤ 140737488355328) (hBw : B ≤ w.heap.size) :
    Calls Tryz.prog 218 #[.pointer (some ⟨b, 0, none⟩), .string s] w fun e w' => e = .returned (.tuple #[.int .i64 s.size, .nilIface]) ∧ (Lib.BuilderAt 284 5 B b (.pointer (some ⟨b, 0, none⟩)) (bs ++ Lib.strCells s) w' ∧ Below B w w') := Any.Builder_WriteString { Tryz.lays156 with } Tryz.Builder_Extra_156 B b bs s w h hlen hBw
end Go.Proofs
