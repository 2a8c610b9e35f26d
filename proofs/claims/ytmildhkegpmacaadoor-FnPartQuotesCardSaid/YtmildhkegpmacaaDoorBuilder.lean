/- strings.Builder's WriteString at this dump, laid by hand out of the shelf's contract: the tool leaves it out, for the dump's body names no string type (its panic is refused by the loader). No condition beyond the contract's own. -/
import Derived.Shelf.Strings.Builder1
import Derived.Test.YtmildhkegpmacaaDoorProg
namespace Go.Proofs.YtmildhkegpmacaaDoor
open Go.Shelf Go.Proofs
def renW : Go.Shelf.Ren := ⟨fun | 166 => 94 | 240 => 133 | 276 => 149 | n => n, fun | 70 => 143 | 72 => 145 | 37 => 40 | 164 => 186 | 80 => 150 | 75 => 75 | 0 => 0 | 3 => 3 | 4 => 4 | 5 => 5 | 9 => 9 | 20 => 20 | n => n, fun | n => n⟩
theorem laysW : Go.Proofs.Lays.n166 Tryd.prog renW := {
  mixed := by kernel_rfl
  f166 := Tryd.func94.trans (congrArg some (by kernel_rfl))
  f240 := Tryd.func133.trans (congrArg some (by kernel_rfl))
  f276 := Tryd.func149.trans (congrArg some (by kernel_rfl))
  t0 := Tryd.underlying0
  a0 := Tryd.isAgg0
  z0 := Tryd.sizeOf0
  v0 := Tryd.zeroValue0
  t3 := Tryd.underlying3
  a3 := Tryd.isAgg3
  z3 := Tryd.sizeOf3
  v3 := Tryd.zeroValue3
  t4 := Tryd.underlying4
  a4 := Tryd.isAgg4
  z4 := Tryd.sizeOf4
  v4 := Tryd.zeroValue4
  t9 := Tryd.underlying9
  a9 := Tryd.isAgg9
  z9 := Tryd.sizeOf9
  v9 := Tryd.zeroValue9
  t20 := Tryd.underlying20
  a20 := Tryd.isAgg20
  z20 := Tryd.sizeOf20
  v20 := Tryd.zeroValue20
  t37 := Tryd.underlying40
  a37 := Tryd.isAgg40
  z37 := Tryd.sizeOf40
  v37 := Tryd.zeroValue40
  t70 := Tryd.underlying143
  a70 := Tryd.isAgg143
  z70 := Tryd.sizeOf143
  v70 := Tryd.zeroValue143
  t72 := Tryd.underlying145
  a72 := Tryd.isAgg145
  z72 := Tryd.sizeOf145
  v72 := Tryd.zeroValue145
  t75 := Tryd.underlying75
  a75 := Tryd.isAgg75
  z75 := Tryd.sizeOf75
  v75 := Tryd.zeroValue75
  t164 := Tryd.underlying186
  a164 := Tryd.isAgg186
  z164 := Tryd.sizeOf186
  v164 := Tryd.zeroValue186 }
theorem extraW : Builder.Extra Tryd.prog renW := {
  sizeBuilder := by kernel_rfl
  liesBuilder := by kernel_rfl
  t5 := Tryd.underlying5
  a5 := Tryd.isAgg5
  z5 := Tryd.sizeOf5
  v5 := Tryd.zeroValue5
  infoByte := by kernel_rfl
  cellsByte := by kernel_rfl
  sizeByte := by kernel_rfl
  neB5 := by decide }
open Go.RowKit in
theorem writeString (B b : Nat) (bs : List Value) (s : ByteArray) (w : World) (h : Lib.IsBuilder 145 5 B b bs w) (hlen : bs.length + s.size ≤ 140737488355328) (hBw : B ≤ w.heap.size) :
    Calls Tryd.prog 94 #[.pointer (some ⟨b, 0, none⟩), .string s] w fun e w' => e = .returned (.tuple #[.int .i64 s.size, .nilIface]) ∧ Lib.BuilderAt 145 5 B b (.pointer (some ⟨b, 0, none⟩)) (bs ++ Lib.strCells s) w' ∧ Below B w w' :=
  Any.Builder_WriteString laysW extraW B b bs s w h hlen hBw
end Go.Proofs.YtmildhkegpmacaaDoor
