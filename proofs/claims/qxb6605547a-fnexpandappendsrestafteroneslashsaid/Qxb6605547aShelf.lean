import Derived.Shelf.Strings.Builder1
import Derived.Shelf.Strings.Builder2
import Derived.Shelf.Strings.OnBuilder
import Derived.Test.Qxb6605547aRows
namespace Go.Proofs.Qxb6605547a.Ex
open Go.Shelf
open Go.RowKit

def sh156_ren : Go.Shelf.Ren := ⟨fun | 156 => 31 | 165 => 33 | 166 => 26 | 167 => 29 | 169 => 28 | 240 => 30 | 241 => 34 | 276 => 32 | 277 => 35 | n => n, fun | 31 => 26 | 9 => 9 | 3 => 3 | 4 => 4 | 0 => 0 | 20 => 20 | 72 => 50 | 76 => 53 | 70 => 48 | 37 => 47 | 75 => 52 | 127 => 59 | 164 => 60 | 5 => 5 | 80 => 56 | n => n, fun | n => n⟩
theorem sh156 : Lays.n156 Try.prog sh156_ren := {
  mixed := by kernel_rfl
  f156 := Try.func31.trans (congrArg some (by kernel_rfl))
  f165 := Try.func33.trans (congrArg some (by kernel_rfl))
  f166 := Try.func26.trans (congrArg some (by kernel_rfl))
  f169 := Try.func28.trans (congrArg some (by kernel_rfl))
  f240 := Try.func30.trans (congrArg some (by kernel_rfl))
  f241 := Try.func34.trans (congrArg some (by kernel_rfl))
  f276 := Try.func32.trans (congrArg some (by kernel_rfl))
  f277 := Try.func35.trans (congrArg some (by kernel_rfl))
  t0 := Try.underlying0
  a0 := Try.isAgg0
  z0 := Try.sizeOf0
  v0 := Try.zeroValue0
  t3 := Try.underlying3
  a3 := Try.isAgg3
  z3 := Try.sizeOf3
  v3 := Try.zeroValue3
  t4 := Try.underlying4
  a4 := Try.isAgg4
  z4 := Try.sizeOf4
  v4 := Try.zeroValue4
  t9 := Try.underlying9
  a9 := Try.isAgg9
  z9 := Try.sizeOf9
  v9 := Try.zeroValue9
  t20 := Try.underlying20
  a20 := Try.isAgg20
  z20 := Try.sizeOf20
  v20 := Try.zeroValue20
  t31 := Try.underlying26
  a31 := Try.isAgg26
  z31 := Try.sizeOf26
  v31 := Try.zeroValue26
  t37 := Try.underlying47
  a37 := Try.isAgg47
  z37 := Try.sizeOf47
  v37 := Try.zeroValue47
  t70 := Try.underlying48
  a70 := Try.isAgg48
  z70 := Try.sizeOf48
  v70 := Try.zeroValue48
  t72 := Try.underlying50
  a72 := Try.isAgg50
  z72 := Try.sizeOf50
  v72 := Try.zeroValue50
  t75 := Try.underlying52
  a75 := Try.isAgg52
  z75 := Try.sizeOf52
  v75 := Try.zeroValue52
  t76 := Try.underlying53
  a76 := Try.isAgg53
  z76 := Try.sizeOf53
  v76 := Try.zeroValue53
  t127 := Try.underlying59
  a127 := Try.isAgg59
  z127 := Try.sizeOf59
  v127 := Try.zeroValue59
  t164 := Try.underlying60
  a164 := Try.isAgg60
  z164 := Try.sizeOf60
  v164 := Try.zeroValue60 }
theorem shX : Builder.Extra Try.prog sh156_ren := {
  sizeBuilder := by kernel_rfl
  liesBuilder := by kernel_rfl
  t5 := Try.underlying5
  a5 := Try.isAgg5
  z5 := Try.sizeOf5
  v5 := Try.zeroValue5
  infoByte := by kernel_rfl
  cellsByte := by kernel_rfl
  sizeByte := by kernel_rfl
  neB5 := by decide }

theorem sh166 : Lays.n166 Try.prog sh156_ren := { sh156 with }

theorem sh169 : Lays.n169 Try.prog sh156_ren := { sh156 with }

theorem sh167 : Lays.n167 Try.prog sh156_ren := { sh156 with
  f167 := Try.func29.trans (congrArg some (by kernel_rfl))
  t5 := Try.underlying5
  a5 := Try.isAgg5
  z5 := Try.sizeOf5
  v5 := Try.zeroValue5 }

theorem writeByte (B b : Nat) (bs : List Value) (c : Int) (w : World) (h : Lib.IsBuilder 50 5 B b bs w) (hlen : bs.length + 1 ≤ 140737488355328) (hBw : B ≤ w.heap.size) :
    Calls Try.prog 29 #[.pointer (some ⟨b, 0, none⟩), .int .u8 c] w fun e w' => e = .returned .nilIface ∧ (Lib.BuilderAt 50 5 B b (.pointer (some ⟨b, 0, none⟩)) (bs ++ [.int .u8 c]) w' ∧ Below B w w') := Any.Builder_WriteByte sh167 shX B b bs c w h hlen hBw

theorem writeString (B b : Nat) (bs : List Value) (s : ByteArray) (w : World) (h : Lib.IsBuilder 50 5 B b bs w) (hlen : bs.length + s.size ≤ 140737488355328) (hBw : B ≤ w.heap.size) :
    Calls Try.prog 26 #[.pointer (some ⟨b, 0, none⟩), .string s] w fun e w' => e = .returned (.tuple #[.int .i64 s.size, .nilIface]) ∧ (Lib.BuilderAt 50 5 B b (.pointer (some ⟨b, 0, none⟩)) (bs ++ Lib.strCells s) w' ∧ Below B w w') := Any.Builder_WriteString sh166 shX B b bs s w h hlen hBw

theorem stringAny (B b : Nat) (l : List UInt8) (w : World) (h : Lib.IsBuilder 50 5 B b (Lib.byteCells l) w) (hBw : B ≤ w.heap.size) :
    Calls Try.prog 28 #[.pointer (some ⟨b, 0, none⟩)] w fun e w' => e = .returned (.string ⟨l.toArray⟩) ∧ Below B w w' := Any.Builder_String_any sh169 shX B b l w h hBw

theorem joinNone (a : Option Addr) (c : Nat) (sep : ByteArray) (w : World) :
    Calls Try.prog 31 #[.slice a 0 c, .string sep] w fun e w' => e = .returned (.string ⟨#[]⟩) ∧ w' = w := Any.strings_Join_none sh156 shX a c sep w

theorem joinSome (bk o c : Nat) (xs : List ByteArray) (sep : ByteArray) (w : World) (hcells : ∀ (j : Nat) x, xs[j]? = some x → w.cell? ⟨bk, o + j, none⟩ = some (.string x)) (hbk : bk < w.heap.size) (hN : xs.length ≤ 140737488355328) (hcap : xs.length ≤ c) (hlen : (Lib.join (xs.map (·.data.toList)) sep.data.toList).length ≤ 140737488355328) :
    Calls Try.prog 31 #[.slice (some ⟨bk, o, none⟩) xs.length c, .string sep] w fun e w' => e = .returned (.string ⟨(Lib.join (xs.map (·.data.toList)) sep.data.toList).toArray⟩) ∧ Below w.heap.size w w' := Any.strings_Join sh156 shX bk o c xs sep w hcells hbk hN hcap hlen
end Go.Proofs.Qxb6605547a.Ex
