/- unicode/utf8.DecodeRune at this seat: the shelf's contract, laid by hand (the shelf's tool passes this family over). -/
import Derived.Shelf.Spec.DecodeRune
import Derived.Test.YtckdpckdabfkbabDoorShelf
namespace Go.Proofs.YtckdpckdabfkbabDoor.Dec
open Go.Shelf Go.RowKit
def ren : Go.Shelf.Ren := ⟨fun | 32 => 51 | 49 => 58 | n => n, fun | 0 => 0 | 3 => 3 | 4 => 4 | 5 => 5 | 21 => 21 | 25 => 89 | 30 => 22 | 33 => 105 | 66 => 114 | 68 => 116 | 69 => 117 | n => n, fun | 2 => 1 | 3 => 2 | n => n⟩
set_option maxRecDepth 100000 in
theorem laid : Go.Proofs.Lays7.n32 Tryd.prog ren := {
  mixed := by kernel_rfl
  f32 := Tryd.func51.trans (congrArg some (by kernel_rfl))
  f49 := Tryd.func58.trans (congrArg some (by kernel_rfl))
  t0 := Tryd.underlying0
  a0 := Tryd.isAgg0
  z0 := Tryd.sizeOf0
  v0 := Tryd.zeroValue0
  i0 := by kernel_rfl
  t3 := Tryd.underlying3
  a3 := Tryd.isAgg3
  z3 := Tryd.sizeOf3
  v3 := Tryd.zeroValue3
  i3 := by kernel_rfl
  t4 := Tryd.underlying4
  a4 := Tryd.isAgg4
  z4 := Tryd.sizeOf4
  v4 := Tryd.zeroValue4
  i4 := by kernel_rfl
  t5 := Tryd.underlying5
  a5 := Tryd.isAgg5
  z5 := Tryd.sizeOf5
  v5 := Tryd.zeroValue5
  i5 := by kernel_rfl
  t21 := Tryd.underlying21
  a21 := Tryd.isAgg21
  z21 := Tryd.sizeOf21
  v21 := Tryd.zeroValue21
  i21 := by kernel_rfl
  t25 := Tryd.underlying89
  a25 := Tryd.isAgg89
  z25 := Tryd.sizeOf89
  v25 := Tryd.zeroValue89
  i25 := by kernel_rfl
  t30 := Tryd.underlying22
  a30 := Tryd.isAgg22
  z30 := Tryd.sizeOf22
  v30 := Tryd.zeroValue22
  i30 := by kernel_rfl
  t33 := Tryd.underlying105
  a33 := Tryd.isAgg105
  z33 := Tryd.sizeOf105
  v33 := Tryd.zeroValue105
  i33 := by kernel_rfl
  t68 := Tryd.underlying116
  a68 := Tryd.isAgg116
  z68 := Tryd.sizeOf116
  v68 := Tryd.zeroValue116
  i68 := by kernel_rfl
  t69 := Tryd.underlying117
  a69 := Tryd.isAgg117
  z69 := Tryd.sizeOf117
  v69 := Tryd.zeroValue117
  i69 := by kernel_rfl
  t66 := Tryd.underlying114
  a66 := Tryd.isAgg114
  z66 := Tryd.sizeOf114
  g2 := by kernel_rfl
  g3 := by kernel_rfl }
theorem decodeRune (s : ByteArray) (b off cap : Nat) (w : World) (hT : Lib.Utf8Tabs 1 2 w)
    (hp : ∀ j, j < s.size → w.cell? ⟨b, off + j, none⟩ = some (.int .u8 (s.get! j).toNat)) :
    Calls Tryd.prog 51 #[.slice (some ⟨b, off, none⟩) s.size cap] w fun e w' => e = .returned (.tuple #[.int .i32 (Lib.decodeGo s).1, .int .i64 (Lib.decodeGo s).2]) ∧ Below w.heap.size w w' :=
  Any7.utf8_DecodeRune laid s b off cap w hT hp
end Go.Proofs.YtckdpckdabfkbabDoor.Dec
