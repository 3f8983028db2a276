/- Numbers that are written to a buffer of the call's own and read of a reader of bytes. -/
import Derived.Test.YtckdpckdabfkbabDoorProg
import Derived.Test.YtckdpckdabfkbabDoorOwn
import Derived.Test.YtckdpckdabfkbabDoorPlain
import Derived.Deep.LoopGhost
import Derived.Handy
namespace Go.Proofs.YtckdpckdabfkbabDoor.Num
open Go.RowKit Go.Proofs.YtckdpckdabfkbabDoorW.PrintWords Go.Proofs.YtckdpckdabfkbabDoor.Plain
set_option linter.unusedVariables false

theorem as64_8 (v : Value) (w : World) : (Instr.typeAssert (.iface 2 v) 20 68 true).run Tryd.prog w = .ok (.tuple #[.int .i8 0, .bool false]) w := by kernel_rfl
theorem as64_16 (v : Value) (w : World) : (Instr.typeAssert (.iface 2 v) 20 65 true).run Tryd.prog w = .ok (.tuple #[.int .i16 0, .bool false]) w := by kernel_rfl
theorem as64_32 (v : Value) (w : World) : (Instr.typeAssert (.iface 2 v) 20 21 true).run Tryd.prog w = .ok (.tuple #[.int .i32 0, .bool false]) w := by kernel_rfl
theorem as16_8 (v : Value) (w : World) : (Instr.typeAssert (.iface 65 v) 20 68 true).run Tryd.prog w = .ok (.tuple #[.int .i8 0, .bool false]) w := by kernel_rfl
theorem as16_16 (v : Value) (w : World) : (Instr.typeAssert (.iface 65 v) 20 65 true).run Tryd.prog w = .ok (.tuple #[v, .bool true]) w := by kernel_rfl

theorem size64 (v : Int) (w : World) : Calls Tryd.prog 47 #[.int .i64 v] w fun e w' => e = .returned (.int .i64 8) ∧ w = w' := by
  have h1 := as64_8
  have h2 := as64_16
  have h3 := as64_32
  go_enter Tryd.func47, Tryd.ntmps47
  go_wp2
  go_ret
  exact ⟨rfl, rfl⟩
theorem size16 (v : Int) (w : World) : Calls Tryd.prog 49 #[.int .i16 v] w fun e w' => e = .returned (.int .i64 2) ∧ w = w' := by
  have h1 := as16_8
  have h2 := as16_16
  go_enter Tryd.func49, Tryd.ntmps49
  go_wp2
  go_ret
  exact ⟨rfl, rfl⟩
end Go.Proofs.YtckdpckdabfkbabDoor.Num
