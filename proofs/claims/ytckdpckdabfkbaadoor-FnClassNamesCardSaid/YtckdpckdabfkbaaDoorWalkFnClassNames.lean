/- The walk of the law FnClassNames. -/
import Derived.Test.YtckdpckdabfkbaaDoorRows
import Derived.Test.YtckdpckdabfkbaaDoorOwn
import Derived.Test.YtckdpckdabfkbaaDoorPlain
import Derived.Test.YtckdpckdabfkbaaDoorLaid
import Derived.WalkKit
import Derived.ProofKit
import Derived.Handy
namespace Go.Proofs.YtckdpckdabfkbaaDoor.WalkFnClassNames
open Go.RowKit Go.Proofs.YtckdpckdabfkbaaDoorW.PrintWords Go.Proofs.YtckdpckdabfkbaaDoor.Plain
theorem walk (a0 : Int) (w : World) (hL : laidMet Tryd.prog Rows.fnClassNamesRow.laid w) (hg0 : (Lit.int .i64 a0).wf = true) :
    Calls Tryd.prog 3 #[.int .i64 a0] w fun e w' => e = .returned (.bool true) ∧ Below w.heap.size w w' := by
  obtain ⟨a, cap, hc, hcap, hel⟩ := Laid.str_row (g := 0) (t := 36) (e := 9) (ls := [[68, 85, 77, 77, 89], [75, 78, 79, 87, 78], [85, 78, 75, 78, 79, 87, 78], [85, 83, 69, 82]]) (Lib.laidMet.reads hL (.head _)) (by kernel_rfl) (by kernel_rfl) Tryd.underlying36 Tryd.underlying9 (by kernel_rfl)
  simp only [List.length_cons, List.length_nil, Nat.zero_add, Nat.reduceAdd] at hc hcap
  have h0 := hel 0 _ rfl
  have h1 : w.cell? ⟨a.block, a.off + 1, none⟩ = _ := hel 1 _ rfl
  have h2 : w.cell? ⟨a.block, a.off + 2, none⟩ = _ := hel 2 _ rfl
  have h3 : w.cell? ⟨a.block, a.off + 3, none⟩ = _ := hel 3 _ rfl
  have e0 : a.add 0 = a := by simp [Addr.add]
  rw [e0] at h0
  clear hel hL e0
  have hm : -9223372036854775808 ≤ a0 ∧ a0 ≤ 9223372036854775807 := by simpa [Lit.wf, IntKind.min, IntKind.max, IntKind.bits, IntKind.signed] using hg0
  have hk : a0 = 0 ∨ a0 = 1 ∨ a0 = 2 ∨ a0 = 3 ∨ a0 < 0 ∨ 3 < a0 := by omega
  clear hg0
  rcases hk with rfl | rfl | rfl | rfl | hk | hk
  all_goals go_enter Tryd.func3, Tryd.ntmps3
  all_goals go_wp2
  iterate 4
    · go_region
      go_wp2
      go_ret
      exact ⟨rfl, below_drew (Below.refl _ _)⟩
  all_goals go_ret
  all_goals exact ⟨rfl, Below.refl _ _⟩
end Go.Proofs.YtckdpckdabfkbaaDoor.WalkFnClassNames
