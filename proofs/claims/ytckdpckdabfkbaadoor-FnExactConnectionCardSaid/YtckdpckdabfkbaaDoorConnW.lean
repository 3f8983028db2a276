/- impl.ConnectionAt. -/
import Derived.Deep.DeepMust
import Derived.Outline
import Derived.Test.YtckdpckdabfkbaaDoorConnR
import Derived.Test.YtckdpckdabfkbaaDoorPAx
namespace Go.Proofs.YtckdpckdabfkbaaDoor.Num
open Go.RowKit Go.Proofs.YtckdpckdabfkbaaDoorW.PrintWords Go.Proofs.YtckdpckdabfkbaaDoor.Plain Go.Proofs.YtckdpckdabfkbaaDoor.PA
set_option linter.unusedVariables false
set_option linter.unusedSimpArgs false
def Bad (a0 a1 : Int) (n : Nat) (a3 a4 : Int) : Prop := a0 < 1 ∨ a1 < 1 ∨ a0 > 64 ∨ a1 > 64 ∨ (n : Int) ≠ a0 * a1 ∨ a3 < 0 ∨ a3 ≥ a0 ∨ a4 < 0 ∨ a4 ≥ a1
theorem mul_bd {a b : Int} (h1 : 1 ≤ a) (h2 : a ≤ 64) (h3 : 1 ≤ b) (h4 : b ≤ 64) : 1 ≤ a * b ∧ a * b ≤ 4096 := by
  have := Int.mul_le_mul h2 h4 (by omega) (by omega)
  have h5 := Int.mul_le_mul h1 h3 (by omega) (by omega)
  omega
set_option maxHeartbeats 8000000 in
set_option maxRecDepth 100000 in
theorem connBad_calls (w : World) (a0 a1 : Int) (A : Option Addr) (c : Nat) (l : List Int) (a3 a4 : Int) (hb : Bad a0 a1 l.length a3 a4) :
    Calls Tryd.prog 9 #[.int .i64 a0, .int .i64 a1, .slice A l.length c, .int .i64 a3, .int .i64 a4] w fun e w' => e = .returned (.tuple #[.int .i64 0, .slice none 0 0, .int .i64 1]) ∧ w' = w := by
  by_cases c0 : a0 < 1
  · clear hb
    go_enter Tryd.func9, Tryd.ntmps9
    go_wp2_with fail
    go_ret3
    exact ⟨rfl, rfl⟩
  · skip
    by_cases c1 : a1 < 1
    · clear hb
      go_enter Tryd.func9, Tryd.ntmps9
      go_wp2_with fail
      go_ret3
      exact ⟨rfl, rfl⟩
    · skip
      by_cases c2 : a0 > 64
      · clear hb
        go_enter Tryd.func9, Tryd.ntmps9
        go_wp2_with fail
        go_ret3
        exact ⟨rfl, rfl⟩
      · skip
        by_cases c3 : a1 > 64
        · clear hb
          go_enter Tryd.func9, Tryd.ntmps9
          go_wp2_with fail
          go_ret3
          exact ⟨rfl, rfl⟩
        · skip
          have hm := mul_bd (a := a0) (b := a1) (by omega) (by omega) (by omega) (by omega)
          have hw : IntKind.i64.wrap (a0 * a1) = a0 * a1 := by rw [IntKind.wrap_i64]; omega
          clear hm
          by_cases c4 : (l.length : Int) ≠ a0 * a1
          · have d4 : ((l.length : Int) != a0 * a1) = true := by simpa using c4
            clear hb
            go_enter Tryd.func9, Tryd.ntmps9
            go_wp2_with fail
            go_ret3
            exact ⟨rfl, rfl⟩
          · have d4 : ((l.length : Int) != a0 * a1) = false := by simpa using c4
            by_cases c5 : a3 < 0
            · clear hb
              go_enter Tryd.func9, Tryd.ntmps9
              go_wp2_with fail
              go_ret3
              exact ⟨rfl, rfl⟩
            · skip
              by_cases c6 : a3 ≥ a0
              · clear hb
                go_enter Tryd.func9, Tryd.ntmps9
                go_wp2_with fail
                go_ret3
                exact ⟨rfl, rfl⟩
              · skip
                by_cases c7 : a4 < 0
                · clear hb
                  go_enter Tryd.func9, Tryd.ntmps9
                  go_wp2_with fail
                  go_ret3
                  exact ⟨rfl, rfl⟩
                · skip
                  by_cases c8 : a4 ≥ a1
                  · clear hb
                    go_enter Tryd.func9, Tryd.ntmps9
                    go_wp2_with fail
                    go_ret3
                    exact ⟨rfl, rfl⟩
                  · exfalso
                    unfold Bad at hb
                    rcases hb with h | h | h | h | h | h | h | h | h <;> first | omega | exact c4 h
end Go.Proofs.YtckdpckdabfkbaaDoor.Num
