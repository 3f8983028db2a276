/- The walk of the law FnEqualFeatures: it returns true and writes nothing that was there. -/
import Derived.Test.YtckdpckdabfkbaaPureFnEqualFeatures
namespace Go.Proofs.Ytckdpckdabfkbaa.WalkFnEqualFeatures
open Go.RowKit Go.Proofs.Ytckdpckdabfkbaa.PFnEqualFeatures Go.Proofs.YtckdpckdabfkbaaW.PrintWords
theorem walk (A0 : Option Addr) (c0 : Nat) (a0 : (List ByteArray)) (A1 : Option Addr) (c1 : Nat) (a1 : (List ByteArray)) (w : World) (hr0 : Kd.C Kd.string w A0 a0.length a0) (hc0 : a0.length ≤ c0) (hg0 : a0.length * 16 ≤ 140737488351232 ∧ ∀ y0 ∈ a0, y0.size ≤ 140737488351232) (hr1 : Kd.C Kd.string w A1 a1.length a1) (hc1 : a1.length ≤ c1) (hg1 : a1.length * 16 ≤ 140737488351232 ∧ ∀ y0 ∈ a1, y0.size ≤ 140737488351232) :
    Calls Try.prog 3 #[.slice A0 a0.length c0, .slice A1 a1.length c1] w fun e w' => e = .returned (.bool true) ∧ Below w.heap.size w w' := by
  obtain ⟨k, h⟩ := Pure.FnEqualFeatures a0 a1 (by omega) (by omega)
  exact laws_FnEqualFeatures.calls k A0 c0 a0 A1 c1 a1 true w hr0 hc0 hr1 hc1 h
end Go.Proofs.Ytckdpckdabfkbaa.WalkFnEqualFeatures
