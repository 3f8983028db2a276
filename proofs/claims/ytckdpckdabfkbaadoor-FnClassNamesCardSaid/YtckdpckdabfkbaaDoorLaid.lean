/- A package-level slice of strings that the row lists: what its cells hold. -/
import Derived.Test.YtckdpckdabfkbaaDoorWWords
import Derived.LaidMore
import Derived.Lib.LaidU8
import Derived.FnData
namespace Go.Proofs.YtckdpckdabfkbaaDoor.Laid
open Go.RowKit Go.Proofs.YtckdpckdabfkbaaDoorW.PrintWords

theorem str_row {P : Program} {w : World} {nm : String} {ls : List (List UInt8)} {g t e : Nat} (h : Lib.VarReads P w nm (.slice (ls.map fun s => .lit (.string s)) []))
    (hg : P.globalNamed nm = some g) (ht : (P.globals[g]?).map (·.type) = some t) (hu : P.underlying t = some (.slice e)) (he : P.underlying e = some .string) (hc : P.cellsOf e = 1) :
    ∃ a cap, w.cell? ⟨g, 0, none⟩ = some (.slice (some a) ls.length cap) ∧ ls.length ≤ cap ∧ ∀ i s, ls[i]? = some s → w.cell? (a.add i) = some (.string ⟨s.toArray⟩) := by
  obtain ⟨g', t', cs, fuel, p, h1, h2, h3, h4⟩ := h
  obtain rfl := Option.some.inj (hg.symm.trans h1)
  obtain rfl := Option.some.inj (ht.symm.trans h2)
  obtain ⟨a, cap, hcs, hcap, hel⟩ := open_row hu hc h4
  rw [List.length_map] at hcs hcap
  refine ⟨a, cap, ?_, hcap, fun i s hi => ?_⟩
  · rw [World.var?_cell hg h3 0]
    obtain ⟨l⟩ := cs
    simp only at hcs
    subst hcs
    rfl
  · obtain ⟨v, n, q, hv, hd⟩ := hel i _ (by rw [List.getElem?_map, hi]; rfl)
    obtain ⟨x, hx, hy, _⟩ := DataW.trod_string he hd
    simp only [Prod.mk.injEq, DataW.lit.injEq, Lit.string.injEq, List.cons.injEq, and_true] at hx hy
    subst hx
    rw [hv, hy.1]
end Go.Proofs.YtckdpckdabfkbaaDoor.Laid
