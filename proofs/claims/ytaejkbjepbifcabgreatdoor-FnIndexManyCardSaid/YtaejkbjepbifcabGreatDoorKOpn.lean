/- Reading an argument of a law as plain data: for a type made of numbers, bools, strings, slices and structs, what the row's reading says is what the printed kinds (Kd) say, with the bounds on sizes that the row bears. -/
import Derived.OpenShut
import Derived.Test.YtaejkbjepbifcabGreatDoorKWords
import Derived.SizedLaws
import Derived.ChangeSlices
import Derived.ChangeArms
import Derived.ProofKit
import Derived.Deep.Slices
namespace Go.Proofs.YtaejkbjepbifcabGreatDoor.Open
open Go.Proofs.YtaejkbjepbifcabGreatDoorW.PrintWords Go.ChangeShapes Go.WideShapes Go.RowKit

/-- Cells of type t that read as data, read as a value of the kind d, and that is good. -/
def Opens (P : Program) (t : TypeId) {α : Type} (d : Kd α) (G : α → Prop) : Prop :=
  P.cellsOf t = d.sz ∧ ∀ {H : Type} (enc : TypeId × Value → H) (w : World) (spare : Nat → Bool) (held : Bool) (fuel : Nat) (cs : List Value) (x : DataW H × List MemPlace),
    DataW.trod enc P w 0 spare held fuel t cs = some x → (∀ n ∈ x.1.weights P t, n ≤ reachBytes) → ∃ a, d.K w a cs ∧ G a

theorem opens_int {P : Program} {t : TypeId} {k : IntKind} (hc : P.cellsOf t = 1) (ht : P.underlying t = some (.int k)) : Opens P t (Kd.int k) (fun n => (Lit.int k n).wf = true) := by
  refine ⟨hc, fun enc w spare held fuel cs x h _ => ?_⟩
  obtain ⟨n, rfl, rfl, hw⟩ := DataW.trod_int ht h
  exact ⟨n, rfl, hw⟩

theorem add_add (a : Addr) (i j : Nat) : (a.add i).add j = a.add (i + j) := by
  simp only [Addr.add]
  by_cases hi : i = 0
  · subst hi; by_cases hj : j = 0 <;> simp [hj]
  · by_cases hj : j = 0
    · simp [hi, hj]
    · have : i + j ≠ 0 := by omega
      simp [hi, hj, Nat.add_assoc]

theorem Opens.imp {P : Program} {t : TypeId} {α : Type} {d : Kd α} {G G' : α → Prop} (h : Opens P t d G) (hg : ∀ a, G a → G' a) : Opens P t d G' :=
  ⟨h.1, fun enc w spare held fuel cs x ht hw => let ⟨a, hk, hh⟩ := h.2 enc w spare held fuel cs x ht hw; ⟨a, hk, hg a hh⟩⟩

/-- The j-th argument of a row, opened. -/
theorem open_arg {P : Program} {t : TypeId} {α : Type} {d : Kd α} {G : α → Prop} (ho : Opens P t d G) {H : Type} {enc : TypeId × Value → H} {W : World} {spare : Nat → Bool} {held : Bool} {v : Value} {x : DataW H} {ps : List MemPlace} {ts : List TypeId} {ds : List (DataW H)} {j : Nat}
    (hsz : (DataW.weightsEach P ts ds).all (· ≤ reachBytes) = true) (ht : ts[j]? = some t) (hd : ds[j]? = some x) (h : DataW.Trod enc P W 0 spare held t v x ps) : ∃ a, d.K W a v.cells.toList ∧ G a := by
  obtain ⟨fuel, hf⟩ := h
  exact ho.2 enc W spare held fuel _ _ hf (fun n hn => by simpa using List.all_eq_true.1 hsz n (DataW.weights_mem_each ht hd n hn))

end Go.Proofs.YtaejkbjepbifcabGreatDoor.Open
