/- Reading an argument of a law as plain data: for a type made of numbers, bools, strings, slices and structs, what the row's reading says is what the printed kinds (Kd) say, with the bounds on sizes that the row bears. -/
import Derived.OpenShut
import Derived.Test.YtaejkbjepbifcabGreatDoorKWords
import Derived.SizedLaws
import Derived.ChangeSlices
import Derived.ChangeArms
import Derived.ProofKit
import Derived.Deep.Slices
namespace Go.Proofs.YtaejkbjepbifcabGreatDoor.Open
open Go.Proofs.YtaejkbjepbifcabGreatDoorW.PrintWords Go.ChangeShapes Go.WideShapes Go.RowKit

/-- Cells of type t that read as data, read as a value of the kind d, and that is good. -/
def Opens (P : Program) (t : TypeId) {α : Type} (d : Kd α) (G : α → Prop) : Prop :=
  P.cellsOf t = d.sz ∧ ∀ {H : Type} (enc : TypeId × Value → H) (w : World) (spare : Nat → Bool) (held : Bool) (fuel : Nat) (cs : List Value) (x : DataW H × List MemPlace),
    DataW.trod enc P w 0 spare held fuel t cs = some x → (∀ n ∈ x.1.weights P t, n ≤ reachBytes) → ∃ a, d.K w a cs ∧ G a

theorem opens_string {P : Program} {t : TypeId} (hc : P.cellsOf t = 1) (ht : P.underlying t = some .string) : Opens P t Kd.string (fun s => s.size ≤ 140737488351232) := by
  refine ⟨hc, fun enc w spare held fuel cs x h hw => ?_⟩
  obtain ⟨s, rfl, rfl, _⟩ := DataW.trod_string ht h
  refine ⟨s, rfl, ?_⟩
  have := hw s.data.toList.length (by simp [DataW.weights])
  simpa [reachBytes] using this

theorem cells_of {w : World} {base : Nat} {a : Addr} {n : Nat} {c : List Value} (h : w.cells? base a n = some c) : c.length = n ∧ ∀ i u, c[i]? = some u → w.cell? (a.add i) = some u := by
  obtain ⟨_, hl, hc⟩ := World.cells?_some h
  refine ⟨hl, fun i u hu => ?_⟩
  have hi : i < n := by have := (List.getElem?_eq_some_iff.1 hu).1; omega
  rw [hc i hi]; exact hu

theorem add_add (a : Addr) (i j : Nat) : (a.add i).add j = a.add (i + j) := by
  simp only [Addr.add]
  by_cases hi : i = 0
  · subst hi; by_cases hj : j = 0 <;> simp [hj]
  · by_cases hj : j = 0
    · simp [hi, hj]
    · have : i + j ≠ 0 := by omega
      simp [hi, hj, Nat.add_assoc]

theorem opens_slice {P : Program} {t e : TypeId} {α : Type} {d : Kd α} {G : α → Prop} {B : Nat} (hc : P.cellsOf t = 1) (ht : P.underlying t = some (.slice e)) (hB : P.bytesOf e = B) (ho : Opens P e d G) :
    Opens P t (Kd.slice e d) (fun xs => xs.length * B ≤ 140737488351232 ∧ ∀ x ∈ xs, G x) := by
  refine ⟨hc, fun enc w spare held fuel cs x h hw => ?_⟩
  rcases Deep.open_slice ht h with ⟨rfl, rfl⟩ | ⟨a, len, cap, m, n, D, Pl, rfl, _, hl, hm, hmm, rfl, hx⟩
  · exact ⟨[], ⟨none, 0, rfl, Nat.le_refl _, Kd.C_nil d w⟩, by simp, by simp⟩
  have hlm : len ≤ m := by rw [hmm]; split <;> omega
  have each : ∀ i, i < len → ∃ y c, c.length = d.sz ∧ d.K w y c ∧ G y ∧ ∀ j u, c[j]? = some u → w.cell? (a.add (i * d.sz + j)) = some u := by
    intro i hi
    obtain ⟨c, hc1, hc2⟩ := hx i (by omega)
    obtain ⟨hlen, hcell⟩ := cells_of hc1
    rw [ho.1] at hlen hcell
    obtain ⟨y, hk, hg⟩ := ho.2 enc w spare held n c _ hc2 (fun k hk => hw k (by
      simp only [DataW.weights, ht]
      refine List.mem_cons_of_mem _ (List.mem_append_left _ ?_)
      have key : ∀ l : List Nat, i ∈ l → k ∈ DataW.weightsAll P e (l.map D) := by
        intro l
        induction l with
        | nil => intro h; cases h
        | cons b l ih =>
          intro h
          simp only [List.map_cons, DataW.weightsAll, List.mem_append]
          rcases List.mem_cons.1 h with rfl | h
          · exact .inl hk
          · exact .inr (ih h)
      exact key _ (List.mem_range.2 hi)))
    exact ⟨y, c, hlen, hk, hg, fun j u hu => by rw [← add_add]; exact hcell j u hu⟩
  have ⟨f, hf⟩ : ∃ f : Nat → Option α, ∀ i, i < len → ∃ y, f i = some y ∧ ∃ c, c.length = d.sz ∧ d.K w y c ∧ G y ∧ ∀ j u, c[j]? = some u → w.cell? (a.add (i * d.sz + j)) = some u := by
    refine ⟨fun i => if hi : i < len then some (Classical.choose (each i hi)) else none, fun i hi => ⟨_, dif_pos hi, ?_⟩⟩
    exact Classical.choose_spec (each i hi)
  have hall : ∀ l : List Nat, (∀ i ∈ l, i < len) → ∃ ys : List α, ys.length = l.length ∧ ∀ (j i : Nat), l[j]? = some i → ∃ y, ys[j]? = some y ∧ f i = some y := by
    intro l
    induction l with
    | nil => intro _; exact ⟨[], rfl, by simp⟩
    | cons b l ih =>
      intro hl
      obtain ⟨ys, h1, h2⟩ := ih (fun i hi => hl i (List.mem_cons_of_mem _ hi))
      obtain ⟨y, hy, _⟩ := hf b (hl b List.mem_cons_self)
      refine ⟨y :: ys, by simp [h1], fun j i hj => ?_⟩
      cases j with
      | zero => simp at hj; subst hj; exact ⟨y, by simp, hy⟩
      | succ j => simp at hj; simpa using h2 j i hj
  obtain ⟨ys, hy1, hy2⟩ := hall (List.range len) (fun i hi => List.mem_range.1 hi)
  simp only [List.length_range] at hy1
  have hget : ∀ (j : Nat) (p : α), ys[j]? = some p → f j = some p ∧ j < len := by
    intro j p hj
    have hlt : j < len := by have := (List.getElem?_eq_some_iff.1 hj).1; omega
    obtain ⟨y, h1, h2⟩ := hy2 j j (by simp [hlt])
    rw [hj] at h1
    injection h1 with h1
    subst h1
    exact ⟨h2, hlt⟩
  subst hy1
  refine ⟨ys, ⟨some a, cap, rfl, hl, rfl, by unfold maxLen at hm; omega, fun _ => ⟨a, rfl, fun j p hj => ?_⟩⟩, ?_, ?_⟩
  · obtain ⟨h1, h2⟩ := hget j p hj
    obtain ⟨y, hy, c, hc1, hc2, _, hc3⟩ := hf j h2
    rw [h1] at hy
    injection hy with hy
    subst hy
    exact ⟨c, hc1, hc2, hc3⟩
  · have := hw (((List.range ys.length).map D).length + ((List.range (m - ys.length)).map fun j => D (ys.length + j)).length |> fun z => z * P.bytesOf e) (by simp only [DataW.weights, ht]; exact List.mem_cons_self)
    simp only [List.length_map, List.length_range, reachBytes, hB] at this
    refine Nat.le_trans (Nat.mul_le_mul_right _ (Nat.le_add_right _ (m - ys.length))) ?_
    simpa using this
  · intro p hp
    obtain ⟨j, hj⟩ := List.getElem?_of_mem hp
    obtain ⟨h1, h2⟩ := hget j p hj
    obtain ⟨y, hy, c, _, _, hg, _⟩ := hf j h2
    rw [h1] at hy
    injection hy with hy
    subst hy
    exact hg

theorem Opens.imp {P : Program} {t : TypeId} {α : Type} {d : Kd α} {G G' : α → Prop} (h : Opens P t d G) (hg : ∀ a, G a → G' a) : Opens P t d G' :=
  ⟨h.1, fun enc w spare held fuel cs x ht hw => let ⟨a, hk, hh⟩ := h.2 enc w spare held fuel cs x ht hw; ⟨a, hk, hg a hh⟩⟩

/-- The j-th argument of a row, opened. -/
theorem open_arg {P : Program} {t : TypeId} {α : Type} {d : Kd α} {G : α → Prop} (ho : Opens P t d G) {H : Type} {enc : TypeId × Value → H} {W : World} {spare : Nat → Bool} {held : Bool} {v : Value} {x : DataW H} {ps : List MemPlace} {ts : List TypeId} {ds : List (DataW H)} {j : Nat}
    (hsz : (DataW.weightsEach P ts ds).all (· ≤ reachBytes) = true) (ht : ts[j]? = some t) (hd : ds[j]? = some x) (h : DataW.Trod enc P W 0 spare held t v x ps) : ∃ a, d.K W a v.cells.toList ∧ G a := by
  obtain ⟨fuel, hf⟩ := h
  exact ho.2 enc W spare held fuel _ _ hf (fun n hn => by simpa using List.all_eq_true.1 hsz n (DataW.weights_mem_each ht hd n hn))

end Go.Proofs.YtaejkbjepbifcabGreatDoor.Open
