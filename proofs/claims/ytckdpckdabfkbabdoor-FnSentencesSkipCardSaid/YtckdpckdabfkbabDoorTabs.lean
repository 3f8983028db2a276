/- The tables of unicode/utf8 and of unicode, as the laid rows have them. -/
import Derived.Test.YtckdpckdabfkbabDoorShelf
import Derived.Test.YtckdpckdabfkbabDoorRows
import Derived.Lib.LaidU8
namespace Go.Proofs.YtckdpckdabfkbabDoor.Tabs
open Go.RowKit Go.Lib
set_option linter.unusedVariables false
set_option linter.unusedSimpArgs false
noncomputable def tF : Nat := ((Tryd.prog.globals[1]?).map (·.type)).getD 0
noncomputable def tA : Nat := ((Tryd.prog.globals[2]?).map (·.type)).getD 0
noncomputable def elemOf (t : Nat) : Nat := match Tryd.prog.underlying t with
  | some (.array _ e) => e
  | _ => 0
noncomputable def u8 : Nat := elemOf tF
theorem n3 : Tryd.prog.globalNamed "unicode/utf8.first" = some 1 := by kernel_rfl
theorem n4 : Tryd.prog.globalNamed "unicode/utf8.acceptRanges" = some 2 := by kernel_rfl
theorem y3 : (Tryd.prog.globals[1]?).map (·.type) = some tF := by kernel_rfl
theorem y4 : (Tryd.prog.globals[2]?).map (·.type) = some tA := by kernel_rfl
theorem t119 : Tryd.prog.underlying tF = some (.array 256 u8) := by kernel_rfl
theorem t5 : Tryd.prog.underlying u8 = some (.int .u8) := by kernel_rfl
theorem t139 : Tryd.prog.underlying tA = some (.array 16 (elemOf tA)) := by kernel_rfl
noncomputable def fieldsOf (t : Nat) : Array Field := match Tryd.prog.underlying t with
  | some (.struct fs) => fs
  | _ => #[]
theorem t138 : Tryd.prog.underlying (elemOf tA) = some (.struct (fieldsOf (elemOf tA))) := by kernel_rfl
theorem c5 : Tryd.prog.cellsOf u8 = 1 := by kernel_rfl
theorem c119 : Tryd.prog.cellsOf tF = 256 := by kernel_rfl
theorem c138 : Tryd.prog.cellsOf (elemOf tA) = 2 := by kernel_rfl
theorem fm : (fieldsOf (elemOf tA)).toList.map (fun f => (Tryd.prog.underlying f.type, f.offset, Tryd.prog.cellsOf f.type)) = [(some (.int .u8), 0, 1), (some (.int .u8), 1, 1)] := by kernel_rfl
theorem fss : (fieldsOf (elemOf tA)).size = 2 := by kernel_rfl
theorem fields_of {X : Type} (fs : Array Field) (g : Field → X) (l : List X) (h : fs.toList.map g = l) (j : Nat) (f : Field) (hj : fs[j]? = some f) : l[j]? = some (g f) := by
  rw [← h, List.getElem?_map, Array.getElem?_toList, hj]; rfl
theorem two_of {X : Type} {a b c : X} {j : Nat} (h : [a, b][j]? = some c) : (j = 0 ∧ a = c) ∨ (j = 1 ∧ b = c) := by
  match j, h with
  | 0, h => exact Or.inl ⟨rfl, Option.some.inj h⟩
  | 1, h => exact Or.inr ⟨rfl, Option.some.inj h⟩
  | j + 2, h => simp at h
theorem fields_gen (u : Nat → Option TypeDesc) (c : Nat → Nat) (fs : Array Field) (h : fs.toList.map (fun f => (u f.type, f.offset, c f.type)) = [(some (.int .u8), 0, 1), (some (.int .u8), 1, 1)]) (j : Nat) (f : Field) (hj : fs[j]? = some f) : u f.type = some (.int .u8) ∧ f.offset = j ∧ c f.type = 1 := by
  rcases two_of (fields_of _ _ _ h j f hj) with ⟨rfl, h⟩ | ⟨rfl, h⟩ <;>
  · simp only [Prod.mk.injEq] at h
    exact ⟨h.1.symm, h.2.1.symm, h.2.2.symm⟩
theorem fields (j : Nat) (f : Field) (hj : (fieldsOf (elemOf tA))[j]? = some f) : Tryd.prog.underlying f.type = some (.int .u8) ∧ f.offset = j ∧ Tryd.prog.cellsOf f.type = 1 :=
  fields_gen _ _ _ fm j f hj
theorem utf8Tabs {w : World} (h3 : VarReads Tryd.prog w "unicode/utf8.first" firstData) (h4 : VarReads Tryd.prog w "unicode/utf8.acceptRanges" acceptData) : Lib.Utf8Tabs 1 2 w := by
  refine ⟨fun c hc => ?_, fun i hi => ?_⟩
  · obtain ⟨g, t, cs, fuel, p, hg, hty, hvar, hd⟩ := h3
    obtain rfl := Option.some.inj (n3.symm.trans hg)
    obtain rfl := Option.some.inj (y3.symm.trans hty)
    have hcs := cells_of_tab t119 t5 c5 c119 hd
    have := World.var?_cell hg hvar c
    rw [this, ← Array.getElem?_toList, hcs]
    simp [firstTab, hc]
  · obtain ⟨g, t, cs, fuel, p, hg, hty, hvar, hd⟩ := h4
    obtain rfl := Option.some.inj (n4.symm.trans hg)
    obtain rfl := Option.some.inj (y4.symm.trans hty)
    obtain ⟨fuel', d, q, hdi, he⟩ := array_elem t139 hd i hi
    simp only [List.getElem?_map, List.getElem?_range hi, Option.map_some, Option.some.injEq] at hdi
    subst hdi
    rw [c138] at he
    have hcs := ints_of_struct t138 fields (by rw [c138, fss]) he
    have e0 := congrArg (·[0]?) hcs
    have e1 := congrArg (·[1]?) hcs
    simp only [List.getElem?_take, List.getElem?_drop] at e0 e1
    constructor
    · rw [World.var?_cell hg hvar (2 * i), ← Array.getElem?_toList]
      simpa [Nat.mul_comm] using e0
    · rw [World.var?_cell hg hvar (2 * i + 1), ← Array.getElem?_toList]
      simpa [Nat.mul_comm] using e1
theorem wx : Go.Proofs.WhiteExtra Tryd.prog Tryd.lays199_ren := ⟨by kernel_rfl, by kernel_rfl, by kernel_rfl, by kernel_rfl, by kernel_rfl, by kernel_rfl, by kernel_rfl, by kernel_rfl⟩
theorem whiteTab {w : World} (h6 : VarReads Tryd.prog w "unicode.White_Space" whiteData) : Lib.WhiteTab 0 w := Go.Proofs.whiteTab_of_reads Tryd.lays199 wx h6
theorem met {w : World} {l : List (String × DataW Unit)} (h : laidMet Tryd.prog l w) (h3 : ("unicode/utf8.first", firstData) ∈ l) (h4 : ("unicode/utf8.acceptRanges", acceptData) ∈ l) (h6 : ("unicode.White_Space", whiteData) ∈ l) :
    Lib.Utf8Tabs 1 2 w ∧ Lib.WhiteTab 0 w :=
  ⟨utf8Tabs (laidMet.reads h h3) (laidMet.reads h h4), whiteTab (laidMet.reads h h6)⟩
theorem d3 : Rows.laid_unicode_utf8_first = firstData := by kernel_rfl
theorem d4 : Rows.laid_unicode_utf8_acceptRanges = acceptData := by kernel_rfl
theorem d6 : Rows.laid_unicode_White_Space = whiteData := by kernel_rfl
end Go.Proofs.YtckdpckdabfkbabDoor.Tabs
