/- The sentinels of package io, as the row lists them. -/
import Derived.Test.YtckdpckdabfkbaaDoorRdr
import Derived.Test.YtckdpckdabfkbaaDoorRows
import Derived.LaidLaws
import Derived.LaidMore
import Derived.Stop.ErrReads
import Derived.RowKitTokens
namespace Go.Proofs.YtckdpckdabfkbaaDoor.Num
open Go.RowKit Go.ChangeShapes Go.WideShapes
theorem err_cells : Tryd.prog.cellsOf 102 = 1 := by kernel_rfl
theorem str_cells : Tryd.prog.cellsOf 9 = 1 := by kernel_rfl
theorem err_row (u : TypeId) (h : Tryd.prog.typeName? 3 u = some ("*" ++ "errors.errorString")) : u = 82 :=
  typeName_ptr_named (nm := "errors.errorString") (by kernel_rfl) (by kernel_rfl) (by decide) u h
theorem g_short : Tryd.prog.globalNamed "io.ErrShortBuffer" = some 1 := by kernel_rfl
theorem g_eof : Tryd.prog.globalNamed "io.EOF" = some 2 := by kernel_rfl
theorem g_bad : Tryd.prog.globalNamed "io.ErrUnexpectedEOF" = some 3 := by kernel_rfl
theorem ty_short : (Tryd.prog.globals[1]?).map (·.type) = some 51 := by kernel_rfl
theorem ty_eof : (Tryd.prog.globals[2]?).map (·.type) = some 51 := by kernel_rfl
theorem ty_bad : (Tryd.prog.globals[3]?).map (·.type) = some 51 := by kernel_rfl

set_option maxRecDepth 100000 in
theorem snt_of_laid {W : World} (h : laidMet Tryd.prog [("io.ErrShortBuffer", Rows.laid_io_ErrShortBuffer), ("io.EOF", Rows.laid_io_EOF), ("io.ErrUnexpectedEOF", Rows.laid_io_ErrUnexpectedEOF)] W) : Snt W := by
  obtain ⟨ps, ⟨g0, t0, cs0, f0, p0, q0, hg0, ht0, hv0, hd0, ⟨g1, t1, cs1, f1, p1, q1, hg1, ht1, hv1, hd1, ⟨g2, t2, cs2, f2, p2, q2, hg2, ht2, hv2, hd2, hq2, e2⟩, e1⟩, e0⟩, hnd, hrows⟩ := h
  obtain rfl := Option.some.inj (g_short.symm.trans hg0)
  obtain rfl := Option.some.inj (g_eof.symm.trans hg1)
  obtain rfl := Option.some.inj (g_bad.symm.trans hg2)
  obtain rfl := Option.some.inj (ty_short.symm.trans ht0)
  obtain rfl := Option.some.inj (ty_eof.symm.trans ht1)
  obtain rfl := Option.some.inj (ty_bad.symm.trans ht2)
  have hq2' : q2 = [] := hq2
  subst hq2'
  subst e2
  subst e1
  subst e0
  obtain ⟨l1⟩ := cs1
  obtain ⟨l2⟩ := cs2
  have ok1 : ∀ u v, l1 = [.iface u v] → Value.okWide Tryd.prog W .any 0 u v := fun u v e => by
    subst e
    exact (hrows 2 0 (by simp [MemPlace.row])).2 u v (by simpa using World.var?_cell hg1 hv1 0)
  have ok2 : ∀ u v, l2 = [.iface u v] → Value.okWide Tryd.prog W .any 0 u v := fun u v e => by
    subst e
    exact (hrows 3 0 (by simp [MemPlace.row])).2 u v (by simpa using World.var?_cell hg2 hv2 0)
  have T1 := fun hrow => errorString_of_trod Tryd.underlying51 hrow Tryd.underlying82 Tryd.underlying102 rfl rfl Tryd.underlying9 err_cells str_cells hd1 ok1
  obtain ⟨a1, s1, rfl, _⟩ := T1 (fun u hu => err_row u (hu.trans (by decide)))
  have T2 := fun hrow => errorString_of_trod Tryd.underlying51 hrow Tryd.underlying82 Tryd.underlying102 rfl rfl Tryd.underlying9 err_cells str_cells hd2 ok2
  obtain ⟨a2, s2, rfl, _⟩ := T2 (fun u hu => err_row u (hu.trans (by decide)))
  exact ⟨⟨a1, by simpa using World.var?_cell hg1 hv1 0⟩, ⟨_, _, by simpa using World.var?_cell hg2 hv2 0⟩⟩
end Go.Proofs.YtckdpckdabfkbaaDoor.Num
