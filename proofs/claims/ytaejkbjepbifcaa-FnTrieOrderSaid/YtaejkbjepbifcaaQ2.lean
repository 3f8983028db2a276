/- The walks over tries and what they compute: part 2 of several, put together by a program. -/
import Derived.Test.YtaejkbjepbifcaaQ1
import Derived.Defers
import Derived.Recover
import Derived.Laws.Pointers
import Derived.Test.YtaejkbjepbifcaaQ0
import Derived.Test.YtaejkbjepbifcaaKPlain
import Derived.Lib.Strings
import Derived.Test.YtaejkbjepbifcaaProg
import Derived.Below
import Derived.Deep.Draws
import Derived.Deep.AppendLies
import Derived.Maps.AppendAt
import Derived.OwnWalk
import Derived.Laws.BytesArg
import Derived.Laws.MakeOwn
import Derived.Laws.OwnMore
import Derived.Deep.OwnRows
import Derived.Tactics
import Derived.Lib.ConvBytes
import Derived.Laws.Slices
import Derived.WalkKit
import Derived.KernelRfl
import Derived.RowKit3
import Derived.Deep.LoopGhost
import Derived.Deep.QuietTactic
import Derived.BigQuiet
import Derived.WideLaws
import Derived.Deep.DeepCutAuto
import Derived.Deep.CutBlock
import Derived.Deep.RegionHeld3
import Derived.Laws.Rows
import Derived.Lib.AppendStr
import Derived.ArgAppend
import Derived.Laws.IdiomCopy
import Derived.OrdersHeld
import Derived.Laws.BitsLemmas
import Derived.RowKit
import Derived.WalkSpells
import Derived.Test.YtaejkbjepbifcaaKOwn
import Derived.Test.YtaejkbjepbifcaaKWords
import Derived.Test.YtaejkbjepbifcaaKLast
import Derived.Test.YtaejkbjepbifcaaKTab
import Derived.Test.YtaejkbjepbifcaaKFour
import Derived.Test.YtaejkbjepbifcaaKQPut
import Derived.Test.YtaejkbjepbifcaaKApart
import Derived.Test.YtaejkbjepbifcaaKArr
import Derived.Test.YtaejkbjepbifcaaKZeros
import Derived.Test.YtaejkbjepbifcaaKFoot
import Derived.Test.YtaejkbjepbifcaaKKept
import Derived.Test.YtaejkbjepbifcaaKShare
import Derived.Test.YtaejkbjepbifcaaKN
import Derived.Test.YtaejkbjepbifcaaKFootNe
import Derived.Test.YtaejkbjepbifcaaKAt
import Derived.Test.YtaejkbjepbifcaaKEqStruct
import Derived.Test.YtaejkbjepbifcaaKRepsOne
import Derived.Test.YtaejkbjepbifcaaKInv
import Derived.Test.YtaejkbjepbifcaaKInvWords
import Derived.Test.YtaejkbjepbifcaaKGuard
import Derived.Test.YtaejkbjepbifcaaKNEv
import Derived.Test.YtaejkbjepbifcaaKMore
import Derived.Maps.Own
import Derived.Maps.Views
import Derived.Sort.Grow
import Derived.Sort.EncStr
import Derived.Test.YtaejkbjepbifcaaShelf
import Derived.Maps.OwnOps
import Derived.WalkArith
namespace Go.Proofs.Ytaejkbjepbifcaa.Da
open Go.RowKit Go.Proofs.YtaejkbjepbifcaaW.PrintWords
set_option linter.unusedVariables false
set_option linter.unusedSimpArgs false
def ans (L : Keys) (t : ByteArray) : PB.S34 := ⟨⟨(fnd L t).1, (fnd L t).2⟩, ⟨(lng L t).1, (lng L t).2⟩, hitsS L (bs t) (bs t).length, hitsS L (bs t) (bs t).length⟩
/-- The deferred function finds no panic. -/
theorem ask1_idle (p q : Addr) (w : World) :
    CallsD Try.prog 43 #[.pointer (some p), .pointer (some q)] .returning w fun e u' w' => e = .returned (.tuple #[]) ∧ u' = .returning ∧ w' = w := by
  refine callsD_of_wpS Try.func43 rfl fun c₀ cs hu => ?_
  apply wpS_seq
  apply wpS_region
  simp [wpOpsS, go_sem, recoverD, hu, Try.ntmps43, Exit.thenS]
  refine wpS_cond (t := false) (by simp [Act.eval, Array.replicate]) ?_
  simp only [Bool.false_eq_true, if_false]
  refine wpS_of_wp (wp_skip ?_)
  cases c₀
  simp_all [bodyPostS, results, Try.results43]
/-- So many inputs have been asked. -/
structure AskS (W w : World) (L : Keys) (ov : Value) (l : List ByteArray) : Prop where
  kp : Kp W w (fun _ => False)
  o : w.heap[W.heap.size]? = some (.cells #[ov] 42 (0, 0))
  e : w.heap[W.heap.size + 1]? = some (.cells #[.int .i64 0] 3 (0, 0))
  r : Kd.R PB.k34 34 w (W.heap.size + 2) (fun _ => True) ov (l.map (ans L))
theorem ans_info : (Try.prog.info? 34).map (fun i => (i.zero, i.size, i.bytes)) = some (some (.agg #[(.int .i64 0), (.bool false), (.int .i64 0), (.bool false), (.slice none 0 0), (.slice none 0 0)]), 6, 80) := by kernel_rfl
theorem asks_start (W : World) (L : Keys) : AskS W ((W.alloc (.cells #[.slice none 0 0] 42)).alloc (.cells #[.int .i64 0] 3)) L (.slice none 0 0) [] := by
  have e1 : (W.alloc (.cells #[.slice none 0 0] 42)).heap.size = W.heap.size + 1 := Own.size_alloc _ _
  refine ⟨((Kp.self W _).alloc _).alloc _, ?_, ?_, Kd.R_nil _ _ _ _ _⟩
  · exact ((below_alloc (Below.refl _ _) _).block _ (by rw [e1]; omega)).trans (blk_new W _)
  · rw [← e1]; exact blk_new _ _
/-- A cell of a row of texts. -/
theorem str_cell {W : World} {A : Option Addr} {ss : List ByteArray} (h : Kd.C Kd.string W A ss.length ss) (j : Nat) (hj : j < ss.length) : ∃ ad, A = some ad ∧ W.cell? (ad.add j) = some (.string (ss.getD j ByteArray.empty)) := by
  obtain ⟨ad, c, e, _, hK, hc0⟩ := Kd.C_get h ByteArray.empty (j : Int) (by omega) (by omega)
  have hK : c = [.string _] := hK
  subst hK
  have := hc0 0 _ rfl
  rw [Int.toNat_natCast] at this
  have e1 : (Kd.string).sz = 1 := rfl
  rw [e1, Nat.mul_one, Nat.add_zero] at this
  exact ⟨ad, e, this⟩
theorem cell_lt {w : World} {a : Addr} {v : Value} (h : w.cell? a = some v) : a.block < w.heap.size := by
  rcases Nat.lt_or_ge a.block w.heap.size with h1 | h1
  · exact h1
  · unfold World.cell? at h
    rw [Array.getElem?_eq_none h1] at h
    simp at h
theorem AskS.kp_cell {W w : World} {L : Keys} {ov : Value} {l : List ByteArray} (h : AskS W w L ov l) {a : Addr} {v : Value} (hc : W.cell? a = some v) : w.cell? a = some v := by
  rw [← hc]
  exact World.cell?_of_block (w := W) (h.kp.old _ (cell_lt hc) id)
def AskE (W w' : World) (L : Keys) (ss : List ByteArray) (e : Ending) : Prop := ∃ ov, e = .returned (.tuple #[ov, .int .i64 0]) ∧ Kd.R PB.k34 34 w' W.heap.size (fun _ => True) ov (ss.map (ans L)) ∧ Below W.heap.size W w'
theorem ABox.set0 {W : World} {xb : Nat} {c0 c1 c2 c3 c4 cv : Value} (h : ABox W xb c0 c1 c2 c3 c4 cv) (v : Value) : ABox (W.setCell ⟨xb, 0, none⟩ v) xb v c1 c2 c3 c4 cv := (setCell_heap h).trans (by rfl)
theorem ABox.set1 {W : World} {xb : Nat} {c0 c1 c2 c3 c4 cv : Value} (h : ABox W xb c0 c1 c2 c3 c4 cv) (v : Value) : ABox (W.setCell ⟨xb, 1, none⟩ v) xb c0 v c2 c3 c4 cv := (setCell_heap h).trans (by rfl)
theorem ABox.set2 {W : World} {xb : Nat} {c0 c1 c2 c3 c4 cv : Value} (h : ABox W xb c0 c1 c2 c3 c4 cv) (v : Value) : ABox (W.setCell ⟨xb, 2, none⟩ v) xb c0 c1 v c3 c4 cv := (setCell_heap h).trans (by rfl)
theorem ABox.set3 {W : World} {xb : Nat} {c0 c1 c2 c3 c4 cv : Value} (h : ABox W xb c0 c1 c2 c3 c4 cv) (v : Value) : ABox (W.setCell ⟨xb, 3, none⟩ v) xb c0 c1 c2 v c4 cv := (setCell_heap h).trans (by rfl)
theorem ABox.set4 {W : World} {xb : Nat} {c0 c1 c2 c3 c4 cv : Value} (h : ABox W xb c0 c1 c2 c3 c4 cv) (v : Value) : ABox (W.setCell ⟨xb, 4, none⟩ v) xb c0 c1 c2 c3 v cv := (setCell_heap h).trans (by rfl)
theorem ABox.cells {W : World} {xb : Nat} {c0 c1 c2 c3 c4 cv : Value} (h : ABox W xb c0 c1 c2 c3 c4 cv) : W.cell? ⟨xb, 0, none⟩ = some c0 ∧ W.cell? ⟨xb, 1, none⟩ = some c1 ∧ W.cell? ⟨xb, 2, none⟩ = some c2 ∧ W.cell? ⟨xb, 3, none⟩ = some c3 ∧ W.cell? ⟨xb, 4, none⟩ = some c4 ∧ W.cell? ⟨xb, 5, none⟩ = some cv := by
  unfold ABox at h
  unfold World.cell?
  simp [h]
/-- In the middle of an input. -/
structure Mid (W w : World) (L : Keys) (ov : Value) (l : List ByteArray) (xb : Nat) (c0 c1 c2 c3 c4 cv : Value) : Prop where
  kp : Kp W w (fun _ => False)
  o : w.heap[W.heap.size]? = some (.cells #[ov] 42 (0, 0))
  e : w.heap[W.heap.size + 1]? = some (.cells #[.int .i64 0] 3 (0, 0))
  r : Kd.R PB.k34 34 w (W.heap.size + 2) (fun k => k < xb) ov (l.map (ans L))
  bx : ABox w xb c0 c1 c2 c3 c4 cv
  ge : W.heap.size + 2 ≤ xb
section
variable {W w w' : World} {L : Keys} {ov : Value} {l : List ByteArray} {xb : Nat} {c0 c1 c2 c3 c4 cv : Value}
theorem Mid.start (h : AskS W w L ov l) : Mid W (w.alloc (.cells #[.int .i64 0, .bool false, .int .i64 0, .bool false, .slice none 0 0, .slice none 0 0] 34)) L ov l w.heap.size (.int .i64 0) (.bool false) (.int .i64 0) (.bool false) (.slice none 0 0) (.slice none 0 0) := by
  have hb := below_alloc (Below.refl w.heap.size w) (.cells #[.int .i64 0, .bool false, .int .i64 0, .bool false, .slice none 0 0, .slice none 0 0] 34)
  have l1 := (Array.getElem?_eq_some_iff.1 h.e).1
  exact ⟨h.kp.alloc _, (hb.block _ (by omega)).trans h.o, (hb.block _ (by omega)).trans h.e, Kd.R_below (Kd.R_mono (Kd.R_bound h.r) (fun k hk => hk.2.2.1)) hb, blk_new _ _, by omega⟩
theorem Mid.below (h : Mid W w L ov l xb c0 c1 c2 c3 c4 cv) (hb : Below w.heap.size w w') : Mid W w' L ov l xb c0 c1 c2 c3 c4 cv := by
  have l1 := (Array.getElem?_eq_some_iff.1 h.e).1
  exact ⟨h.kp.then hb, (hb.block _ (by omega)).trans h.o, (hb.block _ l1).trans h.e, Kd.R_below h.r hb, h.bx.step (hb.block _ h.bx.lt), h.ge⟩
theorem Mid.drewN (h : Mid W w L ov l xb c0 c1 c2 c3 c4 cv) (q : Nat) : Mid W (w.drewN q) L ov l xb c0 c1 c2 c3 c4 cv := h.below (pw_below_drewN (Below.refl _ _) q)
theorem Mid.put (h : Mid W w L ov l xb c0 c1 c2 c3 c4 cv) {d0 d1 d2 d3 d4 dv : Value} (i : Nat) (v : Value) (hb : ABox (w.setCell ⟨xb, i, none⟩ v) xb d0 d1 d2 d3 d4 dv) : Mid W (w.setCell ⟨xb, i, none⟩ v) L ov l xb d0 d1 d2 d3 d4 dv := by
  have hg := h.ge
  exact ⟨h.kp.setNew _ _ (by show W.heap.size ≤ xb; omega), (Below.heap_setCell _ _ _ _ (by show _ ≠ xb; omega)).trans h.o, (Below.heap_setCell _ _ _ _ (by show _ ≠ xb; omega)).trans h.e, Kd.R_far h.r (fun k hk => by show k ≠ xb; omega) _, hb, h.ge⟩
theorem Mid.set0 (h : Mid W w L ov l xb c0 c1 c2 c3 c4 cv) (v : Value) : Mid W (w.setCell ⟨xb, 0, none⟩ v) L ov l xb v c1 c2 c3 c4 cv := h.put 0 v (h.bx.set0 v)
theorem Mid.set1 (h : Mid W w L ov l xb c0 c1 c2 c3 c4 cv) (v : Value) : Mid W (w.setCell ⟨xb, 1, none⟩ v) L ov l xb c0 v c2 c3 c4 cv := h.put 1 v (h.bx.set1 v)
theorem Mid.set2 (h : Mid W w L ov l xb c0 c1 c2 c3 c4 cv) (v : Value) : Mid W (w.setCell ⟨xb, 2, none⟩ v) L ov l xb c0 c1 v c3 c4 cv := h.put 2 v (h.bx.set2 v)
theorem Mid.set3 (h : Mid W w L ov l xb c0 c1 c2 c3 c4 cv) (v : Value) : Mid W (w.setCell ⟨xb, 3, none⟩ v) L ov l xb c0 c1 c2 v c4 cv := h.put 3 v (h.bx.set3 v)
theorem Mid.set4 (h : Mid W w L ov l xb c0 c1 c2 c3 c4 cv) (v : Value) : Mid W (w.setCell ⟨xb, 4, none⟩ v) L ov l xb c0 c1 c2 c3 v cv := h.put 4 v (h.bx.set4 v)
theorem Mid.arr (h : Mid W w L ov l xb c0 c1 c2 c3 c4 cv) {g : Nat} {s : DA} (a : Arr W g s) : Arr w g s := a.step (h.kp.old g a.lt id)
theorem Mid.cb (h : Mid W w L ov l xb c0 c1 c2 c3 c4 cv) {dv : Value} (k : Kp w w' (fun k => k = xb)) (hb : ABox w' xb c0 c1 c2 c3 c4 dv) : Mid W w' L ov l xb c0 c1 c2 c3 c4 dv := by
  have hg := h.ge
  have l1 := (Array.getElem?_eq_some_iff.1 h.e).1
  exact ⟨(h.kp.trans k).mono (fun i hi hx => by rcases hx with hx | hx; exact hx; omega), (k.old _ (by omega) (by omega)).trans h.o, (k.old _ l1 (by omega)).trans h.e, Kd.R_step h.r (fun i hi hl => k.old i hl (by omega)), hb, h.ge⟩
/-- A row that was made behind the box. -/
theorem row_cb {k : Kd PB.S39} {e base : Nat} {v : Value} {xs : List PB.S39} (h : k.R e w base (fun k => xb < k) v xs) (kk : Kp w w' (fun k => k = xb)) : k.R e w' base (fun k => xb < k) v xs :=
  Kd.R_step h (fun i hi hl => kk.old i hl (by omega))
theorem row_new {k : Kd PB.S39} {e b base : Nat} {v : Value} {xs : List PB.S39} (h : k.R e w b (fun _ => True) v xs) (h1 : xb < b) (h2 : base ≤ b) : k.R e w base (fun k => xb < k) v xs :=
  Kd.R_lower (Kd.R_mono (Kd.R_bound h) (fun i hi => Nat.lt_of_lt_of_le h1 hi.2.1)) h2
/-- The input is done. -/
theorem Mid.done (h : Mid W w L ov l xb c0 c1 c2 c3 c4 cv) {va : Value} {t : ByteArray} (hb : Below (W.heap.size + 2) w w') (hr : Kd.R PB.k34 34 w' (W.heap.size + 2) (fun _ => True) va (l.map (ans L) ++ [ans L t])) : AskS W (w'.setCell ⟨W.heap.size, 0, none⟩ va) L va (l ++ [t]) := by
  have hg := h.ge
  have hk : Kp W w' (fun _ => False) := ⟨Nat.le_trans h.kp.size hb.size, fun i hi hn => (hb.block i (by omega)).trans (h.kp.old i hi hn), h.kp.env.trans ⟨hb.os, hb.tape, hb.output⟩⟩
  refine ⟨hk.setNew _ _ (Nat.le_refl _), ?_, ?_, ?_⟩
  · rw [setCell_heap ((hb.block _ (by omega)).trans h.o)]; rfl
  · exact (Below.heap_setCell _ _ _ _ (by show _ ≠ W.heap.size; omega)).trans ((hb.block _ (by omega)).trans h.e)
  · rw [List.map_append]
    exact Kd.R_mono (Kd.R_far (p := ⟨W.heap.size, 0, none⟩) (Kd.R_mono (Kd.R_bound hr) (ok' := fun k => k ≠ W.heap.size) (fun k hk => by have := hk.2.1; omega)) (fun k hk => hk) _) (fun _ _ => trivial)
theorem Mid.out (h : Mid W w L ov l xb c0 c1 c2 c3 c4 cv) : w.cell? ⟨W.heap.size, 0, none⟩ = some ov ∧ w.frozen? ⟨W.heap.size, 0, none⟩ = false := by
  have := h.o
  constructor
  · unfold World.cell?; simp [this]
  · unfold World.frozen?; simp [this]
theorem Mid.out2 (h : Mid W w L ov l xb c0 c1 c2 c3 c4 cv) (hb : Below (W.heap.size + 2) w w') : w'.cell? ⟨W.heap.size, 0, none⟩ = some ov ∧ w'.frozen? ⟨W.heap.size, 0, none⟩ = false := by
  have := (hb.block W.heap.size (by omega)).trans h.o
  constructor
  · unfold World.cell?; simp [this]
  · unfold World.frozen?; simp [this]
theorem AskS.outs (h : AskS W w L ov l) : w.cell? ⟨W.heap.size, 0, none⟩ = some ov ∧ w.frozen? ⟨W.heap.size, 0, none⟩ = false ∧ w.cell? ⟨W.heap.size + 1, 0, none⟩ = some (.int .i64 0) ∧ w.frozen? ⟨W.heap.size + 1, 0, none⟩ = false := by
  have h1 := h.o
  have h2 := h.e
  unfold World.cell? World.frozen?
  refine ⟨?_, ?_, ?_, ?_⟩
  · simp [h1]
  · simp [h1]
  · simp [h2]
  · simp [h2]
theorem AskS.sl (h : AskS W w L ov l) : ∃ A c, ov = .slice A l.length c := by
  obtain ⟨A, c, e⟩ := Kd.R_slice h.r
  exact ⟨A, c, by rw [e, List.length_map]⟩
theorem kp_below {W w : World} (k : Kp W w (fun _ => False)) : Below W.heap.size W w := ⟨k.env.1, k.env.2.1, k.env.2.2, k.size, fun i hi => k.old i hi id⟩
theorem AskS.fin (h : AskS W w L ov l) : AskE W ((w.setCell ⟨W.heap.size, 0, none⟩ ov).setCell ⟨W.heap.size + 1, 0, none⟩ (.int .i64 0)) L l (.returned (.tuple #[ov, .int .i64 0])) := by
  refine ⟨ov, rfl, ?_, ((kp_below h.kp).setCell (Nat.le_refl _) _).setCell (Nat.le_succ _) _⟩
  have h1 := Kd.R_mono (Kd.R_bound h.r) (ok' := fun k => W.heap.size + 2 ≤ k) (fun k hk => hk.2.1)
  exact Kd.R_mono (Kd.R_lower (Kd.R_far (p := ⟨W.heap.size + 1, 0, none⟩) (Kd.R_far (p := ⟨W.heap.size, 0, none⟩) h1 (fun k hk => by show k ≠ W.heap.size; omega) _) (fun k hk => by show k ≠ W.heap.size + 1; omega) _) (by omega)) (fun _ _ => trivial)
theorem Mid.ne (h : Mid W w L ov l xb c0 c1 c2 c3 c4 cv) {g : Nat} {s : DA} (a : Arr W g s) : g ≠ xb := by have := a.lt; have := h.ge; omega
end
/-- 'hits' lists both. -/
theorem hits_run (H : List (Int × Int)) (hl : H.length ≤ 8796093022207) : ∀ (d j : Nat), j + d = H.length → ∀ k, d < k → PB.impl_hits.l0 k (H.map (·.1)) (H.map (·.2)) ((H.take j).map (fun h => (⟨h.1, h.2⟩ : PB.S39))) (H.length : Int) (j : Int) = some (H.map (fun h => (⟨h.1, h.2⟩ : PB.S39)))
  | 0, j, hj, k, hk => by
    obtain ⟨k, rfl⟩ : ∃ m, k = m + 1 := ⟨k - 1, by omega⟩
    simp only [PB.impl_hits.l0]
    rw [if_neg (by omega), List.take_of_length_le (by omega)]
  | d + 1, j, hj, k, hk => by
    obtain ⟨k, rfl⟩ : ∃ m, k = m + 1 := ⟨k - 1, by omega⟩
    have ih := hits_run H hl d (j + 1) (by omega) k (by omega)
    have hjl : j < H.length := by omega
    simp only [PB.impl_hits.l0]
    rw [if_pos (by omega), if_pos (by omega), if_pos (by simp; omega), if_pos (by simp; omega), if_pos (by simp; omega)]
    have e1 : wrap64 ((j : Int) + 1) = ((j + 1 : Nat) : Int) := by unfold wrap64; omega
    rw [e1, ← ih, List.take_succ_eq_append_getElem hjl, List.map_append]
    have e2 : ∀ f : Int × Int → Int, rd (H.map f) (j : Int) = f H[j] := fun f => by
      unfold rd
      rw [Int.toNat_natCast, List.getD_eq_getElem?_getD, List.getElem?_map, List.getElem?_eq_getElem hjl]; rfl
    rw [e2, e2]; rfl
theorem hits_any (w : World) (H : List (Int × Int)) (ids lens : List Int) (h1 : ids = H.map (·.1)) (h2 : lens = H.map (·.2)) (A1 A2 : Option Addr) (n1 n2 m : Nat) (hm : m ≤ 1000000000) (hl : H.length ≤ m) (l1 : ids.length ≤ n1) (g1 : Kd.C (Kd.int .i64) w A1 ids.length ids) (l2 : lens.length ≤ n2) (g2 : Kd.C (Kd.int .i64) w A2 lens.length lens) :
    Calls Try.prog 46 #[.slice A1 ids.length n1, .slice A2 lens.length n2] w fun e w' => ∃ v0_ : Value, e = .returned v0_ ∧ Kd.R PB.k39 39 w' w.heap.size (fun _ => True) v0_ (H.map (fun h => (⟨h.1, h.2⟩ : PB.S39))) ∧ Below w.heap.size w w' := by
  refine PB.impl_hits.calls (H.length + 1) A1 n1 _ A2 n2 _ _ w g1 l1 g2 l2 ?_
  subst h1
  subst h2
  unfold PB.impl_hits.f
  have := hits_run H (by omega) H.length 0 (by omega) (H.length + 1) (by omega)
  simpa using this
theorem cps_any (W : World) (g : Nat) (s : DA) (L : Keys) (t : ByteArray) (M_ : Arr W g s) (G_ : Good s 0 L) (C_ : Cln t) (hsz : t.size ≤ 1000000000) (hn : 0 < s.n) :
    Calls Try.prog 47 #[.slice (some ⟨g, 0, none⟩) s.n s.n, .string t] W fun e w' => ∃ (A1 A2 : Option Addr) (n1 n2 : Nat) (ids lens : List Int), e = .returned (.tuple #[.slice A1 ids.length n1, .slice A2 lens.length n2]) ∧ Aside0 (Calls Try.prog 46 #[.slice A1 ids.length n1, .slice A2 lens.length n2] w' fun e w2 => ∃ v0_ : Value, e = .returned v0_ ∧ Kd.R PB.k39 39 w2 w'.heap.size (fun _ => True) v0_ (hitsS L (bs t) (bs t).length) ∧ Below w'.heap.size w' w2) ∧ Below W.heap.size W w' := by
  refine (cps_calls W g s L t M_ G_ C_ hsz hn).mono ?_
  rintro e w' ⟨v1, v2, rfl, hr1, hr2, hB⟩
  obtain ⟨A1, n1, rfl, l1, g1⟩ := Kd.R_reads hr1
  obtain ⟨A2, n2, rfl, l2, g2⟩ := Kd.R_reads hr2
  exact ⟨A1, A2, n1, n2, _, _, rfl, ⟨hits_any w' (hitsTo L (bs t) (bs t).length) _ _ rfl rfl A1 A2 n1 n2 (bs t).length (by rw [bs_len]; exact hsz) (hits_len _ _ _) l1 g1 l2 g2⟩, hB⟩
set_option maxHeartbeats 16000000 in
set_option maxRecDepth 100000 in
theorem ask_calls (W : World) (g ci : Nat) (s : DA) (L : Keys) (ss : List ByteArray) (A : Option Addr) (M_ : Arr W g s) (G_ : Good s 0 L) (hn : 0 < s.n) (hC : ∀ t ∈ ss, Cln t ∧ t.size ≤ 1000000000) (hr : Kd.C Kd.string W A ss.length ss) (hfew : ss.length ≤ 1000000) :
    Calls Try.prog 29 #[.slice (some ⟨g, 0, none⟩) s.n s.n, .slice A ss.length ci] W fun e w' => AskE W w' L ss e := by
  have hmf : ∀ (fn : Fn) (first cap : Array Value) (w : World), (Instr.makeFunc fn first cap).run Try.prog w = .ok (.func fn first cap) w := fun _ _ _ _ => rfl
  have HA0 := Aside0.mk M_
  have G := Aside0.mk G_
  have HC := Aside0.mk hC
  have HR := Aside0.mk hr
  have big := M_.big
  clear M_ G_ hC hr
  go_enter_defers Try.func29, Try.ntmps29
  go_wp2_with fail
  go_loopg [12] ss.length (fun kq v12 w' => ∃ (j : Nat) (ov : Value), v12 = .int .i64 (j : Int) ∧ Aside0 (j + kq = ss.length) ∧ Aside0 (AskS W w' L ov (ss.take j)))
  case atStart => exact ⟨0, _, rfl, ⟨by omega⟩, ⟨asks_start W L⟩⟩
  case round =>
    obtain ⟨j, ov, rfl, HJ, HS⟩ := hrel
    have hj := HJ.out
    by_cases hjl : j < ss.length
    · have hjz : (j : Int) < (ss.length : Int) := by omega
      obtain ⟨ad, hA, hcell⟩ := str_cell HR.out j hjl
      subst hA
      have hcj : wr.cell? (ad.add j) = some (.string (ss.getD j ByteArray.empty)) := (HS.out.kp_cell hcell)
      have hm : ss.getD j ByteArray.empty ∈ ss := by rw [List.getD_eq_getElem?_getD, List.getElem?_eq_getElem hjl]; exact List.getElem_mem hjl
      obtain ⟨ht1, ht2⟩ := HC.out _ hm
      obtain ⟨t, ht⟩ : ∃ t, ss.getD j ByteArray.empty = t := ⟨_, rfl⟩
      rw [ht] at hcj ht1 ht2
      have HT1 := Aside0.mk ht1
      have HT := Aside0.mk ht
      clear ht1 ht hm hcell
      go_upto_region 6 with fail
      obtain ⟨w1, hw1, hm1⟩ : ∃ w1, w1 = _ ∧ Mid W w1 L ov (ss.take j) wr.heap.size _ _ _ _ _ _ := ⟨_, rfl, Mid.start HS.out⟩
      rw [← hw1]
      have hxb : W.heap.size + 2 ≤ wr.heap.size := hm1.ge
      obtain ⟨xb, hxbe⟩ : ∃ xb, wr.heap.size = xb := ⟨_, rfl⟩
      rw [hxbe] at hm1 hxb ⊢
      have HM := Aside0.mk hm1
      have hF := Aside0.mk (find_calls w1 g s L t (hm1.arr HA0.out) G.out HT1.out ht2 hn)
      have HXB : Aside0 (wr.heap.size = xb) := ⟨hxbe⟩
      clear hw1 hm1 hxbe
      go_upto_region 7 with (go_at_call 44; refine hF.out.mono ?_; rintro e_ w2 ⟨rfl, hB⟩; have hm2 := HM.out.below hB; have HM2 := Aside0.mk hm2; obtain ⟨k0, k1, k2, k3, k4, k5⟩ := hm2.bx.cells; have z0 := hm2.bx.froz 0; have z1 := hm2.bx.froz 1; clear hB hm2)
      obtain ⟨w3, hw3, hm3⟩ : ∃ w3, w3 = ((w2.setCell ⟨xb, 0, none⟩ (.int .i64 (fnd L t).1)).setCell ⟨xb, 1, none⟩ (.bool (fnd L t).2)) ∧ Mid W w3 L ov (ss.take j) xb _ _ _ _ _ _ := ⟨_, rfl, (HM2.out.set0 _).set1 _⟩
      rw [← hw3]
      clear hw3
      have HM3 := Aside0.mk hm3
      have hF := Aside0.mk (prefix_calls w3 g s L t (hm3.arr HA0.out) G.out HT1.out ht2 hn)
      clear HM2 hm3 k0 k1 k2 k3 k4 k5 z0 z1 HM
      go_upto_region 8 with (go_at_call 45; refine hF.out.mono ?_; rintro e_ w4 ⟨rfl, hB⟩; have hm4 := HM3.out.below hB; have HM4 := Aside0.mk hm4; obtain ⟨k0, k1, k2, k3, k4, k5⟩ := hm4.bx.cells; have z2 := hm4.bx.froz 2; have z3 := hm4.bx.froz 3; clear hB hm4)
      obtain ⟨w5, hw5, hm5⟩ : ∃ w5, w5 = ((w4.setCell ⟨xb, 2, none⟩ (.int .i64 (lng L t).1)).setCell ⟨xb, 3, none⟩ (.bool (lng L t).2)) ∧ Mid W w5 L ov (ss.take j) xb _ _ _ _ _ _ := ⟨_, rfl, (HM4.out.set2 _).set3 _⟩
      rw [← hw5]
      clear hw5
      have HM5 := Aside0.mk hm5
      have hF := Aside0.mk (cps_any w5 g s L t (hm5.arr HA0.out) G.out HT1.out ht2 hn)
      clear HM4 hm5 k0 k1 k2 k3 k4 k5 z2 z3 HM3
      go_upto_region 9 with (first | (go_at_call 47; refine hF.out.mono ?_; rintro e_ w6 ⟨A1, A2, n1, n2, ids, lens, rfl, HHit, hB⟩; have hm6 := HM5.out.below hB; have HM6 := Aside0.mk hm6; clear hB hm6) | (go_at_call 46; refine HHit.out.mono ?_; rintro e_ w7 ⟨hv, rfl, hr, hB⟩; have hm7 := HM6.out.below hB; have HM7 := Aside0.mk hm7; obtain ⟨k0, k1, k2, k3, k4, k5⟩ := hm7.bx.cells; have z4 := hm7.bx.froz 4; obtain ⟨Ah, nh, rfl⟩ := Kd.R_slice hr; have HRH := Aside0.mk hr; have hsz6 := hm7.bx.lt; have HSZ := Aside0.mk (HM6.out.bx.lt); clear hr hB hm7 hsz6))
      have hrh : Kd.R PB.k39 39 w7 (W.heap.size + 2) (fun k => xb < k) (Value.slice Ah (hitsS L (bs t) (bs t).length).length nh) (hitsS L (bs t) (bs t).length) := row_new HRH.out HSZ.out (by have := HSZ.out; omega)
      obtain ⟨w8, hw8, hm8, hr8⟩ : ∃ w8, w8 = w7.setCell ⟨xb, 4, none⟩ (Value.slice Ah (hitsS L (bs t) (bs t).length).length nh) ∧ Mid W w8 L ov (ss.take j) xb _ _ _ _ _ _ ∧ Kd.R PB.k39 39 w8 (W.heap.size + 2) (fun k => xb < k) (Value.slice Ah (hitsS L (bs t) (bs t).length).length nh) (hitsS L (bs t) (bs t).length) := ⟨_, rfl, HM7.out.set4 _, Kd.R_far (p := ⟨xb, 4, none⟩) hrh (fun k hk => by show k ≠ xb; omega) _⟩
      rw [← hw8]
      clear hw8
      have HM8 := Aside0.mk hm8
      have HR8 := Aside0.mk hr8
      have hl8 := hm8.bx.lt
      have HL8 := Aside0.mk hl8
      have hF := Aside0.mk (cb_calls w8 g xb s L t _ _ _ _ _ (hm8.arr HA0.out) G.out HT1.out ht2 hn hm8.bx (hm8.ne HA0.out))
      clear HM5 HM6 HM7 HRH hm8 hr8 hrh hl8 k0 k1 k2 k3 k4 k5 z4 HHit
      go_upto_region 10 with (go_at_call 48; refine hF.out.mono ?_; rintro e_ w9 ⟨rfl, hC9⟩; have HC9 := Aside0.mk hC9; clear hC9)
      obtain ⟨cv, g1, g2, g3⟩ := HC9.out
      have hm9 := HM8.out.cb g3 g1
      have HM9 := Aside0.mk hm9
      have HR9 := Aside0.mk (row_cb HR8.out g3)
      have HV9 := Aside0.mk (row_new g2 HL8.out (show W.heap.size + 2 ≤ w8.heap.size by have := HL8.out; omega))
      obtain ⟨k0, k1, k2, k3, k4, k5⟩ := hm9.bx.cells
      have ko := hm9.out.1
      have zo := hm9.out.2
      have hlt9 := hm9.bx.lt
      have hsz9 : W.heap.size + 2 ≤ w9.heap.size := by omega
      obtain ⟨Ac, nc, rfl⟩ := Kd.R_slice HV9.out
      have hOK : ∀ k, (xb < k) → True ∧ some k ≠ ov.ownBlock := fun k hk => ⟨trivial, fun e => by have := hm9.r.1 k e.symm; omega⟩
      have HOK := Aside0.mk hOK
      have hl34 : ((ss.take j).map (ans L)).length ≤ 1000000 := by simp; omega
      clear HC9 g1 g2 g3 hm9 HM8 HR8 HL8 HSZ hlt9 hOK
      cases gk with
      | zero => omega
      | succ kz =>
      go_wp2_with (first | ((with_reducible refine gate_builtin (b := .append) (xs := #[.tmp 47, .tmp 49]) rfl ?_); at_builtin; refine Kd.R_append PB.k34 (w0 := w9) (W.heap.size + 2) rfl (.tmp 47) (.tmp 49) 42 34 (.agg #[(.int .i64 0), (.bool false), (.int .i64 0), (.bool false), (.slice none 0 0), (.slice none 0 0)]) 80 rfl Try.underlying42 ans_info rfl (by decide) (by omega) _ _ (ans L t) [.int .i64 (ans L t).f0.f0, .bool (ans L t).f0.f1, .int .i64 (ans L t).f1.f0, .bool (ans L t).f1.f1, _, _] (fun _ => True) (fun k => xb < k) rfl rfl (PB.k34_mkM _ _ _ _ HR9.out HV9.out) HOK.out (fun _ _ => trivial) (Kd.R_mono HM9.out.r (fun _ _ => trivial)) (Below.refl _ _) hsz9 (by omega) ?_; intro va wa ho hb hg hat; obtain ⟨k9, z9⟩ := HM9.out.out2 hb; have HD := Aside0.mk (HM9.out.done hb ho); obtain ⟨Aa, na, rfl⟩ := Kd.R_slice ho; clear ho hb hg hat ko zo) | fail)
      go_roundg kz
      case measure => omega
      case rel => exact ⟨j + 1, _, congrArg (Value.int .i64) (by omega), ⟨by omega⟩, ⟨by rw [List.take_succ_eq_append_getElem hjl, show ss[j] = t by rw [← HT.out, List.getD_eq_getElem?_getD, List.getElem?_eq_getElem hjl]; rfl]; have h9 := HD.out; simp only [List.length_append, List.length_map, List.length_take, List.length_cons, List.length_nil, Nat.zero_add] at h9; exact h9⟩⟩
    · have hjz : ¬ (j : Int) < (ss.length : Int) := by omega
      have hjj : j = ss.length := by omega
      subst hjj
      have hs := HS.out
      rw [List.take_length] at hs
      obtain ⟨Ao, no, rfl⟩ := hs.sl
      have HSF := Aside0.mk hs
      obtain ⟨q1, q2, q3, q4⟩ := hs.outs
      clear hs HS
      go_wp2_with fail
      refine leaves_cons (f := 43) (args := #[.pointer (some ⟨W.heap.size, 0, none⟩), .pointer (some ⟨W.heap.size + 1, 0, none⟩)]) (by simp) (by simp [go_sem]) ?_
      refine (ask1_idle _ _ _).mono ?_
      rintro e u' w'' ⟨rfl, rfl, rfl⟩
      simp [Leaves, settle, results, Try.results29, go_sem, q1, q2, q3, q4]
      exact HSF.out.fin
end Go.Proofs.Ytaejkbjepbifcaa.Da
namespace Go.Proofs.Ytaejkbjepbifcaa.Da
open Go.RowKit Go.Maps Go.ChangeShapes Go.Proofs.YtaejkbjepbifcaaW.PrintWords
set_option linter.unusedVariables false
set_option linter.unusedSimpArgs false
/-- What BuildWithIDs hands back. -/
def BldE (W W' : World) (S : Nat → Prop) (L : Keys) (e : Ending) : Prop := ∃ g s, e = .returned (.tuple #[.slice (some ⟨g, 0, none⟩) s.n s.n, .nilIface]) ∧ Arr W' g s ∧ Good s 0 L ∧ 0 < s.n ∧ W.heap.size ≤ g ∧ Kp W W' S
theorem bld_end {W w w' : World} {x g g' : Nat} {s' : DA} {L : Keys} {S : Nat → Prop} (hk : Kp W w S) (hx : W.heap.size ≤ x) (hg : W.heap.size ≤ g) (h : BldP w w' x g L g' s') : BldE W w' S L (.returned (.tuple #[.slice (some ⟨g', 0, none⟩) s'.n s'.n, .nilIface])) := by
  obtain ⟨h1, h2, h3, h4, h5⟩ := h
  have := hk.size
  exact ⟨g', s', rfl, h1, h2, h3, by omega, (hk.trans h5).mono (fun i hi h => by rcases h with h | h | h; exact h; omega; omega)⟩
set_option maxHeartbeats 16000000 in
set_option maxRecDepth 100000 in
theorem build_sorted (W : World) (kb ko ib io Nc Dc k : Nat) (ss : List ByteArray) (ds : List Int) (HSRC : Src W kb ko ss ib io ds) (hr : Kd.C Kd.string W (some ⟨kb, ko, none⟩) ss.length ss) (hc : ss.length ≤ Nc) (hs : PB.slices_IsSorted_string_string.f k ss = some true) (hne : ss ≠ []) (hok : Okk (keysAll ss ds)) (has : Asc (keysAll ss ds)) (ht : tot (keysAll ss ds) ≤ 32000) :
    Calls Try.prog 26 #[.slice (some ⟨kb, ko, none⟩) ss.length Nc, .slice (some ⟨ib, io, none⟩) ds.length Dc] W fun e w' => BldE W w' (fun _ => False) (keysAll ss ds) e := by
  have HS0 := Aside0.mk HSRC
  have HR := Aside0.mk hr
  have HIS := Aside0.mk hs
  have HNE := Aside0.mk hne
  have HOK := Aside0.mk hok
  have HAS := Aside0.mk has
  have HT := Aside0.mk ht
  have hlen := HSRC.len
  have hpos : 0 < ss.length := List.length_pos_iff.2 hne
  have hl0 : ((ss.length : Int) == 0) = false := by rw [beq_eq_false_iff_ne]; omega
  have hl1 : ((ss.length : Int) != (ss.length : Int)) = false := by simp
  have hfew := HSRC.few
  have HLE := Aside0.mk hlen
  rw [hlen]
  clear HSRC hr hs hne hok has ht hlen
  go_enter Try.func26, Try.ntmps26
  refine wp_seq_k fun K hK_ => ?_
  have hK := Aside0.mk hK_
  clear hK_
  go_wp2_with fail
  refine hK.out _ _ ?_
  clear hK K
  refine wp_seq_k fun K hK_ => ?_
  have hK := Aside0.mk hK_
  clear hK_
  go_wp2_with fail
  refine hK.out _ _ ?_
  clear hK K
  have hz1 : (W.alloc (.cells #[] 100)).heap.size = W.heap.size + 1 := Own.size_alloc _ _
  obtain ⟨w1, hw1, hbx, hk1⟩ : ∃ w1, w1 = (W.alloc (.cells #[] 100)).alloc (.cells #[.slice (some ⟨W.heap.size, 0, none⟩) 0 0] 62) ∧ w1.heap[W.heap.size + 1]? = some (.cells #[.slice (some ⟨W.heap.size, 0, none⟩) 0 0] 62 (0, 0)) ∧ Kp W w1 (fun _ => False) := ⟨_, rfl, by rw [← hz1]; exact blk_new _ _, ((Kp.self W _).alloc _).alloc _⟩
  rw [← hw1]
  obtain ⟨x, hx⟩ : ∃ x, W.heap.size + 1 = x := ⟨_, rfl⟩
  rw [hx] at hbx ⊢
  have HX := Aside0.mk hx
  have HI := Aside0.mk (init_calls w1 x _ hbx)
  have HK1 := Aside0.mk hk1
  clear hw1 hbx hk1 hz1 hx
  refine wp_seq_k fun K hK_ => ?_
  have hK := Aside0.mk hK_
  clear hK_
  go_wp2_with (first | (go_at_call 37; refine HI.out.mono ?_; rintro e_ w2 ⟨rfl, g, hg, hM, hK⟩; have HM := Aside0.mk hM; have HG := Aside0.mk hg; have HK2 : Aside0 (Kp W w2 (fun _ => False)) := ⟨(HK1.out.trans hK).mono (fun i hi h => by have := HX.out; rcases h with h | h; exact h; omega)⟩; have HIS2 := Aside0.mk (PB.slices_IsSorted_string_string.calls k _ Nc ss true w2 (Kd.C_below HR.out (kp_below HK2.out)) hc HIS.out); clear hM hg hK) | (go_at_call 39; refine HIS2.out.mono ?_; rintro e_ w3 ⟨rfl, ⟨q3, rfl⟩⟩))
  refine hK.out _ _ ?_
  clear hK K
  refine wp_seq_k fun K hK_ => ?_
  have hK := Aside0.mk hK_
  clear hK_
  go_wp2_with fail
  refine hK.out _ _ ?_
  clear hK K
  refine wp_seq_k fun K hK_ => ?_
  have hK := Aside0.mk hK_
  clear hK_
  go_wp2_with fail
  refine hK.out _ _ ?_
  clear hK K
  refine wp_seq_k fun K hK_ => ?_
  have hK := Aside0.mk hK_
  clear hK_
  go_wp2_with (first | (go_at_call 37; refine HI.out.mono ?_; rintro e_ w2 ⟨rfl, g, hg, hM, hK⟩; have HM := Aside0.mk hM; have HG := Aside0.mk hg; have HK2 : Aside0 (Kp W w2 (fun _ => False)) := ⟨(HK1.out.trans hK).mono (fun i hi h => by have := HX.out; rcases h with h | h; exact h; omega)⟩; have HIS2 := Aside0.mk (PB.slices_IsSorted_string_string.calls k _ Nc ss true w2 (Kd.C_below HR.out (kp_below HK2.out)) hc HIS.out); clear hM hg hK) | (go_at_call 39; refine HIS2.out.mono ?_; rintro e_ w3 ⟨rfl, ⟨q3, rfl⟩⟩))
  refine hK.out _ _ ?_
  clear hK K
  have hm3 := HM.out.drewN q3
  have hk3 := HK2.out.drewN q3
  have hs3 := HS0.out.step hk3 id id
  have hg3 : W.heap.size ≤ g := by have := HK1.out.size; have := HG.out; omega
  have hap : kb ≠ x ∧ kb ≠ g ∧ ib ≠ x ∧ ib ≠ g := by
    have := HS0.out.kl
    have := HS0.out.il
    have := HX.out
    omega
  have HM3 := Aside0.mk hm3
  have HK3 := Aside0.mk hk3
  have HS3 := Aside0.mk hs3
  have HG3 := Aside0.mk hg3
  have HAP := Aside0.mk hap
  clear hm3 hk3 hs3 hg3 hap HM HK2 HIS2 HI HK1
  refine bld_tail _ x g kb ko ib io Nc Dc ss ds HM3 HS3 HNE HOK HAS HT HAP ⟨?_⟩
  intro n12 n13 n62 n63 n64 n65 n66 n67 n68 n69 n70 n71 n72 n73 n74 n75 n76 n77 n78 n79 n80 g' s' w' HB
  (try simp only [Exit.then, Exit.jump])
  exact bodyPost_ret (v := .tuple #[.slice (some ⟨g', 0, none⟩) s'.n s'.n, .nilIface]) (by simp [results, Try.results26, go_sem]) rfl (bld_end HK3.out (by have := HX.out; omega) HG3.out HB.out)
end Go.Proofs.Ytaejkbjepbifcaa.Da
namespace Go.Proofs.Ytaejkbjepbifcaa.Da
open Go.RowKit Go.Proofs.YtaejkbjepbifcaaW.PrintWords
set_option linter.unusedVariables false
set_option linter.unusedSimpArgs false
/-- A row of one-cell elements of the call's own, that is not empty, stands at the head of a block. -/
theorem own_head {α : Type} {d : Kd α} {e : Nat} {w : World} {base : Nat} {ok : Nat → Prop} {v : Value} {xs : List α} (h : Kd.R d e w base ok v xs) (hne : xs ≠ []) : ∃ g c, v = .slice (some ⟨g, 0, none⟩) xs.length c ∧ base ≤ g ∧ g < w.heap.size ∧ xs.length ≤ c ∧ Kd.C d w (some ⟨g, 0, none⟩) xs.length xs := by
  obtain ⟨inner, ho⟩ := Kd.R_own h
  have hp : 0 < xs.length := List.length_pos_iff.2 hne
  rcases ho.2 with ⟨_, h0⟩ | ⟨g, cap, cur, rfl, h2, h3, h4, h5, h6, h7⟩
  · omega
  · obtain ⟨A, c, e1, l1, g1⟩ := Kd.R_reads h
    injection e1 with e1 e2 e3
    subst e1
    subst e3
    exact ⟨g, _, rfl, h2, (Array.getElem?_eq_some_iff.1 h3).1, l1, g1⟩
theorem add_at0 (g j : Nat) : (⟨g, 0, none⟩ : Addr).add j = ⟨g, 0 + j, none⟩ := by unfold Addr.add; split <;> simp_all
theorem int_cell {W : World} {A : Option Addr} {ds : List Int} (h : Kd.C (Kd.int .i64) W A ds.length ds) (j : Nat) (hj : j < ds.length) : ∃ ad, A = some ad ∧ W.cell? (ad.add j) = some (.int .i64 (ds.getD j 0)) := by
  obtain ⟨ad, c, e, _, hK, hc0⟩ := Kd.C_get h 0 (j : Int) (by omega) (by omega)
  have hK : c = [.int .i64 _] := hK
  subst hK
  have := hc0 0 _ rfl
  rw [Int.toNat_natCast] at this
  have e1 : (Kd.int .i64).sz = 1 := rfl
  rw [e1, Nat.mul_one, Nat.add_zero] at this
  exact ⟨ad, e, this⟩
/-- What is asked of keys and identifiers. -/
structure KeysOk (ss : List ByteArray) (ds : List Int) : Prop where
  ne : ss ≠ []
  len : ds.length = ss.length
  few : ss.length ≤ 1000000
  sz : ∀ t ∈ ss, t.size ≤ 1000000000
  dsb : ∀ d ∈ ds, 0 ≤ d ∧ d ≤ 2147483647
  ok : Okk (keysAll ss ds)
  asc : Asc (keysAll ss ds)
  tot : tot (keysAll ss ds) ≤ 32000
theorem src_of {W : World} {kb ib : Nat} {ss : List ByteArray} {ds : List Int} (k : KeysOk ss ds) (h1 : Kd.C Kd.string W (some ⟨kb, 0, none⟩) ss.length ss) (h2 : Kd.C (Kd.int .i64) W (some ⟨ib, 0, none⟩) ds.length ds) (hk : kb < W.heap.size) (hi : ib < W.heap.size) : Src W kb 0 ss ib 0 ds :=
  ⟨fun j hj => by
    obtain ⟨ad, e, h⟩ := str_cell h1 j hj
    cases e
    rw [add_at0] at h
    exact h, fun j hj => by
    obtain ⟨ad, e, h⟩ := int_cell h2 j hj
    cases e
    rw [add_at0] at h
    exact h, hk, hi, k.len, k.few, k.sz, k.dsb⟩
theorem clone_strs (ss : List ByteArray) (h : ss.length ≤ 1000000) : PB.slices_Clone_string_string.f ss = some ss := by
  unfold PB.slices_Clone_string_string.f
  simp only [Option.bind_some, List.nil_append, List.length_nil, Nat.zero_add]
  rw [if_pos (by omega)]
theorem clone_ints (ds : List Int) (h : ds.length ≤ 1000000) : PB.slices_Clone_int_int.f ds = some ds := by
  unfold PB.slices_Clone_int_int.f
  simp only [Option.bind_some, List.nil_append, List.length_nil, Nat.zero_add]
  rw [if_pos (by omega)]
/-- What is asked of texts. -/
def InsOk (l : List ByteArray) : Prop := l.length ≤ 1000000 ∧ ∀ t ∈ l, Cln t ∧ t.size ≤ 1000000000
set_option maxHeartbeats 16000000 in
set_option maxRecDepth 100000 in
theorem trie_calls (W : World) (A0 A1 A2 : Option Addr) (c0 c1 c2 k : Nat) (ss ts : List ByteArray) (ds : List Int) (hr0 : Kd.C Kd.string W A0 ss.length ss) (hc0 : ss.length ≤ c0) (hr1 : Kd.C (Kd.int .i64) W A1 ds.length ds) (hc1 : ds.length ≤ c1) (hr2 : Kd.C Kd.string W A2 ts.length ts) (hs : PB.slices_IsSorted_string_string.f k ss = some true) (K : KeysOk ss ds) (hI : InsOk ts) :
    Calls Try.prog 17 #[.slice A0 ss.length c0, .slice A1 ds.length c1, .slice A2 ts.length c2] W fun e w' => AskE W w' (keysAll ss ds) ts e := by
  have HR2 := Aside0.mk hr2
  have HR1 := Aside0.mk hr1
  have HC1 := Aside0.mk hc1
  have HK := Aside0.mk K
  have HI := Aside0.mk hI
  have HS := Aside0.mk hs
  have h1 := Aside0.mk (PB.slices_Clone_string_string.calls A0 c0 ss ss W hr0 hc0 (clone_strs ss K.few))
  clear hr0 hr1 hr2 hc1 hs K hI
  go_enter Try.func17, Try.ntmps17
  go_wp2_with (first | (go_at_call 27; refine h1.out.mono ?_; rintro e_ w1 ⟨v1, rfl, hv, hB⟩; have HB1 := Aside0.mk hB; have HV1 := Aside0.mk hv; have h2 := Aside0.mk (PB.slices_Clone_int_int.calls A1 c1 ds ds w1 (Kd.C_below HR1.out hB) HC1.out (clone_ints ds (by rw [HK.out.len]; exact HK.out.few))); obtain ⟨kb, kc, rfl, b1, b2, b3, b4⟩ := own_head hv HK.out.ne; have HKB := Aside0.mk b4; clear hB hv b4) | (go_at_call 28; refine h2.out.mono ?_; rintro e_ w2 ⟨v2, rfl, hv, hB⟩; have HB2 := Aside0.mk hB; have HV2 := Aside0.mk hv; obtain ⟨ib, ic, rfl, d1, d2, d3, d4⟩ := own_head hv (fun e => HK.out.ne (List.length_eq_zero_iff.1 (by rw [← HK.out.len, e]; rfl))); have HIB := Aside0.mk d4; have hkb2 := Kd.C_below HKB.out hB; have h3 := Aside0.mk (build_sorted w2 kb 0 ib 0 kc ic k ss ds (src_of HK.out hkb2 d4 (by have := hB.size; omega) d2) hkb2 b3 HS.out HK.out.ne HK.out.ok HK.out.asc HK.out.tot); clear hB hv d4 hkb2) | (go_at_call 26; refine h3.out.mono ?_; rintro e_ w3 ⟨g, s, rfl, hA, hG, hn, hg, hK⟩; have HA := Aside0.mk hA; have HG := Aside0.mk hG; have HB3 := Aside0.mk (kp_below hK); have h4 := Aside0.mk (ask_calls w3 g c2 s (keysAll ss ds) ts A2 hA hG hn HI.out.2 (Kd.C_below (Kd.C_below (Kd.C_below HR2.out HB1.out) HB2.out) HB3.out) HI.out.1); clear hA hG hK) | (go_at_call 29; refine h4.out.mono ?_; rintro e_ w4 ⟨ov, rfl, hR, hB⟩; have HR4 := Aside0.mk hR; have HB4 := Aside0.mk hB; clear hR hB))
  have hz1 := HB1.out.size
  have hz2 := HB2.out.size
  have hz3 := HB3.out.size
  refine bodyPost_ret (v := .tuple #[ov, .int .i64 0]) (by simp [results, Try.results17, go_sem]) rfl ⟨ov, rfl, Kd.R_lower HR4.out (by omega), below_step (below_step (below_step HB1.out HB2.out) HB3.out) HB4.out⟩
end Go.Proofs.Ytaejkbjepbifcaa.Da
namespace Go.Proofs.Ytaejkbjepbifcaa.Da
open Go.RowKit Go.Proofs.YtaejkbjepbifcaaW.PrintWords Go.Proofs.Ytaejkbjepbifcaa.Plain
set_option linter.unusedVariables false
set_option linter.unusedSimpArgs false
/-- Some answer, and what follows when it is yes. -/
def Tru (g : Nat → Option Bool) (P : Prop) : Prop := ∃ r, Ev g r ∧ (r = true → P)
theorem wrap_up (i : Nat) (h : i ≤ 4611686018427387904) : wrap64 ((i : Int) + 1) = ((i + 1 : Nat) : Int) := by unfold wrap64; omega
theorem wrap_dn (i : Nat) (h0 : 1 ≤ i) (h : i ≤ 4611686018427387904) : wrap64 ((i : Int) - 1) = ((i - 1 : Nat) : Int) := by unfold wrap64; omega
theorem rdOf_nat {α : Type} (d : α) (l : List α) (i : Nat) : rdOf d l (i : Int) = l.getD i d := by unfold rdOf; rw [Int.toNat_natCast]
/-- Sizes that fit. -/
def Fits (l : List ByteArray) : Prop := l.length ≤ 2147483647 ∧ ∀ t ∈ l, t.size ≤ 2147483647
theorem getD_mem {α : Type} {l : List α} {i : Nat} (d : α) (h : i < l.length) : l.getD i d ∈ l := by
  rw [List.getD_eq_getElem?_getD, List.getElem?_eq_getElem h]; exact List.getElem_mem h
theorem all_getD {α : Type} {l : List α} (d : α) {P : α → Prop} (h : ∀ j, j < l.length → P (l.getD j d)) : ∀ x ∈ l, P x := by
  intro x hx
  obtain ⟨j, hj, rfl⟩ := List.getElem_of_mem hx
  have := h j hj
  rw [List.getD_eq_getElem?_getD, List.getElem?_eq_getElem hj] at this
  exact this
theorem zf_key (l : List ByteArray) (hl : l.length ≤ 4611686018427387904) : ∀ d i, i + d = l.length → ∃ r, Ev (fun k => PB.laws_zzFits3.l0 k l (l.length : Int) (i : Int)) r ∧ (r = true → ∀ j, i ≤ j → j < l.length → (l.getD j ByteArray.empty).size ≤ 2147483647)
  | 0, i, h => ⟨true, Ev.step (fun k => by rw [PB.laws_zzFits3.l0]) (evn (by omega) (Ev.now true)), fun _ j h1 h2 => by omega⟩
  | d + 1, i, h => by
    obtain ⟨r, hr, hp⟩ := zf_key l hl d (i + 1) (by omega)
    by_cases hs : ((l.getD i ByteArray.empty).size : Int) > 2147483647
    · exact ⟨false, Ev.step (fun k => by rw [PB.laws_zzFits3.l0]) (evp (by omega) (evp (by omega) (evp (by omega) (evp (by rw [rdOf_nat]; exact hs) (Ev.now false))))), fun h => by cases h⟩
    · refine ⟨r, Ev.step (fun k => by rw [PB.laws_zzFits3.l0]) (evp (by omega) (evp (by omega) (evp (by omega) (evn (by rw [rdOf_nat]; exact hs) (by rw [wrap_up i (by omega)]; exact hr))))), fun h j h1 h2 => ?_⟩
      by_cases e : j = i
      · subst e; omega
      · exact hp h j (by omega) h2
theorem zf_ev (l : List ByteArray) (hl : l.length ≤ 4611686018427387904) : Tru (fun k => PB.laws_zzFits3.f k l) (Fits l) := by
  unfold PB.laws_zzFits3.f
  by_cases h : (l.length : Int) > 2147483647
  · exact ⟨false, evp h (Ev.now false), fun h => by cases h⟩
  · obtain ⟨r, hr, hp⟩ := zf_key l hl l.length 0 (by omega)
    exact ⟨r, evn h hr, fun e => ⟨by omega, all_getD _ (fun j hj => hp e j (Nat.zero_le _) hj)⟩⟩
/-- The texts' bytes, each with one more. -/
def wt (l : List ByteArray) : Nat := (l.map (fun t => t.size + 1)).sum
theorem wt_drop {l : List ByteArray} {j : Nat} (h : j < l.length) : wt (l.drop j) = (l.getD j ByteArray.empty).size + 1 + wt (l.drop (j + 1)) := by
  rw [List.drop_eq_getElem_cons h, List.getD_eq_getElem?_getD, List.getElem?_eq_getElem h]
  unfold wt
  rw [List.map_cons, List.sum_cons]
  rfl
theorem wt_le {l : List ByteArray} (h : Fits l) (j : Nat) : wt (l.drop j) ≤ 2147483648 * 2147483647 := by
  have key : ∀ m : List ByteArray, (∀ t ∈ m, t.size ≤ 2147483647) → wt m ≤ 2147483648 * m.length := by
    intro m
    induction m with
    | nil => intro _; simp [wt]
    | cons t m ih =>
      intro hm
      have h1 := hm t List.mem_cons_self
      have h2 := ih (fun x hx => hm x (List.mem_cons_of_mem _ hx))
      simp only [wt, List.map_cons, List.sum_cons, List.length_cons] at h2 ⊢
      omega
  have h1 := key (l.drop j) (fun t ht => h.2 t (List.mem_of_mem_drop ht))
  have h2 := h.1
  rw [List.length_drop] at h1
  have : 2147483648 * (l.length - j) ≤ 2147483648 * 2147483647 := Nat.mul_le_mul_left _ (by omega)
  omega
theorem few_in (ls : List (List ByteArray)) (i : Nat) (hi : i < ls.length) (hf : Fits (ls.getD i [])) (r : Bool) (hls : ls.length ≤ 4) : ∀ d j n, j + d = (ls.getD i []).length → n + wt ((ls.getD i []).drop j) ≤ 9223372036854775807 →
    Ev (fun k => PB.laws_few.l0 k ls ((n + wt ((ls.getD i []).drop j) : Nat) : Int) (ls.length : Int) ((i + 1 : Nat) : Int)) r → Ev (fun k => PB.laws_few.l1 k ls (n : Int) (i : Int) (ls.length : Int) (i : Int) ((PB.rd_L1 ls (i : Int)).length : Int) (j : Int)) r
  | 0, j, n, h, hn, hr => by
    have e : PB.rd_L1 ls (i : Int) = ls.getD i [] := by unfold PB.rd_L1; rw [Int.toNat_natCast]
    refine Ev.step (fun k => by rw [PB.laws_few.l1]) (evn (by rw [e]; omega) ?_)
    rw [wrap_up i (by omega)]
    rw [List.drop_eq_nil_of_le (by omega)] at hr
    exact hr
  | d + 1, j, n, h, hn, hr => by
    have e : PB.rd_L1 ls (i : Int) = ls.getD i [] := by unfold PB.rd_L1; rw [Int.toNat_natCast]
    have hj : j < (ls.getD i []).length := by omega
    have hsz := hf.2 _ (getD_mem ByteArray.empty hj)
    have hl := hf.1
    have hw := wt_drop hj
    have ih := few_in ls i hi hf r hls d (j + 1) (n + (((ls.getD i []).getD j ByteArray.empty).size + 1)) (by omega) (by omega) (by rw [hw] at hr; rw [show n + (((ls.getD i []).getD j ByteArray.empty).size + 1) + wt ((ls.getD i []).drop (j + 1)) = n + (((ls.getD i []).getD j ByteArray.empty).size + 1 + wt ((ls.getD i []).drop (j + 1))) by omega]; exact hr)
    refine Ev.step (fun k => by rw [PB.laws_few.l1]) (evp (by rw [e]; omega) (evp (by omega) (evp (by omega) (evp (by omega) (evp (by rw [e]; omega) ?_)))))
    have e1 : wrap64 ((n : Int) + wrap64 (((rdOf ByteArray.empty (PB.rd_L1 ls (i : Int)) (j : Int)).size : Int) + 1)) = ((n + (((ls.getD i []).getD j ByteArray.empty).size + 1) : Nat) : Int) := by
      rw [e, rdOf_nat, wrap_ok (i := (((ls.getD i []).getD j ByteArray.empty).size : Int) + 1) (by omega) (by omega), wrap_ok (by omega) (by omega)]
      omega
    rw [e1, wrap_up j (by omega)]
    exact ih
def wts (ls : List (List ByteArray)) : Nat := (ls.map wt).sum
theorem few_key (ls : List (List ByteArray)) (hf : ∀ l ∈ ls, Fits l) (hls : ls.length ≤ 4) : ∀ d i n, i + d = ls.length → n + wts (ls.drop i) ≤ 9223372036854775807 →
    Ev (fun k => PB.laws_few.l0 k ls (n : Int) (ls.length : Int) (i : Int)) (decide (n + wts (ls.drop i) ≤ 4000))
  | 0, i, n, h, hn => by
    rw [List.drop_eq_nil_of_le (by omega)]
    refine Ev.step (fun k => by rw [PB.laws_few.l0]) (evn (by omega) ?_)
    have : decide ((n : Int) ≤ 4000) = decide (n + wts [] ≤ 4000) := by
      simp only [wts, List.map_nil, List.sum_nil, Nat.add_zero]
      apply decide_eq_decide.2
      omega
    rw [this]
    exact Ev.now _
  | d + 1, i, n, h, hn => by
    have hi : i < ls.length := by omega
    have e : wts (ls.drop i) = wt (ls.getD i []) + wts (ls.drop (i + 1)) := by
      rw [List.drop_eq_getElem_cons hi, List.getD_eq_getElem?_getD, List.getElem?_eq_getElem hi]
      unfold wts
      rw [List.map_cons, List.sum_cons]
      rfl
    have ih := few_key ls hf hls d (i + 1) (n + wt (ls.getD i [])) (by omega) (by omega)
    have hin := few_in ls i hi (hf _ (getD_mem [] hi)) _ hls (ls.getD i []).length 0 n (by omega) (by rw [List.drop_zero]; omega) (by rw [List.drop_zero]; exact ih)
    rw [e, ← Nat.add_assoc]
    rw [show ((0 : Nat) : Int) = 0 from rfl] at hin
    exact Ev.step (fun k => by rw [PB.laws_few.l0]) (evp (by omega) (evp (by omega) (evp (by omega) hin)))
theorem wt_fits {l : List ByteArray} (h : Fits l) : wt l ≤ 4611686016279904256 := by have := wt_le h 0; rw [List.drop_zero] at this; omega
theorem few_ev2 (a b : List ByteArray) (ha : Fits a) (hb : Fits b) : Ev (fun k => PB.laws_few.f k [a, b]) (decide (wt a + wt b ≤ 4000)) := by
  have h1 := wt_fits ha
  have h2 := wt_fits hb
  have := few_key [a, b] (by intro l hl; simp at hl; rcases hl with rfl | rfl <;> assumption) (by simp) 2 0 0 rfl (by simp [wts]; omega)
  simpa [wts, PB.laws_few.f] using this
theorem bt_nat (t : ByteArray) (i : Nat) (h : i < t.size) : bt t (i : Int) = (bs t).getD i 0 := by
  rw [bs_at t i h]
  unfold bt
  rw [dif_pos (by simpa using h)]
  simp
theorem within_key (t : ByteArray) (ht : t.size ≤ 4611686018427387904) : ∀ d i, i + d = t.size → ∃ r, Ev (fun k => PB.laws_within.l0 k t 0 (t.size : Int) (i : Int)) r ∧ (r = false → ∀ j, i ≤ j → j < t.size → (bs t).getD j 0 ≠ 0)
  | 0, i, h => ⟨false, Ev.step (fun k => by rw [PB.laws_within.l0]) (evn (by omega) (Ev.now false)), fun _ j h1 h2 => by omega⟩
  | d + 1, i, h => by
    obtain ⟨r, hr, hp⟩ := within_key t ht d (i + 1) (by omega)
    by_cases hs : bt t (i : Int) = 0
    · exact ⟨true, Ev.step (fun k => by rw [PB.laws_within.l0]) (evp (by omega) (evp (by omega) (evp (by omega) (evp hs (Ev.now true))))), fun h => by cases h⟩
    · refine ⟨r, Ev.step (fun k => by rw [PB.laws_within.l0]) (evp (by omega) (evp (by omega) (evp (by omega) (evn hs (by rw [wrap_up i (by omega)]; exact hr))))), fun h j h1 h2 => ?_⟩
      by_cases e : j = i
      · subst e; rw [← bt_nat t j (by omega)]; exact hs
      · exact hp h j (by omega) h2
theorem bs_range (t : ByteArray) : ∀ c ∈ bs t, 0 ≤ c ∧ c ≤ 255 := by
  intro c hc
  unfold bs at hc
  obtain ⟨b, _, rfl⟩ := List.mem_map.1 hc
  have := b.toNat_lt
  omega
theorem cln_of {t : ByteArray} (h : ∀ j, j < t.size → (bs t).getD j 0 ≠ 0) : Cln t := by
  intro c hc
  have hr := bs_range t c hc
  have h1 : c ≠ 0 := all_getD (P := fun c => c ≠ 0) 0 (fun j hj => h j (by rw [bs_len] at hj; exact hj)) c hc
  unfold Okc
  omega
theorem within_ev (t : ByteArray) (ht : t.size ≤ 4611686018427387904) : ∃ r, Ev (fun k => PB.laws_within.f k t 0) r ∧ (r = false → Cln t) := by
  obtain ⟨r, hr, hp⟩ := within_key t ht t.size 0 (by omega)
  exact ⟨r, hr, fun e => cln_of (fun j hj => hp e j (Nat.zero_le _) hj)⟩
theorem clean_key (l : List ByteArray) (hl : Fits l) : ∀ d i, i + d = l.length → ∃ r, Ev (fun k => PB.laws_clean.l0 k l (l.length : Int) (i : Int)) r ∧ (r = true → ∀ j, i ≤ j → j < l.length → Cln (l.getD j ByteArray.empty))
  | 0, i, h => ⟨true, Ev.step (fun k => by rw [PB.laws_clean.l0]) (evn (by omega) (Ev.now true)), fun _ j h1 h2 => by omega⟩
  | d + 1, i, h => by
    have hl1 := hl.1
    obtain ⟨r, hr, hp⟩ := clean_key l hl d (i + 1) (by omega)
    have hm := hl.2 _ (getD_mem ByteArray.empty (show i < l.length by omega))
    obtain ⟨rw_, hw, hwp⟩ := within_ev (l.getD i ByteArray.empty) (by omega)
    cases rw_ with
    | true => exact ⟨false, Ev.step (fun k => by rw [PB.laws_clean.l0]) (evp (by omega) (evp (by omega) (evp (by omega) (by rw [rdOf_nat]; exact Ev.bind hw (evp rfl (Ev.now false)))))), fun h => by cases h⟩
    | false =>
      refine ⟨r, Ev.step (fun k => by rw [PB.laws_clean.l0]) (evp (by omega) (evp (by omega) (evp (by omega) (by rw [rdOf_nat]; exact Ev.bind hw (evn (by simp) (by rw [wrap_up i (by omega)]; exact hr)))))), fun h j h1 h2 => ?_⟩
      by_cases e : j = i
      · subst e; exact hwp rfl
      · exact hp h j (by omega) h2
theorem clean_ev (l : List ByteArray) (hl : Fits l) : Tru (fun k => PB.laws_clean.f k l) (∀ t ∈ l, Cln t) := by
  obtain ⟨r, hr, hp⟩ := clean_key l hl l.length 0 (by omega)
  exact ⟨r, hr, fun e => all_getD _ (fun j hj => hp e j (Nat.zero_le _) hj)⟩
theorem ids_key (l : List Int) (n : Int) (hl : l.length ≤ 4611686018427387904) : ∀ d i, i + d = l.length → ∃ r, Ev (fun k => PB.laws_goodIDs.l0 k l n l (l.length : Int) (i : Int)) r ∧ (r = true → (l.length : Int) = n ∧ ∀ j, i ≤ j → j < l.length → 0 ≤ l.getD j 0 ∧ l.getD j 0 ≤ 2147483647)
  | 0, i, h => ⟨_, Ev.step (fun k => by rw [PB.laws_goodIDs.l0]) (evn (by omega) (Ev.now _)), fun h => ⟨beq_iff_eq.1 h, fun j h1 h2 => by omega⟩⟩
  | d + 1, i, h => by
    obtain ⟨r, hr, hp⟩ := ids_key l n hl d (i + 1) (by omega)
    have e : rd l (i : Int) = l.getD i 0 := by unfold rd; rw [Int.toNat_natCast]
    by_cases h1 : l.getD i 0 < 0
    · exact ⟨false, Ev.step (fun k => by rw [PB.laws_goodIDs.l0]) (evp (by omega) (evp (by omega) (evp (by omega) (evp (by rw [e]; exact h1) (Ev.now false))))), fun h => by cases h⟩
    · by_cases h2 : l.getD i 0 > 2147483647
      · exact ⟨false, Ev.step (fun k => by rw [PB.laws_goodIDs.l0]) (evp (by omega) (evp (by omega) (evp (by omega) (evn (by rw [e]; exact h1) (evp (by rw [e]; exact h2) (Ev.now false)))))), fun h => by cases h⟩
      · refine ⟨r, Ev.step (fun k => by rw [PB.laws_goodIDs.l0]) (evp (by omega) (evp (by omega) (evp (by omega) (evn (by rw [e]; exact h1) (evn (by rw [e]; exact h2) (by rw [wrap_up i (by omega)]; exact hr)))))), fun h => ⟨(hp h).1, fun j g1 g2 => ?_⟩⟩
        by_cases e : j = i
        · subst e; omega
        · exact (hp h).2 j (by omega) g2
theorem ids_ev (l : List Int) (n : Int) (hl : l.length ≤ 4611686018427387904) : Tru (fun k => PB.laws_goodIDs.f k l n) ((l.length : Int) = n ∧ ∀ d ∈ l, 0 ≤ d ∧ d ≤ 2147483647) := by
  obtain ⟨r, hr, hp⟩ := ids_key l n hl l.length 0 (by omega)
  exact ⟨r, hr, fun e => ⟨(hp e).1, all_getD _ (fun j hj => (hp e).2 j (Nat.zero_le _) hj)⟩⟩
/-- Ascending, none empty, none with a byte 0. -/
structure Ord (l : List ByteArray) (strict : Bool) : Prop where
  cln : ∀ t ∈ l, Cln t
  ne : ∀ t ∈ l, t.toList ≠ []
  up : ∀ i, i + 1 < l.length → Op.bytesLess (l.getD (i + 1) ByteArray.empty).toList (l.getD i ByteArray.empty).toList = false
  str : strict = true → ∀ i, i + 1 < l.length → (l.getD (i + 1) ByteArray.empty).toList ≠ (l.getD i ByteArray.empty).toList
  pos : l ≠ []
end Go.Proofs.Ytaejkbjepbifcaa.Da
namespace Go.Proofs.Ytaejkbjepbifcaa.Da
open Go.RowKit Go.Proofs.YtaejkbjepbifcaaW.PrintWords Go.Proofs.Ytaejkbjepbifcaa.Plain
set_option linter.unusedVariables false
set_option linter.unusedSimpArgs false
theorem le_of_not : ∀ (x y : List UInt8), ¬ y < x → le (x.map (fun b => (b.toNat : Int))) (y.map (fun b => (b.toNat : Int)))
  | [], _, _ => trivial
  | a :: x, [], h => absurd (List.nil_lt_cons a x) h
  | a :: x, b :: y, h => by
    rw [List.cons_lt_cons_iff] at h
    show (a.toNat : Int) < b.toNat ∨ ((a.toNat : Int) = b.toNat ∧ le _ _)
    by_cases e : a = b
    · subst e
      exact Or.inr ⟨rfl, le_of_not x y (fun h2 => h (Or.inr ⟨rfl, h2⟩))⟩
    · left
      have h1 : ¬ b < a := fun h2 => h (Or.inl h2)
      rw [UInt8.lt_iff_toNat_lt] at h1
      have h2 : a.toNat ≠ b.toNat := fun h2 => e (UInt8.toNat_inj.1 h2)
      omega
theorem up_le {l : List ByteArray} (h : ∀ i, i + 1 < l.length → Op.bytesLess (l.getD (i + 1) ByteArray.empty).toList (l.getD i ByteArray.empty).toList = false) : ∀ d i, i + d < l.length → ¬ (l.getD (i + d) ByteArray.empty).toList < (l.getD i ByteArray.empty).toList
  | 0, i, _ => List.lt_irrefl _
  | d + 1, i, hd => by
    have ih := up_le h d i (by omega)
    have h1 := h (i + d) (by omega)
    rw [Own.bl_eq, decide_eq_false_iff_not] at h1
    rw [show i + (d + 1) = i + d + 1 by omega]
    have a : (l.getD i ByteArray.empty).toList ≤ (l.getD (i + d) ByteArray.empty).toList := List.not_lt.1 ih
    have b : (l.getD (i + d) ByteArray.empty).toList ≤ (l.getD (i + d + 1) ByteArray.empty).toList := List.not_lt.1 h1
    exact List.not_lt.2 (List.le_trans a b)
theorem le_words {l : List ByteArray} (h : ∀ i, i + 1 < l.length → Op.bytesLess (l.getD (i + 1) ByteArray.empty).toList (l.getD i ByteArray.empty).toList = false) {i j : Nat} (hij : i < j) (hj : j < l.length) : le (word l i) (word l j) := by
  have := up_le h (j - i) i (by omega)
  rw [show i + (j - i) = j by omega, Lib.toList_data, Lib.toList_data] at this
  exact le_of_not _ _ this
theorem wt_len (l : List ByteArray) : l.length ≤ wt l := by
  induction l with
  | nil => exact Nat.le_refl _
  | cons t l ih => simp only [wt, List.map_cons, List.sum_cons, List.length_cons] at ih ⊢; omega
theorem wt_mem {l : List ByteArray} {t : ByteArray} (h : t ∈ l) : t.size ≤ wt l := by
  induction l with
  | nil => cases h
  | cons u l ih =>
    simp only [wt, List.map_cons, List.sum_cons] at ih ⊢
    rcases List.mem_cons.1 h with rfl | h
    · omega
    · have := ih h; omega
theorem tot_wt (ss : List ByteArray) (ds : List Int) : tot (keysAll ss ds) ≤ wt ss := by
  have key : ∀ n, n ≤ ss.length → ((List.range n).map (fun z => (word ss z).length)).sum ≤ wt (ss.take n) := by
    intro n
    induction n with
    | zero => intro _; exact Nat.zero_le _
    | succ n ih =>
      intro hn
      have := ih (by omega)
      rw [List.range_succ, List.map_append, List.sum_append, List.take_succ_eq_append_getElem (by omega)]
      unfold wt at this ⊢
      rw [List.map_append, List.sum_append]
      have e : (word ss n).length = (ss[n]'(by omega)).size := by
        unfold word
        rw [bs_len, List.getD_eq_getElem?_getD, List.getElem?_eq_getElem (by omega)]; rfl
      simp only [List.map_cons, List.map_nil, List.sum_cons, List.sum_nil, e]
      omega
  have := key ss.length (Nat.le_refl _)
  rw [List.take_length] at this
  refine Nat.le_trans (Nat.le_of_eq ?_) this
  unfold tot keysAll keysOf
  rw [List.map_map]
  congr 1
theorem keys_ok2 {ss : List ByteArray} {ds : List Int} (hw : wt ss ≤ 4000) (hpos : ss ≠ []) (hcln : ∀ t ∈ ss, Cln t) (hup : ∀ i, i + 1 < ss.length → Op.bytesLess (ss.getD (i + 1) ByteArray.empty).toList (ss.getD i ByteArray.empty).toList = false) (hl : ds.length = ss.length) (hd : ∀ d ∈ ds, 0 ≤ d ∧ d ≤ 2147483647) : KeysOk ss ds := by
  have h1 := wt_len ss
  refine ⟨hpos, hl, by omega, fun t ht => by have := wt_mem ht; omega, hd, ?_, ?_, by have := tot_wt ss ds; omega⟩
  · intro k hk
    obtain ⟨z, hz, rfl⟩ := List.mem_map.1 hk
    show Okw ((word ss z).drop 0)
    rw [List.drop_zero]
    exact hcln _ (getD_mem _ (List.mem_range.1 hz))
  · show List.Pairwise _ ((List.range ss.length).map _)
    rw [List.pairwise_map]
    refine List.pairwise_lt_range.imp_of_mem (fun {a b} ha hb hab => ?_)
    show le ((word ss a).drop 0) ((word ss b).drop 0)
    rw [List.drop_zero, List.drop_zero]
    exact le_words hup hab (List.mem_range.1 hb)
theorem keys_ok {ss : List ByteArray} {ds : List Int} {st : Bool} (hw : wt ss ≤ 4000) (ho : Ord ss st) (hl : ds.length = ss.length) (hd : ∀ d ∈ ds, 0 ≤ d ∧ d ≤ 2147483647) : KeysOk ss ds := keys_ok2 hw ho.pos ho.cln ho.up hl hd
theorem nan_f (a : ByteArray) : PB.cmp_isNaN_string.f a = some false := by simp [PB.cmp_isNaN_string.f]
theorem less_f (a b : ByteArray) : PB.cmp_Less_string.f a b = some (Op.bytesLess a.toList b.toList) := by simp [PB.cmp_Less_string.f, nan_f]
theorem sorted_key (l : List ByteArray) (hl : l.length ≤ 4611686018427387904) (h : ∀ i, i + 1 < l.length → Op.bytesLess (l.getD (i + 1) ByteArray.empty).toList (l.getD i ByteArray.empty).toList = false) : ∀ i, i < l.length → Ev (fun k => PB.slices_IsSorted_string_string.l0 k l (i : Int)) true
  | 0, hi => Ev.step (fun k => by rw [PB.slices_IsSorted_string_string.l0]) (evn (by omega) (Ev.now true))
  | i + 1, hi => by
    have ih := sorted_key l hl h i (by omega)
    have e : wrap64 (((i + 1 : Nat) : Int) - 1) = (i : Int) := by rw [wrap_dn (i + 1) (by omega) (by omega)]; rfl
    refine Ev.step (fun k => by rw [PB.slices_IsSorted_string_string.l0]) (evp (by omega) (evp (by omega) (evp (by omega) (evp (by rw [e]; omega) (evp (by rw [e]; omega) ?_)))))
    rw [e, rdOf_nat, rdOf_nat, less_f, h i hi]
    exact Ev.bind (Ev.now false) (evn (by simp) ih)
theorem sorted_ev (l : List ByteArray) (h0 : l ≠ []) (hl : l.length ≤ 4611686018427387904) (h : ∀ i, i + 1 < l.length → Op.bytesLess (l.getD (i + 1) ByteArray.empty).toList (l.getD i ByteArray.empty).toList = false) : ∃ k, PB.slices_IsSorted_string_string.f k l = some true := by
  have hp := List.length_pos_iff.2 h0
  have := sorted_key l hl h (l.length - 1) (by omega)
  have e : wrap64 ((l.length : Int) - 1) = ((l.length - 1 : Nat) : Int) := wrap_dn _ (by omega) hl
  obtain ⟨k, hk⟩ := this.rounds
  exact ⟨k, by unfold PB.slices_IsSorted_string_string.f; rw [e]; exact hk⟩
/-- The same lists. -/
theorem same_key (l : List PB.S39) (hl : l.length ≤ 4611686018427387904) : ∀ d i, i + d = l.length → Ev (fun k => PB.impl_Hit.l0 k l l (l.length : Int) (i : Int)) true
  | 0, i, h => Ev.step (fun k => by rw [PB.impl_Hit.l0]) (evn (by omega) (Ev.now true))
  | d + 1, i, h => by
    have ih := same_key l hl d (i + 1) (by omega)
    exact Ev.step (fun k => by rw [PB.impl_Hit.l0]) (evp (by omega) (evp (by omega) (evp (by omega) (evp (by omega) (evn (by simp) (by rw [wrap_up i (by omega)]; exact ih))))))
theorem same_ev (l : List PB.S39) (hl : l.length ≤ 4611686018427387904) : Ev (fun k => PB.impl_Hit.f k l l) true := by
  have := same_key l hl l.length 0 (by omega)
  exact evp rfl this
/-- An answer in a row. -/
theorem ans_at {w : World} {base g c : Nat} {ok : Nat → Prop} {l : List PB.S34} (h : Kd.R PB.k34 34 w base ok (.slice (some ⟨g, 0, none⟩) l.length c) l) (j : Nat) (hj : j < l.length) (a : PB.S34) (ha : l[j]? = some a) :
    ∃ A4 c4 A5 c5, w.cell? ⟨g, j * 6, none⟩ = some (.int .i64 a.f0.f0) ∧ w.cell? ⟨g, j * 6 + 1, none⟩ = some (.bool a.f0.f1) ∧ w.cell? ⟨g, j * 6 + 2, none⟩ = some (.int .i64 a.f1.f0) ∧ w.cell? ⟨g, j * 6 + 3, none⟩ = some (.bool a.f1.f1) ∧ w.cell? ⟨g, j * 6 + 4, none⟩ = some (.slice A4 a.f2.length c4) ∧ w.cell? ⟨g, j * 6 + 5, none⟩ = some (.slice A5 a.f3.length c5) ∧
      Kd.R PB.k39 39 w base ok (.slice A4 a.f2.length c4) a.f2 ∧ Kd.R PB.k39 39 w base ok (.slice A5 a.f3.length c5) a.f3 := by
  obtain ⟨_, hR⟩ := h
  obtain ⟨A, c', e1, l1, hr⟩ := OwnRow.reads hR
  cases e1
  obtain ⟨ad, e2, hx⟩ := hr.2.2 (by omega)
  cases e2
  obtain ⟨cs, _, hM, hc⟩ := hx j a ha
  obtain ⟨v4, v5, rfl, g4, g5⟩ := PB.k34_openM hM
  obtain ⟨A4, c4, rfl⟩ := Kd.R_slice g4
  obtain ⟨A5, c5, rfl⟩ := Kd.R_slice g5
  have e3 : ∀ i, (⟨g, 0, none⟩ : Addr).add (j * PB.k34.sz + i) = ⟨g, j * 6 + i, none⟩ := fun i => by
    show (⟨g, 0, none⟩ : Addr).add (j * 6 + i) = _
    rw [add_at0, Nat.zero_add]
  refine ⟨A4, c4, A5, c5, ?_, ?_, ?_, ?_, ?_, ?_, Kd.R_mono g4 (fun k hk => hk.1), Kd.R_mono g5 (fun k hk => hk.1)⟩
  · have := hc 0 _ rfl; rw [e3] at this; exact this
  · have := hc 1 _ rfl; rw [e3] at this; exact this
  · have := hc 2 _ rfl; rw [e3] at this; exact this
  · have := hc 3 _ rfl; rw [e3] at this; exact this
  · have := hc 4 _ rfl; rw [e3] at this; exact this
  · have := hc 5 _ rfl; rw [e3] at this; exact this
end Go.Proofs.Ytaejkbjepbifcaa.Da
namespace Go.Proofs.Ytaejkbjepbifcaa.Da
open Go.RowKit Go.Proofs.YtaejkbjepbifcaaW.PrintWords Go.Proofs.Ytaejkbjepbifcaa.Plain
set_option linter.unusedVariables false
set_option linter.unusedSimpArgs false
abbrev ta : ByteArray := { data := #[97] }
abbrev tab : ByteArray := { data := #[97, 98] }
def La : Keys := keysAll [ta, tab] [3, 5]
theorem cln_a : Cln ta := by intro c hc; have : c = 97 := by simpa [bs, ta] using hc
                             subst this; unfold Okc; omega
theorem cln_ab : Cln tab := by
  intro c hc
  have : c = 97 ∨ c = 98 := by simpa [bs, tab] using hc
  unfold Okc
  omega
theorem two_ord : Ord [ta, tab] true := by
  refine ⟨?_, ?_, ?_, ?_, by simp⟩
  · intro t ht
    simp only [List.mem_cons, List.not_mem_nil, or_false] at ht
    rcases ht with rfl | rfl
    · exact cln_a
    · exact cln_ab
  · intro t ht
    simp only [List.mem_cons, List.not_mem_nil, or_false] at ht
    rcases ht with rfl | rfl <;> rw [Lib.toList_data] <;> decide
  · intro i hi
    obtain rfl : i = 0 := by simp at hi; omega
    rw [Lib.toList_data, Lib.toList_data]; decide
  · intro _ i hi
    obtain rfl : i = 0 := by simp at hi; omega
    rw [Lib.toList_data, Lib.toList_data]; decide
theorem two_ok : KeysOk [ta, tab] [3, 5] := keys_ok (by decide) two_ord rfl (by decide)
theorem two_fnd : fnd La tab = (5, true) := by decide
theorem two_hits : hitsS La (bs tab) (bs tab).length = [⟨3, 1⟩, ⟨5, 2⟩] := by rfl
theorem new1 {α : Type} {enc : α → Value} {h1 : ∀ x, (enc x).oneCell' = true} (w : World) (b : Nat) (hb : b = w.heap.size) (xs : List α) (e : TypeId) (cs : Array Value) (hcs : cs = (xs.map enc).toArray) (hm : xs.length ≤ 9223372036854775807) :
    (Kd.scalar enc h1).C (w.alloc (.cells cs e (0, 0))) (some ⟨b, 0, none⟩) xs.length xs := by
  subst hb
  exact Own.C_alloc_new w xs e (0, 0) cs hcs hm
/-- A new row of two hits. -/
theorem new_hits (w : World) (b : Nat) (hb : b = w.heap.size) (p q : PB.S39) : Kd.C PB.k39 (w.alloc (.cells #[.int .i64 p.f0, .int .i64 p.f1, .int .i64 q.f0, .int .i64 q.f1] 39 (0, 0))) (some ⟨b, 0, none⟩) 2 [p, q] := by
  subst hb
  refine ⟨rfl, by simp, fun _ => ⟨_, rfl, fun j x hj => ?_⟩⟩
  have e : ∀ i, (⟨w.heap.size, 0, none⟩ : Addr).add (j * PB.k39.sz + i) = ⟨w.heap.size, j * 2 + i, none⟩ := fun i => by
    show (⟨w.heap.size, 0, none⟩ : Addr).add (j * 2 + i) = _
    rw [add_at0, Nat.zero_add]
  refine ⟨[.int .i64 x.f0, .int .i64 x.f1], rfl, PB.k39_mk _ _, fun i u hu => ?_⟩
  rw [e, Own.alloc_cell]
  have hi : i < 2 := by have := (List.getElem?_eq_some_iff.1 hu).1; simpa using this
  have hj2 : j < 2 := by have := (List.getElem?_eq_some_iff.1 hj).1; simpa using this
  have : j = 0 ∨ j = 1 := by omega
  have : i = 0 ∨ i = 1 := by omega
  rcases ‹j = 0 ∨ j = 1› with rfl | rfl <;> rcases ‹i = 0 ∨ i = 1› with rfl | rfl <;> simp at hj hu <;> subst hj <;> subst hu <;> rfl
theorem row_reads {α : Type} {d : Kd α} {e : Nat} {w : World} {base : Nat} {ok : Nat → Prop} {A : Option Addr} {n c : Nat} {xs : List α} (h : Kd.R d e w base ok (.slice A n c) xs) : xs.length ≤ c ∧ Kd.C d w A xs.length xs := by
  obtain ⟨A', c', e1, l1, g1⟩ := Kd.R_reads h
  cases e1
  exact ⟨l1, g1⟩
set_option maxHeartbeats 16000000 in
set_option maxRecDepth 100000 in
theorem builds_calls (W : World) : Calls Try.prog 14 #[] W fun e w' => e = .returned (.bool true) ∧ Below W.heap.size W w' := by
  obtain ⟨kk, hk⟩ := sorted_ev [ta, tab] (by simp) (by simp) two_ord.up
  obtain ⟨ks, hks⟩ := (same_ev [⟨3, 1⟩, ⟨5, 2⟩] (by simp)).rounds
  have HK := Aside0.mk hk
  have HKS := Aside0.mk hks
  clear hk hks
  have HT : Aside0 (∀ (w : World) (b0 b1 b2 : Nat), Kd.C Kd.string w (some ⟨b0, 0, none⟩) 2 [ta, tab] → Kd.C (Kd.int .i64) w (some ⟨b1, 0, none⟩) 2 [3, 5] → Kd.C Kd.string w (some ⟨b2, 0, none⟩) 1 [tab] →
      Calls Try.prog 17 #[.slice (some ⟨b0, 0, none⟩) 2 2, .slice (some ⟨b1, 0, none⟩) 2 2, .slice (some ⟨b2, 0, none⟩) 1 1] w fun e w' => ∃ g c A4 c4 A5 c5, e = .returned (.tuple #[.slice (some ⟨g, 0, none⟩) 1 c, .int .i64 0]) ∧ (w'.cell? ⟨g, 0, none⟩ = some (.int .i64 5) ∧ w'.cell? ⟨g, 1, none⟩ = some (.bool true) ∧ w'.cell? ⟨g, 4, none⟩ = some (.slice A4 2 c4) ∧ w'.cell? ⟨g, 2, none⟩ = some (.int .i64 (lng La tab).1) ∧ w'.cell? ⟨g, 3, none⟩ = some (.bool (lng La tab).2) ∧ w'.cell? ⟨g, 5, none⟩ = some (.slice A5 2 c5)) ∧ Aside0 (Kd.R PB.k39 39 w' w.heap.size (fun _ => True) (.slice A4 2 c4) [⟨3, 1⟩, ⟨5, 2⟩]) ∧ Aside0 (Below w.heap.size w w')) := ⟨fun w b0 b1 b2 h0 h1 h2 => by
    refine (trie_calls w (some ⟨b0, 0, none⟩) (some ⟨b1, 0, none⟩) (some ⟨b2, 0, none⟩) 2 2 1 kk [ta, tab] [tab] [3, 5] h0 (by simp) h1 (by simp) h2 HK.out two_ok ⟨by simp, fun t ht => by rw [List.mem_singleton.1 ht]; exact ⟨cln_ab, by decide⟩⟩).mono ?_
    rintro e w' ⟨ov, rfl, hR, hB⟩
    obtain ⟨g, c, rfl, hg0, hg, _, _⟩ := own_head hR (by simp)
    obtain ⟨A4, c4, A5, c5, h0, h1, h2, h3, h4, h5, g4, g5⟩ := ans_at hR 0 (by simp) (ans La tab) rfl
    simp only [Nat.zero_mul, Nat.zero_add] at h0 h1 h2 h3 h4 h5
    have e1 : (ans La tab).f2 = [⟨3, 1⟩, ⟨5, 2⟩] := two_hits
    have e2 : (ans La tab).f3 = [⟨3, 1⟩, ⟨5, 2⟩] := two_hits
    rw [e1] at h4 g4
    rw [e2] at h5
    exact ⟨g, c, A4, c4, A5, c5, rfl, ⟨h0.trans (by rw [show (ans La tab).f0.f0 = (fnd La tab).1 from rfl, two_fnd]), h1.trans (by rw [show (ans La tab).f0.f1 = (fnd La tab).2 from rfl, two_fnd]), h4, h2, h3, h5⟩, ⟨g4⟩, ⟨hB⟩⟩⟩
  go_enter Try.func14, Try.ntmps14
  go_upto_region 2 with (go_at_call 17; refine (HT.out _ _ _ _ (Kd.C_below (new1 _ _ rfl [ta, tab] _ _ rfl (by simp)) (below_alloc (below_alloc (Below.refl _ _) _) _)) (Kd.C_below (new1 _ _ (Own.size_alloc _ _).symm [3, 5] _ _ rfl (by simp)) (below_alloc (Below.refl _ _) _)) (new1 _ _ ((congrArg (· + 1) (Own.size_alloc _ _)).symm.trans (Own.size_alloc _ _).symm) [tab] _ _ rfl (by simp))).mono ?_; rintro e_ w2 ⟨g, c, A4, c4, A5, c5, rfl, ⟨k0, k1, k4, k2, k3, k5⟩, HC, HB⟩)
  obtain ⟨hl4, hC4⟩ := row_reads HC.out
  have HL4 := Aside0.mk hl4
  have HC4 := Aside0.mk hC4
  have HBW : Aside0 (Below W.heap.size W w2) := ⟨below_step (below_alloc (below_alloc (below_alloc (Below.refl _ _) _) _) _) HB.out⟩
  clear hl4 hC4 HC HB HT
  go_wp2_with (go_at_call 16; refine (PB.impl_Hit.calls ks A4 c4 [⟨3, 1⟩, ⟨5, 2⟩] _ 2 [⟨3, 1⟩, ⟨5, 2⟩] true _ (Kd.C_below HC4.out (below_alloc (Below.refl _ _) _)) HL4.out (new_hits _ _ rfl ⟨3, 1⟩ ⟨5, 2⟩) (Nat.le_refl _) HKS.out).mono ?_; rintro e_ w3 ⟨rfl, ⟨q3, rfl⟩⟩)
  go_ret
  exact ⟨rfl, pw_below_drewN (below_alloc HBW.out _) _⟩
end Go.Proofs.Ytaejkbjepbifcaa.Da
namespace Go.Proofs.Ytaejkbjepbifcaa.Da
open Go.RowKit Go.Proofs.YtaejkbjepbifcaaW.PrintWords Go.Proofs.Ytaejkbjepbifcaa.Plain
set_option linter.unusedVariables false
set_option linter.unusedSimpArgs false
theorem new_two (w : World) (g : Nat) (hg : g = w.heap.size) (A0 A1 : Option Addr) (c0 c1 n0 n1 : Nat) (a b : List ByteArray) (h0 : n0 = a.length) (h1 : n1 = b.length) (ha : Kd.C Kd.string w A0 a.length a) (hca : a.length ≤ c0) (hb : Kd.C Kd.string w A1 b.length b) (hcb : b.length ≤ c1) :
    Kd.C (Kd.slice 9 Kd.string) (w.alloc (.cells #[.slice A0 n0 c0, .slice A1 n1 c1] 22 (0, 0))) (some ⟨g, 0, none⟩) [a, b].length [a, b] := by
  subst h0
  subst h1
  refine Own.C_new1 (d := Kd.slice 9 Kd.string) rfl w g hg 22 (0, 0) [.slice A0 a.length c0, .slice A1 b.length c1] [a, b] rfl (by simp) (fun j p u hp hu => ?_)
  have hb2 := below_alloc (Below.refl w.heap.size w) (.cells #[.slice A0 a.length c0, .slice A1 b.length c1] 22 (0, 0))
  have hj : j < 2 := by have := (List.getElem?_eq_some_iff.1 hp).1; simpa using this
  rcases (show j = 0 ∨ j = 1 by omega) with rfl | rfl <;> simp at hp hu <;> subst hp <;> subst hu
  · exact ⟨A0, c0, rfl, hca, Kd.C_below ha hb2⟩
  · exact ⟨A1, c1, rfl, hcb, Kd.C_below hb hb2⟩
end Go.Proofs.Ytaejkbjepbifcaa.Da
namespace Go.Proofs.Ytaejkbjepbifcaa.PT
open Go.RowKit Go.Proofs.YtaejkbjepbifcaaW.PrintWords Go.Proofs.YtaejkbjepbifcaaW.PrintLast Go.Proofs.YtaejkbjepbifcaaW.PrintMore
attribute [local go_sem] max2_int min2_int max_two min_two max_three min_three max_four min_four   -- for this text's walks alone
set_option linter.unusedVariables false
set_option linter.unusedSimpArgs false



def errW : Option Int → Value
  | none => .nilIface
  | some c => .iface 0 (.int .i64 c)
theorem errW_none : errW none = .nilIface := rfl
theorem errW_some (c : Int) : errW (some c) = .iface 0 (.int .i64 c) := rfl

theorem info3 : (Try.prog.info? 3).map (fun i => (i.zero, i.size, i.bytes)) = some (some (.int .i64 0), 1, 8) := by kernel_rfl
theorem info9 : (Try.prog.info? 9).map (fun i => (i.zero, i.size, i.bytes)) = some (some (.string ⟨#[]⟩), 1, 16) := by kernel_rfl
-- the values' own types

end Go.Proofs.Ytaejkbjepbifcaa.PT
namespace Go.Proofs.Ytaejkbjepbifcaa.PT
open Go.RowKit Go.Proofs.YtaejkbjepbifcaaW.PrintWords Go.Proofs.YtaejkbjepbifcaaW.PrintLast Go.Proofs.YtaejkbjepbifcaaW.PrintMore
attribute [local go_sem] max2_int min2_int max_two min_two max_three min_three max_four min_four   -- for this text's walks alone
set_option linter.unusedVariables false
set_option linter.unusedSimpArgs false

/-! ### laws_turned_string: function 18 -/
def laws_turned_string.l0 : Nat → List ByteArray → Int → Int → Option (List ByteArray)
  | 0, _, _, _ => none
  | k + 1, x6, x7, x8 => if x7 < x8 then (if 0 ≤ x8 then (if x8 < (x6.length : Int) then (if 0 ≤ x7 then (if x7 < (x6.length : Int) then (laws_turned_string.l0 k ((x6.set (x7 : Int).toNat (rdOf ByteArray.empty x6 x8)).set (x8 : Int).toNat (rdOf ByteArray.empty x6 x7)) (wrap64 (x7 + 1)) (wrap64 (x8 - 1))) else (none)) else (none)) else (none)) else (none)) else (some x6)
def laws_turned_string.f (k : Nat) (l0 : List ByteArray) (a1 : Int) : Option (List ByteArray) := if (l0.length : Int) = 0 then (some ([] : List ByteArray)) else ((some (([] : List ByteArray) : List ByteArray)).bind fun y101 => (if 0 ≤ (((Int.tdiv a1 2) % 256) % (l0.length : Int)) then (if (((Int.tdiv a1 2) % 256) % (l0.length : Int)) ≤ (l0.length : Int) then (if y101.length + (l0.drop ((((Int.tdiv a1 2) % 256) % (l0.length : Int)) : Int).toNat).length < 8796093022208 then ((some (y101 ++ (l0.drop ((((Int.tdiv a1 2) % 256) % (l0.length : Int)) : Int).toNat) : List ByteArray)).bind fun y105 => (if y105.length + (l0.take ((((Int.tdiv a1 2) % 256) % (l0.length : Int)) : Int).toNat).length < 8796093022208 then ((some (y105 ++ (l0.take ((((Int.tdiv a1 2) % 256) % (l0.length : Int)) : Int).toNat) : List ByteArray)).bind fun y109 => (if (Int.tmod a1 2) = 1 then (laws_turned_string.l0 k y109 0 (wrap64 ((y109.length : Int) - 1))) else (some y109))) else (none))) else (none)) else (none)) else (none)))
theorem laws_turned_string.mono_l : ∀ k, (∀ y0 y1 y2, LeO (laws_turned_string.l0 k y0 y1 y2) (laws_turned_string.l0 (k + 1) y0 y1 y2))
  | 0 => fun _ _ _ r h => by simp [laws_turned_string.l0] at h
  | k + 1 => by
    have ih0 := laws_turned_string.mono_l k
    · intro y0 y1 y2
      unfold laws_turned_string.l0
      repeat' first
      | (with_reducible exact ih0 _ _ _)
      | (with_reducible exact LeO.refl _)
      | (with_reducible exact LeO.none _)
      | (with_reducible refine LeO.ite ?_ ?_)
      | (with_reducible refine LeO.bind ?_ (fun _ => ?_))
      | exact ih0 _ _ _
      | exact LeO.none _
      | refine LeO.ite ?_ ?_
      | refine LeO.bind ?_ (fun _ => ?_)
theorem laws_turned_string.mono : ∀ a0 a1 k, LeO (laws_turned_string.f k a0 a1) (laws_turned_string.f (k + 1) a0 a1) := by
  intro a0 a1 k
  have ih0 := laws_turned_string.mono_l k
  unfold laws_turned_string.f
  repeat' first
      | (with_reducible exact ih0 _ _ _)
      | (with_reducible exact LeO.refl _)
      | (with_reducible exact LeO.none _)
      | (with_reducible refine LeO.ite ?_ ?_)
      | (with_reducible refine LeO.bind ?_ (fun _ => ?_))
      | exact ih0 _ _ _
      | exact LeO.none _
      | refine LeO.ite ?_ ?_
      | refine LeO.bind ?_ (fun _ => ?_)
def laws_turned_string.T4 : Bool × List (List Nat × List Nat) := (true, [([], []), ([], []), ([], []), ([1, 2], [1, 2]), ([0, 3], [0, 3]), ([], []), ([], []), ([5, 6], [5, 6]), ([4, 7, 4], [4, 7]), ([8, 8, 0, 1, 2, 3, 4, 5, 6, 7, 8], [8])])
def laws_turned_string.B4 : List Nat := [0, 0, 0, 6, 15, 0, 0, 96, 255, 511]
theorem laws_turned_string.tab4 : rtab .any (opsOf Try.f18 4) = laws_turned_string.T4 := by kernel_rfl
theorem laws_turned_string.bits4 : waitsOk laws_turned_string.T4.2 laws_turned_string.B4 = true := by kernel_rfl
def laws_turned_string.T9 : Bool × List (List Nat × List Nat) := (true, [([], []), ([], []), ([], []), ([], []), ([], []), ([], []), ([4, 5], [4, 5]), ([6], [6]), ([], []), ([], []), ([8, 9], [8, 9]), ([10], [10]), ([0, 1, 0, 1, 4, 5, 6, 7, 11], [0, 1]), ([12, 7, 0, 1, 4, 5, 6, 7, 11], [7, 12]), ([2, 3, 0, 1, 2, 3, 4, 5, 6, 7, 8, 9, 10, 11, 12, 13], [2, 3]), ([14, 11, 13, 0, 1, 2, 3, 4, 5, 6, 7, 8, 9, 10, 11, 12, 13], [11, 14])])
def laws_turned_string.B9 : List Nat := [0, 0, 0, 0, 0, 0, 48, 112, 0, 0, 768, 1792, 4083, 8179, 16383, 32767]
theorem laws_turned_string.tab9 : rtab .any (opsOf Try.f18 9) = laws_turned_string.T9 := by kernel_rfl
theorem laws_turned_string.bits9 : waitsOk laws_turned_string.T9.2 laws_turned_string.B9 = true := by kernel_rfl
set_option maxHeartbeats 8000000 in
set_option maxRecDepth 100000 in
theorem laws_turned_string.calls (k : Nat) (A0 : Option Addr) (c0 : Nat) (l0 : List ByteArray) (a1 : Int) (r : List ByteArray) (w : World) (hr0 : Kd.C Kd.string w A0 l0.length l0) (hc0 : l0.length ≤ c0) (h : laws_turned_string.f k l0 a1 = some r) :
    Calls Try.prog 18 #[.slice A0 l0.length c0, .int .u8 a1] w fun e w' => ∃ v0_ : Value, e = .returned (v0_) ∧ Kd.R Kd.string 9 w' w.heap.size (fun _ => True) v0_ r ∧ Below w.heap.size w w' := by
  have HR0 := Aside0.mk hr0
  have HC0 := Aside0.mk hc0
  clear hr0 hc0
  have HB := Aside0.mk (Below.refl w.heap.size w)
  have H : (if (l0.length : Int) = 0 then (some ([] : List ByteArray)) else ((some (([] : List ByteArray) : List ByteArray)).bind fun y101 => (if 0 ≤ (((Int.tdiv a1 2) % 256) % (l0.length : Int)) then (if (((Int.tdiv a1 2) % 256) % (l0.length : Int)) ≤ (l0.length : Int) then (if y101.length + (l0.drop ((((Int.tdiv a1 2) % 256) % (l0.length : Int)) : Int).toNat).length < 8796093022208 then ((some (y101 ++ (l0.drop ((((Int.tdiv a1 2) % 256) % (l0.length : Int)) : Int).toNat) : List ByteArray)).bind fun y105 => (if y105.length + (l0.take ((((Int.tdiv a1 2) % 256) % (l0.length : Int)) : Int).toNat).length < 8796093022208 then ((some (y105 ++ (l0.take ((((Int.tdiv a1 2) % 256) % (l0.length : Int)) : Int).toNat) : List ByteArray)).bind fun y109 => (if (Int.tmod a1 2) = 1 then (laws_turned_string.l0 k y109 0 (wrap64 ((y109.length : Int) - 1))) else (some y109))) else (none))) else (none)) else (none)) else (none)))) = some r := h
  clear h
  by_cases c3 : (l0.length : Int) = 0
  · rw [if_pos c3] at H
    have c3b0 : ((l0.length : Int) == 0) = true := beq_iff_eq.mpr c3
    have c3b1 : ((l0.length : Int) != 0) = false := bne_eq_false_iff_eq.mpr c3
    clear c3
    obtain rfl := Option.some.inj H
    go_enter Try.func18, Try.ntmps18
    go_wp2
    go_ret
    exact ⟨_, by first | rfl | (simp [errW_none, errW_some] <;> rfl) | (simp [*, errW_none, errW_some] <;> rfl), by first | exact Kd.R_nil _ _ _ _ _ | exact Kd.N_nil _ _ _ _ _ | exact Kd.V_nil _ _ _ _ _ | exact Kd.Q_nil _ _ _ _ _ | exact Kd.S_nil _ _ _ _ _, by repeat (first | (with_reducible first | exact HB.out | apply below_alloc | apply pw_below_drewN | apply below_drew1) | exact HB.out)⟩
  · rw [if_neg c3] at H
    have c3b0 : ((l0.length : Int) == 0) = false := beq_eq_false_iff_ne.mpr c3
    have c3b1 : ((l0.length : Int) != 0) = true := bne_iff_ne.mpr c3
    have c3b2 : ¬ (l0 = []) := fun h_ => c3 (by rw [h_]; rfl)
    obtain ⟨y101, hy101⟩ : ∃ y_ : List ByteArray, y_ = (([] : List ByteArray)) := ⟨_, rfl⟩
    replace H : (if 0 ≤ (((Int.tdiv a1 2) % 256) % (l0.length : Int)) then (if (((Int.tdiv a1 2) % 256) % (l0.length : Int)) ≤ (l0.length : Int) then (if y101.length + (l0.drop ((((Int.tdiv a1 2) % 256) % (l0.length : Int)) : Int).toNat).length < 8796093022208 then ((some (y101 ++ (l0.drop ((((Int.tdiv a1 2) % 256) % (l0.length : Int)) : Int).toNat) : List ByteArray)).bind fun y105 => (if y105.length + (l0.take ((((Int.tdiv a1 2) % 256) % (l0.length : Int)) : Int).toNat).length < 8796093022208 then ((some (y105 ++ (l0.take ((((Int.tdiv a1 2) % 256) % (l0.length : Int)) : Int).toNat) : List ByteArray)).bind fun y109 => (if (Int.tmod a1 2) = 1 then (laws_turned_string.l0 k y109 0 (wrap64 ((y109.length : Int) - 1))) else (some y109))) else (none))) else (none)) else (none)) else (none)) = some r := by first | (rw [hy101]; with_reducible exact H) | (have H2_ := (Option.bind_some _ _).symm.trans H; rw [hy101]; with_reducible exact H2_) | (have H2_ := (Option.bind_some _ _).symm.trans H; with_reducible exact H2_) | with_reducible exact H | (rw [hy101]; exact H) | exact H
    have Ny101 := Aside0.mk hy101
    clear hy101
    obtain ⟨ji4, hji4⟩ : ∃ j_ : Int, (((Int.tdiv a1 2) % 256) % (l0.length : Int)) = j_ := ⟨_, rfl⟩
    replace H : (if 0 ≤ (ji4) then (if (ji4) ≤ (l0.length : Int) then (if y101.length + (l0.drop ((ji4) : Int).toNat).length < 8796093022208 then ((some (y101 ++ (l0.drop ((ji4) : Int).toNat) : List ByteArray)).bind fun y105 => (if y105.length + (l0.take ((ji4) : Int).toNat).length < 8796093022208 then ((some (y105 ++ (l0.take ((ji4) : Int).toNat) : List ByteArray)).bind fun y109 => (if (Int.tmod a1 2) = 1 then (laws_turned_string.l0 k y109 0 (wrap64 ((y109.length : Int) - 1))) else (some y109))) else (none))) else (none)) else (none)) else (none)) = some r := by first | (rw [hji4] at H; exact H) | (simp only [hji4] at H ⊢; exact H)
    by_cases c5 : 0 ≤ (ji4)
    · rw [if_pos c5] at H
      have c5b0 := eq_true c5
      have c5b1 : decide (0 ≤ (ji4)) = true := decide_eq_true c5
      clear c5
      by_cases c6 : (ji4) ≤ (l0.length : Int)
      · rw [if_pos c6] at H
        have c6b0 := eq_true c6
        have c6b1 : decide ((ji4) ≤ (l0.length : Int)) = true := decide_eq_true c6
        clear c6
        by_cases c7 : y101.length + (l0.drop ((ji4) : Int).toNat).length < 8796093022208
        · rw [if_pos c7] at H
          have LMc7 := Aside0.mk c7
          clear c7
          obtain ⟨y105, hy105⟩ : ∃ y_ : List ByteArray, y_ = (y101 ++ (l0.drop ((ji4) : Int).toNat)) := ⟨_, rfl⟩
          replace H : (if y105.length + (l0.take ((ji4) : Int).toNat).length < 8796093022208 then ((some (y105 ++ (l0.take ((ji4) : Int).toNat) : List ByteArray)).bind fun y109 => (if (Int.tmod a1 2) = 1 then (laws_turned_string.l0 k y109 0 (wrap64 ((y109.length : Int) - 1))) else (some y109))) else (none)) = some r := by first | (rw [hy105]; with_reducible exact H) | (have H2_ := (Option.bind_some _ _).symm.trans H; rw [hy105]; with_reducible exact H2_) | (have H2_ := (Option.bind_some _ _).symm.trans H; with_reducible exact H2_) | with_reducible exact H | (rw [hy105]; exact H) | exact H
          have Ny105 := Aside0.mk hy105
          clear hy105
          have c8b0 := eq_true (of_decide_eq_true (by first | (with_reducible assumption) | assumption) : 0 ≤ (ji4))
          have c9b0 := eq_true (of_decide_eq_true (by first | (with_reducible assumption) | assumption) : (ji4) ≤ (l0.length : Int))
          by_cases c10 : y105.length + (l0.take ((ji4) : Int).toNat).length < 8796093022208
          · rw [if_pos c10] at H
            have LMc10 := Aside0.mk c10
            clear c10
            obtain ⟨y109, hy109⟩ : ∃ y_ : List ByteArray, y_ = (y105 ++ (l0.take ((ji4) : Int).toNat)) := ⟨_, rfl⟩
            replace H : (if (Int.tmod a1 2) = 1 then (laws_turned_string.l0 k y109 0 (wrap64 ((y109.length : Int) - 1))) else (some y109)) = some r := by first | (rw [hy109]; with_reducible exact H) | (have H2_ := (Option.bind_some _ _).symm.trans H; rw [hy109]; with_reducible exact H2_) | (have H2_ := (Option.bind_some _ _).symm.trans H; with_reducible exact H2_) | with_reducible exact H | (rw [hy109]; exact H) | exact H
            have Ny109 := Aside0.mk hy109
            clear hy109
            by_cases c11 : (Int.tmod a1 2) = 1
            · rw [if_pos c11] at H
              have c11b0 : ((Int.tmod a1 2) == 1) = true := beq_iff_eq.mpr c11
              have c11b1 : ((Int.tmod a1 2) != 1) = false := bne_eq_false_iff_eq.mpr c11
              clear c11
              have H' := Aside0.mk H
              clear H
              go_enter Try.func18, Try.ntmps18
              try go_wp2
              have n0_ := Aside0.mk (below_drew1 HB.out)
              clear HB
              have HB := n0_
              clear n0_
              obtain ⟨i013, hi013, _, hsz13, _⟩ := info_parts info9
              obtain ⟨A13, hcut13, hA13, hC13⟩ := print_drop_of (P := Try.prog) Value.string (⟨#[]⟩ : ByteArray) 22 9 .i64 Try.underlying22 hi013 hsz13 A0 c0 l0 (ji4) (of_decide_eq_true (by first | (with_reducible assumption) | assumption)) (of_decide_eq_true (by first | (with_reducible assumption) | assumption)) HC0.out
              have HR104 := Aside0.mk (Kd.C_of_reads (h1 := fun _ => rfl) (hA13 _ (Kd.reads_of_C HR0.out)))
              have HC104 := Aside0.mk hC13
              clear hA13 hC13 hi013 hsz13
              obtain ⟨i014, hi014, _, hsz14, _⟩ := info_parts info9
              obtain ⟨hcut14, hA14, hC14⟩ := print_take_of (P := Try.prog) Value.string (⟨#[]⟩ : ByteArray) 22 9 .i64 Try.underlying22 hi014 hsz14 A0 c0 l0 (ji4) (of_decide_eq_true (by first | (with_reducible assumption) | assumption)) (of_decide_eq_true (by first | (with_reducible assumption) | assumption)) HC0.out
              have HR108 := Aside0.mk (Kd.C_of_reads (h1 := fun _ => rfl) (hA14 _ (Kd.reads_of_C HR0.out)))
              have HC108 := Aside0.mk hC14
              clear hA14 hC14 hi014 hsz14
              refine start_ (n := 10) (S := fun w' => True) (ds := []) #[false, false, false, false, false, false, false, false, false, false] (by kernel_rfl) rfl rfl trivial (fun hHeld => ?_); refine with_tabW laws_turned_string.tab4 laws_turned_string.bits4 (fun HT_ HW_ => ?_)
              generalize w.drew = w12 at HB HR104 HR108 hHeld ⊢
              refine pure_ (i := 1) (N := some 19) (v := ?_) (a' := ?_) #[false, true, false, false, false, false, false, false, false, false] rfl rfl (any_of HT_.out (by kernel_rfl)) (fun _ _ _ h => h) (Or.inl ⟨by rfl, ?_⟩) ?_ ?_
              rotate_left
              · intro w'
                go_simp
                with_reducible rfl
              rotate_left
              · simp only [Act.put, List.setIfInBounds_toArray, List.set_cons_zero, List.set_cons_succ, i64_w, i32_w]
                rfl
              refine pure_ (i := 2) (N := some 20) (v := ?_) (a' := ?_) #[false, true, true, false, false, false, false, false, false, false] rfl rfl (any_of HT_.out (by kernel_rfl)) (fun _ _ _ h => h) (Or.inl ⟨by rfl, ?_⟩) ?_ ?_
              rotate_left
              · intro w'
                go_simp
                with_reducible rfl
              rotate_left
              · simp only [Act.put, List.setIfInBounds_toArray, List.set_cons_zero, List.set_cons_succ, i64_w, i32_w]
                rfl
              refine pure_ (i := 3) (N := some 21) (v := ?_) (a' := ?_) #[false, true, true, true, false, false, false, false, false, false] rfl rfl (any_of HT_.out (by kernel_rfl)) (fun _ _ _ h => h) (Or.inl ⟨by rfl, ?_⟩) ?_ ?_
              rotate_left
              · intro w'
                go_simp
                with_reducible rfl
              rotate_left
              · simp only [Act.put, List.setIfInBounds_toArray, List.set_cons_zero, List.set_cons_succ, i64_w, i32_w]
                rfl
              refine pure_ (i := 5) (N := some 23) (v := ?_) (a' := ?_) #[false, true, true, true, false, true, false, false, false, false] rfl rfl (any_of HT_.out (by kernel_rfl)) (fun _ _ _ h => h) (Or.inl ⟨by rfl, ?_⟩) ?_ ?_
              rotate_left
              · intro w'
                go_simp
                with_reducible rfl
              rotate_left
              · simp only [Act.put, List.setIfInBounds_toArray, List.set_cons_zero, List.set_cons_succ, i64_w, i32_w]
                rfl
              refine pure_ (i := 6) (N := some 24) (v := ?_) (a' := ?_) #[false, true, true, true, false, true, true, false, false, false] rfl rfl (any_of HT_.out (by kernel_rfl)) (fun _ _ _ h => h) (Or.inl ⟨by rfl, ?_⟩) ?_ ?_
              rotate_left
              · intro w'
                go_simp
                with_reducible rfl
              rotate_left
              · simp only [Act.put, List.setIfInBounds_toArray, List.set_cons_zero, List.set_cons_succ, i64_w, i32_w]
                rfl
              refine pure_ (i := 7) (N := some 25) (v := ?_) (a' := ?_) #[false, true, true, true, false, true, true, true, false, false] rfl rfl (any_of HT_.out (by kernel_rfl)) (fun _ _ _ h => h) (Or.inl ⟨by rfl, ?_⟩) ?_ ?_
              rotate_left
              · intro w'
                go_simp
                with_reducible rfl
              rotate_left
              · simp only [Act.put, List.setIfInBounds_toArray, List.set_cons_zero, List.set_cons_succ, i64_w, i32_w]
                rfl
              refine one_ (i := 0) (N := some 18) #[true, true, true, true, false, true, true, true, false, false] rfl rfl (one_of HT_.out (by kernel_rfl)) (by decide) (fun K hK => ?_)
              refine Kd.R_lit_step Kd.string _ 9 ?hg (N := 18) ?hd (xs := ([] : List ByteArray)) (inner := []) (ok := fun _ => True) (okp := fun _ => True) ?hr ?hp (fun _ hk => hk) trivial (Below.refl _ _) (Nat.le_refl _) (by simp) ?_; (case hd => rfl); (case hg => rfl); (case hr => first | (go_simp; done) | (go_simp; rfl)); (case hp => exact (Reps.none _ _))
              intro v102 w15 ho16 hb hg_ hnew_
              clear hg_ hnew_
              (first | rw [← Ny101.out] at ho16 | (simp only [Int.reduceToNat] at ho16; rw [← Ny101.out] at ho16))
              have n0_ := Aside0.mk (Kd.R_lower ho16 (below_size (by repeat (first | (with_reducible first | exact HB.out | apply below_alloc | apply pw_below_drewN | apply below_drew1) | exact HB.out))))
              have n1_ := Aside0.mk (below_step (by repeat (first | (with_reducible first | exact HB.out | apply below_alloc | apply pw_below_drewN | apply below_drew1) | exact HB.out)) hb)
              clear HB
              have HO103 := n0_
              have HB := n1_
              clear n0_ n1_
              clear hb ho16
              refine hK.out _ _ trivial (fun hHeld => ?_)
              clear hK K
              refine norm_ (a' := ?_) ?_ ?_
              rotate_left
              · show Act.put _ (some 18) _ = _
                simp only [Act.put, List.setIfInBounds_toArray, List.set_cons_zero, List.set_cons_succ, i64_w, i32_w]
                rfl
              refine one_ (i := 4) (N := some 22) #[true, true, true, true, true, true, true, true, false, false] rfl rfl (one_of HT_.out (by kernel_rfl)) (by decide) (fun K hK => ?_)
              refine Kd.R_append_rows_step Kd.string (w0 := w) w.heap.size (by rfl) (.tmp 18) (.tmp 21) 22 9 (.string ⟨#[]⟩) 16 rfl Try.underlying22 info9 rfl (by decide) (by omega) v102 y101 (l0.drop ((ji4) : Int).toNat) _ _ _ (fun _ => True) (fun _ => False) rfl rfl ?aO ?aR (fun _ _ h => h) (fun _ h => h.elim) ?aF ?aB ?aS ?aL ?_
              (case aR => first | (rw [← show (l0.drop ((ji4) : Int).toNat).length = (l0.length - (ji4).toNat) from List.length_drop]; repeat (first | exact (Kd.C_below HR104.out HB.out) | (with_reducible refine Kd.C_alloc ?_ _) | (with_reducible refine Kd.C_drewN ?_ _) | (with_reducible refine Kd.C_drew ?_))) | (repeat (first | exact (Kd.C_below HR104.out HB.out) | (with_reducible refine Kd.C_alloc ?_ _) | (with_reducible refine Kd.C_drewN ?_ _) | (with_reducible refine Kd.C_drew ?_))))
              (case aB => exact (by repeat (first | (with_reducible first | exact HB.out | apply below_alloc | apply pw_below_drewN | apply below_drew1) | exact HB.out)))
              (case aF => exact (fun _ _ => trivial))
              (case aO => exact (by (with_reducible repeat (first | apply Kd.R_alloc | apply Kd.R_drewN | apply Kd.R_drew)); exact HO103.out))
              (case aS => exact (below_size (by repeat (first | (with_reducible first | exact HB.out | apply below_alloc | apply pw_below_drewN | apply below_drew1) | exact HB.out))))
              (case aL => have := LMc7.out; have hlx_ := (show (l0.drop ((ji4) : Int).toNat).length = (l0.length - (ji4).toNat) from List.length_drop); omega)
              intro v106 w17 ho hb hg hat
              rw [← Ny105.out] at ho
              have n0_ := Aside0.mk (hb)
              have n1_ := Aside0.mk (ho)
              clear HB
              clear HO103
              have HB := n0_
              have HO107 := n1_
              clear n0_ n1_
              clear ho hb hg hat
              refine hK.out _ _ trivial (fun hHeld => ?_)
              clear hK K
              refine norm_ (a' := ?_) ?_ ?_
              rotate_left
              · show Act.put _ (some 22) _ = _
                simp only [Act.put, List.setIfInBounds_toArray, List.set_cons_zero, List.set_cons_succ, i64_w, i32_w]
                rfl
              refine one_ (i := 8) (N := some 26) #[true, true, true, true, true, true, true, true, true, false] rfl rfl (one_of HT_.out (by kernel_rfl)) (by decide) (fun K hK => ?_)
              refine Kd.R_append_rows_step Kd.string (w0 := w) w.heap.size (by rfl) (.tmp 22) (.tmp 25) 22 9 (.string ⟨#[]⟩) 16 rfl Try.underlying22 info9 rfl (by decide) (by omega) v106 y105 (l0.take ((ji4) : Int).toNat) _ _ _ (fun _ => True) (fun _ => False) rfl rfl ?aO ?aR (fun _ _ h => h) (fun _ h => h.elim) ?aF ?aB ?aS ?aL ?_
              (case aR => first | (have e9_ : (l0.take ((ji4) : Int).toNat).length = (ji4).toNat := (by rw [List.length_take]; have h_ : ((ji4) : Int) ≤ (l0.length : Int) := of_decide_eq_true (by first | (with_reducible assumption) | assumption); omega); have h9_ := HR108.out; (try rw [e9_] at h9_); repeat (first | exact (Kd.C_below h9_ HB.out) | (with_reducible refine Kd.C_alloc ?_ _) | (with_reducible refine Kd.C_drewN ?_ _) | (with_reducible refine Kd.C_drew ?_))) | (repeat (first | exact (Kd.C_below HR108.out HB.out) | (with_reducible refine Kd.C_alloc ?_ _) | (with_reducible refine Kd.C_drewN ?_ _) | (with_reducible refine Kd.C_drew ?_))))
              (case aB => exact (by repeat (first | (with_reducible first | exact HB.out | apply below_alloc | apply pw_below_drewN | apply below_drew1) | exact HB.out)))
              (case aF => exact (fun _ _ => trivial))
              (case aO => exact (by (with_reducible repeat (first | apply Kd.R_alloc | apply Kd.R_drewN | apply Kd.R_drew)); exact HO107.out))
              (case aS => exact (below_size (by repeat (first | (with_reducible first | exact HB.out | apply below_alloc | apply pw_below_drewN | apply below_drew1) | exact HB.out))))
              (case aL => have := LMc10.out; have hlx_ := (show (l0.take ((ji4) : Int).toNat).length = (ji4).toNat from (by rw [List.length_take]; have h_ : ((ji4) : Int) ≤ (l0.length : Int) := of_decide_eq_true (by first | (with_reducible assumption) | assumption); omega)); omega)
              intro v110 w18 ho hb hg hat
              rw [← Ny109.out] at ho
              have n0_ := Aside0.mk (hb)
              have n1_ := Aside0.mk (ho)
              clear HB
              clear HO107
              have HB := n0_
              have HO111 := n1_
              clear n0_ n1_
              clear ho hb hg hat
              refine hK.out _ _ trivial (fun hHeld => ?_)
              clear hK K
              refine norm_ (a' := ?_) ?_ ?_
              rotate_left
              · show Act.put _ (some 26) _ = _
                simp only [Act.put, List.setIfInBounds_toArray, List.set_cons_zero, List.set_cons_succ, i64_w, i32_w]
                rfl
              refine pure_ (i := 9) (N := some 6) (v := ?_) (a' := ?_) #[true, true, true, true, true, true, true, true, true, true] rfl rfl (any_of HT_.out (by kernel_rfl)) (fun _ _ _ h => h) (Or.inl ⟨by rfl, ?_⟩) ?_ ?_
              rotate_left
              · intro w'
                go_simp
                with_reducible rfl
              rotate_left
              · simp only [Act.put, List.setIfInBounds_toArray, List.set_cons_zero, List.set_cons_succ, i64_w, i32_w]
                rfl
              refine done_ (done_of HT_.out (by kernel_rfl)) ?_
              obtain ⟨Ao19, co19, eo19⟩ := Kd.R_slice HO111.out
              subst eo19
              try go_wp2
              (try simp only [hji4])
              go_loopg [7, 8] k (fun kq v7 v8 w' => ∃ (x6_1 : List ByteArray) (x7_1 : Int) (x8_1 : Int), v7 = .int .i64 x7_1 ∧ v8 = .int .i64 x8_1 ∧ Aside0 (laws_turned_string.l0 kq x6_1 x7_1 x8_1 = some r) ∧ Aside0 (kq ≤ k) ∧ Aside0 (Kd.R Kd.string 9 w' w.heap.size (fun _ => True) (.slice Ao19 y109.length co19) x6_1) ∧ Aside0 (Below w.heap.size w w'))
              case atStart => exact ⟨(y109), (0), (wrap64 ((y109.length : Int) - 1)), (by first | rfl | (simp; done) | (simp [*]; done)), (by first | rfl | (simp; done) | (simp [*]; done)), H', ⟨Nat.le_refl _⟩, ⟨by (with_reducible repeat (first | apply Kd.R_alloc | apply Kd.R_drewN | apply Kd.R_drew)); exact HO111.out⟩, ⟨by repeat (first | (with_reducible first | exact HB.out | apply below_alloc | apply pw_below_drewN | apply below_drew1) | exact HB.out)⟩⟩
              case round =>
                clear H'
                try clear c1
                try clear p2
                try clear c3
                try clear c3b0
                try clear c3b1
                try clear c3b2
                try clear c5
                try clear c5b0
                try clear c5b1
                try clear c6
                try clear c6b0
                try clear c6b1
                try clear p6
                try clear c7
                try clear c8
                try clear c8b0
                try clear c9
                try clear c9b0
                try clear c10
                try clear c11
                try clear c11b0
                try clear c11b1
                try clear c18
                obtain ⟨x6_1, x7_1, x8_1, rfl, rfl, HA, HK1, HO_6, HB⟩ := hrel
                have hl6_1 := (Kd.R_reads' HO_6.out).1
                rw [hl6_1] at HO_6
                (try simp only [hl6_1])
                cases gk with
                | zero => exact absurd HA.out (by simp [laws_turned_string.l0])
                | succ k1 =>
                  have H := HA.out
                  clear HA
                  simp only [laws_turned_string.l0] at H
                  by_cases c20 : x7_1 < x8_1
                  · rw [if_pos c20] at H
                    have c20b0 : decide (x7_1 < x8_1) = true := decide_eq_true c20
                    clear c20
                    by_cases c21 : 0 ≤ x8_1
                    · rw [if_pos c21] at H
                      have c21b0 : decide (0 ≤ x8_1) = true := decide_eq_true c21
                      clear c21
                      by_cases c22 : x8_1 < (x6_1.length : Int)
                      · rw [if_pos c22] at H
                        have c22b0 : decide (x8_1 < (x6_1.length : Int)) = true := decide_eq_true c22
                        clear c22
                        by_cases c23 : 0 ≤ x7_1
                        · rw [if_pos c23] at H
                          have c23b0 : decide (0 ≤ x7_1) = true := decide_eq_true c23
                          clear c23
                          by_cases c24 : x7_1 < (x6_1.length : Int)
                          · rw [if_pos c24] at H
                            have c24b0 : decide (x7_1 < (x6_1.length : Int)) = true := decide_eq_true c24
                            clear c24
                            obtain ⟨y114, hy114⟩ : ∃ y_ : List ByteArray, y_ = (x6_1.set (x7_1 : Int).toNat (rdOf ByteArray.empty x6_1 x8_1)) := ⟨_, rfl⟩
                            replace H : (laws_turned_string.l0 k1 (y114.set (x8_1 : Int).toNat (rdOf ByteArray.empty x6_1 x7_1)) (wrap64 (x7_1 + 1)) (wrap64 (x8_1 - 1))) = some r := by first | (rw [hy114]; with_reducible exact H) | (have H2_ := (Option.bind_some _ _).symm.trans H; rw [hy114]; with_reducible exact H2_) | (have H2_ := (Option.bind_some _ _).symm.trans H; with_reducible exact H2_) | with_reducible exact H | (rw [hy114]; exact H) | exact H
                            have Ny114 := Aside0.mk hy114
                            clear hy114
                            obtain ⟨y115, hy115⟩ : ∃ y_ : List ByteArray, y_ = (y114.set (x8_1 : Int).toNat (rdOf ByteArray.empty x6_1 x7_1)) := ⟨_, rfl⟩
                            replace H : (laws_turned_string.l0 k1 y115 (wrap64 (x7_1 + 1)) (wrap64 (x8_1 - 1))) = some r := by first | (rw [hy115]; with_reducible exact H) | (have H2_ := (Option.bind_some _ _).symm.trans H; rw [hy115]; with_reducible exact H2_) | (have H2_ := (Option.bind_some _ _).symm.trans H; with_reducible exact H2_) | with_reducible exact H | (rw [hy115]; exact H) | exact H
                            have Ny115 := Aside0.mk hy115
                            clear hy115
                            have H' := Aside0.mk H
                            clear H
                            try go_wp2
                            have n0_ := Aside0.mk (Kd.R_drew HO_6.out)
                            have n1_ := Aside0.mk (below_drew1 HB.out)
                            clear HO_6
                            clear HB
                            have HO_6 := n0_
                            have HB := n1_
                            clear n0_ n1_
                            have p112 : 0 ≤ (x8_1 : Int) := of_decide_eq_true (by first | (with_reducible assumption) | assumption)
                            have q112 : x8_1 < (x6_1.length : Int) := of_decide_eq_true (by first | (with_reducible assumption) | assumption)
                            obtain ⟨ad112, e112, hx112_0⟩ := Kd.at_string (Kd.R_reads' HO_6.out).2.2 x8_1 p112 q112
                            cases e112
                            replace p112 := eq_true p112
                            replace q112 := eq_true q112
                            have p113 : 0 ≤ (x7_1 : Int) := of_decide_eq_true (by first | (with_reducible assumption) | assumption)
                            have q113 : x7_1 < (x6_1.length : Int) := of_decide_eq_true (by first | (with_reducible assumption) | assumption)
                            obtain ⟨ad113, e113, hx113_0⟩ := Kd.at_string (Kd.R_reads' HO_6.out).2.2 x7_1 p113 q113
                            obtain rfl : ad112 = ad113 := (by injection e113)
                            replace p113 := eq_true p113
                            replace q113 := eq_true q113
                            have p25 : 0 ≤ (x7_1 : Int) := of_decide_eq_true (by first | (with_reducible assumption) | assumption)
                            have q25 : (x7_1 : Int) < ((x6_1.length : Int) : Int) := of_decide_eq_true (by first | (with_reducible assumption) | assumption)
                            obtain ⟨go25, co25, eo25, gb25, gl25, cl25, HG25⟩ := Kd.R_form HO_6.out (by omega)
                            (first | cases eo25 | (injection eo25 with ea_ en_ ec_; (first | subst ea_ | (injection ea_ with ea_; subst ea_)); subst ec_; clear en_))
                            have GB25 := Aside0.mk gb25
                            have GG25 := Aside0.mk HG25
                            clear gb25 gl25 HG25
                            (first | simp only [add_plain] at hx112_0 | skip)
                            (first | simp only [add_plain] at hx113_0 | skip)
                            obtain ⟨hx25_0, hf25_0⟩ := Kd.R_celln (⟨#[]⟩ : ByteArray) HO_6.out (x7_1 : Int) p25 q25
                            replace p25 := eq_true p25
                            replace q25 := eq_true q25
                            have HP28 := Kd.R_putn HO_6.out (x7_1 : Int) (rdOf ByteArray.empty x6_1 x8_1)
                            rw [← Ny114.out] at HP28
                            have HQ28 := Aside0.mk HP28
                            clear HP28
                            have p26 : 0 ≤ (x8_1 : Int) := of_decide_eq_true (by first | (with_reducible assumption) | assumption)
                            have q26 : (x8_1 : Int) < ((x6_1.length : Int) : Int) := of_decide_eq_true (by first | (with_reducible assumption) | assumption)
                            obtain ⟨hx26_0, hf26_0⟩ := Kd.R_celln (⟨#[]⟩ : ByteArray) HQ28.out (x8_1 : Int) p26 q26
                            replace p26 := eq_true p26
                            replace q26 := eq_true q26
                            have HP29 := Kd.R_putn HQ28.out (x8_1 : Int) (rdOf ByteArray.empty x6_1 x7_1)
                            rw [← Ny115.out] at HP29
                            have HQ29 := Aside0.mk HP29
                            clear HP29
                            refine start_ (n := 16) (S := fun w' => w'.cell? ⟨go25, (x8_1).toNat, none⟩ = some (.string (rdOf ByteArray.empty x6_1 x8_1)) ∧ w'.cell? ⟨go25, (x7_1).toNat, none⟩ = some (.string (rdOf ByteArray.empty x6_1 x7_1))) (ds := [13, 15]) #[false, false, false, false, false, false, false, false, false, false, false, false, false, false, false, false] (by kernel_rfl) rfl rfl ⟨hx112_0, hx113_0⟩ (fun hHeld => ?_); refine with_tabW laws_turned_string.tab9 laws_turned_string.bits9 (fun HT_ HW_ => ?_)
                            generalize wr.drew = w27 at HO_6 HB GG25 HQ28 HQ29 hf25_0 hf26_0 hx112_0 hx113_0 hx25_0 hx26_0 hHeld ⊢
                            refine pure_ (i := 0) (N := some 40) (v := ?_) (a' := ?_) #[true, false, false, false, false, false, false, false, false, false, false, false, false, false, false, false] rfl rfl (any_of HT_.out (by kernel_rfl)) (fun _ _ _ h => h) (Or.inl ⟨by rfl, ?_⟩) ?_ ?_
                            rotate_left
                            · intro w'
                              go_simp
                              with_reducible rfl
                            rotate_left
                            · simp only [Act.put, List.setIfInBounds_toArray, List.set_cons_zero, List.set_cons_succ, i64_w, i32_w]
                              rfl
                            refine pure_ (i := 1) (N := some 41) (v := ?_) (a' := ?_) #[true, true, false, false, false, false, false, false, false, false, false, false, false, false, false, false] rfl rfl (any_of HT_.out (by kernel_rfl)) (fun _ _ _ h => h) (Or.inl ⟨by rfl, ?_⟩) ?_ ?_
                            rotate_left
                            · intro w'
                              go_simp
                              with_reducible rfl
                            rotate_left
                            · simp only [Act.put, List.setIfInBounds_toArray, List.set_cons_zero, List.set_cons_succ, i64_w, i32_w]
                              rfl
                            refine pure_ (i := 2) (N := some 42) (v := ?_) (a' := ?_) #[true, true, true, false, false, false, false, false, false, false, false, false, false, false, false, false] rfl rfl (any_of HT_.out (by kernel_rfl)) (fun _ _ _ h => h) (Or.inl ⟨by rfl, ?_⟩) ?_ ?_
                            rotate_left
                            · intro w'
                              go_simp
                              with_reducible rfl
                            rotate_left
                            · simp only [Act.put, List.setIfInBounds_toArray, List.set_cons_zero, List.set_cons_succ, i64_w, i32_w]
                              rfl
                            refine pure_ (i := 3) (N := some 43) (v := ?_) (a' := ?_) #[true, true, true, true, false, false, false, false, false, false, false, false, false, false, false, false] rfl rfl (any_of HT_.out (by kernel_rfl)) (fun _ _ _ h => h) (Or.inl ⟨by rfl, ?_⟩) ?_ ?_
                            rotate_left
                            · intro w'
                              go_simp
                              with_reducible rfl
                            rotate_left
                            · simp only [Act.put, List.setIfInBounds_toArray, List.set_cons_zero, List.set_cons_succ, i64_w, i32_w]
                              rfl
                            refine pure_ (i := 4) (N := some 44) (v := ?_) (a' := ?_) #[true, true, true, true, true, false, false, false, false, false, false, false, false, false, false, false] rfl rfl (any_of HT_.out (by kernel_rfl)) (fun _ _ _ h => h) (Or.inl ⟨by rfl, ?_⟩) ?_ ?_
                            rotate_left
                            · intro w'
                              go_simp
                              with_reducible rfl
                            rotate_left
                            · simp only [Act.put, List.setIfInBounds_toArray, List.set_cons_zero, List.set_cons_succ, i64_w, i32_w]
                              rfl
                            refine pure_ (i := 5) (N := some 45) (v := ?_) (a' := ?_) #[true, true, true, true, true, true, false, false, false, false, false, false, false, false, false, false] rfl rfl (any_of HT_.out (by kernel_rfl)) (fun _ _ _ h => h) (Or.inl ⟨by rfl, ?_⟩) ?_ ?_
                            rotate_left
                            · intro w'
                              go_simp
                              with_reducible rfl
                            rotate_left
                            · simp only [Act.put, List.setIfInBounds_toArray, List.set_cons_zero, List.set_cons_succ, i64_w, i32_w]
                              rfl
                            refine pure_ (i := 6) (N := some 46) (v := ?_) (a' := ?_) #[true, true, true, true, true, true, true, false, false, false, false, false, false, false, false, false] rfl rfl (any_of HT_.out (by kernel_rfl)) (fun _ _ _ h => h) (Or.inl ⟨by rfl, ?_⟩) ?_ ?_
                            rotate_left
                            · intro w'
                              go_simp
                              with_reducible rfl
                            rotate_left
                            · simp only [Act.put, List.setIfInBounds_toArray, List.set_cons_zero, List.set_cons_succ, i64_w, i32_w]
                              rfl
                            refine pure_ (i := 8) (N := some 48) (v := ?_) (a' := ?_) #[true, true, true, true, true, true, true, false, true, false, false, false, false, false, false, false] rfl rfl (any_of HT_.out (by kernel_rfl)) (fun _ _ _ h => h) (Or.inl ⟨by rfl, ?_⟩) ?_ ?_
                            rotate_left
                            · intro w'
                              go_simp
                              with_reducible rfl
                            rotate_left
                            · simp only [Act.put, List.setIfInBounds_toArray, List.set_cons_zero, List.set_cons_succ, i64_w, i32_w]
                              rfl
                            refine pure_ (i := 9) (N := some 49) (v := ?_) (a' := ?_) #[true, true, true, true, true, true, true, false, true, true, false, false, false, false, false, false] rfl rfl (any_of HT_.out (by kernel_rfl)) (fun _ _ _ h => h) (Or.inl ⟨by rfl, ?_⟩) ?_ ?_
                            rotate_left
                            · intro w'
                              go_simp
                              with_reducible rfl
                            rotate_left
                            · simp only [Act.put, List.setIfInBounds_toArray, List.set_cons_zero, List.set_cons_succ, i64_w, i32_w]
                              rfl
                            refine pure_ (i := 10) (N := some 50) (v := ?_) (a' := ?_) #[true, true, true, true, true, true, true, false, true, true, true, false, false, false, false, false] rfl rfl (any_of HT_.out (by kernel_rfl)) (fun _ _ _ h => h) (Or.inl ⟨by rfl, ?_⟩) ?_ ?_
                            rotate_left
                            · intro w'
                              go_simp
                              with_reducible rfl
                            rotate_left
                            · simp only [Act.put, List.setIfInBounds_toArray, List.set_cons_zero, List.set_cons_succ, i64_w, i32_w]
                              rfl
                            refine take_ (i := 7) (N := some 47) (v := ?_) (a' := ?_) #[true, true, true, true, true, true, true, true, true, true, true, false, false, false, false, false] rfl rfl (take_ofW HT_.out HW_.out (by kernel_rfl)) (fun _ _ _ h => h) (Or.inl ⟨by rfl, ?_⟩) hHeld ?_ ?_
                            rotate_left
                            · rintro w' ⟨s0, s1⟩
                              go_simp
                              with_reducible rfl
                            rotate_left
                            · simp only [Act.put, List.setIfInBounds_toArray, List.set_cons_zero, List.set_cons_succ, i64_w, i32_w]
                              rfl
                            refine take_ (i := 11) (N := some 51) (v := ?_) (a' := ?_) #[true, true, true, true, true, true, true, true, true, true, true, true, false, false, false, false] rfl rfl (take_ofW HT_.out HW_.out (by kernel_rfl)) (fun _ _ _ h => h) (Or.inl ⟨by rfl, ?_⟩) hHeld ?_ ?_
                            rotate_left
                            · rintro w' ⟨s0, s1⟩
                              go_simp
                              with_reducible rfl
                            rotate_left
                            · simp only [Act.put, List.setIfInBounds_toArray, List.set_cons_zero, List.set_cons_succ, i64_w, i32_w]
                              rfl
                            refine pure_ (i := 12) (N := some 52) (v := ?_) (a' := ?_) #[true, true, true, true, true, true, true, true, true, true, true, true, true, false, false, false] rfl rfl (any_of HT_.out (by kernel_rfl)) (fun _ _ _ h => h) (Or.inl ⟨by rfl, ?_⟩) ?_ ?_
                            rotate_left
                            · intro w'
                              go_simp
                              with_reducible rfl
                            rotate_left
                            · simp only [Act.put, List.setIfInBounds_toArray, List.set_cons_zero, List.set_cons_succ, i64_w, i32_w]
                              rfl
                            refine last_ (i := 13) (N := none) #[true, true, true, true, true, true, true, true, true, true, true, true, true, true, false, false] rfl rfl (one_of HT_.out (by kernel_rfl)) (by decide) (fun K hK => ?_)
                            refine skip_ (w1 := ?_) (by rfl) rfl ?_ ?_
                            rotate_left
                            · go_simp
                              rfl
                            refine hK.out _ _ ?_
                            clear hK K
                            refine pure_ (i := 14) (N := some 53) (v := ?_) (a' := ?_) #[true, true, true, true, true, true, true, true, true, true, true, true, true, true, true, false] rfl rfl (any_of HT_.out (by kernel_rfl)) (fun _ _ _ h => h) (Or.inl ⟨by rfl, ?_⟩) ?_ ?_
                            rotate_left
                            · intro w'
                              go_simp
                              with_reducible rfl
                            rotate_left
                            · simp only [Act.put, List.setIfInBounds_toArray, List.set_cons_zero, List.set_cons_succ, i64_w, i32_w]
                              rfl
                            refine last_ (i := 15) (N := none) #[true, true, true, true, true, true, true, true, true, true, true, true, true, true, true, true] rfl rfl (one_of HT_.out (by kernel_rfl)) (by decide) (fun K hK => ?_)
                            refine skip_ (w1 := ?_) (by rfl) rfl ?_ ?_
                            rotate_left
                            · go_simp
                              rfl
                            refine hK.out _ _ ?_
                            clear hK K
                            refine done_ (done_of HT_.out (by kernel_rfl)) ?_
                            try go_wp2
                            (try simp only [← hl6_1])
                            go_roundg k1
                            case measure => have := HK1.out; omega
                            case rel => exact ⟨(y115), (wrap64 (x7_1 + 1)), (wrap64 (x8_1 - 1)), (by first | rfl | (simp; done) | (simp [*]; done)), (by first | rfl | (simp; done) | (simp [*]; done)), H', ⟨by have := HK1.out; omega⟩, ⟨by (try simp only [hl6_1]); (with_reducible repeat (first | apply Kd.R_alloc | apply Kd.R_drewN | apply Kd.R_drew)); exact HQ29.out⟩, ⟨by repeat (first | (with_reducible first | exact HB.out | apply below_alloc | apply pw_below_drewN | apply below_drew1 | refine below_set ?_ GB25.out | refine below_set ?_ GB25.out) | exact HB.out)⟩⟩
                          · rw [if_neg c24] at H
                            exact absurd H (by simp)
                        · rw [if_neg c23] at H
                          exact absurd H (by simp)
                      · rw [if_neg c22] at H
                        exact absurd H (by simp)
                    · rw [if_neg c21] at H
                      exact absurd H (by simp)
                  · rw [if_neg c20] at H
                    have c20b0 : decide (x7_1 < x8_1) = false := decide_eq_false c20
                    clear c20
                    obtain rfl := Option.some.inj H
                    go_wp2
                    go_ret
                    exact ⟨_, by first | rfl | (simp [errW_none, errW_some] <;> rfl) | (simp only [← hji4]; first | rfl | (simp [errW_none, errW_some] <;> rfl)) | (simp [*, errW_none, errW_some] <;> rfl), by (with_reducible repeat (first | apply Kd.R_alloc | apply Kd.R_drewN | apply Kd.R_drew)); exact HO_6.out, by repeat (first | (with_reducible first | exact HB.out | apply below_alloc | apply pw_below_drewN | apply below_drew1) | exact HB.out)⟩
            · rw [if_neg c11] at H
              have c11b0 : ((Int.tmod a1 2) == 1) = false := beq_eq_false_iff_ne.mpr c11
              have c11b1 : ((Int.tmod a1 2) != 1) = true := bne_iff_ne.mpr c11
              obtain rfl := Option.some.inj H
              go_enter Try.func18, Try.ntmps18
              try go_wp2
              have n0_ := Aside0.mk (below_drew1 HB.out)
              clear HB
              have HB := n0_
              clear n0_
              obtain ⟨i031, hi031, _, hsz31, _⟩ := info_parts info9
              obtain ⟨A31, hcut31, hA31, hC31⟩ := print_drop_of (P := Try.prog) Value.string (⟨#[]⟩ : ByteArray) 22 9 .i64 Try.underlying22 hi031 hsz31 A0 c0 l0 (ji4) (of_decide_eq_true (by first | (with_reducible assumption) | assumption)) (of_decide_eq_true (by first | (with_reducible assumption) | assumption)) HC0.out
              have HR104 := Aside0.mk (Kd.C_of_reads (h1 := fun _ => rfl) (hA31 _ (Kd.reads_of_C HR0.out)))
              have HC104 := Aside0.mk hC31
              clear hA31 hC31 hi031 hsz31
              obtain ⟨i032, hi032, _, hsz32, _⟩ := info_parts info9
              obtain ⟨hcut32, hA32, hC32⟩ := print_take_of (P := Try.prog) Value.string (⟨#[]⟩ : ByteArray) 22 9 .i64 Try.underlying22 hi032 hsz32 A0 c0 l0 (ji4) (of_decide_eq_true (by first | (with_reducible assumption) | assumption)) (of_decide_eq_true (by first | (with_reducible assumption) | assumption)) HC0.out
              have HR108 := Aside0.mk (Kd.C_of_reads (h1 := fun _ => rfl) (hA32 _ (Kd.reads_of_C HR0.out)))
              have HC108 := Aside0.mk hC32
              clear hA32 hC32 hi032 hsz32
              refine start_ (n := 10) (S := fun w' => True) (ds := []) #[false, false, false, false, false, false, false, false, false, false] (by kernel_rfl) rfl rfl trivial (fun hHeld => ?_); refine with_tabW laws_turned_string.tab4 laws_turned_string.bits4 (fun HT_ HW_ => ?_)
              generalize w.drew = w30 at HB HR104 HR108 hHeld ⊢
              refine pure_ (i := 1) (N := some 19) (v := ?_) (a' := ?_) #[false, true, false, false, false, false, false, false, false, false] rfl rfl (any_of HT_.out (by kernel_rfl)) (fun _ _ _ h => h) (Or.inl ⟨by rfl, ?_⟩) ?_ ?_
              rotate_left
              · intro w'
                go_simp
                with_reducible rfl
              rotate_left
              · simp only [Act.put, List.setIfInBounds_toArray, List.set_cons_zero, List.set_cons_succ, i64_w, i32_w]
                rfl
              refine pure_ (i := 2) (N := some 20) (v := ?_) (a' := ?_) #[false, true, true, false, false, false, false, false, false, false] rfl rfl (any_of HT_.out (by kernel_rfl)) (fun _ _ _ h => h) (Or.inl ⟨by rfl, ?_⟩) ?_ ?_
              rotate_left
              · intro w'
                go_simp
                with_reducible rfl
              rotate_left
              · simp only [Act.put, List.setIfInBounds_toArray, List.set_cons_zero, List.set_cons_succ, i64_w, i32_w]
                rfl
              refine pure_ (i := 3) (N := some 21) (v := ?_) (a' := ?_) #[false, true, true, true, false, false, false, false, false, false] rfl rfl (any_of HT_.out (by kernel_rfl)) (fun _ _ _ h => h) (Or.inl ⟨by rfl, ?_⟩) ?_ ?_
              rotate_left
              · intro w'
                go_simp
                with_reducible rfl
              rotate_left
              · simp only [Act.put, List.setIfInBounds_toArray, List.set_cons_zero, List.set_cons_succ, i64_w, i32_w]
                rfl
              refine pure_ (i := 5) (N := some 23) (v := ?_) (a' := ?_) #[false, true, true, true, false, true, false, false, false, false] rfl rfl (any_of HT_.out (by kernel_rfl)) (fun _ _ _ h => h) (Or.inl ⟨by rfl, ?_⟩) ?_ ?_
              rotate_left
              · intro w'
                go_simp
                with_reducible rfl
              rotate_left
              · simp only [Act.put, List.setIfInBounds_toArray, List.set_cons_zero, List.set_cons_succ, i64_w, i32_w]
                rfl
              refine pure_ (i := 6) (N := some 24) (v := ?_) (a' := ?_) #[false, true, true, true, false, true, true, false, false, false] rfl rfl (any_of HT_.out (by kernel_rfl)) (fun _ _ _ h => h) (Or.inl ⟨by rfl, ?_⟩) ?_ ?_
              rotate_left
              · intro w'
                go_simp
                with_reducible rfl
              rotate_left
              · simp only [Act.put, List.setIfInBounds_toArray, List.set_cons_zero, List.set_cons_succ, i64_w, i32_w]
                rfl
              refine pure_ (i := 7) (N := some 25) (v := ?_) (a' := ?_) #[false, true, true, true, false, true, true, true, false, false] rfl rfl (any_of HT_.out (by kernel_rfl)) (fun _ _ _ h => h) (Or.inl ⟨by rfl, ?_⟩) ?_ ?_
              rotate_left
              · intro w'
                go_simp
                with_reducible rfl
              rotate_left
              · simp only [Act.put, List.setIfInBounds_toArray, List.set_cons_zero, List.set_cons_succ, i64_w, i32_w]
                rfl
              refine one_ (i := 0) (N := some 18) #[true, true, true, true, false, true, true, true, false, false] rfl rfl (one_of HT_.out (by kernel_rfl)) (by decide) (fun K hK => ?_)
              refine Kd.R_lit_step Kd.string _ 9 ?hg (N := 18) ?hd (xs := ([] : List ByteArray)) (inner := []) (ok := fun _ => True) (okp := fun _ => True) ?hr ?hp (fun _ hk => hk) trivial (Below.refl _ _) (Nat.le_refl _) (by simp) ?_; (case hd => rfl); (case hg => rfl); (case hr => first | (go_simp; done) | (go_simp; rfl)); (case hp => exact (Reps.none _ _))
              intro v102 w33 ho34 hb hg_ hnew_
              clear hg_ hnew_
              (first | rw [← Ny101.out] at ho34 | (simp only [Int.reduceToNat] at ho34; rw [← Ny101.out] at ho34))
              have n0_ := Aside0.mk (Kd.R_lower ho34 (below_size (by repeat (first | (with_reducible first | exact HB.out | apply below_alloc | apply pw_below_drewN | apply below_drew1) | exact HB.out))))
              have n1_ := Aside0.mk (below_step (by repeat (first | (with_reducible first | exact HB.out | apply below_alloc | apply pw_below_drewN | apply below_drew1) | exact HB.out)) hb)
              clear HB
              have HO103 := n0_
              have HB := n1_
              clear n0_ n1_
              clear hb ho34
              refine hK.out _ _ trivial (fun hHeld => ?_)
              clear hK K
              refine norm_ (a' := ?_) ?_ ?_
              rotate_left
              · show Act.put _ (some 18) _ = _
                simp only [Act.put, List.setIfInBounds_toArray, List.set_cons_zero, List.set_cons_succ, i64_w, i32_w]
                rfl
              refine one_ (i := 4) (N := some 22) #[true, true, true, true, true, true, true, true, false, false] rfl rfl (one_of HT_.out (by kernel_rfl)) (by decide) (fun K hK => ?_)
              refine Kd.R_append_rows_step Kd.string (w0 := w) w.heap.size (by rfl) (.tmp 18) (.tmp 21) 22 9 (.string ⟨#[]⟩) 16 rfl Try.underlying22 info9 rfl (by decide) (by omega) v102 y101 (l0.drop ((ji4) : Int).toNat) _ _ _ (fun _ => True) (fun _ => False) rfl rfl ?aO ?aR (fun _ _ h => h) (fun _ h => h.elim) ?aF ?aB ?aS ?aL ?_
              (case aR => first | (rw [← show (l0.drop ((ji4) : Int).toNat).length = (l0.length - (ji4).toNat) from List.length_drop]; repeat (first | exact (Kd.C_below HR104.out HB.out) | (with_reducible refine Kd.C_alloc ?_ _) | (with_reducible refine Kd.C_drewN ?_ _) | (with_reducible refine Kd.C_drew ?_))) | (repeat (first | exact (Kd.C_below HR104.out HB.out) | (with_reducible refine Kd.C_alloc ?_ _) | (with_reducible refine Kd.C_drewN ?_ _) | (with_reducible refine Kd.C_drew ?_))))
              (case aB => exact (by repeat (first | (with_reducible first | exact HB.out | apply below_alloc | apply pw_below_drewN | apply below_drew1) | exact HB.out)))
              (case aF => exact (fun _ _ => trivial))
              (case aO => exact (by (with_reducible repeat (first | apply Kd.R_alloc | apply Kd.R_drewN | apply Kd.R_drew)); exact HO103.out))
              (case aS => exact (below_size (by repeat (first | (with_reducible first | exact HB.out | apply below_alloc | apply pw_below_drewN | apply below_drew1) | exact HB.out))))
              (case aL => have := LMc7.out; have hlx_ := (show (l0.drop ((ji4) : Int).toNat).length = (l0.length - (ji4).toNat) from List.length_drop); omega)
              intro v106 w35 ho hb hg hat
              rw [← Ny105.out] at ho
              have n0_ := Aside0.mk (hb)
              have n1_ := Aside0.mk (ho)
              clear HB
              clear HO103
              have HB := n0_
              have HO107 := n1_
              clear n0_ n1_
              clear ho hb hg hat
              refine hK.out _ _ trivial (fun hHeld => ?_)
              clear hK K
              refine norm_ (a' := ?_) ?_ ?_
              rotate_left
              · show Act.put _ (some 22) _ = _
                simp only [Act.put, List.setIfInBounds_toArray, List.set_cons_zero, List.set_cons_succ, i64_w, i32_w]
                rfl
              refine one_ (i := 8) (N := some 26) #[true, true, true, true, true, true, true, true, true, false] rfl rfl (one_of HT_.out (by kernel_rfl)) (by decide) (fun K hK => ?_)
              refine Kd.R_append_rows_step Kd.string (w0 := w) w.heap.size (by rfl) (.tmp 22) (.tmp 25) 22 9 (.string ⟨#[]⟩) 16 rfl Try.underlying22 info9 rfl (by decide) (by omega) v106 y105 (l0.take ((ji4) : Int).toNat) _ _ _ (fun _ => True) (fun _ => False) rfl rfl ?aO ?aR (fun _ _ h => h) (fun _ h => h.elim) ?aF ?aB ?aS ?aL ?_
              (case aR => first | (have e9_ : (l0.take ((ji4) : Int).toNat).length = (ji4).toNat := (by rw [List.length_take]; have h_ : ((ji4) : Int) ≤ (l0.length : Int) := of_decide_eq_true (by first | (with_reducible assumption) | assumption); omega); have h9_ := HR108.out; (try rw [e9_] at h9_); repeat (first | exact (Kd.C_below h9_ HB.out) | (with_reducible refine Kd.C_alloc ?_ _) | (with_reducible refine Kd.C_drewN ?_ _) | (with_reducible refine Kd.C_drew ?_))) | (repeat (first | exact (Kd.C_below HR108.out HB.out) | (with_reducible refine Kd.C_alloc ?_ _) | (with_reducible refine Kd.C_drewN ?_ _) | (with_reducible refine Kd.C_drew ?_))))
              (case aB => exact (by repeat (first | (with_reducible first | exact HB.out | apply below_alloc | apply pw_below_drewN | apply below_drew1) | exact HB.out)))
              (case aF => exact (fun _ _ => trivial))
              (case aO => exact (by (with_reducible repeat (first | apply Kd.R_alloc | apply Kd.R_drewN | apply Kd.R_drew)); exact HO107.out))
              (case aS => exact (below_size (by repeat (first | (with_reducible first | exact HB.out | apply below_alloc | apply pw_below_drewN | apply below_drew1) | exact HB.out))))
              (case aL => have := LMc10.out; have hlx_ := (show (l0.take ((ji4) : Int).toNat).length = (ji4).toNat from (by rw [List.length_take]; have h_ : ((ji4) : Int) ≤ (l0.length : Int) := of_decide_eq_true (by first | (with_reducible assumption) | assumption); omega)); omega)
              intro v110 w36 ho hb hg hat
              rw [← Ny109.out] at ho
              have n0_ := Aside0.mk (hb)
              have n1_ := Aside0.mk (ho)
              clear HB
              clear HO107
              have HB := n0_
              have HO111 := n1_
              clear n0_ n1_
              clear ho hb hg hat
              refine hK.out _ _ trivial (fun hHeld => ?_)
              clear hK K
              refine norm_ (a' := ?_) ?_ ?_
              rotate_left
              · show Act.put _ (some 26) _ = _
                simp only [Act.put, List.setIfInBounds_toArray, List.set_cons_zero, List.set_cons_succ, i64_w, i32_w]
                rfl
              refine pure_ (i := 9) (N := some 6) (v := ?_) (a' := ?_) #[true, true, true, true, true, true, true, true, true, true] rfl rfl (any_of HT_.out (by kernel_rfl)) (fun _ _ _ h => h) (Or.inl ⟨by rfl, ?_⟩) ?_ ?_
              rotate_left
              · intro w'
                go_simp
                with_reducible rfl
              rotate_left
              · simp only [Act.put, List.setIfInBounds_toArray, List.set_cons_zero, List.set_cons_succ, i64_w, i32_w]
                rfl
              refine done_ (done_of HT_.out (by kernel_rfl)) ?_
              try go_wp2
              go_ret
              exact ⟨_, by first | rfl | (simp [errW_none, errW_some] <;> rfl) | (simp only [← hji4]; first | rfl | (simp [errW_none, errW_some] <;> rfl)) | (simp [*, errW_none, errW_some] <;> rfl), by (with_reducible repeat (first | apply Kd.R_alloc | apply Kd.R_drewN | apply Kd.R_drew)); exact HO111.out, by repeat (first | (with_reducible first | exact HB.out | apply below_alloc | apply pw_below_drewN | apply below_drew1) | exact HB.out)⟩
          · rw [if_neg c10] at H
            exact absurd H (by simp)
        · rw [if_neg c7] at H
          exact absurd H (by simp)
      · rw [if_neg c6] at H
        exact absurd H (by simp)
    · rw [if_neg c5] at H
      exact absurd H (by simp)

end Go.Proofs.Ytaejkbjepbifcaa.PT
namespace Go.Proofs.Ytaejkbjepbifcaa.PT
open Go.RowKit Go.Proofs.YtaejkbjepbifcaaW.PrintWords Go.Proofs.YtaejkbjepbifcaaW.PrintLast Go.Proofs.YtaejkbjepbifcaaW.PrintMore
attribute [local go_sem] max2_int min2_int max_two min_two max_three min_three max_four min_four   -- for this text's walks alone
set_option linter.unusedVariables false
set_option linter.unusedSimpArgs false

/-! ### laws_turned_int: function 19 -/
def laws_turned_int.l0 : Nat → List Int → Int → Int → Option (List Int)
  | 0, _, _, _ => none
  | k + 1, x6, x7, x8 => if x7 < x8 then (if 0 ≤ x8 then (if x8 < (x6.length : Int) then (if 0 ≤ x7 then (if x7 < (x6.length : Int) then (laws_turned_int.l0 k ((x6.set (x7 : Int).toNat (rd x6 x8)).set (x8 : Int).toNat (rd x6 x7)) (wrap64 (x7 + 1)) (wrap64 (x8 - 1))) else (none)) else (none)) else (none)) else (none)) else (some x6)
def laws_turned_int.f (k : Nat) (l0 : List Int) (a1 : Int) : Option (List Int) := if (l0.length : Int) = 0 then (some ([] : List Int)) else ((some (([] : List Int) : List Int)).bind fun y116 => (if 0 ≤ (((Int.tdiv a1 2) % 256) % (l0.length : Int)) then (if (((Int.tdiv a1 2) % 256) % (l0.length : Int)) ≤ (l0.length : Int) then (if y116.length + (l0.drop ((((Int.tdiv a1 2) % 256) % (l0.length : Int)) : Int).toNat).length < 17592186044416 then ((some (y116 ++ (l0.drop ((((Int.tdiv a1 2) % 256) % (l0.length : Int)) : Int).toNat) : List Int)).bind fun y120 => (if y120.length + (l0.take ((((Int.tdiv a1 2) % 256) % (l0.length : Int)) : Int).toNat).length < 17592186044416 then ((some (y120 ++ (l0.take ((((Int.tdiv a1 2) % 256) % (l0.length : Int)) : Int).toNat) : List Int)).bind fun y124 => (if (Int.tmod a1 2) = 1 then (laws_turned_int.l0 k y124 0 (wrap64 ((y124.length : Int) - 1))) else (some y124))) else (none))) else (none)) else (none)) else (none)))
theorem laws_turned_int.mono_l : ∀ k, (∀ y0 y1 y2, LeO (laws_turned_int.l0 k y0 y1 y2) (laws_turned_int.l0 (k + 1) y0 y1 y2))
  | 0 => fun _ _ _ r h => by simp [laws_turned_int.l0] at h
  | k + 1 => by
    have ih0 := laws_turned_int.mono_l k
    · intro y0 y1 y2
      unfold laws_turned_int.l0
      repeat' first
      | (with_reducible exact ih0 _ _ _)
      | (with_reducible exact LeO.refl _)
      | (with_reducible exact LeO.none _)
      | (with_reducible refine LeO.ite ?_ ?_)
      | (with_reducible refine LeO.bind ?_ (fun _ => ?_))
      | exact ih0 _ _ _
      | exact LeO.none _
      | refine LeO.ite ?_ ?_
      | refine LeO.bind ?_ (fun _ => ?_)
theorem laws_turned_int.mono : ∀ a0 a1 k, LeO (laws_turned_int.f k a0 a1) (laws_turned_int.f (k + 1) a0 a1) := by
  intro a0 a1 k
  have ih0 := laws_turned_int.mono_l k
  unfold laws_turned_int.f
  repeat' first
      | (with_reducible exact ih0 _ _ _)
      | (with_reducible exact LeO.refl _)
      | (with_reducible exact LeO.none _)
      | (with_reducible refine LeO.ite ?_ ?_)
      | (with_reducible refine LeO.bind ?_ (fun _ => ?_))
      | exact ih0 _ _ _
      | exact LeO.none _
      | refine LeO.ite ?_ ?_
      | refine LeO.bind ?_ (fun _ => ?_)
def laws_turned_int.T4 : Bool × List (List Nat × List Nat) := (true, [([], []), ([], []), ([], []), ([1, 2], [1, 2]), ([0, 3], [0, 3]), ([], []), ([], []), ([5, 6], [5, 6]), ([4, 7, 4], [4, 7]), ([8, 8, 0, 1, 2, 3, 4, 5, 6, 7, 8], [8])])
def laws_turned_int.B4 : List Nat := [0, 0, 0, 6, 15, 0, 0, 96, 255, 511]
theorem laws_turned_int.tab4 : rtab .any (opsOf Try.f19 4) = laws_turned_int.T4 := by kernel_rfl
theorem laws_turned_int.bits4 : waitsOk laws_turned_int.T4.2 laws_turned_int.B4 = true := by kernel_rfl
def laws_turned_int.T9 : Bool × List (List Nat × List Nat) := (true, [([], []), ([], []), ([], []), ([], []), ([], []), ([], []), ([4, 5], [4, 5]), ([6], [6]), ([], []), ([], []), ([8, 9], [8, 9]), ([10], [10]), ([0, 1, 0, 1, 4, 5, 6, 7, 11], [0, 1]), ([12, 7, 0, 1, 4, 5, 6, 7, 11], [7, 12]), ([2, 3, 0, 1, 2, 3, 4, 5, 6, 7, 8, 9, 10, 11, 12, 13], [2, 3]), ([14, 11, 13, 0, 1, 2, 3, 4, 5, 6, 7, 8, 9, 10, 11, 12, 13], [11, 14])])
def laws_turned_int.B9 : List Nat := [0, 0, 0, 0, 0, 0, 48, 112, 0, 0, 768, 1792, 4083, 8179, 16383, 32767]
theorem laws_turned_int.tab9 : rtab .any (opsOf Try.f19 9) = laws_turned_int.T9 := by kernel_rfl
theorem laws_turned_int.bits9 : waitsOk laws_turned_int.T9.2 laws_turned_int.B9 = true := by kernel_rfl
set_option maxHeartbeats 8000000 in
set_option maxRecDepth 100000 in
theorem laws_turned_int.calls (k : Nat) (A0 : Option Addr) (c0 : Nat) (l0 : List Int) (a1 : Int) (r : List Int) (w : World) (hr0 : Kd.C (Kd.int .i64) w A0 l0.length l0) (hc0 : l0.length ≤ c0) (h : laws_turned_int.f k l0 a1 = some r) :
    Calls Try.prog 19 #[.slice A0 l0.length c0, .int .u8 a1] w fun e w' => ∃ v0_ : Value, e = .returned (v0_) ∧ Kd.R (Kd.int .i64) 3 w' w.heap.size (fun _ => True) v0_ r ∧ Below w.heap.size w w' := by
  have HR0 := Aside0.mk hr0
  have HC0 := Aside0.mk hc0
  clear hr0 hc0
  have HB := Aside0.mk (Below.refl w.heap.size w)
  have H : (if (l0.length : Int) = 0 then (some ([] : List Int)) else ((some (([] : List Int) : List Int)).bind fun y116 => (if 0 ≤ (((Int.tdiv a1 2) % 256) % (l0.length : Int)) then (if (((Int.tdiv a1 2) % 256) % (l0.length : Int)) ≤ (l0.length : Int) then (if y116.length + (l0.drop ((((Int.tdiv a1 2) % 256) % (l0.length : Int)) : Int).toNat).length < 17592186044416 then ((some (y116 ++ (l0.drop ((((Int.tdiv a1 2) % 256) % (l0.length : Int)) : Int).toNat) : List Int)).bind fun y120 => (if y120.length + (l0.take ((((Int.tdiv a1 2) % 256) % (l0.length : Int)) : Int).toNat).length < 17592186044416 then ((some (y120 ++ (l0.take ((((Int.tdiv a1 2) % 256) % (l0.length : Int)) : Int).toNat) : List Int)).bind fun y124 => (if (Int.tmod a1 2) = 1 then (laws_turned_int.l0 k y124 0 (wrap64 ((y124.length : Int) - 1))) else (some y124))) else (none))) else (none)) else (none)) else (none)))) = some r := h
  clear h
  by_cases c3 : (l0.length : Int) = 0
  · rw [if_pos c3] at H
    have c3b0 : ((l0.length : Int) == 0) = true := beq_iff_eq.mpr c3
    have c3b1 : ((l0.length : Int) != 0) = false := bne_eq_false_iff_eq.mpr c3
    clear c3
    obtain rfl := Option.some.inj H
    go_enter Try.func19, Try.ntmps19
    go_wp2
    go_ret
    exact ⟨_, by first | rfl | (simp [errW_none, errW_some] <;> rfl) | (simp [*, errW_none, errW_some] <;> rfl), by first | exact Kd.R_nil _ _ _ _ _ | exact Kd.N_nil _ _ _ _ _ | exact Kd.V_nil _ _ _ _ _ | exact Kd.Q_nil _ _ _ _ _ | exact Kd.S_nil _ _ _ _ _, by repeat (first | (with_reducible first | exact HB.out | apply below_alloc | apply pw_below_drewN | apply below_drew1) | exact HB.out)⟩
  · rw [if_neg c3] at H
    have c3b0 : ((l0.length : Int) == 0) = false := beq_eq_false_iff_ne.mpr c3
    have c3b1 : ((l0.length : Int) != 0) = true := bne_iff_ne.mpr c3
    have c3b2 : ¬ (l0 = []) := fun h_ => c3 (by rw [h_]; rfl)
    obtain ⟨y116, hy116⟩ : ∃ y_ : List Int, y_ = (([] : List Int)) := ⟨_, rfl⟩
    replace H : (if 0 ≤ (((Int.tdiv a1 2) % 256) % (l0.length : Int)) then (if (((Int.tdiv a1 2) % 256) % (l0.length : Int)) ≤ (l0.length : Int) then (if y116.length + (l0.drop ((((Int.tdiv a1 2) % 256) % (l0.length : Int)) : Int).toNat).length < 17592186044416 then ((some (y116 ++ (l0.drop ((((Int.tdiv a1 2) % 256) % (l0.length : Int)) : Int).toNat) : List Int)).bind fun y120 => (if y120.length + (l0.take ((((Int.tdiv a1 2) % 256) % (l0.length : Int)) : Int).toNat).length < 17592186044416 then ((some (y120 ++ (l0.take ((((Int.tdiv a1 2) % 256) % (l0.length : Int)) : Int).toNat) : List Int)).bind fun y124 => (if (Int.tmod a1 2) = 1 then (laws_turned_int.l0 k y124 0 (wrap64 ((y124.length : Int) - 1))) else (some y124))) else (none))) else (none)) else (none)) else (none)) = some r := by first | (rw [hy116]; with_reducible exact H) | (have H2_ := (Option.bind_some _ _).symm.trans H; rw [hy116]; with_reducible exact H2_) | (have H2_ := (Option.bind_some _ _).symm.trans H; with_reducible exact H2_) | with_reducible exact H | (rw [hy116]; exact H) | exact H
    have Ny116 := Aside0.mk hy116
    clear hy116
    obtain ⟨ji4, hji4⟩ : ∃ j_ : Int, (((Int.tdiv a1 2) % 256) % (l0.length : Int)) = j_ := ⟨_, rfl⟩
    replace H : (if 0 ≤ (ji4) then (if (ji4) ≤ (l0.length : Int) then (if y116.length + (l0.drop ((ji4) : Int).toNat).length < 17592186044416 then ((some (y116 ++ (l0.drop ((ji4) : Int).toNat) : List Int)).bind fun y120 => (if y120.length + (l0.take ((ji4) : Int).toNat).length < 17592186044416 then ((some (y120 ++ (l0.take ((ji4) : Int).toNat) : List Int)).bind fun y124 => (if (Int.tmod a1 2) = 1 then (laws_turned_int.l0 k y124 0 (wrap64 ((y124.length : Int) - 1))) else (some y124))) else (none))) else (none)) else (none)) else (none)) = some r := by first | (rw [hji4] at H; exact H) | (simp only [hji4] at H ⊢; exact H)
    by_cases c5 : 0 ≤ (ji4)
    · rw [if_pos c5] at H
      have c5b0 := eq_true c5
      have c5b1 : decide (0 ≤ (ji4)) = true := decide_eq_true c5
      clear c5
      by_cases c6 : (ji4) ≤ (l0.length : Int)
      · rw [if_pos c6] at H
        have c6b0 := eq_true c6
        have c6b1 : decide ((ji4) ≤ (l0.length : Int)) = true := decide_eq_true c6
        clear c6
        by_cases c7 : y116.length + (l0.drop ((ji4) : Int).toNat).length < 17592186044416
        · rw [if_pos c7] at H
          have LMc7 := Aside0.mk c7
          clear c7
          obtain ⟨y120, hy120⟩ : ∃ y_ : List Int, y_ = (y116 ++ (l0.drop ((ji4) : Int).toNat)) := ⟨_, rfl⟩
          replace H : (if y120.length + (l0.take ((ji4) : Int).toNat).length < 17592186044416 then ((some (y120 ++ (l0.take ((ji4) : Int).toNat) : List Int)).bind fun y124 => (if (Int.tmod a1 2) = 1 then (laws_turned_int.l0 k y124 0 (wrap64 ((y124.length : Int) - 1))) else (some y124))) else (none)) = some r := by first | (rw [hy120]; with_reducible exact H) | (have H2_ := (Option.bind_some _ _).symm.trans H; rw [hy120]; with_reducible exact H2_) | (have H2_ := (Option.bind_some _ _).symm.trans H; with_reducible exact H2_) | with_reducible exact H | (rw [hy120]; exact H) | exact H
          have Ny120 := Aside0.mk hy120
          clear hy120
          have c8b0 := eq_true (of_decide_eq_true (by first | (with_reducible assumption) | assumption) : 0 ≤ (ji4))
          have c9b0 := eq_true (of_decide_eq_true (by first | (with_reducible assumption) | assumption) : (ji4) ≤ (l0.length : Int))
          by_cases c10 : y120.length + (l0.take ((ji4) : Int).toNat).length < 17592186044416
          · rw [if_pos c10] at H
            have LMc10 := Aside0.mk c10
            clear c10
            obtain ⟨y124, hy124⟩ : ∃ y_ : List Int, y_ = (y120 ++ (l0.take ((ji4) : Int).toNat)) := ⟨_, rfl⟩
            replace H : (if (Int.tmod a1 2) = 1 then (laws_turned_int.l0 k y124 0 (wrap64 ((y124.length : Int) - 1))) else (some y124)) = some r := by first | (rw [hy124]; with_reducible exact H) | (have H2_ := (Option.bind_some _ _).symm.trans H; rw [hy124]; with_reducible exact H2_) | (have H2_ := (Option.bind_some _ _).symm.trans H; with_reducible exact H2_) | with_reducible exact H | (rw [hy124]; exact H) | exact H
            have Ny124 := Aside0.mk hy124
            clear hy124
            by_cases c11 : (Int.tmod a1 2) = 1
            · rw [if_pos c11] at H
              have c11b0 : ((Int.tmod a1 2) == 1) = true := beq_iff_eq.mpr c11
              have c11b1 : ((Int.tmod a1 2) != 1) = false := bne_eq_false_iff_eq.mpr c11
              clear c11
              have H' := Aside0.mk H
              clear H
              go_enter Try.func19, Try.ntmps19
              try go_wp2
              have n0_ := Aside0.mk (below_drew1 HB.out)
              clear HB
              have HB := n0_
              clear n0_
              obtain ⟨i013, hi013, _, hsz13, _⟩ := info_parts info3
              obtain ⟨A13, hcut13, hA13, hC13⟩ := print_drop_of (P := Try.prog) (Value.int .i64) 0 23 3 .i64 Try.underlying23 hi013 hsz13 A0 c0 l0 (ji4) (of_decide_eq_true (by first | (with_reducible assumption) | assumption)) (of_decide_eq_true (by first | (with_reducible assumption) | assumption)) HC0.out
              have HR119 := Aside0.mk (Kd.C_of_reads (h1 := fun _ => rfl) (hA13 _ (Kd.reads_of_C HR0.out)))
              have HC119 := Aside0.mk hC13
              clear hA13 hC13 hi013 hsz13
              obtain ⟨i014, hi014, _, hsz14, _⟩ := info_parts info3
              obtain ⟨hcut14, hA14, hC14⟩ := print_take_of (P := Try.prog) (Value.int .i64) 0 23 3 .i64 Try.underlying23 hi014 hsz14 A0 c0 l0 (ji4) (of_decide_eq_true (by first | (with_reducible assumption) | assumption)) (of_decide_eq_true (by first | (with_reducible assumption) | assumption)) HC0.out
              have HR123 := Aside0.mk (Kd.C_of_reads (h1 := fun _ => rfl) (hA14 _ (Kd.reads_of_C HR0.out)))
              have HC123 := Aside0.mk hC14
              clear hA14 hC14 hi014 hsz14
              refine start_ (n := 10) (S := fun w' => True) (ds := []) #[false, false, false, false, false, false, false, false, false, false] (by kernel_rfl) rfl rfl trivial (fun hHeld => ?_); refine with_tabW laws_turned_int.tab4 laws_turned_int.bits4 (fun HT_ HW_ => ?_)
              generalize w.drew = w12 at HB HR119 HR123 hHeld ⊢
              refine pure_ (i := 1) (N := some 19) (v := ?_) (a' := ?_) #[false, true, false, false, false, false, false, false, false, false] rfl rfl (any_of HT_.out (by kernel_rfl)) (fun _ _ _ h => h) (Or.inl ⟨by rfl, ?_⟩) ?_ ?_
              rotate_left
              · intro w'
                go_simp
                with_reducible rfl
              rotate_left
              · simp only [Act.put, List.setIfInBounds_toArray, List.set_cons_zero, List.set_cons_succ, i64_w, i32_w]
                rfl
              refine pure_ (i := 2) (N := some 20) (v := ?_) (a' := ?_) #[false, true, true, false, false, false, false, false, false, false] rfl rfl (any_of HT_.out (by kernel_rfl)) (fun _ _ _ h => h) (Or.inl ⟨by rfl, ?_⟩) ?_ ?_
              rotate_left
              · intro w'
                go_simp
                with_reducible rfl
              rotate_left
              · simp only [Act.put, List.setIfInBounds_toArray, List.set_cons_zero, List.set_cons_succ, i64_w, i32_w]
                rfl
              refine pure_ (i := 3) (N := some 21) (v := ?_) (a' := ?_) #[false, true, true, true, false, false, false, false, false, false] rfl rfl (any_of HT_.out (by kernel_rfl)) (fun _ _ _ h => h) (Or.inl ⟨by rfl, ?_⟩) ?_ ?_
              rotate_left
              · intro w'
                go_simp
                with_reducible rfl
              rotate_left
              · simp only [Act.put, List.setIfInBounds_toArray, List.set_cons_zero, List.set_cons_succ, i64_w, i32_w]
                rfl
              refine pure_ (i := 5) (N := some 23) (v := ?_) (a' := ?_) #[false, true, true, true, false, true, false, false, false, false] rfl rfl (any_of HT_.out (by kernel_rfl)) (fun _ _ _ h => h) (Or.inl ⟨by rfl, ?_⟩) ?_ ?_
              rotate_left
              · intro w'
                go_simp
                with_reducible rfl
              rotate_left
              · simp only [Act.put, List.setIfInBounds_toArray, List.set_cons_zero, List.set_cons_succ, i64_w, i32_w]
                rfl
              refine pure_ (i := 6) (N := some 24) (v := ?_) (a' := ?_) #[false, true, true, true, false, true, true, false, false, false] rfl rfl (any_of HT_.out (by kernel_rfl)) (fun _ _ _ h => h) (Or.inl ⟨by rfl, ?_⟩) ?_ ?_
              rotate_left
              · intro w'
                go_simp
                with_reducible rfl
              rotate_left
              · simp only [Act.put, List.setIfInBounds_toArray, List.set_cons_zero, List.set_cons_succ, i64_w, i32_w]
                rfl
              refine pure_ (i := 7) (N := some 25) (v := ?_) (a' := ?_) #[false, true, true, true, false, true, true, true, false, false] rfl rfl (any_of HT_.out (by kernel_rfl)) (fun _ _ _ h => h) (Or.inl ⟨by rfl, ?_⟩) ?_ ?_
              rotate_left
              · intro w'
                go_simp
                with_reducible rfl
              rotate_left
              · simp only [Act.put, List.setIfInBounds_toArray, List.set_cons_zero, List.set_cons_succ, i64_w, i32_w]
                rfl
              refine one_ (i := 0) (N := some 18) #[true, true, true, true, false, true, true, true, false, false] rfl rfl (one_of HT_.out (by kernel_rfl)) (by decide) (fun K hK => ?_)
              refine Kd.R_lit_step (Kd.int .i64) _ 3 ?hg (N := 18) ?hd (xs := ([] : List Int)) (inner := []) (ok := fun _ => True) (okp := fun _ => True) ?hr ?hp (fun _ hk => hk) trivial (Below.refl _ _) (Nat.le_refl _) (by simp) ?_; (case hd => rfl); (case hg => rfl); (case hr => first | (go_simp; done) | (go_simp; rfl)); (case hp => exact (Reps.none _ _))
              intro v117 w15 ho16 hb hg_ hnew_
              clear hg_ hnew_
              (first | rw [← Ny116.out] at ho16 | (simp only [Int.reduceToNat] at ho16; rw [← Ny116.out] at ho16))
              have n0_ := Aside0.mk (Kd.R_lower ho16 (below_size (by repeat (first | (with_reducible first | exact HB.out | apply below_alloc | apply pw_below_drewN | apply below_drew1) | exact HB.out))))
              have n1_ := Aside0.mk (below_step (by repeat (first | (with_reducible first | exact HB.out | apply below_alloc | apply pw_below_drewN | apply below_drew1) | exact HB.out)) hb)
              clear HB
              have HO118 := n0_
              have HB := n1_
              clear n0_ n1_
              clear hb ho16
              refine hK.out _ _ trivial (fun hHeld => ?_)
              clear hK K
              refine norm_ (a' := ?_) ?_ ?_
              rotate_left
              · show Act.put _ (some 18) _ = _
                simp only [Act.put, List.setIfInBounds_toArray, List.set_cons_zero, List.set_cons_succ, i64_w, i32_w]
                rfl
              refine one_ (i := 4) (N := some 22) #[true, true, true, true, true, true, true, true, false, false] rfl rfl (one_of HT_.out (by kernel_rfl)) (by decide) (fun K hK => ?_)
              refine Kd.R_append_rows_step (Kd.int .i64) (w0 := w) w.heap.size (by rfl) (.tmp 18) (.tmp 21) 23 3 (.int .i64 0) 8 rfl Try.underlying23 info3 rfl (by decide) (by omega) v117 y116 (l0.drop ((ji4) : Int).toNat) _ _ _ (fun _ => True) (fun _ => False) rfl rfl ?aO ?aR (fun _ _ h => h) (fun _ h => h.elim) ?aF ?aB ?aS ?aL ?_
              (case aR => first | (rw [← show (l0.drop ((ji4) : Int).toNat).length = (l0.length - (ji4).toNat) from List.length_drop]; repeat (first | exact (Kd.C_below HR119.out HB.out) | (with_reducible refine Kd.C_alloc ?_ _) | (with_reducible refine Kd.C_drewN ?_ _) | (with_reducible refine Kd.C_drew ?_))) | (repeat (first | exact (Kd.C_below HR119.out HB.out) | (with_reducible refine Kd.C_alloc ?_ _) | (with_reducible refine Kd.C_drewN ?_ _) | (with_reducible refine Kd.C_drew ?_))))
              (case aB => exact (by repeat (first | (with_reducible first | exact HB.out | apply below_alloc | apply pw_below_drewN | apply below_drew1) | exact HB.out)))
              (case aF => exact (fun _ _ => trivial))
              (case aO => exact (by (with_reducible repeat (first | apply Kd.R_alloc | apply Kd.R_drewN | apply Kd.R_drew)); exact HO118.out))
              (case aS => exact (below_size (by repeat (first | (with_reducible first | exact HB.out | apply below_alloc | apply pw_below_drewN | apply below_drew1) | exact HB.out))))
              (case aL => have := LMc7.out; have hlx_ := (show (l0.drop ((ji4) : Int).toNat).length = (l0.length - (ji4).toNat) from List.length_drop); omega)
              intro v121 w17 ho hb hg hat
              rw [← Ny120.out] at ho
              have n0_ := Aside0.mk (hb)
              have n1_ := Aside0.mk (ho)
              clear HB
              clear HO118
              have HB := n0_
              have HO122 := n1_
              clear n0_ n1_
              clear ho hb hg hat
              refine hK.out _ _ trivial (fun hHeld => ?_)
              clear hK K
              refine norm_ (a' := ?_) ?_ ?_
              rotate_left
              · show Act.put _ (some 22) _ = _
                simp only [Act.put, List.setIfInBounds_toArray, List.set_cons_zero, List.set_cons_succ, i64_w, i32_w]
                rfl
              refine one_ (i := 8) (N := some 26) #[true, true, true, true, true, true, true, true, true, false] rfl rfl (one_of HT_.out (by kernel_rfl)) (by decide) (fun K hK => ?_)
              refine Kd.R_append_rows_step (Kd.int .i64) (w0 := w) w.heap.size (by rfl) (.tmp 22) (.tmp 25) 23 3 (.int .i64 0) 8 rfl Try.underlying23 info3 rfl (by decide) (by omega) v121 y120 (l0.take ((ji4) : Int).toNat) _ _ _ (fun _ => True) (fun _ => False) rfl rfl ?aO ?aR (fun _ _ h => h) (fun _ h => h.elim) ?aF ?aB ?aS ?aL ?_
              (case aR => first | (have e9_ : (l0.take ((ji4) : Int).toNat).length = (ji4).toNat := (by rw [List.length_take]; have h_ : ((ji4) : Int) ≤ (l0.length : Int) := of_decide_eq_true (by first | (with_reducible assumption) | assumption); omega); have h9_ := HR123.out; (try rw [e9_] at h9_); repeat (first | exact (Kd.C_below h9_ HB.out) | (with_reducible refine Kd.C_alloc ?_ _) | (with_reducible refine Kd.C_drewN ?_ _) | (with_reducible refine Kd.C_drew ?_))) | (repeat (first | exact (Kd.C_below HR123.out HB.out) | (with_reducible refine Kd.C_alloc ?_ _) | (with_reducible refine Kd.C_drewN ?_ _) | (with_reducible refine Kd.C_drew ?_))))
              (case aB => exact (by repeat (first | (with_reducible first | exact HB.out | apply below_alloc | apply pw_below_drewN | apply below_drew1) | exact HB.out)))
              (case aF => exact (fun _ _ => trivial))
              (case aO => exact (by (with_reducible repeat (first | apply Kd.R_alloc | apply Kd.R_drewN | apply Kd.R_drew)); exact HO122.out))
              (case aS => exact (below_size (by repeat (first | (with_reducible first | exact HB.out | apply below_alloc | apply pw_below_drewN | apply below_drew1) | exact HB.out))))
              (case aL => have := LMc10.out; have hlx_ := (show (l0.take ((ji4) : Int).toNat).length = (ji4).toNat from (by rw [List.length_take]; have h_ : ((ji4) : Int) ≤ (l0.length : Int) := of_decide_eq_true (by first | (with_reducible assumption) | assumption); omega)); omega)
              intro v125 w18 ho hb hg hat
              rw [← Ny124.out] at ho
              have n0_ := Aside0.mk (hb)
              have n1_ := Aside0.mk (ho)
              clear HB
              clear HO122
              have HB := n0_
              have HO126 := n1_
              clear n0_ n1_
              clear ho hb hg hat
              refine hK.out _ _ trivial (fun hHeld => ?_)
              clear hK K
              refine norm_ (a' := ?_) ?_ ?_
              rotate_left
              · show Act.put _ (some 26) _ = _
                simp only [Act.put, List.setIfInBounds_toArray, List.set_cons_zero, List.set_cons_succ, i64_w, i32_w]
                rfl
              refine pure_ (i := 9) (N := some 6) (v := ?_) (a' := ?_) #[true, true, true, true, true, true, true, true, true, true] rfl rfl (any_of HT_.out (by kernel_rfl)) (fun _ _ _ h => h) (Or.inl ⟨by rfl, ?_⟩) ?_ ?_
              rotate_left
              · intro w'
                go_simp
                with_reducible rfl
              rotate_left
              · simp only [Act.put, List.setIfInBounds_toArray, List.set_cons_zero, List.set_cons_succ, i64_w, i32_w]
                rfl
              refine done_ (done_of HT_.out (by kernel_rfl)) ?_
              obtain ⟨Ao19, co19, eo19⟩ := Kd.R_slice HO126.out
              subst eo19
              try go_wp2
              (try simp only [hji4])
              go_loopg [7, 8] k (fun kq v7 v8 w' => ∃ (x6_1 : List Int) (x7_1 : Int) (x8_1 : Int), v7 = .int .i64 x7_1 ∧ v8 = .int .i64 x8_1 ∧ Aside0 (laws_turned_int.l0 kq x6_1 x7_1 x8_1 = some r) ∧ Aside0 (kq ≤ k) ∧ Aside0 (Kd.R (Kd.int .i64) 3 w' w.heap.size (fun _ => True) (.slice Ao19 y124.length co19) x6_1) ∧ Aside0 (Below w.heap.size w w'))
              case atStart => exact ⟨(y124), (0), (wrap64 ((y124.length : Int) - 1)), (by first | rfl | (simp; done) | (simp [*]; done)), (by first | rfl | (simp; done) | (simp [*]; done)), H', ⟨Nat.le_refl _⟩, ⟨by (with_reducible repeat (first | apply Kd.R_alloc | apply Kd.R_drewN | apply Kd.R_drew)); exact HO126.out⟩, ⟨by repeat (first | (with_reducible first | exact HB.out | apply below_alloc | apply pw_below_drewN | apply below_drew1) | exact HB.out)⟩⟩
              case round =>
                clear H'
                try clear c1
                try clear p2
                try clear c3
                try clear c3b0
                try clear c3b1
                try clear c3b2
                try clear c5
                try clear c5b0
                try clear c5b1
                try clear c6
                try clear c6b0
                try clear c6b1
                try clear p6
                try clear c7
                try clear c8
                try clear c8b0
                try clear c9
                try clear c9b0
                try clear c10
                try clear c11
                try clear c11b0
                try clear c11b1
                try clear c19
                obtain ⟨x6_1, x7_1, x8_1, rfl, rfl, HA, HK1, HO_6, HB⟩ := hrel
                have hl6_1 := (Kd.R_reads' HO_6.out).1
                rw [hl6_1] at HO_6
                (try simp only [hl6_1])
                cases gk with
                | zero => exact absurd HA.out (by simp [laws_turned_int.l0])
                | succ k1 =>
                  have H := HA.out
                  clear HA
                  simp only [laws_turned_int.l0] at H
                  by_cases c20 : x7_1 < x8_1
                  · rw [if_pos c20] at H
                    have c20b0 : decide (x7_1 < x8_1) = true := decide_eq_true c20
                    clear c20
                    by_cases c21 : 0 ≤ x8_1
                    · rw [if_pos c21] at H
                      have c21b0 : decide (0 ≤ x8_1) = true := decide_eq_true c21
                      clear c21
                      by_cases c22 : x8_1 < (x6_1.length : Int)
                      · rw [if_pos c22] at H
                        have c22b0 : decide (x8_1 < (x6_1.length : Int)) = true := decide_eq_true c22
                        clear c22
                        by_cases c23 : 0 ≤ x7_1
                        · rw [if_pos c23] at H
                          have c23b0 : decide (0 ≤ x7_1) = true := decide_eq_true c23
                          clear c23
                          by_cases c24 : x7_1 < (x6_1.length : Int)
                          · rw [if_pos c24] at H
                            have c24b0 : decide (x7_1 < (x6_1.length : Int)) = true := decide_eq_true c24
                            clear c24
                            obtain ⟨y129, hy129⟩ : ∃ y_ : List Int, y_ = (x6_1.set (x7_1 : Int).toNat (rd x6_1 x8_1)) := ⟨_, rfl⟩
                            replace H : (laws_turned_int.l0 k1 (y129.set (x8_1 : Int).toNat (rd x6_1 x7_1)) (wrap64 (x7_1 + 1)) (wrap64 (x8_1 - 1))) = some r := by first | (rw [hy129]; with_reducible exact H) | (have H2_ := (Option.bind_some _ _).symm.trans H; rw [hy129]; with_reducible exact H2_) | (have H2_ := (Option.bind_some _ _).symm.trans H; with_reducible exact H2_) | with_reducible exact H | (rw [hy129]; exact H) | exact H
                            have Ny129 := Aside0.mk hy129
                            clear hy129
                            obtain ⟨y130, hy130⟩ : ∃ y_ : List Int, y_ = (y129.set (x8_1 : Int).toNat (rd x6_1 x7_1)) := ⟨_, rfl⟩
                            replace H : (laws_turned_int.l0 k1 y130 (wrap64 (x7_1 + 1)) (wrap64 (x8_1 - 1))) = some r := by first | (rw [hy130]; with_reducible exact H) | (have H2_ := (Option.bind_some _ _).symm.trans H; rw [hy130]; with_reducible exact H2_) | (have H2_ := (Option.bind_some _ _).symm.trans H; with_reducible exact H2_) | with_reducible exact H | (rw [hy130]; exact H) | exact H
                            have Ny130 := Aside0.mk hy130
                            clear hy130
                            have H' := Aside0.mk H
                            clear H
                            try go_wp2
                            have n0_ := Aside0.mk (Kd.R_drew HO_6.out)
                            have n1_ := Aside0.mk (below_drew1 HB.out)
                            clear HO_6
                            clear HB
                            have HO_6 := n0_
                            have HB := n1_
                            clear n0_ n1_
                            have p127 : 0 ≤ (x8_1 : Int) := of_decide_eq_true (by first | (with_reducible assumption) | assumption)
                            have q127 : x8_1 < (x6_1.length : Int) := of_decide_eq_true (by first | (with_reducible assumption) | assumption)
                            obtain ⟨ad127, e127, hx127_0⟩ := Kd.at_int (Kd.R_reads' HO_6.out).2.2 x8_1 p127 q127
                            cases e127
                            replace p127 := eq_true p127
                            replace q127 := eq_true q127
                            have p128 : 0 ≤ (x7_1 : Int) := of_decide_eq_true (by first | (with_reducible assumption) | assumption)
                            have q128 : x7_1 < (x6_1.length : Int) := of_decide_eq_true (by first | (with_reducible assumption) | assumption)
                            obtain ⟨ad128, e128, hx128_0⟩ := Kd.at_int (Kd.R_reads' HO_6.out).2.2 x7_1 p128 q128
                            obtain rfl : ad127 = ad128 := (by injection e128)
                            replace p128 := eq_true p128
                            replace q128 := eq_true q128
                            have p25 : 0 ≤ (x7_1 : Int) := of_decide_eq_true (by first | (with_reducible assumption) | assumption)
                            have q25 : (x7_1 : Int) < ((x6_1.length : Int) : Int) := of_decide_eq_true (by first | (with_reducible assumption) | assumption)
                            obtain ⟨go25, co25, eo25, gb25, gl25, cl25, HG25⟩ := Kd.R_form HO_6.out (by omega)
                            (first | cases eo25 | (injection eo25 with ea_ en_ ec_; (first | subst ea_ | (injection ea_ with ea_; subst ea_)); subst ec_; clear en_))
                            have GB25 := Aside0.mk gb25
                            have GG25 := Aside0.mk HG25
                            clear gb25 gl25 HG25
                            (first | simp only [add_plain] at hx127_0 | skip)
                            (first | simp only [add_plain] at hx128_0 | skip)
                            obtain ⟨hx25_0, hf25_0⟩ := Kd.R_celln 0 HO_6.out (x7_1 : Int) p25 q25
                            replace p25 := eq_true p25
                            replace q25 := eq_true q25
                            have HP28 := Kd.R_putn HO_6.out (x7_1 : Int) (rd x6_1 x8_1)
                            rw [← Ny129.out] at HP28
                            have HQ28 := Aside0.mk HP28
                            clear HP28
                            have p26 : 0 ≤ (x8_1 : Int) := of_decide_eq_true (by first | (with_reducible assumption) | assumption)
                            have q26 : (x8_1 : Int) < ((x6_1.length : Int) : Int) := of_decide_eq_true (by first | (with_reducible assumption) | assumption)
                            obtain ⟨hx26_0, hf26_0⟩ := Kd.R_celln 0 HQ28.out (x8_1 : Int) p26 q26
                            replace p26 := eq_true p26
                            replace q26 := eq_true q26
                            have HP29 := Kd.R_putn HQ28.out (x8_1 : Int) (rd x6_1 x7_1)
                            rw [← Ny130.out] at HP29
                            have HQ29 := Aside0.mk HP29
                            clear HP29
                            refine start_ (n := 16) (S := fun w' => w'.cell? ⟨go25, (x8_1).toNat, none⟩ = some (.int .i64 (rd x6_1 x8_1)) ∧ w'.cell? ⟨go25, (x7_1).toNat, none⟩ = some (.int .i64 (rd x6_1 x7_1))) (ds := [13, 15]) #[false, false, false, false, false, false, false, false, false, false, false, false, false, false, false, false] (by kernel_rfl) rfl rfl ⟨hx127_0, hx128_0⟩ (fun hHeld => ?_); refine with_tabW laws_turned_int.tab9 laws_turned_int.bits9 (fun HT_ HW_ => ?_)
                            generalize wr.drew = w27 at HO_6 HB GG25 HQ28 HQ29 hf25_0 hf26_0 hx127_0 hx128_0 hx25_0 hx26_0 hHeld ⊢
                            refine pure_ (i := 0) (N := some 40) (v := ?_) (a' := ?_) #[true, false, false, false, false, false, false, false, false, false, false, false, false, false, false, false] rfl rfl (any_of HT_.out (by kernel_rfl)) (fun _ _ _ h => h) (Or.inl ⟨by rfl, ?_⟩) ?_ ?_
                            rotate_left
                            · intro w'
                              go_simp
                              with_reducible rfl
                            rotate_left
                            · simp only [Act.put, List.setIfInBounds_toArray, List.set_cons_zero, List.set_cons_succ, i64_w, i32_w]
                              rfl
                            refine pure_ (i := 1) (N := some 41) (v := ?_) (a' := ?_) #[true, true, false, false, false, false, false, false, false, false, false, false, false, false, false, false] rfl rfl (any_of HT_.out (by kernel_rfl)) (fun _ _ _ h => h) (Or.inl ⟨by rfl, ?_⟩) ?_ ?_
                            rotate_left
                            · intro w'
                              go_simp
                              with_reducible rfl
                            rotate_left
                            · simp only [Act.put, List.setIfInBounds_toArray, List.set_cons_zero, List.set_cons_succ, i64_w, i32_w]
                              rfl
                            refine pure_ (i := 2) (N := some 42) (v := ?_) (a' := ?_) #[true, true, true, false, false, false, false, false, false, false, false, false, false, false, false, false] rfl rfl (any_of HT_.out (by kernel_rfl)) (fun _ _ _ h => h) (Or.inl ⟨by rfl, ?_⟩) ?_ ?_
                            rotate_left
                            · intro w'
                              go_simp
                              with_reducible rfl
                            rotate_left
                            · simp only [Act.put, List.setIfInBounds_toArray, List.set_cons_zero, List.set_cons_succ, i64_w, i32_w]
                              rfl
                            refine pure_ (i := 3) (N := some 43) (v := ?_) (a' := ?_) #[true, true, true, true, false, false, false, false, false, false, false, false, false, false, false, false] rfl rfl (any_of HT_.out (by kernel_rfl)) (fun _ _ _ h => h) (Or.inl ⟨by rfl, ?_⟩) ?_ ?_
                            rotate_left
                            · intro w'
                              go_simp
                              with_reducible rfl
                            rotate_left
                            · simp only [Act.put, List.setIfInBounds_toArray, List.set_cons_zero, List.set_cons_succ, i64_w, i32_w]
                              rfl
                            refine pure_ (i := 4) (N := some 44) (v := ?_) (a' := ?_) #[true, true, true, true, true, false, false, false, false, false, false, false, false, false, false, false] rfl rfl (any_of HT_.out (by kernel_rfl)) (fun _ _ _ h => h) (Or.inl ⟨by rfl, ?_⟩) ?_ ?_
                            rotate_left
                            · intro w'
                              go_simp
                              with_reducible rfl
                            rotate_left
                            · simp only [Act.put, List.setIfInBounds_toArray, List.set_cons_zero, List.set_cons_succ, i64_w, i32_w]
                              rfl
                            refine pure_ (i := 5) (N := some 45) (v := ?_) (a' := ?_) #[true, true, true, true, true, true, false, false, false, false, false, false, false, false, false, false] rfl rfl (any_of HT_.out (by kernel_rfl)) (fun _ _ _ h => h) (Or.inl ⟨by rfl, ?_⟩) ?_ ?_
                            rotate_left
                            · intro w'
                              go_simp
                              with_reducible rfl
                            rotate_left
                            · simp only [Act.put, List.setIfInBounds_toArray, List.set_cons_zero, List.set_cons_succ, i64_w, i32_w]
                              rfl
                            refine pure_ (i := 6) (N := some 46) (v := ?_) (a' := ?_) #[true, true, true, true, true, true, true, false, false, false, false, false, false, false, false, false] rfl rfl (any_of HT_.out (by kernel_rfl)) (fun _ _ _ h => h) (Or.inl ⟨by rfl, ?_⟩) ?_ ?_
                            rotate_left
                            · intro w'
                              go_simp
                              with_reducible rfl
                            rotate_left
                            · simp only [Act.put, List.setIfInBounds_toArray, List.set_cons_zero, List.set_cons_succ, i64_w, i32_w]
                              rfl
                            refine pure_ (i := 8) (N := some 48) (v := ?_) (a' := ?_) #[true, true, true, true, true, true, true, false, true, false, false, false, false, false, false, false] rfl rfl (any_of HT_.out (by kernel_rfl)) (fun _ _ _ h => h) (Or.inl ⟨by rfl, ?_⟩) ?_ ?_
                            rotate_left
                            · intro w'
                              go_simp
                              with_reducible rfl
                            rotate_left
                            · simp only [Act.put, List.setIfInBounds_toArray, List.set_cons_zero, List.set_cons_succ, i64_w, i32_w]
                              rfl
                            refine pure_ (i := 9) (N := some 49) (v := ?_) (a' := ?_) #[true, true, true, true, true, true, true, false, true, true, false, false, false, false, false, false] rfl rfl (any_of HT_.out (by kernel_rfl)) (fun _ _ _ h => h) (Or.inl ⟨by rfl, ?_⟩) ?_ ?_
                            rotate_left
                            · intro w'
                              go_simp
                              with_reducible rfl
                            rotate_left
                            · simp only [Act.put, List.setIfInBounds_toArray, List.set_cons_zero, List.set_cons_succ, i64_w, i32_w]
                              rfl
                            refine pure_ (i := 10) (N := some 50) (v := ?_) (a' := ?_) #[true, true, true, true, true, true, true, false, true, true, true, false, false, false, false, false] rfl rfl (any_of HT_.out (by kernel_rfl)) (fun _ _ _ h => h) (Or.inl ⟨by rfl, ?_⟩) ?_ ?_
                            rotate_left
                            · intro w'
                              go_simp
                              with_reducible rfl
                            rotate_left
                            · simp only [Act.put, List.setIfInBounds_toArray, List.set_cons_zero, List.set_cons_succ, i64_w, i32_w]
                              rfl
                            refine take_ (i := 7) (N := some 47) (v := ?_) (a' := ?_) #[true, true, true, true, true, true, true, true, true, true, true, false, false, false, false, false] rfl rfl (take_ofW HT_.out HW_.out (by kernel_rfl)) (fun _ _ _ h => h) (Or.inl ⟨by rfl, ?_⟩) hHeld ?_ ?_
                            rotate_left
                            · rintro w' ⟨s0, s1⟩
                              go_simp
                              with_reducible rfl
                            rotate_left
                            · simp only [Act.put, List.setIfInBounds_toArray, List.set_cons_zero, List.set_cons_succ, i64_w, i32_w]
                              rfl
                            refine take_ (i := 11) (N := some 51) (v := ?_) (a' := ?_) #[true, true, true, true, true, true, true, true, true, true, true, true, false, false, false, false] rfl rfl (take_ofW HT_.out HW_.out (by kernel_rfl)) (fun _ _ _ h => h) (Or.inl ⟨by rfl, ?_⟩) hHeld ?_ ?_
                            rotate_left
                            · rintro w' ⟨s0, s1⟩
                              go_simp
                              with_reducible rfl
                            rotate_left
                            · simp only [Act.put, List.setIfInBounds_toArray, List.set_cons_zero, List.set_cons_succ, i64_w, i32_w]
                              rfl
                            refine pure_ (i := 12) (N := some 52) (v := ?_) (a' := ?_) #[true, true, true, true, true, true, true, true, true, true, true, true, true, false, false, false] rfl rfl (any_of HT_.out (by kernel_rfl)) (fun _ _ _ h => h) (Or.inl ⟨by rfl, ?_⟩) ?_ ?_
                            rotate_left
                            · intro w'
                              go_simp
                              with_reducible rfl
                            rotate_left
                            · simp only [Act.put, List.setIfInBounds_toArray, List.set_cons_zero, List.set_cons_succ, i64_w, i32_w]
                              rfl
                            refine last_ (i := 13) (N := none) #[true, true, true, true, true, true, true, true, true, true, true, true, true, true, false, false] rfl rfl (one_of HT_.out (by kernel_rfl)) (by decide) (fun K hK => ?_)
                            refine skip_ (w1 := ?_) (by rfl) rfl ?_ ?_
                            rotate_left
                            · go_simp
                              rfl
                            refine hK.out _ _ ?_
                            clear hK K
                            refine pure_ (i := 14) (N := some 53) (v := ?_) (a' := ?_) #[true, true, true, true, true, true, true, true, true, true, true, true, true, true, true, false] rfl rfl (any_of HT_.out (by kernel_rfl)) (fun _ _ _ h => h) (Or.inl ⟨by rfl, ?_⟩) ?_ ?_
                            rotate_left
                            · intro w'
                              go_simp
                              with_reducible rfl
                            rotate_left
                            · simp only [Act.put, List.setIfInBounds_toArray, List.set_cons_zero, List.set_cons_succ, i64_w, i32_w]
                              rfl
                            refine last_ (i := 15) (N := none) #[true, true, true, true, true, true, true, true, true, true, true, true, true, true, true, true] rfl rfl (one_of HT_.out (by kernel_rfl)) (by decide) (fun K hK => ?_)
                            refine skip_ (w1 := ?_) (by rfl) rfl ?_ ?_
                            rotate_left
                            · go_simp
                              rfl
                            refine hK.out _ _ ?_
                            clear hK K
                            refine done_ (done_of HT_.out (by kernel_rfl)) ?_
                            try go_wp2
                            (try simp only [← hl6_1])
                            go_roundg k1
                            case measure => have := HK1.out; omega
                            case rel => exact ⟨(y130), (wrap64 (x7_1 + 1)), (wrap64 (x8_1 - 1)), (by first | rfl | (simp; done) | (simp [*]; done)), (by first | rfl | (simp; done) | (simp [*]; done)), H', ⟨by have := HK1.out; omega⟩, ⟨by (try simp only [hl6_1]); (with_reducible repeat (first | apply Kd.R_alloc | apply Kd.R_drewN | apply Kd.R_drew)); exact HQ29.out⟩, ⟨by repeat (first | (with_reducible first | exact HB.out | apply below_alloc | apply pw_below_drewN | apply below_drew1 | refine below_set ?_ GB25.out | refine below_set ?_ GB25.out) | exact HB.out)⟩⟩
                          · rw [if_neg c24] at H
                            exact absurd H (by simp)
                        · rw [if_neg c23] at H
                          exact absurd H (by simp)
                      · rw [if_neg c22] at H
                        exact absurd H (by simp)
                    · rw [if_neg c21] at H
                      exact absurd H (by simp)
                  · rw [if_neg c20] at H
                    have c20b0 : decide (x7_1 < x8_1) = false := decide_eq_false c20
                    clear c20
                    obtain rfl := Option.some.inj H
                    go_wp2
                    go_ret
                    exact ⟨_, by first | rfl | (simp [errW_none, errW_some] <;> rfl) | (simp only [← hji4]; first | rfl | (simp [errW_none, errW_some] <;> rfl)) | (simp [*, errW_none, errW_some] <;> rfl), by (with_reducible repeat (first | apply Kd.R_alloc | apply Kd.R_drewN | apply Kd.R_drew)); exact HO_6.out, by repeat (first | (with_reducible first | exact HB.out | apply below_alloc | apply pw_below_drewN | apply below_drew1) | exact HB.out)⟩
            · rw [if_neg c11] at H
              have c11b0 : ((Int.tmod a1 2) == 1) = false := beq_eq_false_iff_ne.mpr c11
              have c11b1 : ((Int.tmod a1 2) != 1) = true := bne_iff_ne.mpr c11
              obtain rfl := Option.some.inj H
              go_enter Try.func19, Try.ntmps19
              try go_wp2
              have n0_ := Aside0.mk (below_drew1 HB.out)
              clear HB
              have HB := n0_
              clear n0_
              obtain ⟨i031, hi031, _, hsz31, _⟩ := info_parts info3
              obtain ⟨A31, hcut31, hA31, hC31⟩ := print_drop_of (P := Try.prog) (Value.int .i64) 0 23 3 .i64 Try.underlying23 hi031 hsz31 A0 c0 l0 (ji4) (of_decide_eq_true (by first | (with_reducible assumption) | assumption)) (of_decide_eq_true (by first | (with_reducible assumption) | assumption)) HC0.out
              have HR119 := Aside0.mk (Kd.C_of_reads (h1 := fun _ => rfl) (hA31 _ (Kd.reads_of_C HR0.out)))
              have HC119 := Aside0.mk hC31
              clear hA31 hC31 hi031 hsz31
              obtain ⟨i032, hi032, _, hsz32, _⟩ := info_parts info3
              obtain ⟨hcut32, hA32, hC32⟩ := print_take_of (P := Try.prog) (Value.int .i64) 0 23 3 .i64 Try.underlying23 hi032 hsz32 A0 c0 l0 (ji4) (of_decide_eq_true (by first | (with_reducible assumption) | assumption)) (of_decide_eq_true (by first | (with_reducible assumption) | assumption)) HC0.out
              have HR123 := Aside0.mk (Kd.C_of_reads (h1 := fun _ => rfl) (hA32 _ (Kd.reads_of_C HR0.out)))
              have HC123 := Aside0.mk hC32
              clear hA32 hC32 hi032 hsz32
              refine start_ (n := 10) (S := fun w' => True) (ds := []) #[false, false, false, false, false, false, false, false, false, false] (by kernel_rfl) rfl rfl trivial (fun hHeld => ?_); refine with_tabW laws_turned_int.tab4 laws_turned_int.bits4 (fun HT_ HW_ => ?_)
              generalize w.drew = w30 at HB HR119 HR123 hHeld ⊢
              refine pure_ (i := 1) (N := some 19) (v := ?_) (a' := ?_) #[false, true, false, false, false, false, false, false, false, false] rfl rfl (any_of HT_.out (by kernel_rfl)) (fun _ _ _ h => h) (Or.inl ⟨by rfl, ?_⟩) ?_ ?_
              rotate_left
              · intro w'
                go_simp
                with_reducible rfl
              rotate_left
              · simp only [Act.put, List.setIfInBounds_toArray, List.set_cons_zero, List.set_cons_succ, i64_w, i32_w]
                rfl
              refine pure_ (i := 2) (N := some 20) (v := ?_) (a' := ?_) #[false, true, true, false, false, false, false, false, false, false] rfl rfl (any_of HT_.out (by kernel_rfl)) (fun _ _ _ h => h) (Or.inl ⟨by rfl, ?_⟩) ?_ ?_
              rotate_left
              · intro w'
                go_simp
                with_reducible rfl
              rotate_left
              · simp only [Act.put, List.setIfInBounds_toArray, List.set_cons_zero, List.set_cons_succ, i64_w, i32_w]
                rfl
              refine pure_ (i := 3) (N := some 21) (v := ?_) (a' := ?_) #[false, true, true, true, false, false, false, false, false, false] rfl rfl (any_of HT_.out (by kernel_rfl)) (fun _ _ _ h => h) (Or.inl ⟨by rfl, ?_⟩) ?_ ?_
              rotate_left
              · intro w'
                go_simp
                with_reducible rfl
              rotate_left
              · simp only [Act.put, List.setIfInBounds_toArray, List.set_cons_zero, List.set_cons_succ, i64_w, i32_w]
                rfl
              refine pure_ (i := 5) (N := some 23) (v := ?_) (a' := ?_) #[false, true, true, true, false, true, false, false, false, false] rfl rfl (any_of HT_.out (by kernel_rfl)) (fun _ _ _ h => h) (Or.inl ⟨by rfl, ?_⟩) ?_ ?_
              rotate_left
              · intro w'
                go_simp
                with_reducible rfl
              rotate_left
              · simp only [Act.put, List.setIfInBounds_toArray, List.set_cons_zero, List.set_cons_succ, i64_w, i32_w]
                rfl
              refine pure_ (i := 6) (N := some 24) (v := ?_) (a' := ?_) #[false, true, true, true, false, true, true, false, false, false] rfl rfl (any_of HT_.out (by kernel_rfl)) (fun _ _ _ h => h) (Or.inl ⟨by rfl, ?_⟩) ?_ ?_
              rotate_left
              · intro w'
                go_simp
                with_reducible rfl
              rotate_left
              · simp only [Act.put, List.setIfInBounds_toArray, List.set_cons_zero, List.set_cons_succ, i64_w, i32_w]
                rfl
              refine pure_ (i := 7) (N := some 25) (v := ?_) (a' := ?_) #[false, true, true, true, false, true, true, true, false, false] rfl rfl (any_of HT_.out (by kernel_rfl)) (fun _ _ _ h => h) (Or.inl ⟨by rfl, ?_⟩) ?_ ?_
              rotate_left
              · intro w'
                go_simp
                with_reducible rfl
              rotate_left
              · simp only [Act.put, List.setIfInBounds_toArray, List.set_cons_zero, List.set_cons_succ, i64_w, i32_w]
                rfl
              refine one_ (i := 0) (N := some 18) #[true, true, true, true, false, true, true, true, false, false] rfl rfl (one_of HT_.out (by kernel_rfl)) (by decide) (fun K hK => ?_)
              refine Kd.R_lit_step (Kd.int .i64) _ 3 ?hg (N := 18) ?hd (xs := ([] : List Int)) (inner := []) (ok := fun _ => True) (okp := fun _ => True) ?hr ?hp (fun _ hk => hk) trivial (Below.refl _ _) (Nat.le_refl _) (by simp) ?_; (case hd => rfl); (case hg => rfl); (case hr => first | (go_simp; done) | (go_simp; rfl)); (case hp => exact (Reps.none _ _))
              intro v117 w33 ho34 hb hg_ hnew_
              clear hg_ hnew_
              (first | rw [← Ny116.out] at ho34 | (simp only [Int.reduceToNat] at ho34; rw [← Ny116.out] at ho34))
              have n0_ := Aside0.mk (Kd.R_lower ho34 (below_size (by repeat (first | (with_reducible first | exact HB.out | apply below_alloc | apply pw_below_drewN | apply below_drew1) | exact HB.out))))
              have n1_ := Aside0.mk (below_step (by repeat (first | (with_reducible first | exact HB.out | apply below_alloc | apply pw_below_drewN | apply below_drew1) | exact HB.out)) hb)
              clear HB
              have HO118 := n0_
              have HB := n1_
              clear n0_ n1_
              clear hb ho34
              refine hK.out _ _ trivial (fun hHeld => ?_)
              clear hK K
              refine norm_ (a' := ?_) ?_ ?_
              rotate_left
              · show Act.put _ (some 18) _ = _
                simp only [Act.put, List.setIfInBounds_toArray, List.set_cons_zero, List.set_cons_succ, i64_w, i32_w]
                rfl
              refine one_ (i := 4) (N := some 22) #[true, true, true, true, true, true, true, true, false, false] rfl rfl (one_of HT_.out (by kernel_rfl)) (by decide) (fun K hK => ?_)
              refine Kd.R_append_rows_step (Kd.int .i64) (w0 := w) w.heap.size (by rfl) (.tmp 18) (.tmp 21) 23 3 (.int .i64 0) 8 rfl Try.underlying23 info3 rfl (by decide) (by omega) v117 y116 (l0.drop ((ji4) : Int).toNat) _ _ _ (fun _ => True) (fun _ => False) rfl rfl ?aO ?aR (fun _ _ h => h) (fun _ h => h.elim) ?aF ?aB ?aS ?aL ?_
              (case aR => first | (rw [← show (l0.drop ((ji4) : Int).toNat).length = (l0.length - (ji4).toNat) from List.length_drop]; repeat (first | exact (Kd.C_below HR119.out HB.out) | (with_reducible refine Kd.C_alloc ?_ _) | (with_reducible refine Kd.C_drewN ?_ _) | (with_reducible refine Kd.C_drew ?_))) | (repeat (first | exact (Kd.C_below HR119.out HB.out) | (with_reducible refine Kd.C_alloc ?_ _) | (with_reducible refine Kd.C_drewN ?_ _) | (with_reducible refine Kd.C_drew ?_))))
              (case aB => exact (by repeat (first | (with_reducible first | exact HB.out | apply below_alloc | apply pw_below_drewN | apply below_drew1) | exact HB.out)))
              (case aF => exact (fun _ _ => trivial))
              (case aO => exact (by (with_reducible repeat (first | apply Kd.R_alloc | apply Kd.R_drewN | apply Kd.R_drew)); exact HO118.out))
              (case aS => exact (below_size (by repeat (first | (with_reducible first | exact HB.out | apply below_alloc | apply pw_below_drewN | apply below_drew1) | exact HB.out))))
              (case aL => have := LMc7.out; have hlx_ := (show (l0.drop ((ji4) : Int).toNat).length = (l0.length - (ji4).toNat) from List.length_drop); omega)
              intro v121 w35 ho hb hg hat
              rw [← Ny120.out] at ho
              have n0_ := Aside0.mk (hb)
              have n1_ := Aside0.mk (ho)
              clear HB
              clear HO118
              have HB := n0_
              have HO122 := n1_
              clear n0_ n1_
              clear ho hb hg hat
              refine hK.out _ _ trivial (fun hHeld => ?_)
              clear hK K
              refine norm_ (a' := ?_) ?_ ?_
              rotate_left
              · show Act.put _ (some 22) _ = _
                simp only [Act.put, List.setIfInBounds_toArray, List.set_cons_zero, List.set_cons_succ, i64_w, i32_w]
                rfl
              refine one_ (i := 8) (N := some 26) #[true, true, true, true, true, true, true, true, true, false] rfl rfl (one_of HT_.out (by kernel_rfl)) (by decide) (fun K hK => ?_)
              refine Kd.R_append_rows_step (Kd.int .i64) (w0 := w) w.heap.size (by rfl) (.tmp 22) (.tmp 25) 23 3 (.int .i64 0) 8 rfl Try.underlying23 info3 rfl (by decide) (by omega) v121 y120 (l0.take ((ji4) : Int).toNat) _ _ _ (fun _ => True) (fun _ => False) rfl rfl ?aO ?aR (fun _ _ h => h) (fun _ h => h.elim) ?aF ?aB ?aS ?aL ?_
              (case aR => first | (have e9_ : (l0.take ((ji4) : Int).toNat).length = (ji4).toNat := (by rw [List.length_take]; have h_ : ((ji4) : Int) ≤ (l0.length : Int) := of_decide_eq_true (by first | (with_reducible assumption) | assumption); omega); have h9_ := HR123.out; (try rw [e9_] at h9_); repeat (first | exact (Kd.C_below h9_ HB.out) | (with_reducible refine Kd.C_alloc ?_ _) | (with_reducible refine Kd.C_drewN ?_ _) | (with_reducible refine Kd.C_drew ?_))) | (repeat (first | exact (Kd.C_below HR123.out HB.out) | (with_reducible refine Kd.C_alloc ?_ _) | (with_reducible refine Kd.C_drewN ?_ _) | (with_reducible refine Kd.C_drew ?_))))
              (case aB => exact (by repeat (first | (with_reducible first | exact HB.out | apply below_alloc | apply pw_below_drewN | apply below_drew1) | exact HB.out)))
              (case aF => exact (fun _ _ => trivial))
              (case aO => exact (by (with_reducible repeat (first | apply Kd.R_alloc | apply Kd.R_drewN | apply Kd.R_drew)); exact HO122.out))
              (case aS => exact (below_size (by repeat (first | (with_reducible first | exact HB.out | apply below_alloc | apply pw_below_drewN | apply below_drew1) | exact HB.out))))
              (case aL => have := LMc10.out; have hlx_ := (show (l0.take ((ji4) : Int).toNat).length = (ji4).toNat from (by rw [List.length_take]; have h_ : ((ji4) : Int) ≤ (l0.length : Int) := of_decide_eq_true (by first | (with_reducible assumption) | assumption); omega)); omega)
              intro v125 w36 ho hb hg hat
              rw [← Ny124.out] at ho
              have n0_ := Aside0.mk (hb)
              have n1_ := Aside0.mk (ho)
              clear HB
              clear HO122
              have HB := n0_
              have HO126 := n1_
              clear n0_ n1_
              clear ho hb hg hat
              refine hK.out _ _ trivial (fun hHeld => ?_)
              clear hK K
              refine norm_ (a' := ?_) ?_ ?_
              rotate_left
              · show Act.put _ (some 26) _ = _
                simp only [Act.put, List.setIfInBounds_toArray, List.set_cons_zero, List.set_cons_succ, i64_w, i32_w]
                rfl
              refine pure_ (i := 9) (N := some 6) (v := ?_) (a' := ?_) #[true, true, true, true, true, true, true, true, true, true] rfl rfl (any_of HT_.out (by kernel_rfl)) (fun _ _ _ h => h) (Or.inl ⟨by rfl, ?_⟩) ?_ ?_
              rotate_left
              · intro w'
                go_simp
                with_reducible rfl
              rotate_left
              · simp only [Act.put, List.setIfInBounds_toArray, List.set_cons_zero, List.set_cons_succ, i64_w, i32_w]
                rfl
              refine done_ (done_of HT_.out (by kernel_rfl)) ?_
              try go_wp2
              go_ret
              exact ⟨_, by first | rfl | (simp [errW_none, errW_some] <;> rfl) | (simp only [← hji4]; first | rfl | (simp [errW_none, errW_some] <;> rfl)) | (simp [*, errW_none, errW_some] <;> rfl), by (with_reducible repeat (first | apply Kd.R_alloc | apply Kd.R_drewN | apply Kd.R_drew)); exact HO126.out, by repeat (first | (with_reducible first | exact HB.out | apply below_alloc | apply pw_below_drewN | apply below_drew1) | exact HB.out)⟩
          · rw [if_neg c10] at H
            exact absurd H (by simp)
        · rw [if_neg c7] at H
          exact absurd H (by simp)
      · rw [if_neg c6] at H
        exact absurd H (by simp)
    · rw [if_neg c5] at H
      exact absurd H (by simp)

end Go.Proofs.Ytaejkbjepbifcaa.PT
namespace Go.Proofs.Ytaejkbjepbifcaa.Da
open Go.RowKit Go.Proofs.YtaejkbjepbifcaaW.PrintWords Go.Proofs.Ytaejkbjepbifcaa.Plain
set_option linter.unusedVariables false
set_option linter.unusedSimpArgs false
/-- The list from a place on, then what stands ahead of it; backwards if m is odd. -/
def turnL {α : Type} (l : List α) (m : Nat) : List α :=
  let r := l.drop (m / 2 % l.length) ++ l.take (m / 2 % l.length)
  if m % 2 = 1 then r.reverse else r
theorem turnL_perm {α : Type} (l : List α) (m : Nat) : (turnL l m).Perm l := by
  unfold turnL
  have h : (l.drop (m / 2 % l.length) ++ l.take (m / 2 % l.length)).Perm l :=
    List.perm_append_comm.trans (by rw [List.take_append_drop])
  show (if m % 2 = 1 then _ else _ : List α).Perm l
  split
  · exact (List.reverse_perm _).trans h
  · exact h
theorem turnL_zip {α β : Type} (a : List α) (b : List β) (m : Nat) (h : a.length = b.length) : (turnL a m).zip (turnL b m) = turnL (a.zip b) m := by
  unfold turnL
  have hz : (a.zip b).length = b.length := by rw [List.length_zip, h, Nat.min_self]
  have e : (a.drop (m / 2 % b.length) ++ a.take (m / 2 % b.length)).zip (b.drop (m / 2 % b.length) ++ b.take (m / 2 % b.length)) = (a.zip b).drop (m / 2 % b.length) ++ (a.zip b).take (m / 2 % b.length) := by
    rw [List.zip_append (by simp [h])]
    simp only [List.zip, List.drop_zipWith, List.take_zipWith]
  simp only [h, hz]
  split
  · rw [← e]
    simp only [List.zip]
    rw [List.reverse_zipWith (by simp [h])]
  · exact e
section
variable {α : Type}
theorem swap_loop (L : Nat → List α → Int → Int → Option (List α)) (R : List α → Int → α) (z : α) (hR : ∀ (x : List α) (n : Nat), R x (n : Int) = x.getD n z)
    (hL : ∀ k x (i j : Int), L (k + 1) x i j = if i < j then (if 0 ≤ j then (if j < (x.length : Int) then (if 0 ≤ i then (if i < (x.length : Int) then L k ((x.set i.toNat (R x j)).set j.toNat (R x i)) (wrap64 (i + 1)) (wrap64 (j - 1)) else none) else none) else none) else none) else some x) :
    ∀ (d i j : Nat) (x : List α), j + 1 - i ≤ d → i ≤ j + 1 → j < x.length → x.length ≤ 1000000000 → ∃ y, y.length = x.length ∧ (∀ p, y[p]? = if i ≤ p ∧ p ≤ j then x[i + j - p]? else x[p]?) ∧ Ev (fun k => L k x (i : Int) (j : Int)) y := by
  intro d
  induction d with
  | zero =>
    intro i j x hd hi hj hx
    refine ⟨x, rfl, fun p => by rw [if_neg (by omega)], Ev.step (f := fun _ => some x) (fun k => ?_) (Ev.now _)⟩
    rw [hL, if_neg (by omega)]
  | succ d ih =>
    intro i j x hd hi hj hx
    by_cases hij : i < j
    · obtain ⟨y, h1, h2, h3⟩ := ih (i + 1) (j - 1) ((x.set i (x.getD j z)).set j (x.getD i z)) (by omega) (by omega) (by simp; omega) (by simp; omega)
      refine ⟨y, by rw [h1]; simp, fun p => ?_, Ev.step (fun k => ?_) h3⟩
      · rw [h2]
        by_cases hp : i + 1 ≤ p ∧ p ≤ j - 1
        · rw [if_pos hp, if_pos (by omega), List.getElem?_set_ne (by omega), List.getElem?_set_ne (by omega)]
          congr 1; omega
        · rw [if_neg hp]
          by_cases hpj : p = j
          · subst hpj
            rw [if_pos (by omega), List.getElem?_set_self (by simp; omega), show i + p - p = i by omega, List.getD_eq_getElem?_getD, List.getElem?_eq_getElem (by omega)]
            rfl
          · rw [List.getElem?_set_ne (by omega)]
            by_cases hpi : p = i
            · subst hpi
              rw [if_pos (by omega), List.getElem?_set_self (by omega), show p + j - p = j by omega, List.getD_eq_getElem?_getD, List.getElem?_eq_getElem (by omega)]
              rfl
            · rw [if_neg (by omega), List.getElem?_set_ne (by omega)]
      · rw [hL, if_pos (by omega), if_pos (by omega), if_pos (by omega), if_pos (by omega), if_pos (by omega), hR, hR, Int.toNat_natCast, Int.toNat_natCast]
        have e1 : wrap64 ((i : Int) + 1) = ((i + 1 : Nat) : Int) := by unfold wrap64; omega
        have e2 : wrap64 ((j : Int) - 1) = ((j - 1 : Nat) : Int) := by unfold wrap64; omega
        rw [e1, e2]
    · refine ⟨x, rfl, fun p => ?_, Ev.step (f := fun _ => some x) (fun k => ?_) (Ev.now _)⟩
      · by_cases hp : i ≤ p ∧ p ≤ j
        · rw [if_pos hp]; congr 1; omega
        · rw [if_neg hp]
      · rw [hL, if_neg (by omega)]
theorem swap_all (L : Nat → List α → Int → Int → Option (List α)) (R : List α → Int → α) (z : α) (hR : ∀ (x : List α) (n : Nat), R x (n : Int) = x.getD n z)
    (hL : ∀ k x (i j : Int), L (k + 1) x i j = if i < j then (if 0 ≤ j then (if j < (x.length : Int) then (if 0 ≤ i then (if i < (x.length : Int) then L k ((x.set i.toNat (R x j)).set j.toNat (R x i)) (wrap64 (i + 1)) (wrap64 (j - 1)) else none) else none) else none) else none) else some x)
    (x : List α) (h0 : 0 < x.length) (hx : x.length ≤ 1000000000) : Ev (fun k => L k x 0 (wrap64 ((x.length : Int) - 1))) x.reverse := by
  obtain ⟨y, h1, h2, h3⟩ := swap_loop L R z hR hL x.length 0 (x.length - 1) x (by omega) (by omega) (by omega) hx
  have e : wrap64 ((x.length : Int) - 1) = ((x.length - 1 : Nat) : Int) := by unfold wrap64; omega
  have ey : y = x.reverse := by
    apply List.ext_getElem?
    intro p
    rw [h2]
    by_cases hp : p < x.length
    · rw [if_pos (by omega), List.getElem?_reverse hp]
      congr 1; omega
    · rw [if_neg (by omega), List.getElem?_eq_none (by omega), List.getElem?_eq_none (by rw [List.length_reverse]; omega)]
  rw [e, ← ey]
  exact h3
end
theorem turn_num (m n : Nat) (hm : m < 256) (h0 : 0 < n) : ((Int.tdiv (m : Int) 2) % 256) % (n : Int) = ((m / 2 % n : Nat) : Int) := by
  rw [show Int.tdiv (m : Int) 2 = ((m / 2 : Nat) : Int) from rfl]
  have e : ((m / 2 : Nat) : Int) % 256 = ((m / 2 : Nat) : Int) := by omega
  rw [e]
  rfl
theorem turn_s (l : List ByteArray) (m : Nat) (hm : m < 256) (h0 : l ≠ []) (hl : l.length ≤ 1000000) : Ev (fun k => PT.laws_turned_string.f k l (m : Int)) (turnL l m) := by
  have hp : 0 < l.length := List.length_pos_iff.2 h0
  have hk := Nat.mod_lt (m / 2) hp
  have hlen : (l.drop (m / 2 % l.length) ++ l.take (m / 2 % l.length)).length = l.length := by simp; omega
  have ht : Int.tmod (m : Int) 2 = ((m % 2 : Nat) : Int) := rfl
  by_cases hmo : m % 2 = 1
  · have hE := swap_all PT.laws_turned_string.l0 (rdOf ByteArray.empty) ByteArray.empty (fun x n => by unfold rdOf; rw [Int.toNat_natCast]) (fun k x i j => by rw [PT.laws_turned_string.l0]) (l.drop (m / 2 % l.length) ++ l.take (m / 2 % l.length)) (by omega) (by omega)
    have e : turnL l m = (l.drop (m / 2 % l.length) ++ l.take (m / 2 % l.length)).reverse := by unfold turnL; simp only [hmo, if_true]
    rw [e]
    refine Ev.congr (fun k => ?_) hE
    unfold PT.laws_turned_string.f
    rw [if_neg (by omega)]
    simp only [Option.bind_some, List.nil_append, turn_num m l.length hm hp, Int.toNat_natCast, List.length_nil, Nat.zero_add]
    rw [if_pos (by omega), if_pos (by omega), if_pos (by simp; omega), if_pos (by rw [← List.length_append, hlen]; omega), ht, if_pos (by omega)]
  · have e : turnL l m = (l.drop (m / 2 % l.length) ++ l.take (m / 2 % l.length)) := by unfold turnL; simp only [if_neg hmo]
    rw [e]
    refine Ev.congr (fun k => ?_) (Ev.now _)
    unfold PT.laws_turned_string.f
    rw [if_neg (by omega)]
    simp only [Option.bind_some, List.nil_append, turn_num m l.length hm hp, Int.toNat_natCast, List.length_nil, Nat.zero_add]
    rw [if_pos (by omega), if_pos (by omega), if_pos (by simp; omega), if_pos (by rw [← List.length_append, hlen]; omega), ht, if_neg (by omega)]
theorem turn_i (l : List Int) (m : Nat) (hm : m < 256) (h0 : l ≠ []) (hl : l.length ≤ 1000000) : Ev (fun k => PT.laws_turned_int.f k l (m : Int)) (turnL l m) := by
  have hp : 0 < l.length := List.length_pos_iff.2 h0
  have hk := Nat.mod_lt (m / 2) hp
  have hlen : (l.drop (m / 2 % l.length) ++ l.take (m / 2 % l.length)).length = l.length := by simp; omega
  have ht : Int.tmod (m : Int) 2 = ((m % 2 : Nat) : Int) := rfl
  by_cases hmo : m % 2 = 1
  · have hE := swap_all PT.laws_turned_int.l0 rd 0 (fun x n => by unfold rd; rw [Int.toNat_natCast]) (fun k x i j => by rw [PT.laws_turned_int.l0]) (l.drop (m / 2 % l.length) ++ l.take (m / 2 % l.length)) (by omega) (by omega)
    have e : turnL l m = (l.drop (m / 2 % l.length) ++ l.take (m / 2 % l.length)).reverse := by unfold turnL; simp only [hmo, if_true]
    rw [e]
    refine Ev.congr (fun k => ?_) hE
    unfold PT.laws_turned_int.f
    rw [if_neg (by omega)]
    simp only [Option.bind_some, List.nil_append, turn_num m l.length hm hp, Int.toNat_natCast, List.length_nil, Nat.zero_add]
    rw [if_pos (by omega), if_pos (by omega), if_pos (by simp; omega), if_pos (by rw [← List.length_append, hlen]; omega), ht, if_pos (by omega)]
  · have e : turnL l m = (l.drop (m / 2 % l.length) ++ l.take (m / 2 % l.length)) := by unfold turnL; simp only [if_neg hmo]
    rw [e]
    refine Ev.congr (fun k => ?_) (Ev.now _)
    unfold PT.laws_turned_int.f
    rw [if_neg (by omega)]
    simp only [Option.bind_some, List.nil_append, turn_num m l.length hm hp, Int.toNat_natCast, List.length_nil, Nat.zero_add]
    rw [if_pos (by omega), if_pos (by omega), if_pos (by simp; omega), if_pos (by rw [← List.length_append, hlen]; omega), ht, if_neg (by omega)]
end Go.Proofs.Ytaejkbjepbifcaa.Da
namespace Go.Proofs.Ytaejkbjepbifcaa.Da
open Go.RowKit Go.Maps Go.ChangeShapes Go.Proofs.YtaejkbjepbifcaaW.PrintWords Go.Proofs.Ytaejkbjepbifcaa.Plain
set_option linter.unusedVariables false
set_option linter.unusedSimpArgs false
theorem sort_back (ks ps : List (List UInt8)) (hp : ps.Perm ks) (ha : ks.Pairwise (fun a b => a ≤ b)) : ps.mergeSort (fun x y => decide (x ≤ y)) = ks := by
  have h1 : (ps.mergeSort (fun x y => decide (x ≤ y))).Pairwise (fun a b => a ≤ b) := by
    have := List.pairwise_mergeSort (le := fun (x y : List UInt8) => decide (x ≤ y)) (fun a b c h1 h2 => by simp only [decide_eq_true_eq] at *; exact List.le_trans h1 h2) (fun a b => by simp only [Bool.or_eq_true, decide_eq_true_eq]; exact List.le_total a b) ps
    exact this.imp (fun h => by simpa using h)
  have h2 : (ps.mergeSort (fun x y => decide (x ≤ y))).Perm ks := (List.mergeSort_perm ps _).trans hp
  exact List.Perm.eq_of_pairwise (fun a b _ _ h h' => List.le_antisymm h h') h1 ha h2
/-- The map of the first pairs. -/
def hput {H : Type} (D : DataW H) (l : List (List UInt8 × Int)) : DataW H := l.foldl (fun D p => D.put (.string p.1) (.lit (.int .i64 p.2))) D
theorem hput_snoc {H : Type} (D : DataW H) (l : List (List UInt8 × Int)) (p : List UInt8 × Int) : hput D (l ++ [p]) = (hput D l).put (.string p.1) (.lit (.int .i64 p.2)) := by simp [hput, List.foldl_append]
theorem hput_other {H : Type} (k : List UInt8) (z : DataW H) : ∀ (l : List (List UInt8 × Int)) (D : DataW H), (∀ p ∈ l, p.1 ≠ k) → (hput D l).atKey (.string k) z = D.atKey (.string k) z
  | [], D, _ => rfl
  | p :: l, D, h => by
    show (hput (D.put (.string p.1) (.lit (.int .i64 p.2))) l).atKey _ z = _
    rw [hput_other k z l _ (fun q hq => h q (List.mem_cons_of_mem _ hq))]
    exact atKey_put_other (fun e => h p List.mem_cons_self (by injection e with e; exact e.symm)) _ _
theorem hput_at {H : Type} (k : List UInt8) (d : Int) (z : DataW H) : ∀ (l : List (List UInt8 × Int)) (D : DataW H), IsMap D → (l.map Prod.fst).Nodup → (k, d) ∈ l → (hput D l).atKey (.string k) z = .lit (.int .i64 d)
  | [], D, _, _, h => by cases h
  | p :: l, D, hD, hn, h => by
    rw [List.map_cons, List.nodup_cons] at hn
    show (hput (D.put (.string p.1) (.lit (.int .i64 p.2))) l).atKey _ z = _
    rcases List.mem_cons.1 h with e | h
    · rw [hput_other k z l _ (fun q hq e2 => hn.1 (by rw [← e]; show k ∈ _; rw [← e2]; exact List.mem_map_of_mem hq)), ← e]
      exact atKey_put_same hD (by simp [Go.WideAt.IsKeyLit]) _ _
    · exact hput_at k d z l _ (hD.put _ _) hn.2 h
end Go.Proofs.Ytaejkbjepbifcaa.Da
namespace Go.Proofs.Ytaejkbjepbifcaa.Da
open Go.RowKit Go.Sort Go.Proofs.YtaejkbjepbifcaaW.PrintWords Go.Proofs.Ytaejkbjepbifcaa.Plain
set_option linter.unusedVariables false
set_option linter.unusedSimpArgs false
theorem holds_strs {w : World} {kb ko : Nat} {ps : List ByteArray} (h : ∀ j, j < ps.length → w.cell? ⟨kb, ko + j, none⟩ = some (.string (ps.getD j ByteArray.empty)) ∧ w.frozen? ⟨kb, ko + j, none⟩ = false) : Holds encStr w kb ko (ps.map fun t => t.data.toList).toArray := by
  intro j hj
  have hj' : j < ps.length := by simpa using hj
  obtain ⟨h1, h2⟩ := h j hj'
  refine ⟨?_, h2⟩
  rw [h1, getElem!_pos _ j hj, List.getD_eq_getElem?_getD, List.getElem?_eq_getElem hj']
  simp [encStr]
theorem sorted_kp {w w' : World} {kb ko n : Nat} {ss : List ByteArray} {os : Array Obj} {d0 : Array (List UInt8)} (hH : Holds encStr w kb ko d0) (hlen : d0.size = ss.length) (hk : kb < w.heap.size) (h : w' = grow (putRow encStr (Sort.ahead w n) kb ko (ss.map fun t => t.data.toList).toArray) os) :
    Kp w w' (fun b => b = kb) ∧ ∀ j, j < ss.length → w'.cell? ⟨kb, ko + j, none⟩ = some (.string (ss.getD j ByteArray.empty)) := by
  subst h
  have hsz : (putRow encStr (Sort.ahead w n) kb ko (ss.map fun t => t.data.toList).toArray).heap.size = w.heap.size := by simp [putRow, mapBlock, Sort.ahead]
  constructor
  · refine ⟨?_, fun i hi hS => ?_, ?_⟩
    · show w.heap.size ≤ (_ ++ os : Array Obj).size
      rw [Array.size_append, hsz]; omega
    · rw [heap_grow_old _ _ (by rw [hsz]; exact hi)]
      simp only [putRow, mapBlock, Sort.ahead, Array.getElem?_modify]
      rw [if_neg (fun e => hS e.symm)]
    · exact ⟨rfl, rfl, rfl⟩
  · intro j hj
    rw [cell?_grow _ _ _ (by rw [hsz]; exact hk), cell?_putRow encStr (Sort.ahead w n) kb ko d0 _ (Sort.holds_ahead encStr w n kb ko d0 hH) (by simp [hlen]) j (by simpa using hj)]
    rw [getElem!_pos _ j (by simpa using hj), List.getD_eq_getElem?_getD, List.getElem?_eq_getElem hj]
    simp [encStr]
end Go.Proofs.Ytaejkbjepbifcaa.Da
namespace Go.Proofs.Ytaejkbjepbifcaa.Da
open Go.RowKit Go.Maps Go.ChangeShapes Go.WideMaps Go.Sort Go.Proofs.YtaejkbjepbifcaaW.PrintWords
set_option linter.unusedVariables false
set_option linter.unusedSimpArgs false
theorem key_str : Keyed Try.prog 9 := Keyed.of_law (Go.WideMaps.string_law Try.underlying9)
def prz (ps : List ByteArray) (ds : List Int) : List (List UInt8 × Int) := (ps.map fun t => t.data.toList).zip ds
/-- The map so far. -/
structure MpS (W w : World) (mb : Nat) (l : List (List UInt8 × Int)) (i : Nat) : Prop where
  kp : Kp W w (fun _ => False)
  ge : W.heap.size ≤ mb
  mp : w.ownsMap Try.prog 9 (plainElem (H := Unit) Try.prog 3) mb i (hput (.map []) (l.take i))
theorem own_map {w w' : World} {mb n : Nat} {D : DataW Unit} (h : w.ownsMap Try.prog 9 (plainElem (H := Unit) Try.prog 3) mb n D) (e : w'.heap[mb]? = w.heap[mb]?) : w'.ownsMap Try.prog 9 (plainElem (H := Unit) Try.prog 3) mb n D := by
  obtain ⟨es, clock, hb, F, hs, hD⟩ := h
  exact ⟨es, clock, e.trans hb, F, hs, hD⟩
theorem grown_of {w w' : World} {b : Nat} (h : Kp w w' (fun i => i = b)) : w.grownBy w' (some b) :=
  ⟨h.env.1, h.env.2.1, h.env.2.2, h.size, fun i hi hne => h.old i hi (fun e => hne (by rw [e]))⟩
/-- The identifiers so far. -/
structure IdR (W w : World) (ib base : Nat) (v : Value) (l : List Int) : Prop where
  r : Kd.R (Kd.int .i64) 3 w base (fun _ => True) v l
  own : ∃ k, v.ownBlock = some k ∧ (k = ib ∨ W.heap.size ≤ k)
  kp : Kp W w (fun b => b = ib)
  below : Below base W w
theorem IdR.put {W w1 w2 : World} {ib base : Nat} {v v2 : Value} {l l2 : List Int} (h : IdR W w1 ib base v l) (hr : Kd.R (Kd.int .i64) 3 w2 base (fun _ => True) v2 l2) (hb : Below base W w2) (hg : w1.grownBy w2 v.ownBlock) (ho : v2.ownBlock = v.ownBlock ∨ ∃ b, v2.ownBlock = some b ∧ w1.heap.size ≤ b) : IdR W w2 ib base v2 l2 := by
  obtain ⟨k, h1, h2⟩ := h.own
  have hz := h.kp.size
  refine ⟨hr, ?_, ⟨Nat.le_trans hz hg.size, fun i hi hne => ?_, h.kp.env.trans ⟨hg.os, hg.tape, hg.output⟩⟩, hb⟩
  · rcases ho with e | ⟨b, e, hb2⟩
    · exact ⟨k, e.trans h1, h2⟩
    · exact ⟨b, e, .inr (by omega)⟩
  · rw [hg.block i (Nat.lt_of_lt_of_le hi hz) (fun e => by rw [h1] at e; injection e with e; rcases h2 with h2 | h2; exact hne (e.trans h2); omega)]
    exact h.kp.old i hi hne
/-- What the part for keys in any order leaves: the keys sorted, the identifiers in their order. -/
structure UnsP (w w' : World) (kb ib base : Nat) (v : Value) (ss : List ByteArray) (ds : List Int) : Prop where
  kw : ∀ j, j < ss.length → w'.cell? ⟨kb, 0 + j, none⟩ = some (.string (ss.getD j ByteArray.empty))
  r : Kd.R (Kd.int .i64) 3 w' base (fun _ => True) v ds
  kp : Kp w w' (fun b => b = kb ∨ b = ib)
  own : ∃ k, v.ownBlock = some k ∧ (k = ib ∨ w.heap.size ≤ k)
theorem mps_start (W : World) (l : List (List UInt8 × Int)) : MpS W (W.alloc (.map #[] 0)) W.heap.size l 0 :=
  ⟨(Kp.self W _).alloc _, Nat.le_refl _, World.ownsMap_made W _ _ _⟩
theorem MpS.put {W w w' : World} {mb i : Nat} {l : List (List UInt8 × Int)} {p : List UInt8 × Int} (h : MpS W w mb l i) (hp : l[i]? = some p) (h1 : w'.ownsMap Try.prog 9 (plainElem (H := Unit) Try.prog 3) mb (i + 1) ((hput (.map []) (l.take i)).put (.string p.1) (.lit (.int .i64 p.2)))) (h2 : w.grownBy w' (some mb)) : MpS W w' mb l (i + 1) :=
  ⟨kp_grown h.kp h2 (fun j e => by cases e; exact h.ge), h.ge, by rw [List.take_add_one, hp]; show World.ownsMap _ _ _ _ _ _ (hput _ (l.take i ++ [p])); rw [hput_snoc]; exact h1⟩
noncomputable def buns : Code := pth [true, true, true, true, true, false, true, false] (Try.f26.body.getD .skip)
set_option maxHeartbeats 16000000 in
set_option maxRecDepth 100000 in
theorem bld_uns (w : World) (x kb ib Nc Dc : Nat) (ps : List ByteArray) (pd : List Int) (HSRC : Aside0 (Src w kb 0 ps ib 0 pd)) (hb : ps.length ≤ 1000000) (HBS : Aside0 (∀ t ∈ ps, t.size ≤ 1000000000)) (ss : List ByteArray) (HLS : Aside0 (ss.length = ps.length)) (HSB : Aside0 ((ps.map fun t => t.data.toList).mergeSort (fun x y => decide (x ≤ y)) = ss.map fun t => t.data.toList)) (HFZ : Aside0 (∃ cs t, w.heap[kb]? = some (.cells cs t (0, 0)))) (ds : List Int) (base : Nat) (HBA : Aside0 (base ≤ kb ∧ base ≤ ib ∧ kb ≠ ib)) (HRI : Aside0 (Kd.R (Kd.int .i64) 3 w base (fun _ => True) (.slice (some ⟨ib, 0, none⟩) pd.length Dc) pd)) (HME : Aside0 (∀ j, j < ss.length → ((ss.getD j ByteArray.empty).data.toList, ds.getD j 0) ∈ prz ps pd)) (HND : Aside0 (((prz ps pd).map Prod.fst).Nodup)) (HLD : Aside0 (ds.length = ps.length)) {Q : Exit → Act → World → Prop} {v2 v3 v4 v5 v7 v8 v9 v10 v11 v12 v13 v14 v15 v16 v17 v18 v19 v20 v21 v22 v23 v24 v25 v26 v27 v28 v29 v30 v31 v32 v33 v34 v35 v36 v37 v38 v39 v40 v41 v42 v43 v44 v45 v46 v47 v48 v49 v50 v51 v52 v53 v54 v55 v56 v57 v58 v59 v60 v61 v62 v63 v64 v65 v66 v67 v68 v69 v70 v71 v72 v73 v74 v75 v76 v77 v78 v79 v80 : Value}
    (hN : Aside0 (∀ (n1 n7 n8 n9 n11 n30 n31 n32 n33 n34 n35 n36 n37 n38 n39 n40 n41 n42 n43 n44 n45 n46 n47 n48 n49 n50 n51 n52 n53 n54 n55 n56 n57 n58 n59 n60 n61 : Value) (w' : World), Aside0 (UnsP w w' kb ib base n1 ss ds) → Q .normal ⟨#[.slice (some ⟨kb, 0, none⟩) ps.length Nc, n1, v2, v3, v4, v5, .pointer (some ⟨x, 0, none⟩), n7, n8, n9, v10, n11, v12, v13, v14, v15, v16, v17, v18, v19, v20, v21, v22, v23, v24, v25, v26, v27, v28, v29, n30, n31, n32, n33, n34, n35, n36, n37, n38, n39, n40, n41, n42, n43, n44, n45, n46, n47, n48, n49, n50, n51, n52, n53, n54, n55, n56, n57, n58, n59, n60, n61, v62, v63, v64, v65, v66, v67, v68, v69, v70, v71, v72, v73, v74, v75, v76, v77, v78, v79, v80], []⟩ w'))
    : Code.wp Try.prog buns Q ⟨#[.slice (some ⟨kb, 0, none⟩) ps.length Nc, .slice (some ⟨ib, 0, none⟩) ps.length Dc, v2, v3, v4, v5, .pointer (some ⟨x, 0, none⟩), v7, v8, v9, v10, v11, v12, v13, v14, v15, v16, v17, v18, v19, v20, v21, v22, v23, v24, v25, v26, v27, v28, v29, v30, v31, v32, v33, v34, v35, v36, v37, v38, v39, v40, v41, v42, v43, v44, v45, v46, v47, v48, v49, v50, v51, v52, v53, v54, v55, v56, v57, v58, v59, v60, v61, v62, v63, v64, v65, v66, v67, v68, v69, v70, v71, v72, v73, v74, v75, v76, v77, v78, v79, v80], []⟩ w := by
  conv => arg 2; whnf
  conv => arg 4; zeta
  have hmm := @run_makeMap Try.prog
  have H0 := Aside0.mk (mps_start w (prz ps pd))
  go_upto_region 9 with fail
  obtain ⟨w1, hw1⟩ : ∃ w1, w1 = w.alloc (.map #[] 0) := ⟨_, rfl⟩
  obtain ⟨mb, hmb⟩ : ∃ mb, w.heap.size = mb := ⟨_, rfl⟩
  rw [← hw1] at H0 ⊢
  rw [hmb] at H0 ⊢
  clear hw1 hmb hmm
  go_wp2_with fail
  go_loopg [8, 9, 33] ps.length (fun kq v8 v9 v33 w' => ∃ (i : Nat), v33 = .int .i64 (i : Int) ∧ Aside0 (i + kq = ps.length) ∧ Aside0 (MpS w w' mb (prz ps pd) i))
  case atStart => exact ⟨0, rfl, ⟨by omega⟩, H0⟩
  case round =>
    clear H0
    obtain ⟨i, rfl, HI, HM⟩ := hrel
    have hi := HI.out
    by_cases hil : i < ps.length
    · have hiz : (i : Int) < (ps.length : Int) := by omega
      have hsr := HSRC.out.step HM.out.kp id id
      have y0 := hsr.kw i hil
      have y1 := hsr.idc i (by have := HSRC.out.len; omega)
      rw [Nat.zero_add] at y0 y1
      obtain ⟨t, ht⟩ : ∃ t, ps.getD i ByteArray.empty = t := ⟨_, rfl⟩
      obtain ⟨d, hd⟩ : ∃ d, pd.getD i 0 = d := ⟨_, rfl⟩
      rw [ht] at y0
      rw [hd] at y1
      have htm : t ∈ ps := by rw [← ht, List.getD_eq_getElem?_getD, List.getElem?_eq_getElem hil]; exact List.getElem_mem hil
      have hdm : d ∈ pd := by have hl := HSRC.out.len; rw [← hd, List.getD_eq_getElem?_getD, List.getElem?_eq_getElem (by omega)]; exact List.getElem_mem _
      have hts := HBS.out t htm
      have hdb := HSRC.out.dsb d hdm
      have hp : (prz ps pd)[i]? = some (t.data.toList, d) := by
        have hl := HSRC.out.len
        unfold prz
        rw [List.getElem?_zip_eq_some]
        constructor
        · rw [List.getElem?_map, List.getElem?_eq_getElem hil, ← ht, List.getD_eq_getElem?_getD, List.getElem?_eq_getElem hil]; rfl
        · rw [← hd, List.getD_eq_getElem?_getD, List.getElem?_eq_getElem (by omega)]; rfl
      have hkey : keyOf Try.prog 9 (.string t) = some (.string t.data.toList) := keyOf_string_mk Try.underlying9 (by unfold maxLen; omega)
      have hval : plainElem (H := Unit) Try.prog 3 (.int .i64 d) = some (.lit (.int .i64 d), []) := plainElem_int Try.underlying3 (Go.WalkArith.wf_i64 (by omega))
      have HP := Aside0.mk hp
      have HKY := Aside0.mk hkey
      have HVL := Aside0.mk hval
      clear hsr ht hd htm hdm hts hdb hp hkey hval
      cases gk with
      | zero => omega
      | succ kz =>
      go_wp2_with (first | (at_mapUpdate; refine wpList_mapUpdate_own _ rfl _ _ _ 78 rfl 9 3 key_str Try.underlying78 _ mb i _ rfl HM.out.mp (by unfold maxLen; omega) _ _ _ rfl rfl HKY.out _ _ HVL.out ?_; intro w2 hown hgrow; have HM2 := Aside0.mk (HM.out.put HP.out hown hgrow); clear hown hgrow))
      go_roundg kz
      case measure => omega
      case rel => exact ⟨i + 1, congrArg (Value.int .i64) (by omega), ⟨by omega⟩, HM2⟩
    · have hiz : ¬ (i : Int) < (ps.length : Int) := by omega
      obtain ⟨sl, hsl⟩ : ∃ sl, sl = ps.map fun t => t.data.toList := ⟨_, rfl⟩
      have hsn : sl.length = ps.length := by rw [hsl, List.length_map]
      have hkl : kb < wr.heap.size := Nat.lt_of_lt_of_le HSRC.out.kl HM.out.kp.size
      have hsr := HSRC.out.step HM.out.kp id id
      have hH : Holds encStr wr kb 0 sl.toArray := by
        rw [hsl]
        refine holds_strs fun j hj => ⟨hsr.kw j hj, ?_⟩
        obtain ⟨cs, tt, hf⟩ := HFZ.out
        have := (HM.out.kp.old kb HSRC.out.kl id).trans hf
        unfold World.frozen?; simp [this]
      have T := Try.slices_Sort_string kb 0 Nc sl wr hH hkl (by rw [hsn]; omega)
      rw [hsn] at T
      have HT := Aside0.mk T
      have HSN := Aside0.mk hsn
      have HSL := Aside0.mk hsl
      have HH := Aside0.mk hH
      have HKL := Aside0.mk hkl
      clear T hsn hsl hH hkl hsr
      go_wp2_with fail
      with_reducible refine Calls.mono HT.out ?_
      rintro e_ w3 ⟨rfl, q, os, hw3⟩
      rw [HSL.out, HSB.out] at hw3
      have hkp := sorted_kp HH.out (by have := HSN.out; have := HLS.out; simp; omega) HKL.out hw3
      have HKP := Aside0.mk hkp.1
      have HCL := Aside0.mk hkp.2
      clear hkp hw3
      go_wp2_with fail
      have hri : IdR w3 w3 ib base (.slice (some ⟨ib, 0, none⟩) 0 Dc) [] := by
        refine ⟨?_, ⟨ib, rfl, .inl rfl⟩, Kp.self w3 _, Below.refl _ _⟩
        have hk3 := (HM.out.kp.trans HKP.out).mono (T := fun b => b = kb) (fun i _ h => h.resolve_left id)
        have h1 := Kd.R_grown2 HRI.out rfl (row := some kb) (grown_of hk3) (fun k e => by cases e; intro e2; have := HBA.out.2.2; exact this (Option.some.inj e2))
        exact Kd.R_take h1 (m := 0) (Nat.zero_le _)
      have HRI3 := Aside0.mk hri
      clear hri
      go_loopg [1, 11, 51] ps.length (fun kq v1 v11 v51 w' => ∃ (i : Nat), v51 = .int .i64 (i : Int) ∧ Aside0 (i + kq = ps.length) ∧ Aside0 (IdR w3 w' ib base v1 (ds.take i)))
      case atStart => exact ⟨0, rfl, ⟨by omega⟩, HRI3⟩
      case round =>
        clear HRI3
        obtain ⟨i, rfl, HI3, HR3⟩ := hrel
        have hi := HI3.out
        by_cases hil2 : i < ps.length
        · have hiz2 : (i : Int) < (ps.length : Int) := by omega
          have hls := HLS.out
          have hkb := HBA.out
          have y0 := (cell_old HR3.out.kp (b := kb) (o := 0 + i) (Nat.lt_of_lt_of_le HKL.out HKP.out.size) (by omega)).trans (HCL.out i (by omega))
          rw [Nat.zero_add] at y0
          have hme := HME.out i (by omega)
          obtain ⟨t, ht⟩ : ∃ t, ss.getD i ByteArray.empty = t := ⟨_, rfl⟩
          obtain ⟨d, hd⟩ : ∃ d, ds.getD i 0 = d := ⟨_, rfl⟩
          rw [ht] at y0 hme
          rw [hd] at hme
          have hmm : ∃ p ∈ ps, p.data.toList = t.data.toList := by
            have := (List.of_mem_zip hme).1
            obtain ⟨p, hp, e⟩ := List.mem_map.1 this
            exact ⟨p, hp, e⟩
          have hts : t.size ≤ 1000000000 := by
            obtain ⟨p, hp, e⟩ := hmm
            have h1 := HBS.out p hp
            have : p.data = t.data := Array.toList_inj.1 e
            show t.data.size ≤ _
            rw [← this]; exact h1
          have hkey : keyOf Try.prog 9 (.string t) = some (.string t.data.toList) := keyOf_string_mk Try.underlying9 (by unfold maxLen; omega)
          have hmbl := HM.out.mp.lt
          have hmbne : mb ≠ kb ∧ mb ≠ ib := by
            have := HM.out.ge
            have := HSRC.out.kl
            have := HSRC.out.il
            omega
          have hmp := own_map (own_map HM.out.mp (HKP.out.old mb hmbl hmbne.1)) (HR3.out.kp.old mb (Nat.lt_of_lt_of_le hmbl HKP.out.size) hmbne.2)
          have hpl : (prz ps pd).length = ps.length := by unfold prz; rw [List.length_zip, List.length_map, HSRC.out.len, Nat.min_self]
          rw [List.take_of_length_le (by rw [hpl]; have := HI.out; omega)] at hmp
          obtain ⟨c, hrun, hat, hwc⟩ := hmp.lookup_int key_str Try.underlying78 Try.underlying3 (by rfl) hkey
          rw [hput_at _ d _ _ _ isMap_empty HND.out hme] at hat
          have hcd : c = d := by injection hat with h1; injection h1 with h1 h2; exact h2.symm
          subst hcd
          have hdl : i < ds.length := by have := HLD.out; omega
          have htk : ds.take (i + 1) = ds.take i ++ [c] := by rw [List.take_add_one, List.getElem?_eq_getElem hdl, ← hd, List.getD_eq_getElem?_getD, List.getElem?_eq_getElem hdl]; rfl
          have HTK := Aside0.mk htk
          have hbw : base ≤ wr.heap.size := by have := HR3.out.kp.size; have := HKP.out.size; have := HM.out.kp.size; have := HSRC.out.il; omega
          have htl : (ds.take i).length ≤ 1000000 := by rw [List.length_take]; omega
          have hzi : (zeroValue 3).run Try.prog wr = .ok (.int .i64 0) wr := by rfl
          clear hme ht hd hmm hts hkey hmbl hmbne hmp hpl hat hwc htk
          cases gk with
          | zero => omega
          | succ kz =>
          go_wp2_with (first | ((with_reducible refine gate_builtin (b := .append) (xs := #[.tmp 55, .tmp 59]) rfl ?_); at_builtin; refine Kd.R_append (Kd.int .i64) (w0 := w3) base rfl (.tmp 55) (.tmp 59) 23 3 (.int .i64 0) 8 rfl Try.underlying23 info_int rfl (by decide) (by omega) u1 (ds.take i) c [.int .i64 c] (fun _ => True) (fun _ => False) rfl rfl rfl (fun _ hk => hk.elim) (fun _ _ => trivial) HR3.out.r HR3.out.below hbw (by omega) ?_; intro va wa ho hb hg hat2; have HI4 := Aside0.mk (HR3.out.put ho hb hg hat2); clear ho hb hg hat2))
          go_roundg kz
          case measure => omega
          case rel => exact ⟨i + 1, congrArg (Value.int .i64) (by omega), ⟨by omega⟩, ⟨by rw [HTK.out]; exact HI4.out⟩⟩
        · have hiz2 : ¬ (i : Int) < (ps.length : Int) := by omega
          go_wp2_with fail
          (try simp only [Exit.then, Exit.jump])
          have hie : i = ps.length := by omega
          have hr3 := HR3.out.r
          rw [List.take_of_length_le (by have := HLD.out; omega)] at hr3
          have hk9 := ((HM.out.kp.trans HKP.out).trans HR3.out.kp).mono (T := fun b => b = kb ∨ b = ib) (fun i _ h => by rcases h with (h | h) | h; exact h.elim; exact .inl h; exact .inr h)
          have hkb := HBA.out
          have hkw : ∀ j, j < ss.length → wr.cell? ⟨kb, 0 + j, none⟩ = some (.string (ss.getD j ByteArray.empty)) := fun j hj => (cell_old HR3.out.kp (b := kb) (o := 0 + j) (Nat.lt_of_lt_of_le HKL.out HKP.out.size) (by omega)).trans (HCL.out j hj)
          have hown : ∃ k, u1.ownBlock = some k ∧ (k = ib ∨ w.heap.size ≤ k) := by
            obtain ⟨k, h1, h2⟩ := HR3.out.own
            have := (HM.out.kp.trans HKP.out).size
            exact ⟨k, h1, by omega⟩
          exact hN.out _ _ _ _ _ _ _ _ _ _ _ _ _ _ _ _ _ _ _ _ _ _ _ _ _ _ _ _ _ _ _ _ _ _ _ _ _ _ ⟨hkw, hr3, hk9, hown⟩
end Go.Proofs.Ytaejkbjepbifcaa.Da
namespace Go.Proofs.Ytaejkbjepbifcaa.Da
open Go.RowKit Go.Maps Go.ChangeShapes Go.Proofs.YtaejkbjepbifcaaW.PrintWords
set_option linter.unusedVariables false
set_option linter.unusedSimpArgs false
/-- A row of the call's own that is not empty stands in a block of its own. -/
theorem own_head2 {α : Type} {d : Kd α} {e : Nat} {w : World} {base : Nat} {ok : Nat → Prop} {v : Value} {xs : List α} (h : Kd.R d e w base ok v xs) (hne : xs ≠ []) : ∃ g c, v = .slice (some ⟨g, 0, none⟩) xs.length c ∧ base ≤ g ∧ g < w.heap.size ∧ xs.length ≤ c ∧ Kd.C d w (some ⟨g, 0, none⟩) xs.length xs ∧ ∃ cs t, w.heap[g]? = some (.cells cs t (0, 0)) := by
  obtain ⟨inner, ho⟩ := Kd.R_own h
  have hp : 0 < xs.length := List.length_pos_iff.2 hne
  rcases ho.2 with ⟨_, h0⟩ | ⟨g, cap, cur, rfl, h2, h3, h4, h5, h6, h7⟩
  · omega
  · obtain ⟨A, c, e1, l1, g1⟩ := Kd.R_reads h
    injection e1 with e1 e2 e3
    subst e1
    subst e3
    exact ⟨g, _, rfl, h2, (Array.getElem?_eq_some_iff.1 h3).1, l1, g1, _, _, h3⟩
/-- Keywords with identifiers in another order. -/
structure Turned (k : Nat) (ps ss : List ByteArray) (pd ds : List Int) : Prop where
  srt : PB.slices_IsSorted_string_string.f k ps = some false
  pl : ps.length = ss.length
  dl : pd.length = ss.length
  sb : (ps.map fun t => t.data.toList).mergeSort (fun x y => decide (x ≤ y)) = ss.map fun t => t.data.toList
  me : ∀ j, j < ss.length → ((ss.getD j ByteArray.empty).data.toList, ds.getD j 0) ∈ prz ps pd
  nd : ((prz ps pd).map Prod.fst).Nodup
  sz : ∀ t ∈ ps, t.size ≤ 1000000000
  dsb : ∀ d ∈ pd, 0 ≤ d ∧ d ≤ 2147483647
set_option maxHeartbeats 16000000 in
set_option maxRecDepth 100000 in
theorem build_unsorted (W : World) (kb ib Nc Dc k base : Nat) (ps ss : List ByteArray) (pd ds : List Int) (HSRC : Src W kb 0 ps ib 0 pd) (hr : Kd.C Kd.string W (some ⟨kb, 0, none⟩) ps.length ps) (hc : ps.length ≤ Nc) (hT : Turned k ps ss pd ds) (K_ : KeysOk ss ds) (hfz : ∃ cs t, W.heap[kb]? = some (.cells cs t (0, 0))) (hba : base ≤ kb ∧ base ≤ ib ∧ kb ≠ ib) (hri : Kd.R (Kd.int .i64) 3 W base (fun _ => True) (.slice (some ⟨ib, 0, none⟩) pd.length Dc) pd) :
    Calls Try.prog 26 #[.slice (some ⟨kb, 0, none⟩) ps.length Nc, .slice (some ⟨ib, 0, none⟩) pd.length Dc] W fun e w' => BldE W w' (fun b => b = kb ∨ b = ib) (keysAll ss ds) e := by
  have HS0 := Aside0.mk HSRC
  have HR := Aside0.mk hr
  have HT := Aside0.mk hT
  have HKO := Aside0.mk K_
  have HFZ := Aside0.mk hfz
  have HBA := Aside0.mk hba
  have HRI := Aside0.mk hri
  have hlen := HSRC.len
  have hpos : 0 < ps.length := by rw [hT.pl]; exact List.length_pos_iff.2 K_.ne
  have hl0 : ((ps.length : Int) == 0) = false := by rw [beq_eq_false_iff_ne]; omega
  have hl1 : ((ps.length : Int) != (ps.length : Int)) = false := by simp
  have hfew := HSRC.few
  have HDN : Aside0 (ds ≠ []) := ⟨fun e => K_.ne (List.length_eq_zero_iff.1 (by rw [← K_.len, e]; rfl))⟩
  have HLD : Aside0 (ds.length = ss.length) := ⟨K_.len⟩
  have HLE := Aside0.mk hlen
  rw [hlen]
  clear HSRC hr hlen hfz hba hri hT K_
  go_enter Try.func26, Try.ntmps26
  refine wp_seq_k fun K hK_ => ?_
  have hK := Aside0.mk hK_
  clear hK_
  go_wp2_with fail
  refine hK.out _ _ ?_
  clear hK K
  refine wp_seq_k fun K hK_ => ?_
  have hK := Aside0.mk hK_
  clear hK_
  go_wp2_with fail
  refine hK.out _ _ ?_
  clear hK K
  have hz1 : (W.alloc (.cells #[] 100)).heap.size = W.heap.size + 1 := Own.size_alloc _ _
  obtain ⟨w1, hw1, hbx, hk1⟩ : ∃ w1, w1 = (W.alloc (.cells #[] 100)).alloc (.cells #[.slice (some ⟨W.heap.size, 0, none⟩) 0 0] 62) ∧ w1.heap[W.heap.size + 1]? = some (.cells #[.slice (some ⟨W.heap.size, 0, none⟩) 0 0] 62 (0, 0)) ∧ Kp W w1 (fun _ => False) := ⟨_, rfl, by rw [← hz1]; exact blk_new _ _, ((Kp.self W _).alloc _).alloc _⟩
  rw [← hw1]
  obtain ⟨x, hx⟩ : ∃ x, W.heap.size + 1 = x := ⟨_, rfl⟩
  rw [hx] at hbx ⊢
  have HX := Aside0.mk hx
  have HI := Aside0.mk (init_calls w1 x _ hbx)
  have HK1 := Aside0.mk hk1
  clear hw1 hbx hk1 hz1 hx
  refine wp_seq_k fun K hK_ => ?_
  have hK := Aside0.mk hK_
  clear hK_
  go_wp2_with (first | (go_at_call 37; refine HI.out.mono ?_; rintro e_ w2 ⟨rfl, g, hg, hM, hK⟩; have HM := Aside0.mk hM; have HG := Aside0.mk hg; have HK2 : Aside0 (Kp W w2 (fun _ => False)) := ⟨(HK1.out.trans hK).mono (fun i hi h => by have := HX.out; rcases h with h | h; exact h; omega)⟩; have HIS2 := Aside0.mk (PB.slices_IsSorted_string_string.calls k _ Nc ps false w2 (Kd.C_below HR.out (kp_below HK2.out)) hc HT.out.srt); clear hM hg hK) | (go_at_call 39; refine HIS2.out.mono ?_; rintro e_ w3 ⟨rfl, ⟨q3, rfl⟩⟩))
  refine hK.out _ _ ?_
  clear hK K
  refine wp_seq_k fun K hK_ => ?_
  have hK := Aside0.mk hK_
  clear hK_
  go_wp2_with fail
  refine hK.out _ _ ?_
  clear hK K
  refine wp_seq_k fun K hK_ => ?_
  have hK := Aside0.mk hK_
  clear hK_
  go_wp2_with fail
  refine hK.out _ _ ?_
  clear hK K
  refine wp_seq_k fun K hK_ => ?_
  have hK := Aside0.mk hK_
  clear hK_
  refine wp_seq_k fun K2 hK2_ => ?_
  have hK2 := Aside0.mk hK2_
  clear hK2_
  go_wp2_with (first | (go_at_call 37; refine HI.out.mono ?_; rintro e_ w2 ⟨rfl, g, hg, hM, hK⟩; have HM := Aside0.mk hM; have HG := Aside0.mk hg; have HK2 : Aside0 (Kp W w2 (fun _ => False)) := ⟨(HK1.out.trans hK).mono (fun i hi h => by have := HX.out; rcases h with h | h; exact h; omega)⟩; have HIS2 := Aside0.mk (PB.slices_IsSorted_string_string.calls k _ Nc ps false w2 (Kd.C_below HR.out (kp_below HK2.out)) hc HT.out.srt); clear hM hg hK) | (go_at_call 39; refine HIS2.out.mono ?_; rintro e_ w3 ⟨rfl, ⟨q3, rfl⟩⟩))
  refine hK2.out _ _ ?_
  clear hK2 K2
  refine wp_cond_true rfl ?_
  have hm3 := HM.out.drewN q3
  have hk3 := HK2.out.drewN q3
  have hs3 := HS0.out.step hk3 id id
  have hg3 : W.heap.size ≤ g := by have := HK1.out.size; have := HG.out; omega
  have hr3 := Kd.R_grown2 HRI.out rfl (row := none) ⟨hk3.env.1, hk3.env.2.1, hk3.env.2.2, hk3.size, fun i hi _ => hk3.old i hi id⟩ (fun k e => by cases e)
  have hf3 : ∃ cs t, (w2.drewN q3).heap[kb]? = some (.cells cs t (0, 0)) := by
    obtain ⟨cs, t, h⟩ := HFZ.out
    exact ⟨cs, t, (hk3.old kb HS0.out.kl id).trans h⟩
  have hap : kb ≠ x ∧ kb ≠ g ∧ ib ≠ x ∧ ib ≠ g := by
    have := HS0.out.kl
    have := HS0.out.il
    have := HX.out
    omega
  have HM3 := Aside0.mk hm3
  have HK3 := Aside0.mk hk3
  have HS3 := Aside0.mk hs3
  have HG3 := Aside0.mk hg3
  have HAP := Aside0.mk hap
  have HR3 := Aside0.mk hr3
  have HF3 := Aside0.mk hf3
  clear hm3 hk3 hs3 hg3 hap hr3 hf3 HM HK2 HIS2 HI HK1
  refine bld_uns _ x kb ib Nc Dc ps pd HS3 hfew ⟨HT.out.sz⟩ ss ⟨HT.out.pl.symm⟩ ⟨HT.out.sb⟩ HF3 ds base HBA HR3 ⟨HT.out.me⟩ ⟨HT.out.nd⟩ ⟨HKO.out.len.trans HT.out.pl.symm⟩ ⟨?_⟩
  intro n1 n7 n8 n9 n11 n30 n31 n32 n33 n34 n35 n36 n37 n38 n39 n40 n41 n42 n43 n44 n45 n46 n47 n48 n49 n50 n51 n52 n53 n54 n55 n56 n57 n58 n59 n60 n61 w4 HU
  (try simp only [Exit.then, Exit.jump])
  refine hK.out _ _ ?_
  clear hK K
  obtain ⟨g2, c2, rfl, hg2b, hg2l, hg2c, hg2r, _⟩ := own_head2 HU.out.r HDN.out
  have hgo : g2 = ib ∨ (w2.drewN q3).heap.size ≤ g2 := by
    obtain ⟨k, h1, h2⟩ := HU.out.own
    cases h1
    exact h2
  have hkb4 : kb < w4.heap.size := Nat.lt_of_lt_of_le HS3.out.kl HU.out.kp.size
  have hs4 : Src w4 kb 0 ss g2 0 ds := ⟨HU.out.kw, fun j hj => by
    obtain ⟨ad, e, h⟩ := int_cell hg2r j hj
    cases e
    rw [add_at0] at h
    exact h, hkb4, hg2l, HKO.out.len, HKO.out.few, HKO.out.sz, HKO.out.dsb⟩
  have hm4 : Mem w4 x g (DA.init 51200) := HM3.out.far HU.out.kp (fun h => by have := HAP.out; omega) (fun h => by have := HAP.out; omega)
  have hap4 : kb ≠ x ∧ kb ≠ g ∧ g2 ≠ x ∧ g2 ≠ g := by
    have := HAP.out
    have := HM3.out.xlt
    have := HM3.out.toArr.lt
    omega
  have hk4 : Kp W w4 (fun b => b = kb ∨ b = ib) := (HK3.out.trans HU.out.kp).mono (fun i _ h => h.resolve_left id)
  have HS4 := Aside0.mk hs4
  have HM4 := Aside0.mk hm4
  have HAP4 := Aside0.mk hap4
  have HK4 := Aside0.mk hk4
  clear hg2b hg2l hg2c hg2r hgo hkb4 hs4 hm4 hap4 hk4
  rw [← HT.out.pl.symm, HLD.out]
  refine bld_tail _ x g kb 0 g2 0 Nc c2 ss ds HM4 HS4 ⟨HKO.out.ne⟩ ⟨HKO.out.ok⟩ ⟨HKO.out.asc⟩ ⟨HKO.out.tot⟩ HAP4 ⟨?_⟩
  intro n12 n13 n62 n63 n64 n65 n66 n67 n68 n69 n70 n71 n72 n73 n74 n75 n76 n77 n78 n79 n80 g' s' w' HB
  (try simp only [Exit.then, Exit.jump])
  exact bodyPost_ret (v := .tuple #[.slice (some ⟨g', 0, none⟩) s'.n s'.n, .nilIface]) (by simp [results, Try.results26, go_sem]) rfl (bld_end HK4.out (by have := HX.out; omega) HG3.out HB.out)
end Go.Proofs.Ytaejkbjepbifcaa.Da
namespace Go.Proofs.Ytaejkbjepbifcaa.Da
open Go.RowKit Go.Proofs.YtaejkbjepbifcaaW.PrintWords Go.Proofs.Ytaejkbjepbifcaa.Plain
set_option linter.unusedVariables false
set_option linter.unusedSimpArgs false
theorem sortq_key (l : List ByteArray) (hl : l.length ≤ 4611686018427387904) : ∀ i, i < l.length → ∃ b, Ev (fun k => PB.slices_IsSorted_string_string.l0 k l (i : Int)) b ∧ (b = true → ∀ j, j < i → Op.bytesLess (l.getD (j + 1) ByteArray.empty).toList (l.getD j ByteArray.empty).toList = false)
  | 0, hi => ⟨true, Ev.step (fun k => by rw [PB.slices_IsSorted_string_string.l0]) (evn (by omega) (Ev.now true)), fun _ j h => absurd h (Nat.not_lt_zero _)⟩
  | i + 1, hi => by
    obtain ⟨b, hb, hp⟩ := sortq_key l hl i (by omega)
    have e : wrap64 (((i + 1 : Nat) : Int) - 1) = (i : Int) := by rw [wrap_dn (i + 1) (by omega) (by omega)]; rfl
    by_cases h : Op.bytesLess (l.getD (i + 1) ByteArray.empty).toList (l.getD i ByteArray.empty).toList = true
    · refine ⟨false, Ev.step (fun k => by rw [PB.slices_IsSorted_string_string.l0]) (evp (by omega) (evp (by omega) (evp (by omega) (evp (by rw [e]; omega) (evp (by rw [e]; omega) ?_))))), fun h => by cases h⟩
      rw [e, rdOf_nat, rdOf_nat, less_f, h]
      exact Ev.bind (Ev.now true) (evp rfl (Ev.now false))
    · have h : Op.bytesLess (l.getD (i + 1) ByteArray.empty).toList (l.getD i ByteArray.empty).toList = false := by simpa using h
      refine ⟨b, Ev.step (fun k => by rw [PB.slices_IsSorted_string_string.l0]) (evp (by omega) (evp (by omega) (evp (by omega) (evp (by rw [e]; omega) (evp (by rw [e]; omega) ?_))))), fun hb2 j hj => ?_⟩
      · rw [e, rdOf_nat, rdOf_nat, less_f, h]
        exact Ev.bind (Ev.now false) (evn (by simp) hb)
      · by_cases hj2 : j = i
        · subst hj2; exact h
        · exact hp hb2 j (by omega)
theorem sortq_ev (l : List ByteArray) (h0 : l ≠ []) (hl : l.length ≤ 4611686018427387904) : ∃ k b, PB.slices_IsSorted_string_string.f k l = some b ∧ (b = true → ∀ i, i + 1 < l.length → Op.bytesLess (l.getD (i + 1) ByteArray.empty).toList (l.getD i ByteArray.empty).toList = false) := by
  have hp := List.length_pos_iff.2 h0
  obtain ⟨b, hb, hbp⟩ := sortq_key l hl (l.length - 1) (by omega)
  have e : wrap64 ((l.length : Int) - 1) = ((l.length - 1 : Nat) : Int) := wrap_dn _ (by omega) hl
  obtain ⟨k, hk⟩ := hb.rounds
  exact ⟨k, b, by unfold PB.slices_IsSorted_string_string.f; rw [e]; exact hk, fun h i hi => hbp h i (by omega)⟩
/-- The texts' bytes. -/
abbrev bys (l : List ByteArray) : List (List UInt8) := l.map fun t => t.data.toList
theorem bys_inj {a b : List ByteArray} (h : bys a = bys b) : a = b := by
  induction a generalizing b with
  | nil => cases b with
    | nil => rfl
    | cons y b => simp [bys] at h
  | cons x a ih => cases b with
    | nil => simp [bys] at h
    | cons y b =>
      simp only [bys, List.map_cons, List.cons.injEq] at h
      obtain ⟨h1, h2⟩ := h
      rw [ih h2]
      congr 1
      cases x; cases y
      exact congrArg _ (Array.toList_inj.1 h1)
theorem up_pair {l : List ByteArray} (h : ∀ i, i + 1 < l.length → Op.bytesLess (l.getD (i + 1) ByteArray.empty).toList (l.getD i ByteArray.empty).toList = false) : (bys l).Pairwise (fun a b => a ≤ b) := by
  rw [List.pairwise_iff_getElem]
  intro i j hi hj hij
  have hi' : i < l.length := by simpa [bys] using hi
  have hj' : j < l.length := by simpa [bys] using hj
  have h1 := up_le h (j - i) i (by omega)
  rw [show i + (j - i) = j by omega, Lib.toList_data, Lib.toList_data] at h1
  have h2 := List.not_lt.1 h1
  simp only [bys, List.getElem_map]
  rw [List.getD_eq_getElem?_getD, List.getD_eq_getElem?_getD, List.getElem?_eq_getElem hi', List.getElem?_eq_getElem hj'] at h2
  exact h2
theorem str_pair {l : List ByteArray} (h : Ord l true) : (bys l).Nodup := by
  have key : ∀ i j, i < j → j < l.length → (l.getD i ByteArray.empty).data.toList < (l.getD j ByteArray.empty).data.toList := by
    intro i j hij hj
    have h1 := h.up i (by omega)
    have h2 := h.str rfl i (by omega)
    rw [Own.bl_eq, decide_eq_false_iff_not] at h1
    have h3 := up_le h.up (j - (i + 1)) (i + 1) (by omega)
    rw [show i + 1 + (j - (i + 1)) = j by omega] at h3
    rw [Lib.toList_data, Lib.toList_data] at h1 h2 h3
    have h4 := List.not_lt.1 h1
    have h5 := List.not_lt.1 h3
    rcases List.le_iff_lt_or_eq.1 h4 with h6 | h6
    · exact List.not_le.1 (fun h => List.not_le.2 h6 (List.le_trans h5 h))
    · exact absurd h6.symm h2
  rw [List.nodup_iff_pairwise_ne, List.pairwise_iff_getElem]
  intro i j hi hj hij e
  have hi' : i < l.length := by simpa [bys] using hi
  have hj' : j < l.length := by simpa [bys] using hj
  have h1 := key i j hij hj'
  simp only [bys, List.getElem_map] at e
  rw [List.getD_eq_getElem?_getD, List.getD_eq_getElem?_getD, List.getElem?_eq_getElem hi', List.getElem?_eq_getElem hj'] at h1
  simp only [Option.getD_some] at h1
  rw [e] at h1
  exact List.lt_irrefl _ h1
theorem turnL_map {α β : Type} (f : α → β) (l : List α) (m : Nat) : turnL (l.map f) m = (turnL l m).map f := by
  unfold turnL
  simp only [List.length_map, ← List.map_drop, ← List.map_take, ← List.map_append]
  split
  · rw [List.map_reverse]
  · rfl
theorem prz_turn (a : List ByteArray) (b : List Int) (m : Nat) (h : a.length = b.length) : prz (turnL a m) (turnL b m) = turnL (prz a b) m := by
  unfold prz
  rw [← turnL_map, turnL_zip _ _ _ (by simpa using h)]
theorem prz_mem {a : List ByteArray} {b : List Int} (h : b.length = a.length) (j : Nat) (hj : j < a.length) : ((a.getD j ByteArray.empty).data.toList, b.getD j 0) ∈ prz a b := by
  unfold prz
  refine List.mem_iff_getElem?.2 ⟨j, ?_⟩
  rw [List.getElem?_zip_eq_some]
  constructor
  · rw [List.getElem?_map, List.getD_eq_getElem?_getD, List.getElem?_eq_getElem hj]; rfl
  · show _ = some (b.getD j 0)
    rw [List.getD_eq_getElem?_getD, List.getElem?_eq_getElem (by omega)]; rfl
theorem nodup_at {α : Type} {l : List α} (h : l.Nodup) {i j : Nat} (hi : i < l.length) (hj : j < l.length) (e : l[i] = l[j]) : i = j := by
  rw [List.nodup_iff_pairwise_ne, List.pairwise_iff_getElem] at h
  rcases Nat.lt_trichotomy i j with h1 | h1 | h1
  · exact absurd e (h i j hi hj h1)
  · exact h1
  · exact absurd e.symm (h j i hj hi h1)
/-- Two rows of pairs of the same things, the same first parts: the same second parts. -/
theorem prz_same {a : List ByteArray} {b c : List Int} (hb : b.length = a.length) (hc : c.length = a.length) (hn : (bys a).Nodup) (hp : (prz a b).Perm (prz a c)) : b = c := by
  apply List.ext_getElem?
  intro j
  by_cases hj : j < a.length
  · have h1 := hp.subset (prz_mem hb j hj)
    obtain ⟨i, hi⟩ := List.mem_iff_getElem?.1 h1
    unfold prz at hi
    rw [List.getElem?_zip_eq_some] at hi
    obtain ⟨h2, h3⟩ := hi
    have hia : i < (bys a).length := (List.getElem?_eq_some_iff.1 h2).1
    have hia' : i < a.length := by simpa [bys] using hia
    have hij : i = j := by
      have e : (bys a)[i] = (bys a)[j]'(by simpa [bys] using hj) := by
        have h4 := (List.getElem?_eq_some_iff.1 h2).2
        have h5 : a.getD j ByteArray.empty = a[j] := by rw [List.getD_eq_getElem?_getD, List.getElem?_eq_getElem hj]; rfl
        simp only [h5] at h4
        simpa [bys] using h4
      exact nodup_at hn _ _ e
    subst hij
    rw [h3]
    show _ = some (b.getD i 0)
    rw [List.getD_eq_getElem?_getD, List.getElem?_eq_getElem (by omega)]; rfl
  · rw [List.getElem?_eq_none (by omega), List.getElem?_eq_none (by omega)]
/-- Keys in any order: they ascend already, or are turned. -/
theorem turned_or {a : List ByteArray} {b : List Int} (ho : Ord a true) (hb : b.length = a.length) (hl : a.length ≤ 1000000) (hs : ∀ t ∈ a, t.size ≤ 1000000000) (hd : ∀ d ∈ b, 0 ≤ d ∧ d ≤ 2147483647) (m : Nat) :
    ∃ k, (PB.slices_IsSorted_string_string.f k (turnL a m) = some true ∧ turnL a m = a ∧ turnL b m = b) ∨ Turned k (turnL a m) a (turnL b m) b := by
  have hpa := turnL_perm a m
  have hpb := turnL_perm b m
  have hne : turnL a m ≠ [] := fun e => ho.pos (by rw [e] at hpa; exact hpa.symm.eq_nil)
  obtain ⟨k, r, hr, hp⟩ := sortq_ev (turnL a m) hne (by rw [hpa.length_eq]; omega)
  have hpz : (prz (turnL a m) (turnL b m)).Perm (prz a b) := by rw [prz_turn a b m hb.symm]; exact turnL_perm _ _
  have hnd := str_pair ho
  cases r with
  | true =>
    have e : turnL a m = a := bys_inj (List.Perm.eq_of_pairwise (fun a b _ _ h h' => List.le_antisymm h h') (up_pair (hp rfl)) (up_pair ho.up) (hpa.map _))
    rw [e] at hpz
    exact ⟨k, .inl ⟨hr, e, prz_same (by rw [hpb.length_eq]; exact hb) hb hnd hpz⟩⟩
  | false =>
    have hfst : (prz a b).map Prod.fst = bys a := by unfold prz; rw [List.map_fst_zip]; simp [hb]
    refine ⟨k, .inr ⟨hr, hpa.length_eq, by rw [hpb.length_eq]; exact hb, sort_back _ _ (hpa.map _) (up_pair ho.up), fun j hj => hpz.symm.subset (prz_mem hb j hj), ?_, fun t ht => hs t (hpa.subset ht), fun d hd2 => hd d (hpb.subset hd2)⟩⟩
    refine (hpz.map Prod.fst).nodup_iff.2 ?_
    rw [hfst]; exact hnd
theorem src_of2 {W : World} {kb ib k : Nat} {ps ss : List ByteArray} {pd ds : List Int} (K : KeysOk ss ds) (T : Turned k ps ss pd ds) (h1 : Kd.C Kd.string W (some ⟨kb, 0, none⟩) ps.length ps) (h2 : Kd.C (Kd.int .i64) W (some ⟨ib, 0, none⟩) pd.length pd) (hk : kb < W.heap.size) (hi : ib < W.heap.size) : Src W kb 0 ps ib 0 pd :=
  ⟨fun j hj => by
    obtain ⟨ad, e, h⟩ := str_cell h1 j hj
    cases e
    rw [add_at0] at h
    exact h, fun j hj => by
    obtain ⟨ad, e, h⟩ := int_cell h2 j hj
    cases e
    rw [add_at0] at h
    exact h, hk, hi, T.dl.trans T.pl.symm, by rw [T.pl]; exact K.few, T.sz, T.dsb⟩
set_option maxHeartbeats 16000000 in
set_option maxRecDepth 100000 in
theorem trie_uns (W : World) (A0 A1 A2 : Option Addr) (c0 c1 c2 k : Nat) (ps ss ts : List ByteArray) (pd ds : List Int) (hr0 : Kd.C Kd.string W A0 ps.length ps) (hc0 : ps.length ≤ c0) (hr1 : Kd.C (Kd.int .i64) W A1 pd.length pd) (hc1 : pd.length ≤ c1) (hr2 : Kd.C Kd.string W A2 ts.length ts) (T : Turned k ps ss pd ds) (K : KeysOk ss ds) (hI : InsOk ts) :
    Calls Try.prog 17 #[.slice A0 ps.length c0, .slice A1 pd.length c1, .slice A2 ts.length c2] W fun e w' => AskE W w' (keysAll ss ds) ts e := by
  have HR2 := Aside0.mk hr2
  have HR1 := Aside0.mk hr1
  have HC1 := Aside0.mk hc1
  have HK := Aside0.mk K
  have HI := Aside0.mk hI
  have HT := Aside0.mk T
  have hpl : ps.length ≤ 1000000 := by rw [T.pl]; exact K.few
  have hpd : pd.length ≤ 1000000 := by rw [T.dl]; exact K.few
  have h1 := Aside0.mk (PB.slices_Clone_string_string.calls A0 c0 ps ps W hr0 hc0 (clone_strs ps hpl))
  have HNP : Aside0 (ps ≠ []) := ⟨fun e => K.ne (List.length_eq_zero_iff.1 (by rw [← T.pl, e]; rfl))⟩
  have HND : Aside0 (pd ≠ []) := ⟨fun e => K.ne (List.length_eq_zero_iff.1 (by rw [← T.dl, e]; rfl))⟩
  clear hr0 hr1 hr2 hc1 K hI T
  go_enter Try.func17, Try.ntmps17
  go_wp2_with (first | (go_at_call 27; refine h1.out.mono ?_; rintro e_ w1 ⟨v1, rfl, hv, hB⟩; have HB1 := Aside0.mk hB; have h2 := Aside0.mk (PB.slices_Clone_int_int.calls A1 c1 pd pd w1 (Kd.C_below HR1.out hB) HC1.out (clone_ints pd hpd)); obtain ⟨kb, kc, rfl, b1, b2, b3, b4, b5⟩ := own_head2 hv HNP.out; have HKB := Aside0.mk b4; have HFZ := Aside0.mk b5; clear hB hv b4 b5) | (go_at_call 28; refine h2.out.mono ?_; rintro e_ w2 ⟨v2, rfl, hv, hB⟩; have HB2 := Aside0.mk hB; obtain ⟨ib, ic, rfl, d1, d2, d3, d4⟩ := own_head hv HND.out; have HIB := Aside0.mk d4; have hkb2 := Kd.C_below HKB.out hB; have h3 := Aside0.mk (build_unsorted w2 kb ib kc ic k W.heap.size ps ss pd ds (src_of2 HK.out HT.out hkb2 d4 (by have := hB.size; omega) d2) hkb2 b3 HT.out HK.out (by obtain ⟨cs, t, h⟩ := HFZ.out; exact ⟨cs, t, (hB.block kb b2).trans h⟩) ⟨by omega, by have := HB1.out.size; omega, by omega⟩ (Kd.R_lower hv HB1.out.size)); clear hB hv d4 hkb2) | (go_at_call 26; refine h3.out.mono ?_; rintro e_ w3 ⟨g, s, rfl, hA, hG, hn, hg, hK⟩; have HA := Aside0.mk hA; have HG := Aside0.mk hG; have HB3 : Aside0 (Below W.heap.size w2 w3) := ⟨⟨hK.env.1, hK.env.2.1, hK.env.2.2, hK.size, fun i hi => hK.old i (by have := HB1.out.size; have := HB2.out.size; omega) (by have := HB1.out.size; omega)⟩⟩; have h4 := Aside0.mk (ask_calls w3 g c2 s (keysAll ss ds) ts A2 hA hG hn HI.out.2 (Kd.C_below HR2.out ((below_step HB1.out HB2.out).trans HB3.out)) HI.out.1); clear hA hG hK) | (go_at_call 29; refine h4.out.mono ?_; rintro e_ w4 ⟨ov, rfl, hR, hB⟩; have HR4 := Aside0.mk hR; have HB4 := Aside0.mk hB; clear hR hB))
  have hz1 := HB1.out.size
  have hz2 := HB2.out.size
  have hz3 := HB3.out.size
  refine bodyPost_ret (v := .tuple #[ov, .int .i64 0]) (by simp [results, Try.results17, go_sem]) rfl ⟨ov, rfl, Kd.R_lower HR4.out (by omega), below_step ((below_step HB1.out HB2.out).trans HB3.out) HB4.out⟩
end Go.Proofs.Ytaejkbjepbifcaa.Da
