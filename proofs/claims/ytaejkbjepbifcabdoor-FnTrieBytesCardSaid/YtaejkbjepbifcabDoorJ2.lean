/- The walks over tries and what they compute: part 2 of several, put together by a program. -/
import Derived.Test.YtaejkbjepbifcabDoorJ1
import Derived.Defers
import Derived.Recover
import Derived.Laws.Pointers
import Derived.Test.YtaejkbjepbifcabDoorJ0
import Derived.Test.YtaejkbjepbifcabDoorPlain
import Derived.Lib.Strings
namespace Go.Proofs.YtaejkbjepbifcabDoor.Da
open Go.RowKit Go.Proofs.YtaejkbjepbifcabDoorW.PrintWords
set_option linter.unusedVariables false
set_option linter.unusedSimpArgs false
def ans (L : Keys) (t : ByteArray) : PB.S46 := ⟨⟨(fnd L t).1, (fnd L t).2⟩, ⟨(lng L t).1, (lng L t).2⟩, hitsS L (bs t) (bs t).length, hitsS L (bs t) (bs t).length⟩
/-- The deferred function finds no panic. -/
theorem ask1_idle (p q : Addr) (w : World) :
    CallsD Tryd.prog 41 #[.pointer (some p), .pointer (some q)] .returning w fun e u' w' => e = .returned (.tuple #[]) ∧ u' = .returning ∧ w' = w := by
  refine callsD_of_wpS Tryd.func41 rfl fun c₀ cs hu => ?_
  apply wpS_seq
  apply wpS_region
  simp [wpOpsS, go_sem, recoverD, hu, Tryd.ntmps41, Exit.thenS]
  refine wpS_cond (t := false) (by simp [Act.eval, Array.replicate]) ?_
  simp only [Bool.false_eq_true, if_false]
  refine wpS_of_wp (wp_skip ?_)
  cases c₀
  simp_all [bodyPostS, results, Tryd.results41]
/-- So many inputs have been asked. -/
structure AskS (W w : World) (L : Keys) (ov : Value) (l : List ByteArray) : Prop where
  kp : Kp W w (fun _ => False)
  o : w.heap[W.heap.size]? = some (.cells #[ov] 33 (0, 0))
  e : w.heap[W.heap.size + 1]? = some (.cells #[.int .i64 0] 3 (0, 0))
  r : Kd.R PB.k46 46 w (W.heap.size + 2) (fun _ => True) ov (l.map (ans L))
theorem ans_info : (Tryd.prog.info? 46).map (fun i => (i.zero, i.size, i.bytes)) = some (some (.agg #[(.int .i64 0), (.bool false), (.int .i64 0), (.bool false), (.slice none 0 0), (.slice none 0 0)]), 6, 80) := by kernel_rfl
theorem asks_start (W : World) (L : Keys) : AskS W ((W.alloc (.cells #[.slice none 0 0] 33)).alloc (.cells #[.int .i64 0] 3)) L (.slice none 0 0) [] := by
  have e1 : (W.alloc (.cells #[.slice none 0 0] 33)).heap.size = W.heap.size + 1 := Own.size_alloc _ _
  refine ⟨((Kp.self W _).alloc _).alloc _, ?_, ?_, Kd.R_nil _ _ _ _ _⟩
  · exact ((below_alloc (Below.refl _ _) _).block _ (by rw [e1]; omega)).trans (blk_new W _)
  · rw [← e1]; exact blk_new _ _
/-- A cell of a row of texts. -/
theorem str_cell {W : World} {A : Option Addr} {ss : List ByteArray} (h : Kd.C Kd.string W A ss.length ss) (j : Nat) (hj : j < ss.length) : ∃ ad, A = some ad ∧ W.cell? (ad.add j) = some (.string (ss.getD j ByteArray.empty)) := by
  obtain ⟨ad, c, e, _, hK, hc0⟩ := Kd.C_get h ByteArray.empty (j : Int) (by omega) (by omega)
  have hK : c = [.string _] := hK
  subst hK
  have := hc0 0 _ rfl
  rw [Int.toNat_natCast] at this
  have e1 : (Kd.string).sz = 1 := rfl
  rw [e1, Nat.mul_one, Nat.add_zero] at this
  exact ⟨ad, e, this⟩
theorem cell_lt {w : World} {a : Addr} {v : Value} (h : w.cell? a = some v) : a.block < w.heap.size := by
  rcases Nat.lt_or_ge a.block w.heap.size with h1 | h1
  · exact h1
  · unfold World.cell? at h
    rw [Array.getElem?_eq_none h1] at h
    simp at h
theorem AskS.kp_cell {W w : World} {L : Keys} {ov : Value} {l : List ByteArray} (h : AskS W w L ov l) {a : Addr} {v : Value} (hc : W.cell? a = some v) : w.cell? a = some v := by
  rw [← hc]
  exact World.cell?_of_block (w := W) (h.kp.old _ (cell_lt hc) id)
def AskE (W w' : World) (L : Keys) (ss : List ByteArray) (e : Ending) : Prop := ∃ ov, e = .returned (.tuple #[ov, .int .i64 0]) ∧ Kd.R PB.k46 46 w' W.heap.size (fun _ => True) ov (ss.map (ans L)) ∧ Below W.heap.size W w'
theorem ABox.set0 {W : World} {xb : Nat} {c0 c1 c2 c3 c4 cv : Value} (h : ABox W xb c0 c1 c2 c3 c4 cv) (v : Value) : ABox (W.setCell ⟨xb, 0, none⟩ v) xb v c1 c2 c3 c4 cv := (setCell_heap h).trans (by rfl)
theorem ABox.set1 {W : World} {xb : Nat} {c0 c1 c2 c3 c4 cv : Value} (h : ABox W xb c0 c1 c2 c3 c4 cv) (v : Value) : ABox (W.setCell ⟨xb, 1, none⟩ v) xb c0 v c2 c3 c4 cv := (setCell_heap h).trans (by rfl)
theorem ABox.set2 {W : World} {xb : Nat} {c0 c1 c2 c3 c4 cv : Value} (h : ABox W xb c0 c1 c2 c3 c4 cv) (v : Value) : ABox (W.setCell ⟨xb, 2, none⟩ v) xb c0 c1 v c3 c4 cv := (setCell_heap h).trans (by rfl)
theorem ABox.set3 {W : World} {xb : Nat} {c0 c1 c2 c3 c4 cv : Value} (h : ABox W xb c0 c1 c2 c3 c4 cv) (v : Value) : ABox (W.setCell ⟨xb, 3, none⟩ v) xb c0 c1 c2 v c4 cv := (setCell_heap h).trans (by rfl)
theorem ABox.set4 {W : World} {xb : Nat} {c0 c1 c2 c3 c4 cv : Value} (h : ABox W xb c0 c1 c2 c3 c4 cv) (v : Value) : ABox (W.setCell ⟨xb, 4, none⟩ v) xb c0 c1 c2 c3 v cv := (setCell_heap h).trans (by rfl)
theorem ABox.cells {W : World} {xb : Nat} {c0 c1 c2 c3 c4 cv : Value} (h : ABox W xb c0 c1 c2 c3 c4 cv) : W.cell? ⟨xb, 0, none⟩ = some c0 ∧ W.cell? ⟨xb, 1, none⟩ = some c1 ∧ W.cell? ⟨xb, 2, none⟩ = some c2 ∧ W.cell? ⟨xb, 3, none⟩ = some c3 ∧ W.cell? ⟨xb, 4, none⟩ = some c4 ∧ W.cell? ⟨xb, 5, none⟩ = some cv := by
  unfold ABox at h
  unfold World.cell?
  simp [h]
/-- In the middle of an input. -/
structure Mid (W w : World) (L : Keys) (ov : Value) (l : List ByteArray) (xb : Nat) (c0 c1 c2 c3 c4 cv : Value) : Prop where
  kp : Kp W w (fun _ => False)
  o : w.heap[W.heap.size]? = some (.cells #[ov] 33 (0, 0))
  e : w.heap[W.heap.size + 1]? = some (.cells #[.int .i64 0] 3 (0, 0))
  r : Kd.R PB.k46 46 w (W.heap.size + 2) (fun k => k < xb) ov (l.map (ans L))
  bx : ABox w xb c0 c1 c2 c3 c4 cv
  ge : W.heap.size + 2 ≤ xb
section
variable {W w w' : World} {L : Keys} {ov : Value} {l : List ByteArray} {xb : Nat} {c0 c1 c2 c3 c4 cv : Value}
theorem Mid.start (h : AskS W w L ov l) : Mid W (w.alloc (.cells #[.int .i64 0, .bool false, .int .i64 0, .bool false, .slice none 0 0, .slice none 0 0] 46)) L ov l w.heap.size (.int .i64 0) (.bool false) (.int .i64 0) (.bool false) (.slice none 0 0) (.slice none 0 0) := by
  have hb := below_alloc (Below.refl w.heap.size w) (.cells #[.int .i64 0, .bool false, .int .i64 0, .bool false, .slice none 0 0, .slice none 0 0] 46)
  have l1 := (Array.getElem?_eq_some_iff.1 h.e).1
  exact ⟨h.kp.alloc _, (hb.block _ (by omega)).trans h.o, (hb.block _ (by omega)).trans h.e, Kd.R_below (Kd.R_mono (Kd.R_bound h.r) (fun k hk => hk.2.2.1)) hb, blk_new _ _, by omega⟩
theorem Mid.below (h : Mid W w L ov l xb c0 c1 c2 c3 c4 cv) (hb : Below w.heap.size w w') : Mid W w' L ov l xb c0 c1 c2 c3 c4 cv := by
  have l1 := (Array.getElem?_eq_some_iff.1 h.e).1
  exact ⟨h.kp.then hb, (hb.block _ (by omega)).trans h.o, (hb.block _ l1).trans h.e, Kd.R_below h.r hb, h.bx.step (hb.block _ h.bx.lt), h.ge⟩
theorem Mid.drewN (h : Mid W w L ov l xb c0 c1 c2 c3 c4 cv) (q : Nat) : Mid W (w.drewN q) L ov l xb c0 c1 c2 c3 c4 cv := h.below (pw_below_drewN (Below.refl _ _) q)
theorem Mid.put (h : Mid W w L ov l xb c0 c1 c2 c3 c4 cv) {d0 d1 d2 d3 d4 dv : Value} (i : Nat) (v : Value) (hb : ABox (w.setCell ⟨xb, i, none⟩ v) xb d0 d1 d2 d3 d4 dv) : Mid W (w.setCell ⟨xb, i, none⟩ v) L ov l xb d0 d1 d2 d3 d4 dv := by
  have hg := h.ge
  exact ⟨h.kp.setNew _ _ (by show W.heap.size ≤ xb; omega), (Below.heap_setCell _ _ _ _ (by show _ ≠ xb; omega)).trans h.o, (Below.heap_setCell _ _ _ _ (by show _ ≠ xb; omega)).trans h.e, Kd.R_far h.r (fun k hk => by show k ≠ xb; omega) _, hb, h.ge⟩
theorem Mid.set0 (h : Mid W w L ov l xb c0 c1 c2 c3 c4 cv) (v : Value) : Mid W (w.setCell ⟨xb, 0, none⟩ v) L ov l xb v c1 c2 c3 c4 cv := h.put 0 v (h.bx.set0 v)
theorem Mid.set1 (h : Mid W w L ov l xb c0 c1 c2 c3 c4 cv) (v : Value) : Mid W (w.setCell ⟨xb, 1, none⟩ v) L ov l xb c0 v c2 c3 c4 cv := h.put 1 v (h.bx.set1 v)
theorem Mid.set2 (h : Mid W w L ov l xb c0 c1 c2 c3 c4 cv) (v : Value) : Mid W (w.setCell ⟨xb, 2, none⟩ v) L ov l xb c0 c1 v c3 c4 cv := h.put 2 v (h.bx.set2 v)
theorem Mid.set3 (h : Mid W w L ov l xb c0 c1 c2 c3 c4 cv) (v : Value) : Mid W (w.setCell ⟨xb, 3, none⟩ v) L ov l xb c0 c1 c2 v c4 cv := h.put 3 v (h.bx.set3 v)
theorem Mid.set4 (h : Mid W w L ov l xb c0 c1 c2 c3 c4 cv) (v : Value) : Mid W (w.setCell ⟨xb, 4, none⟩ v) L ov l xb c0 c1 c2 c3 v cv := h.put 4 v (h.bx.set4 v)
theorem Mid.arr (h : Mid W w L ov l xb c0 c1 c2 c3 c4 cv) {g : Nat} {s : DA} (a : Arr W g s) : Arr w g s := a.step (h.kp.old g a.lt id)
theorem Mid.cb (h : Mid W w L ov l xb c0 c1 c2 c3 c4 cv) {dv : Value} (k : Kp w w' (fun k => k = xb)) (hb : ABox w' xb c0 c1 c2 c3 c4 dv) : Mid W w' L ov l xb c0 c1 c2 c3 c4 dv := by
  have hg := h.ge
  have l1 := (Array.getElem?_eq_some_iff.1 h.e).1
  exact ⟨(h.kp.trans k).mono (fun i hi hx => by rcases hx with hx | hx; exact hx; omega), (k.old _ (by omega) (by omega)).trans h.o, (k.old _ l1 (by omega)).trans h.e, Kd.R_step h.r (fun i hi hl => k.old i hl (by omega)), hb, h.ge⟩
/-- A row that was made behind the box. -/
theorem row_cb {k : Kd PB.S49} {e base : Nat} {v : Value} {xs : List PB.S49} (h : k.R e w base (fun k => xb < k) v xs) (kk : Kp w w' (fun k => k = xb)) : k.R e w' base (fun k => xb < k) v xs :=
  Kd.R_step h (fun i hi hl => kk.old i hl (by omega))
theorem row_new {k : Kd PB.S49} {e b base : Nat} {v : Value} {xs : List PB.S49} (h : k.R e w b (fun _ => True) v xs) (h1 : xb < b) (h2 : base ≤ b) : k.R e w base (fun k => xb < k) v xs :=
  Kd.R_lower (Kd.R_mono (Kd.R_bound h) (fun i hi => Nat.lt_of_lt_of_le h1 hi.2.1)) h2
/-- The input is done. -/
theorem Mid.done (h : Mid W w L ov l xb c0 c1 c2 c3 c4 cv) {va : Value} {t : ByteArray} (hb : Below (W.heap.size + 2) w w') (hr : Kd.R PB.k46 46 w' (W.heap.size + 2) (fun _ => True) va (l.map (ans L) ++ [ans L t])) : AskS W (w'.setCell ⟨W.heap.size, 0, none⟩ va) L va (l ++ [t]) := by
  have hg := h.ge
  have hk : Kp W w' (fun _ => False) := ⟨Nat.le_trans h.kp.size hb.size, fun i hi hn => (hb.block i (by omega)).trans (h.kp.old i hi hn), h.kp.env.trans ⟨hb.os, hb.tape, hb.output⟩⟩
  refine ⟨hk.setNew _ _ (Nat.le_refl _), ?_, ?_, ?_⟩
  · rw [setCell_heap ((hb.block _ (by omega)).trans h.o)]; rfl
  · exact (Below.heap_setCell _ _ _ _ (by show _ ≠ W.heap.size; omega)).trans ((hb.block _ (by omega)).trans h.e)
  · rw [List.map_append]
    exact Kd.R_mono (Kd.R_far (p := ⟨W.heap.size, 0, none⟩) (Kd.R_mono (Kd.R_bound hr) (ok' := fun k => k ≠ W.heap.size) (fun k hk => by have := hk.2.1; omega)) (fun k hk => hk) _) (fun _ _ => trivial)
theorem Mid.out (h : Mid W w L ov l xb c0 c1 c2 c3 c4 cv) : w.cell? ⟨W.heap.size, 0, none⟩ = some ov ∧ w.frozen? ⟨W.heap.size, 0, none⟩ = false := by
  have := h.o
  constructor
  · unfold World.cell?; simp [this]
  · unfold World.frozen?; simp [this]
theorem Mid.out2 (h : Mid W w L ov l xb c0 c1 c2 c3 c4 cv) (hb : Below (W.heap.size + 2) w w') : w'.cell? ⟨W.heap.size, 0, none⟩ = some ov ∧ w'.frozen? ⟨W.heap.size, 0, none⟩ = false := by
  have := (hb.block W.heap.size (by omega)).trans h.o
  constructor
  · unfold World.cell?; simp [this]
  · unfold World.frozen?; simp [this]
theorem AskS.outs (h : AskS W w L ov l) : w.cell? ⟨W.heap.size, 0, none⟩ = some ov ∧ w.frozen? ⟨W.heap.size, 0, none⟩ = false ∧ w.cell? ⟨W.heap.size + 1, 0, none⟩ = some (.int .i64 0) ∧ w.frozen? ⟨W.heap.size + 1, 0, none⟩ = false := by
  have h1 := h.o
  have h2 := h.e
  unfold World.cell? World.frozen?
  refine ⟨?_, ?_, ?_, ?_⟩
  · simp [h1]
  · simp [h1]
  · simp [h2]
  · simp [h2]
theorem AskS.sl (h : AskS W w L ov l) : ∃ A c, ov = .slice A l.length c := by
  obtain ⟨A, c, e⟩ := Kd.R_slice h.r
  exact ⟨A, c, by rw [e, List.length_map]⟩
theorem kp_below {W w : World} (k : Kp W w (fun _ => False)) : Below W.heap.size W w := ⟨k.env.1, k.env.2.1, k.env.2.2, k.size, fun i hi => k.old i hi id⟩
theorem AskS.fin (h : AskS W w L ov l) : AskE W ((w.setCell ⟨W.heap.size, 0, none⟩ ov).setCell ⟨W.heap.size + 1, 0, none⟩ (.int .i64 0)) L l (.returned (.tuple #[ov, .int .i64 0])) := by
  refine ⟨ov, rfl, ?_, ((kp_below h.kp).setCell (Nat.le_refl _) _).setCell (Nat.le_succ _) _⟩
  have h1 := Kd.R_mono (Kd.R_bound h.r) (ok' := fun k => W.heap.size + 2 ≤ k) (fun k hk => hk.2.1)
  exact Kd.R_mono (Kd.R_lower (Kd.R_far (p := ⟨W.heap.size + 1, 0, none⟩) (Kd.R_far (p := ⟨W.heap.size, 0, none⟩) h1 (fun k hk => by show k ≠ W.heap.size; omega) _) (fun k hk => by show k ≠ W.heap.size + 1; omega) _) (by omega)) (fun _ _ => trivial)
theorem Mid.ne (h : Mid W w L ov l xb c0 c1 c2 c3 c4 cv) {g : Nat} {s : DA} (a : Arr W g s) : g ≠ xb := by have := a.lt; have := h.ge; omega
end
/-- 'hits' lists both. -/
theorem hits_run (H : List (Int × Int)) (hl : H.length ≤ 8796093022207) : ∀ (d j : Nat), j + d = H.length → ∀ k, d < k → PB.impl_hits.l0 k (H.map (·.1)) (H.map (·.2)) ((H.take j).map (fun h => (⟨h.1, h.2⟩ : PB.S49))) (H.length : Int) (j : Int) = some (H.map (fun h => (⟨h.1, h.2⟩ : PB.S49)))
  | 0, j, hj, k, hk => by
    obtain ⟨k, rfl⟩ : ∃ m, k = m + 1 := ⟨k - 1, by omega⟩
    simp only [PB.impl_hits.l0]
    rw [if_neg (by omega), List.take_of_length_le (by omega)]
  | d + 1, j, hj, k, hk => by
    obtain ⟨k, rfl⟩ : ∃ m, k = m + 1 := ⟨k - 1, by omega⟩
    have ih := hits_run H hl d (j + 1) (by omega) k (by omega)
    have hjl : j < H.length := by omega
    simp only [PB.impl_hits.l0]
    rw [if_pos (by omega), if_pos (by omega), if_pos (by simp; omega), if_pos (by simp; omega), if_pos (by simp; omega)]
    have e1 : wrap64 ((j : Int) + 1) = ((j + 1 : Nat) : Int) := by unfold wrap64; omega
    rw [e1, ← ih, List.take_succ_eq_append_getElem hjl, List.map_append]
    have e2 : ∀ f : Int × Int → Int, rd (H.map f) (j : Int) = f H[j] := fun f => by
      unfold rd
      rw [Int.toNat_natCast, List.getD_eq_getElem?_getD, List.getElem?_map, List.getElem?_eq_getElem hjl]; rfl
    rw [e2, e2]; rfl
theorem hits_any (w : World) (H : List (Int × Int)) (ids lens : List Int) (h1 : ids = H.map (·.1)) (h2 : lens = H.map (·.2)) (A1 A2 : Option Addr) (n1 n2 m : Nat) (hm : m ≤ 1000000000) (hl : H.length ≤ m) (l1 : ids.length ≤ n1) (g1 : Kd.C (Kd.int .i64) w A1 ids.length ids) (l2 : lens.length ≤ n2) (g2 : Kd.C (Kd.int .i64) w A2 lens.length lens) :
    Calls Tryd.prog 44 #[.slice A1 ids.length n1, .slice A2 lens.length n2] w fun e w' => ∃ v0_ : Value, e = .returned v0_ ∧ Kd.R PB.k49 49 w' w.heap.size (fun _ => True) v0_ (H.map (fun h => (⟨h.1, h.2⟩ : PB.S49))) ∧ Below w.heap.size w w' := by
  refine PB.impl_hits.calls (H.length + 1) A1 n1 _ A2 n2 _ _ w g1 l1 g2 l2 ?_
  subst h1
  subst h2
  unfold PB.impl_hits.f
  have := hits_run H (by omega) H.length 0 (by omega) (H.length + 1) (by omega)
  simpa using this
theorem cps_any (W : World) (g : Nat) (s : DA) (L : Keys) (t : ByteArray) (M_ : Arr W g s) (G_ : Good s 0 L) (C_ : Cln t) (hsz : t.size ≤ 1000000000) (hn : 0 < s.n) :
    Calls Tryd.prog 45 #[.slice (some ⟨g, 0, none⟩) s.n s.n, .string t] W fun e w' => ∃ (A1 A2 : Option Addr) (n1 n2 : Nat) (ids lens : List Int), e = .returned (.tuple #[.slice A1 ids.length n1, .slice A2 lens.length n2]) ∧ Aside0 (Calls Tryd.prog 44 #[.slice A1 ids.length n1, .slice A2 lens.length n2] w' fun e w2 => ∃ v0_ : Value, e = .returned v0_ ∧ Kd.R PB.k49 49 w2 w'.heap.size (fun _ => True) v0_ (hitsS L (bs t) (bs t).length) ∧ Below w'.heap.size w' w2) ∧ Below W.heap.size W w' := by
  refine (cps_calls W g s L t M_ G_ C_ hsz hn).mono ?_
  rintro e w' ⟨v1, v2, rfl, hr1, hr2, hB⟩
  obtain ⟨A1, n1, rfl, l1, g1⟩ := Kd.R_reads hr1
  obtain ⟨A2, n2, rfl, l2, g2⟩ := Kd.R_reads hr2
  exact ⟨A1, A2, n1, n2, _, _, rfl, ⟨hits_any w' (hitsTo L (bs t) (bs t).length) _ _ rfl rfl A1 A2 n1 n2 (bs t).length (by rw [bs_len]; exact hsz) (hits_len _ _ _) l1 g1 l2 g2⟩, hB⟩
set_option maxHeartbeats 16000000 in
set_option maxRecDepth 100000 in
theorem ask_calls (W : World) (g ci : Nat) (s : DA) (L : Keys) (ss : List ByteArray) (A : Option Addr) (M_ : Arr W g s) (G_ : Good s 0 L) (hn : 0 < s.n) (hC : ∀ t ∈ ss, Cln t ∧ t.size ≤ 1000000000) (hr : Kd.C Kd.string W A ss.length ss) (hfew : ss.length ≤ 1000000) :
    Calls Tryd.prog 26 #[.slice (some ⟨g, 0, none⟩) s.n s.n, .slice A ss.length ci] W fun e w' => AskE W w' L ss e := by
  have hmf : ∀ (fn : Fn) (first cap : Array Value) (w : World), (Instr.makeFunc fn first cap).run Tryd.prog w = .ok (.func fn first cap) w := fun _ _ _ _ => rfl
  have HA0 := Aside0.mk M_
  have G := Aside0.mk G_
  have HC := Aside0.mk hC
  have HR := Aside0.mk hr
  have big := M_.big
  clear M_ G_ hC hr
  go_enter_defers Tryd.func26, Tryd.ntmps26
  go_wp2_with fail
  go_loopg [12] ss.length (fun kq v12 w' => ∃ (j : Nat) (ov : Value), v12 = .int .i64 (j : Int) ∧ Aside0 (j + kq = ss.length) ∧ Aside0 (AskS W w' L ov (ss.take j)))
  case atStart => exact ⟨0, _, rfl, ⟨by omega⟩, ⟨asks_start W L⟩⟩
  case round =>
    obtain ⟨j, ov, rfl, HJ, HS⟩ := hrel
    have hj := HJ.out
    by_cases hjl : j < ss.length
    · have hjz : (j : Int) < (ss.length : Int) := by omega
      obtain ⟨ad, hA, hcell⟩ := str_cell HR.out j hjl
      subst hA
      have hcj : wr.cell? (ad.add j) = some (.string (ss.getD j ByteArray.empty)) := (HS.out.kp_cell hcell)
      have hm : ss.getD j ByteArray.empty ∈ ss := by rw [List.getD_eq_getElem?_getD, List.getElem?_eq_getElem hjl]; exact List.getElem_mem hjl
      obtain ⟨ht1, ht2⟩ := HC.out _ hm
      obtain ⟨t, ht⟩ : ∃ t, ss.getD j ByteArray.empty = t := ⟨_, rfl⟩
      rw [ht] at hcj ht1 ht2
      have HT1 := Aside0.mk ht1
      have HT := Aside0.mk ht
      clear ht1 ht hm hcell
      go_upto_region 6 with fail
      obtain ⟨w1, hw1, hm1⟩ : ∃ w1, w1 = _ ∧ Mid W w1 L ov (ss.take j) wr.heap.size _ _ _ _ _ _ := ⟨_, rfl, Mid.start HS.out⟩
      rw [← hw1]
      have hxb : W.heap.size + 2 ≤ wr.heap.size := hm1.ge
      obtain ⟨xb, hxbe⟩ : ∃ xb, wr.heap.size = xb := ⟨_, rfl⟩
      rw [hxbe] at hm1 hxb ⊢
      have HM := Aside0.mk hm1
      have hF := Aside0.mk (find_calls w1 g s L t (hm1.arr HA0.out) G.out HT1.out ht2 hn)
      have HXB : Aside0 (wr.heap.size = xb) := ⟨hxbe⟩
      clear hw1 hm1 hxbe
      go_upto_region 7 with (go_at_call 42; refine hF.out.mono ?_; rintro e_ w2 ⟨rfl, hB⟩; have hm2 := HM.out.below hB; have HM2 := Aside0.mk hm2; obtain ⟨k0, k1, k2, k3, k4, k5⟩ := hm2.bx.cells; have z0 := hm2.bx.froz 0; have z1 := hm2.bx.froz 1; clear hB hm2)
      obtain ⟨w3, hw3, hm3⟩ : ∃ w3, w3 = ((w2.setCell ⟨xb, 0, none⟩ (.int .i64 (fnd L t).1)).setCell ⟨xb, 1, none⟩ (.bool (fnd L t).2)) ∧ Mid W w3 L ov (ss.take j) xb _ _ _ _ _ _ := ⟨_, rfl, (HM2.out.set0 _).set1 _⟩
      rw [← hw3]
      clear hw3
      have HM3 := Aside0.mk hm3
      have hF := Aside0.mk (prefix_calls w3 g s L t (hm3.arr HA0.out) G.out HT1.out ht2 hn)
      clear HM2 hm3 k0 k1 k2 k3 k4 k5 z0 z1 HM
      go_upto_region 8 with (go_at_call 43; refine hF.out.mono ?_; rintro e_ w4 ⟨rfl, hB⟩; have hm4 := HM3.out.below hB; have HM4 := Aside0.mk hm4; obtain ⟨k0, k1, k2, k3, k4, k5⟩ := hm4.bx.cells; have z2 := hm4.bx.froz 2; have z3 := hm4.bx.froz 3; clear hB hm4)
      obtain ⟨w5, hw5, hm5⟩ : ∃ w5, w5 = ((w4.setCell ⟨xb, 2, none⟩ (.int .i64 (lng L t).1)).setCell ⟨xb, 3, none⟩ (.bool (lng L t).2)) ∧ Mid W w5 L ov (ss.take j) xb _ _ _ _ _ _ := ⟨_, rfl, (HM4.out.set2 _).set3 _⟩
      rw [← hw5]
      clear hw5
      have HM5 := Aside0.mk hm5
      have hF := Aside0.mk (cps_any w5 g s L t (hm5.arr HA0.out) G.out HT1.out ht2 hn)
      clear HM4 hm5 k0 k1 k2 k3 k4 k5 z2 z3 HM3
      go_upto_region 9 with (first | (go_at_call 45; refine hF.out.mono ?_; rintro e_ w6 ⟨A1, A2, n1, n2, ids, lens, rfl, HHit, hB⟩; have hm6 := HM5.out.below hB; have HM6 := Aside0.mk hm6; clear hB hm6) | (go_at_call 44; refine HHit.out.mono ?_; rintro e_ w7 ⟨hv, rfl, hr, hB⟩; have hm7 := HM6.out.below hB; have HM7 := Aside0.mk hm7; obtain ⟨k0, k1, k2, k3, k4, k5⟩ := hm7.bx.cells; have z4 := hm7.bx.froz 4; obtain ⟨Ah, nh, rfl⟩ := Kd.R_slice hr; have HRH := Aside0.mk hr; have hsz6 := hm7.bx.lt; have HSZ := Aside0.mk (HM6.out.bx.lt); clear hr hB hm7 hsz6))
      have hrh : Kd.R PB.k49 49 w7 (W.heap.size + 2) (fun k => xb < k) (Value.slice Ah (hitsS L (bs t) (bs t).length).length nh) (hitsS L (bs t) (bs t).length) := row_new HRH.out HSZ.out (by have := HSZ.out; omega)
      obtain ⟨w8, hw8, hm8, hr8⟩ : ∃ w8, w8 = w7.setCell ⟨xb, 4, none⟩ (Value.slice Ah (hitsS L (bs t) (bs t).length).length nh) ∧ Mid W w8 L ov (ss.take j) xb _ _ _ _ _ _ ∧ Kd.R PB.k49 49 w8 (W.heap.size + 2) (fun k => xb < k) (Value.slice Ah (hitsS L (bs t) (bs t).length).length nh) (hitsS L (bs t) (bs t).length) := ⟨_, rfl, HM7.out.set4 _, Kd.R_far (p := ⟨xb, 4, none⟩) hrh (fun k hk => by show k ≠ xb; omega) _⟩
      rw [← hw8]
      clear hw8
      have HM8 := Aside0.mk hm8
      have HR8 := Aside0.mk hr8
      have hl8 := hm8.bx.lt
      have HL8 := Aside0.mk hl8
      have hF := Aside0.mk (cb_calls w8 g xb s L t _ _ _ _ _ (hm8.arr HA0.out) G.out HT1.out ht2 hn hm8.bx (hm8.ne HA0.out))
      clear HM5 HM6 HM7 HRH hm8 hr8 hrh hl8 k0 k1 k2 k3 k4 k5 z4 HHit
      go_upto_region 10 with (go_at_call 46; refine hF.out.mono ?_; rintro e_ w9 ⟨rfl, hC9⟩; have HC9 := Aside0.mk hC9; clear hC9)
      obtain ⟨cv, g1, g2, g3⟩ := HC9.out
      have hm9 := HM8.out.cb g3 g1
      have HM9 := Aside0.mk hm9
      have HR9 := Aside0.mk (row_cb HR8.out g3)
      have HV9 := Aside0.mk (row_new g2 HL8.out (show W.heap.size + 2 ≤ w8.heap.size by have := HL8.out; omega))
      obtain ⟨k0, k1, k2, k3, k4, k5⟩ := hm9.bx.cells
      have ko := hm9.out.1
      have zo := hm9.out.2
      have hlt9 := hm9.bx.lt
      have hsz9 : W.heap.size + 2 ≤ w9.heap.size := by omega
      obtain ⟨Ac, nc, rfl⟩ := Kd.R_slice HV9.out
      have hOK : ∀ k, (xb < k) → True ∧ some k ≠ ov.ownBlock := fun k hk => ⟨trivial, fun e => by have := hm9.r.1 k e.symm; omega⟩
      have HOK := Aside0.mk hOK
      have hl34 : ((ss.take j).map (ans L)).length ≤ 1000000 := by simp; omega
      clear HC9 g1 g2 g3 hm9 HM8 HR8 HL8 HSZ hlt9 hOK
      cases gk with
      | zero => omega
      | succ kz =>
      go_wp2_with (first | ((with_reducible refine gate_builtin (b := .append) (xs := #[.tmp 47, .tmp 49]) rfl ?_); at_builtin; refine Kd.R_append PB.k46 (w0 := w9) (W.heap.size + 2) rfl (.tmp 47) (.tmp 49) 33 46 (.agg #[(.int .i64 0), (.bool false), (.int .i64 0), (.bool false), (.slice none 0 0), (.slice none 0 0)]) 80 rfl Tryd.underlying33 ans_info rfl (by decide) (by omega) _ _ (ans L t) [.int .i64 (ans L t).f0.f0, .bool (ans L t).f0.f1, .int .i64 (ans L t).f1.f0, .bool (ans L t).f1.f1, _, _] (fun _ => True) (fun k => xb < k) rfl rfl (PB.k46_mkM _ _ _ _ HR9.out HV9.out) HOK.out (fun _ _ => trivial) (Kd.R_mono HM9.out.r (fun _ _ => trivial)) (Below.refl _ _) hsz9 (by omega) ?_; intro va wa ho hb hg hat; obtain ⟨k9, z9⟩ := HM9.out.out2 hb; have HD := Aside0.mk (HM9.out.done hb ho); obtain ⟨Aa, na, rfl⟩ := Kd.R_slice ho; clear ho hb hg hat ko zo) | fail)
      go_roundg kz
      case measure => omega
      case rel => exact ⟨j + 1, _, congrArg (Value.int .i64) (by omega), ⟨by omega⟩, ⟨by rw [List.take_succ_eq_append_getElem hjl, show ss[j] = t by rw [← HT.out, List.getD_eq_getElem?_getD, List.getElem?_eq_getElem hjl]; rfl]; have h9 := HD.out; simp only [List.length_append, List.length_map, List.length_take, List.length_cons, List.length_nil, Nat.zero_add] at h9; exact h9⟩⟩
    · have hjz : ¬ (j : Int) < (ss.length : Int) := by omega
      have hjj : j = ss.length := by omega
      subst hjj
      have hs := HS.out
      rw [List.take_length] at hs
      obtain ⟨Ao, no, rfl⟩ := hs.sl
      have HSF := Aside0.mk hs
      obtain ⟨q1, q2, q3, q4⟩ := hs.outs
      clear hs HS
      go_wp2_with fail
      refine leaves_cons (f := 41) (args := #[.pointer (some ⟨W.heap.size, 0, none⟩), .pointer (some ⟨W.heap.size + 1, 0, none⟩)]) (by simp) (by simp [go_sem]) ?_
      refine (ask1_idle _ _ _).mono ?_
      rintro e u' w'' ⟨rfl, rfl, rfl⟩
      simp [Leaves, settle, results, Tryd.results26, go_sem, q1, q2, q3, q4]
      exact HSF.out.fin
end Go.Proofs.YtaejkbjepbifcabDoor.Da
namespace Go.Proofs.YtaejkbjepbifcabDoor.Da
open Go.RowKit Go.Maps Go.ChangeShapes Go.Proofs.YtaejkbjepbifcabDoorW.PrintWords
set_option linter.unusedVariables false
set_option linter.unusedSimpArgs false
/-- What BuildWithIDs hands back. -/
def BldE (W W' : World) (S : Nat → Prop) (L : Keys) (e : Ending) : Prop := ∃ g s, e = .returned (.tuple #[.slice (some ⟨g, 0, none⟩) s.n s.n, .nilIface]) ∧ Arr W' g s ∧ Good s 0 L ∧ 0 < s.n ∧ W.heap.size ≤ g ∧ Kp W W' S
theorem bld_end {W w w' : World} {x g g' : Nat} {s' : DA} {L : Keys} {S : Nat → Prop} (hk : Kp W w S) (hx : W.heap.size ≤ x) (hg : W.heap.size ≤ g) (h : BldP w w' x g L g' s') : BldE W w' S L (.returned (.tuple #[.slice (some ⟨g', 0, none⟩) s'.n s'.n, .nilIface])) := by
  obtain ⟨h1, h2, h3, h4, h5⟩ := h
  have := hk.size
  exact ⟨g', s', rfl, h1, h2, h3, by omega, (hk.trans h5).mono (fun i hi h => by rcases h with h | h | h; exact h; omega; omega)⟩
set_option maxHeartbeats 16000000 in
set_option maxRecDepth 100000 in
theorem build_sorted (W : World) (kb ko ib io Nc Dc k : Nat) (ss : List ByteArray) (ds : List Int) (HSRC : Src W kb ko ss ib io ds) (hr : Kd.C Kd.string W (some ⟨kb, ko, none⟩) ss.length ss) (hc : ss.length ≤ Nc) (hs : PB.slices_IsSorted_string_string.f k ss = some true) (hne : ss ≠ []) (hok : Okk (keysAll ss ds)) (has : Asc (keysAll ss ds)) (ht : tot (keysAll ss ds) ≤ 32000) :
    Calls Tryd.prog 17 #[.slice (some ⟨kb, ko, none⟩) ss.length Nc, .slice (some ⟨ib, io, none⟩) ds.length Dc] W fun e w' => BldE W w' (fun _ => False) (keysAll ss ds) e := by
  have HS0 := Aside0.mk HSRC
  have HR := Aside0.mk hr
  have HIS := Aside0.mk hs
  have HNE := Aside0.mk hne
  have HOK := Aside0.mk hok
  have HAS := Aside0.mk has
  have HT := Aside0.mk ht
  have hlen := HSRC.len
  have hpos : 0 < ss.length := List.length_pos_iff.2 hne
  have hl0 : ((ss.length : Int) == 0) = false := by rw [beq_eq_false_iff_ne]; omega
  have hl1 : ((ss.length : Int) != (ss.length : Int)) = false := by simp
  have hfew := HSRC.few
  have HLE := Aside0.mk hlen
  rw [hlen]
  clear HSRC hr hs hne hok has ht hlen
  go_enter Tryd.func17, Tryd.ntmps17
  refine wp_seq_k fun K hK_ => ?_
  have hK := Aside0.mk hK_
  clear hK_
  go_wp2_with fail
  refine hK.out _ _ ?_
  clear hK K
  refine wp_seq_k fun K hK_ => ?_
  have hK := Aside0.mk hK_
  clear hK_
  go_wp2_with fail
  refine hK.out _ _ ?_
  clear hK K
  have hz1 : (W.alloc (.cells #[] 82)).heap.size = W.heap.size + 1 := Own.size_alloc _ _
  obtain ⟨w1, hw1, hbx, hk1⟩ : ∃ w1, w1 = (W.alloc (.cells #[] 82)).alloc (.cells #[.slice (some ⟨W.heap.size, 0, none⟩) 0 0] 51) ∧ w1.heap[W.heap.size + 1]? = some (.cells #[.slice (some ⟨W.heap.size, 0, none⟩) 0 0] 51 (0, 0)) ∧ Kp W w1 (fun _ => False) := ⟨_, rfl, by rw [← hz1]; exact blk_new _ _, ((Kp.self W _).alloc _).alloc _⟩
  rw [← hw1]
  obtain ⟨x, hx⟩ : ∃ x, W.heap.size + 1 = x := ⟨_, rfl⟩
  rw [hx] at hbx ⊢
  have HX := Aside0.mk hx
  have HI := Aside0.mk (init_calls w1 x _ hbx)
  have HK1 := Aside0.mk hk1
  clear hw1 hbx hk1 hz1 hx
  refine wp_seq_k fun K hK_ => ?_
  have hK := Aside0.mk hK_
  clear hK_
  go_wp2_with (first | (go_at_call 29; refine HI.out.mono ?_; rintro e_ w2 ⟨rfl, g, hg, hM, hK⟩; have HM := Aside0.mk hM; have HG := Aside0.mk hg; have HK2 : Aside0 (Kp W w2 (fun _ => False)) := ⟨(HK1.out.trans hK).mono (fun i hi h => by have := HX.out; rcases h with h | h; exact h; omega)⟩; have HIS2 := Aside0.mk (PB.slices_IsSorted_string_string.calls k _ Nc ss true w2 (Kd.C_below HR.out (kp_below HK2.out)) hc HIS.out); clear hM hg hK) | (go_at_call 31; refine HIS2.out.mono ?_; rintro e_ w3 ⟨rfl, ⟨q3, rfl⟩⟩))
  refine hK.out _ _ ?_
  clear hK K
  refine wp_seq_k fun K hK_ => ?_
  have hK := Aside0.mk hK_
  clear hK_
  go_wp2_with fail
  refine hK.out _ _ ?_
  clear hK K
  refine wp_seq_k fun K hK_ => ?_
  have hK := Aside0.mk hK_
  clear hK_
  go_wp2_with fail
  refine hK.out _ _ ?_
  clear hK K
  refine wp_seq_k fun K hK_ => ?_
  have hK := Aside0.mk hK_
  clear hK_
  go_wp2_with (first | (go_at_call 29; refine HI.out.mono ?_; rintro e_ w2 ⟨rfl, g, hg, hM, hK⟩; have HM := Aside0.mk hM; have HG := Aside0.mk hg; have HK2 : Aside0 (Kp W w2 (fun _ => False)) := ⟨(HK1.out.trans hK).mono (fun i hi h => by have := HX.out; rcases h with h | h; exact h; omega)⟩; have HIS2 := Aside0.mk (PB.slices_IsSorted_string_string.calls k _ Nc ss true w2 (Kd.C_below HR.out (kp_below HK2.out)) hc HIS.out); clear hM hg hK) | (go_at_call 31; refine HIS2.out.mono ?_; rintro e_ w3 ⟨rfl, ⟨q3, rfl⟩⟩))
  refine hK.out _ _ ?_
  clear hK K
  have hm3 := HM.out.drewN q3
  have hk3 := HK2.out.drewN q3
  have hs3 := HS0.out.step hk3 id id
  have hg3 : W.heap.size ≤ g := by have := HK1.out.size; have := HG.out; omega
  have hap : kb ≠ x ∧ kb ≠ g ∧ ib ≠ x ∧ ib ≠ g := by
    have := HS0.out.kl
    have := HS0.out.il
    have := HX.out
    omega
  have HM3 := Aside0.mk hm3
  have HK3 := Aside0.mk hk3
  have HS3 := Aside0.mk hs3
  have HG3 := Aside0.mk hg3
  have HAP := Aside0.mk hap
  clear hm3 hk3 hs3 hg3 hap HM HK2 HIS2 HI HK1
  refine bld_tail _ x g kb ko ib io Nc Dc ss ds HM3 HS3 HNE HOK HAS HT HAP ⟨?_⟩
  intro n12 n13 n62 n63 n64 n65 n66 n67 n68 n69 n70 n71 n72 n73 n74 n75 n76 n77 n78 n79 n80 g' s' w' HB
  (try simp only [Exit.then, Exit.jump])
  exact bodyPost_ret (v := .tuple #[.slice (some ⟨g', 0, none⟩) s'.n s'.n, .nilIface]) (by simp [results, Tryd.results17, go_sem]) rfl (bld_end HK3.out (by have := HX.out; omega) HG3.out HB.out)
end Go.Proofs.YtaejkbjepbifcabDoor.Da
namespace Go.Proofs.YtaejkbjepbifcabDoor.Da
open Go.RowKit Go.Proofs.YtaejkbjepbifcabDoorW.PrintWords
set_option linter.unusedVariables false
set_option linter.unusedSimpArgs false
/-- A row of one-cell elements of the call's own, that is not empty, stands at the head of a block. -/
theorem own_head {α : Type} {d : Kd α} {e : Nat} {w : World} {base : Nat} {ok : Nat → Prop} {v : Value} {xs : List α} (h : Kd.R d e w base ok v xs) (hne : xs ≠ []) : ∃ g c, v = .slice (some ⟨g, 0, none⟩) xs.length c ∧ base ≤ g ∧ g < w.heap.size ∧ xs.length ≤ c ∧ Kd.C d w (some ⟨g, 0, none⟩) xs.length xs := by
  obtain ⟨inner, ho⟩ := Kd.R_own h
  have hp : 0 < xs.length := List.length_pos_iff.2 hne
  rcases ho.2 with ⟨_, h0⟩ | ⟨g, cap, cur, rfl, h2, h3, h4, h5, h6, h7⟩
  · omega
  · obtain ⟨A, c, e1, l1, g1⟩ := Kd.R_reads h
    injection e1 with e1 e2 e3
    subst e1
    subst e3
    exact ⟨g, _, rfl, h2, (Array.getElem?_eq_some_iff.1 h3).1, l1, g1⟩
theorem add_at0 (g j : Nat) : (⟨g, 0, none⟩ : Addr).add j = ⟨g, 0 + j, none⟩ := by unfold Addr.add; split <;> simp_all
theorem int_cell {W : World} {A : Option Addr} {ds : List Int} (h : Kd.C (Kd.int .i64) W A ds.length ds) (j : Nat) (hj : j < ds.length) : ∃ ad, A = some ad ∧ W.cell? (ad.add j) = some (.int .i64 (ds.getD j 0)) := by
  obtain ⟨ad, c, e, _, hK, hc0⟩ := Kd.C_get h 0 (j : Int) (by omega) (by omega)
  have hK : c = [.int .i64 _] := hK
  subst hK
  have := hc0 0 _ rfl
  rw [Int.toNat_natCast] at this
  have e1 : (Kd.int .i64).sz = 1 := rfl
  rw [e1, Nat.mul_one, Nat.add_zero] at this
  exact ⟨ad, e, this⟩
/-- What is asked of keys and identifiers. -/
structure KeysOk (ss : List ByteArray) (ds : List Int) : Prop where
  ne : ss ≠ []
  len : ds.length = ss.length
  few : ss.length ≤ 1000000
  sz : ∀ t ∈ ss, t.size ≤ 1000000000
  dsb : ∀ d ∈ ds, 0 ≤ d ∧ d ≤ 2147483647
  ok : Okk (keysAll ss ds)
  asc : Asc (keysAll ss ds)
  tot : tot (keysAll ss ds) ≤ 32000
theorem src_of {W : World} {kb ib : Nat} {ss : List ByteArray} {ds : List Int} (k : KeysOk ss ds) (h1 : Kd.C Kd.string W (some ⟨kb, 0, none⟩) ss.length ss) (h2 : Kd.C (Kd.int .i64) W (some ⟨ib, 0, none⟩) ds.length ds) (hk : kb < W.heap.size) (hi : ib < W.heap.size) : Src W kb 0 ss ib 0 ds :=
  ⟨fun j hj => by
    obtain ⟨ad, e, h⟩ := str_cell h1 j hj
    cases e
    rw [add_at0] at h
    exact h, fun j hj => by
    obtain ⟨ad, e, h⟩ := int_cell h2 j hj
    cases e
    rw [add_at0] at h
    exact h, hk, hi, k.len, k.few, k.sz, k.dsb⟩
theorem clone_strs (ss : List ByteArray) (h : ss.length ≤ 1000000) : PB.slices_Clone_string_string.f ss = some ss := by
  unfold PB.slices_Clone_string_string.f
  simp only [Option.bind_some, List.nil_append, List.length_nil, Nat.zero_add]
  rw [if_pos (by omega)]
theorem clone_ints (ds : List Int) (h : ds.length ≤ 1000000) : PB.slices_Clone_int_int.f ds = some ds := by
  unfold PB.slices_Clone_int_int.f
  simp only [Option.bind_some, List.nil_append, List.length_nil, Nat.zero_add]
  rw [if_pos (by omega)]
/-- What is asked of texts. -/
def InsOk (l : List ByteArray) : Prop := l.length ≤ 1000000 ∧ ∀ t ∈ l, Cln t ∧ t.size ≤ 1000000000
set_option maxHeartbeats 16000000 in
set_option maxRecDepth 100000 in
theorem trie_calls (W : World) (A0 A1 A2 : Option Addr) (c0 c1 c2 k : Nat) (ss ts : List ByteArray) (ds : List Int) (hr0 : Kd.C Kd.string W A0 ss.length ss) (hc0 : ss.length ≤ c0) (hr1 : Kd.C (Kd.int .i64) W A1 ds.length ds) (hc1 : ds.length ≤ c1) (hr2 : Kd.C Kd.string W A2 ts.length ts) (hs : PB.slices_IsSorted_string_string.f k ss = some true) (K : KeysOk ss ds) (hI : InsOk ts) :
    Calls Tryd.prog 13 #[.slice A0 ss.length c0, .slice A1 ds.length c1, .slice A2 ts.length c2] W fun e w' => AskE W w' (keysAll ss ds) ts e := by
  have HR2 := Aside0.mk hr2
  have HR1 := Aside0.mk hr1
  have HC1 := Aside0.mk hc1
  have HK := Aside0.mk K
  have HI := Aside0.mk hI
  have HS := Aside0.mk hs
  have h1 := Aside0.mk (PB.slices_Clone_string_string.calls A0 c0 ss ss W hr0 hc0 (clone_strs ss K.few))
  clear hr0 hr1 hr2 hc1 hs K hI
  go_enter Tryd.func13, Tryd.ntmps13
  go_wp2_with (first | (go_at_call 18; refine h1.out.mono ?_; rintro e_ w1 ⟨v1, rfl, hv, hB⟩; have HB1 := Aside0.mk hB; have HV1 := Aside0.mk hv; have h2 := Aside0.mk (PB.slices_Clone_int_int.calls A1 c1 ds ds w1 (Kd.C_below HR1.out hB) HC1.out (clone_ints ds (by rw [HK.out.len]; exact HK.out.few))); obtain ⟨kb, kc, rfl, b1, b2, b3, b4⟩ := own_head hv HK.out.ne; have HKB := Aside0.mk b4; clear hB hv b4) | (go_at_call 19; refine h2.out.mono ?_; rintro e_ w2 ⟨v2, rfl, hv, hB⟩; have HB2 := Aside0.mk hB; have HV2 := Aside0.mk hv; obtain ⟨ib, ic, rfl, d1, d2, d3, d4⟩ := own_head hv (fun e => HK.out.ne (List.length_eq_zero_iff.1 (by rw [← HK.out.len, e]; rfl))); have HIB := Aside0.mk d4; have hkb2 := Kd.C_below HKB.out hB; have h3 := Aside0.mk (build_sorted w2 kb 0 ib 0 kc ic k ss ds (src_of HK.out hkb2 d4 (by have := hB.size; omega) d2) hkb2 b3 HS.out HK.out.ne HK.out.ok HK.out.asc HK.out.tot); clear hB hv d4 hkb2) | (go_at_call 17; refine h3.out.mono ?_; rintro e_ w3 ⟨g, s, rfl, hA, hG, hn, hg, hK⟩; have HA := Aside0.mk hA; have HG := Aside0.mk hG; have HB3 := Aside0.mk (kp_below hK); have h4 := Aside0.mk (ask_calls w3 g c2 s (keysAll ss ds) ts A2 hA hG hn HI.out.2 (Kd.C_below (Kd.C_below (Kd.C_below HR2.out HB1.out) HB2.out) HB3.out) HI.out.1); clear hA hG hK) | (go_at_call 26; refine h4.out.mono ?_; rintro e_ w4 ⟨ov, rfl, hR, hB⟩; have HR4 := Aside0.mk hR; have HB4 := Aside0.mk hB; clear hR hB))
  have hz1 := HB1.out.size
  have hz2 := HB2.out.size
  have hz3 := HB3.out.size
  refine bodyPost_ret (v := .tuple #[ov, .int .i64 0]) (by simp [results, Tryd.results13, go_sem]) rfl ⟨ov, rfl, Kd.R_lower HR4.out (by omega), below_step (below_step (below_step HB1.out HB2.out) HB3.out) HB4.out⟩
end Go.Proofs.YtaejkbjepbifcabDoor.Da
namespace Go.Proofs.YtaejkbjepbifcabDoor.Da
open Go.RowKit Go.Proofs.YtaejkbjepbifcabDoorW.PrintWords Go.Proofs.YtaejkbjepbifcabDoor.Plain
set_option linter.unusedVariables false
set_option linter.unusedSimpArgs false
/-- Some answer, and what follows when it is yes. -/
def Tru (g : Nat → Option Bool) (P : Prop) : Prop := ∃ r, Ev g r ∧ (r = true → P)
theorem wrap_up (i : Nat) (h : i ≤ 4611686018427387904) : wrap64 ((i : Int) + 1) = ((i + 1 : Nat) : Int) := by unfold wrap64; omega
theorem wrap_dn (i : Nat) (h0 : 1 ≤ i) (h : i ≤ 4611686018427387904) : wrap64 ((i : Int) - 1) = ((i - 1 : Nat) : Int) := by unfold wrap64; omega
theorem rdOf_nat {α : Type} (d : α) (l : List α) (i : Nat) : rdOf d l (i : Int) = l.getD i d := by unfold rdOf; rw [Int.toNat_natCast]
/-- Sizes that fit. -/
def Fits (l : List ByteArray) : Prop := l.length ≤ 2147483647 ∧ ∀ t ∈ l, t.size ≤ 2147483647
theorem getD_mem {α : Type} {l : List α} {i : Nat} (d : α) (h : i < l.length) : l.getD i d ∈ l := by
  rw [List.getD_eq_getElem?_getD, List.getElem?_eq_getElem h]; exact List.getElem_mem h
theorem all_getD {α : Type} {l : List α} (d : α) {P : α → Prop} (h : ∀ j, j < l.length → P (l.getD j d)) : ∀ x ∈ l, P x := by
  intro x hx
  obtain ⟨j, hj, rfl⟩ := List.getElem_of_mem hx
  have := h j hj
  rw [List.getD_eq_getElem?_getD, List.getElem?_eq_getElem hj] at this
  exact this
theorem zf_key (l : List ByteArray) (hl : l.length ≤ 4611686018427387904) : ∀ d i, i + d = l.length → ∃ r, Ev (fun k => PB.laws_zzFits3.l0 k l (l.length : Int) (i : Int)) r ∧ (r = true → ∀ j, i ≤ j → j < l.length → (l.getD j ByteArray.empty).size ≤ 2147483647)
  | 0, i, h => ⟨true, Ev.step (fun k => by rw [PB.laws_zzFits3.l0]) (evn (by omega) (Ev.now true)), fun _ j h1 h2 => by omega⟩
  | d + 1, i, h => by
    obtain ⟨r, hr, hp⟩ := zf_key l hl d (i + 1) (by omega)
    by_cases hs : ((l.getD i ByteArray.empty).size : Int) > 2147483647
    · exact ⟨false, Ev.step (fun k => by rw [PB.laws_zzFits3.l0]) (evp (by omega) (evp (by omega) (evp (by omega) (evp (by rw [rdOf_nat]; exact hs) (Ev.now false))))), fun h => by cases h⟩
    · refine ⟨r, Ev.step (fun k => by rw [PB.laws_zzFits3.l0]) (evp (by omega) (evp (by omega) (evp (by omega) (evn (by rw [rdOf_nat]; exact hs) (by rw [wrap_up i (by omega)]; exact hr))))), fun h j h1 h2 => ?_⟩
      by_cases e : j = i
      · subst e; omega
      · exact hp h j (by omega) h2
theorem zf_ev (l : List ByteArray) (hl : l.length ≤ 4611686018427387904) : Tru (fun k => PB.laws_zzFits3.f k l) (Fits l) := by
  unfold PB.laws_zzFits3.f
  by_cases h : (l.length : Int) > 2147483647
  · exact ⟨false, evp h (Ev.now false), fun h => by cases h⟩
  · obtain ⟨r, hr, hp⟩ := zf_key l hl l.length 0 (by omega)
    exact ⟨r, evn h hr, fun e => ⟨by omega, all_getD _ (fun j hj => hp e j (Nat.zero_le _) hj)⟩⟩
/-- The texts' bytes, each with one more. -/
def wt (l : List ByteArray) : Nat := (l.map (fun t => t.size + 1)).sum
theorem wt_drop {l : List ByteArray} {j : Nat} (h : j < l.length) : wt (l.drop j) = (l.getD j ByteArray.empty).size + 1 + wt (l.drop (j + 1)) := by
  rw [List.drop_eq_getElem_cons h, List.getD_eq_getElem?_getD, List.getElem?_eq_getElem h]
  unfold wt
  rw [List.map_cons, List.sum_cons]
  rfl
theorem wt_le {l : List ByteArray} (h : Fits l) (j : Nat) : wt (l.drop j) ≤ 2147483648 * 2147483647 := by
  have key : ∀ m : List ByteArray, (∀ t ∈ m, t.size ≤ 2147483647) → wt m ≤ 2147483648 * m.length := by
    intro m
    induction m with
    | nil => intro _; simp [wt]
    | cons t m ih =>
      intro hm
      have h1 := hm t List.mem_cons_self
      have h2 := ih (fun x hx => hm x (List.mem_cons_of_mem _ hx))
      simp only [wt, List.map_cons, List.sum_cons, List.length_cons] at h2 ⊢
      omega
  have h1 := key (l.drop j) (fun t ht => h.2 t (List.mem_of_mem_drop ht))
  have h2 := h.1
  rw [List.length_drop] at h1
  have : 2147483648 * (l.length - j) ≤ 2147483648 * 2147483647 := Nat.mul_le_mul_left _ (by omega)
  omega
theorem few_in (ls : List (List ByteArray)) (i : Nat) (hi : i < ls.length) (hf : Fits (ls.getD i [])) (r : Bool) (hls : ls.length ≤ 4) : ∀ d j n, j + d = (ls.getD i []).length → n + wt ((ls.getD i []).drop j) ≤ 9223372036854775807 →
    Ev (fun k => PB.laws_few.l0 k ls ((n + wt ((ls.getD i []).drop j) : Nat) : Int) (ls.length : Int) ((i + 1 : Nat) : Int)) r → Ev (fun k => PB.laws_few.l1 k ls (n : Int) (i : Int) (ls.length : Int) (i : Int) ((PB.rd_L1 ls (i : Int)).length : Int) (j : Int)) r
  | 0, j, n, h, hn, hr => by
    have e : PB.rd_L1 ls (i : Int) = ls.getD i [] := by unfold PB.rd_L1; rw [Int.toNat_natCast]
    refine Ev.step (fun k => by rw [PB.laws_few.l1]) (evn (by rw [e]; omega) ?_)
    rw [wrap_up i (by omega)]
    rw [List.drop_eq_nil_of_le (by omega)] at hr
    exact hr
  | d + 1, j, n, h, hn, hr => by
    have e : PB.rd_L1 ls (i : Int) = ls.getD i [] := by unfold PB.rd_L1; rw [Int.toNat_natCast]
    have hj : j < (ls.getD i []).length := by omega
    have hsz := hf.2 _ (getD_mem ByteArray.empty hj)
    have hl := hf.1
    have hw := wt_drop hj
    have ih := few_in ls i hi hf r hls d (j + 1) (n + (((ls.getD i []).getD j ByteArray.empty).size + 1)) (by omega) (by omega) (by rw [hw] at hr; rw [show n + (((ls.getD i []).getD j ByteArray.empty).size + 1) + wt ((ls.getD i []).drop (j + 1)) = n + (((ls.getD i []).getD j ByteArray.empty).size + 1 + wt ((ls.getD i []).drop (j + 1))) by omega]; exact hr)
    refine Ev.step (fun k => by rw [PB.laws_few.l1]) (evp (by rw [e]; omega) (evp (by omega) (evp (by omega) (evp (by omega) (evp (by rw [e]; omega) ?_)))))
    have e1 : wrap64 ((n : Int) + wrap64 (((rdOf ByteArray.empty (PB.rd_L1 ls (i : Int)) (j : Int)).size : Int) + 1)) = ((n + (((ls.getD i []).getD j ByteArray.empty).size + 1) : Nat) : Int) := by
      rw [e, rdOf_nat, wrap_ok (i := (((ls.getD i []).getD j ByteArray.empty).size : Int) + 1) (by omega) (by omega), wrap_ok (by omega) (by omega)]
      omega
    rw [e1, wrap_up j (by omega)]
    exact ih
def wts (ls : List (List ByteArray)) : Nat := (ls.map wt).sum
theorem few_key (ls : List (List ByteArray)) (hf : ∀ l ∈ ls, Fits l) (hls : ls.length ≤ 4) : ∀ d i n, i + d = ls.length → n + wts (ls.drop i) ≤ 9223372036854775807 →
    Ev (fun k => PB.laws_few.l0 k ls (n : Int) (ls.length : Int) (i : Int)) (decide (n + wts (ls.drop i) ≤ 4000))
  | 0, i, n, h, hn => by
    rw [List.drop_eq_nil_of_le (by omega)]
    refine Ev.step (fun k => by rw [PB.laws_few.l0]) (evn (by omega) ?_)
    have : decide ((n : Int) ≤ 4000) = decide (n + wts [] ≤ 4000) := by
      simp only [wts, List.map_nil, List.sum_nil, Nat.add_zero]
      apply decide_eq_decide.2
      omega
    rw [this]
    exact Ev.now _
  | d + 1, i, n, h, hn => by
    have hi : i < ls.length := by omega
    have e : wts (ls.drop i) = wt (ls.getD i []) + wts (ls.drop (i + 1)) := by
      rw [List.drop_eq_getElem_cons hi, List.getD_eq_getElem?_getD, List.getElem?_eq_getElem hi]
      unfold wts
      rw [List.map_cons, List.sum_cons]
      rfl
    have ih := few_key ls hf hls d (i + 1) (n + wt (ls.getD i [])) (by omega) (by omega)
    have hin := few_in ls i hi (hf _ (getD_mem [] hi)) _ hls (ls.getD i []).length 0 n (by omega) (by rw [List.drop_zero]; omega) (by rw [List.drop_zero]; exact ih)
    rw [e, ← Nat.add_assoc]
    rw [show ((0 : Nat) : Int) = 0 from rfl] at hin
    exact Ev.step (fun k => by rw [PB.laws_few.l0]) (evp (by omega) (evp (by omega) (evp (by omega) hin)))
theorem wt_fits {l : List ByteArray} (h : Fits l) : wt l ≤ 4611686016279904256 := by have := wt_le h 0; rw [List.drop_zero] at this; omega
theorem few_ev2 (a b : List ByteArray) (ha : Fits a) (hb : Fits b) : Ev (fun k => PB.laws_few.f k [a, b]) (decide (wt a + wt b ≤ 4000)) := by
  have h1 := wt_fits ha
  have h2 := wt_fits hb
  have := few_key [a, b] (by intro l hl; simp at hl; rcases hl with rfl | rfl <;> assumption) (by simp) 2 0 0 rfl (by simp [wts]; omega)
  simpa [wts, PB.laws_few.f] using this
theorem few_ev1 (a : List ByteArray) (ha : Fits a) : Ev (fun k => PB.laws_few.f k [a]) (decide (wt a ≤ 4000)) := by
  have h1 := wt_fits ha
  have := few_key [a] (by intro l hl; simp at hl; subst hl; exact ha) (by simp) 1 0 0 rfl (by simp [wts]; omega)
  simpa [wts, PB.laws_few.f] using this
theorem bt_nat (t : ByteArray) (i : Nat) (h : i < t.size) : bt t (i : Int) = (bs t).getD i 0 := by
  rw [bs_at t i h]
  unfold bt
  rw [dif_pos (by simpa using h)]
  simp
theorem within_key (t : ByteArray) (ht : t.size ≤ 4611686018427387904) : ∀ d i, i + d = t.size → ∃ r, Ev (fun k => PB.laws_within.l0 k t 0 (t.size : Int) (i : Int)) r ∧ (r = false → ∀ j, i ≤ j → j < t.size → (bs t).getD j 0 ≠ 0)
  | 0, i, h => ⟨false, Ev.step (fun k => by rw [PB.laws_within.l0]) (evn (by omega) (Ev.now false)), fun _ j h1 h2 => by omega⟩
  | d + 1, i, h => by
    obtain ⟨r, hr, hp⟩ := within_key t ht d (i + 1) (by omega)
    by_cases hs : bt t (i : Int) = 0
    · exact ⟨true, Ev.step (fun k => by rw [PB.laws_within.l0]) (evp (by omega) (evp (by omega) (evp (by omega) (evp hs (Ev.now true))))), fun h => by cases h⟩
    · refine ⟨r, Ev.step (fun k => by rw [PB.laws_within.l0]) (evp (by omega) (evp (by omega) (evp (by omega) (evn hs (by rw [wrap_up i (by omega)]; exact hr))))), fun h j h1 h2 => ?_⟩
      by_cases e : j = i
      · subst e; rw [← bt_nat t j (by omega)]; exact hs
      · exact hp h j (by omega) h2
theorem bs_range (t : ByteArray) : ∀ c ∈ bs t, 0 ≤ c ∧ c ≤ 255 := by
  intro c hc
  unfold bs at hc
  obtain ⟨b, _, rfl⟩ := List.mem_map.1 hc
  have := b.toNat_lt
  omega
theorem cln_of {t : ByteArray} (h : ∀ j, j < t.size → (bs t).getD j 0 ≠ 0) : Cln t := by
  intro c hc
  have hr := bs_range t c hc
  have h1 : c ≠ 0 := all_getD (P := fun c => c ≠ 0) 0 (fun j hj => h j (by rw [bs_len] at hj; exact hj)) c hc
  unfold Okc
  omega
theorem within_ev (t : ByteArray) (ht : t.size ≤ 4611686018427387904) : ∃ r, Ev (fun k => PB.laws_within.f k t 0) r ∧ (r = false → Cln t) := by
  obtain ⟨r, hr, hp⟩ := within_key t ht t.size 0 (by omega)
  exact ⟨r, hr, fun e => cln_of (fun j hj => hp e j (Nat.zero_le _) hj)⟩
theorem clean_key (l : List ByteArray) (hl : Fits l) : ∀ d i, i + d = l.length → ∃ r, Ev (fun k => PB.laws_clean.l0 k l (l.length : Int) (i : Int)) r ∧ (r = true → ∀ j, i ≤ j → j < l.length → Cln (l.getD j ByteArray.empty))
  | 0, i, h => ⟨true, Ev.step (fun k => by rw [PB.laws_clean.l0]) (evn (by omega) (Ev.now true)), fun _ j h1 h2 => by omega⟩
  | d + 1, i, h => by
    have hl1 := hl.1
    obtain ⟨r, hr, hp⟩ := clean_key l hl d (i + 1) (by omega)
    have hm := hl.2 _ (getD_mem ByteArray.empty (show i < l.length by omega))
    obtain ⟨rw_, hw, hwp⟩ := within_ev (l.getD i ByteArray.empty) (by omega)
    cases rw_ with
    | true => exact ⟨false, Ev.step (fun k => by rw [PB.laws_clean.l0]) (evp (by omega) (evp (by omega) (evp (by omega) (by rw [rdOf_nat]; exact Ev.bind hw (evp rfl (Ev.now false)))))), fun h => by cases h⟩
    | false =>
      refine ⟨r, Ev.step (fun k => by rw [PB.laws_clean.l0]) (evp (by omega) (evp (by omega) (evp (by omega) (by rw [rdOf_nat]; exact Ev.bind hw (evn (by simp) (by rw [wrap_up i (by omega)]; exact hr)))))), fun h j h1 h2 => ?_⟩
      by_cases e : j = i
      · subst e; exact hwp rfl
      · exact hp h j (by omega) h2
theorem clean_ev (l : List ByteArray) (hl : Fits l) : Tru (fun k => PB.laws_clean.f k l) (∀ t ∈ l, Cln t) := by
  obtain ⟨r, hr, hp⟩ := clean_key l hl l.length 0 (by omega)
  exact ⟨r, hr, fun e => all_getD _ (fun j hj => hp e j (Nat.zero_le _) hj)⟩
theorem ids_key (l : List Int) (n : Int) (hl : l.length ≤ 4611686018427387904) : ∀ d i, i + d = l.length → ∃ r, Ev (fun k => PB.laws_goodIDs.l0 k l n l (l.length : Int) (i : Int)) r ∧ (r = true → (l.length : Int) = n ∧ ∀ j, i ≤ j → j < l.length → 0 ≤ l.getD j 0 ∧ l.getD j 0 ≤ 2147483647)
  | 0, i, h => ⟨_, Ev.step (fun k => by rw [PB.laws_goodIDs.l0]) (evn (by omega) (Ev.now _)), fun h => ⟨beq_iff_eq.1 h, fun j h1 h2 => by omega⟩⟩
  | d + 1, i, h => by
    obtain ⟨r, hr, hp⟩ := ids_key l n hl d (i + 1) (by omega)
    have e : rd l (i : Int) = l.getD i 0 := by unfold rd; rw [Int.toNat_natCast]
    by_cases h1 : l.getD i 0 < 0
    · exact ⟨false, Ev.step (fun k => by rw [PB.laws_goodIDs.l0]) (evp (by omega) (evp (by omega) (evp (by omega) (evp (by rw [e]; exact h1) (Ev.now false))))), fun h => by cases h⟩
    · by_cases h2 : l.getD i 0 > 2147483647
      · exact ⟨false, Ev.step (fun k => by rw [PB.laws_goodIDs.l0]) (evp (by omega) (evp (by omega) (evp (by omega) (evn (by rw [e]; exact h1) (evp (by rw [e]; exact h2) (Ev.now false)))))), fun h => by cases h⟩
      · refine ⟨r, Ev.step (fun k => by rw [PB.laws_goodIDs.l0]) (evp (by omega) (evp (by omega) (evp (by omega) (evn (by rw [e]; exact h1) (evn (by rw [e]; exact h2) (by rw [wrap_up i (by omega)]; exact hr)))))), fun h => ⟨(hp h).1, fun j g1 g2 => ?_⟩⟩
        by_cases e : j = i
        · subst e; omega
        · exact (hp h).2 j (by omega) g2
theorem ids_ev (l : List Int) (n : Int) (hl : l.length ≤ 4611686018427387904) : Tru (fun k => PB.laws_goodIDs.f k l n) ((l.length : Int) = n ∧ ∀ d ∈ l, 0 ≤ d ∧ d ≤ 2147483647) := by
  obtain ⟨r, hr, hp⟩ := ids_key l n hl l.length 0 (by omega)
  exact ⟨r, hr, fun e => ⟨(hp e).1, all_getD _ (fun j hj => (hp e).2 j (Nat.zero_le _) hj)⟩⟩
/-- Ascending, none empty, none with a byte 0. -/
structure Ord (l : List ByteArray) (strict : Bool) : Prop where
  cln : ∀ t ∈ l, Cln t
  ne : ∀ t ∈ l, t.toList ≠ []
  up : ∀ i, i + 1 < l.length → Op.bytesLess (l.getD (i + 1) ByteArray.empty).toList (l.getD i ByteArray.empty).toList = false
  str : strict = true → ∀ i, i + 1 < l.length → (l.getD (i + 1) ByteArray.empty).toList ≠ (l.getD i ByteArray.empty).toList
  pos : l ≠ []
end Go.Proofs.YtaejkbjepbifcabDoor.Da
namespace Go.Proofs.YtaejkbjepbifcabDoor.Da
open Go.RowKit Go.Proofs.YtaejkbjepbifcabDoorW.PrintWords Go.Proofs.YtaejkbjepbifcabDoor.Plain
set_option linter.unusedVariables false
set_option linter.unusedSimpArgs false
theorem le_of_not : ∀ (x y : List UInt8), ¬ y < x → le (x.map (fun b => (b.toNat : Int))) (y.map (fun b => (b.toNat : Int)))
  | [], _, _ => trivial
  | a :: x, [], h => absurd (List.nil_lt_cons a x) h
  | a :: x, b :: y, h => by
    rw [List.cons_lt_cons_iff] at h
    show (a.toNat : Int) < b.toNat ∨ ((a.toNat : Int) = b.toNat ∧ le _ _)
    by_cases e : a = b
    · subst e
      exact Or.inr ⟨rfl, le_of_not x y (fun h2 => h (Or.inr ⟨rfl, h2⟩))⟩
    · left
      have h1 : ¬ b < a := fun h2 => h (Or.inl h2)
      rw [UInt8.lt_iff_toNat_lt] at h1
      have h2 : a.toNat ≠ b.toNat := fun h2 => e (UInt8.toNat_inj.1 h2)
      omega
theorem up_le {l : List ByteArray} (h : ∀ i, i + 1 < l.length → Op.bytesLess (l.getD (i + 1) ByteArray.empty).toList (l.getD i ByteArray.empty).toList = false) : ∀ d i, i + d < l.length → ¬ (l.getD (i + d) ByteArray.empty).toList < (l.getD i ByteArray.empty).toList
  | 0, i, _ => List.lt_irrefl _
  | d + 1, i, hd => by
    have ih := up_le h d i (by omega)
    have h1 := h (i + d) (by omega)
    rw [Own.bl_eq, decide_eq_false_iff_not] at h1
    rw [show i + (d + 1) = i + d + 1 by omega]
    have a : (l.getD i ByteArray.empty).toList ≤ (l.getD (i + d) ByteArray.empty).toList := List.not_lt.1 ih
    have b : (l.getD (i + d) ByteArray.empty).toList ≤ (l.getD (i + d + 1) ByteArray.empty).toList := List.not_lt.1 h1
    exact List.not_lt.2 (List.le_trans a b)
theorem le_words {l : List ByteArray} (h : ∀ i, i + 1 < l.length → Op.bytesLess (l.getD (i + 1) ByteArray.empty).toList (l.getD i ByteArray.empty).toList = false) {i j : Nat} (hij : i < j) (hj : j < l.length) : le (word l i) (word l j) := by
  have := up_le h (j - i) i (by omega)
  rw [show i + (j - i) = j by omega, Lib.toList_data, Lib.toList_data] at this
  exact le_of_not _ _ this
theorem wt_len (l : List ByteArray) : l.length ≤ wt l := by
  induction l with
  | nil => exact Nat.le_refl _
  | cons t l ih => simp only [wt, List.map_cons, List.sum_cons, List.length_cons] at ih ⊢; omega
theorem wt_mem {l : List ByteArray} {t : ByteArray} (h : t ∈ l) : t.size ≤ wt l := by
  induction l with
  | nil => cases h
  | cons u l ih =>
    simp only [wt, List.map_cons, List.sum_cons] at ih ⊢
    rcases List.mem_cons.1 h with rfl | h
    · omega
    · have := ih h; omega
theorem tot_wt (ss : List ByteArray) (ds : List Int) : tot (keysAll ss ds) ≤ wt ss := by
  have key : ∀ n, n ≤ ss.length → ((List.range n).map (fun z => (word ss z).length)).sum ≤ wt (ss.take n) := by
    intro n
    induction n with
    | zero => intro _; exact Nat.zero_le _
    | succ n ih =>
      intro hn
      have := ih (by omega)
      rw [List.range_succ, List.map_append, List.sum_append, List.take_succ_eq_append_getElem (by omega)]
      unfold wt at this ⊢
      rw [List.map_append, List.sum_append]
      have e : (word ss n).length = (ss[n]'(by omega)).size := by
        unfold word
        rw [bs_len, List.getD_eq_getElem?_getD, List.getElem?_eq_getElem (by omega)]; rfl
      simp only [List.map_cons, List.map_nil, List.sum_cons, List.sum_nil, e]
      omega
  have := key ss.length (Nat.le_refl _)
  rw [List.take_length] at this
  refine Nat.le_trans (Nat.le_of_eq ?_) this
  unfold tot keysAll keysOf
  rw [List.map_map]
  congr 1
theorem keys_ok2 {ss : List ByteArray} {ds : List Int} (hw : wt ss ≤ 4000) (hpos : ss ≠ []) (hcln : ∀ t ∈ ss, Cln t) (hup : ∀ i, i + 1 < ss.length → Op.bytesLess (ss.getD (i + 1) ByteArray.empty).toList (ss.getD i ByteArray.empty).toList = false) (hl : ds.length = ss.length) (hd : ∀ d ∈ ds, 0 ≤ d ∧ d ≤ 2147483647) : KeysOk ss ds := by
  have h1 := wt_len ss
  refine ⟨hpos, hl, by omega, fun t ht => by have := wt_mem ht; omega, hd, ?_, ?_, by have := tot_wt ss ds; omega⟩
  · intro k hk
    obtain ⟨z, hz, rfl⟩ := List.mem_map.1 hk
    show Okw ((word ss z).drop 0)
    rw [List.drop_zero]
    exact hcln _ (getD_mem _ (List.mem_range.1 hz))
  · show List.Pairwise _ ((List.range ss.length).map _)
    rw [List.pairwise_map]
    refine List.pairwise_lt_range.imp_of_mem (fun {a b} ha hb hab => ?_)
    show le ((word ss a).drop 0) ((word ss b).drop 0)
    rw [List.drop_zero, List.drop_zero]
    exact le_words hup hab (List.mem_range.1 hb)
theorem keys_ok {ss : List ByteArray} {ds : List Int} {st : Bool} (hw : wt ss ≤ 4000) (ho : Ord ss st) (hl : ds.length = ss.length) (hd : ∀ d ∈ ds, 0 ≤ d ∧ d ≤ 2147483647) : KeysOk ss ds := keys_ok2 hw ho.pos ho.cln ho.up hl hd
theorem nan_f (a : ByteArray) : PB.cmp_isNaN_string.f a = some false := by simp [PB.cmp_isNaN_string.f]
theorem less_f (a b : ByteArray) : PB.cmp_Less_string.f a b = some (Op.bytesLess a.toList b.toList) := by simp [PB.cmp_Less_string.f, nan_f]
theorem sorted_key (l : List ByteArray) (hl : l.length ≤ 4611686018427387904) (h : ∀ i, i + 1 < l.length → Op.bytesLess (l.getD (i + 1) ByteArray.empty).toList (l.getD i ByteArray.empty).toList = false) : ∀ i, i < l.length → Ev (fun k => PB.slices_IsSorted_string_string.l0 k l (i : Int)) true
  | 0, hi => Ev.step (fun k => by rw [PB.slices_IsSorted_string_string.l0]) (evn (by omega) (Ev.now true))
  | i + 1, hi => by
    have ih := sorted_key l hl h i (by omega)
    have e : wrap64 (((i + 1 : Nat) : Int) - 1) = (i : Int) := by rw [wrap_dn (i + 1) (by omega) (by omega)]; rfl
    refine Ev.step (fun k => by rw [PB.slices_IsSorted_string_string.l0]) (evp (by omega) (evp (by omega) (evp (by omega) (evp (by rw [e]; omega) (evp (by rw [e]; omega) ?_)))))
    rw [e, rdOf_nat, rdOf_nat, less_f, h i hi]
    exact Ev.bind (Ev.now false) (evn (by simp) ih)
theorem sorted_ev (l : List ByteArray) (h0 : l ≠ []) (hl : l.length ≤ 4611686018427387904) (h : ∀ i, i + 1 < l.length → Op.bytesLess (l.getD (i + 1) ByteArray.empty).toList (l.getD i ByteArray.empty).toList = false) : ∃ k, PB.slices_IsSorted_string_string.f k l = some true := by
  have hp := List.length_pos_iff.2 h0
  have := sorted_key l hl h (l.length - 1) (by omega)
  have e : wrap64 ((l.length : Int) - 1) = ((l.length - 1 : Nat) : Int) := wrap_dn _ (by omega) hl
  obtain ⟨k, hk⟩ := this.rounds
  exact ⟨k, by unfold PB.slices_IsSorted_string_string.f; rw [e]; exact hk⟩
/-- The same lists. -/
theorem same_key (l : List PB.S49) (hl : l.length ≤ 4611686018427387904) : ∀ d i, i + d = l.length → Ev (fun k => PB.impl_Hit.l0 k l l (l.length : Int) (i : Int)) true
  | 0, i, h => Ev.step (fun k => by rw [PB.impl_Hit.l0]) (evn (by omega) (Ev.now true))
  | d + 1, i, h => by
    have ih := same_key l hl d (i + 1) (by omega)
    exact Ev.step (fun k => by rw [PB.impl_Hit.l0]) (evp (by omega) (evp (by omega) (evp (by omega) (evp (by omega) (evn (by simp) (by rw [wrap_up i (by omega)]; exact ih))))))
theorem same_ev (l : List PB.S49) (hl : l.length ≤ 4611686018427387904) : Ev (fun k => PB.impl_Hit.f k l l) true := by
  have := same_key l hl l.length 0 (by omega)
  exact evp rfl this
/-- An answer in a row. -/
theorem ans_at {w : World} {base g c : Nat} {ok : Nat → Prop} {l : List PB.S46} (h : Kd.R PB.k46 46 w base ok (.slice (some ⟨g, 0, none⟩) l.length c) l) (j : Nat) (hj : j < l.length) (a : PB.S46) (ha : l[j]? = some a) :
    ∃ A4 c4 A5 c5, w.cell? ⟨g, j * 6, none⟩ = some (.int .i64 a.f0.f0) ∧ w.cell? ⟨g, j * 6 + 1, none⟩ = some (.bool a.f0.f1) ∧ w.cell? ⟨g, j * 6 + 2, none⟩ = some (.int .i64 a.f1.f0) ∧ w.cell? ⟨g, j * 6 + 3, none⟩ = some (.bool a.f1.f1) ∧ w.cell? ⟨g, j * 6 + 4, none⟩ = some (.slice A4 a.f2.length c4) ∧ w.cell? ⟨g, j * 6 + 5, none⟩ = some (.slice A5 a.f3.length c5) ∧
      Kd.R PB.k49 49 w base ok (.slice A4 a.f2.length c4) a.f2 ∧ Kd.R PB.k49 49 w base ok (.slice A5 a.f3.length c5) a.f3 := by
  obtain ⟨_, hR⟩ := h
  obtain ⟨A, c', e1, l1, hr⟩ := OwnRow.reads hR
  cases e1
  obtain ⟨ad, e2, hx⟩ := hr.2.2 (by omega)
  cases e2
  obtain ⟨cs, _, hM, hc⟩ := hx j a ha
  obtain ⟨v4, v5, rfl, g4, g5⟩ := PB.k46_openM hM
  obtain ⟨A4, c4, rfl⟩ := Kd.R_slice g4
  obtain ⟨A5, c5, rfl⟩ := Kd.R_slice g5
  have e3 : ∀ i, (⟨g, 0, none⟩ : Addr).add (j * PB.k46.sz + i) = ⟨g, j * 6 + i, none⟩ := fun i => by
    show (⟨g, 0, none⟩ : Addr).add (j * 6 + i) = _
    rw [add_at0, Nat.zero_add]
  refine ⟨A4, c4, A5, c5, ?_, ?_, ?_, ?_, ?_, ?_, Kd.R_mono g4 (fun k hk => hk.1), Kd.R_mono g5 (fun k hk => hk.1)⟩
  · have := hc 0 _ rfl; rw [e3] at this; exact this
  · have := hc 1 _ rfl; rw [e3] at this; exact this
  · have := hc 2 _ rfl; rw [e3] at this; exact this
  · have := hc 3 _ rfl; rw [e3] at this; exact this
  · have := hc 4 _ rfl; rw [e3] at this; exact this
  · have := hc 5 _ rfl; rw [e3] at this; exact this
end Go.Proofs.YtaejkbjepbifcabDoor.Da
namespace Go.Proofs.YtaejkbjepbifcabDoor.Da
open Go.RowKit Go.Proofs.YtaejkbjepbifcabDoorW.PrintWords Go.Proofs.YtaejkbjepbifcabDoor.Plain
set_option linter.unusedVariables false
set_option linter.unusedSimpArgs false
abbrev ta : ByteArray := { data := #[97] }
abbrev tab : ByteArray := { data := #[97, 98] }
def La : Keys := keysAll [ta, tab] [3, 5]
theorem cln_a : Cln ta := by intro c hc; have : c = 97 := by simpa [bs, ta] using hc
                             subst this; unfold Okc; omega
theorem cln_ab : Cln tab := by
  intro c hc
  have : c = 97 ∨ c = 98 := by simpa [bs, tab] using hc
  unfold Okc
  omega
theorem two_ord : Ord [ta, tab] true := by
  refine ⟨?_, ?_, ?_, ?_, by simp⟩
  · intro t ht
    simp only [List.mem_cons, List.not_mem_nil, or_false] at ht
    rcases ht with rfl | rfl
    · exact cln_a
    · exact cln_ab
  · intro t ht
    simp only [List.mem_cons, List.not_mem_nil, or_false] at ht
    rcases ht with rfl | rfl <;> rw [Lib.toList_data] <;> decide
  · intro i hi
    obtain rfl : i = 0 := by simp at hi; omega
    rw [Lib.toList_data, Lib.toList_data]; decide
  · intro _ i hi
    obtain rfl : i = 0 := by simp at hi; omega
    rw [Lib.toList_data, Lib.toList_data]; decide
theorem two_ok : KeysOk [ta, tab] [3, 5] := keys_ok (by decide) two_ord rfl (by decide)
theorem two_fnd : fnd La tab = (5, true) := by decide
theorem two_hits : hitsS La (bs tab) (bs tab).length = [⟨3, 1⟩, ⟨5, 2⟩] := by rfl
theorem new1 {α : Type} {enc : α → Value} {h1 : ∀ x, (enc x).oneCell' = true} (w : World) (b : Nat) (hb : b = w.heap.size) (xs : List α) (e : TypeId) (cs : Array Value) (hcs : cs = (xs.map enc).toArray) (hm : xs.length ≤ 9223372036854775807) :
    (Kd.scalar enc h1).C (w.alloc (.cells cs e (0, 0))) (some ⟨b, 0, none⟩) xs.length xs := by
  subst hb
  exact Own.C_alloc_new w xs e (0, 0) cs hcs hm
/-- A new row of two hits. -/
theorem new_hits (w : World) (b : Nat) (hb : b = w.heap.size) (p q : PB.S49) : Kd.C PB.k49 (w.alloc (.cells #[.int .i64 p.f0, .int .i64 p.f1, .int .i64 q.f0, .int .i64 q.f1] 49 (0, 0))) (some ⟨b, 0, none⟩) 2 [p, q] := by
  subst hb
  refine ⟨rfl, by simp, fun _ => ⟨_, rfl, fun j x hj => ?_⟩⟩
  have e : ∀ i, (⟨w.heap.size, 0, none⟩ : Addr).add (j * PB.k49.sz + i) = ⟨w.heap.size, j * 2 + i, none⟩ := fun i => by
    show (⟨w.heap.size, 0, none⟩ : Addr).add (j * 2 + i) = _
    rw [add_at0, Nat.zero_add]
  refine ⟨[.int .i64 x.f0, .int .i64 x.f1], rfl, PB.k49_mk _ _, fun i u hu => ?_⟩
  rw [e, Own.alloc_cell]
  have hi : i < 2 := by have := (List.getElem?_eq_some_iff.1 hu).1; simpa using this
  have hj2 : j < 2 := by have := (List.getElem?_eq_some_iff.1 hj).1; simpa using this
  have : j = 0 ∨ j = 1 := by omega
  have : i = 0 ∨ i = 1 := by omega
  rcases ‹j = 0 ∨ j = 1› with rfl | rfl <;> rcases ‹i = 0 ∨ i = 1› with rfl | rfl <;> simp at hj hu <;> subst hj <;> subst hu <;> rfl
theorem row_reads {α : Type} {d : Kd α} {e : Nat} {w : World} {base : Nat} {ok : Nat → Prop} {A : Option Addr} {n c : Nat} {xs : List α} (h : Kd.R d e w base ok (.slice A n c) xs) : xs.length ≤ c ∧ Kd.C d w A xs.length xs := by
  obtain ⟨A', c', e1, l1, g1⟩ := Kd.R_reads h
  cases e1
  exact ⟨l1, g1⟩
set_option maxHeartbeats 16000000 in
set_option maxRecDepth 100000 in
theorem builds_calls (W : World) : Calls Tryd.prog 10 #[] W fun e w' => e = .returned (.bool true) ∧ Below W.heap.size W w' := by
  obtain ⟨kk, hk⟩ := sorted_ev [ta, tab] (by simp) (by simp) two_ord.up
  obtain ⟨ks, hks⟩ := (same_ev [⟨3, 1⟩, ⟨5, 2⟩] (by simp)).rounds
  have HK := Aside0.mk hk
  have HKS := Aside0.mk hks
  clear hk hks
  have HT : Aside0 (∀ (w : World) (b0 b1 b2 : Nat), Kd.C Kd.string w (some ⟨b0, 0, none⟩) 2 [ta, tab] → Kd.C (Kd.int .i64) w (some ⟨b1, 0, none⟩) 2 [3, 5] → Kd.C Kd.string w (some ⟨b2, 0, none⟩) 1 [tab] →
      Calls Tryd.prog 13 #[.slice (some ⟨b0, 0, none⟩) 2 2, .slice (some ⟨b1, 0, none⟩) 2 2, .slice (some ⟨b2, 0, none⟩) 1 1] w fun e w' => ∃ g c A4 c4 A5 c5, e = .returned (.tuple #[.slice (some ⟨g, 0, none⟩) 1 c, .int .i64 0]) ∧ (w'.cell? ⟨g, 0, none⟩ = some (.int .i64 5) ∧ w'.cell? ⟨g, 1, none⟩ = some (.bool true) ∧ w'.cell? ⟨g, 4, none⟩ = some (.slice A4 2 c4) ∧ w'.cell? ⟨g, 2, none⟩ = some (.int .i64 (lng La tab).1) ∧ w'.cell? ⟨g, 3, none⟩ = some (.bool (lng La tab).2) ∧ w'.cell? ⟨g, 5, none⟩ = some (.slice A5 2 c5)) ∧ Aside0 (Kd.R PB.k49 49 w' w.heap.size (fun _ => True) (.slice A4 2 c4) [⟨3, 1⟩, ⟨5, 2⟩]) ∧ Aside0 (Below w.heap.size w w')) := ⟨fun w b0 b1 b2 h0 h1 h2 => by
    refine (trie_calls w (some ⟨b0, 0, none⟩) (some ⟨b1, 0, none⟩) (some ⟨b2, 0, none⟩) 2 2 1 kk [ta, tab] [tab] [3, 5] h0 (by simp) h1 (by simp) h2 HK.out two_ok ⟨by simp, fun t ht => by rw [List.mem_singleton.1 ht]; exact ⟨cln_ab, by decide⟩⟩).mono ?_
    rintro e w' ⟨ov, rfl, hR, hB⟩
    obtain ⟨g, c, rfl, hg0, hg, _, _⟩ := own_head hR (by simp)
    obtain ⟨A4, c4, A5, c5, h0, h1, h2, h3, h4, h5, g4, g5⟩ := ans_at hR 0 (by simp) (ans La tab) rfl
    simp only [Nat.zero_mul, Nat.zero_add] at h0 h1 h2 h3 h4 h5
    have e1 : (ans La tab).f2 = [⟨3, 1⟩, ⟨5, 2⟩] := two_hits
    have e2 : (ans La tab).f3 = [⟨3, 1⟩, ⟨5, 2⟩] := two_hits
    rw [e1] at h4 g4
    rw [e2] at h5
    exact ⟨g, c, A4, c4, A5, c5, rfl, ⟨h0.trans (by rw [show (ans La tab).f0.f0 = (fnd La tab).1 from rfl, two_fnd]), h1.trans (by rw [show (ans La tab).f0.f1 = (fnd La tab).2 from rfl, two_fnd]), h4, h2, h3, h5⟩, ⟨g4⟩, ⟨hB⟩⟩⟩
  go_enter Tryd.func10, Tryd.ntmps10
  go_upto_region 2 with (go_at_call 13; refine (HT.out _ _ _ _ (Kd.C_below (new1 _ _ rfl [ta, tab] _ _ rfl (by simp)) (below_alloc (below_alloc (Below.refl _ _) _) _)) (Kd.C_below (new1 _ _ (Own.size_alloc _ _).symm [3, 5] _ _ rfl (by simp)) (below_alloc (Below.refl _ _) _)) (new1 _ _ ((congrArg (· + 1) (Own.size_alloc _ _)).symm.trans (Own.size_alloc _ _).symm) [tab] _ _ rfl (by simp))).mono ?_; rintro e_ w2 ⟨g, c, A4, c4, A5, c5, rfl, ⟨k0, k1, k4, k2, k3, k5⟩, HC, HB⟩)
  obtain ⟨hl4, hC4⟩ := row_reads HC.out
  have HL4 := Aside0.mk hl4
  have HC4 := Aside0.mk hC4
  have HBW : Aside0 (Below W.heap.size W w2) := ⟨below_step (below_alloc (below_alloc (below_alloc (Below.refl _ _) _) _) _) HB.out⟩
  clear hl4 hC4 HC HB HT
  go_wp2_with (go_at_call 16; refine (PB.impl_Hit.calls ks A4 c4 [⟨3, 1⟩, ⟨5, 2⟩] _ 2 [⟨3, 1⟩, ⟨5, 2⟩] true _ (Kd.C_below HC4.out (below_alloc (Below.refl _ _) _)) HL4.out (new_hits _ _ rfl ⟨3, 1⟩ ⟨5, 2⟩) (Nat.le_refl _) HKS.out).mono ?_; rintro e_ w3 ⟨rfl, ⟨q3, rfl⟩⟩)
  go_ret
  exact ⟨rfl, pw_below_drewN (below_alloc HBW.out _) _⟩
end Go.Proofs.YtaejkbjepbifcabDoor.Da
namespace Go.Proofs.YtaejkbjepbifcabDoor.Da
open Go.RowKit Go.Proofs.YtaejkbjepbifcabDoorW.PrintWords Go.Proofs.YtaejkbjepbifcabDoor.Plain
set_option linter.unusedVariables false
set_option linter.unusedSimpArgs false
theorem new_two (w : World) (g : Nat) (hg : g = w.heap.size) (A0 A1 : Option Addr) (c0 c1 n0 n1 : Nat) (a b : List ByteArray) (h0 : n0 = a.length) (h1 : n1 = b.length) (ha : Kd.C Kd.string w A0 a.length a) (hca : a.length ≤ c0) (hb : Kd.C Kd.string w A1 b.length b) (hcb : b.length ≤ c1) :
    Kd.C (Kd.slice 9 Kd.string) (w.alloc (.cells #[.slice A0 n0 c0, .slice A1 n1 c1] 22 (0, 0))) (some ⟨g, 0, none⟩) [a, b].length [a, b] := by
  subst h0
  subst h1
  refine Own.C_new1 (d := Kd.slice 9 Kd.string) rfl w g hg 22 (0, 0) [.slice A0 a.length c0, .slice A1 b.length c1] [a, b] rfl (by simp) (fun j p u hp hu => ?_)
  have hb2 := below_alloc (Below.refl w.heap.size w) (.cells #[.slice A0 a.length c0, .slice A1 b.length c1] 22 (0, 0))
  have hj : j < 2 := by have := (List.getElem?_eq_some_iff.1 hp).1; simpa using this
  rcases (show j = 0 ∨ j = 1 by omega) with rfl | rfl <;> simp at hp hu <;> subst hp <;> subst hu
  · exact ⟨A0, c0, rfl, hca, Kd.C_below ha hb2⟩
  · exact ⟨A1, c1, rfl, hcb, Kd.C_below hb hb2⟩
theorem new_one (w : World) (g : Nat) (hg : g = w.heap.size) (A0 : Option Addr) (c0 n0 : Nat) (a : List ByteArray) (h0 : n0 = a.length) (ha : Kd.C Kd.string w A0 a.length a) (hca : a.length ≤ c0) :
    Kd.C (Kd.slice 9 Kd.string) (w.alloc (.cells #[.slice A0 n0 c0] 22 (0, 0))) (some ⟨g, 0, none⟩) [a].length [a] := by
  subst h0
  refine Own.C_new1 (d := Kd.slice 9 Kd.string) rfl w g hg 22 (0, 0) [.slice A0 a.length c0] [a] rfl (by simp) (fun j p u hp hu => ?_)
  have hb2 := below_alloc (Below.refl w.heap.size w) (.cells #[.slice A0 a.length c0] 22 (0, 0))
  have hj : j < 1 := by have := (List.getElem?_eq_some_iff.1 hp).1; simpa using this
  obtain rfl : j = 0 := by omega
  simp at hp hu
  subst hp
  subst hu
  exact ⟨A0, c0, rfl, hca, Kd.C_below ha hb2⟩
theorem size_at (w : World) (o : Obj) (n : Nat) (h : n = w.heap.size) : n + 1 = (w.alloc o).heap.size := by rw [h]; exact (Own.size_alloc _ _).symm
end Go.Proofs.YtaejkbjepbifcabDoor.Da
namespace Go.Proofs.YtaejkbjepbifcabDoor.PB
open Go.RowKit Go.Proofs.YtaejkbjepbifcabDoorW.PrintWords Go.Proofs.YtaejkbjepbifcabDoorW.PrintLast Go.Proofs.YtaejkbjepbifcabDoorW.PrintMore
attribute [local go_sem] max2_int min2_int max_two min_two max_three min_three max_four min_four   -- for this text's walks alone
set_option linter.unusedVariables false
set_option linter.unusedSimpArgs false

/-! ### spec_Half: function 28 -/
def spec_Half.l0 : Nat → ByteArray → Bool → List ByteArray → Int → Int → Option (Bool)
 | 0, _, _, _, _, _ => none
 | k + 1, x1, x5, x8, x9, x10 => if x10 < x9 then (if 0 ≤ x10 then (if x10 < (x8.length : Int) then (if (rdOf ByteArray.empty x8 x10).toList = x1.toList then (if x1.toList = ([] : List UInt8) then (if x5 = true then (spec_Half.l0 k x1 true x8 x9 (wrap64 (x10 + 1))) else ((spec_dBegins.f (rdOf ByteArray.empty x8 x10) x1).bind fun t144 => (spec_Half.l0 k x1 t144 x8 x9 (wrap64 (x10 + 1))))) else (some false)) else (if x5 = true then (spec_Half.l0 k x1 true x8 x9 (wrap64 (x10 + 1))) else ((spec_dBegins.f (rdOf ByteArray.empty x8 x10) x1).bind fun t145 => (spec_Half.l0 k x1 t145 x8 x9 (wrap64 (x10 + 1)))))) else (none)) else (none)) else (some x5)
def spec_Half.f (k : Nat) (l0 : List ByteArray) (a1 : ByteArray) : Option (Bool) := spec_Half.l0 k a1 false l0 (l0.length : Int) 0
theorem spec_Half.mono_l : ∀ k, (∀ y0 y1 y2 y3 y4, LeO (spec_Half.l0 k y0 y1 y2 y3 y4) (spec_Half.l0 (k + 1) y0 y1 y2 y3 y4))
 | 0 => fun _ _ _ _ _ r h => by simp [spec_Half.l0] at h
 | k + 1 => by
  have ih0 := spec_Half.mono_l k
  ·intro y0 y1 y2 y3 y4
   unfold spec_Half.l0
   repeat' first
   | (with_reducible exact ih0 _ _ _ _ _)
   | (with_reducible exact LeO.refl _)
   | (with_reducible exact LeO.none _)
   | (with_reducible refine LeO.ite ?_ ?_)
   | (with_reducible refine LeO.bind ?_ (fun _ => ?_))
   | exact ih0 _ _ _ _ _
   | exact LeO.none _
   | refine LeO.ite ?_ ?_
   | refine LeO.bind ?_ (fun _ => ?_)
theorem spec_Half.mono : ∀ a0 a1 k, LeO (spec_Half.f k a0 a1) (spec_Half.f (k + 1) a0 a1) := by
 intro a0 a1 k
 have ih0 := spec_Half.mono_l k
 unfold spec_Half.f
 repeat' first
   | (with_reducible exact ih0 _ _ _ _ _)
   | (with_reducible exact LeO.refl _)
   | (with_reducible exact LeO.none _)
   | (with_reducible refine LeO.ite ?_ ?_)
   | (with_reducible refine LeO.bind ?_ (fun _ => ?_))
   | exact ih0 _ _ _ _ _
   | exact LeO.none _
   | refine LeO.ite ?_ ?_
   | refine LeO.bind ?_ (fun _ => ?_)
set_option maxHeartbeats 8000000 in
set_option maxRecDepth 100000 in
theorem spec_Half.calls (k : Nat) (A0 : Option Addr) (c0 : Nat) (l0 : List ByteArray) (a1 : ByteArray) (r : Bool) (w : World) (hr0 : Kd.C Kd.string w A0 l0.length l0) (hc0 : l0.length ≤ c0) (h : spec_Half.f k l0 a1 = some r) :
  Calls Tryd.prog 28 #[.slice A0 l0.length c0, .string a1] w fun e w' => e = .returned (.bool r) ∧ Drawn0 w w' := by
 have HR0 := Aside0.mk hr0
 have HC0 := Aside0.mk hc0
 clear hr0 hc0
 have H : (spec_Half.l0 k a1 false l0 (l0.length : Int) 0) = some r := h
 clear h
 have H' := Aside0.mk H
 clear H
 go_enter Tryd.func28, Tryd.ntmps28
 go_wp2
 go_loopg [5, 10] k (fun kq v5 v10 w' => ∃ (x5_1 : Bool) (x10_1 : Int), v5 = .bool x5_1 ∧ v10 = .int .i64 x10_1 ∧ Aside0 (spec_Half.l0 kq a1 x5_1 l0 (l0.length : Int) x10_1 = some r) ∧ Aside0 (kq ≤ k) ∧ Drawn0 w w')
 case atStart => exact ⟨(false), (0), (by first | rfl | (simp; done) | (simp [*]; done)), (by first | rfl | (simp; done) | (simp [*]; done)), H', ⟨Nat.le_refl _⟩, by repeat (first | exact Drawn0.refl _ | apply Drawn0.step)⟩
 case round =>
  clear H'
  try clear c2
  try clear p2
  obtain ⟨x5_1, x10_1, rfl, rfl, HA, HK1, ⟨m1, rfl⟩⟩ := hrel
  cases gk with
  | zero => exact absurd HA.out (by simp [spec_Half.l0])
  | succ k1 =>
   have H := HA.out
   clear HA
   simp only [spec_Half.l0] at H
   by_cases c3 : x10_1 < (l0.length : Int)
   ·rw [if_pos c3] at H
    have c3b0 : decide (x10_1 < (l0.length : Int)) = true := decide_eq_true c3
    clear c3
    by_cases c4 : 0 ≤ x10_1
    ·rw [if_pos c4] at H
     have c4b0 : decide (0 ≤ x10_1) = true := decide_eq_true c4
     clear c4
     by_cases c5 : x10_1 < (l0.length : Int)
     ·rw [if_pos c5] at H
      have c5b0 : decide (x10_1 < (l0.length : Int)) = true := decide_eq_true c5
      clear c5
      by_cases c6 : (rdOf ByteArray.empty l0 x10_1).toList = a1.toList
      ·rw [if_pos c6] at H
       have c6b0 : ((rdOf ByteArray.empty l0 x10_1).toList == a1.toList) = true := beq_iff_eq.mpr c6
       have c6b1 : ((rdOf ByteArray.empty l0 x10_1).toList != a1.toList) = false := bne_eq_false_iff_eq.mpr c6
       clear c6
       by_cases c7 : a1.toList = ([] : List UInt8)
       ·rw [if_pos c7] at H
        have c7b0 : (a1.toList == ([] : List UInt8)) = true := beq_iff_eq.mpr c7
        have c7b1 : (a1.toList != ([] : List UInt8)) = false := bne_eq_false_iff_eq.mpr c7
        clear c7
        by_cases c8 : x5_1 = true
        ·subst c8
         have H1 : (spec_Half.l0 k1 a1 true l0 (l0.length : Int) (wrap64 (x10_1 + 1))) = some r := by rw [if_pos rfl] at H; exact H
         clear H
         have H := H1
         clear H1
         have H' := Aside0.mk H
         clear H
         have p143 : 0 ≤ (x10_1 : Int) := of_decide_eq_true (by first | (with_reducible assumption) | assumption)
         have q143 : x10_1 < (l0.length : Int) := of_decide_eq_true (by first | (with_reducible assumption) | assumption)
         obtain ⟨ad143, e143, hx143_0⟩ := Kd.at_string HR0.out x10_1 p143 q143
         cases e143
         replace p143 := eq_true p143
         replace q143 := eq_true q143
         go_wp2
         go_roundg k1
         case measure => have := HK1.out; omega
         case rel => exact ⟨(true), (wrap64 (x10_1 + 1)), (by first | rfl | (simp; done) | (simp [*]; done)), (by first | rfl | (simp; done) | (simp [*]; done)), H', ⟨by have := HK1.out; omega⟩, by repeat (first | exact Drawn0.refl _ | apply Drawn0.step)⟩
        ·replace c8 := Bool.eq_false_iff.mpr c8
         subst c8
         have H1 : ((spec_dBegins.f (rdOf ByteArray.empty l0 x10_1) a1).bind fun t144 => (spec_Half.l0 k1 a1 t144 l0 (l0.length : Int) (wrap64 (x10_1 + 1)))) = some r := by rw [if_neg (show ¬ (false = true) by decide)] at H; exact H
         clear H
         have H := H1
         clear H1
         replace H := Option.bind_eq_some_iff.mp H
         obtain ⟨t144, A90, H⟩ := H
         replace H : (spec_Half.l0 k1 a1 t144 l0 (l0.length : Int) (wrap64 (x10_1 + 1))) = some r := H
         have A9 := Aside0.mk A90
         clear A90
         have H' := Aside0.mk H
         clear H
         have p143 : 0 ≤ (x10_1 : Int) := of_decide_eq_true (by first | (with_reducible assumption) | assumption)
         have q143 : x10_1 < (l0.length : Int) := of_decide_eq_true (by first | (with_reducible assumption) | assumption)
         obtain ⟨ad143, e143, hx143_0⟩ := Kd.at_string HR0.out x10_1 p143 q143
         cases e143
         replace p143 := eq_true p143
         replace q143 := eq_true q143
         go_wp2_with (first | (go_at_call 49; (with_reducible refine (spec_dBegins.calls (rdOf ByteArray.empty l0 x10_1) a1 t144 _ A9.out).mono ?_); rintro e w' ⟨rfl, ⟨nd, rfl⟩⟩))
         go_roundg k1
         case measure => have := HK1.out; omega
         case rel => exact ⟨(t144), (wrap64 (x10_1 + 1)), (by first | rfl | (simp; done) | (simp [*]; done)), (by first | rfl | (simp; done) | (simp [*]; done)), H', ⟨by have := HK1.out; omega⟩, by repeat (first | exact Drawn0.refl _ | apply Drawn0.step)⟩
       ·rw [if_neg c7] at H
        have c7b0 : (a1.toList == ([] : List UInt8)) = false := beq_eq_false_iff_ne.mpr c7
        have c7b1 : (a1.toList != ([] : List UInt8)) = true := bne_iff_ne.mpr c7
        obtain rfl := Option.some.inj H
        have p143 : 0 ≤ (x10_1 : Int) := of_decide_eq_true (by first | (with_reducible assumption) | assumption)
        have q143 : x10_1 < (l0.length : Int) := of_decide_eq_true (by first | (with_reducible assumption) | assumption)
        obtain ⟨ad143, e143, hx143_0⟩ := Kd.at_string HR0.out x10_1 p143 q143
        cases e143
        replace p143 := eq_true p143
        replace q143 := eq_true q143
        go_wp2
        go_ret
        exact ⟨by first | rfl | (simp; done) | (simp [*]; done) | (simp [Own.isEmpty_bne]; done), by repeat (first | exact Drawn0.refl _ | apply Drawn0.step)⟩
      ·rw [if_neg c6] at H
       have c6b0 : ((rdOf ByteArray.empty l0 x10_1).toList == a1.toList) = false := beq_eq_false_iff_ne.mpr c6
       have c6b1 : ((rdOf ByteArray.empty l0 x10_1).toList != a1.toList) = true := bne_iff_ne.mpr c6
       by_cases c10 : x5_1 = true
       ·subst c10
        have H1 : (spec_Half.l0 k1 a1 true l0 (l0.length : Int) (wrap64 (x10_1 + 1))) = some r := by rw [if_pos rfl] at H; exact H
        clear H
        have H := H1
        clear H1
        have H' := Aside0.mk H
        clear H
        have p143 : 0 ≤ (x10_1 : Int) := of_decide_eq_true (by first | (with_reducible assumption) | assumption)
        have q143 : x10_1 < (l0.length : Int) := of_decide_eq_true (by first | (with_reducible assumption) | assumption)
        obtain ⟨ad143, e143, hx143_0⟩ := Kd.at_string HR0.out x10_1 p143 q143
        cases e143
        replace p143 := eq_true p143
        replace q143 := eq_true q143
        go_wp2
        go_roundg k1
        case measure => have := HK1.out; omega
        case rel => exact ⟨(true), (wrap64 (x10_1 + 1)), (by first | rfl | (simp; done) | (simp [*]; done)), (by first | rfl | (simp; done) | (simp [*]; done)), H', ⟨by have := HK1.out; omega⟩, by repeat (first | exact Drawn0.refl _ | apply Drawn0.step)⟩
       ·replace c10 := Bool.eq_false_iff.mpr c10
        subst c10
        have H1 : ((spec_dBegins.f (rdOf ByteArray.empty l0 x10_1) a1).bind fun t145 => (spec_Half.l0 k1 a1 t145 l0 (l0.length : Int) (wrap64 (x10_1 + 1)))) = some r := by rw [if_neg (show ¬ (false = true) by decide)] at H; exact H
        clear H
        have H := H1
        clear H1
        replace H := Option.bind_eq_some_iff.mp H
        obtain ⟨t145, A110, H⟩ := H
        replace H : (spec_Half.l0 k1 a1 t145 l0 (l0.length : Int) (wrap64 (x10_1 + 1))) = some r := H
        have A11 := Aside0.mk A110
        clear A110
        have H' := Aside0.mk H
        clear H
        have p143 : 0 ≤ (x10_1 : Int) := of_decide_eq_true (by first | (with_reducible assumption) | assumption)
        have q143 : x10_1 < (l0.length : Int) := of_decide_eq_true (by first | (with_reducible assumption) | assumption)
        obtain ⟨ad143, e143, hx143_0⟩ := Kd.at_string HR0.out x10_1 p143 q143
        cases e143
        replace p143 := eq_true p143
        replace q143 := eq_true q143
        go_wp2_with (first | (go_at_call 49; (with_reducible refine (spec_dBegins.calls (rdOf ByteArray.empty l0 x10_1) a1 t145 _ A11.out).mono ?_); rintro e w' ⟨rfl, ⟨nd, rfl⟩⟩))
        go_roundg k1
        case measure => have := HK1.out; omega
        case rel => exact ⟨(t145), (wrap64 (x10_1 + 1)), (by first | rfl | (simp; done) | (simp [*]; done)), (by first | rfl | (simp; done) | (simp [*]; done)), H', ⟨by have := HK1.out; omega⟩, by repeat (first | exact Drawn0.refl _ | apply Drawn0.step)⟩
     ·rw [if_neg c5] at H
      exact absurd H (by simp)
    ·rw [if_neg c4] at H
     exact absurd H (by simp)
   ·rw [if_neg c3] at H
    have c3b0 : decide (x10_1 < (l0.length : Int)) = false := decide_eq_false c3
    clear c3
    obtain rfl := Option.some.inj H
    go_wp2
    go_ret
    exact ⟨by first | rfl | (simp; done) | (simp [*]; done) | (simp [Own.isEmpty_bne]; done), by repeat (first | exact Drawn0.refl _ | apply Drawn0.step)⟩

/-! ### laws_sameTries: function 14 -/
mutual
def laws_sameTries.j0 : Nat → List (S46) → List (S46) → List ByteArray → List ByteArray → Bool → Option (Bool)
 | 0, _, _, _, _, _ => none
 | k + 1, x0, x1, x2, x3, x21 => if x21 = true then (some false) else (laws_sameTries.l0 k x0 x1 x2 x3 (x0.length : Int) 0)
def laws_sameTries.l0 : Nat → List (S46) → List (S46) → List ByteArray → List ByteArray → Int → Int → Option (Bool)
 | 0, _, _, _, _, _, _ => none
 | k + 1, x0, x1, x2, x3, x23, x24 => if x24 < x23 then (if 0 ≤ x24 then (if x24 < (x0.length : Int) then (if x24 < (x1.length : Int) then (if x24 < (x3.length : Int) then ((spec_Half.f k x2 (rdOf ByteArray.empty x3 x24)).bind fun t149 => ((laws_sameTrie.f k ((rd_T46 x0 x24).f0.f0) ((rd_T46 x0 x24).f0.f1) ((rd_T46 x0 x24).f1.f0) ((rd_T46 x0 x24).f1.f1) ((rd_T46 x0 x24).f2) ((rd_T46 x0 x24).f3) ((rd_T46 x1 x24).f0.f0) ((rd_T46 x1 x24).f0.f1) ((rd_T46 x1 x24).f1.f0) ((rd_T46 x1 x24).f1.f1) ((rd_T46 x1 x24).f2) ((rd_T46 x1 x24).f3) t149).bind fun t150 => (if t150 = true then (laws_sameTries.l0 k x0 x1 x2 x3 x23 (wrap64 (x24 + 1))) else (some false)))) else (none)) else (none)) else (none)) else (none)) else (some true)
end
def laws_sameTries.f (k : Nat) (l0 : List (S46)) (l1 : List (S46)) (l2 : List ByteArray) (l3 : List ByteArray) : Option (Bool) := if (l0.length : Int) = (l1.length : Int) then (laws_sameTries.j0 k l0 l1 l2 l3 ((l0.length : Int) != (l3.length : Int))) else (laws_sameTries.j0 k l0 l1 l2 l3 true)
theorem laws_sameTries.mono_l : ∀ k, (∀ y0 y1 y2 y3 y4, LeO (laws_sameTries.j0 k y0 y1 y2 y3 y4) (laws_sameTries.j0 (k + 1) y0 y1 y2 y3 y4)) ∧ (∀ y0 y1 y2 y3 y4 y5, LeO (laws_sameTries.l0 k y0 y1 y2 y3 y4 y5) (laws_sameTries.l0 (k + 1) y0 y1 y2 y3 y4 y5))
 | 0 => ⟨fun _ _ _ _ _ r h => by simp [laws_sameTries.j0] at h, fun _ _ _ _ _ _ r h => by simp [laws_sameTries.l0] at h⟩
 | k + 1 => by
  obtain ⟨ih0, ih1⟩ := laws_sameTries.mono_l k
  refine ⟨?_, ?_⟩
  ·intro y0 y1 y2 y3 y4
   unfold laws_sameTries.j0
   repeat' first
   | (with_reducible exact ih0 _ _ _ _ _)
   | (with_reducible exact ih1 _ _ _ _ _ _)
   | (with_reducible exact laws_sameTrie.mono _ _ _ _ _ _ _ _ _ _ _ _ _ _)
   | (with_reducible exact spec_Half.mono _ _ _)
   | (with_reducible exact LeO.refl _)
   | (with_reducible exact LeO.none _)
   | (with_reducible refine LeO.ite ?_ ?_)
   | (with_reducible refine LeO.bind ?_ (fun _ => ?_))
   | exact ih0 _ _ _ _ _
   | exact ih1 _ _ _ _ _ _
   | exact laws_sameTrie.mono _ _ _ _ _ _ _ _ _ _ _ _ _ _
   | exact spec_Half.mono _ _ _
   | exact LeO.none _
   | refine LeO.ite ?_ ?_
   | refine LeO.bind ?_ (fun _ => ?_)
  ·intro y0 y1 y2 y3 y4 y5
   unfold laws_sameTries.l0
   repeat' first
   | (with_reducible exact ih0 _ _ _ _ _)
   | (with_reducible exact ih1 _ _ _ _ _ _)
   | (with_reducible exact laws_sameTrie.mono _ _ _ _ _ _ _ _ _ _ _ _ _ _)
   | (with_reducible exact spec_Half.mono _ _ _)
   | (with_reducible exact LeO.refl _)
   | (with_reducible exact LeO.none _)
   | (with_reducible refine LeO.ite ?_ ?_)
   | (with_reducible refine LeO.bind ?_ (fun _ => ?_))
   | exact ih0 _ _ _ _ _
   | exact ih1 _ _ _ _ _ _
   | exact laws_sameTrie.mono _ _ _ _ _ _ _ _ _ _ _ _ _ _
   | exact spec_Half.mono _ _ _
   | exact LeO.none _
   | refine LeO.ite ?_ ?_
   | refine LeO.bind ?_ (fun _ => ?_)
theorem laws_sameTries.mono : ∀ a0 a1 a2 a3 k, LeO (laws_sameTries.f k a0 a1 a2 a3) (laws_sameTries.f (k + 1) a0 a1 a2 a3) := by
 intro a0 a1 a2 a3 k
 obtain ⟨ih0, ih1⟩ := laws_sameTries.mono_l k
 unfold laws_sameTries.f
 repeat' first
   | (with_reducible exact ih0 _ _ _ _ _)
   | (with_reducible exact ih1 _ _ _ _ _ _)
   | (with_reducible exact laws_sameTrie.mono _ _ _ _ _ _ _ _ _ _ _ _ _ _)
   | (with_reducible exact spec_Half.mono _ _ _)
   | (with_reducible exact LeO.refl _)
   | (with_reducible exact LeO.none _)
   | (with_reducible refine LeO.ite ?_ ?_)
   | (with_reducible refine LeO.bind ?_ (fun _ => ?_))
   | exact ih0 _ _ _ _ _
   | exact ih1 _ _ _ _ _ _
   | exact laws_sameTrie.mono _ _ _ _ _ _ _ _ _ _ _ _ _ _
   | exact spec_Half.mono _ _ _
   | exact LeO.none _
   | refine LeO.ite ?_ ?_
   | refine LeO.bind ?_ (fun _ => ?_)
def laws_sameTries.T6 : Bool × List (List Nat × List Nat) := (true, [([], []), ([], []), ([0, 1], [0, 1]), ([2], [2]), ([], []), ([], []), ([4, 5], [4, 5]), ([6], [6]), ([], []), ([], []), ([], []), ([9, 10], [9, 10]), ([11], [11]), ([8, 12], [8, 12]), ([3, 7, 13, 13], [3, 7, 13]), ([14], [14])])
def laws_sameTries.B6 : List Nat := [0, 0, 3, 7, 0, 0, 48, 112, 0, 0, 0, 1536, 3584, 7936, 16383, 32767]
theorem laws_sameTries.tab6 : rtab .any (opsOf Tryd.f14 6) = laws_sameTries.T6 := by kernel_rfl
theorem laws_sameTries.bits6 : waitsOk laws_sameTries.T6.2 laws_sameTries.B6 = true := by kernel_rfl
set_option maxHeartbeats 8000000 in
set_option maxRecDepth 100000 in
theorem laws_sameTries.calls (k : Nat) (A0 : Option Addr) (c0 : Nat) (l0 : List (S46)) (A1 : Option Addr) (c1 : Nat) (l1 : List (S46)) (A2 : Option Addr) (c2 : Nat) (l2 : List ByteArray) (A3 : Option Addr) (c3 : Nat) (l3 : List ByteArray) (r : Bool) (w : World) (hr0 : Kd.C k46 w A0 l0.length l0) (hc0 : l0.length ≤ c0) (hr1 : Kd.C k46 w A1 l1.length l1) (hc1 : l1.length ≤ c1) (hr2 : Kd.C Kd.string w A2 l2.length l2) (hc2 : l2.length ≤ c2) (hr3 : Kd.C Kd.string w A3 l3.length l3) (hc3 : l3.length ≤ c3) (h : laws_sameTries.f k l0 l1 l2 l3 = some r) :
  Calls Tryd.prog 14 #[.slice A0 l0.length c0, .slice A1 l1.length c1, .slice A2 l2.length c2, .slice A3 l3.length c3] w fun e w' => e = .returned (.bool r) ∧ Below w.heap.size w w' := by
 have hu46 := Tryd.underlying46
 have HR0 := Aside0.mk hr0
 have HC0 := Aside0.mk hc0
 clear hr0 hc0
 have HR1 := Aside0.mk hr1
 have HC1 := Aside0.mk hc1
 clear hr1 hc1
 have HR2 := Aside0.mk hr2
 have HC2 := Aside0.mk hc2
 clear hr2 hc2
 have HR3 := Aside0.mk hr3
 have HC3 := Aside0.mk hc3
 clear hr3 hc3
 have HB := Aside0.mk (Below.refl w.heap.size w)
 have H : (if (l0.length : Int) = (l1.length : Int) then (laws_sameTries.j0 k l0 l1 l2 l3 ((l0.length : Int) != (l3.length : Int))) else (laws_sameTries.j0 k l0 l1 l2 l3 true)) = some r := h
 clear h
 have HC5 := Aside0.mk H
 clear H
 go_enter Tryd.func14, Tryd.ntmps14
 go_upto_region 1 with (fail)
 go_cut [21] (fun v21 wc => ∃ (kq : Nat) (x21_4 : Bool), v21 = .bool x21_4 ∧ Aside0 (laws_sameTries.j0 kq l0 l1 l2 l3 x21_4 = some r) ∧ Aside0 (kq ≤ k) ∧ Aside0 (Below w.heap.size w wc))
 case first =>
  have H := HC5.out
  clear HC5
  by_cases c6 : (l0.length : Int) = (l1.length : Int)
  ·rw [if_pos c6] at H
   have c6b0 : ((l0.length : Int) == (l1.length : Int)) = true := beq_iff_eq.mpr c6
   have c6b1 : ((l0.length : Int) != (l1.length : Int)) = false := bne_eq_false_iff_eq.mpr c6
   have c6b2 : (l0.length == l1.length) = true := by first | simpa using c6 | (simp at c6 ⊢; omega)
   clear c6
   (first | rw [c6b0] | (simp only [i64_w, i32_w]; rw [c6b0]) | skip)
   have H' := Aside0.mk H
   clear H
   go_wp2
   go_meet
   case rel => exact ⟨_, (((l0.length : Int) != (l3.length : Int))), (by first | rfl | (simp; done) | (simp [*]; done)), H', ⟨by first | omega | exact Nat.le_refl _⟩, ⟨by repeat (first | (with_reducible first | exact HB.out | apply below_alloc | apply pw_below_drewN | apply below_drew1) | exact HB.out)⟩⟩
  ·rw [if_neg c6] at H
   have c6b0 : ((l0.length : Int) == (l1.length : Int)) = false := beq_eq_false_iff_ne.mpr c6
   have c6b1 : ((l0.length : Int) != (l1.length : Int)) = true := bne_iff_ne.mpr c6
   have c6b2 : (l0.length == l1.length) = false := by first | simpa using c6 | (simp at c6 ⊢; omega)
   (first | rw [c6b0] | (simp only [i64_w, i32_w]; rw [c6b0]) | skip)
   have H' := Aside0.mk H
   clear H
   go_wp2
   go_meet
   case rel => exact ⟨_, (true), (by first | rfl | (simp; done) | (simp [*]; done)), H', ⟨by first | omega | exact Nat.le_refl _⟩, ⟨by repeat (first | (with_reducible first | exact HB.out | apply below_alloc | apply pw_below_drewN | apply below_drew1) | exact HB.out)⟩⟩
 case rest =>
  clear HC5
  try clear c1
  try clear c2
  try clear p2
  try clear c3
  try clear c6
  try clear c6b0
  try clear c6b1
  try clear c6b2
  obtain ⟨kq, x21_4, rfl, HA, HJ4, HB⟩ := hcut
  cases kq with
  | zero => exact absurd HA.out (by simp [laws_sameTries.j0])
  | succ kj4 =>
   have H := HA.out
   clear HA
   simp only [laws_sameTries.j0] at H
   by_cases c7 : x21_4 = true
   ·subst c7
    have H1 : (some false) = some r := by rw [if_pos rfl] at H; exact H
    clear H
    have H := H1
    clear H1
    obtain rfl := Option.some.inj H
    go_wp2
    go_ret
    exact ⟨by first | rfl | (simp [errW_none, errW_some] <;> rfl) | (simp [*, errW_none, errW_some] <;> rfl), by repeat (first | (with_reducible first | exact HB.out | apply below_alloc | apply pw_below_drewN | apply below_drew1) | exact HB.out)⟩
   ·replace c7 := Bool.eq_false_iff.mpr c7
    subst c7
    have H1 : (laws_sameTries.l0 kj4 l0 l1 l2 l3 (l0.length : Int) 0) = some r := by rw [if_neg (show ¬ (false = true) by decide)] at H; exact H
    clear H
    have H := H1
    clear H1
    have H' := Aside0.mk H
    clear H
    go_wp2
    go_loopg [24] kj4 (fun kq v24 w' => ∃ (x24_2 : Int), v24 = .int .i64 x24_2 ∧ Aside0 (laws_sameTries.l0 kq l0 l1 l2 l3 (l0.length : Int) x24_2 = some r) ∧ Aside0 (kq ≤ kj4) ∧ Aside0 (Below w.heap.size w w'))
    case atStart => exact ⟨(0), (by first | rfl | (simp; done) | (simp [*]; done)), H', ⟨Nat.le_refl _⟩, ⟨by repeat (first | (with_reducible first | exact HB.out | apply below_alloc | apply pw_below_drewN | apply below_drew1) | exact HB.out)⟩⟩
    case round =>
     clear H'
     try clear c1
     try clear c2
     try clear p2
     try clear c3
     try clear c6
     try clear c6b0
     try clear c6b1
     try clear c6b2
     try clear c7
     try clear p2
     obtain ⟨x24_2, rfl, HA, HK2, HB⟩ := hrel
     cases gk with
     | zero => exact absurd HA.out (by simp [laws_sameTries.l0])
     | succ k2 =>
      have H := HA.out
      clear HA
      simp only [laws_sameTries.l0] at H
      by_cases c8 : x24_2 < (l0.length : Int)
      ·rw [if_pos c8] at H
       have c8b0 : decide (x24_2 < (l0.length : Int)) = true := decide_eq_true c8
       clear c8
       by_cases c9 : 0 ≤ x24_2
       ·rw [if_pos c9] at H
        have c9b0 : decide (0 ≤ x24_2) = true := decide_eq_true c9
        clear c9
        by_cases c10 : x24_2 < (l0.length : Int)
        ·rw [if_pos c10] at H
         have c10b0 : decide (x24_2 < (l0.length : Int)) = true := decide_eq_true c10
         clear c10
         by_cases c11 : x24_2 < (l1.length : Int)
         ·rw [if_pos c11] at H
          have c11b0 : decide (x24_2 < (l1.length : Int)) = true := decide_eq_true c11
          clear c11
          by_cases c12 : x24_2 < (l3.length : Int)
          ·rw [if_pos c12] at H
           have c12b0 : decide (x24_2 < (l3.length : Int)) = true := decide_eq_true c12
           clear c12
           replace H := Option.bind_eq_some_iff.mp H
           obtain ⟨t149, A130, H⟩ := H
           replace H : ((laws_sameTrie.f k2 ((rd_T46 l0 x24_2).f0.f0) ((rd_T46 l0 x24_2).f0.f1) ((rd_T46 l0 x24_2).f1.f0) ((rd_T46 l0 x24_2).f1.f1) ((rd_T46 l0 x24_2).f2) ((rd_T46 l0 x24_2).f3) ((rd_T46 l1 x24_2).f0.f0) ((rd_T46 l1 x24_2).f0.f1) ((rd_T46 l1 x24_2).f1.f0) ((rd_T46 l1 x24_2).f1.f1) ((rd_T46 l1 x24_2).f2) ((rd_T46 l1 x24_2).f3) t149).bind fun t150 => (if t150 = true then (laws_sameTries.l0 k2 l0 l1 l2 l3 (l0.length : Int) (wrap64 (x24_2 + 1))) else (some false))) = some r := H
           have A13 := Aside0.mk A130
           clear A130
           replace H := Option.bind_eq_some_iff.mp H
           obtain ⟨t150, A140, H⟩ := H
           replace H : (if t150 = true then (laws_sameTries.l0 k2 l0 l1 l2 l3 (l0.length : Int) (wrap64 (x24_2 + 1))) else (some false)) = some r := H
           have A14 := Aside0.mk A140
           clear A140
           by_cases c15 : t150 = true
           ·subst c15
            have H1 : (laws_sameTries.l0 k2 l0 l1 l2 l3 (l0.length : Int) (wrap64 (x24_2 + 1))) = some r := by rw [if_pos rfl] at H; exact H
            clear H
            have H := H1
            clear H1
            have H' := Aside0.mk H
            clear H
            try go_wp2
            have n0_ := Aside0.mk (below_drew1 HB.out)
            clear HB
            have HB := n0_
            clear n0_
            have p146 : 0 ≤ (x24_2 : Int) := of_decide_eq_true (by first | (with_reducible assumption) | assumption)
            have q146 : x24_2 < (l0.length : Int) := of_decide_eq_true (by first | (with_reducible assumption) | assumption)
            obtain ⟨ad146, A146_4, c146_4, A146_5, c146_5, e146, hx146_0, hx146_1, hx146_2, hx146_3, hx146_4, hx146_5, hl146_4, hi146_4, hl146_5, hi146_5⟩ := at_T46 HR0.out x24_2 p146 q146
            have hw146_5 := hx146_5
            have hw146_4 := hx146_4
            have hw146_3 := hx146_3
            have hw146_2 := hx146_2
            have hw146_1 := hx146_1
            have hw146_0 := hx146_0
            cases e146
            replace hx146_0 := (HB.out.cell (World.block_lt_of_cell? w _ hx146_0)).trans hx146_0
            replace hx146_1 := (HB.out.cell (World.block_lt_of_cell? w _ hx146_1)).trans hx146_1
            replace hx146_2 := (HB.out.cell (World.block_lt_of_cell? w _ hx146_2)).trans hx146_2
            replace hx146_3 := (HB.out.cell (World.block_lt_of_cell? w _ hx146_3)).trans hx146_3
            replace hx146_4 := (HB.out.cell (World.block_lt_of_cell? w _ hx146_4)).trans hx146_4
            replace hx146_5 := (HB.out.cell (World.block_lt_of_cell? w _ hx146_5)).trans hx146_5
            have HR146_4 := Aside0.mk hi146_4
            have HC146_4 := Aside0.mk hl146_4
            clear hi146_4 hl146_4
            have HR146_5 := Aside0.mk hi146_5
            have HC146_5 := Aside0.mk hl146_5
            clear hi146_5 hl146_5
            replace p146 := eq_true p146
            replace q146 := eq_true q146
            have p147 : 0 ≤ (x24_2 : Int) := of_decide_eq_true (by first | (with_reducible assumption) | assumption)
            have q147 : x24_2 < (l1.length : Int) := of_decide_eq_true (by first | (with_reducible assumption) | assumption)
            obtain ⟨ad147, A147_4, c147_4, A147_5, c147_5, e147, hx147_0, hx147_1, hx147_2, hx147_3, hx147_4, hx147_5, hl147_4, hi147_4, hl147_5, hi147_5⟩ := at_T46 HR1.out x24_2 p147 q147
            have hw147_5 := hx147_5
            have hw147_4 := hx147_4
            have hw147_3 := hx147_3
            have hw147_2 := hx147_2
            have hw147_1 := hx147_1
            have hw147_0 := hx147_0
            cases e147
            replace hx147_0 := (HB.out.cell (World.block_lt_of_cell? w _ hx147_0)).trans hx147_0
            replace hx147_1 := (HB.out.cell (World.block_lt_of_cell? w _ hx147_1)).trans hx147_1
            replace hx147_2 := (HB.out.cell (World.block_lt_of_cell? w _ hx147_2)).trans hx147_2
            replace hx147_3 := (HB.out.cell (World.block_lt_of_cell? w _ hx147_3)).trans hx147_3
            replace hx147_4 := (HB.out.cell (World.block_lt_of_cell? w _ hx147_4)).trans hx147_4
            replace hx147_5 := (HB.out.cell (World.block_lt_of_cell? w _ hx147_5)).trans hx147_5
            have HR147_4 := Aside0.mk hi147_4
            have HC147_4 := Aside0.mk hl147_4
            clear hi147_4 hl147_4
            have HR147_5 := Aside0.mk hi147_5
            have HC147_5 := Aside0.mk hl147_5
            clear hi147_5 hl147_5
            replace p147 := eq_true p147
            replace q147 := eq_true q147
            have p148 : 0 ≤ (x24_2 : Int) := of_decide_eq_true (by first | (with_reducible assumption) | assumption)
            have q148 : x24_2 < (l3.length : Int) := of_decide_eq_true (by first | (with_reducible assumption) | assumption)
            obtain ⟨ad148, e148, hx148_0⟩ := Kd.at_string HR3.out x24_2 p148 q148
            have hw148_0 := hx148_0
            cases e148
            replace hx148_0 := (HB.out.cell (World.block_lt_of_cell? w _ hx148_0)).trans hx148_0
            replace p148 := eq_true p148
            replace q148 := eq_true q148
            refine start_ (n := 16) (S := fun w' => w'.cell? (ad146.add ((x24_2).toNat * 6)) = some (.int .i64 ((rd_T46 l0 x24_2).f0.f0)) ∧ w'.cell? ⟨(ad146.add ((x24_2).toNat * 6)).block, (ad146.add ((x24_2).toNat * 6)).off + 1, none⟩ = some (.bool ((rd_T46 l0 x24_2).f0.f1)) ∧ w'.cell? ⟨(ad146.add ((x24_2).toNat * 6)).block, (ad146.add ((x24_2).toNat * 6)).off + 2, none⟩ = some (.int .i64 ((rd_T46 l0 x24_2).f1.f0)) ∧ w'.cell? ⟨(ad146.add ((x24_2).toNat * 6)).block, (ad146.add ((x24_2).toNat * 6)).off + 3, none⟩ = some (.bool ((rd_T46 l0 x24_2).f1.f1)) ∧ w'.cell? ⟨(ad146.add ((x24_2).toNat * 6)).block, (ad146.add ((x24_2).toNat * 6)).off + 4, none⟩ = some (.slice A146_4 ((rd_T46 l0 x24_2).f2).length c146_4) ∧ w'.cell? ⟨(ad146.add ((x24_2).toNat * 6)).block, (ad146.add ((x24_2).toNat * 6)).off + 5, none⟩ = some (.slice A146_5 ((rd_T46 l0 x24_2).f3).length c146_5) ∧ w'.cell? (ad147.add ((x24_2).toNat * 6)) = some (.int .i64 ((rd_T46 l1 x24_2).f0.f0)) ∧ w'.cell? ⟨(ad147.add ((x24_2).toNat * 6)).block, (ad147.add ((x24_2).toNat * 6)).off + 1, none⟩ = some (.bool ((rd_T46 l1 x24_2).f0.f1)) ∧ w'.cell? ⟨(ad147.add ((x24_2).toNat * 6)).block, (ad147.add ((x24_2).toNat * 6)).off + 2, none⟩ = some (.int .i64 ((rd_T46 l1 x24_2).f1.f0)) ∧ w'.cell? ⟨(ad147.add ((x24_2).toNat * 6)).block, (ad147.add ((x24_2).toNat * 6)).off + 3, none⟩ = some (.bool ((rd_T46 l1 x24_2).f1.f1)) ∧ w'.cell? ⟨(ad147.add ((x24_2).toNat * 6)).block, (ad147.add ((x24_2).toNat * 6)).off + 4, none⟩ = some (.slice A147_4 ((rd_T46 l1 x24_2).f2).length c147_4) ∧ w'.cell? ⟨(ad147.add ((x24_2).toNat * 6)).block, (ad147.add ((x24_2).toNat * 6)).off + 5, none⟩ = some (.slice A147_5 ((rd_T46 l1 x24_2).f3).length c147_5) ∧ w'.cell? (ad148.add (x24_2).toNat) = some (.string (rdOf ByteArray.empty l3 x24_2))) (ds := []) #[false, false, false, false, false, false, false, false, false, false, false, false, false, false, false, false] (by kernel_rfl) rfl rfl ⟨((HB.out.cell (World.block_lt_of_cell? w _ hw146_0)).trans hw146_0), ((HB.out.cell (World.block_lt_of_cell? w _ hw146_1)).trans hw146_1), ((HB.out.cell (World.block_lt_of_cell? w _ hw146_2)).trans hw146_2), ((HB.out.cell (World.block_lt_of_cell? w _ hw146_3)).trans hw146_3), ((HB.out.cell (World.block_lt_of_cell? w _ hw146_4)).trans hw146_4), ((HB.out.cell (World.block_lt_of_cell? w _ hw146_5)).trans hw146_5), ((HB.out.cell (World.block_lt_of_cell? w _ hw147_0)).trans hw147_0), ((HB.out.cell (World.block_lt_of_cell? w _ hw147_1)).trans hw147_1), ((HB.out.cell (World.block_lt_of_cell? w _ hw147_2)).trans hw147_2), ((HB.out.cell (World.block_lt_of_cell? w _ hw147_3)).trans hw147_3), ((HB.out.cell (World.block_lt_of_cell? w _ hw147_4)).trans hw147_4), ((HB.out.cell (World.block_lt_of_cell? w _ hw147_5)).trans hw147_5), ((HB.out.cell (World.block_lt_of_cell? w _ hw148_0)).trans hw148_0)⟩ (fun hHeld => ?_); refine with_tabW laws_sameTries.tab6 laws_sameTries.bits6 (fun HT_ HW_ => ?_)
            generalize wr.drew = w16 at HB HR146_4 HR146_5 HR147_4 HR147_5 hx146_0 hx146_1 hx146_2 hx146_3 hx146_4 hx146_5 hx147_0 hx147_1 hx147_2 hx147_3 hx147_4 hx147_5 hx148_0 hHeld ⊢
            refine pure_ (i := 0) (N := some 27) (v := ?_) (a' := ?_) #[true, false, false, false, false, false, false, false, false, false, false, false, false, false, false, false] rfl rfl (any_of HT_.out (by kernel_rfl)) (fun _ _ _ h => h) (Or.inl ⟨by rfl, ?_⟩) ?_ ?_
            rotate_left
            ·intro w'
             go_simp
             with_reducible rfl
            rotate_left
            ·simp only [Act.put, List.setIfInBounds_toArray, List.set_cons_zero, List.set_cons_succ, i64_w, i32_w]
             rfl
            refine pure_ (i := 1) (N := some 28) (v := ?_) (a' := ?_) #[true, true, false, false, false, false, false, false, false, false, false, false, false, false, false, false] rfl rfl (any_of HT_.out (by kernel_rfl)) (fun _ _ _ h => h) (Or.inl ⟨by rfl, ?_⟩) ?_ ?_
            rotate_left
            ·intro w'
             go_simp
             with_reducible rfl
            rotate_left
            ·simp only [Act.put, List.setIfInBounds_toArray, List.set_cons_zero, List.set_cons_succ, i64_w, i32_w]
             rfl
            refine pure_ (i := 2) (N := some 29) (v := ?_) (a' := ?_) #[true, true, true, false, false, false, false, false, false, false, false, false, false, false, false, false] rfl rfl (any_of HT_.out (by kernel_rfl)) (fun _ _ _ h => h) (Or.inl ⟨by rfl, ?_⟩) ?_ ?_
            rotate_left
            ·intro w'
             go_simp
             with_reducible rfl
            rotate_left
            ·simp only [Act.put, List.setIfInBounds_toArray, List.set_cons_zero, List.set_cons_succ, i64_w, i32_w]
             rfl
            refine pure_ (i := 4) (N := some 31) (v := ?_) (a' := ?_) #[true, true, true, false, true, false, false, false, false, false, false, false, false, false, false, false] rfl rfl (any_of HT_.out (by kernel_rfl)) (fun _ _ _ h => h) (Or.inl ⟨by rfl, ?_⟩) ?_ ?_
            rotate_left
            ·intro w'
             go_simp
             with_reducible rfl
            rotate_left
            ·simp only [Act.put, List.setIfInBounds_toArray, List.set_cons_zero, List.set_cons_succ, i64_w, i32_w]
             rfl
            refine pure_ (i := 5) (N := some 32) (v := ?_) (a' := ?_) #[true, true, true, false, true, true, false, false, false, false, false, false, false, false, false, false] rfl rfl (any_of HT_.out (by kernel_rfl)) (fun _ _ _ h => h) (Or.inl ⟨by rfl, ?_⟩) ?_ ?_
            rotate_left
            ·intro w'
             go_simp
             with_reducible rfl
            rotate_left
            ·simp only [Act.put, List.setIfInBounds_toArray, List.set_cons_zero, List.set_cons_succ, i64_w, i32_w]
             rfl
            refine pure_ (i := 6) (N := some 33) (v := ?_) (a' := ?_) #[true, true, true, false, true, true, true, false, false, false, false, false, false, false, false, false] rfl rfl (any_of HT_.out (by kernel_rfl)) (fun _ _ _ h => h) (Or.inl ⟨by rfl, ?_⟩) ?_ ?_
            rotate_left
            ·intro w'
             go_simp
             with_reducible rfl
            rotate_left
            ·simp only [Act.put, List.setIfInBounds_toArray, List.set_cons_zero, List.set_cons_succ, i64_w, i32_w]
             rfl
            refine pure_ (i := 8) (N := some 35) (v := ?_) (a' := ?_) #[true, true, true, false, true, true, true, false, true, false, false, false, false, false, false, false] rfl rfl (any_of HT_.out (by kernel_rfl)) (fun _ _ _ h => h) (Or.inl ⟨by rfl, ?_⟩) ?_ ?_
            rotate_left
            ·intro w'
             go_simp
             with_reducible rfl
            rotate_left
            ·simp only [Act.put, List.setIfInBounds_toArray, List.set_cons_zero, List.set_cons_succ, i64_w, i32_w]
             rfl
            refine pure_ (i := 9) (N := some 36) (v := ?_) (a' := ?_) #[true, true, true, false, true, true, true, false, true, true, false, false, false, false, false, false] rfl rfl (any_of HT_.out (by kernel_rfl)) (fun _ _ _ h => h) (Or.inl ⟨by rfl, ?_⟩) ?_ ?_
            rotate_left
            ·intro w'
             go_simp
             with_reducible rfl
            rotate_left
            ·simp only [Act.put, List.setIfInBounds_toArray, List.set_cons_zero, List.set_cons_succ, i64_w, i32_w]
             rfl
            refine pure_ (i := 10) (N := some 37) (v := ?_) (a' := ?_) #[true, true, true, false, true, true, true, false, true, true, true, false, false, false, false, false] rfl rfl (any_of HT_.out (by kernel_rfl)) (fun _ _ _ h => h) (Or.inl ⟨by rfl, ?_⟩) ?_ ?_
            rotate_left
            ·intro w'
             go_simp
             with_reducible rfl
            rotate_left
            ·simp only [Act.put, List.setIfInBounds_toArray, List.set_cons_zero, List.set_cons_succ, i64_w, i32_w]
             rfl
            refine pure_ (i := 11) (N := some 38) (v := ?_) (a' := ?_) #[true, true, true, false, true, true, true, false, true, true, true, true, false, false, false, false] rfl rfl (any_of HT_.out (by kernel_rfl)) (fun _ _ _ h => h) (Or.inl ⟨by rfl, ?_⟩) ?_ ?_
            rotate_left
            ·intro w'
             go_simp
             with_reducible rfl
            rotate_left
            ·simp only [Act.put, List.setIfInBounds_toArray, List.set_cons_zero, List.set_cons_succ, i64_w, i32_w]
             rfl
            refine take_ (i := 3) (N := some 30) (v := ?_) (a' := ?_) #[true, true, true, true, true, true, true, false, true, true, true, true, false, false, false, false] rfl rfl (take_ofW HT_.out HW_.out (by kernel_rfl)) (fun _ _ _ h => h) (Or.inl ⟨by rfl, ?_⟩) hHeld ?_ ?_
            rotate_left
            ·rintro w' ⟨s0, s1, s2, s3, s4, s5, s6, s7, s8, s9, s10, s11, s12⟩
             go_simp
             with_reducible rfl
            rotate_left
            ·simp only [Act.put, List.setIfInBounds_toArray, List.set_cons_zero, List.set_cons_succ, i64_w, i32_w]
             rfl
            refine take_ (i := 7) (N := some 34) (v := ?_) (a' := ?_) #[true, true, true, true, true, true, true, true, true, true, true, true, false, false, false, false] rfl rfl (take_ofW HT_.out HW_.out (by kernel_rfl)) (fun _ _ _ h => h) (Or.inl ⟨by rfl, ?_⟩) hHeld ?_ ?_
            rotate_left
            ·rintro w' ⟨s0, s1, s2, s3, s4, s5, s6, s7, s8, s9, s10, s11, s12⟩
             go_simp
             with_reducible rfl
            rotate_left
            ·simp only [Act.put, List.setIfInBounds_toArray, List.set_cons_zero, List.set_cons_succ, i64_w, i32_w]
             rfl
            refine take_ (i := 12) (N := some 39) (v := ?_) (a' := ?_) #[true, true, true, true, true, true, true, true, true, true, true, true, true, false, false, false] rfl rfl (take_ofW HT_.out HW_.out (by kernel_rfl)) (fun _ _ _ h => h) (Or.inl ⟨by rfl, ?_⟩) hHeld ?_ ?_
            rotate_left
            ·rintro w' ⟨s0, s1, s2, s3, s4, s5, s6, s7, s8, s9, s10, s11, s12⟩
             go_simp
             with_reducible rfl
            rotate_left
            ·simp only [Act.put, List.setIfInBounds_toArray, List.set_cons_zero, List.set_cons_succ, i64_w, i32_w]
             rfl
            refine one_ (i := 13) (N := some 40) #[true, true, true, true, true, true, true, true, true, true, true, true, true, true, false, false] rfl rfl (one_of HT_.out (by kernel_rfl)) (by decide) (fun K hK => ?_)
            refine goes_ Tryd.func28 (by kernel_rfl) rfl #[.slice A2 l2.length c2, .string (rdOf ByteArray.empty l3 x24_2)] (by rfl) rfl rfl (by (try simp only [List.map_toArray, List.map_cons, List.map_nil]); first | done | rfl | (simp only [List.length_drop, List.length_take]; rfl)) ?_
            with_reducible refine (spec_Half.calls k2 _ _ l2 (rdOf ByteArray.empty l3 x24_2) t149 _ ?side1 ?side2 A13.out).mono ?_
            (case side1 => repeat (first | exact (Kd.C_below HR2.out HB.out) | (with_reducible refine Kd.C_alloc ?_ _) | (with_reducible refine Kd.C_drewN ?_ _) | (with_reducible refine Kd.C_drew ?_)))
            (case side2 => exact HC2.out)
            rintro e w' ⟨rfl, ⟨nd, rfl⟩⟩
            refine ⟨_, rfl, ?_⟩
            refine hK.out _ _ ⟨((HB.out.cell (World.block_lt_of_cell? w _ hw146_0)).trans hw146_0), ((HB.out.cell (World.block_lt_of_cell? w _ hw146_1)).trans hw146_1), ((HB.out.cell (World.block_lt_of_cell? w _ hw146_2)).trans hw146_2), ((HB.out.cell (World.block_lt_of_cell? w _ hw146_3)).trans hw146_3), ((HB.out.cell (World.block_lt_of_cell? w _ hw146_4)).trans hw146_4), ((HB.out.cell (World.block_lt_of_cell? w _ hw146_5)).trans hw146_5), ((HB.out.cell (World.block_lt_of_cell? w _ hw147_0)).trans hw147_0), ((HB.out.cell (World.block_lt_of_cell? w _ hw147_1)).trans hw147_1), ((HB.out.cell (World.block_lt_of_cell? w _ hw147_2)).trans hw147_2), ((HB.out.cell (World.block_lt_of_cell? w _ hw147_3)).trans hw147_3), ((HB.out.cell (World.block_lt_of_cell? w _ hw147_4)).trans hw147_4), ((HB.out.cell (World.block_lt_of_cell? w _ hw147_5)).trans hw147_5), ((HB.out.cell (World.block_lt_of_cell? w _ hw148_0)).trans hw148_0)⟩ (fun hHeld => ?_)
            clear hK K
            refine norm_ (a' := ?_) ?_ ?_
            rotate_left
            ·show Act.put _ (some 40) _ = _
             simp only [Act.put, List.setIfInBounds_toArray, List.set_cons_zero, List.set_cons_succ, i64_w, i32_w]
             rfl
            refine one_ (i := 14) (N := some 41) #[true, true, true, true, true, true, true, true, true, true, true, true, true, true, true, false] rfl rfl (one_of HT_.out (by kernel_rfl)) (by decide) (fun K hK => ?_)
            refine goes_ Tryd.func27 (by kernel_rfl) rfl #[.agg #[.int .i64 ((rd_T46 l0 x24_2).f0.f0), .bool ((rd_T46 l0 x24_2).f0.f1), .int .i64 ((rd_T46 l0 x24_2).f1.f0), .bool ((rd_T46 l0 x24_2).f1.f1), .slice A146_4 ((rd_T46 l0 x24_2).f2).length c146_4, .slice A146_5 ((rd_T46 l0 x24_2).f3).length c146_5], .agg #[.int .i64 ((rd_T46 l1 x24_2).f0.f0), .bool ((rd_T46 l1 x24_2).f0.f1), .int .i64 ((rd_T46 l1 x24_2).f1.f0), .bool ((rd_T46 l1 x24_2).f1.f1), .slice A147_4 ((rd_T46 l1 x24_2).f2).length c147_4, .slice A147_5 ((rd_T46 l1 x24_2).f3).length c147_5], .bool t149] (by rfl) rfl rfl (by (try simp only [List.map_toArray, List.map_cons, List.map_nil]); first | done | rfl | (simp only [List.length_drop, List.length_take]; rfl)) ?_
            with_reducible refine (laws_sameTrie.calls k2 ((rd_T46 l0 x24_2).f0.f0) ((rd_T46 l0 x24_2).f0.f1) ((rd_T46 l0 x24_2).f1.f0) ((rd_T46 l0 x24_2).f1.f1) _ _ ((rd_T46 l0 x24_2).f2) _ _ ((rd_T46 l0 x24_2).f3) ((rd_T46 l1 x24_2).f0.f0) ((rd_T46 l1 x24_2).f0.f1) ((rd_T46 l1 x24_2).f1.f0) ((rd_T46 l1 x24_2).f1.f1) _ _ ((rd_T46 l1 x24_2).f2) _ _ ((rd_T46 l1 x24_2).f3) t149 true _ ?side1 ?side2 ?side3 ?side4 ?side5 ?side6 ?side7 ?side8 A14.out).mono ?_
            (case side1 => repeat (first | exact (Kd.C_below HR146_4.out (by repeat (first | (with_reducible first | exact HB.out | apply below_alloc | apply pw_below_drewN | apply below_drew1) | exact HB.out))) | (with_reducible refine Kd.C_alloc ?_ _) | (with_reducible refine Kd.C_drewN ?_ _) | (with_reducible refine Kd.C_drew ?_)))
            (case side2 => exact HC146_4.out)
            (case side3 => repeat (first | exact (Kd.C_below HR146_5.out (by repeat (first | (with_reducible first | exact HB.out | apply below_alloc | apply pw_below_drewN | apply below_drew1) | exact HB.out))) | (with_reducible refine Kd.C_alloc ?_ _) | (with_reducible refine Kd.C_drewN ?_ _) | (with_reducible refine Kd.C_drew ?_)))
            (case side4 => exact HC146_5.out)
            (case side5 => repeat (first | exact (Kd.C_below HR147_4.out (by repeat (first | (with_reducible first | exact HB.out | apply below_alloc | apply pw_below_drewN | apply below_drew1) | exact HB.out))) | (with_reducible refine Kd.C_alloc ?_ _) | (with_reducible refine Kd.C_drewN ?_ _) | (with_reducible refine Kd.C_drew ?_)))
            (case side6 => exact HC147_4.out)
            (case side7 => repeat (first | exact (Kd.C_below HR147_5.out (by repeat (first | (with_reducible first | exact HB.out | apply below_alloc | apply pw_below_drewN | apply below_drew1) | exact HB.out))) | (with_reducible refine Kd.C_alloc ?_ _) | (with_reducible refine Kd.C_drewN ?_ _) | (with_reducible refine Kd.C_drew ?_)))
            (case side8 => exact HC147_5.out)
            rintro e w17 ⟨rfl, hb⟩
            refine ⟨_, rfl, ?_⟩
            have n0_ := Aside0.mk (below_step (by repeat (first | (with_reducible first | exact HB.out | apply below_alloc | apply pw_below_drewN | apply below_drew1) | exact HB.out)) hb)
            clear HB
            have HB := n0_
            clear n0_
            (try clear hb)
            (try clear hb2)
            (try clear hk)
            (try clear hi)
            refine hK.out _ _ ⟨((HB.out.cell (World.block_lt_of_cell? w _ hw146_0)).trans hw146_0), ((HB.out.cell (World.block_lt_of_cell? w _ hw146_1)).trans hw146_1), ((HB.out.cell (World.block_lt_of_cell? w _ hw146_2)).trans hw146_2), ((HB.out.cell (World.block_lt_of_cell? w _ hw146_3)).trans hw146_3), ((HB.out.cell (World.block_lt_of_cell? w _ hw146_4)).trans hw146_4), ((HB.out.cell (World.block_lt_of_cell? w _ hw146_5)).trans hw146_5), ((HB.out.cell (World.block_lt_of_cell? w _ hw147_0)).trans hw147_0), ((HB.out.cell (World.block_lt_of_cell? w _ hw147_1)).trans hw147_1), ((HB.out.cell (World.block_lt_of_cell? w _ hw147_2)).trans hw147_2), ((HB.out.cell (World.block_lt_of_cell? w _ hw147_3)).trans hw147_3), ((HB.out.cell (World.block_lt_of_cell? w _ hw147_4)).trans hw147_4), ((HB.out.cell (World.block_lt_of_cell? w _ hw147_5)).trans hw147_5), ((HB.out.cell (World.block_lt_of_cell? w _ hw148_0)).trans hw148_0)⟩ (fun hHeld => ?_)
            clear hK K
            refine norm_ (a' := ?_) ?_ ?_
            rotate_left
            ·show Act.put _ (some 41) _ = _
             simp only [Act.put, List.setIfInBounds_toArray, List.set_cons_zero, List.set_cons_succ, i64_w, i32_w]
             rfl
            refine pure_ (i := 15) (N := some 42) (v := ?_) (a' := ?_) #[true, true, true, true, true, true, true, true, true, true, true, true, true, true, true, true] rfl rfl (any_of HT_.out (by kernel_rfl)) (fun _ _ _ h => h) (Or.inl ⟨by rfl, ?_⟩) ?_ ?_
            rotate_left
            ·intro w'
             go_simp
             with_reducible rfl
            rotate_left
            ·simp only [Act.put, List.setIfInBounds_toArray, List.set_cons_zero, List.set_cons_succ, i64_w, i32_w]
             rfl
            refine done_ (done_of HT_.out (by kernel_rfl)) ?_
            try go_wp2
            go_roundg k2
            case measure => have := HJ4.out; have := HK2.out; omega
            case rel => exact ⟨(wrap64 (x24_2 + 1)), (by first | rfl | (simp; done) | (simp [*]; done)), H', ⟨by have := HJ4.out; have := HK2.out; omega⟩, ⟨by repeat (first | (with_reducible first | exact HB.out | apply below_alloc | apply pw_below_drewN | apply below_drew1) | exact HB.out)⟩⟩
           ·replace c15 := Bool.eq_false_iff.mpr c15
            subst c15
            have H1 : (some false) = some r := by rw [if_neg (show ¬ (false = true) by decide)] at H; exact H
            clear H
            have H := H1
            clear H1
            obtain rfl := Option.some.inj H
            try go_wp2
            have n0_ := Aside0.mk (below_drew1 HB.out)
            clear HB
            have HB := n0_
            clear n0_
            have p146 : 0 ≤ (x24_2 : Int) := of_decide_eq_true (by first | (with_reducible assumption) | assumption)
            have q146 : x24_2 < (l0.length : Int) := of_decide_eq_true (by first | (with_reducible assumption) | assumption)
            obtain ⟨ad146, A146_4, c146_4, A146_5, c146_5, e146, hx146_0, hx146_1, hx146_2, hx146_3, hx146_4, hx146_5, hl146_4, hi146_4, hl146_5, hi146_5⟩ := at_T46 HR0.out x24_2 p146 q146
            have hw146_5 := hx146_5
            have hw146_4 := hx146_4
            have hw146_3 := hx146_3
            have hw146_2 := hx146_2
            have hw146_1 := hx146_1
            have hw146_0 := hx146_0
            cases e146
            replace hx146_0 := (HB.out.cell (World.block_lt_of_cell? w _ hx146_0)).trans hx146_0
            replace hx146_1 := (HB.out.cell (World.block_lt_of_cell? w _ hx146_1)).trans hx146_1
            replace hx146_2 := (HB.out.cell (World.block_lt_of_cell? w _ hx146_2)).trans hx146_2
            replace hx146_3 := (HB.out.cell (World.block_lt_of_cell? w _ hx146_3)).trans hx146_3
            replace hx146_4 := (HB.out.cell (World.block_lt_of_cell? w _ hx146_4)).trans hx146_4
            replace hx146_5 := (HB.out.cell (World.block_lt_of_cell? w _ hx146_5)).trans hx146_5
            have HR146_4 := Aside0.mk hi146_4
            have HC146_4 := Aside0.mk hl146_4
            clear hi146_4 hl146_4
            have HR146_5 := Aside0.mk hi146_5
            have HC146_5 := Aside0.mk hl146_5
            clear hi146_5 hl146_5
            replace p146 := eq_true p146
            replace q146 := eq_true q146
            have p147 : 0 ≤ (x24_2 : Int) := of_decide_eq_true (by first | (with_reducible assumption) | assumption)
            have q147 : x24_2 < (l1.length : Int) := of_decide_eq_true (by first | (with_reducible assumption) | assumption)
            obtain ⟨ad147, A147_4, c147_4, A147_5, c147_5, e147, hx147_0, hx147_1, hx147_2, hx147_3, hx147_4, hx147_5, hl147_4, hi147_4, hl147_5, hi147_5⟩ := at_T46 HR1.out x24_2 p147 q147
            have hw147_5 := hx147_5
            have hw147_4 := hx147_4
            have hw147_3 := hx147_3
            have hw147_2 := hx147_2
            have hw147_1 := hx147_1
            have hw147_0 := hx147_0
            cases e147
            replace hx147_0 := (HB.out.cell (World.block_lt_of_cell? w _ hx147_0)).trans hx147_0
            replace hx147_1 := (HB.out.cell (World.block_lt_of_cell? w _ hx147_1)).trans hx147_1
            replace hx147_2 := (HB.out.cell (World.block_lt_of_cell? w _ hx147_2)).trans hx147_2
            replace hx147_3 := (HB.out.cell (World.block_lt_of_cell? w _ hx147_3)).trans hx147_3
            replace hx147_4 := (HB.out.cell (World.block_lt_of_cell? w _ hx147_4)).trans hx147_4
            replace hx147_5 := (HB.out.cell (World.block_lt_of_cell? w _ hx147_5)).trans hx147_5
            have HR147_4 := Aside0.mk hi147_4
            have HC147_4 := Aside0.mk hl147_4
            clear hi147_4 hl147_4
            have HR147_5 := Aside0.mk hi147_5
            have HC147_5 := Aside0.mk hl147_5
            clear hi147_5 hl147_5
            replace p147 := eq_true p147
            replace q147 := eq_true q147
            have p148 : 0 ≤ (x24_2 : Int) := of_decide_eq_true (by first | (with_reducible assumption) | assumption)
            have q148 : x24_2 < (l3.length : Int) := of_decide_eq_true (by first | (with_reducible assumption) | assumption)
            obtain ⟨ad148, e148, hx148_0⟩ := Kd.at_string HR3.out x24_2 p148 q148
            have hw148_0 := hx148_0
            cases e148
            replace hx148_0 := (HB.out.cell (World.block_lt_of_cell? w _ hx148_0)).trans hx148_0
            replace p148 := eq_true p148
            replace q148 := eq_true q148
            refine start_ (n := 16) (S := fun w' => w'.cell? (ad146.add ((x24_2).toNat * 6)) = some (.int .i64 ((rd_T46 l0 x24_2).f0.f0)) ∧ w'.cell? ⟨(ad146.add ((x24_2).toNat * 6)).block, (ad146.add ((x24_2).toNat * 6)).off + 1, none⟩ = some (.bool ((rd_T46 l0 x24_2).f0.f1)) ∧ w'.cell? ⟨(ad146.add ((x24_2).toNat * 6)).block, (ad146.add ((x24_2).toNat * 6)).off + 2, none⟩ = some (.int .i64 ((rd_T46 l0 x24_2).f1.f0)) ∧ w'.cell? ⟨(ad146.add ((x24_2).toNat * 6)).block, (ad146.add ((x24_2).toNat * 6)).off + 3, none⟩ = some (.bool ((rd_T46 l0 x24_2).f1.f1)) ∧ w'.cell? ⟨(ad146.add ((x24_2).toNat * 6)).block, (ad146.add ((x24_2).toNat * 6)).off + 4, none⟩ = some (.slice A146_4 ((rd_T46 l0 x24_2).f2).length c146_4) ∧ w'.cell? ⟨(ad146.add ((x24_2).toNat * 6)).block, (ad146.add ((x24_2).toNat * 6)).off + 5, none⟩ = some (.slice A146_5 ((rd_T46 l0 x24_2).f3).length c146_5) ∧ w'.cell? (ad147.add ((x24_2).toNat * 6)) = some (.int .i64 ((rd_T46 l1 x24_2).f0.f0)) ∧ w'.cell? ⟨(ad147.add ((x24_2).toNat * 6)).block, (ad147.add ((x24_2).toNat * 6)).off + 1, none⟩ = some (.bool ((rd_T46 l1 x24_2).f0.f1)) ∧ w'.cell? ⟨(ad147.add ((x24_2).toNat * 6)).block, (ad147.add ((x24_2).toNat * 6)).off + 2, none⟩ = some (.int .i64 ((rd_T46 l1 x24_2).f1.f0)) ∧ w'.cell? ⟨(ad147.add ((x24_2).toNat * 6)).block, (ad147.add ((x24_2).toNat * 6)).off + 3, none⟩ = some (.bool ((rd_T46 l1 x24_2).f1.f1)) ∧ w'.cell? ⟨(ad147.add ((x24_2).toNat * 6)).block, (ad147.add ((x24_2).toNat * 6)).off + 4, none⟩ = some (.slice A147_4 ((rd_T46 l1 x24_2).f2).length c147_4) ∧ w'.cell? ⟨(ad147.add ((x24_2).toNat * 6)).block, (ad147.add ((x24_2).toNat * 6)).off + 5, none⟩ = some (.slice A147_5 ((rd_T46 l1 x24_2).f3).length c147_5) ∧ w'.cell? (ad148.add (x24_2).toNat) = some (.string (rdOf ByteArray.empty l3 x24_2))) (ds := []) #[false, false, false, false, false, false, false, false, false, false, false, false, false, false, false, false] (by kernel_rfl) rfl rfl ⟨((HB.out.cell (World.block_lt_of_cell? w _ hw146_0)).trans hw146_0), ((HB.out.cell (World.block_lt_of_cell? w _ hw146_1)).trans hw146_1), ((HB.out.cell (World.block_lt_of_cell? w _ hw146_2)).trans hw146_2), ((HB.out.cell (World.block_lt_of_cell? w _ hw146_3)).trans hw146_3), ((HB.out.cell (World.block_lt_of_cell? w _ hw146_4)).trans hw146_4), ((HB.out.cell (World.block_lt_of_cell? w _ hw146_5)).trans hw146_5), ((HB.out.cell (World.block_lt_of_cell? w _ hw147_0)).trans hw147_0), ((HB.out.cell (World.block_lt_of_cell? w _ hw147_1)).trans hw147_1), ((HB.out.cell (World.block_lt_of_cell? w _ hw147_2)).trans hw147_2), ((HB.out.cell (World.block_lt_of_cell? w _ hw147_3)).trans hw147_3), ((HB.out.cell (World.block_lt_of_cell? w _ hw147_4)).trans hw147_4), ((HB.out.cell (World.block_lt_of_cell? w _ hw147_5)).trans hw147_5), ((HB.out.cell (World.block_lt_of_cell? w _ hw148_0)).trans hw148_0)⟩ (fun hHeld => ?_); refine with_tabW laws_sameTries.tab6 laws_sameTries.bits6 (fun HT_ HW_ => ?_)
            generalize wr.drew = w18 at HB HR146_4 HR146_5 HR147_4 HR147_5 hx146_0 hx146_1 hx146_2 hx146_3 hx146_4 hx146_5 hx147_0 hx147_1 hx147_2 hx147_3 hx147_4 hx147_5 hx148_0 hHeld ⊢
            refine pure_ (i := 0) (N := some 27) (v := ?_) (a' := ?_) #[true, false, false, false, false, false, false, false, false, false, false, false, false, false, false, false] rfl rfl (any_of HT_.out (by kernel_rfl)) (fun _ _ _ h => h) (Or.inl ⟨by rfl, ?_⟩) ?_ ?_
            rotate_left
            ·intro w'
             go_simp
             with_reducible rfl
            rotate_left
            ·simp only [Act.put, List.setIfInBounds_toArray, List.set_cons_zero, List.set_cons_succ, i64_w, i32_w]
             rfl
            refine pure_ (i := 1) (N := some 28) (v := ?_) (a' := ?_) #[true, true, false, false, false, false, false, false, false, false, false, false, false, false, false, false] rfl rfl (any_of HT_.out (by kernel_rfl)) (fun _ _ _ h => h) (Or.inl ⟨by rfl, ?_⟩) ?_ ?_
            rotate_left
            ·intro w'
             go_simp
             with_reducible rfl
            rotate_left
            ·simp only [Act.put, List.setIfInBounds_toArray, List.set_cons_zero, List.set_cons_succ, i64_w, i32_w]
             rfl
            refine pure_ (i := 2) (N := some 29) (v := ?_) (a' := ?_) #[true, true, true, false, false, false, false, false, false, false, false, false, false, false, false, false] rfl rfl (any_of HT_.out (by kernel_rfl)) (fun _ _ _ h => h) (Or.inl ⟨by rfl, ?_⟩) ?_ ?_
            rotate_left
            ·intro w'
             go_simp
             with_reducible rfl
            rotate_left
            ·simp only [Act.put, List.setIfInBounds_toArray, List.set_cons_zero, List.set_cons_succ, i64_w, i32_w]
             rfl
            refine pure_ (i := 4) (N := some 31) (v := ?_) (a' := ?_) #[true, true, true, false, true, false, false, false, false, false, false, false, false, false, false, false] rfl rfl (any_of HT_.out (by kernel_rfl)) (fun _ _ _ h => h) (Or.inl ⟨by rfl, ?_⟩) ?_ ?_
            rotate_left
            ·intro w'
             go_simp
             with_reducible rfl
            rotate_left
            ·simp only [Act.put, List.setIfInBounds_toArray, List.set_cons_zero, List.set_cons_succ, i64_w, i32_w]
             rfl
            refine pure_ (i := 5) (N := some 32) (v := ?_) (a' := ?_) #[true, true, true, false, true, true, false, false, false, false, false, false, false, false, false, false] rfl rfl (any_of HT_.out (by kernel_rfl)) (fun _ _ _ h => h) (Or.inl ⟨by rfl, ?_⟩) ?_ ?_
            rotate_left
            ·intro w'
             go_simp
             with_reducible rfl
            rotate_left
            ·simp only [Act.put, List.setIfInBounds_toArray, List.set_cons_zero, List.set_cons_succ, i64_w, i32_w]
             rfl
            refine pure_ (i := 6) (N := some 33) (v := ?_) (a' := ?_) #[true, true, true, false, true, true, true, false, false, false, false, false, false, false, false, false] rfl rfl (any_of HT_.out (by kernel_rfl)) (fun _ _ _ h => h) (Or.inl ⟨by rfl, ?_⟩) ?_ ?_
            rotate_left
            ·intro w'
             go_simp
             with_reducible rfl
            rotate_left
            ·simp only [Act.put, List.setIfInBounds_toArray, List.set_cons_zero, List.set_cons_succ, i64_w, i32_w]
             rfl
            refine pure_ (i := 8) (N := some 35) (v := ?_) (a' := ?_) #[true, true, true, false, true, true, true, false, true, false, false, false, false, false, false, false] rfl rfl (any_of HT_.out (by kernel_rfl)) (fun _ _ _ h => h) (Or.inl ⟨by rfl, ?_⟩) ?_ ?_
            rotate_left
            ·intro w'
             go_simp
             with_reducible rfl
            rotate_left
            ·simp only [Act.put, List.setIfInBounds_toArray, List.set_cons_zero, List.set_cons_succ, i64_w, i32_w]
             rfl
            refine pure_ (i := 9) (N := some 36) (v := ?_) (a' := ?_) #[true, true, true, false, true, true, true, false, true, true, false, false, false, false, false, false] rfl rfl (any_of HT_.out (by kernel_rfl)) (fun _ _ _ h => h) (Or.inl ⟨by rfl, ?_⟩) ?_ ?_
            rotate_left
            ·intro w'
             go_simp
             with_reducible rfl
            rotate_left
            ·simp only [Act.put, List.setIfInBounds_toArray, List.set_cons_zero, List.set_cons_succ, i64_w, i32_w]
             rfl
            refine pure_ (i := 10) (N := some 37) (v := ?_) (a' := ?_) #[true, true, true, false, true, true, true, false, true, true, true, false, false, false, false, false] rfl rfl (any_of HT_.out (by kernel_rfl)) (fun _ _ _ h => h) (Or.inl ⟨by rfl, ?_⟩) ?_ ?_
            rotate_left
            ·intro w'
             go_simp
             with_reducible rfl
            rotate_left
            ·simp only [Act.put, List.setIfInBounds_toArray, List.set_cons_zero, List.set_cons_succ, i64_w, i32_w]
             rfl
            refine pure_ (i := 11) (N := some 38) (v := ?_) (a' := ?_) #[true, true, true, false, true, true, true, false, true, true, true, true, false, false, false, false] rfl rfl (any_of HT_.out (by kernel_rfl)) (fun _ _ _ h => h) (Or.inl ⟨by rfl, ?_⟩) ?_ ?_
            rotate_left
            ·intro w'
             go_simp
             with_reducible rfl
            rotate_left
            ·simp only [Act.put, List.setIfInBounds_toArray, List.set_cons_zero, List.set_cons_succ, i64_w, i32_w]
             rfl
            refine take_ (i := 3) (N := some 30) (v := ?_) (a' := ?_) #[true, true, true, true, true, true, true, false, true, true, true, true, false, false, false, false] rfl rfl (take_ofW HT_.out HW_.out (by kernel_rfl)) (fun _ _ _ h => h) (Or.inl ⟨by rfl, ?_⟩) hHeld ?_ ?_
            rotate_left
            ·rintro w' ⟨s0, s1, s2, s3, s4, s5, s6, s7, s8, s9, s10, s11, s12⟩
             go_simp
             with_reducible rfl
            rotate_left
            ·simp only [Act.put, List.setIfInBounds_toArray, List.set_cons_zero, List.set_cons_succ, i64_w, i32_w]
             rfl
            refine take_ (i := 7) (N := some 34) (v := ?_) (a' := ?_) #[true, true, true, true, true, true, true, true, true, true, true, true, false, false, false, false] rfl rfl (take_ofW HT_.out HW_.out (by kernel_rfl)) (fun _ _ _ h => h) (Or.inl ⟨by rfl, ?_⟩) hHeld ?_ ?_
            rotate_left
            ·rintro w' ⟨s0, s1, s2, s3, s4, s5, s6, s7, s8, s9, s10, s11, s12⟩
             go_simp
             with_reducible rfl
            rotate_left
            ·simp only [Act.put, List.setIfInBounds_toArray, List.set_cons_zero, List.set_cons_succ, i64_w, i32_w]
             rfl
            refine take_ (i := 12) (N := some 39) (v := ?_) (a' := ?_) #[true, true, true, true, true, true, true, true, true, true, true, true, true, false, false, false] rfl rfl (take_ofW HT_.out HW_.out (by kernel_rfl)) (fun _ _ _ h => h) (Or.inl ⟨by rfl, ?_⟩) hHeld ?_ ?_
            rotate_left
            ·rintro w' ⟨s0, s1, s2, s3, s4, s5, s6, s7, s8, s9, s10, s11, s12⟩
             go_simp
             with_reducible rfl
            rotate_left
            ·simp only [Act.put, List.setIfInBounds_toArray, List.set_cons_zero, List.set_cons_succ, i64_w, i32_w]
             rfl
            refine one_ (i := 13) (N := some 40) #[true, true, true, true, true, true, true, true, true, true, true, true, true, true, false, false] rfl rfl (one_of HT_.out (by kernel_rfl)) (by decide) (fun K hK => ?_)
            refine goes_ Tryd.func28 (by kernel_rfl) rfl #[.slice A2 l2.length c2, .string (rdOf ByteArray.empty l3 x24_2)] (by rfl) rfl rfl (by (try simp only [List.map_toArray, List.map_cons, List.map_nil]); first | done | rfl | (simp only [List.length_drop, List.length_take]; rfl)) ?_
            with_reducible refine (spec_Half.calls k2 _ _ l2 (rdOf ByteArray.empty l3 x24_2) t149 _ ?side1 ?side2 A13.out).mono ?_
            (case side1 => repeat (first | exact (Kd.C_below HR2.out HB.out) | (with_reducible refine Kd.C_alloc ?_ _) | (with_reducible refine Kd.C_drewN ?_ _) | (with_reducible refine Kd.C_drew ?_)))
            (case side2 => exact HC2.out)
            rintro e w' ⟨rfl, ⟨nd, rfl⟩⟩
            refine ⟨_, rfl, ?_⟩
            refine hK.out _ _ ⟨((HB.out.cell (World.block_lt_of_cell? w _ hw146_0)).trans hw146_0), ((HB.out.cell (World.block_lt_of_cell? w _ hw146_1)).trans hw146_1), ((HB.out.cell (World.block_lt_of_cell? w _ hw146_2)).trans hw146_2), ((HB.out.cell (World.block_lt_of_cell? w _ hw146_3)).trans hw146_3), ((HB.out.cell (World.block_lt_of_cell? w _ hw146_4)).trans hw146_4), ((HB.out.cell (World.block_lt_of_cell? w _ hw146_5)).trans hw146_5), ((HB.out.cell (World.block_lt_of_cell? w _ hw147_0)).trans hw147_0), ((HB.out.cell (World.block_lt_of_cell? w _ hw147_1)).trans hw147_1), ((HB.out.cell (World.block_lt_of_cell? w _ hw147_2)).trans hw147_2), ((HB.out.cell (World.block_lt_of_cell? w _ hw147_3)).trans hw147_3), ((HB.out.cell (World.block_lt_of_cell? w _ hw147_4)).trans hw147_4), ((HB.out.cell (World.block_lt_of_cell? w _ hw147_5)).trans hw147_5), ((HB.out.cell (World.block_lt_of_cell? w _ hw148_0)).trans hw148_0)⟩ (fun hHeld => ?_)
            clear hK K
            refine norm_ (a' := ?_) ?_ ?_
            rotate_left
            ·show Act.put _ (some 40) _ = _
             simp only [Act.put, List.setIfInBounds_toArray, List.set_cons_zero, List.set_cons_succ, i64_w, i32_w]
             rfl
            refine one_ (i := 14) (N := some 41) #[true, true, true, true, true, true, true, true, true, true, true, true, true, true, true, false] rfl rfl (one_of HT_.out (by kernel_rfl)) (by decide) (fun K hK => ?_)
            refine goes_ Tryd.func27 (by kernel_rfl) rfl #[.agg #[.int .i64 ((rd_T46 l0 x24_2).f0.f0), .bool ((rd_T46 l0 x24_2).f0.f1), .int .i64 ((rd_T46 l0 x24_2).f1.f0), .bool ((rd_T46 l0 x24_2).f1.f1), .slice A146_4 ((rd_T46 l0 x24_2).f2).length c146_4, .slice A146_5 ((rd_T46 l0 x24_2).f3).length c146_5], .agg #[.int .i64 ((rd_T46 l1 x24_2).f0.f0), .bool ((rd_T46 l1 x24_2).f0.f1), .int .i64 ((rd_T46 l1 x24_2).f1.f0), .bool ((rd_T46 l1 x24_2).f1.f1), .slice A147_4 ((rd_T46 l1 x24_2).f2).length c147_4, .slice A147_5 ((rd_T46 l1 x24_2).f3).length c147_5], .bool t149] (by rfl) rfl rfl (by (try simp only [List.map_toArray, List.map_cons, List.map_nil]); first | done | rfl | (simp only [List.length_drop, List.length_take]; rfl)) ?_
            with_reducible refine (laws_sameTrie.calls k2 ((rd_T46 l0 x24_2).f0.f0) ((rd_T46 l0 x24_2).f0.f1) ((rd_T46 l0 x24_2).f1.f0) ((rd_T46 l0 x24_2).f1.f1) _ _ ((rd_T46 l0 x24_2).f2) _ _ ((rd_T46 l0 x24_2).f3) ((rd_T46 l1 x24_2).f0.f0) ((rd_T46 l1 x24_2).f0.f1) ((rd_T46 l1 x24_2).f1.f0) ((rd_T46 l1 x24_2).f1.f1) _ _ ((rd_T46 l1 x24_2).f2) _ _ ((rd_T46 l1 x24_2).f3) t149 false _ ?side1 ?side2 ?side3 ?side4 ?side5 ?side6 ?side7 ?side8 A14.out).mono ?_
            (case side1 => repeat (first | exact (Kd.C_below HR146_4.out (by repeat (first | (with_reducible first | exact HB.out | apply below_alloc | apply pw_below_drewN | apply below_drew1) | exact HB.out))) | (with_reducible refine Kd.C_alloc ?_ _) | (with_reducible refine Kd.C_drewN ?_ _) | (with_reducible refine Kd.C_drew ?_)))
            (case side2 => exact HC146_4.out)
            (case side3 => repeat (first | exact (Kd.C_below HR146_5.out (by repeat (first | (with_reducible first | exact HB.out | apply below_alloc | apply pw_below_drewN | apply below_drew1) | exact HB.out))) | (with_reducible refine Kd.C_alloc ?_ _) | (with_reducible refine Kd.C_drewN ?_ _) | (with_reducible refine Kd.C_drew ?_)))
            (case side4 => exact HC146_5.out)
            (case side5 => repeat (first | exact (Kd.C_below HR147_4.out (by repeat (first | (with_reducible first | exact HB.out | apply below_alloc | apply pw_below_drewN | apply below_drew1) | exact HB.out))) | (with_reducible refine Kd.C_alloc ?_ _) | (with_reducible refine Kd.C_drewN ?_ _) | (with_reducible refine Kd.C_drew ?_)))
            (case side6 => exact HC147_4.out)
            (case side7 => repeat (first | exact (Kd.C_below HR147_5.out (by repeat (first | (with_reducible first | exact HB.out | apply below_alloc | apply pw_below_drewN | apply below_drew1) | exact HB.out))) | (with_reducible refine Kd.C_alloc ?_ _) | (with_reducible refine Kd.C_drewN ?_ _) | (with_reducible refine Kd.C_drew ?_)))
            (case side8 => exact HC147_5.out)
            rintro e w19 ⟨rfl, hb⟩
            refine ⟨_, rfl, ?_⟩
            have n0_ := Aside0.mk (below_step (by repeat (first | (with_reducible first | exact HB.out | apply below_alloc | apply pw_below_drewN | apply below_drew1) | exact HB.out)) hb)
            clear HB
            have HB := n0_
            clear n0_
            (try clear hb)
            (try clear hb2)
            (try clear hk)
            (try clear hi)
            refine hK.out _ _ ⟨((HB.out.cell (World.block_lt_of_cell? w _ hw146_0)).trans hw146_0), ((HB.out.cell (World.block_lt_of_cell? w _ hw146_1)).trans hw146_1), ((HB.out.cell (World.block_lt_of_cell? w _ hw146_2)).trans hw146_2), ((HB.out.cell (World.block_lt_of_cell? w _ hw146_3)).trans hw146_3), ((HB.out.cell (World.block_lt_of_cell? w _ hw146_4)).trans hw146_4), ((HB.out.cell (World.block_lt_of_cell? w _ hw146_5)).trans hw146_5), ((HB.out.cell (World.block_lt_of_cell? w _ hw147_0)).trans hw147_0), ((HB.out.cell (World.block_lt_of_cell? w _ hw147_1)).trans hw147_1), ((HB.out.cell (World.block_lt_of_cell? w _ hw147_2)).trans hw147_2), ((HB.out.cell (World.block_lt_of_cell? w _ hw147_3)).trans hw147_3), ((HB.out.cell (World.block_lt_of_cell? w _ hw147_4)).trans hw147_4), ((HB.out.cell (World.block_lt_of_cell? w _ hw147_5)).trans hw147_5), ((HB.out.cell (World.block_lt_of_cell? w _ hw148_0)).trans hw148_0)⟩ (fun hHeld => ?_)
            clear hK K
            refine norm_ (a' := ?_) ?_ ?_
            rotate_left
            ·show Act.put _ (some 41) _ = _
             simp only [Act.put, List.setIfInBounds_toArray, List.set_cons_zero, List.set_cons_succ, i64_w, i32_w]
             rfl
            refine pure_ (i := 15) (N := some 42) (v := ?_) (a' := ?_) #[true, true, true, true, true, true, true, true, true, true, true, true, true, true, true, true] rfl rfl (any_of HT_.out (by kernel_rfl)) (fun _ _ _ h => h) (Or.inl ⟨by rfl, ?_⟩) ?_ ?_
            rotate_left
            ·intro w'
             go_simp
             with_reducible rfl
            rotate_left
            ·simp only [Act.put, List.setIfInBounds_toArray, List.set_cons_zero, List.set_cons_succ, i64_w, i32_w]
             rfl
            refine done_ (done_of HT_.out (by kernel_rfl)) ?_
            try go_wp2
            go_ret
            exact ⟨by first | rfl | (simp [errW_none, errW_some] <;> rfl) | (simp [*, errW_none, errW_some] <;> rfl), by repeat (first | (with_reducible first | exact HB.out | apply below_alloc | apply pw_below_drewN | apply below_drew1) | exact HB.out)⟩
          ·rw [if_neg c12] at H
           exact absurd H (by simp)
         ·rw [if_neg c11] at H
          exact absurd H (by simp)
        ·rw [if_neg c10] at H
         exact absurd H (by simp)
       ·rw [if_neg c9] at H
        exact absurd H (by simp)
      ·rw [if_neg c8] at H
       have c8b0 : decide (x24_2 < (l0.length : Int)) = false := decide_eq_false c8
       clear c8
       obtain rfl := Option.some.inj H
       go_wp2
       go_ret
       exact ⟨by first | rfl | (simp [errW_none, errW_some] <;> rfl) | (simp [*, errW_none, errW_some] <;> rfl), by repeat (first | (with_reducible first | exact HB.out | apply below_alloc | apply pw_below_drewN | apply below_drew1) | exact HB.out)⟩

end Go.Proofs.YtaejkbjepbifcabDoor.PB
namespace Go.Proofs.YtaejkbjepbifcabDoor.Da
open Go.RowKit Go.Proofs.YtaejkbjepbifcabDoorW.PrintWords Go.Proofs.YtaejkbjepbifcabDoor.Plain
set_option linter.unusedVariables false
set_option linter.unusedSimpArgs false
theorem begins_some (a b : ByteArray) : ∃ r, PB.spec_dBegins.f a b = some r := by
  unfold PB.spec_dBegins.f
  by_cases h : (a.size : Int) ≥ (b.size : Int)
  · rw [if_pos h, if_pos (by omega), if_pos h]; exact ⟨_, rfl⟩
  · rw [if_neg h]; exact ⟨_, rfl⟩
theorem half_key (l : List ByteArray) (s : ByteArray) (hl : l.length ≤ 4611686018427387904) : ∀ d i (b : Bool), i + d = l.length → ∃ r, Ev (fun k => PB.spec_Half.l0 k s b l (l.length : Int) (i : Int)) r
  | 0, i, b, h => ⟨_, Ev.step (fun k => by rw [PB.spec_Half.l0]) (evn (by omega) (Ev.now _))⟩
  | d + 1, i, b, h => by
    obtain ⟨rt, ht⟩ := half_key l s hl d (i + 1) true (by omega)
    obtain ⟨rb, hb⟩ := begins_some (rdOf ByteArray.empty l (i : Int)) s
    obtain ⟨r2, h2⟩ := half_key l s hl d (i + 1) rb (by omega)
    have go : ∃ r, Ev (fun k => if b = true then PB.spec_Half.l0 k s true l (l.length : Int) (wrap64 ((i : Int) + 1)) else (PB.spec_dBegins.f (rdOf ByteArray.empty l (i : Int)) s).bind fun t144 => PB.spec_Half.l0 k s t144 l (l.length : Int) (wrap64 ((i : Int) + 1))) r := by
      rw [wrap_up i (by omega), hb]
      by_cases e : b = true
      · exact ⟨rt, evp e ht⟩
      · exact ⟨r2, evn e h2⟩
    obtain ⟨rg, hg⟩ := go
    by_cases e1 : (rdOf ByteArray.empty l (i : Int)).toList = s.toList
    · by_cases e2 : s.toList = []
      · exact ⟨rg, Ev.step (fun k => by rw [PB.spec_Half.l0]) (evp (by omega) (evp (by omega) (evp (by omega) (evp e1 (evp e2 hg)))))⟩
      · exact ⟨false, Ev.step (fun k => by rw [PB.spec_Half.l0]) (evp (by omega) (evp (by omega) (evp (by omega) (evp e1 (evn e2 (Ev.now false))))))⟩
    · exact ⟨rg, Ev.step (fun k => by rw [PB.spec_Half.l0]) (evp (by omega) (evp (by omega) (evp (by omega) (evn e1 hg))))⟩
theorem half_ev (l : List ByteArray) (s : ByteArray) (hl : l.length ≤ 4611686018427387904) : ∃ r, Ev (fun k => PB.spec_Half.f k l s) r := half_key l s hl l.length 0 false (by omega)
theorem found_refl (a : Int) (b : Bool) : PB.laws_sameFound.f a b a b = some true := by
  unfold PB.laws_sameFound.f
  cases b <;> simp
theorem trie_refl (a : PB.S46) (h : Bool) (h2 : a.f2.length ≤ 4611686018427387904) (h3 : a.f3.length ≤ 4611686018427387904) : Ev (fun k => PB.laws_sameTrie.f k a.f0.f0 a.f0.f1 a.f1.f0 a.f1.f1 a.f2 a.f3 a.f0.f0 a.f0.f1 a.f1.f0 a.f1.f1 a.f2 a.f3 h) true := by
  have e2 := same_ev a.f2 h2
  have e3 := same_ev a.f3 h3
  unfold PB.laws_sameTrie.f
  cases h with
  | true =>
    refine evp rfl ?_
    rw [found_refl]
    exact Ev.bind (Ev.now true) (evp rfl (Ev.bind e2 (evp rfl (Ev.bind e3 (Ev.now true)))))
  | false =>
    refine evn (by simp) ?_
    rw [found_refl, found_refl]
    exact Ev.bind (Ev.now true) (evp rfl (Ev.bind (Ev.now true) (evp rfl (Ev.bind e2 (evp rfl (Ev.bind e3 (Ev.now true)))))))
theorem rd_ans (l : List PB.S46) (i : Nat) : PB.rd_T46 l (i : Int) = l.getD i PB.z46 := by unfold PB.rd_T46; rw [Int.toNat_natCast]
theorem tries_key (l : List PB.S46) (ks ts : List ByteArray) (hl : l.length = ts.length) (hk : ks.length ≤ 4611686018427387904) (h : ts.length ≤ 4611686018427387904) (hs : ∀ a ∈ l, a.f2.length ≤ 4611686018427387904 ∧ a.f3.length ≤ 4611686018427387904) : ∀ d i, i + d = l.length → Ev (fun k => PB.laws_sameTries.l0 k l l ks ts (l.length : Int) (i : Int)) true
  | 0, i, hi => Ev.step (fun k => by rw [PB.laws_sameTries.l0]) (evn (by omega) (Ev.now true))
  | d + 1, i, hi => by
    have ih := tries_key l ks ts hl hk h hs d (i + 1) (by omega)
    obtain ⟨rh, hh⟩ := half_ev ks (rdOf ByteArray.empty ts (i : Int)) hk
    have ha := hs _ (getD_mem PB.z46 (show i < l.length by omega))
    have ht := trie_refl (l.getD i PB.z46) rh ha.1 ha.2
    refine Ev.step (fun k => by rw [PB.laws_sameTries.l0]) (evp (by omega) (evp (by omega) (evp (by omega) (evp (by omega) (evp (by omega) ?_)))))
    refine Ev.bind hh ?_
    rw [rd_ans]
    exact Ev.bind ht (evp rfl (by rw [wrap_up i (by omega)]; exact ih))
theorem tries_ev (l : List PB.S46) (ks ts : List ByteArray) (hl : l.length = ts.length) (hk : ks.length ≤ 4611686018427387904) (h : ts.length ≤ 4611686018427387904) (hs : ∀ a ∈ l, a.f2.length ≤ 4611686018427387904 ∧ a.f3.length ≤ 4611686018427387904) : ∃ k, PB.laws_sameTries.f k l l ks ts = some true := by
  have := tries_key l ks ts hl hk h hs l.length 0 (by omega)
  have e : ((l.length : Int) != (ts.length : Int)) = false := by rw [hl]; simp
  have h2 : Ev (fun k => PB.laws_sameTries.f k l l ks ts) true := by
    unfold PB.laws_sameTries.f
    refine evp rfl ?_
    rw [e]
    rw [show ((0 : Nat) : Int) = 0 from rfl] at this
    exact Ev.step (fun k => by rw [PB.laws_sameTries.j0]) (evn (by simp) this)
  exact h2.rounds
theorem ans_small (L : Keys) {ts : List ByteArray} (h : ∀ t ∈ ts, Cln t ∧ t.size ≤ 1000000000) : ∀ a ∈ ts.map (ans L), a.f2.length ≤ 4611686018427387904 ∧ a.f3.length ≤ 4611686018427387904 := by
  intro a ha
  obtain ⟨t, ht, rfl⟩ := List.mem_map.1 ha
  have h1 := hitsS_len L (bs t) (bs t).length
  have h2 := (h t ht).2
  rw [bs_len] at h1
  show (hitsS L (bs t) (bs t).length).length ≤ _ ∧ (hitsS L (bs t) (bs t).length).length ≤ _
  rw [bs_len]
  omega
/-- The answers as a list that is read. -/
def AskL (W w' : World) (L : Keys) (ts : List ByteArray) (e : Ending) : Prop := ∃ (A : Option Addr) (n : Nat) (l : List PB.S46), e = .returned (.tuple #[.slice A l.length n, .int .i64 0]) ∧ Aside0 (l = ts.map (ans L)) ∧ Aside0 (Kd.C PB.k46 w' A l.length l) ∧ Aside0 (l.length ≤ n) ∧ Below W.heap.size W w'
theorem askl_of {W w' : World} {L : Keys} {ts : List ByteArray} {e : Ending} (h : AskE W w' L ts e) : AskL W w' L ts e := by
  obtain ⟨ov, rfl, hR, hB⟩ := h
  obtain ⟨A, n, rfl, l1, g1⟩ := Kd.R_reads hR
  exact ⟨A, n, _, rfl, ⟨rfl⟩, ⟨g1⟩, ⟨l1⟩, hB⟩
theorem trie_any (W : World) (A0 A1 A2 : Option Addr) (c0 c1 c2 k : Nat) (ss ts : List ByteArray) (ds : List Int) (n : Nat) (hn : n = ds.length) (hr0 : Kd.C Kd.string W A0 ss.length ss) (hc0 : ss.length ≤ c0) (hr1 : Kd.C (Kd.int .i64) W A1 ds.length ds) (hc1 : ds.length ≤ c1) (hr2 : Kd.C Kd.string W A2 ts.length ts) (hs : PB.slices_IsSorted_string_string.f k ss = some true) (K : KeysOk ss ds) (hI : InsOk ts) :
    Calls Tryd.prog 13 #[.slice A0 ss.length c0, .slice A1 n c1, .slice A2 ts.length c2] W fun e w' => AskL W w' (keysAll ss ds) ts e := by
  subst hn
  exact (trie_calls W A0 A1 A2 c0 c1 c2 k ss ts ds hr0 hc0 hr1 hc1 hr2 hs K hI).mono (fun _ _ h => askl_of h)
end Go.Proofs.YtaejkbjepbifcabDoor.Da
