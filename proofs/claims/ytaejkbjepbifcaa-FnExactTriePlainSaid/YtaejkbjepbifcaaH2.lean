/- The walks over tries and what they compute: part 2 of several, put together by a program. -/
import Derived.Test.YtaejkbjepbifcaaH1
import Derived.Defers
import Derived.Recover
import Derived.Laws.Pointers
import Derived.Test.YtaejkbjepbifcaaH0
import Derived.Test.YtaejkbjepbifcaaPlain
import Derived.Lib.Strings
import Derived.Laws.Cover1
namespace Go.Proofs.Ytaejkbjepbifcaa.Da
open Go.RowKit Go.Proofs.YtaejkbjepbifcaaW.PrintWords
set_option linter.unusedVariables false
set_option linter.unusedSimpArgs false
def ans (L : Keys) (t : ByteArray) : PB.S34 := ⟨⟨(fnd L t).1, (fnd L t).2⟩, ⟨(lng L t).1, (lng L t).2⟩, hitsS L (bs t) (bs t).length, hitsS L (bs t) (bs t).length⟩
/-- The deferred function finds no panic. -/
theorem ask1_idle (p q : Addr) (w : World) :
    CallsD Try.prog 43 #[.pointer (some p), .pointer (some q)] .returning w fun e u' w' => e = .returned (.tuple #[]) ∧ u' = .returning ∧ w' = w := by
  refine callsD_of_wpS Try.func43 rfl fun c₀ cs hu => ?_
  apply wpS_seq
  apply wpS_region
  simp [wpOpsS, go_sem, recoverD, hu, Try.ntmps43, Exit.thenS]
  refine wpS_cond (t := false) (by simp [Act.eval, Array.replicate]) ?_
  simp only [Bool.false_eq_true, if_false]
  refine wpS_of_wp (wp_skip ?_)
  cases c₀
  simp_all [bodyPostS, results, Try.results43]
/-- So many inputs have been asked. -/
structure AskS (W w : World) (L : Keys) (ov : Value) (l : List ByteArray) : Prop where
  kp : Kp W w (fun _ => False)
  o : w.heap[W.heap.size]? = some (.cells #[ov] 42 (0, 0))
  e : w.heap[W.heap.size + 1]? = some (.cells #[.int .i64 0] 3 (0, 0))
  r : Kd.R PB.k34 34 w (W.heap.size + 2) (fun _ => True) ov (l.map (ans L))
theorem asks_start (W : World) (L : Keys) : AskS W ((W.alloc (.cells #[.slice none 0 0] 42)).alloc (.cells #[.int .i64 0] 3)) L (.slice none 0 0) [] := by
  have e1 : (W.alloc (.cells #[.slice none 0 0] 42)).heap.size = W.heap.size + 1 := Own.size_alloc _ _
  refine ⟨((Kp.self W _).alloc _).alloc _, ?_, ?_, Kd.R_nil _ _ _ _ _⟩
  · exact ((below_alloc (Below.refl _ _) _).block _ (by rw [e1]; omega)).trans (blk_new W _)
  · rw [← e1]; exact blk_new _ _
/-- A cell of a row of texts. -/
theorem str_cell {W : World} {A : Option Addr} {ss : List ByteArray} (h : Kd.C Kd.string W A ss.length ss) (j : Nat) (hj : j < ss.length) : ∃ ad, A = some ad ∧ W.cell? (ad.add j) = some (.string (ss.getD j ByteArray.empty)) := by
  obtain ⟨ad, c, e, _, hK, hc0⟩ := Kd.C_get h ByteArray.empty (j : Int) (by omega) (by omega)
  have hK : c = [.string _] := hK
  subst hK
  have := hc0 0 _ rfl
  rw [Int.toNat_natCast] at this
  have e1 : (Kd.string).sz = 1 := rfl
  rw [e1, Nat.mul_one, Nat.add_zero] at this
  exact ⟨ad, e, this⟩
theorem cell_lt {w : World} {a : Addr} {v : Value} (h : w.cell? a = some v) : a.block < w.heap.size := by
  rcases Nat.lt_or_ge a.block w.heap.size with h1 | h1
  · exact h1
  · unfold World.cell? at h
    rw [Array.getElem?_eq_none h1] at h
    simp at h
theorem AskS.kp_cell {W w : World} {L : Keys} {ov : Value} {l : List ByteArray} (h : AskS W w L ov l) {a : Addr} {v : Value} (hc : W.cell? a = some v) : w.cell? a = some v := by
  rw [← hc]
  exact World.cell?_of_block (w := W) (h.kp.old _ (cell_lt hc) id)
def AskE (W w' : World) (L : Keys) (ss : List ByteArray) (e : Ending) : Prop := ∃ ov, e = .returned (.tuple #[ov, .int .i64 0]) ∧ Kd.R PB.k34 34 w' W.heap.size (fun _ => True) ov (ss.map (ans L)) ∧ Below W.heap.size W w'
theorem ABox.set0 {W : World} {xb : Nat} {c0 c1 c2 c3 c4 cv : Value} (h : ABox W xb c0 c1 c2 c3 c4 cv) (v : Value) : ABox (W.setCell ⟨xb, 0, none⟩ v) xb v c1 c2 c3 c4 cv := (setCell_heap h).trans (by rfl)
theorem ABox.set1 {W : World} {xb : Nat} {c0 c1 c2 c3 c4 cv : Value} (h : ABox W xb c0 c1 c2 c3 c4 cv) (v : Value) : ABox (W.setCell ⟨xb, 1, none⟩ v) xb c0 v c2 c3 c4 cv := (setCell_heap h).trans (by rfl)
theorem ABox.set2 {W : World} {xb : Nat} {c0 c1 c2 c3 c4 cv : Value} (h : ABox W xb c0 c1 c2 c3 c4 cv) (v : Value) : ABox (W.setCell ⟨xb, 2, none⟩ v) xb c0 c1 v c3 c4 cv := (setCell_heap h).trans (by rfl)
theorem ABox.set3 {W : World} {xb : Nat} {c0 c1 c2 c3 c4 cv : Value} (h : ABox W xb c0 c1 c2 c3 c4 cv) (v : Value) : ABox (W.setCell ⟨xb, 3, none⟩ v) xb c0 c1 c2 v c4 cv := (setCell_heap h).trans (by rfl)
theorem ABox.set4 {W : World} {xb : Nat} {c0 c1 c2 c3 c4 cv : Value} (h : ABox W xb c0 c1 c2 c3 c4 cv) (v : Value) : ABox (W.setCell ⟨xb, 4, none⟩ v) xb c0 c1 c2 c3 v cv := (setCell_heap h).trans (by rfl)
theorem ABox.cells {W : World} {xb : Nat} {c0 c1 c2 c3 c4 cv : Value} (h : ABox W xb c0 c1 c2 c3 c4 cv) : W.cell? ⟨xb, 0, none⟩ = some c0 ∧ W.cell? ⟨xb, 1, none⟩ = some c1 ∧ W.cell? ⟨xb, 2, none⟩ = some c2 ∧ W.cell? ⟨xb, 3, none⟩ = some c3 ∧ W.cell? ⟨xb, 4, none⟩ = some c4 ∧ W.cell? ⟨xb, 5, none⟩ = some cv := by
  unfold ABox at h
  unfold World.cell?
  simp [h]
/-- In the middle of an input. -/
structure Mid (W w : World) (L : Keys) (ov : Value) (l : List ByteArray) (xb : Nat) (c0 c1 c2 c3 c4 cv : Value) : Prop where
  kp : Kp W w (fun _ => False)
  o : w.heap[W.heap.size]? = some (.cells #[ov] 42 (0, 0))
  e : w.heap[W.heap.size + 1]? = some (.cells #[.int .i64 0] 3 (0, 0))
  r : Kd.R PB.k34 34 w (W.heap.size + 2) (fun k => k < xb) ov (l.map (ans L))
  bx : ABox w xb c0 c1 c2 c3 c4 cv
  ge : W.heap.size + 2 ≤ xb
section
variable {W w w' : World} {L : Keys} {ov : Value} {l : List ByteArray} {xb : Nat} {c0 c1 c2 c3 c4 cv : Value}
theorem Mid.start (h : AskS W w L ov l) : Mid W (w.alloc (.cells #[.int .i64 0, .bool false, .int .i64 0, .bool false, .slice none 0 0, .slice none 0 0] 34)) L ov l w.heap.size (.int .i64 0) (.bool false) (.int .i64 0) (.bool false) (.slice none 0 0) (.slice none 0 0) := by
  have hb := below_alloc (Below.refl w.heap.size w) (.cells #[.int .i64 0, .bool false, .int .i64 0, .bool false, .slice none 0 0, .slice none 0 0] 34)
  have l1 := (Array.getElem?_eq_some_iff.1 h.e).1
  exact ⟨h.kp.alloc _, (hb.block _ (by omega)).trans h.o, (hb.block _ (by omega)).trans h.e, Kd.R_below (Kd.R_mono (Kd.R_bound h.r) (fun k hk => hk.2.2.1)) hb, blk_new _ _, by omega⟩
theorem Mid.below (h : Mid W w L ov l xb c0 c1 c2 c3 c4 cv) (hb : Below w.heap.size w w') : Mid W w' L ov l xb c0 c1 c2 c3 c4 cv := by
  have l1 := (Array.getElem?_eq_some_iff.1 h.e).1
  exact ⟨h.kp.then hb, (hb.block _ (by omega)).trans h.o, (hb.block _ l1).trans h.e, Kd.R_below h.r hb, h.bx.step (hb.block _ h.bx.lt), h.ge⟩
theorem Mid.drewN (h : Mid W w L ov l xb c0 c1 c2 c3 c4 cv) (q : Nat) : Mid W (w.drewN q) L ov l xb c0 c1 c2 c3 c4 cv := h.below (pw_below_drewN (Below.refl _ _) q)
theorem Mid.put (h : Mid W w L ov l xb c0 c1 c2 c3 c4 cv) {d0 d1 d2 d3 d4 dv : Value} (i : Nat) (v : Value) (hb : ABox (w.setCell ⟨xb, i, none⟩ v) xb d0 d1 d2 d3 d4 dv) : Mid W (w.setCell ⟨xb, i, none⟩ v) L ov l xb d0 d1 d2 d3 d4 dv := by
  have hg := h.ge
  exact ⟨h.kp.setNew _ _ (by show W.heap.size ≤ xb; omega), (Below.heap_setCell _ _ _ _ (by show _ ≠ xb; omega)).trans h.o, (Below.heap_setCell _ _ _ _ (by show _ ≠ xb; omega)).trans h.e, Kd.R_far h.r (fun k hk => by show k ≠ xb; omega) _, hb, h.ge⟩
theorem Mid.set0 (h : Mid W w L ov l xb c0 c1 c2 c3 c4 cv) (v : Value) : Mid W (w.setCell ⟨xb, 0, none⟩ v) L ov l xb v c1 c2 c3 c4 cv := h.put 0 v (h.bx.set0 v)
theorem Mid.set1 (h : Mid W w L ov l xb c0 c1 c2 c3 c4 cv) (v : Value) : Mid W (w.setCell ⟨xb, 1, none⟩ v) L ov l xb c0 v c2 c3 c4 cv := h.put 1 v (h.bx.set1 v)
theorem Mid.set2 (h : Mid W w L ov l xb c0 c1 c2 c3 c4 cv) (v : Value) : Mid W (w.setCell ⟨xb, 2, none⟩ v) L ov l xb c0 c1 v c3 c4 cv := h.put 2 v (h.bx.set2 v)
theorem Mid.set3 (h : Mid W w L ov l xb c0 c1 c2 c3 c4 cv) (v : Value) : Mid W (w.setCell ⟨xb, 3, none⟩ v) L ov l xb c0 c1 c2 v c4 cv := h.put 3 v (h.bx.set3 v)
theorem Mid.set4 (h : Mid W w L ov l xb c0 c1 c2 c3 c4 cv) (v : Value) : Mid W (w.setCell ⟨xb, 4, none⟩ v) L ov l xb c0 c1 c2 c3 v cv := h.put 4 v (h.bx.set4 v)
theorem Mid.arr (h : Mid W w L ov l xb c0 c1 c2 c3 c4 cv) {g : Nat} {s : DA} (a : Arr W g s) : Arr w g s := a.step (h.kp.old g a.lt id)
theorem Mid.cb (h : Mid W w L ov l xb c0 c1 c2 c3 c4 cv) {dv : Value} (k : Kp w w' (fun k => k = xb)) (hb : ABox w' xb c0 c1 c2 c3 c4 dv) : Mid W w' L ov l xb c0 c1 c2 c3 c4 dv := by
  have hg := h.ge
  have l1 := (Array.getElem?_eq_some_iff.1 h.e).1
  exact ⟨(h.kp.trans k).mono (fun i hi hx => by rcases hx with hx | hx; exact hx; omega), (k.old _ (by omega) (by omega)).trans h.o, (k.old _ l1 (by omega)).trans h.e, Kd.R_step h.r (fun i hi hl => k.old i hl (by omega)), hb, h.ge⟩
/-- A row that was made behind the box. -/
theorem row_cb {k : Kd PB.S39} {e base : Nat} {v : Value} {xs : List PB.S39} (h : k.R e w base (fun k => xb < k) v xs) (kk : Kp w w' (fun k => k = xb)) : k.R e w' base (fun k => xb < k) v xs :=
  Kd.R_step h (fun i hi hl => kk.old i hl (by omega))
theorem row_new {k : Kd PB.S39} {e b base : Nat} {v : Value} {xs : List PB.S39} (h : k.R e w b (fun _ => True) v xs) (h1 : xb < b) (h2 : base ≤ b) : k.R e w base (fun k => xb < k) v xs :=
  Kd.R_lower (Kd.R_mono (Kd.R_bound h) (fun i hi => Nat.lt_of_lt_of_le h1 hi.2.1)) h2
/-- The input is done. -/
theorem Mid.done (h : Mid W w L ov l xb c0 c1 c2 c3 c4 cv) {va : Value} {t : ByteArray} (hb : Below (W.heap.size + 2) w w') (hr : Kd.R PB.k34 34 w' (W.heap.size + 2) (fun _ => True) va (l.map (ans L) ++ [ans L t])) : AskS W (w'.setCell ⟨W.heap.size, 0, none⟩ va) L va (l ++ [t]) := by
  have hg := h.ge
  have hk : Kp W w' (fun _ => False) := ⟨Nat.le_trans h.kp.size hb.size, fun i hi hn => (hb.block i (by omega)).trans (h.kp.old i hi hn), h.kp.env.trans ⟨hb.os, hb.tape, hb.output⟩⟩
  refine ⟨hk.setNew _ _ (Nat.le_refl _), ?_, ?_, ?_⟩
  · rw [setCell_heap ((hb.block _ (by omega)).trans h.o)]; rfl
  · exact (Below.heap_setCell _ _ _ _ (by show _ ≠ W.heap.size; omega)).trans ((hb.block _ (by omega)).trans h.e)
  · rw [List.map_append]
    exact Kd.R_mono (Kd.R_far (p := ⟨W.heap.size, 0, none⟩) (Kd.R_mono (Kd.R_bound hr) (ok' := fun k => k ≠ W.heap.size) (fun k hk => by have := hk.2.1; omega)) (fun k hk => hk) _) (fun _ _ => trivial)
theorem Mid.out (h : Mid W w L ov l xb c0 c1 c2 c3 c4 cv) : w.cell? ⟨W.heap.size, 0, none⟩ = some ov ∧ w.frozen? ⟨W.heap.size, 0, none⟩ = false := by
  have := h.o
  constructor
  · unfold World.cell?; simp [this]
  · unfold World.frozen?; simp [this]
theorem Mid.out2 (h : Mid W w L ov l xb c0 c1 c2 c3 c4 cv) (hb : Below (W.heap.size + 2) w w') : w'.cell? ⟨W.heap.size, 0, none⟩ = some ov ∧ w'.frozen? ⟨W.heap.size, 0, none⟩ = false := by
  have := (hb.block W.heap.size (by omega)).trans h.o
  constructor
  · unfold World.cell?; simp [this]
  · unfold World.frozen?; simp [this]
theorem AskS.outs (h : AskS W w L ov l) : w.cell? ⟨W.heap.size, 0, none⟩ = some ov ∧ w.frozen? ⟨W.heap.size, 0, none⟩ = false ∧ w.cell? ⟨W.heap.size + 1, 0, none⟩ = some (.int .i64 0) ∧ w.frozen? ⟨W.heap.size + 1, 0, none⟩ = false := by
  have h1 := h.o
  have h2 := h.e
  unfold World.cell? World.frozen?
  refine ⟨?_, ?_, ?_, ?_⟩
  · simp [h1]
  · simp [h1]
  · simp [h2]
  · simp [h2]
theorem AskS.sl (h : AskS W w L ov l) : ∃ A c, ov = .slice A l.length c := by
  obtain ⟨A, c, e⟩ := Kd.R_slice h.r
  exact ⟨A, c, by rw [e, List.length_map]⟩
theorem kp_below {W w : World} (k : Kp W w (fun _ => False)) : Below W.heap.size W w := ⟨k.env.1, k.env.2.1, k.env.2.2, k.size, fun i hi => k.old i hi id⟩
theorem AskS.fin (h : AskS W w L ov l) : AskE W ((w.setCell ⟨W.heap.size, 0, none⟩ ov).setCell ⟨W.heap.size + 1, 0, none⟩ (.int .i64 0)) L l (.returned (.tuple #[ov, .int .i64 0])) := by
  refine ⟨ov, rfl, ?_, ((kp_below h.kp).setCell (Nat.le_refl _) _).setCell (Nat.le_succ _) _⟩
  have h1 := Kd.R_mono (Kd.R_bound h.r) (ok' := fun k => W.heap.size + 2 ≤ k) (fun k hk => hk.2.1)
  exact Kd.R_mono (Kd.R_lower (Kd.R_far (p := ⟨W.heap.size + 1, 0, none⟩) (Kd.R_far (p := ⟨W.heap.size, 0, none⟩) h1 (fun k hk => by show k ≠ W.heap.size; omega) _) (fun k hk => by show k ≠ W.heap.size + 1; omega) _) (by omega)) (fun _ _ => trivial)
theorem Mid.ne (h : Mid W w L ov l xb c0 c1 c2 c3 c4 cv) {g : Nat} {s : DA} (a : Arr W g s) : g ≠ xb := by have := a.lt; have := h.ge; omega
end
/-- 'hits' lists both. -/
theorem hits_run (H : List (Int × Int)) (hl : H.length ≤ 8796093022207) : ∀ (d j : Nat), j + d = H.length → ∀ k, d < k → PB.impl_hits.l0 k (H.map (·.1)) (H.map (·.2)) ((H.take j).map (fun h => (⟨h.1, h.2⟩ : PB.S39))) (H.length : Int) (j : Int) = some (H.map (fun h => (⟨h.1, h.2⟩ : PB.S39)))
  | 0, j, hj, k, hk => by
    obtain ⟨k, rfl⟩ : ∃ m, k = m + 1 := ⟨k - 1, by omega⟩
    simp only [PB.impl_hits.l0]
    rw [if_neg (by omega), List.take_of_length_le (by omega)]
  | d + 1, j, hj, k, hk => by
    obtain ⟨k, rfl⟩ : ∃ m, k = m + 1 := ⟨k - 1, by omega⟩
    have ih := hits_run H hl d (j + 1) (by omega) k (by omega)
    have hjl : j < H.length := by omega
    simp only [PB.impl_hits.l0]
    rw [if_pos (by omega), if_pos (by omega), if_pos (by simp; omega), if_pos (by simp; omega), if_pos (by simp; omega)]
    have e1 : wrap64 ((j : Int) + 1) = ((j + 1 : Nat) : Int) := by unfold wrap64; omega
    rw [e1, ← ih, List.take_succ_eq_append_getElem hjl, List.map_append]
    have e2 : ∀ f : Int × Int → Int, rd (H.map f) (j : Int) = f H[j] := fun f => by
      unfold rd
      rw [Int.toNat_natCast, List.getD_eq_getElem?_getD, List.getElem?_map, List.getElem?_eq_getElem hjl]; rfl
    rw [e2, e2]; rfl
theorem hits_any (w : World) (H : List (Int × Int)) (ids lens : List Int) (h1 : ids = H.map (·.1)) (h2 : lens = H.map (·.2)) (A1 A2 : Option Addr) (n1 n2 m : Nat) (hm : m ≤ 1000000000) (hl : H.length ≤ m) (l1 : ids.length ≤ n1) (g1 : Kd.C (Kd.int .i64) w A1 ids.length ids) (l2 : lens.length ≤ n2) (g2 : Kd.C (Kd.int .i64) w A2 lens.length lens) :
    Calls Try.prog 46 #[.slice A1 ids.length n1, .slice A2 lens.length n2] w fun e w' => ∃ v0_ : Value, e = .returned v0_ ∧ Kd.R PB.k39 39 w' w.heap.size (fun _ => True) v0_ (H.map (fun h => (⟨h.1, h.2⟩ : PB.S39))) ∧ Below w.heap.size w w' := by
  refine PB.impl_hits.calls (H.length + 1) A1 n1 _ A2 n2 _ _ w g1 l1 g2 l2 ?_
  subst h1
  subst h2
  unfold PB.impl_hits.f
  have := hits_run H (by omega) H.length 0 (by omega) (H.length + 1) (by omega)
  simpa using this
theorem cps_any (W : World) (g : Nat) (s : DA) (L : Keys) (t : ByteArray) (M_ : Arr W g s) (G_ : Good s 0 L) (C_ : Cln t) (hsz : t.size ≤ 1000000000) (hn : 0 < s.n) :
    Calls Try.prog 47 #[.slice (some ⟨g, 0, none⟩) s.n s.n, .string t] W fun e w' => ∃ (A1 A2 : Option Addr) (n1 n2 : Nat) (ids lens : List Int), e = .returned (.tuple #[.slice A1 ids.length n1, .slice A2 lens.length n2]) ∧ Aside0 (Calls Try.prog 46 #[.slice A1 ids.length n1, .slice A2 lens.length n2] w' fun e w2 => ∃ v0_ : Value, e = .returned v0_ ∧ Kd.R PB.k39 39 w2 w'.heap.size (fun _ => True) v0_ (hitsS L (bs t) (bs t).length) ∧ Below w'.heap.size w' w2) ∧ Below W.heap.size W w' := by
  refine (cps_calls W g s L t M_ G_ C_ hsz hn).mono ?_
  rintro e w' ⟨v1, v2, rfl, hr1, hr2, hB⟩
  obtain ⟨A1, n1, rfl, l1, g1⟩ := Kd.R_reads hr1
  obtain ⟨A2, n2, rfl, l2, g2⟩ := Kd.R_reads hr2
  exact ⟨A1, A2, n1, n2, _, _, rfl, ⟨hits_any w' (hitsTo L (bs t) (bs t).length) _ _ rfl rfl A1 A2 n1 n2 (bs t).length (by rw [bs_len]; exact hsz) (hits_len _ _ _) l1 g1 l2 g2⟩, hB⟩
set_option maxHeartbeats 16000000 in
set_option maxRecDepth 100000 in
theorem ask_calls (W : World) (g ci : Nat) (s : DA) (L : Keys) (ss : List ByteArray) (A : Option Addr) (M_ : Arr W g s) (G_ : Good s 0 L) (hn : 0 < s.n) (hC : ∀ t ∈ ss, Cln t ∧ t.size ≤ 1000000000) (hr : Kd.C Kd.string W A ss.length ss) (hfew : ss.length ≤ 1000000) :
    Calls Try.prog 29 #[.slice (some ⟨g, 0, none⟩) s.n s.n, .slice A ss.length ci] W fun e w' => AskE W w' L ss e := by
  have hmf : ∀ (fn : Fn) (first cap : Array Value) (w : World), (Instr.makeFunc fn first cap).run Try.prog w = .ok (.func fn first cap) w := fun _ _ _ _ => rfl
  have HA0 := Aside0.mk M_
  have G := Aside0.mk G_
  have HC := Aside0.mk hC
  have HR := Aside0.mk hr
  have big := M_.big
  clear M_ G_ hC hr
  go_enter_defers Try.func29, Try.ntmps29
  go_wp2_with fail
  go_loopg [12] ss.length (fun kq v12 w' => ∃ (j : Nat) (ov : Value), v12 = .int .i64 (j : Int) ∧ Aside0 (j + kq = ss.length) ∧ Aside0 (AskS W w' L ov (ss.take j)))
  case atStart => exact ⟨0, _, rfl, ⟨by omega⟩, ⟨asks_start W L⟩⟩
  case round =>
    obtain ⟨j, ov, rfl, HJ, HS⟩ := hrel
    have hj := HJ.out
    by_cases hjl : j < ss.length
    · have hjz : (j : Int) < (ss.length : Int) := by omega
      obtain ⟨ad, hA, hcell⟩ := str_cell HR.out j hjl
      subst hA
      have hcj : wr.cell? (ad.add j) = some (.string (ss.getD j ByteArray.empty)) := (HS.out.kp_cell hcell)
      have hm : ss.getD j ByteArray.empty ∈ ss := by rw [List.getD_eq_getElem?_getD, List.getElem?_eq_getElem hjl]; exact List.getElem_mem hjl
      obtain ⟨ht1, ht2⟩ := HC.out _ hm
      obtain ⟨t, ht⟩ : ∃ t, ss.getD j ByteArray.empty = t := ⟨_, rfl⟩
      rw [ht] at hcj ht1 ht2
      have HT1 := Aside0.mk ht1
      have HT := Aside0.mk ht
      clear ht1 ht hm hcell
      go_upto_region 6 with fail
      obtain ⟨w1, hw1, hm1⟩ : ∃ w1, w1 = _ ∧ Mid W w1 L ov (ss.take j) wr.heap.size _ _ _ _ _ _ := ⟨_, rfl, Mid.start HS.out⟩
      rw [← hw1]
      have hxb : W.heap.size + 2 ≤ wr.heap.size := hm1.ge
      obtain ⟨xb, hxbe⟩ : ∃ xb, wr.heap.size = xb := ⟨_, rfl⟩
      rw [hxbe] at hm1 hxb ⊢
      have HM := Aside0.mk hm1
      have hF := Aside0.mk (find_calls w1 g s L t (hm1.arr HA0.out) G.out HT1.out ht2 hn)
      have HXB : Aside0 (wr.heap.size = xb) := ⟨hxbe⟩
      clear hw1 hm1 hxbe
      go_upto_region 7 with (go_at_call 44; refine hF.out.mono ?_; rintro e_ w2 ⟨rfl, hB⟩; have hm2 := HM.out.below hB; have HM2 := Aside0.mk hm2; obtain ⟨k0, k1, k2, k3, k4, k5⟩ := hm2.bx.cells; have z0 := hm2.bx.froz 0; have z1 := hm2.bx.froz 1; clear hB hm2)
      obtain ⟨w3, hw3, hm3⟩ : ∃ w3, w3 = ((w2.setCell ⟨xb, 0, none⟩ (.int .i64 (fnd L t).1)).setCell ⟨xb, 1, none⟩ (.bool (fnd L t).2)) ∧ Mid W w3 L ov (ss.take j) xb _ _ _ _ _ _ := ⟨_, rfl, (HM2.out.set0 _).set1 _⟩
      rw [← hw3]
      clear hw3
      have HM3 := Aside0.mk hm3
      have hF := Aside0.mk (prefix_calls w3 g s L t (hm3.arr HA0.out) G.out HT1.out ht2 hn)
      clear HM2 hm3 k0 k1 k2 k3 k4 k5 z0 z1 HM
      go_upto_region 8 with (go_at_call 45; refine hF.out.mono ?_; rintro e_ w4 ⟨rfl, hB⟩; have hm4 := HM3.out.below hB; have HM4 := Aside0.mk hm4; obtain ⟨k0, k1, k2, k3, k4, k5⟩ := hm4.bx.cells; have z2 := hm4.bx.froz 2; have z3 := hm4.bx.froz 3; clear hB hm4)
      obtain ⟨w5, hw5, hm5⟩ : ∃ w5, w5 = ((w4.setCell ⟨xb, 2, none⟩ (.int .i64 (lng L t).1)).setCell ⟨xb, 3, none⟩ (.bool (lng L t).2)) ∧ Mid W w5 L ov (ss.take j) xb _ _ _ _ _ _ := ⟨_, rfl, (HM4.out.set2 _).set3 _⟩
      rw [← hw5]
      clear hw5
      have HM5 := Aside0.mk hm5
      have hF := Aside0.mk (cps_any w5 g s L t (hm5.arr HA0.out) G.out HT1.out ht2 hn)
      clear HM4 hm5 k0 k1 k2 k3 k4 k5 z2 z3 HM3
      go_upto_region 9 with (first | (go_at_call 47; refine hF.out.mono ?_; rintro e_ w6 ⟨A1, A2, n1, n2, ids, lens, rfl, HHit, hB⟩; have hm6 := HM5.out.below hB; have HM6 := Aside0.mk hm6; clear hB hm6) | (go_at_call 46; refine HHit.out.mono ?_; rintro e_ w7 ⟨hv, rfl, hr, hB⟩; have hm7 := HM6.out.below hB; have HM7 := Aside0.mk hm7; obtain ⟨k0, k1, k2, k3, k4, k5⟩ := hm7.bx.cells; have z4 := hm7.bx.froz 4; obtain ⟨Ah, nh, rfl⟩ := Kd.R_slice hr; have HRH := Aside0.mk hr; have hsz6 := hm7.bx.lt; have HSZ := Aside0.mk (HM6.out.bx.lt); clear hr hB hm7 hsz6))
      have hrh : Kd.R PB.k39 39 w7 (W.heap.size + 2) (fun k => xb < k) (Value.slice Ah (hitsS L (bs t) (bs t).length).length nh) (hitsS L (bs t) (bs t).length) := row_new HRH.out HSZ.out (by have := HSZ.out; omega)
      obtain ⟨w8, hw8, hm8, hr8⟩ : ∃ w8, w8 = w7.setCell ⟨xb, 4, none⟩ (Value.slice Ah (hitsS L (bs t) (bs t).length).length nh) ∧ Mid W w8 L ov (ss.take j) xb _ _ _ _ _ _ ∧ Kd.R PB.k39 39 w8 (W.heap.size + 2) (fun k => xb < k) (Value.slice Ah (hitsS L (bs t) (bs t).length).length nh) (hitsS L (bs t) (bs t).length) := ⟨_, rfl, HM7.out.set4 _, Kd.R_far (p := ⟨xb, 4, none⟩) hrh (fun k hk => by show k ≠ xb; omega) _⟩
      rw [← hw8]
      clear hw8
      have HM8 := Aside0.mk hm8
      have HR8 := Aside0.mk hr8
      have hl8 := hm8.bx.lt
      have HL8 := Aside0.mk hl8
      have hF := Aside0.mk (cb_calls w8 g xb s L t _ _ _ _ _ (hm8.arr HA0.out) G.out HT1.out ht2 hn hm8.bx (hm8.ne HA0.out))
      clear HM5 HM6 HM7 HRH hm8 hr8 hrh hl8 k0 k1 k2 k3 k4 k5 z4 HHit
      go_upto_region 10 with (go_at_call 48; refine hF.out.mono ?_; rintro e_ w9 ⟨rfl, hC9⟩; have HC9 := Aside0.mk hC9; clear hC9)
      obtain ⟨cv, g1, g2, g3⟩ := HC9.out
      have hm9 := HM8.out.cb g3 g1
      have HM9 := Aside0.mk hm9
      have HR9 := Aside0.mk (row_cb HR8.out g3)
      have HV9 := Aside0.mk (row_new g2 HL8.out (show W.heap.size + 2 ≤ w8.heap.size by have := HL8.out; omega))
      obtain ⟨k0, k1, k2, k3, k4, k5⟩ := hm9.bx.cells
      have ko := hm9.out.1
      have zo := hm9.out.2
      have hlt9 := hm9.bx.lt
      have hsz9 : W.heap.size + 2 ≤ w9.heap.size := by omega
      obtain ⟨Ac, nc, rfl⟩ := Kd.R_slice HV9.out
      have hOK : ∀ k, (xb < k) → True ∧ some k ≠ ov.ownBlock := fun k hk => ⟨trivial, fun e => by have := hm9.r.1 k e.symm; omega⟩
      have HOK := Aside0.mk hOK
      have hl34 : ((ss.take j).map (ans L)).length ≤ 1000000 := by simp; omega
      clear HC9 g1 g2 g3 hm9 HM8 HR8 HL8 HSZ hlt9 hOK
      cases gk with
      | zero => omega
      | succ kz =>
      go_wp2_with (first | ((with_reducible refine gate_builtin (b := .append) (xs := #[.tmp 47, .tmp 49]) rfl ?_); at_builtin; refine Kd.R_append PB.k34 (w0 := w9) (W.heap.size + 2) rfl (.tmp 47) (.tmp 49) 42 34 (.agg #[(.int .i64 0), (.bool false), (.int .i64 0), (.bool false), (.slice none 0 0), (.slice none 0 0)]) 80 rfl Try.underlying42 PB.info34 rfl (by decide) (by omega) _ _ (ans L t) [.int .i64 (ans L t).f0.f0, .bool (ans L t).f0.f1, .int .i64 (ans L t).f1.f0, .bool (ans L t).f1.f1, _, _] (fun _ => True) (fun k => xb < k) rfl rfl (PB.k34_mkM _ _ _ _ HR9.out HV9.out) HOK.out (fun _ _ => trivial) (Kd.R_mono HM9.out.r (fun _ _ => trivial)) (Below.refl _ _) hsz9 (by omega) ?_; intro va wa ho hb hg hat; obtain ⟨k9, z9⟩ := HM9.out.out2 hb; have HD := Aside0.mk (HM9.out.done hb ho); obtain ⟨Aa, na, rfl⟩ := Kd.R_slice ho; clear ho hb hg hat ko zo) | fail)
      go_roundg kz
      case measure => omega
      case rel => exact ⟨j + 1, _, congrArg (Value.int .i64) (by omega), ⟨by omega⟩, ⟨by rw [List.take_succ_eq_append_getElem hjl, show ss[j] = t by rw [← HT.out, List.getD_eq_getElem?_getD, List.getElem?_eq_getElem hjl]; rfl]; have h9 := HD.out; simp only [List.length_append, List.length_map, List.length_take, List.length_cons, List.length_nil, Nat.zero_add] at h9; exact h9⟩⟩
    · have hjz : ¬ (j : Int) < (ss.length : Int) := by omega
      have hjj : j = ss.length := by omega
      subst hjj
      have hs := HS.out
      rw [List.take_length] at hs
      obtain ⟨Ao, no, rfl⟩ := hs.sl
      have HSF := Aside0.mk hs
      obtain ⟨q1, q2, q3, q4⟩ := hs.outs
      clear hs HS
      go_wp2_with fail
      refine leaves_cons (f := 43) (args := #[.pointer (some ⟨W.heap.size, 0, none⟩), .pointer (some ⟨W.heap.size + 1, 0, none⟩)]) (by simp) (by simp [go_sem]) ?_
      refine (ask1_idle _ _ _).mono ?_
      rintro e u' w'' ⟨rfl, rfl, rfl⟩
      simp [Leaves, settle, results, Try.results29, go_sem, q1, q2, q3, q4]
      exact HSF.out.fin
end Go.Proofs.Ytaejkbjepbifcaa.Da
namespace Go.Proofs.Ytaejkbjepbifcaa.Da
open Go.RowKit Go.Maps Go.ChangeShapes Go.Proofs.YtaejkbjepbifcaaW.PrintWords
set_option linter.unusedVariables false
set_option linter.unusedSimpArgs false
/-- What BuildWithIDs hands back. -/
def BldE (W W' : World) (S : Nat → Prop) (L : Keys) (e : Ending) : Prop := ∃ g s, e = .returned (.tuple #[.slice (some ⟨g, 0, none⟩) s.n s.n, .nilIface]) ∧ Arr W' g s ∧ Good s 0 L ∧ 0 < s.n ∧ W.heap.size ≤ g ∧ Kp W W' S
theorem bld_end {W w w' : World} {x g g' : Nat} {s' : DA} {L : Keys} {S : Nat → Prop} (hk : Kp W w S) (hx : W.heap.size ≤ x) (hg : W.heap.size ≤ g) (h : BldP w w' x g L g' s') : BldE W w' S L (.returned (.tuple #[.slice (some ⟨g', 0, none⟩) s'.n s'.n, .nilIface])) := by
  obtain ⟨h1, h2, h3, h4, h5⟩ := h
  have := hk.size
  exact ⟨g', s', rfl, h1, h2, h3, by omega, (hk.trans h5).mono (fun i hi h => by rcases h with h | h | h; exact h; omega; omega)⟩
set_option maxHeartbeats 16000000 in
set_option maxRecDepth 100000 in
theorem build_sorted (W : World) (kb ko ib io Nc Dc k : Nat) (ss : List ByteArray) (ds : List Int) (HSRC : Src W kb ko ss ib io ds) (hr : Kd.C Kd.string W (some ⟨kb, ko, none⟩) ss.length ss) (hc : ss.length ≤ Nc) (hs : PB.slices_IsSorted_string_string.f k ss = some true) (hne : ss ≠ []) (hok : Okk (keysAll ss ds)) (has : Asc (keysAll ss ds)) (ht : tot (keysAll ss ds) ≤ 32000) :
    Calls Try.prog 26 #[.slice (some ⟨kb, ko, none⟩) ss.length Nc, .slice (some ⟨ib, io, none⟩) ds.length Dc] W fun e w' => BldE W w' (fun _ => False) (keysAll ss ds) e := by
  have HS0 := Aside0.mk HSRC
  have HR := Aside0.mk hr
  have HIS := Aside0.mk hs
  have HNE := Aside0.mk hne
  have HOK := Aside0.mk hok
  have HAS := Aside0.mk has
  have HT := Aside0.mk ht
  have hlen := HSRC.len
  have hpos : 0 < ss.length := List.length_pos_iff.2 hne
  have hl0 : ((ss.length : Int) == 0) = false := by rw [beq_eq_false_iff_ne]; omega
  have hl1 : ((ss.length : Int) != (ss.length : Int)) = false := by simp
  have hfew := HSRC.few
  have HLE := Aside0.mk hlen
  rw [hlen]
  clear HSRC hr hs hne hok has ht hlen
  go_enter Try.func26, Try.ntmps26
  refine wp_seq_k fun K hK_ => ?_
  have hK := Aside0.mk hK_
  clear hK_
  go_wp2_with fail
  refine hK.out _ _ ?_
  clear hK K
  refine wp_seq_k fun K hK_ => ?_
  have hK := Aside0.mk hK_
  clear hK_
  go_wp2_with fail
  refine hK.out _ _ ?_
  clear hK K
  have hz1 : (W.alloc (.cells #[] 100)).heap.size = W.heap.size + 1 := Own.size_alloc _ _
  obtain ⟨w1, hw1, hbx, hk1⟩ : ∃ w1, w1 = (W.alloc (.cells #[] 100)).alloc (.cells #[.slice (some ⟨W.heap.size, 0, none⟩) 0 0] 62) ∧ w1.heap[W.heap.size + 1]? = some (.cells #[.slice (some ⟨W.heap.size, 0, none⟩) 0 0] 62 (0, 0)) ∧ Kp W w1 (fun _ => False) := ⟨_, rfl, by rw [← hz1]; exact blk_new _ _, ((Kp.self W _).alloc _).alloc _⟩
  rw [← hw1]
  obtain ⟨x, hx⟩ : ∃ x, W.heap.size + 1 = x := ⟨_, rfl⟩
  rw [hx] at hbx ⊢
  have HX := Aside0.mk hx
  have HI := Aside0.mk (init_calls w1 x _ hbx)
  have HK1 := Aside0.mk hk1
  clear hw1 hbx hk1 hz1 hx
  refine wp_seq_k fun K hK_ => ?_
  have hK := Aside0.mk hK_
  clear hK_
  go_wp2_with (first | (go_at_call 37; refine HI.out.mono ?_; rintro e_ w2 ⟨rfl, g, hg, hM, hK⟩; have HM := Aside0.mk hM; have HG := Aside0.mk hg; have HK2 : Aside0 (Kp W w2 (fun _ => False)) := ⟨(HK1.out.trans hK).mono (fun i hi h => by have := HX.out; rcases h with h | h; exact h; omega)⟩; have HIS2 := Aside0.mk (PB.slices_IsSorted_string_string.calls k _ Nc ss true w2 (Kd.C_below HR.out (kp_below HK2.out)) hc HIS.out); clear hM hg hK) | (go_at_call 39; refine HIS2.out.mono ?_; rintro e_ w3 ⟨rfl, ⟨q3, rfl⟩⟩))
  refine hK.out _ _ ?_
  clear hK K
  refine wp_seq_k fun K hK_ => ?_
  have hK := Aside0.mk hK_
  clear hK_
  go_wp2_with fail
  refine hK.out _ _ ?_
  clear hK K
  refine wp_seq_k fun K hK_ => ?_
  have hK := Aside0.mk hK_
  clear hK_
  go_wp2_with fail
  refine hK.out _ _ ?_
  clear hK K
  refine wp_seq_k fun K hK_ => ?_
  have hK := Aside0.mk hK_
  clear hK_
  go_wp2_with (first | (go_at_call 37; refine HI.out.mono ?_; rintro e_ w2 ⟨rfl, g, hg, hM, hK⟩; have HM := Aside0.mk hM; have HG := Aside0.mk hg; have HK2 : Aside0 (Kp W w2 (fun _ => False)) := ⟨(HK1.out.trans hK).mono (fun i hi h => by have := HX.out; rcases h with h | h; exact h; omega)⟩; have HIS2 := Aside0.mk (PB.slices_IsSorted_string_string.calls k _ Nc ss true w2 (Kd.C_below HR.out (kp_below HK2.out)) hc HIS.out); clear hM hg hK) | (go_at_call 39; refine HIS2.out.mono ?_; rintro e_ w3 ⟨rfl, ⟨q3, rfl⟩⟩))
  refine hK.out _ _ ?_
  clear hK K
  have hm3 := HM.out.drewN q3
  have hk3 := HK2.out.drewN q3
  have hs3 := HS0.out.step hk3 id id
  have hg3 : W.heap.size ≤ g := by have := HK1.out.size; have := HG.out; omega
  have hap : kb ≠ x ∧ kb ≠ g ∧ ib ≠ x ∧ ib ≠ g := by
    have := HS0.out.kl
    have := HS0.out.il
    have := HX.out
    omega
  have HM3 := Aside0.mk hm3
  have HK3 := Aside0.mk hk3
  have HS3 := Aside0.mk hs3
  have HG3 := Aside0.mk hg3
  have HAP := Aside0.mk hap
  clear hm3 hk3 hs3 hg3 hap HM HK2 HIS2 HI HK1
  refine bld_tail _ x g kb ko ib io Nc Dc ss ds HM3 HS3 HNE HOK HAS HT HAP ⟨?_⟩
  intro n12 n13 n62 n63 n64 n65 n66 n67 n68 n69 n70 n71 n72 n73 n74 n75 n76 n77 n78 n79 n80 g' s' w' HB
  (try simp only [Exit.then, Exit.jump])
  exact bodyPost_ret (v := .tuple #[.slice (some ⟨g', 0, none⟩) s'.n s'.n, .nilIface]) (by simp [results, Try.results26, go_sem]) rfl (bld_end HK3.out (by have := HX.out; omega) HG3.out HB.out)
end Go.Proofs.Ytaejkbjepbifcaa.Da
namespace Go.Proofs.Ytaejkbjepbifcaa.Da
open Go.RowKit Go.Proofs.YtaejkbjepbifcaaW.PrintWords
set_option linter.unusedVariables false
set_option linter.unusedSimpArgs false
/-- A row of one-cell elements of the call's own, that is not empty, stands at the head of a block. -/
theorem own_head {α : Type} {d : Kd α} {e : Nat} {w : World} {base : Nat} {ok : Nat → Prop} {v : Value} {xs : List α} (h : Kd.R d e w base ok v xs) (hne : xs ≠ []) : ∃ g c, v = .slice (some ⟨g, 0, none⟩) xs.length c ∧ base ≤ g ∧ g < w.heap.size ∧ xs.length ≤ c ∧ Kd.C d w (some ⟨g, 0, none⟩) xs.length xs := by
  obtain ⟨inner, ho⟩ := Kd.R_own h
  have hp : 0 < xs.length := List.length_pos_iff.2 hne
  rcases ho.2 with ⟨_, h0⟩ | ⟨g, cap, cur, rfl, h2, h3, h4, h5, h6, h7⟩
  · omega
  · obtain ⟨A, c, e1, l1, g1⟩ := Kd.R_reads h
    injection e1 with e1 e2 e3
    subst e1
    subst e3
    exact ⟨g, _, rfl, h2, (Array.getElem?_eq_some_iff.1 h3).1, l1, g1⟩
theorem add_at0 (g j : Nat) : (⟨g, 0, none⟩ : Addr).add j = ⟨g, 0 + j, none⟩ := by unfold Addr.add; split <;> simp_all
theorem int_cell {W : World} {A : Option Addr} {ds : List Int} (h : Kd.C (Kd.int .i64) W A ds.length ds) (j : Nat) (hj : j < ds.length) : ∃ ad, A = some ad ∧ W.cell? (ad.add j) = some (.int .i64 (ds.getD j 0)) := by
  obtain ⟨ad, c, e, _, hK, hc0⟩ := Kd.C_get h 0 (j : Int) (by omega) (by omega)
  have hK : c = [.int .i64 _] := hK
  subst hK
  have := hc0 0 _ rfl
  rw [Int.toNat_natCast] at this
  have e1 : (Kd.int .i64).sz = 1 := rfl
  rw [e1, Nat.mul_one, Nat.add_zero] at this
  exact ⟨ad, e, this⟩
/-- What is asked of keys and identifiers. -/
structure KeysOk (ss : List ByteArray) (ds : List Int) : Prop where
  ne : ss ≠ []
  len : ds.length = ss.length
  few : ss.length ≤ 1000000
  sz : ∀ t ∈ ss, t.size ≤ 1000000000
  dsb : ∀ d ∈ ds, 0 ≤ d ∧ d ≤ 2147483647
  ok : Okk (keysAll ss ds)
  asc : Asc (keysAll ss ds)
  tot : tot (keysAll ss ds) ≤ 32000
theorem src_of {W : World} {kb ib : Nat} {ss : List ByteArray} {ds : List Int} (k : KeysOk ss ds) (h1 : Kd.C Kd.string W (some ⟨kb, 0, none⟩) ss.length ss) (h2 : Kd.C (Kd.int .i64) W (some ⟨ib, 0, none⟩) ds.length ds) (hk : kb < W.heap.size) (hi : ib < W.heap.size) : Src W kb 0 ss ib 0 ds :=
  ⟨fun j hj => by
    obtain ⟨ad, e, h⟩ := str_cell h1 j hj
    cases e
    rw [add_at0] at h
    exact h, fun j hj => by
    obtain ⟨ad, e, h⟩ := int_cell h2 j hj
    cases e
    rw [add_at0] at h
    exact h, hk, hi, k.len, k.few, k.sz, k.dsb⟩
theorem clone_strs (ss : List ByteArray) (h : ss.length ≤ 1000000) : PB.slices_Clone_string_string.f ss = some ss := by
  unfold PB.slices_Clone_string_string.f
  simp only [Option.bind_some, List.nil_append, List.length_nil, Nat.zero_add]
  rw [if_pos (by omega)]
theorem clone_ints (ds : List Int) (h : ds.length ≤ 1000000) : PB.slices_Clone_int_int.f ds = some ds := by
  unfold PB.slices_Clone_int_int.f
  simp only [Option.bind_some, List.nil_append, List.length_nil, Nat.zero_add]
  rw [if_pos (by omega)]
/-- What is asked of texts. -/
def InsOk (l : List ByteArray) : Prop := l.length ≤ 1000000 ∧ ∀ t ∈ l, Cln t ∧ t.size ≤ 1000000000
set_option maxHeartbeats 16000000 in
set_option maxRecDepth 100000 in
theorem trie_calls (W : World) (A0 A1 A2 : Option Addr) (c0 c1 c2 k : Nat) (ss ts : List ByteArray) (ds : List Int) (hr0 : Kd.C Kd.string W A0 ss.length ss) (hc0 : ss.length ≤ c0) (hr1 : Kd.C (Kd.int .i64) W A1 ds.length ds) (hc1 : ds.length ≤ c1) (hr2 : Kd.C Kd.string W A2 ts.length ts) (hs : PB.slices_IsSorted_string_string.f k ss = some true) (K : KeysOk ss ds) (hI : InsOk ts) :
    Calls Try.prog 17 #[.slice A0 ss.length c0, .slice A1 ds.length c1, .slice A2 ts.length c2] W fun e w' => AskE W w' (keysAll ss ds) ts e := by
  have HR2 := Aside0.mk hr2
  have HR1 := Aside0.mk hr1
  have HC1 := Aside0.mk hc1
  have HK := Aside0.mk K
  have HI := Aside0.mk hI
  have HS := Aside0.mk hs
  have h1 := Aside0.mk (PB.slices_Clone_string_string.calls A0 c0 ss ss W hr0 hc0 (clone_strs ss K.few))
  clear hr0 hr1 hr2 hc1 hs K hI
  go_enter Try.func17, Try.ntmps17
  go_wp2_with (first | (go_at_call 27; refine h1.out.mono ?_; rintro e_ w1 ⟨v1, rfl, hv, hB⟩; have HB1 := Aside0.mk hB; have HV1 := Aside0.mk hv; have h2 := Aside0.mk (PB.slices_Clone_int_int.calls A1 c1 ds ds w1 (Kd.C_below HR1.out hB) HC1.out (clone_ints ds (by rw [HK.out.len]; exact HK.out.few))); obtain ⟨kb, kc, rfl, b1, b2, b3, b4⟩ := own_head hv HK.out.ne; have HKB := Aside0.mk b4; clear hB hv b4) | (go_at_call 28; refine h2.out.mono ?_; rintro e_ w2 ⟨v2, rfl, hv, hB⟩; have HB2 := Aside0.mk hB; have HV2 := Aside0.mk hv; obtain ⟨ib, ic, rfl, d1, d2, d3, d4⟩ := own_head hv (fun e => HK.out.ne (List.length_eq_zero_iff.1 (by rw [← HK.out.len, e]; rfl))); have HIB := Aside0.mk d4; have hkb2 := Kd.C_below HKB.out hB; have h3 := Aside0.mk (build_sorted w2 kb 0 ib 0 kc ic k ss ds (src_of HK.out hkb2 d4 (by have := hB.size; omega) d2) hkb2 b3 HS.out HK.out.ne HK.out.ok HK.out.asc HK.out.tot); clear hB hv d4 hkb2) | (go_at_call 26; refine h3.out.mono ?_; rintro e_ w3 ⟨g, s, rfl, hA, hG, hn, hg, hK⟩; have HA := Aside0.mk hA; have HG := Aside0.mk hG; have HB3 := Aside0.mk (kp_below hK); have h4 := Aside0.mk (ask_calls w3 g c2 s (keysAll ss ds) ts A2 hA hG hn HI.out.2 (Kd.C_below (Kd.C_below (Kd.C_below HR2.out HB1.out) HB2.out) HB3.out) HI.out.1); clear hA hG hK) | (go_at_call 29; refine h4.out.mono ?_; rintro e_ w4 ⟨ov, rfl, hR, hB⟩; have HR4 := Aside0.mk hR; have HB4 := Aside0.mk hB; clear hR hB))
  have hz1 := HB1.out.size
  have hz2 := HB2.out.size
  have hz3 := HB3.out.size
  refine bodyPost_ret (v := .tuple #[ov, .int .i64 0]) (by simp [results, Try.results17, go_sem]) rfl ⟨ov, rfl, Kd.R_lower HR4.out (by omega), below_step (below_step (below_step HB1.out HB2.out) HB3.out) HB4.out⟩
end Go.Proofs.Ytaejkbjepbifcaa.Da
namespace Go.Proofs.Ytaejkbjepbifcaa.Da
open Go.RowKit Go.Proofs.YtaejkbjepbifcaaW.PrintWords Go.Proofs.Ytaejkbjepbifcaa.Plain
set_option linter.unusedVariables false
set_option linter.unusedSimpArgs false
/-- Some answer, and what follows when it is yes. -/
def Tru (g : Nat → Option Bool) (P : Prop) : Prop := ∃ r, Ev g r ∧ (r = true → P)
theorem wrap_up (i : Nat) (h : i ≤ 4611686018427387904) : wrap64 ((i : Int) + 1) = ((i + 1 : Nat) : Int) := by unfold wrap64; omega
theorem wrap_dn (i : Nat) (h0 : 1 ≤ i) (h : i ≤ 4611686018427387904) : wrap64 ((i : Int) - 1) = ((i - 1 : Nat) : Int) := by unfold wrap64; omega
theorem rdOf_nat {α : Type} (d : α) (l : List α) (i : Nat) : rdOf d l (i : Int) = l.getD i d := by unfold rdOf; rw [Int.toNat_natCast]
/-- Sizes that fit. -/
def Fits (l : List ByteArray) : Prop := l.length ≤ 2147483647 ∧ ∀ t ∈ l, t.size ≤ 2147483647
theorem getD_mem {α : Type} {l : List α} {i : Nat} (d : α) (h : i < l.length) : l.getD i d ∈ l := by
  rw [List.getD_eq_getElem?_getD, List.getElem?_eq_getElem h]; exact List.getElem_mem h
theorem all_getD {α : Type} {l : List α} (d : α) {P : α → Prop} (h : ∀ j, j < l.length → P (l.getD j d)) : ∀ x ∈ l, P x := by
  intro x hx
  obtain ⟨j, hj, rfl⟩ := List.getElem_of_mem hx
  have := h j hj
  rw [List.getD_eq_getElem?_getD, List.getElem?_eq_getElem hj] at this
  exact this
theorem zf_key (l : List ByteArray) (hl : l.length ≤ 4611686018427387904) : ∀ d i, i + d = l.length → ∃ r, Ev (fun k => PB.laws_zzFits3.l0 k l (l.length : Int) (i : Int)) r ∧ (r = true → ∀ j, i ≤ j → j < l.length → (l.getD j ByteArray.empty).size ≤ 2147483647)
  | 0, i, h => ⟨true, Ev.step (fun k => by rw [PB.laws_zzFits3.l0]) (evn (by omega) (Ev.now true)), fun _ j h1 h2 => by omega⟩
  | d + 1, i, h => by
    obtain ⟨r, hr, hp⟩ := zf_key l hl d (i + 1) (by omega)
    by_cases hs : ((l.getD i ByteArray.empty).size : Int) > 2147483647
    · exact ⟨false, Ev.step (fun k => by rw [PB.laws_zzFits3.l0]) (evp (by omega) (evp (by omega) (evp (by omega) (evp (by rw [rdOf_nat]; exact hs) (Ev.now false))))), fun h => by cases h⟩
    · refine ⟨r, Ev.step (fun k => by rw [PB.laws_zzFits3.l0]) (evp (by omega) (evp (by omega) (evp (by omega) (evn (by rw [rdOf_nat]; exact hs) (by rw [wrap_up i (by omega)]; exact hr))))), fun h j h1 h2 => ?_⟩
      by_cases e : j = i
      · subst e; omega
      · exact hp h j (by omega) h2
theorem zf_ev (l : List ByteArray) (hl : l.length ≤ 4611686018427387904) : Tru (fun k => PB.laws_zzFits3.f k l) (Fits l) := by
  unfold PB.laws_zzFits3.f
  by_cases h : (l.length : Int) > 2147483647
  · exact ⟨false, evp h (Ev.now false), fun h => by cases h⟩
  · obtain ⟨r, hr, hp⟩ := zf_key l hl l.length 0 (by omega)
    exact ⟨r, evn h hr, fun e => ⟨by omega, all_getD _ (fun j hj => hp e j (Nat.zero_le _) hj)⟩⟩
/-- The texts' bytes, each with one more. -/
def wt (l : List ByteArray) : Nat := (l.map (fun t => t.size + 1)).sum
theorem wt_drop {l : List ByteArray} {j : Nat} (h : j < l.length) : wt (l.drop j) = (l.getD j ByteArray.empty).size + 1 + wt (l.drop (j + 1)) := by
  rw [List.drop_eq_getElem_cons h, List.getD_eq_getElem?_getD, List.getElem?_eq_getElem h]
  unfold wt
  rw [List.map_cons, List.sum_cons]
  rfl
theorem wt_le {l : List ByteArray} (h : Fits l) (j : Nat) : wt (l.drop j) ≤ 2147483648 * 2147483647 := by
  have key : ∀ m : List ByteArray, (∀ t ∈ m, t.size ≤ 2147483647) → wt m ≤ 2147483648 * m.length := by
    intro m
    induction m with
    | nil => intro _; simp [wt]
    | cons t m ih =>
      intro hm
      have h1 := hm t List.mem_cons_self
      have h2 := ih (fun x hx => hm x (List.mem_cons_of_mem _ hx))
      simp only [wt, List.map_cons, List.sum_cons, List.length_cons] at h2 ⊢
      omega
  have h1 := key (l.drop j) (fun t ht => h.2 t (List.mem_of_mem_drop ht))
  have h2 := h.1
  rw [List.length_drop] at h1
  have : 2147483648 * (l.length - j) ≤ 2147483648 * 2147483647 := Nat.mul_le_mul_left _ (by omega)
  omega
theorem few_in (ls : List (List ByteArray)) (i : Nat) (hi : i < ls.length) (hf : Fits (ls.getD i [])) (r : Bool) (hls : ls.length ≤ 4) : ∀ d j n, j + d = (ls.getD i []).length → n + wt ((ls.getD i []).drop j) ≤ 9223372036854775807 →
    Ev (fun k => PB.laws_few.l0 k ls ((n + wt ((ls.getD i []).drop j) : Nat) : Int) (ls.length : Int) ((i + 1 : Nat) : Int)) r → Ev (fun k => PB.laws_few.l1 k ls (n : Int) (i : Int) (ls.length : Int) (i : Int) ((PB.rd_L1 ls (i : Int)).length : Int) (j : Int)) r
  | 0, j, n, h, hn, hr => by
    have e : PB.rd_L1 ls (i : Int) = ls.getD i [] := by unfold PB.rd_L1; rw [Int.toNat_natCast]
    refine Ev.step (fun k => by rw [PB.laws_few.l1]) (evn (by rw [e]; omega) ?_)
    rw [wrap_up i (by omega)]
    rw [List.drop_eq_nil_of_le (by omega)] at hr
    exact hr
  | d + 1, j, n, h, hn, hr => by
    have e : PB.rd_L1 ls (i : Int) = ls.getD i [] := by unfold PB.rd_L1; rw [Int.toNat_natCast]
    have hj : j < (ls.getD i []).length := by omega
    have hsz := hf.2 _ (getD_mem ByteArray.empty hj)
    have hl := hf.1
    have hw := wt_drop hj
    have ih := few_in ls i hi hf r hls d (j + 1) (n + (((ls.getD i []).getD j ByteArray.empty).size + 1)) (by omega) (by omega) (by rw [hw] at hr; rw [show n + (((ls.getD i []).getD j ByteArray.empty).size + 1) + wt ((ls.getD i []).drop (j + 1)) = n + (((ls.getD i []).getD j ByteArray.empty).size + 1 + wt ((ls.getD i []).drop (j + 1))) by omega]; exact hr)
    refine Ev.step (fun k => by rw [PB.laws_few.l1]) (evp (by rw [e]; omega) (evp (by omega) (evp (by omega) (evp (by omega) (evp (by rw [e]; omega) ?_)))))
    have e1 : wrap64 ((n : Int) + wrap64 (((rdOf ByteArray.empty (PB.rd_L1 ls (i : Int)) (j : Int)).size : Int) + 1)) = ((n + (((ls.getD i []).getD j ByteArray.empty).size + 1) : Nat) : Int) := by
      rw [e, rdOf_nat, wrap_ok (i := (((ls.getD i []).getD j ByteArray.empty).size : Int) + 1) (by omega) (by omega), wrap_ok (by omega) (by omega)]
      omega
    rw [e1, wrap_up j (by omega)]
    exact ih
def wts (ls : List (List ByteArray)) : Nat := (ls.map wt).sum
theorem few_key (ls : List (List ByteArray)) (hf : ∀ l ∈ ls, Fits l) (hls : ls.length ≤ 4) : ∀ d i n, i + d = ls.length → n + wts (ls.drop i) ≤ 9223372036854775807 →
    Ev (fun k => PB.laws_few.l0 k ls (n : Int) (ls.length : Int) (i : Int)) (decide (n + wts (ls.drop i) ≤ 4000))
  | 0, i, n, h, hn => by
    rw [List.drop_eq_nil_of_le (by omega)]
    refine Ev.step (fun k => by rw [PB.laws_few.l0]) (evn (by omega) ?_)
    have : decide ((n : Int) ≤ 4000) = decide (n + wts [] ≤ 4000) := by
      simp only [wts, List.map_nil, List.sum_nil, Nat.add_zero]
      apply decide_eq_decide.2
      omega
    rw [this]
    exact Ev.now _
  | d + 1, i, n, h, hn => by
    have hi : i < ls.length := by omega
    have e : wts (ls.drop i) = wt (ls.getD i []) + wts (ls.drop (i + 1)) := by
      rw [List.drop_eq_getElem_cons hi, List.getD_eq_getElem?_getD, List.getElem?_eq_getElem hi]
      unfold wts
      rw [List.map_cons, List.sum_cons]
      rfl
    have ih := few_key ls hf hls d (i + 1) (n + wt (ls.getD i [])) (by omega) (by omega)
    have hin := few_in ls i hi (hf _ (getD_mem [] hi)) _ hls (ls.getD i []).length 0 n (by omega) (by rw [List.drop_zero]; omega) (by rw [List.drop_zero]; exact ih)
    rw [e, ← Nat.add_assoc]
    rw [show ((0 : Nat) : Int) = 0 from rfl] at hin
    exact Ev.step (fun k => by rw [PB.laws_few.l0]) (evp (by omega) (evp (by omega) (evp (by omega) hin)))
theorem wt_fits {l : List ByteArray} (h : Fits l) : wt l ≤ 4611686016279904256 := by have := wt_le h 0; rw [List.drop_zero] at this; omega
theorem few_ev2 (a b : List ByteArray) (ha : Fits a) (hb : Fits b) : Ev (fun k => PB.laws_few.f k [a, b]) (decide (wt a + wt b ≤ 4000)) := by
  have h1 := wt_fits ha
  have h2 := wt_fits hb
  have := few_key [a, b] (by intro l hl; simp at hl; rcases hl with rfl | rfl <;> assumption) (by simp) 2 0 0 rfl (by simp [wts]; omega)
  simpa [wts, PB.laws_few.f] using this
theorem few_ev1 (a : List ByteArray) (ha : Fits a) : Ev (fun k => PB.laws_few.f k [a]) (decide (wt a ≤ 4000)) := by
  have h1 := wt_fits ha
  have := few_key [a] (by intro l hl; simp at hl; subst hl; exact ha) (by simp) 1 0 0 rfl (by simp [wts]; omega)
  simpa [wts, PB.laws_few.f] using this
theorem bt_nat (t : ByteArray) (i : Nat) (h : i < t.size) : bt t (i : Int) = (bs t).getD i 0 := by
  rw [bs_at t i h]
  unfold bt
  rw [dif_pos (by simpa using h)]
  simp
theorem within_key (t : ByteArray) (ht : t.size ≤ 4611686018427387904) : ∀ d i, i + d = t.size → ∃ r, Ev (fun k => PB.laws_within.l0 k t 0 (t.size : Int) (i : Int)) r ∧ (r = false → ∀ j, i ≤ j → j < t.size → (bs t).getD j 0 ≠ 0)
  | 0, i, h => ⟨false, Ev.step (fun k => by rw [PB.laws_within.l0]) (evn (by omega) (Ev.now false)), fun _ j h1 h2 => by omega⟩
  | d + 1, i, h => by
    obtain ⟨r, hr, hp⟩ := within_key t ht d (i + 1) (by omega)
    by_cases hs : bt t (i : Int) = 0
    · exact ⟨true, Ev.step (fun k => by rw [PB.laws_within.l0]) (evp (by omega) (evp (by omega) (evp (by omega) (evp hs (Ev.now true))))), fun h => by cases h⟩
    · refine ⟨r, Ev.step (fun k => by rw [PB.laws_within.l0]) (evp (by omega) (evp (by omega) (evp (by omega) (evn hs (by rw [wrap_up i (by omega)]; exact hr))))), fun h j h1 h2 => ?_⟩
      by_cases e : j = i
      · subst e; rw [← bt_nat t j (by omega)]; exact hs
      · exact hp h j (by omega) h2
theorem bs_range (t : ByteArray) : ∀ c ∈ bs t, 0 ≤ c ∧ c ≤ 255 := by
  intro c hc
  unfold bs at hc
  obtain ⟨b, _, rfl⟩ := List.mem_map.1 hc
  have := b.toNat_lt
  omega
theorem cln_of {t : ByteArray} (h : ∀ j, j < t.size → (bs t).getD j 0 ≠ 0) : Cln t := by
  intro c hc
  have hr := bs_range t c hc
  have h1 : c ≠ 0 := all_getD (P := fun c => c ≠ 0) 0 (fun j hj => h j (by rw [bs_len] at hj; exact hj)) c hc
  unfold Okc
  omega
theorem within_ev (t : ByteArray) (ht : t.size ≤ 4611686018427387904) : ∃ r, Ev (fun k => PB.laws_within.f k t 0) r ∧ (r = false → Cln t) := by
  obtain ⟨r, hr, hp⟩ := within_key t ht t.size 0 (by omega)
  exact ⟨r, hr, fun e => cln_of (fun j hj => hp e j (Nat.zero_le _) hj)⟩
theorem clean_key (l : List ByteArray) (hl : Fits l) : ∀ d i, i + d = l.length → ∃ r, Ev (fun k => PB.laws_clean.l0 k l (l.length : Int) (i : Int)) r ∧ (r = true → ∀ j, i ≤ j → j < l.length → Cln (l.getD j ByteArray.empty))
  | 0, i, h => ⟨true, Ev.step (fun k => by rw [PB.laws_clean.l0]) (evn (by omega) (Ev.now true)), fun _ j h1 h2 => by omega⟩
  | d + 1, i, h => by
    have hl1 := hl.1
    obtain ⟨r, hr, hp⟩ := clean_key l hl d (i + 1) (by omega)
    have hm := hl.2 _ (getD_mem ByteArray.empty (show i < l.length by omega))
    obtain ⟨rw_, hw, hwp⟩ := within_ev (l.getD i ByteArray.empty) (by omega)
    cases rw_ with
    | true => exact ⟨false, Ev.step (fun k => by rw [PB.laws_clean.l0]) (evp (by omega) (evp (by omega) (evp (by omega) (by rw [rdOf_nat]; exact Ev.bind hw (evp rfl (Ev.now false)))))), fun h => by cases h⟩
    | false =>
      refine ⟨r, Ev.step (fun k => by rw [PB.laws_clean.l0]) (evp (by omega) (evp (by omega) (evp (by omega) (by rw [rdOf_nat]; exact Ev.bind hw (evn (by simp) (by rw [wrap_up i (by omega)]; exact hr)))))), fun h j h1 h2 => ?_⟩
      by_cases e : j = i
      · subst e; exact hwp rfl
      · exact hp h j (by omega) h2
theorem clean_ev (l : List ByteArray) (hl : Fits l) : Tru (fun k => PB.laws_clean.f k l) (∀ t ∈ l, Cln t) := by
  obtain ⟨r, hr, hp⟩ := clean_key l hl l.length 0 (by omega)
  exact ⟨r, hr, fun e => all_getD _ (fun j hj => hp e j (Nat.zero_le _) hj)⟩
theorem ids_key (l : List Int) (n : Int) (hl : l.length ≤ 4611686018427387904) : ∀ d i, i + d = l.length → ∃ r, Ev (fun k => PB.laws_goodIDs.l0 k l n l (l.length : Int) (i : Int)) r ∧ (r = true → (l.length : Int) = n ∧ ∀ j, i ≤ j → j < l.length → 0 ≤ l.getD j 0 ∧ l.getD j 0 ≤ 2147483647)
  | 0, i, h => ⟨_, Ev.step (fun k => by rw [PB.laws_goodIDs.l0]) (evn (by omega) (Ev.now _)), fun h => ⟨beq_iff_eq.1 h, fun j h1 h2 => by omega⟩⟩
  | d + 1, i, h => by
    obtain ⟨r, hr, hp⟩ := ids_key l n hl d (i + 1) (by omega)
    have e : rd l (i : Int) = l.getD i 0 := by unfold rd; rw [Int.toNat_natCast]
    by_cases h1 : l.getD i 0 < 0
    · exact ⟨false, Ev.step (fun k => by rw [PB.laws_goodIDs.l0]) (evp (by omega) (evp (by omega) (evp (by omega) (evp (by rw [e]; exact h1) (Ev.now false))))), fun h => by cases h⟩
    · by_cases h2 : l.getD i 0 > 2147483647
      · exact ⟨false, Ev.step (fun k => by rw [PB.laws_goodIDs.l0]) (evp (by omega) (evp (by omega) (evp (by omega) (evn (by rw [e]; exact h1) (evp (by rw [e]; exact h2) (Ev.now false)))))), fun h => by cases h⟩
      · refine ⟨r, Ev.step (fun k => by rw [PB.laws_goodIDs.l0]) (evp (by omega) (evp (by omega) (evp (by omega) (evn (by rw [e]; exact h1) (evn (by rw [e]; exact h2) (by rw [wrap_up i (by omega)]; exact hr)))))), fun h => ⟨(hp h).1, fun j g1 g2 => ?_⟩⟩
        by_cases e : j = i
        · subst e; omega
        · exact (hp h).2 j (by omega) g2
theorem ids_ev (l : List Int) (n : Int) (hl : l.length ≤ 4611686018427387904) : Tru (fun k => PB.laws_goodIDs.f k l n) ((l.length : Int) = n ∧ ∀ d ∈ l, 0 ≤ d ∧ d ≤ 2147483647) := by
  obtain ⟨r, hr, hp⟩ := ids_key l n hl l.length 0 (by omega)
  exact ⟨r, hr, fun e => ⟨(hp e).1, all_getD _ (fun j hj => (hp e).2 j (Nat.zero_le _) hj)⟩⟩
/-- Ascending, none empty, none with a byte 0. -/
structure Ord (l : List ByteArray) (strict : Bool) : Prop where
  cln : ∀ t ∈ l, Cln t
  ne : ∀ t ∈ l, t.toList ≠ []
  up : ∀ i, i + 1 < l.length → Op.bytesLess (l.getD (i + 1) ByteArray.empty).toList (l.getD i ByteArray.empty).toList = false
  str : strict = true → ∀ i, i + 1 < l.length → (l.getD (i + 1) ByteArray.empty).toList ≠ (l.getD i ByteArray.empty).toList
  pos : l ≠ []
end Go.Proofs.Ytaejkbjepbifcaa.Da
namespace Go.Proofs.Ytaejkbjepbifcaa.Da
open Go.RowKit Go.Proofs.YtaejkbjepbifcaaW.PrintWords Go.Proofs.Ytaejkbjepbifcaa.Plain
set_option linter.unusedVariables false
set_option linter.unusedSimpArgs false
theorem le_of_not : ∀ (x y : List UInt8), ¬ y < x → le (x.map (fun b => (b.toNat : Int))) (y.map (fun b => (b.toNat : Int)))
  | [], _, _ => trivial
  | a :: x, [], h => absurd (List.nil_lt_cons a x) h
  | a :: x, b :: y, h => by
    rw [List.cons_lt_cons_iff] at h
    show (a.toNat : Int) < b.toNat ∨ ((a.toNat : Int) = b.toNat ∧ le _ _)
    by_cases e : a = b
    · subst e
      exact Or.inr ⟨rfl, le_of_not x y (fun h2 => h (Or.inr ⟨rfl, h2⟩))⟩
    · left
      have h1 : ¬ b < a := fun h2 => h (Or.inl h2)
      rw [UInt8.lt_iff_toNat_lt] at h1
      have h2 : a.toNat ≠ b.toNat := fun h2 => e (UInt8.toNat_inj.1 h2)
      omega
theorem up_le {l : List ByteArray} (h : ∀ i, i + 1 < l.length → Op.bytesLess (l.getD (i + 1) ByteArray.empty).toList (l.getD i ByteArray.empty).toList = false) : ∀ d i, i + d < l.length → ¬ (l.getD (i + d) ByteArray.empty).toList < (l.getD i ByteArray.empty).toList
  | 0, i, _ => List.lt_irrefl _
  | d + 1, i, hd => by
    have ih := up_le h d i (by omega)
    have h1 := h (i + d) (by omega)
    rw [Own.bl_eq, decide_eq_false_iff_not] at h1
    rw [show i + (d + 1) = i + d + 1 by omega]
    have a : (l.getD i ByteArray.empty).toList ≤ (l.getD (i + d) ByteArray.empty).toList := List.not_lt.1 ih
    have b : (l.getD (i + d) ByteArray.empty).toList ≤ (l.getD (i + d + 1) ByteArray.empty).toList := List.not_lt.1 h1
    exact List.not_lt.2 (List.le_trans a b)
theorem le_words {l : List ByteArray} (h : ∀ i, i + 1 < l.length → Op.bytesLess (l.getD (i + 1) ByteArray.empty).toList (l.getD i ByteArray.empty).toList = false) {i j : Nat} (hij : i < j) (hj : j < l.length) : le (word l i) (word l j) := by
  have := up_le h (j - i) i (by omega)
  rw [show i + (j - i) = j by omega, Lib.toList_data, Lib.toList_data] at this
  exact le_of_not _ _ this
theorem wt_len (l : List ByteArray) : l.length ≤ wt l := by
  induction l with
  | nil => exact Nat.le_refl _
  | cons t l ih => simp only [wt, List.map_cons, List.sum_cons, List.length_cons] at ih ⊢; omega
theorem wt_mem {l : List ByteArray} {t : ByteArray} (h : t ∈ l) : t.size ≤ wt l := by
  induction l with
  | nil => cases h
  | cons u l ih =>
    simp only [wt, List.map_cons, List.sum_cons] at ih ⊢
    rcases List.mem_cons.1 h with rfl | h
    · omega
    · have := ih h; omega
theorem tot_wt (ss : List ByteArray) (ds : List Int) : tot (keysAll ss ds) ≤ wt ss := by
  have key : ∀ n, n ≤ ss.length → ((List.range n).map (fun z => (word ss z).length)).sum ≤ wt (ss.take n) := by
    intro n
    induction n with
    | zero => intro _; exact Nat.zero_le _
    | succ n ih =>
      intro hn
      have := ih (by omega)
      rw [List.range_succ, List.map_append, List.sum_append, List.take_succ_eq_append_getElem (by omega)]
      unfold wt at this ⊢
      rw [List.map_append, List.sum_append]
      have e : (word ss n).length = (ss[n]'(by omega)).size := by
        unfold word
        rw [bs_len, List.getD_eq_getElem?_getD, List.getElem?_eq_getElem (by omega)]; rfl
      simp only [List.map_cons, List.map_nil, List.sum_cons, List.sum_nil, e]
      omega
  have := key ss.length (Nat.le_refl _)
  rw [List.take_length] at this
  refine Nat.le_trans (Nat.le_of_eq ?_) this
  unfold tot keysAll keysOf
  rw [List.map_map]
  congr 1
theorem keys_ok2 {ss : List ByteArray} {ds : List Int} (hw : wt ss ≤ 4000) (hpos : ss ≠ []) (hcln : ∀ t ∈ ss, Cln t) (hup : ∀ i, i + 1 < ss.length → Op.bytesLess (ss.getD (i + 1) ByteArray.empty).toList (ss.getD i ByteArray.empty).toList = false) (hl : ds.length = ss.length) (hd : ∀ d ∈ ds, 0 ≤ d ∧ d ≤ 2147483647) : KeysOk ss ds := by
  have h1 := wt_len ss
  refine ⟨hpos, hl, by omega, fun t ht => by have := wt_mem ht; omega, hd, ?_, ?_, by have := tot_wt ss ds; omega⟩
  · intro k hk
    obtain ⟨z, hz, rfl⟩ := List.mem_map.1 hk
    show Okw ((word ss z).drop 0)
    rw [List.drop_zero]
    exact hcln _ (getD_mem _ (List.mem_range.1 hz))
  · show List.Pairwise _ ((List.range ss.length).map _)
    rw [List.pairwise_map]
    refine List.pairwise_lt_range.imp_of_mem (fun {a b} ha hb hab => ?_)
    show le ((word ss a).drop 0) ((word ss b).drop 0)
    rw [List.drop_zero, List.drop_zero]
    exact le_words hup hab (List.mem_range.1 hb)
theorem keys_ok {ss : List ByteArray} {ds : List Int} {st : Bool} (hw : wt ss ≤ 4000) (ho : Ord ss st) (hl : ds.length = ss.length) (hd : ∀ d ∈ ds, 0 ≤ d ∧ d ≤ 2147483647) : KeysOk ss ds := keys_ok2 hw ho.pos ho.cln ho.up hl hd
theorem nan_f (a : ByteArray) : PB.cmp_isNaN_string.f a = some false := by simp [PB.cmp_isNaN_string.f]
theorem less_f (a b : ByteArray) : PB.cmp_Less_string.f a b = some (Op.bytesLess a.toList b.toList) := by simp [PB.cmp_Less_string.f, nan_f]
theorem sorted_key (l : List ByteArray) (hl : l.length ≤ 4611686018427387904) (h : ∀ i, i + 1 < l.length → Op.bytesLess (l.getD (i + 1) ByteArray.empty).toList (l.getD i ByteArray.empty).toList = false) : ∀ i, i < l.length → Ev (fun k => PB.slices_IsSorted_string_string.l0 k l (i : Int)) true
  | 0, hi => Ev.step (fun k => by rw [PB.slices_IsSorted_string_string.l0]) (evn (by omega) (Ev.now true))
  | i + 1, hi => by
    have ih := sorted_key l hl h i (by omega)
    have e : wrap64 (((i + 1 : Nat) : Int) - 1) = (i : Int) := by rw [wrap_dn (i + 1) (by omega) (by omega)]; rfl
    refine Ev.step (fun k => by rw [PB.slices_IsSorted_string_string.l0]) (evp (by omega) (evp (by omega) (evp (by omega) (evp (by rw [e]; omega) (evp (by rw [e]; omega) ?_)))))
    rw [e, rdOf_nat, rdOf_nat, less_f, h i hi]
    exact Ev.bind (Ev.now false) (evn (by simp) ih)
theorem sorted_ev (l : List ByteArray) (h0 : l ≠ []) (hl : l.length ≤ 4611686018427387904) (h : ∀ i, i + 1 < l.length → Op.bytesLess (l.getD (i + 1) ByteArray.empty).toList (l.getD i ByteArray.empty).toList = false) : ∃ k, PB.slices_IsSorted_string_string.f k l = some true := by
  have hp := List.length_pos_iff.2 h0
  have := sorted_key l hl h (l.length - 1) (by omega)
  have e : wrap64 ((l.length : Int) - 1) = ((l.length - 1 : Nat) : Int) := wrap_dn _ (by omega) hl
  obtain ⟨k, hk⟩ := this.rounds
  exact ⟨k, by unfold PB.slices_IsSorted_string_string.f; rw [e]; exact hk⟩
/-- The same lists. -/
theorem same_key (l : List PB.S39) (hl : l.length ≤ 4611686018427387904) : ∀ d i, i + d = l.length → Ev (fun k => PB.impl_Hit.l0 k l l (l.length : Int) (i : Int)) true
  | 0, i, h => Ev.step (fun k => by rw [PB.impl_Hit.l0]) (evn (by omega) (Ev.now true))
  | d + 1, i, h => by
    have ih := same_key l hl d (i + 1) (by omega)
    exact Ev.step (fun k => by rw [PB.impl_Hit.l0]) (evp (by omega) (evp (by omega) (evp (by omega) (evp (by omega) (evn (by simp) (by rw [wrap_up i (by omega)]; exact ih))))))
theorem same_ev (l : List PB.S39) (hl : l.length ≤ 4611686018427387904) : Ev (fun k => PB.impl_Hit.f k l l) true := by
  have := same_key l hl l.length 0 (by omega)
  exact evp rfl this
/-- An answer in a row. -/
theorem ans_at {w : World} {base g c : Nat} {ok : Nat → Prop} {l : List PB.S34} (h : Kd.R PB.k34 34 w base ok (.slice (some ⟨g, 0, none⟩) l.length c) l) (j : Nat) (hj : j < l.length) (a : PB.S34) (ha : l[j]? = some a) :
    ∃ A4 c4 A5 c5, w.cell? ⟨g, j * 6, none⟩ = some (.int .i64 a.f0.f0) ∧ w.cell? ⟨g, j * 6 + 1, none⟩ = some (.bool a.f0.f1) ∧ w.cell? ⟨g, j * 6 + 2, none⟩ = some (.int .i64 a.f1.f0) ∧ w.cell? ⟨g, j * 6 + 3, none⟩ = some (.bool a.f1.f1) ∧ w.cell? ⟨g, j * 6 + 4, none⟩ = some (.slice A4 a.f2.length c4) ∧ w.cell? ⟨g, j * 6 + 5, none⟩ = some (.slice A5 a.f3.length c5) ∧
      Kd.R PB.k39 39 w base ok (.slice A4 a.f2.length c4) a.f2 ∧ Kd.R PB.k39 39 w base ok (.slice A5 a.f3.length c5) a.f3 := by
  obtain ⟨_, hR⟩ := h
  obtain ⟨A, c', e1, l1, hr⟩ := OwnRow.reads hR
  cases e1
  obtain ⟨ad, e2, hx⟩ := hr.2.2 (by omega)
  cases e2
  obtain ⟨cs, _, hM, hc⟩ := hx j a ha
  obtain ⟨v4, v5, rfl, g4, g5⟩ := PB.k34_openM hM
  obtain ⟨A4, c4, rfl⟩ := Kd.R_slice g4
  obtain ⟨A5, c5, rfl⟩ := Kd.R_slice g5
  have e3 : ∀ i, (⟨g, 0, none⟩ : Addr).add (j * PB.k34.sz + i) = ⟨g, j * 6 + i, none⟩ := fun i => by
    show (⟨g, 0, none⟩ : Addr).add (j * 6 + i) = _
    rw [add_at0, Nat.zero_add]
  refine ⟨A4, c4, A5, c5, ?_, ?_, ?_, ?_, ?_, ?_, Kd.R_mono g4 (fun k hk => hk.1), Kd.R_mono g5 (fun k hk => hk.1)⟩
  · have := hc 0 _ rfl; rw [e3] at this; exact this
  · have := hc 1 _ rfl; rw [e3] at this; exact this
  · have := hc 2 _ rfl; rw [e3] at this; exact this
  · have := hc 3 _ rfl; rw [e3] at this; exact this
  · have := hc 4 _ rfl; rw [e3] at this; exact this
  · have := hc 5 _ rfl; rw [e3] at this; exact this
/-- What laws.trie hands back. -/
def TrA (W w' : World) (L : Keys) (s : ByteArray) (e : Ending) : Prop := ∃ A4 c4 A5 c5, e = .returned (.tuple #[.agg #[.int .i64 (fnd L s).1, .bool (fnd L s).2, .int .i64 (lng L s).1, .bool (lng L s).2, .slice A4 (hitsS L (bs s) (bs s).length).length c4, .slice A5 (hitsS L (bs s) (bs s).length).length c5], .bool true]) ∧
  Kd.R PB.k39 39 w' W.heap.size (fun _ => True) (.slice A4 (hitsS L (bs s) (bs s).length).length c4) (hitsS L (bs s) (bs s).length) ∧ Kd.R PB.k39 39 w' W.heap.size (fun _ => True) (.slice A5 (hitsS L (bs s) (bs s).length).length c5) (hitsS L (bs s) (bs s).length) ∧ Below W.heap.size W w'
/-- The answer is stored in the result's box. -/
theorem row_far {w : World} {base xb i : Nat} {v u : Value} {xs : List PB.S39} (h : Kd.R PB.k39 39 w base (fun _ => True) v xs) (hb : xb < base) : Kd.R PB.k39 39 (w.setCell ⟨xb, i, none⟩ u) base (fun _ => True) v xs :=
  Kd.R_mono (Kd.R_far (p := ⟨xb, i, none⟩) (Kd.R_mono (Kd.R_bound h) (ok' := fun k => k ≠ xb) (fun k hk => by have := hk.2.1; omega)) (fun k hk => hk) u) (fun _ _ => trivial)
theorem ltrie_end {W w : World} {L : Keys} {s : ByteArray} {A4 A5 : Option Addr} {c4 c5 : Nat} {u0 u1 u2 u3 u4 u5 : Value} (hB : Below W.heap.size W w) (h4 : Kd.R PB.k39 39 w (W.heap.size + 1 + 1) (fun _ => True) (.slice A4 (hitsS L (bs s) (bs s).length).length c4) (hitsS L (bs s) (bs s).length)) (h5 : Kd.R PB.k39 39 w (W.heap.size + 1 + 1) (fun _ => True) (.slice A5 (hitsS L (bs s) (bs s).length).length c5) (hitsS L (bs s) (bs s).length)) :
    TrA W ((((((w.setCell ⟨W.heap.size, 0, none⟩ u0).setCell ⟨W.heap.size, 1, none⟩ u1).setCell ⟨W.heap.size, 2, none⟩ u2).setCell ⟨W.heap.size, 3, none⟩ u3).setCell ⟨W.heap.size, 4, none⟩ u4).setCell ⟨W.heap.size, 5, none⟩ u5) L s (.returned (.tuple #[.agg #[.int .i64 (fnd L s).1, .bool (fnd L s).2, .int .i64 (lng L s).1, .bool (lng L s).2, .slice A4 (hitsS L (bs s) (bs s).length).length c4, .slice A5 (hitsS L (bs s) (bs s).length).length c5], .bool true])) := by
  have k1 : W.heap.size < W.heap.size + 1 + 1 := by omega
  exact ⟨A4, c4, A5, c5, rfl, Kd.R_lower (row_far (row_far (row_far (row_far (row_far (row_far h4 k1) k1) k1) k1) k1) k1) (by omega), Kd.R_lower (row_far (row_far (row_far (row_far (row_far (row_far h5 k1) k1) k1) k1) k1) k1) (by omega), (((((hB.setCell (Nat.le_refl _) _).setCell (Nat.le_refl _) _).setCell (Nat.le_refl _) _).setCell (Nat.le_refl _) _).setCell (Nat.le_refl _) _).setCell (Nat.le_refl _) _⟩
set_option maxHeartbeats 16000000 in
set_option maxRecDepth 100000 in
theorem ltrie_calls (W : World) (A0 A1 : Option Addr) (c0 c1 k : Nat) (ss : List ByteArray) (s : ByteArray) (ds : List Int) (hr0 : Kd.C Kd.string W A0 ss.length ss) (hc0 : ss.length ≤ c0) (hr1 : Kd.C (Kd.int .i64) W A1 ds.length ds) (hc1 : ds.length ≤ c1) (hs : PB.slices_IsSorted_string_string.f k ss = some true) (K : KeysOk ss ds) (hI : Cln s ∧ s.size ≤ 1000000000) :
    Calls Try.prog 15 #[.slice A0 ss.length c0, .slice A1 ds.length c1, .string s] W fun e w' => TrA W w' (keysAll ss ds) s e := by
  have HR0 := Aside0.mk hr0
  have HR1 := Aside0.mk hr1
  have HC0 := Aside0.mk hc0
  have HC1 := Aside0.mk hc1
  have HK := Aside0.mk K
  have HI := Aside0.mk hI
  have HS := Aside0.mk hs
  clear hr0 hr1 hc0 hc1 hs K hI
  go_enter Try.func15, Try.ntmps15
  have HT : Aside0 (∀ (w1 : World) (b : Nat), b = w1.heap.size → Below W.heap.size W w1 → Calls Try.prog 17 #[.slice A0 ss.length c0, .slice A1 ds.length c1, .slice (some ⟨b, 0, none⟩) 1 1] (w1.alloc (.cells #[.string s] 9)) fun e w' => ∃ g c A4 c4 A5 c5, e = .returned (.tuple #[.slice (some ⟨g, 0, none⟩) 1 c, .int .i64 0]) ∧ (w'.cell? ⟨g, 0, none⟩ = some (.int .i64 (fnd (keysAll ss ds) s).1) ∧ w'.cell? ⟨g, 1, none⟩ = some (.bool (fnd (keysAll ss ds) s).2) ∧ w'.cell? ⟨g, 2, none⟩ = some (.int .i64 (lng (keysAll ss ds) s).1) ∧ w'.cell? ⟨g, 3, none⟩ = some (.bool (lng (keysAll ss ds) s).2) ∧ w'.cell? ⟨g, 4, none⟩ = some (.slice A4 (hitsS (keysAll ss ds) (bs s) (bs s).length).length c4) ∧ w'.cell? ⟨g, 5, none⟩ = some (.slice A5 (hitsS (keysAll ss ds) (bs s) (bs s).length).length c5)) ∧
      Aside0 (Kd.R PB.k39 39 w' (w1.heap.size + 1) (fun _ => True) (.slice A4 (hitsS (keysAll ss ds) (bs s) (bs s).length).length c4) (hitsS (keysAll ss ds) (bs s) (bs s).length) ∧ Kd.R PB.k39 39 w' (w1.heap.size + 1) (fun _ => True) (.slice A5 (hitsS (keysAll ss ds) (bs s) (bs s).length).length c5) (hitsS (keysAll ss ds) (bs s) (bs s).length)) ∧ Aside0 (g ≠ W.heap.size) ∧ Aside0 (Below (w1.heap.size + 1) (w1.alloc (.cells #[.string s] 9)) w')) := ⟨fun w1 b hbe hb => by
    subst hbe
    have hb2 := below_alloc hb (.cells #[.string s] 9)
    refine (trie_calls _ A0 A1 (some ⟨w1.heap.size, 0, none⟩) c0 c1 1 k ss [s] ds (Kd.C_below HR0.out hb2) HC0.out (Kd.C_below HR1.out hb2) HC1.out (Own.C_alloc_new w1 [s] 9 (0, 0) _ rfl (by simp)) HS.out HK.out ⟨by simp, fun t ht => by rw [List.mem_singleton.1 ht]; exact HI.out⟩).mono ?_
    rintro e w' ⟨ov, rfl, hR, hB⟩
    have hz : (w1.alloc (.cells #[.string s] 9)).heap.size = w1.heap.size + 1 := Own.size_alloc _ _
    rw [hz] at hR hB
    obtain ⟨g, c, rfl, hg0, hg, _, _⟩ := own_head hR (by simp)
    obtain ⟨A4, c4, A5, c5, h0, h1, h2, h3, h4, h5, g4, g5⟩ := ans_at hR 0 (by simp) (ans (keysAll ss ds) s) rfl
    simp only [Nat.zero_mul, Nat.zero_add] at h0 h1 h2 h3 h4 h5
    have hz2 := hb.size
    exact ⟨g, c, A4, c4, A5, c5, rfl, ⟨h0, h1, h2, h3, h4, h5⟩, ⟨g4, g5⟩, ⟨by omega⟩, ⟨hB⟩⟩⟩
  go_upto_region 2 with (go_at_call 17; refine (HT.out _ _ (Own.size_alloc _ _).symm (below_alloc (Below.refl _ _) _)).mono ?_; rintro e_ w2 ⟨g, c, A4, c4, A5, c5, rfl, ⟨k0, k1, k2, k3, k4, k5⟩, HC, HNE, HB⟩)
  have hb1 : (W.alloc (.cells #[.int .i64 0, .bool false, .int .i64 0, .bool false, .slice none 0 0, .slice none 0 0] 34)).heap.size = W.heap.size + 1 := Own.size_alloc _ _
  have hbx : ABox w2 W.heap.size (.int .i64 0) (.bool false) (.int .i64 0) (.bool false) (.slice none 0 0) (.slice none 0 0) :=
    (HB.out.block _ (by omega)).trans (((below_alloc (Below.refl _ _) _).block _ (by omega)).trans (blk_new W _))
  obtain ⟨x0, x1, x2, x3, x4, x5⟩ := hbx.cells
  have f0 := hbx.froz 0
  have f1 := hbx.froz 1
  have f2 := hbx.froz 2
  have f3 := hbx.froz 3
  have f4 := hbx.froz 4
  have f5 := hbx.froz 5
  have HBX := Aside0.mk hbx
  have HB1 := Aside0.mk hb1
  have HBW : Aside0 (Below W.heap.size W w2) := ⟨below_weaken (below_alloc (below_alloc (Below.refl _ _) _) _) (by omega) HB.out⟩
  have HZ : Aside0 (W.heap.size ≤ W.heap.size + 1) := ⟨by omega⟩
  rw [hb1] at HC
  clear hbx hb1
  go_wp2_with fail
  exact bodyPost_ret (v := .tuple #[.agg #[.int .i64 (fnd (keysAll ss ds) s).1, .bool (fnd (keysAll ss ds) s).2, .int .i64 (lng (keysAll ss ds) s).1, .bool (lng (keysAll ss ds) s).2, .slice A4 (hitsS (keysAll ss ds) (bs s) (bs s).length).length c4, .slice A5 (hitsS (keysAll ss ds) (bs s) (bs s).length).length c5], .bool true]) (by simp [results, Try.results15, go_sem, x0, x1, x2, x3, x4, x5]) rfl (ltrie_end HBW.out HC.out.1 HC.out.2)
end Go.Proofs.Ytaejkbjepbifcaa.Da
namespace Go.Proofs.Ytaejkbjepbifcaa.Da
open Go.RowKit Go.Proofs.YtaejkbjepbifcaaW.PrintWords Go.Proofs.Ytaejkbjepbifcaa.Plain
set_option linter.unusedVariables false
set_option linter.unusedSimpArgs false
abbrev ta : ByteArray := { data := #[97] }
abbrev tab : ByteArray := { data := #[97, 98] }
def La : Keys := keysAll [ta, tab] [3, 5]
theorem cln_a : Cln ta := by intro c hc; have : c = 97 := by simpa [bs, ta] using hc
                             subst this; unfold Okc; omega
theorem cln_ab : Cln tab := by
  intro c hc
  have : c = 97 ∨ c = 98 := by simpa [bs, tab] using hc
  unfold Okc
  omega
theorem two_ord : Ord [ta, tab] true := by
  refine ⟨?_, ?_, ?_, ?_, by simp⟩
  · intro t ht
    simp only [List.mem_cons, List.not_mem_nil, or_false] at ht
    rcases ht with rfl | rfl
    · exact cln_a
    · exact cln_ab
  · intro t ht
    simp only [List.mem_cons, List.not_mem_nil, or_false] at ht
    rcases ht with rfl | rfl <;> rw [Lib.toList_data] <;> decide
  · intro i hi
    obtain rfl : i = 0 := by simp at hi; omega
    rw [Lib.toList_data, Lib.toList_data]; decide
  · intro _ i hi
    obtain rfl : i = 0 := by simp at hi; omega
    rw [Lib.toList_data, Lib.toList_data]; decide
theorem two_ok : KeysOk [ta, tab] [3, 5] := keys_ok (by decide) two_ord rfl (by decide)
theorem two_fnd : fnd La tab = (5, true) := by decide
theorem two_hits : hitsS La (bs tab) (bs tab).length = [⟨3, 1⟩, ⟨5, 2⟩] := by rfl
theorem new1 {α : Type} {enc : α → Value} {h1 : ∀ x, (enc x).oneCell' = true} (w : World) (b : Nat) (hb : b = w.heap.size) (xs : List α) (e : TypeId) (cs : Array Value) (hcs : cs = (xs.map enc).toArray) (hm : xs.length ≤ 9223372036854775807) :
    (Kd.scalar enc h1).C (w.alloc (.cells cs e (0, 0))) (some ⟨b, 0, none⟩) xs.length xs := by
  subst hb
  exact Own.C_alloc_new w xs e (0, 0) cs hcs hm
/-- A new row of two hits. -/
theorem new_hits (w : World) (b : Nat) (hb : b = w.heap.size) (p q : PB.S39) : Kd.C PB.k39 (w.alloc (.cells #[.int .i64 p.f0, .int .i64 p.f1, .int .i64 q.f0, .int .i64 q.f1] 39 (0, 0))) (some ⟨b, 0, none⟩) 2 [p, q] := by
  subst hb
  refine ⟨rfl, by simp, fun _ => ⟨_, rfl, fun j x hj => ?_⟩⟩
  have e : ∀ i, (⟨w.heap.size, 0, none⟩ : Addr).add (j * PB.k39.sz + i) = ⟨w.heap.size, j * 2 + i, none⟩ := fun i => by
    show (⟨w.heap.size, 0, none⟩ : Addr).add (j * 2 + i) = _
    rw [add_at0, Nat.zero_add]
  refine ⟨[.int .i64 x.f0, .int .i64 x.f1], rfl, PB.k39_mk _ _, fun i u hu => ?_⟩
  rw [e, Own.alloc_cell]
  have hi : i < 2 := by have := (List.getElem?_eq_some_iff.1 hu).1; simpa using this
  have hj2 : j < 2 := by have := (List.getElem?_eq_some_iff.1 hj).1; simpa using this
  have : j = 0 ∨ j = 1 := by omega
  have : i = 0 ∨ i = 1 := by omega
  rcases ‹j = 0 ∨ j = 1› with rfl | rfl <;> rcases ‹i = 0 ∨ i = 1› with rfl | rfl <;> simp at hj hu <;> subst hj <;> subst hu <;> rfl
theorem row_reads {α : Type} {d : Kd α} {e : Nat} {w : World} {base : Nat} {ok : Nat → Prop} {A : Option Addr} {n c : Nat} {xs : List α} (h : Kd.R d e w base ok (.slice A n c) xs) : xs.length ≤ c ∧ Kd.C d w A xs.length xs := by
  obtain ⟨A', c', e1, l1, g1⟩ := Kd.R_reads h
  cases e1
  exact ⟨l1, g1⟩
set_option maxHeartbeats 16000000 in
set_option maxRecDepth 100000 in
theorem builds_calls (W : World) : Calls Try.prog 14 #[] W fun e w' => e = .returned (.bool true) ∧ Below W.heap.size W w' := by
  obtain ⟨kk, hk⟩ := sorted_ev [ta, tab] (by simp) (by simp) two_ord.up
  obtain ⟨ks, hks⟩ := (same_ev [⟨3, 1⟩, ⟨5, 2⟩] (by simp)).rounds
  have HK := Aside0.mk hk
  have HKS := Aside0.mk hks
  clear hk hks
  have HT : Aside0 (∀ (w : World) (b0 b1 b2 : Nat), Kd.C Kd.string w (some ⟨b0, 0, none⟩) 2 [ta, tab] → Kd.C (Kd.int .i64) w (some ⟨b1, 0, none⟩) 2 [3, 5] → Kd.C Kd.string w (some ⟨b2, 0, none⟩) 1 [tab] →
      Calls Try.prog 17 #[.slice (some ⟨b0, 0, none⟩) 2 2, .slice (some ⟨b1, 0, none⟩) 2 2, .slice (some ⟨b2, 0, none⟩) 1 1] w fun e w' => ∃ g c A4 c4 A5 c5, e = .returned (.tuple #[.slice (some ⟨g, 0, none⟩) 1 c, .int .i64 0]) ∧ (w'.cell? ⟨g, 0, none⟩ = some (.int .i64 5) ∧ w'.cell? ⟨g, 1, none⟩ = some (.bool true) ∧ w'.cell? ⟨g, 4, none⟩ = some (.slice A4 2 c4) ∧ w'.cell? ⟨g, 2, none⟩ = some (.int .i64 (lng La tab).1) ∧ w'.cell? ⟨g, 3, none⟩ = some (.bool (lng La tab).2) ∧ w'.cell? ⟨g, 5, none⟩ = some (.slice A5 2 c5)) ∧ Aside0 (Kd.R PB.k39 39 w' w.heap.size (fun _ => True) (.slice A4 2 c4) [⟨3, 1⟩, ⟨5, 2⟩]) ∧ Aside0 (Below w.heap.size w w')) := ⟨fun w b0 b1 b2 h0 h1 h2 => by
    refine (trie_calls w (some ⟨b0, 0, none⟩) (some ⟨b1, 0, none⟩) (some ⟨b2, 0, none⟩) 2 2 1 kk [ta, tab] [tab] [3, 5] h0 (by simp) h1 (by simp) h2 HK.out two_ok ⟨by simp, fun t ht => by rw [List.mem_singleton.1 ht]; exact ⟨cln_ab, by decide⟩⟩).mono ?_
    rintro e w' ⟨ov, rfl, hR, hB⟩
    obtain ⟨g, c, rfl, hg0, hg, _, _⟩ := own_head hR (by simp)
    obtain ⟨A4, c4, A5, c5, h0, h1, h2, h3, h4, h5, g4, g5⟩ := ans_at hR 0 (by simp) (ans La tab) rfl
    simp only [Nat.zero_mul, Nat.zero_add] at h0 h1 h2 h3 h4 h5
    have e1 : (ans La tab).f2 = [⟨3, 1⟩, ⟨5, 2⟩] := two_hits
    have e2 : (ans La tab).f3 = [⟨3, 1⟩, ⟨5, 2⟩] := two_hits
    rw [e1] at h4 g4
    rw [e2] at h5
    exact ⟨g, c, A4, c4, A5, c5, rfl, ⟨h0.trans (by rw [show (ans La tab).f0.f0 = (fnd La tab).1 from rfl, two_fnd]), h1.trans (by rw [show (ans La tab).f0.f1 = (fnd La tab).2 from rfl, two_fnd]), h4, h2, h3, h5⟩, ⟨g4⟩, ⟨hB⟩⟩⟩
  go_enter Try.func14, Try.ntmps14
  go_upto_region 2 with (go_at_call 17; refine (HT.out _ _ _ _ (Kd.C_below (new1 _ _ rfl [ta, tab] _ _ rfl (by simp)) (below_alloc (below_alloc (Below.refl _ _) _) _)) (Kd.C_below (new1 _ _ (Own.size_alloc _ _).symm [3, 5] _ _ rfl (by simp)) (below_alloc (Below.refl _ _) _)) (new1 _ _ ((congrArg (· + 1) (Own.size_alloc _ _)).symm.trans (Own.size_alloc _ _).symm) [tab] _ _ rfl (by simp))).mono ?_; rintro e_ w2 ⟨g, c, A4, c4, A5, c5, rfl, ⟨k0, k1, k4, k2, k3, k5⟩, HC, HB⟩)
  obtain ⟨hl4, hC4⟩ := row_reads HC.out
  have HL4 := Aside0.mk hl4
  have HC4 := Aside0.mk hC4
  have HBW : Aside0 (Below W.heap.size W w2) := ⟨below_step (below_alloc (below_alloc (below_alloc (Below.refl _ _) _) _) _) HB.out⟩
  clear hl4 hC4 HC HB HT
  go_wp2_with (go_at_call 16; refine (PB.impl_Hit.calls ks A4 c4 [⟨3, 1⟩, ⟨5, 2⟩] _ 2 [⟨3, 1⟩, ⟨5, 2⟩] true _ (Kd.C_below HC4.out (below_alloc (Below.refl _ _) _)) HL4.out (new_hits _ _ rfl ⟨3, 1⟩ ⟨5, 2⟩) (Nat.le_refl _) HKS.out).mono ?_; rintro e_ w3 ⟨rfl, ⟨q3, rfl⟩⟩)
  go_ret
  exact ⟨rfl, pw_below_drewN (below_alloc HBW.out _) _⟩
end Go.Proofs.Ytaejkbjepbifcaa.Da
namespace Go.Proofs.Ytaejkbjepbifcaa.Da
open Go.RowKit Go.Proofs.YtaejkbjepbifcaaW.PrintWords Go.Proofs.Ytaejkbjepbifcaa.Plain
set_option linter.unusedVariables false
set_option linter.unusedSimpArgs false
theorem new_two (w : World) (g : Nat) (hg : g = w.heap.size) (A0 A1 : Option Addr) (c0 c1 n0 n1 : Nat) (a b : List ByteArray) (h0 : n0 = a.length) (h1 : n1 = b.length) (ha : Kd.C Kd.string w A0 a.length a) (hca : a.length ≤ c0) (hb : Kd.C Kd.string w A1 b.length b) (hcb : b.length ≤ c1) :
    Kd.C (Kd.slice 9 Kd.string) (w.alloc (.cells #[.slice A0 n0 c0, .slice A1 n1 c1] 22 (0, 0))) (some ⟨g, 0, none⟩) [a, b].length [a, b] := by
  subst h0
  subst h1
  refine Own.C_new1 (d := Kd.slice 9 Kd.string) rfl w g hg 22 (0, 0) [.slice A0 a.length c0, .slice A1 b.length c1] [a, b] rfl (by simp) (fun j p u hp hu => ?_)
  have hb2 := below_alloc (Below.refl w.heap.size w) (.cells #[.slice A0 a.length c0, .slice A1 b.length c1] 22 (0, 0))
  have hj : j < 2 := by have := (List.getElem?_eq_some_iff.1 hp).1; simpa using this
  rcases (show j = 0 ∨ j = 1 by omega) with rfl | rfl <;> simp at hp hu <;> subst hp <;> subst hu
  · exact ⟨A0, c0, rfl, hca, Kd.C_below ha hb2⟩
  · exact ⟨A1, c1, rfl, hcb, Kd.C_below hb hb2⟩
theorem new_one (w : World) (g : Nat) (hg : g = w.heap.size) (A0 : Option Addr) (c0 n0 : Nat) (a : List ByteArray) (h0 : n0 = a.length) (ha : Kd.C Kd.string w A0 a.length a) (hca : a.length ≤ c0) :
    Kd.C (Kd.slice 9 Kd.string) (w.alloc (.cells #[.slice A0 n0 c0] 22 (0, 0))) (some ⟨g, 0, none⟩) [a].length [a] := by
  subst h0
  refine Own.C_new1 (d := Kd.slice 9 Kd.string) rfl w g hg 22 (0, 0) [.slice A0 a.length c0] [a] rfl (by simp) (fun j p u hp hu => ?_)
  have hb2 := below_alloc (Below.refl w.heap.size w) (.cells #[.slice A0 a.length c0] 22 (0, 0))
  have hj : j < 1 := by have := (List.getElem?_eq_some_iff.1 hp).1; simpa using this
  obtain rfl : j = 0 := by omega
  simp at hp hu
  subst hp
  subst hu
  exact ⟨A0, c0, rfl, hca, Kd.C_below ha hb2⟩
theorem size_at (w : World) (o : Obj) (n : Nat) (h : n = w.heap.size) : n + 1 = (w.alloc o).heap.size := by rw [h]; exact (Own.size_alloc _ _).symm
end Go.Proofs.Ytaejkbjepbifcaa.Da
namespace Go.Proofs.Ytaejkbjepbifcaa.Da
open Go.RowKit Go.Proofs.YtaejkbjepbifcaaW.PrintWords
set_option linter.unusedVariables false
set_option linter.unusedSimpArgs false
/-- The numbers 1, 2 .. -/
def ones (n : Nat) : List Int := (List.range n).map (fun q : Nat => (q : Int) + 1)
theorem ones_len (n : Nat) : (ones n).length = n := by unfold ones; simp
theorem ones_at {n q : Nat} (h : q < n) : (ones n).getD q 0 = (q : Int) + 1 := by
  unfold ones
  rw [List.getD_eq_getElem?_getD, List.getElem?_map, List.getElem?_range h]; rfl
theorem ones_bd {n : Nat} (hn : n ≤ 1000000) : ∀ d ∈ ones n, 0 ≤ d ∧ d ≤ 2147483647 := by
  intro d hd
  unfold ones at hd
  obtain ⟨q, hq, rfl⟩ := List.mem_map.1 hd
  have := List.mem_range.1 hq
  omega
/-- The identifiers so far. -/
structure IdS (W w : World) (bb n i : Nat) : Prop where
  kp : Kp W w (fun _ => False)
  ge : W.heap.size ≤ bb
  ar : ∃ cur, w.heap[bb]? = some (.cells cur 3 (0, 0)) ∧ cur.size = n ∧ ∀ q, q < i → cur[q]? = some (.int .i64 ((q : Int) + 1))
theorem ids_start (W : World) (n : Nat) : IdS W (W.alloc (intZeros n)) W.heap.size n 0 := ⟨(Kp.self W _).alloc _, Nat.le_refl _, _, blk_new W _, by rw [size_madeCells], fun q h => absurd h (Nat.not_lt_zero _)⟩
theorem IdS.facts {W w : World} {bb n i : Nat} (h : IdS W w bb n i) (hi : i < n) : (∃ v, w.cell? ⟨bb, i, none⟩ = some v) ∧ w.frozen? ⟨bb, i, none⟩ = false := by
  obtain ⟨cur, h1, h2, h3⟩ := h.ar
  constructor
  · unfold World.cell?; simp [h1, h2, hi]
  · unfold World.frozen?; simp [h1]
theorem IdS.put {W w : World} {bb n i : Nat} (h : IdS W w bb n i) (hi : i < n) : IdS W (w.setCell ⟨bb, i, none⟩ (.int .i64 ((i : Int) + 1))) bb n (i + 1) := by
  obtain ⟨cur, h1, h2, h3⟩ := h.ar
  refine ⟨h.kp.setNew _ _ h.ge, h.ge, _, setCell_heap h1, by simpa using h2, fun q hq => ?_⟩
  rw [Array.getElem?_setIfInBounds]
  by_cases e : i = q
  · subst e; rw [if_pos rfl, if_pos (by omega)]
  · rw [if_neg e]; exact h3 q (by omega)
theorem IdS.row {W w : World} {bb n : Nat} (h : IdS W w bb n n) (hn : n ≤ 1000000) : Kd.C (Kd.int .i64) w (some ⟨bb, 0, none⟩) (ones n).length (ones n) ∧ bb < w.heap.size := by
  obtain ⟨cur, h1, h2, h3⟩ := h.ar
  refine ⟨⟨rfl, by rw [ones_len]; omega, fun _ => ⟨_, rfl, fun j p hj => ⟨[.int .i64 p], rfl, rfl, fun i u hu => ?_⟩⟩⟩, (Array.getElem?_eq_some_iff.1 h1).1⟩
  have hjn : j < n := by have := (List.getElem?_eq_some_iff.1 hj).1; rw [ones_len] at this; exact this
  have hp : p = (j : Int) + 1 := by
    have := ones_at hjn
    rw [List.getD_eq_getElem?_getD, hj] at this
    exact this
  cases i with
  | succ i => simp at hu
  | zero =>
    simp at hu
    subst hu
    have e1 : (Kd.int .i64).sz = 1 := rfl
    rw [e1, Nat.mul_one, Nat.add_zero, add_at0, Nat.zero_add]
    unfold World.cell?
    simp [h1, h3 j hjn, hp]
set_option maxHeartbeats 16000000 in
set_option maxRecDepth 100000 in
theorem build_plain (W : World) (kb ko Nc k : Nat) (ss : List ByteArray) (hr : Kd.C Kd.string W (some ⟨kb, 0, none⟩) ss.length ss) (hkb : kb < W.heap.size) (hc : ss.length ≤ Nc) (hs : PB.slices_IsSorted_string_string.f k ss = some true) (K : KeysOk ss (ones ss.length)) :
    Calls Try.prog 34 #[.slice (some ⟨kb, 0, none⟩) ss.length Nc] W fun e w' => BldE W w' (fun _ => False) (keysAll ss (ones ss.length)) e := by
  have HR := Aside0.mk hr
  have HIS := Aside0.mk hs
  have HK := Aside0.mk K
  have hfew := K.few
  have hpos : 0 < ss.length := List.length_pos_iff.2 K.ne
  have hl0 : ((ss.length : Int) == 0) = false := by rw [beq_eq_false_iff_ne]; omega
  obtain ⟨Z, hZ⟩ : ∃ Z, Z = intZeros ss.length := ⟨_, rfl⟩
  have hmk : ∀ w : World, (Instr.makeSlice 23 (.int .i64 (ss.length : Int)) (.int .i64 (ss.length : Int))).run Try.prog w = .ok (.slice (some ⟨w.heap.size, 0, none⟩) ss.length ss.length) (w.alloc Z) := fun w => by
    rw [hZ]; exact make_ints w ss.length (by omega)
  have hb := ids_start W ss.length
  rw [← hZ] at hb
  obtain ⟨bb, hbb⟩ : ∃ bb, W.heap.size = bb := ⟨_, rfl⟩
  rw [hbb] at hb
  have HB0 := Aside0.mk hb
  clear hZ hb hr hs K
  go_enter Try.func34, Try.ntmps34
  go_upto_region 5 with fail
  try rw [hbb]
  clear hmk hbb
  go_wp2_with fail
  go_loopg [6, 16] ss.length (fun kq v6 v16 w' => ∃ (i : Nat), v16 = .int .i64 (i : Int) ∧ Aside0 (i + kq = ss.length) ∧ Aside0 (IdS W w' bb ss.length i))
  case atStart => exact ⟨0, rfl, ⟨by omega⟩, HB0⟩
  case round =>
    clear HB0
    obtain ⟨i, rfl, HI, HB⟩ := hrel
    have hi := HI.out
    by_cases hil : i < ss.length
    · have hiz : (i : Int) < (ss.length : Int) := by omega
      obtain ⟨⟨v, hc⟩, hf⟩ := HB.out.facts hil
      cases gk with
      | zero => omega
      | succ kz =>
      go_wp2_with fail
      go_roundg kz
      case measure => omega
      case rel => exact ⟨i + 1, congrArg (Value.int .i64) (by omega), ⟨by omega⟩, ⟨HB.out.put hil⟩⟩
    · have hiz : ¬ (i : Int) < (ss.length : Int) := by omega
      have hie : i = ss.length := by omega
      rw [hie] at HB
      obtain ⟨hrow, hbl⟩ := HB.out.row hfew
      have hkr := Kd.C_below HR.out (kp_below HB.out.kp)
      have hsz := HB.out.kp.size
      have HBD := build_sorted wr kb 0 bb 0 Nc ss.length k ss (ones ss.length) (src_of HK.out hkr hrow (by omega) hbl) hkr hc HIS.out HK.out.ne HK.out.ok HK.out.asc HK.out.tot
      rw [ones_len] at HBD
      have HBD2 := Aside0.mk HBD
      have HKP := Aside0.mk HB.out.kp
      clear hrow hbl hkr hsz HBD hie
      go_wp2_with (go_at_call 26; refine HBD2.out.mono ?_; rintro e_ w3 ⟨g, s, rfl, hA, hG, hn, hg, hK⟩; have HF := Aside0.mk (And.intro hA (And.intro hG (And.intro hn (And.intro hg hK)))); clear hA hG hn hg hK)
      obtain ⟨hA, hG, hn, hg, hK⟩ := HF.out
      exact bodyPost_ret (v := .tuple #[.slice (some ⟨g, 0, none⟩) s.n s.n, .nilIface]) (by simp [results, Try.results34, go_sem]) rfl ⟨g, s, rfl, hA, hG, hn, Nat.le_trans HKP.out.size hg, (HKP.out.trans hK).mono (fun i hi h => h.elim id id)⟩
set_option maxHeartbeats 16000000 in
set_option maxRecDepth 100000 in
theorem plain_calls (W : World) (A0 A2 : Option Addr) (c0 c2 k : Nat) (ss ts : List ByteArray) (hr0 : Kd.C Kd.string W A0 ss.length ss) (hc0 : ss.length ≤ c0) (hr2 : Kd.C Kd.string W A2 ts.length ts) (hs : PB.slices_IsSorted_string_string.f k ss = some true) (K : KeysOk ss (ones ss.length)) (hI : InsOk ts) :
    Calls Try.prog 22 #[.slice A0 ss.length c0, .slice A2 ts.length c2] W fun e w' => AskE W w' (keysAll ss (ones ss.length)) ts e := by
  have HR2 := Aside0.mk hr2
  have HK := Aside0.mk K
  have HI := Aside0.mk hI
  have HS := Aside0.mk hs
  have h1 := Aside0.mk (PB.slices_Clone_string_string.calls A0 c0 ss ss W hr0 hc0 (clone_strs ss K.few))
  clear hr0 hr2 hs K hI
  go_enter Try.func22, Try.ntmps22
  go_wp2_with (first | (go_at_call 27; refine h1.out.mono ?_; rintro e_ w1 ⟨v1, rfl, hv, hB⟩; have HB1 := Aside0.mk hB; obtain ⟨kb, kc, rfl, b1, b2, b3, b4⟩ := own_head hv HK.out.ne; have h3 := Aside0.mk (build_plain w1 kb 0 kc k ss b4 b2 b3 HS.out HK.out); clear hB hv b4) | (go_at_call 34; refine h3.out.mono ?_; rintro e_ w3 ⟨g, s, rfl, hA, hG, hn, hg, hK⟩; have HA := Aside0.mk hA; have HG := Aside0.mk hG; have HB3 := Aside0.mk (kp_below hK); have h4 := Aside0.mk (ask_calls w3 g c2 s _ ts A2 hA hG hn HI.out.2 (Kd.C_below (Kd.C_below HR2.out HB1.out) HB3.out) HI.out.1); clear hA hG hK) | (go_at_call 29; refine h4.out.mono ?_; rintro e_ w4 ⟨ov, rfl, hR, hB⟩; have HR4 := Aside0.mk hR; have HB4 := Aside0.mk hB; clear hR hB))
  have hz1 := HB1.out.size
  have hz3 := HB3.out.size
  refine bodyPost_ret (v := .tuple #[ov, .int .i64 0]) (by simp [results, Try.results22, go_sem]) rfl ⟨ov, rfl, Kd.R_lower HR4.out (by omega), below_step (below_step HB1.out HB3.out) HB4.out⟩
end Go.Proofs.Ytaejkbjepbifcaa.Da
namespace Go.Proofs.Ytaejkbjepbifcaa.PB
open Go.RowKit Go.Proofs.YtaejkbjepbifcaaW.PrintWords Go.Proofs.YtaejkbjepbifcaaW.PrintLast Go.Proofs.YtaejkbjepbifcaaW.PrintMore
attribute [local go_sem] max2_int min2_int max_two min_two max_three min_three max_four min_four   -- for this text's walks alone
set_option linter.unusedVariables false
set_option linter.unusedSimpArgs false

/-! ### spec_Half: function 31 -/
def spec_Half.l0 : Nat → ByteArray → Bool → List ByteArray → Int → Int → Option (Bool)
 | 0, _, _, _, _, _ => none
 | k + 1, x1, x5, x8, x9, x10 => if x10 < x9 then (if 0 ≤ x10 then (if x10 < (x8.length : Int) then (if (rdOf ByteArray.empty x8 x10).toList = x1.toList then (if x1.toList = ([] : List UInt8) then (if x5 = true then (spec_Half.l0 k x1 true x8 x9 (wrap64 (x10 + 1))) else ((spec_dBegins.f (rdOf ByteArray.empty x8 x10) x1).bind fun t144 => (spec_Half.l0 k x1 t144 x8 x9 (wrap64 (x10 + 1))))) else (some false)) else (if x5 = true then (spec_Half.l0 k x1 true x8 x9 (wrap64 (x10 + 1))) else ((spec_dBegins.f (rdOf ByteArray.empty x8 x10) x1).bind fun t145 => (spec_Half.l0 k x1 t145 x8 x9 (wrap64 (x10 + 1)))))) else (none)) else (none)) else (some x5)
def spec_Half.f (k : Nat) (l0 : List ByteArray) (a1 : ByteArray) : Option (Bool) := spec_Half.l0 k a1 false l0 (l0.length : Int) 0
theorem spec_Half.mono_l : ∀ k, (∀ y0 y1 y2 y3 y4, LeO (spec_Half.l0 k y0 y1 y2 y3 y4) (spec_Half.l0 (k + 1) y0 y1 y2 y3 y4))
 | 0 => fun _ _ _ _ _ r h => by simp [spec_Half.l0] at h
 | k + 1 => by
  have ih0 := spec_Half.mono_l k
  ·intro y0 y1 y2 y3 y4
   unfold spec_Half.l0
   repeat' first
   | (with_reducible exact ih0 _ _ _ _ _)
   | (with_reducible exact LeO.refl _)
   | (with_reducible exact LeO.none _)
   | (with_reducible refine LeO.ite ?_ ?_)
   | (with_reducible refine LeO.bind ?_ (fun _ => ?_))
   | exact ih0 _ _ _ _ _
   | exact LeO.none _
   | refine LeO.ite ?_ ?_
   | refine LeO.bind ?_ (fun _ => ?_)
theorem spec_Half.mono : ∀ a0 a1 k, LeO (spec_Half.f k a0 a1) (spec_Half.f (k + 1) a0 a1) := by
 intro a0 a1 k
 have ih0 := spec_Half.mono_l k
 unfold spec_Half.f
 repeat' first
   | (with_reducible exact ih0 _ _ _ _ _)
   | (with_reducible exact LeO.refl _)
   | (with_reducible exact LeO.none _)
   | (with_reducible refine LeO.ite ?_ ?_)
   | (with_reducible refine LeO.bind ?_ (fun _ => ?_))
   | exact ih0 _ _ _ _ _
   | exact LeO.none _
   | refine LeO.ite ?_ ?_
   | refine LeO.bind ?_ (fun _ => ?_)
set_option maxHeartbeats 8000000 in
set_option maxRecDepth 100000 in
theorem spec_Half.calls (k : Nat) (A0 : Option Addr) (c0 : Nat) (l0 : List ByteArray) (a1 : ByteArray) (r : Bool) (w : World) (hr0 : Kd.C Kd.string w A0 l0.length l0) (hc0 : l0.length ≤ c0) (h : spec_Half.f k l0 a1 = some r) :
  Calls Try.prog 31 #[.slice A0 l0.length c0, .string a1] w fun e w' => e = .returned (.bool r) ∧ Drawn0 w w' := by
 have HR0 := Aside0.mk hr0
 have HC0 := Aside0.mk hc0
 clear hr0 hc0
 have H : (spec_Half.l0 k a1 false l0 (l0.length : Int) 0) = some r := h
 clear h
 have H' := Aside0.mk H
 clear H
 go_enter Try.func31, Try.ntmps31
 go_wp2
 go_loopg [5, 10] k (fun kq v5 v10 w' => ∃ (x5_1 : Bool) (x10_1 : Int), v5 = .bool x5_1 ∧ v10 = .int .i64 x10_1 ∧ Aside0 (spec_Half.l0 kq a1 x5_1 l0 (l0.length : Int) x10_1 = some r) ∧ Aside0 (kq ≤ k) ∧ Drawn0 w w')
 case atStart => exact ⟨(false), (0), (by first | rfl | (simp; done) | (simp [*]; done)), (by first | rfl | (simp; done) | (simp [*]; done)), H', ⟨Nat.le_refl _⟩, by repeat (first | exact Drawn0.refl _ | apply Drawn0.step)⟩
 case round =>
  clear H'
  try clear p2
  obtain ⟨x5_1, x10_1, rfl, rfl, HA, HK1, ⟨m1, rfl⟩⟩ := hrel
  cases gk with
  | zero => exact absurd HA.out (by simp [spec_Half.l0])
  | succ k1 =>
   have H := HA.out
   clear HA
   simp only [spec_Half.l0] at H
   by_cases c3 : x10_1 < (l0.length : Int)
   ·rw [if_pos c3] at H
    have c3b0 : decide (x10_1 < (l0.length : Int)) = true := decide_eq_true c3
    clear c3
    by_cases c4 : 0 ≤ x10_1
    ·rw [if_pos c4] at H
     have c4b0 : decide (0 ≤ x10_1) = true := decide_eq_true c4
     clear c4
     by_cases c5 : x10_1 < (l0.length : Int)
     ·rw [if_pos c5] at H
      have c5b0 : decide (x10_1 < (l0.length : Int)) = true := decide_eq_true c5
      clear c5
      by_cases c6 : (rdOf ByteArray.empty l0 x10_1).toList = a1.toList
      ·rw [if_pos c6] at H
       have c6b0 : ((rdOf ByteArray.empty l0 x10_1).toList == a1.toList) = true := beq_iff_eq.mpr c6
       have c6b1 : ((rdOf ByteArray.empty l0 x10_1).toList != a1.toList) = false := bne_eq_false_iff_eq.mpr c6
       clear c6
       by_cases c7 : a1.toList = ([] : List UInt8)
       ·rw [if_pos c7] at H
        have c7b0 : (a1.toList == ([] : List UInt8)) = true := beq_iff_eq.mpr c7
        have c7b1 : (a1.toList != ([] : List UInt8)) = false := bne_eq_false_iff_eq.mpr c7
        clear c7
        by_cases c8 : x5_1 = true
        ·subst c8
         have H1 : (spec_Half.l0 k1 a1 true l0 (l0.length : Int) (wrap64 (x10_1 + 1))) = some r := by rw [if_pos rfl] at H; exact H
         clear H
         have H := H1
         clear H1
         have H' := Aside0.mk H
         clear H
         have p143 : 0 ≤ (x10_1 : Int) := of_decide_eq_true (by first | (with_reducible assumption) | assumption)
         have q143 : x10_1 < (l0.length : Int) := of_decide_eq_true (by first | (with_reducible assumption) | assumption)
         obtain ⟨ad143, e143, hx143_0⟩ := Kd.at_string HR0.out x10_1 p143 q143
         cases e143
         replace p143 := eq_true p143
         replace q143 := eq_true q143
         go_wp2
         go_roundg k1
         case measure => have := HK1.out; omega
         case rel => exact ⟨(true), (wrap64 (x10_1 + 1)), (by first | rfl | (simp; done) | (simp [*]; done)), (by first | rfl | (simp; done) | (simp [*]; done)), H', ⟨by have := HK1.out; omega⟩, by repeat (first | exact Drawn0.refl _ | apply Drawn0.step)⟩
        ·replace c8 := Bool.eq_false_iff.mpr c8
         subst c8
         have H1 : ((spec_dBegins.f (rdOf ByteArray.empty l0 x10_1) a1).bind fun t144 => (spec_Half.l0 k1 a1 t144 l0 (l0.length : Int) (wrap64 (x10_1 + 1)))) = some r := by rw [if_neg (show ¬ (false = true) by decide)] at H; exact H
         clear H
         have H := H1
         clear H1
         replace H := Option.bind_eq_some_iff.mp H
         obtain ⟨t144, A90, H⟩ := H
         replace H : (spec_Half.l0 k1 a1 t144 l0 (l0.length : Int) (wrap64 (x10_1 + 1))) = some r := H
         have A9 := Aside0.mk A90
         clear A90
         have H' := Aside0.mk H
         clear H
         have p143 : 0 ≤ (x10_1 : Int) := of_decide_eq_true (by first | (with_reducible assumption) | assumption)
         have q143 : x10_1 < (l0.length : Int) := of_decide_eq_true (by first | (with_reducible assumption) | assumption)
         obtain ⟨ad143, e143, hx143_0⟩ := Kd.at_string HR0.out x10_1 p143 q143
         cases e143
         replace p143 := eq_true p143
         replace q143 := eq_true q143
         go_wp2_with (first | (go_at_call 51; (with_reducible refine (spec_dBegins.calls (rdOf ByteArray.empty l0 x10_1) a1 t144 _ A9.out).mono ?_); rintro e w' ⟨rfl, ⟨nd, rfl⟩⟩))
         go_roundg k1
         case measure => have := HK1.out; omega
         case rel => exact ⟨(t144), (wrap64 (x10_1 + 1)), (by first | rfl | (simp; done) | (simp [*]; done)), (by first | rfl | (simp; done) | (simp [*]; done)), H', ⟨by have := HK1.out; omega⟩, by repeat (first | exact Drawn0.refl _ | apply Drawn0.step)⟩
       ·rw [if_neg c7] at H
        have c7b0 : (a1.toList == ([] : List UInt8)) = false := beq_eq_false_iff_ne.mpr c7
        have c7b1 : (a1.toList != ([] : List UInt8)) = true := bne_iff_ne.mpr c7
        obtain rfl := Option.some.inj H
        have p143 : 0 ≤ (x10_1 : Int) := of_decide_eq_true (by first | (with_reducible assumption) | assumption)
        have q143 : x10_1 < (l0.length : Int) := of_decide_eq_true (by first | (with_reducible assumption) | assumption)
        obtain ⟨ad143, e143, hx143_0⟩ := Kd.at_string HR0.out x10_1 p143 q143
        cases e143
        replace p143 := eq_true p143
        replace q143 := eq_true q143
        go_wp2
        go_ret
        exact ⟨by first | rfl | (simp; done) | (simp [*]; done) | (simp [Own.isEmpty_bne]; done), by repeat (first | exact Drawn0.refl _ | apply Drawn0.step)⟩
      ·rw [if_neg c6] at H
       have c6b0 : ((rdOf ByteArray.empty l0 x10_1).toList == a1.toList) = false := beq_eq_false_iff_ne.mpr c6
       have c6b1 : ((rdOf ByteArray.empty l0 x10_1).toList != a1.toList) = true := bne_iff_ne.mpr c6
       by_cases c10 : x5_1 = true
       ·subst c10
        have H1 : (spec_Half.l0 k1 a1 true l0 (l0.length : Int) (wrap64 (x10_1 + 1))) = some r := by rw [if_pos rfl] at H; exact H
        clear H
        have H := H1
        clear H1
        have H' := Aside0.mk H
        clear H
        have p143 : 0 ≤ (x10_1 : Int) := of_decide_eq_true (by first | (with_reducible assumption) | assumption)
        have q143 : x10_1 < (l0.length : Int) := of_decide_eq_true (by first | (with_reducible assumption) | assumption)
        obtain ⟨ad143, e143, hx143_0⟩ := Kd.at_string HR0.out x10_1 p143 q143
        cases e143
        replace p143 := eq_true p143
        replace q143 := eq_true q143
        go_wp2
        go_roundg k1
        case measure => have := HK1.out; omega
        case rel => exact ⟨(true), (wrap64 (x10_1 + 1)), (by first | rfl | (simp; done) | (simp [*]; done)), (by first | rfl | (simp; done) | (simp [*]; done)), H', ⟨by have := HK1.out; omega⟩, by repeat (first | exact Drawn0.refl _ | apply Drawn0.step)⟩
       ·replace c10 := Bool.eq_false_iff.mpr c10
        subst c10
        have H1 : ((spec_dBegins.f (rdOf ByteArray.empty l0 x10_1) a1).bind fun t145 => (spec_Half.l0 k1 a1 t145 l0 (l0.length : Int) (wrap64 (x10_1 + 1)))) = some r := by rw [if_neg (show ¬ (false = true) by decide)] at H; exact H
        clear H
        have H := H1
        clear H1
        replace H := Option.bind_eq_some_iff.mp H
        obtain ⟨t145, A110, H⟩ := H
        replace H : (spec_Half.l0 k1 a1 t145 l0 (l0.length : Int) (wrap64 (x10_1 + 1))) = some r := H
        have A11 := Aside0.mk A110
        clear A110
        have H' := Aside0.mk H
        clear H
        have p143 : 0 ≤ (x10_1 : Int) := of_decide_eq_true (by first | (with_reducible assumption) | assumption)
        have q143 : x10_1 < (l0.length : Int) := of_decide_eq_true (by first | (with_reducible assumption) | assumption)
        obtain ⟨ad143, e143, hx143_0⟩ := Kd.at_string HR0.out x10_1 p143 q143
        cases e143
        replace p143 := eq_true p143
        replace q143 := eq_true q143
        go_wp2_with (first | (go_at_call 51; (with_reducible refine (spec_dBegins.calls (rdOf ByteArray.empty l0 x10_1) a1 t145 _ A11.out).mono ?_); rintro e w' ⟨rfl, ⟨nd, rfl⟩⟩))
        go_roundg k1
        case measure => have := HK1.out; omega
        case rel => exact ⟨(t145), (wrap64 (x10_1 + 1)), (by first | rfl | (simp; done) | (simp [*]; done)), (by first | rfl | (simp; done) | (simp [*]; done)), H', ⟨by have := HK1.out; omega⟩, by repeat (first | exact Drawn0.refl _ | apply Drawn0.step)⟩
     ·rw [if_neg c5] at H
      exact absurd H (by simp)
    ·rw [if_neg c4] at H
     exact absurd H (by simp)
   ·rw [if_neg c3] at H
    have c3b0 : decide (x10_1 < (l0.length : Int)) = false := decide_eq_false c3
    clear c3
    obtain rfl := Option.some.inj H
    go_wp2
    go_ret
    exact ⟨by first | rfl | (simp; done) | (simp [*]; done) | (simp [Own.isEmpty_bne]; done), by repeat (first | exact Drawn0.refl _ | apply Drawn0.step)⟩

/-! ### laws_sameTries: function 20 -/
mutual
def laws_sameTries.j0 : Nat → List (S34) → List (S34) → List ByteArray → List ByteArray → Bool → Option (Bool)
 | 0, _, _, _, _, _ => none
 | k + 1, x0, x1, x2, x3, x21 => if x21 = true then (some false) else (laws_sameTries.l0 k x0 x1 x2 x3 (x0.length : Int) 0)
def laws_sameTries.l0 : Nat → List (S34) → List (S34) → List ByteArray → List ByteArray → Int → Int → Option (Bool)
 | 0, _, _, _, _, _, _ => none
 | k + 1, x0, x1, x2, x3, x23, x24 => if x24 < x23 then (if 0 ≤ x24 then (if x24 < (x0.length : Int) then (if x24 < (x1.length : Int) then (if x24 < (x3.length : Int) then ((spec_Half.f k x2 (rdOf ByteArray.empty x3 x24)).bind fun t149 => ((laws_sameTrie.f k ((rd_T34 x0 x24).f0.f0) ((rd_T34 x0 x24).f0.f1) ((rd_T34 x0 x24).f1.f0) ((rd_T34 x0 x24).f1.f1) ((rd_T34 x0 x24).f2) ((rd_T34 x0 x24).f3) ((rd_T34 x1 x24).f0.f0) ((rd_T34 x1 x24).f0.f1) ((rd_T34 x1 x24).f1.f0) ((rd_T34 x1 x24).f1.f1) ((rd_T34 x1 x24).f2) ((rd_T34 x1 x24).f3) t149).bind fun t150 => (if t150 = true then (laws_sameTries.l0 k x0 x1 x2 x3 x23 (wrap64 (x24 + 1))) else (some false)))) else (none)) else (none)) else (none)) else (none)) else (some true)
end
def laws_sameTries.f (k : Nat) (l0 : List (S34)) (l1 : List (S34)) (l2 : List ByteArray) (l3 : List ByteArray) : Option (Bool) := if (l0.length : Int) = (l1.length : Int) then (laws_sameTries.j0 k l0 l1 l2 l3 ((l0.length : Int) != (l3.length : Int))) else (laws_sameTries.j0 k l0 l1 l2 l3 true)
theorem laws_sameTries.mono_l : ∀ k, (∀ y0 y1 y2 y3 y4, LeO (laws_sameTries.j0 k y0 y1 y2 y3 y4) (laws_sameTries.j0 (k + 1) y0 y1 y2 y3 y4)) ∧ (∀ y0 y1 y2 y3 y4 y5, LeO (laws_sameTries.l0 k y0 y1 y2 y3 y4 y5) (laws_sameTries.l0 (k + 1) y0 y1 y2 y3 y4 y5))
 | 0 => ⟨fun _ _ _ _ _ r h => by simp [laws_sameTries.j0] at h, fun _ _ _ _ _ _ r h => by simp [laws_sameTries.l0] at h⟩
 | k + 1 => by
  obtain ⟨ih0, ih1⟩ := laws_sameTries.mono_l k
  refine ⟨?_, ?_⟩
  ·intro y0 y1 y2 y3 y4
   unfold laws_sameTries.j0
   repeat' first
   | (with_reducible exact ih0 _ _ _ _ _)
   | (with_reducible exact ih1 _ _ _ _ _ _)
   | (with_reducible exact laws_sameTrie.mono _ _ _ _ _ _ _ _ _ _ _ _ _ _)
   | (with_reducible exact spec_Half.mono _ _ _)
   | (with_reducible exact LeO.refl _)
   | (with_reducible exact LeO.none _)
   | (with_reducible refine LeO.ite ?_ ?_)
   | (with_reducible refine LeO.bind ?_ (fun _ => ?_))
   | exact ih0 _ _ _ _ _
   | exact ih1 _ _ _ _ _ _
   | exact laws_sameTrie.mono _ _ _ _ _ _ _ _ _ _ _ _ _ _
   | exact spec_Half.mono _ _ _
   | exact LeO.none _
   | refine LeO.ite ?_ ?_
   | refine LeO.bind ?_ (fun _ => ?_)
  ·intro y0 y1 y2 y3 y4 y5
   unfold laws_sameTries.l0
   repeat' first
   | (with_reducible exact ih0 _ _ _ _ _)
   | (with_reducible exact ih1 _ _ _ _ _ _)
   | (with_reducible exact laws_sameTrie.mono _ _ _ _ _ _ _ _ _ _ _ _ _ _)
   | (with_reducible exact spec_Half.mono _ _ _)
   | (with_reducible exact LeO.refl _)
   | (with_reducible exact LeO.none _)
   | (with_reducible refine LeO.ite ?_ ?_)
   | (with_reducible refine LeO.bind ?_ (fun _ => ?_))
   | exact ih0 _ _ _ _ _
   | exact ih1 _ _ _ _ _ _
   | exact laws_sameTrie.mono _ _ _ _ _ _ _ _ _ _ _ _ _ _
   | exact spec_Half.mono _ _ _
   | exact LeO.none _
   | refine LeO.ite ?_ ?_
   | refine LeO.bind ?_ (fun _ => ?_)
theorem laws_sameTries.mono : ∀ a0 a1 a2 a3 k, LeO (laws_sameTries.f k a0 a1 a2 a3) (laws_sameTries.f (k + 1) a0 a1 a2 a3) := by
 intro a0 a1 a2 a3 k
 obtain ⟨ih0, ih1⟩ := laws_sameTries.mono_l k
 unfold laws_sameTries.f
 repeat' first
   | (with_reducible exact ih0 _ _ _ _ _)
   | (with_reducible exact ih1 _ _ _ _ _ _)
   | (with_reducible exact laws_sameTrie.mono _ _ _ _ _ _ _ _ _ _ _ _ _ _)
   | (with_reducible exact spec_Half.mono _ _ _)
   | (with_reducible exact LeO.refl _)
   | (with_reducible exact LeO.none _)
   | (with_reducible refine LeO.ite ?_ ?_)
   | (with_reducible refine LeO.bind ?_ (fun _ => ?_))
   | exact ih0 _ _ _ _ _
   | exact ih1 _ _ _ _ _ _
   | exact laws_sameTrie.mono _ _ _ _ _ _ _ _ _ _ _ _ _ _
   | exact spec_Half.mono _ _ _
   | exact LeO.none _
   | refine LeO.ite ?_ ?_
   | refine LeO.bind ?_ (fun _ => ?_)
def laws_sameTries.T6 : Bool × List (List Nat × List Nat) := (true, [([], []), ([], []), ([0, 1], [0, 1]), ([2], [2]), ([], []), ([], []), ([4, 5], [4, 5]), ([6], [6]), ([], []), ([], []), ([], []), ([9, 10], [9, 10]), ([11], [11]), ([8, 12], [8, 12]), ([3, 7, 13, 13], [3, 7, 13]), ([14], [14])])
def laws_sameTries.B6 : List Nat := [0, 0, 3, 7, 0, 0, 48, 112, 0, 0, 0, 1536, 3584, 7936, 16383, 32767]
theorem laws_sameTries.tab6 : rtab .any (opsOf Try.f20 6) = laws_sameTries.T6 := by kernel_rfl
theorem laws_sameTries.bits6 : waitsOk laws_sameTries.T6.2 laws_sameTries.B6 = true := by kernel_rfl
set_option maxHeartbeats 8000000 in
set_option maxRecDepth 100000 in
theorem laws_sameTries.calls (k : Nat) (A0 : Option Addr) (c0 : Nat) (l0 : List (S34)) (A1 : Option Addr) (c1 : Nat) (l1 : List (S34)) (A2 : Option Addr) (c2 : Nat) (l2 : List ByteArray) (A3 : Option Addr) (c3 : Nat) (l3 : List ByteArray) (r : Bool) (w : World) (hr0 : Kd.C k34 w A0 l0.length l0) (hc0 : l0.length ≤ c0) (hr1 : Kd.C k34 w A1 l1.length l1) (hc1 : l1.length ≤ c1) (hr2 : Kd.C Kd.string w A2 l2.length l2) (hc2 : l2.length ≤ c2) (hr3 : Kd.C Kd.string w A3 l3.length l3) (hc3 : l3.length ≤ c3) (h : laws_sameTries.f k l0 l1 l2 l3 = some r) :
  Calls Try.prog 20 #[.slice A0 l0.length c0, .slice A1 l1.length c1, .slice A2 l2.length c2, .slice A3 l3.length c3] w fun e w' => e = .returned (.bool r) ∧ Below w.heap.size w w' := by
 have hu34 := Try.underlying34
 have HR0 := Aside0.mk hr0
 have HC0 := Aside0.mk hc0
 clear hr0 hc0
 have HR1 := Aside0.mk hr1
 have HC1 := Aside0.mk hc1
 clear hr1 hc1
 have HR2 := Aside0.mk hr2
 have HC2 := Aside0.mk hc2
 clear hr2 hc2
 have HR3 := Aside0.mk hr3
 have HC3 := Aside0.mk hc3
 clear hr3 hc3
 have HB := Aside0.mk (Below.refl w.heap.size w)
 have H : (if (l0.length : Int) = (l1.length : Int) then (laws_sameTries.j0 k l0 l1 l2 l3 ((l0.length : Int) != (l3.length : Int))) else (laws_sameTries.j0 k l0 l1 l2 l3 true)) = some r := h
 clear h
 have HC5 := Aside0.mk H
 clear H
 go_enter Try.func20, Try.ntmps20
 go_upto_region 1 with (fail)
 go_cut [21] (fun v21 wc => ∃ (kq : Nat) (x21_4 : Bool), v21 = .bool x21_4 ∧ Aside0 (laws_sameTries.j0 kq l0 l1 l2 l3 x21_4 = some r) ∧ Aside0 (kq ≤ k) ∧ Aside0 (Below w.heap.size w wc))
 case first =>
  have H := HC5.out
  clear HC5
  by_cases c6 : (l0.length : Int) = (l1.length : Int)
  ·rw [if_pos c6] at H
   have c6b0 : ((l0.length : Int) == (l1.length : Int)) = true := beq_iff_eq.mpr c6
   have c6b1 : ((l0.length : Int) != (l1.length : Int)) = false := bne_eq_false_iff_eq.mpr c6
   have c6b2 : (l0.length == l1.length) = true := by first | simpa using c6 | (simp at c6 ⊢; omega)
   clear c6
   (first | rw [c6b0] | (simp only [i64_w, i32_w]; rw [c6b0]) | skip)
   have H' := Aside0.mk H
   clear H
   go_wp2
   go_meet
   case rel => exact ⟨_, (((l0.length : Int) != (l3.length : Int))), (by first | rfl | (simp; done) | (simp [*]; done)), H', ⟨by first | omega | exact Nat.le_refl _⟩, ⟨by repeat (first | (with_reducible first | exact HB.out | apply below_alloc | apply pw_below_drewN | apply below_drew1) | exact HB.out)⟩⟩
  ·rw [if_neg c6] at H
   have c6b0 : ((l0.length : Int) == (l1.length : Int)) = false := beq_eq_false_iff_ne.mpr c6
   have c6b1 : ((l0.length : Int) != (l1.length : Int)) = true := bne_iff_ne.mpr c6
   have c6b2 : (l0.length == l1.length) = false := by first | simpa using c6 | (simp at c6 ⊢; omega)
   (first | rw [c6b0] | (simp only [i64_w, i32_w]; rw [c6b0]) | skip)
   have H' := Aside0.mk H
   clear H
   go_wp2
   go_meet
   case rel => exact ⟨_, (true), (by first | rfl | (simp; done) | (simp [*]; done)), H', ⟨by first | omega | exact Nat.le_refl _⟩, ⟨by repeat (first | (with_reducible first | exact HB.out | apply below_alloc | apply pw_below_drewN | apply below_drew1) | exact HB.out)⟩⟩
 case rest =>
  clear HC5
  try clear c1
  try clear c2
  try clear p2
  try clear c3
  try clear c6
  try clear c6b0
  try clear c6b1
  try clear c6b2
  obtain ⟨kq, x21_4, rfl, HA, HJ4, HB⟩ := hcut
  cases kq with
  | zero => exact absurd HA.out (by simp [laws_sameTries.j0])
  | succ kj4 =>
   have H := HA.out
   clear HA
   simp only [laws_sameTries.j0] at H
   by_cases c7 : x21_4 = true
   ·subst c7
    have H1 : (some false) = some r := by rw [if_pos rfl] at H; exact H
    clear H
    have H := H1
    clear H1
    obtain rfl := Option.some.inj H
    go_wp2
    go_ret
    exact ⟨by first | rfl | (simp [errW_none, errW_some] <;> rfl) | (simp [*, errW_none, errW_some] <;> rfl), by repeat (first | (with_reducible first | exact HB.out | apply below_alloc | apply pw_below_drewN | apply below_drew1) | exact HB.out)⟩
   ·replace c7 := Bool.eq_false_iff.mpr c7
    subst c7
    have H1 : (laws_sameTries.l0 kj4 l0 l1 l2 l3 (l0.length : Int) 0) = some r := by rw [if_neg (show ¬ (false = true) by decide)] at H; exact H
    clear H
    have H := H1
    clear H1
    have H' := Aside0.mk H
    clear H
    go_wp2
    go_loopg [24] kj4 (fun kq v24 w' => ∃ (x24_2 : Int), v24 = .int .i64 x24_2 ∧ Aside0 (laws_sameTries.l0 kq l0 l1 l2 l3 (l0.length : Int) x24_2 = some r) ∧ Aside0 (kq ≤ kj4) ∧ Aside0 (Below w.heap.size w w'))
    case atStart => exact ⟨(0), (by first | rfl | (simp; done) | (simp [*]; done)), H', ⟨Nat.le_refl _⟩, ⟨by repeat (first | (with_reducible first | exact HB.out | apply below_alloc | apply pw_below_drewN | apply below_drew1) | exact HB.out)⟩⟩
    case round =>
     clear H'
     try clear c1
     try clear c2
     try clear p2
     try clear c3
     try clear c6
     try clear c6b0
     try clear c6b1
     try clear c6b2
     try clear c7
     try clear p2
     obtain ⟨x24_2, rfl, HA, HK2, HB⟩ := hrel
     cases gk with
     | zero => exact absurd HA.out (by simp [laws_sameTries.l0])
     | succ k2 =>
      have H := HA.out
      clear HA
      simp only [laws_sameTries.l0] at H
      by_cases c8 : x24_2 < (l0.length : Int)
      ·rw [if_pos c8] at H
       have c8b0 : decide (x24_2 < (l0.length : Int)) = true := decide_eq_true c8
       clear c8
       by_cases c9 : 0 ≤ x24_2
       ·rw [if_pos c9] at H
        have c9b0 : decide (0 ≤ x24_2) = true := decide_eq_true c9
        clear c9
        by_cases c10 : x24_2 < (l0.length : Int)
        ·rw [if_pos c10] at H
         have c10b0 : decide (x24_2 < (l0.length : Int)) = true := decide_eq_true c10
         clear c10
         by_cases c11 : x24_2 < (l1.length : Int)
         ·rw [if_pos c11] at H
          have c11b0 : decide (x24_2 < (l1.length : Int)) = true := decide_eq_true c11
          clear c11
          by_cases c12 : x24_2 < (l3.length : Int)
          ·rw [if_pos c12] at H
           have c12b0 : decide (x24_2 < (l3.length : Int)) = true := decide_eq_true c12
           clear c12
           replace H := Option.bind_eq_some_iff.mp H
           obtain ⟨t149, A130, H⟩ := H
           replace H : ((laws_sameTrie.f k2 ((rd_T34 l0 x24_2).f0.f0) ((rd_T34 l0 x24_2).f0.f1) ((rd_T34 l0 x24_2).f1.f0) ((rd_T34 l0 x24_2).f1.f1) ((rd_T34 l0 x24_2).f2) ((rd_T34 l0 x24_2).f3) ((rd_T34 l1 x24_2).f0.f0) ((rd_T34 l1 x24_2).f0.f1) ((rd_T34 l1 x24_2).f1.f0) ((rd_T34 l1 x24_2).f1.f1) ((rd_T34 l1 x24_2).f2) ((rd_T34 l1 x24_2).f3) t149).bind fun t150 => (if t150 = true then (laws_sameTries.l0 k2 l0 l1 l2 l3 (l0.length : Int) (wrap64 (x24_2 + 1))) else (some false))) = some r := H
           have A13 := Aside0.mk A130
           clear A130
           replace H := Option.bind_eq_some_iff.mp H
           obtain ⟨t150, A140, H⟩ := H
           replace H : (if t150 = true then (laws_sameTries.l0 k2 l0 l1 l2 l3 (l0.length : Int) (wrap64 (x24_2 + 1))) else (some false)) = some r := H
           have A14 := Aside0.mk A140
           clear A140
           by_cases c15 : t150 = true
           ·subst c15
            have H1 : (laws_sameTries.l0 k2 l0 l1 l2 l3 (l0.length : Int) (wrap64 (x24_2 + 1))) = some r := by rw [if_pos rfl] at H; exact H
            clear H
            have H := H1
            clear H1
            have H' := Aside0.mk H
            clear H
            try go_wp2
            have n0_ := Aside0.mk (below_drew1 HB.out)
            clear HB
            have HB := n0_
            clear n0_
            have p146 : 0 ≤ (x24_2 : Int) := of_decide_eq_true (by first | (with_reducible assumption) | assumption)
            have q146 : x24_2 < (l0.length : Int) := of_decide_eq_true (by first | (with_reducible assumption) | assumption)
            obtain ⟨ad146, A146_4, c146_4, A146_5, c146_5, e146, hx146_0, hx146_1, hx146_2, hx146_3, hx146_4, hx146_5, hl146_4, hi146_4, hl146_5, hi146_5⟩ := at_T34 HR0.out x24_2 p146 q146
            have hw146_5 := hx146_5
            have hw146_4 := hx146_4
            have hw146_3 := hx146_3
            have hw146_2 := hx146_2
            have hw146_1 := hx146_1
            have hw146_0 := hx146_0
            cases e146
            replace hx146_0 := (HB.out.cell (World.block_lt_of_cell? w _ hx146_0)).trans hx146_0
            replace hx146_1 := (HB.out.cell (World.block_lt_of_cell? w _ hx146_1)).trans hx146_1
            replace hx146_2 := (HB.out.cell (World.block_lt_of_cell? w _ hx146_2)).trans hx146_2
            replace hx146_3 := (HB.out.cell (World.block_lt_of_cell? w _ hx146_3)).trans hx146_3
            replace hx146_4 := (HB.out.cell (World.block_lt_of_cell? w _ hx146_4)).trans hx146_4
            replace hx146_5 := (HB.out.cell (World.block_lt_of_cell? w _ hx146_5)).trans hx146_5
            have HR146_4 := Aside0.mk hi146_4
            have HC146_4 := Aside0.mk hl146_4
            clear hi146_4 hl146_4
            have HR146_5 := Aside0.mk hi146_5
            have HC146_5 := Aside0.mk hl146_5
            clear hi146_5 hl146_5
            replace p146 := eq_true p146
            replace q146 := eq_true q146
            have p147 : 0 ≤ (x24_2 : Int) := of_decide_eq_true (by first | (with_reducible assumption) | assumption)
            have q147 : x24_2 < (l1.length : Int) := of_decide_eq_true (by first | (with_reducible assumption) | assumption)
            obtain ⟨ad147, A147_4, c147_4, A147_5, c147_5, e147, hx147_0, hx147_1, hx147_2, hx147_3, hx147_4, hx147_5, hl147_4, hi147_4, hl147_5, hi147_5⟩ := at_T34 HR1.out x24_2 p147 q147
            have hw147_5 := hx147_5
            have hw147_4 := hx147_4
            have hw147_3 := hx147_3
            have hw147_2 := hx147_2
            have hw147_1 := hx147_1
            have hw147_0 := hx147_0
            cases e147
            replace hx147_0 := (HB.out.cell (World.block_lt_of_cell? w _ hx147_0)).trans hx147_0
            replace hx147_1 := (HB.out.cell (World.block_lt_of_cell? w _ hx147_1)).trans hx147_1
            replace hx147_2 := (HB.out.cell (World.block_lt_of_cell? w _ hx147_2)).trans hx147_2
            replace hx147_3 := (HB.out.cell (World.block_lt_of_cell? w _ hx147_3)).trans hx147_3
            replace hx147_4 := (HB.out.cell (World.block_lt_of_cell? w _ hx147_4)).trans hx147_4
            replace hx147_5 := (HB.out.cell (World.block_lt_of_cell? w _ hx147_5)).trans hx147_5
            have HR147_4 := Aside0.mk hi147_4
            have HC147_4 := Aside0.mk hl147_4
            clear hi147_4 hl147_4
            have HR147_5 := Aside0.mk hi147_5
            have HC147_5 := Aside0.mk hl147_5
            clear hi147_5 hl147_5
            replace p147 := eq_true p147
            replace q147 := eq_true q147
            have p148 : 0 ≤ (x24_2 : Int) := of_decide_eq_true (by first | (with_reducible assumption) | assumption)
            have q148 : x24_2 < (l3.length : Int) := of_decide_eq_true (by first | (with_reducible assumption) | assumption)
            obtain ⟨ad148, e148, hx148_0⟩ := Kd.at_string HR3.out x24_2 p148 q148
            have hw148_0 := hx148_0
            cases e148
            replace hx148_0 := (HB.out.cell (World.block_lt_of_cell? w _ hx148_0)).trans hx148_0
            replace p148 := eq_true p148
            replace q148 := eq_true q148
            refine start_ (n := 16) (S := fun w' => w'.cell? (ad146.add ((x24_2).toNat * 6)) = some (.int .i64 ((rd_T34 l0 x24_2).f0.f0)) ∧ w'.cell? ⟨(ad146.add ((x24_2).toNat * 6)).block, (ad146.add ((x24_2).toNat * 6)).off + 1, none⟩ = some (.bool ((rd_T34 l0 x24_2).f0.f1)) ∧ w'.cell? ⟨(ad146.add ((x24_2).toNat * 6)).block, (ad146.add ((x24_2).toNat * 6)).off + 2, none⟩ = some (.int .i64 ((rd_T34 l0 x24_2).f1.f0)) ∧ w'.cell? ⟨(ad146.add ((x24_2).toNat * 6)).block, (ad146.add ((x24_2).toNat * 6)).off + 3, none⟩ = some (.bool ((rd_T34 l0 x24_2).f1.f1)) ∧ w'.cell? ⟨(ad146.add ((x24_2).toNat * 6)).block, (ad146.add ((x24_2).toNat * 6)).off + 4, none⟩ = some (.slice A146_4 ((rd_T34 l0 x24_2).f2).length c146_4) ∧ w'.cell? ⟨(ad146.add ((x24_2).toNat * 6)).block, (ad146.add ((x24_2).toNat * 6)).off + 5, none⟩ = some (.slice A146_5 ((rd_T34 l0 x24_2).f3).length c146_5) ∧ w'.cell? (ad147.add ((x24_2).toNat * 6)) = some (.int .i64 ((rd_T34 l1 x24_2).f0.f0)) ∧ w'.cell? ⟨(ad147.add ((x24_2).toNat * 6)).block, (ad147.add ((x24_2).toNat * 6)).off + 1, none⟩ = some (.bool ((rd_T34 l1 x24_2).f0.f1)) ∧ w'.cell? ⟨(ad147.add ((x24_2).toNat * 6)).block, (ad147.add ((x24_2).toNat * 6)).off + 2, none⟩ = some (.int .i64 ((rd_T34 l1 x24_2).f1.f0)) ∧ w'.cell? ⟨(ad147.add ((x24_2).toNat * 6)).block, (ad147.add ((x24_2).toNat * 6)).off + 3, none⟩ = some (.bool ((rd_T34 l1 x24_2).f1.f1)) ∧ w'.cell? ⟨(ad147.add ((x24_2).toNat * 6)).block, (ad147.add ((x24_2).toNat * 6)).off + 4, none⟩ = some (.slice A147_4 ((rd_T34 l1 x24_2).f2).length c147_4) ∧ w'.cell? ⟨(ad147.add ((x24_2).toNat * 6)).block, (ad147.add ((x24_2).toNat * 6)).off + 5, none⟩ = some (.slice A147_5 ((rd_T34 l1 x24_2).f3).length c147_5) ∧ w'.cell? (ad148.add (x24_2).toNat) = some (.string (rdOf ByteArray.empty l3 x24_2))) (ds := []) #[false, false, false, false, false, false, false, false, false, false, false, false, false, false, false, false] (by kernel_rfl) rfl rfl ⟨((HB.out.cell (World.block_lt_of_cell? w _ hw146_0)).trans hw146_0), ((HB.out.cell (World.block_lt_of_cell? w _ hw146_1)).trans hw146_1), ((HB.out.cell (World.block_lt_of_cell? w _ hw146_2)).trans hw146_2), ((HB.out.cell (World.block_lt_of_cell? w _ hw146_3)).trans hw146_3), ((HB.out.cell (World.block_lt_of_cell? w _ hw146_4)).trans hw146_4), ((HB.out.cell (World.block_lt_of_cell? w _ hw146_5)).trans hw146_5), ((HB.out.cell (World.block_lt_of_cell? w _ hw147_0)).trans hw147_0), ((HB.out.cell (World.block_lt_of_cell? w _ hw147_1)).trans hw147_1), ((HB.out.cell (World.block_lt_of_cell? w _ hw147_2)).trans hw147_2), ((HB.out.cell (World.block_lt_of_cell? w _ hw147_3)).trans hw147_3), ((HB.out.cell (World.block_lt_of_cell? w _ hw147_4)).trans hw147_4), ((HB.out.cell (World.block_lt_of_cell? w _ hw147_5)).trans hw147_5), ((HB.out.cell (World.block_lt_of_cell? w _ hw148_0)).trans hw148_0)⟩ (fun hHeld => ?_); refine with_tabW laws_sameTries.tab6 laws_sameTries.bits6 (fun HT_ HW_ => ?_)
            generalize wr.drew = w16 at HB HR146_4 HR146_5 HR147_4 HR147_5 hx146_0 hx146_1 hx146_2 hx146_3 hx146_4 hx146_5 hx147_0 hx147_1 hx147_2 hx147_3 hx147_4 hx147_5 hx148_0 hHeld ⊢
            refine pure_ (i := 0) (N := some 27) (v := ?_) (a' := ?_) #[true, false, false, false, false, false, false, false, false, false, false, false, false, false, false, false] rfl rfl (any_of HT_.out (by kernel_rfl)) (fun _ _ _ h => h) (Or.inl ⟨by rfl, ?_⟩) ?_ ?_
            rotate_left
            ·intro w'
             go_simp
             with_reducible rfl
            rotate_left
            ·simp only [Act.put, List.setIfInBounds_toArray, List.set_cons_zero, List.set_cons_succ, i64_w, i32_w]
             rfl
            refine pure_ (i := 1) (N := some 28) (v := ?_) (a' := ?_) #[true, true, false, false, false, false, false, false, false, false, false, false, false, false, false, false] rfl rfl (any_of HT_.out (by kernel_rfl)) (fun _ _ _ h => h) (Or.inl ⟨by rfl, ?_⟩) ?_ ?_
            rotate_left
            ·intro w'
             go_simp
             with_reducible rfl
            rotate_left
            ·simp only [Act.put, List.setIfInBounds_toArray, List.set_cons_zero, List.set_cons_succ, i64_w, i32_w]
             rfl
            refine pure_ (i := 2) (N := some 29) (v := ?_) (a' := ?_) #[true, true, true, false, false, false, false, false, false, false, false, false, false, false, false, false] rfl rfl (any_of HT_.out (by kernel_rfl)) (fun _ _ _ h => h) (Or.inl ⟨by rfl, ?_⟩) ?_ ?_
            rotate_left
            ·intro w'
             go_simp
             with_reducible rfl
            rotate_left
            ·simp only [Act.put, List.setIfInBounds_toArray, List.set_cons_zero, List.set_cons_succ, i64_w, i32_w]
             rfl
            refine pure_ (i := 4) (N := some 31) (v := ?_) (a' := ?_) #[true, true, true, false, true, false, false, false, false, false, false, false, false, false, false, false] rfl rfl (any_of HT_.out (by kernel_rfl)) (fun _ _ _ h => h) (Or.inl ⟨by rfl, ?_⟩) ?_ ?_
            rotate_left
            ·intro w'
             go_simp
             with_reducible rfl
            rotate_left
            ·simp only [Act.put, List.setIfInBounds_toArray, List.set_cons_zero, List.set_cons_succ, i64_w, i32_w]
             rfl
            refine pure_ (i := 5) (N := some 32) (v := ?_) (a' := ?_) #[true, true, true, false, true, true, false, false, false, false, false, false, false, false, false, false] rfl rfl (any_of HT_.out (by kernel_rfl)) (fun _ _ _ h => h) (Or.inl ⟨by rfl, ?_⟩) ?_ ?_
            rotate_left
            ·intro w'
             go_simp
             with_reducible rfl
            rotate_left
            ·simp only [Act.put, List.setIfInBounds_toArray, List.set_cons_zero, List.set_cons_succ, i64_w, i32_w]
             rfl
            refine pure_ (i := 6) (N := some 33) (v := ?_) (a' := ?_) #[true, true, true, false, true, true, true, false, false, false, false, false, false, false, false, false] rfl rfl (any_of HT_.out (by kernel_rfl)) (fun _ _ _ h => h) (Or.inl ⟨by rfl, ?_⟩) ?_ ?_
            rotate_left
            ·intro w'
             go_simp
             with_reducible rfl
            rotate_left
            ·simp only [Act.put, List.setIfInBounds_toArray, List.set_cons_zero, List.set_cons_succ, i64_w, i32_w]
             rfl
            refine pure_ (i := 8) (N := some 35) (v := ?_) (a' := ?_) #[true, true, true, false, true, true, true, false, true, false, false, false, false, false, false, false] rfl rfl (any_of HT_.out (by kernel_rfl)) (fun _ _ _ h => h) (Or.inl ⟨by rfl, ?_⟩) ?_ ?_
            rotate_left
            ·intro w'
             go_simp
             with_reducible rfl
            rotate_left
            ·simp only [Act.put, List.setIfInBounds_toArray, List.set_cons_zero, List.set_cons_succ, i64_w, i32_w]
             rfl
            refine pure_ (i := 9) (N := some 36) (v := ?_) (a' := ?_) #[true, true, true, false, true, true, true, false, true, true, false, false, false, false, false, false] rfl rfl (any_of HT_.out (by kernel_rfl)) (fun _ _ _ h => h) (Or.inl ⟨by rfl, ?_⟩) ?_ ?_
            rotate_left
            ·intro w'
             go_simp
             with_reducible rfl
            rotate_left
            ·simp only [Act.put, List.setIfInBounds_toArray, List.set_cons_zero, List.set_cons_succ, i64_w, i32_w]
             rfl
            refine pure_ (i := 10) (N := some 37) (v := ?_) (a' := ?_) #[true, true, true, false, true, true, true, false, true, true, true, false, false, false, false, false] rfl rfl (any_of HT_.out (by kernel_rfl)) (fun _ _ _ h => h) (Or.inl ⟨by rfl, ?_⟩) ?_ ?_
            rotate_left
            ·intro w'
             go_simp
             with_reducible rfl
            rotate_left
            ·simp only [Act.put, List.setIfInBounds_toArray, List.set_cons_zero, List.set_cons_succ, i64_w, i32_w]
             rfl
            refine pure_ (i := 11) (N := some 38) (v := ?_) (a' := ?_) #[true, true, true, false, true, true, true, false, true, true, true, true, false, false, false, false] rfl rfl (any_of HT_.out (by kernel_rfl)) (fun _ _ _ h => h) (Or.inl ⟨by rfl, ?_⟩) ?_ ?_
            rotate_left
            ·intro w'
             go_simp
             with_reducible rfl
            rotate_left
            ·simp only [Act.put, List.setIfInBounds_toArray, List.set_cons_zero, List.set_cons_succ, i64_w, i32_w]
             rfl
            refine take_ (i := 3) (N := some 30) (v := ?_) (a' := ?_) #[true, true, true, true, true, true, true, false, true, true, true, true, false, false, false, false] rfl rfl (take_ofW HT_.out HW_.out (by kernel_rfl)) (fun _ _ _ h => h) (Or.inl ⟨by rfl, ?_⟩) hHeld ?_ ?_
            rotate_left
            ·rintro w' ⟨s0, s1, s2, s3, s4, s5, s6, s7, s8, s9, s10, s11, s12⟩
             go_simp
             with_reducible rfl
            rotate_left
            ·simp only [Act.put, List.setIfInBounds_toArray, List.set_cons_zero, List.set_cons_succ, i64_w, i32_w]
             rfl
            refine take_ (i := 7) (N := some 34) (v := ?_) (a' := ?_) #[true, true, true, true, true, true, true, true, true, true, true, true, false, false, false, false] rfl rfl (take_ofW HT_.out HW_.out (by kernel_rfl)) (fun _ _ _ h => h) (Or.inl ⟨by rfl, ?_⟩) hHeld ?_ ?_
            rotate_left
            ·rintro w' ⟨s0, s1, s2, s3, s4, s5, s6, s7, s8, s9, s10, s11, s12⟩
             go_simp
             with_reducible rfl
            rotate_left
            ·simp only [Act.put, List.setIfInBounds_toArray, List.set_cons_zero, List.set_cons_succ, i64_w, i32_w]
             rfl
            refine take_ (i := 12) (N := some 39) (v := ?_) (a' := ?_) #[true, true, true, true, true, true, true, true, true, true, true, true, true, false, false, false] rfl rfl (take_ofW HT_.out HW_.out (by kernel_rfl)) (fun _ _ _ h => h) (Or.inl ⟨by rfl, ?_⟩) hHeld ?_ ?_
            rotate_left
            ·rintro w' ⟨s0, s1, s2, s3, s4, s5, s6, s7, s8, s9, s10, s11, s12⟩
             go_simp
             with_reducible rfl
            rotate_left
            ·simp only [Act.put, List.setIfInBounds_toArray, List.set_cons_zero, List.set_cons_succ, i64_w, i32_w]
             rfl
            refine one_ (i := 13) (N := some 40) #[true, true, true, true, true, true, true, true, true, true, true, true, true, true, false, false] rfl rfl (one_of HT_.out (by kernel_rfl)) (by decide) (fun K hK => ?_)
            refine goes_ Try.func31 (by kernel_rfl) rfl #[.slice A2 l2.length c2, .string (rdOf ByteArray.empty l3 x24_2)] (by rfl) rfl rfl (by (try simp only [List.map_toArray, List.map_cons, List.map_nil]); first | done | rfl | (simp only [List.length_drop, List.length_take]; rfl)) ?_
            with_reducible refine (spec_Half.calls k2 _ _ l2 (rdOf ByteArray.empty l3 x24_2) t149 _ ?side1 ?side2 A13.out).mono ?_
            (case side1 => repeat (first | exact (Kd.C_below HR2.out HB.out) | (with_reducible refine Kd.C_alloc ?_ _) | (with_reducible refine Kd.C_drewN ?_ _) | (with_reducible refine Kd.C_drew ?_)))
            (case side2 => exact HC2.out)
            rintro e w' ⟨rfl, ⟨nd, rfl⟩⟩
            refine ⟨_, rfl, ?_⟩
            refine hK.out _ _ ⟨((HB.out.cell (World.block_lt_of_cell? w _ hw146_0)).trans hw146_0), ((HB.out.cell (World.block_lt_of_cell? w _ hw146_1)).trans hw146_1), ((HB.out.cell (World.block_lt_of_cell? w _ hw146_2)).trans hw146_2), ((HB.out.cell (World.block_lt_of_cell? w _ hw146_3)).trans hw146_3), ((HB.out.cell (World.block_lt_of_cell? w _ hw146_4)).trans hw146_4), ((HB.out.cell (World.block_lt_of_cell? w _ hw146_5)).trans hw146_5), ((HB.out.cell (World.block_lt_of_cell? w _ hw147_0)).trans hw147_0), ((HB.out.cell (World.block_lt_of_cell? w _ hw147_1)).trans hw147_1), ((HB.out.cell (World.block_lt_of_cell? w _ hw147_2)).trans hw147_2), ((HB.out.cell (World.block_lt_of_cell? w _ hw147_3)).trans hw147_3), ((HB.out.cell (World.block_lt_of_cell? w _ hw147_4)).trans hw147_4), ((HB.out.cell (World.block_lt_of_cell? w _ hw147_5)).trans hw147_5), ((HB.out.cell (World.block_lt_of_cell? w _ hw148_0)).trans hw148_0)⟩ (fun hHeld => ?_)
            clear hK K
            refine norm_ (a' := ?_) ?_ ?_
            rotate_left
            ·show Act.put _ (some 40) _ = _
             simp only [Act.put, List.setIfInBounds_toArray, List.set_cons_zero, List.set_cons_succ, i64_w, i32_w]
             rfl
            refine one_ (i := 14) (N := some 41) #[true, true, true, true, true, true, true, true, true, true, true, true, true, true, true, false] rfl rfl (one_of HT_.out (by kernel_rfl)) (by decide) (fun K hK => ?_)
            refine goes_ Try.func30 (by kernel_rfl) rfl #[.agg #[.int .i64 ((rd_T34 l0 x24_2).f0.f0), .bool ((rd_T34 l0 x24_2).f0.f1), .int .i64 ((rd_T34 l0 x24_2).f1.f0), .bool ((rd_T34 l0 x24_2).f1.f1), .slice A146_4 ((rd_T34 l0 x24_2).f2).length c146_4, .slice A146_5 ((rd_T34 l0 x24_2).f3).length c146_5], .agg #[.int .i64 ((rd_T34 l1 x24_2).f0.f0), .bool ((rd_T34 l1 x24_2).f0.f1), .int .i64 ((rd_T34 l1 x24_2).f1.f0), .bool ((rd_T34 l1 x24_2).f1.f1), .slice A147_4 ((rd_T34 l1 x24_2).f2).length c147_4, .slice A147_5 ((rd_T34 l1 x24_2).f3).length c147_5], .bool t149] (by rfl) rfl rfl (by (try simp only [List.map_toArray, List.map_cons, List.map_nil]); first | done | rfl | (simp only [List.length_drop, List.length_take]; rfl)) ?_
            with_reducible refine (laws_sameTrie.calls k2 ((rd_T34 l0 x24_2).f0.f0) ((rd_T34 l0 x24_2).f0.f1) ((rd_T34 l0 x24_2).f1.f0) ((rd_T34 l0 x24_2).f1.f1) _ _ ((rd_T34 l0 x24_2).f2) _ _ ((rd_T34 l0 x24_2).f3) ((rd_T34 l1 x24_2).f0.f0) ((rd_T34 l1 x24_2).f0.f1) ((rd_T34 l1 x24_2).f1.f0) ((rd_T34 l1 x24_2).f1.f1) _ _ ((rd_T34 l1 x24_2).f2) _ _ ((rd_T34 l1 x24_2).f3) t149 true _ ?side1 ?side2 ?side3 ?side4 ?side5 ?side6 ?side7 ?side8 A14.out).mono ?_
            (case side1 => repeat (first | exact (Kd.C_below HR146_4.out (by repeat (first | (with_reducible first | exact HB.out | apply below_alloc | apply pw_below_drewN | apply below_drew1) | exact HB.out))) | (with_reducible refine Kd.C_alloc ?_ _) | (with_reducible refine Kd.C_drewN ?_ _) | (with_reducible refine Kd.C_drew ?_)))
            (case side2 => exact HC146_4.out)
            (case side3 => repeat (first | exact (Kd.C_below HR146_5.out (by repeat (first | (with_reducible first | exact HB.out | apply below_alloc | apply pw_below_drewN | apply below_drew1) | exact HB.out))) | (with_reducible refine Kd.C_alloc ?_ _) | (with_reducible refine Kd.C_drewN ?_ _) | (with_reducible refine Kd.C_drew ?_)))
            (case side4 => exact HC146_5.out)
            (case side5 => repeat (first | exact (Kd.C_below HR147_4.out (by repeat (first | (with_reducible first | exact HB.out | apply below_alloc | apply pw_below_drewN | apply below_drew1) | exact HB.out))) | (with_reducible refine Kd.C_alloc ?_ _) | (with_reducible refine Kd.C_drewN ?_ _) | (with_reducible refine Kd.C_drew ?_)))
            (case side6 => exact HC147_4.out)
            (case side7 => repeat (first | exact (Kd.C_below HR147_5.out (by repeat (first | (with_reducible first | exact HB.out | apply below_alloc | apply pw_below_drewN | apply below_drew1) | exact HB.out))) | (with_reducible refine Kd.C_alloc ?_ _) | (with_reducible refine Kd.C_drewN ?_ _) | (with_reducible refine Kd.C_drew ?_)))
            (case side8 => exact HC147_5.out)
            rintro e w17 ⟨rfl, hb⟩
            refine ⟨_, rfl, ?_⟩
            have n0_ := Aside0.mk (below_step (by repeat (first | (with_reducible first | exact HB.out | apply below_alloc | apply pw_below_drewN | apply below_drew1) | exact HB.out)) hb)
            clear HB
            have HB := n0_
            clear n0_
            (try clear hb)
            (try clear hb2)
            (try clear hk)
            (try clear hi)
            refine hK.out _ _ ⟨((HB.out.cell (World.block_lt_of_cell? w _ hw146_0)).trans hw146_0), ((HB.out.cell (World.block_lt_of_cell? w _ hw146_1)).trans hw146_1), ((HB.out.cell (World.block_lt_of_cell? w _ hw146_2)).trans hw146_2), ((HB.out.cell (World.block_lt_of_cell? w _ hw146_3)).trans hw146_3), ((HB.out.cell (World.block_lt_of_cell? w _ hw146_4)).trans hw146_4), ((HB.out.cell (World.block_lt_of_cell? w _ hw146_5)).trans hw146_5), ((HB.out.cell (World.block_lt_of_cell? w _ hw147_0)).trans hw147_0), ((HB.out.cell (World.block_lt_of_cell? w _ hw147_1)).trans hw147_1), ((HB.out.cell (World.block_lt_of_cell? w _ hw147_2)).trans hw147_2), ((HB.out.cell (World.block_lt_of_cell? w _ hw147_3)).trans hw147_3), ((HB.out.cell (World.block_lt_of_cell? w _ hw147_4)).trans hw147_4), ((HB.out.cell (World.block_lt_of_cell? w _ hw147_5)).trans hw147_5), ((HB.out.cell (World.block_lt_of_cell? w _ hw148_0)).trans hw148_0)⟩ (fun hHeld => ?_)
            clear hK K
            refine norm_ (a' := ?_) ?_ ?_
            rotate_left
            ·show Act.put _ (some 41) _ = _
             simp only [Act.put, List.setIfInBounds_toArray, List.set_cons_zero, List.set_cons_succ, i64_w, i32_w]
             rfl
            refine pure_ (i := 15) (N := some 42) (v := ?_) (a' := ?_) #[true, true, true, true, true, true, true, true, true, true, true, true, true, true, true, true] rfl rfl (any_of HT_.out (by kernel_rfl)) (fun _ _ _ h => h) (Or.inl ⟨by rfl, ?_⟩) ?_ ?_
            rotate_left
            ·intro w'
             go_simp
             with_reducible rfl
            rotate_left
            ·simp only [Act.put, List.setIfInBounds_toArray, List.set_cons_zero, List.set_cons_succ, i64_w, i32_w]
             rfl
            refine done_ (done_of HT_.out (by kernel_rfl)) ?_
            try go_wp2
            go_roundg k2
            case measure => have := HJ4.out; have := HK2.out; omega
            case rel => exact ⟨(wrap64 (x24_2 + 1)), (by first | rfl | (simp; done) | (simp [*]; done)), H', ⟨by have := HJ4.out; have := HK2.out; omega⟩, ⟨by repeat (first | (with_reducible first | exact HB.out | apply below_alloc | apply pw_below_drewN | apply below_drew1) | exact HB.out)⟩⟩
           ·replace c15 := Bool.eq_false_iff.mpr c15
            subst c15
            have H1 : (some false) = some r := by rw [if_neg (show ¬ (false = true) by decide)] at H; exact H
            clear H
            have H := H1
            clear H1
            obtain rfl := Option.some.inj H
            try go_wp2
            have n0_ := Aside0.mk (below_drew1 HB.out)
            clear HB
            have HB := n0_
            clear n0_
            have p146 : 0 ≤ (x24_2 : Int) := of_decide_eq_true (by first | (with_reducible assumption) | assumption)
            have q146 : x24_2 < (l0.length : Int) := of_decide_eq_true (by first | (with_reducible assumption) | assumption)
            obtain ⟨ad146, A146_4, c146_4, A146_5, c146_5, e146, hx146_0, hx146_1, hx146_2, hx146_3, hx146_4, hx146_5, hl146_4, hi146_4, hl146_5, hi146_5⟩ := at_T34 HR0.out x24_2 p146 q146
            have hw146_5 := hx146_5
            have hw146_4 := hx146_4
            have hw146_3 := hx146_3
            have hw146_2 := hx146_2
            have hw146_1 := hx146_1
            have hw146_0 := hx146_0
            cases e146
            replace hx146_0 := (HB.out.cell (World.block_lt_of_cell? w _ hx146_0)).trans hx146_0
            replace hx146_1 := (HB.out.cell (World.block_lt_of_cell? w _ hx146_1)).trans hx146_1
            replace hx146_2 := (HB.out.cell (World.block_lt_of_cell? w _ hx146_2)).trans hx146_2
            replace hx146_3 := (HB.out.cell (World.block_lt_of_cell? w _ hx146_3)).trans hx146_3
            replace hx146_4 := (HB.out.cell (World.block_lt_of_cell? w _ hx146_4)).trans hx146_4
            replace hx146_5 := (HB.out.cell (World.block_lt_of_cell? w _ hx146_5)).trans hx146_5
            have HR146_4 := Aside0.mk hi146_4
            have HC146_4 := Aside0.mk hl146_4
            clear hi146_4 hl146_4
            have HR146_5 := Aside0.mk hi146_5
            have HC146_5 := Aside0.mk hl146_5
            clear hi146_5 hl146_5
            replace p146 := eq_true p146
            replace q146 := eq_true q146
            have p147 : 0 ≤ (x24_2 : Int) := of_decide_eq_true (by first | (with_reducible assumption) | assumption)
            have q147 : x24_2 < (l1.length : Int) := of_decide_eq_true (by first | (with_reducible assumption) | assumption)
            obtain ⟨ad147, A147_4, c147_4, A147_5, c147_5, e147, hx147_0, hx147_1, hx147_2, hx147_3, hx147_4, hx147_5, hl147_4, hi147_4, hl147_5, hi147_5⟩ := at_T34 HR1.out x24_2 p147 q147
            have hw147_5 := hx147_5
            have hw147_4 := hx147_4
            have hw147_3 := hx147_3
            have hw147_2 := hx147_2
            have hw147_1 := hx147_1
            have hw147_0 := hx147_0
            cases e147
            replace hx147_0 := (HB.out.cell (World.block_lt_of_cell? w _ hx147_0)).trans hx147_0
            replace hx147_1 := (HB.out.cell (World.block_lt_of_cell? w _ hx147_1)).trans hx147_1
            replace hx147_2 := (HB.out.cell (World.block_lt_of_cell? w _ hx147_2)).trans hx147_2
            replace hx147_3 := (HB.out.cell (World.block_lt_of_cell? w _ hx147_3)).trans hx147_3
            replace hx147_4 := (HB.out.cell (World.block_lt_of_cell? w _ hx147_4)).trans hx147_4
            replace hx147_5 := (HB.out.cell (World.block_lt_of_cell? w _ hx147_5)).trans hx147_5
            have HR147_4 := Aside0.mk hi147_4
            have HC147_4 := Aside0.mk hl147_4
            clear hi147_4 hl147_4
            have HR147_5 := Aside0.mk hi147_5
            have HC147_5 := Aside0.mk hl147_5
            clear hi147_5 hl147_5
            replace p147 := eq_true p147
            replace q147 := eq_true q147
            have p148 : 0 ≤ (x24_2 : Int) := of_decide_eq_true (by first | (with_reducible assumption) | assumption)
            have q148 : x24_2 < (l3.length : Int) := of_decide_eq_true (by first | (with_reducible assumption) | assumption)
            obtain ⟨ad148, e148, hx148_0⟩ := Kd.at_string HR3.out x24_2 p148 q148
            have hw148_0 := hx148_0
            cases e148
            replace hx148_0 := (HB.out.cell (World.block_lt_of_cell? w _ hx148_0)).trans hx148_0
            replace p148 := eq_true p148
            replace q148 := eq_true q148
            refine start_ (n := 16) (S := fun w' => w'.cell? (ad146.add ((x24_2).toNat * 6)) = some (.int .i64 ((rd_T34 l0 x24_2).f0.f0)) ∧ w'.cell? ⟨(ad146.add ((x24_2).toNat * 6)).block, (ad146.add ((x24_2).toNat * 6)).off + 1, none⟩ = some (.bool ((rd_T34 l0 x24_2).f0.f1)) ∧ w'.cell? ⟨(ad146.add ((x24_2).toNat * 6)).block, (ad146.add ((x24_2).toNat * 6)).off + 2, none⟩ = some (.int .i64 ((rd_T34 l0 x24_2).f1.f0)) ∧ w'.cell? ⟨(ad146.add ((x24_2).toNat * 6)).block, (ad146.add ((x24_2).toNat * 6)).off + 3, none⟩ = some (.bool ((rd_T34 l0 x24_2).f1.f1)) ∧ w'.cell? ⟨(ad146.add ((x24_2).toNat * 6)).block, (ad146.add ((x24_2).toNat * 6)).off + 4, none⟩ = some (.slice A146_4 ((rd_T34 l0 x24_2).f2).length c146_4) ∧ w'.cell? ⟨(ad146.add ((x24_2).toNat * 6)).block, (ad146.add ((x24_2).toNat * 6)).off + 5, none⟩ = some (.slice A146_5 ((rd_T34 l0 x24_2).f3).length c146_5) ∧ w'.cell? (ad147.add ((x24_2).toNat * 6)) = some (.int .i64 ((rd_T34 l1 x24_2).f0.f0)) ∧ w'.cell? ⟨(ad147.add ((x24_2).toNat * 6)).block, (ad147.add ((x24_2).toNat * 6)).off + 1, none⟩ = some (.bool ((rd_T34 l1 x24_2).f0.f1)) ∧ w'.cell? ⟨(ad147.add ((x24_2).toNat * 6)).block, (ad147.add ((x24_2).toNat * 6)).off + 2, none⟩ = some (.int .i64 ((rd_T34 l1 x24_2).f1.f0)) ∧ w'.cell? ⟨(ad147.add ((x24_2).toNat * 6)).block, (ad147.add ((x24_2).toNat * 6)).off + 3, none⟩ = some (.bool ((rd_T34 l1 x24_2).f1.f1)) ∧ w'.cell? ⟨(ad147.add ((x24_2).toNat * 6)).block, (ad147.add ((x24_2).toNat * 6)).off + 4, none⟩ = some (.slice A147_4 ((rd_T34 l1 x24_2).f2).length c147_4) ∧ w'.cell? ⟨(ad147.add ((x24_2).toNat * 6)).block, (ad147.add ((x24_2).toNat * 6)).off + 5, none⟩ = some (.slice A147_5 ((rd_T34 l1 x24_2).f3).length c147_5) ∧ w'.cell? (ad148.add (x24_2).toNat) = some (.string (rdOf ByteArray.empty l3 x24_2))) (ds := []) #[false, false, false, false, false, false, false, false, false, false, false, false, false, false, false, false] (by kernel_rfl) rfl rfl ⟨((HB.out.cell (World.block_lt_of_cell? w _ hw146_0)).trans hw146_0), ((HB.out.cell (World.block_lt_of_cell? w _ hw146_1)).trans hw146_1), ((HB.out.cell (World.block_lt_of_cell? w _ hw146_2)).trans hw146_2), ((HB.out.cell (World.block_lt_of_cell? w _ hw146_3)).trans hw146_3), ((HB.out.cell (World.block_lt_of_cell? w _ hw146_4)).trans hw146_4), ((HB.out.cell (World.block_lt_of_cell? w _ hw146_5)).trans hw146_5), ((HB.out.cell (World.block_lt_of_cell? w _ hw147_0)).trans hw147_0), ((HB.out.cell (World.block_lt_of_cell? w _ hw147_1)).trans hw147_1), ((HB.out.cell (World.block_lt_of_cell? w _ hw147_2)).trans hw147_2), ((HB.out.cell (World.block_lt_of_cell? w _ hw147_3)).trans hw147_3), ((HB.out.cell (World.block_lt_of_cell? w _ hw147_4)).trans hw147_4), ((HB.out.cell (World.block_lt_of_cell? w _ hw147_5)).trans hw147_5), ((HB.out.cell (World.block_lt_of_cell? w _ hw148_0)).trans hw148_0)⟩ (fun hHeld => ?_); refine with_tabW laws_sameTries.tab6 laws_sameTries.bits6 (fun HT_ HW_ => ?_)
            generalize wr.drew = w18 at HB HR146_4 HR146_5 HR147_4 HR147_5 hx146_0 hx146_1 hx146_2 hx146_3 hx146_4 hx146_5 hx147_0 hx147_1 hx147_2 hx147_3 hx147_4 hx147_5 hx148_0 hHeld ⊢
            refine pure_ (i := 0) (N := some 27) (v := ?_) (a' := ?_) #[true, false, false, false, false, false, false, false, false, false, false, false, false, false, false, false] rfl rfl (any_of HT_.out (by kernel_rfl)) (fun _ _ _ h => h) (Or.inl ⟨by rfl, ?_⟩) ?_ ?_
            rotate_left
            ·intro w'
             go_simp
             with_reducible rfl
            rotate_left
            ·simp only [Act.put, List.setIfInBounds_toArray, List.set_cons_zero, List.set_cons_succ, i64_w, i32_w]
             rfl
            refine pure_ (i := 1) (N := some 28) (v := ?_) (a' := ?_) #[true, true, false, false, false, false, false, false, false, false, false, false, false, false, false, false] rfl rfl (any_of HT_.out (by kernel_rfl)) (fun _ _ _ h => h) (Or.inl ⟨by rfl, ?_⟩) ?_ ?_
            rotate_left
            ·intro w'
             go_simp
             with_reducible rfl
            rotate_left
            ·simp only [Act.put, List.setIfInBounds_toArray, List.set_cons_zero, List.set_cons_succ, i64_w, i32_w]
             rfl
            refine pure_ (i := 2) (N := some 29) (v := ?_) (a' := ?_) #[true, true, true, false, false, false, false, false, false, false, false, false, false, false, false, false] rfl rfl (any_of HT_.out (by kernel_rfl)) (fun _ _ _ h => h) (Or.inl ⟨by rfl, ?_⟩) ?_ ?_
            rotate_left
            ·intro w'
             go_simp
             with_reducible rfl
            rotate_left
            ·simp only [Act.put, List.setIfInBounds_toArray, List.set_cons_zero, List.set_cons_succ, i64_w, i32_w]
             rfl
            refine pure_ (i := 4) (N := some 31) (v := ?_) (a' := ?_) #[true, true, true, false, true, false, false, false, false, false, false, false, false, false, false, false] rfl rfl (any_of HT_.out (by kernel_rfl)) (fun _ _ _ h => h) (Or.inl ⟨by rfl, ?_⟩) ?_ ?_
            rotate_left
            ·intro w'
             go_simp
             with_reducible rfl
            rotate_left
            ·simp only [Act.put, List.setIfInBounds_toArray, List.set_cons_zero, List.set_cons_succ, i64_w, i32_w]
             rfl
            refine pure_ (i := 5) (N := some 32) (v := ?_) (a' := ?_) #[true, true, true, false, true, true, false, false, false, false, false, false, false, false, false, false] rfl rfl (any_of HT_.out (by kernel_rfl)) (fun _ _ _ h => h) (Or.inl ⟨by rfl, ?_⟩) ?_ ?_
            rotate_left
            ·intro w'
             go_simp
             with_reducible rfl
            rotate_left
            ·simp only [Act.put, List.setIfInBounds_toArray, List.set_cons_zero, List.set_cons_succ, i64_w, i32_w]
             rfl
            refine pure_ (i := 6) (N := some 33) (v := ?_) (a' := ?_) #[true, true, true, false, true, true, true, false, false, false, false, false, false, false, false, false] rfl rfl (any_of HT_.out (by kernel_rfl)) (fun _ _ _ h => h) (Or.inl ⟨by rfl, ?_⟩) ?_ ?_
            rotate_left
            ·intro w'
             go_simp
             with_reducible rfl
            rotate_left
            ·simp only [Act.put, List.setIfInBounds_toArray, List.set_cons_zero, List.set_cons_succ, i64_w, i32_w]
             rfl
            refine pure_ (i := 8) (N := some 35) (v := ?_) (a' := ?_) #[true, true, true, false, true, true, true, false, true, false, false, false, false, false, false, false] rfl rfl (any_of HT_.out (by kernel_rfl)) (fun _ _ _ h => h) (Or.inl ⟨by rfl, ?_⟩) ?_ ?_
            rotate_left
            ·intro w'
             go_simp
             with_reducible rfl
            rotate_left
            ·simp only [Act.put, List.setIfInBounds_toArray, List.set_cons_zero, List.set_cons_succ, i64_w, i32_w]
             rfl
            refine pure_ (i := 9) (N := some 36) (v := ?_) (a' := ?_) #[true, true, true, false, true, true, true, false, true, true, false, false, false, false, false, false] rfl rfl (any_of HT_.out (by kernel_rfl)) (fun _ _ _ h => h) (Or.inl ⟨by rfl, ?_⟩) ?_ ?_
            rotate_left
            ·intro w'
             go_simp
             with_reducible rfl
            rotate_left
            ·simp only [Act.put, List.setIfInBounds_toArray, List.set_cons_zero, List.set_cons_succ, i64_w, i32_w]
             rfl
            refine pure_ (i := 10) (N := some 37) (v := ?_) (a' := ?_) #[true, true, true, false, true, true, true, false, true, true, true, false, false, false, false, false] rfl rfl (any_of HT_.out (by kernel_rfl)) (fun _ _ _ h => h) (Or.inl ⟨by rfl, ?_⟩) ?_ ?_
            rotate_left
            ·intro w'
             go_simp
             with_reducible rfl
            rotate_left
            ·simp only [Act.put, List.setIfInBounds_toArray, List.set_cons_zero, List.set_cons_succ, i64_w, i32_w]
             rfl
            refine pure_ (i := 11) (N := some 38) (v := ?_) (a' := ?_) #[true, true, true, false, true, true, true, false, true, true, true, true, false, false, false, false] rfl rfl (any_of HT_.out (by kernel_rfl)) (fun _ _ _ h => h) (Or.inl ⟨by rfl, ?_⟩) ?_ ?_
            rotate_left
            ·intro w'
             go_simp
             with_reducible rfl
            rotate_left
            ·simp only [Act.put, List.setIfInBounds_toArray, List.set_cons_zero, List.set_cons_succ, i64_w, i32_w]
             rfl
            refine take_ (i := 3) (N := some 30) (v := ?_) (a' := ?_) #[true, true, true, true, true, true, true, false, true, true, true, true, false, false, false, false] rfl rfl (take_ofW HT_.out HW_.out (by kernel_rfl)) (fun _ _ _ h => h) (Or.inl ⟨by rfl, ?_⟩) hHeld ?_ ?_
            rotate_left
            ·rintro w' ⟨s0, s1, s2, s3, s4, s5, s6, s7, s8, s9, s10, s11, s12⟩
             go_simp
             with_reducible rfl
            rotate_left
            ·simp only [Act.put, List.setIfInBounds_toArray, List.set_cons_zero, List.set_cons_succ, i64_w, i32_w]
             rfl
            refine take_ (i := 7) (N := some 34) (v := ?_) (a' := ?_) #[true, true, true, true, true, true, true, true, true, true, true, true, false, false, false, false] rfl rfl (take_ofW HT_.out HW_.out (by kernel_rfl)) (fun _ _ _ h => h) (Or.inl ⟨by rfl, ?_⟩) hHeld ?_ ?_
            rotate_left
            ·rintro w' ⟨s0, s1, s2, s3, s4, s5, s6, s7, s8, s9, s10, s11, s12⟩
             go_simp
             with_reducible rfl
            rotate_left
            ·simp only [Act.put, List.setIfInBounds_toArray, List.set_cons_zero, List.set_cons_succ, i64_w, i32_w]
             rfl
            refine take_ (i := 12) (N := some 39) (v := ?_) (a' := ?_) #[true, true, true, true, true, true, true, true, true, true, true, true, true, false, false, false] rfl rfl (take_ofW HT_.out HW_.out (by kernel_rfl)) (fun _ _ _ h => h) (Or.inl ⟨by rfl, ?_⟩) hHeld ?_ ?_
            rotate_left
            ·rintro w' ⟨s0, s1, s2, s3, s4, s5, s6, s7, s8, s9, s10, s11, s12⟩
             go_simp
             with_reducible rfl
            rotate_left
            ·simp only [Act.put, List.setIfInBounds_toArray, List.set_cons_zero, List.set_cons_succ, i64_w, i32_w]
             rfl
            refine one_ (i := 13) (N := some 40) #[true, true, true, true, true, true, true, true, true, true, true, true, true, true, false, false] rfl rfl (one_of HT_.out (by kernel_rfl)) (by decide) (fun K hK => ?_)
            refine goes_ Try.func31 (by kernel_rfl) rfl #[.slice A2 l2.length c2, .string (rdOf ByteArray.empty l3 x24_2)] (by rfl) rfl rfl (by (try simp only [List.map_toArray, List.map_cons, List.map_nil]); first | done | rfl | (simp only [List.length_drop, List.length_take]; rfl)) ?_
            with_reducible refine (spec_Half.calls k2 _ _ l2 (rdOf ByteArray.empty l3 x24_2) t149 _ ?side1 ?side2 A13.out).mono ?_
            (case side1 => repeat (first | exact (Kd.C_below HR2.out HB.out) | (with_reducible refine Kd.C_alloc ?_ _) | (with_reducible refine Kd.C_drewN ?_ _) | (with_reducible refine Kd.C_drew ?_)))
            (case side2 => exact HC2.out)
            rintro e w' ⟨rfl, ⟨nd, rfl⟩⟩
            refine ⟨_, rfl, ?_⟩
            refine hK.out _ _ ⟨((HB.out.cell (World.block_lt_of_cell? w _ hw146_0)).trans hw146_0), ((HB.out.cell (World.block_lt_of_cell? w _ hw146_1)).trans hw146_1), ((HB.out.cell (World.block_lt_of_cell? w _ hw146_2)).trans hw146_2), ((HB.out.cell (World.block_lt_of_cell? w _ hw146_3)).trans hw146_3), ((HB.out.cell (World.block_lt_of_cell? w _ hw146_4)).trans hw146_4), ((HB.out.cell (World.block_lt_of_cell? w _ hw146_5)).trans hw146_5), ((HB.out.cell (World.block_lt_of_cell? w _ hw147_0)).trans hw147_0), ((HB.out.cell (World.block_lt_of_cell? w _ hw147_1)).trans hw147_1), ((HB.out.cell (World.block_lt_of_cell? w _ hw147_2)).trans hw147_2), ((HB.out.cell (World.block_lt_of_cell? w _ hw147_3)).trans hw147_3), ((HB.out.cell (World.block_lt_of_cell? w _ hw147_4)).trans hw147_4), ((HB.out.cell (World.block_lt_of_cell? w _ hw147_5)).trans hw147_5), ((HB.out.cell (World.block_lt_of_cell? w _ hw148_0)).trans hw148_0)⟩ (fun hHeld => ?_)
            clear hK K
            refine norm_ (a' := ?_) ?_ ?_
            rotate_left
            ·show Act.put _ (some 40) _ = _
             simp only [Act.put, List.setIfInBounds_toArray, List.set_cons_zero, List.set_cons_succ, i64_w, i32_w]
             rfl
            refine one_ (i := 14) (N := some 41) #[true, true, true, true, true, true, true, true, true, true, true, true, true, true, true, false] rfl rfl (one_of HT_.out (by kernel_rfl)) (by decide) (fun K hK => ?_)
            refine goes_ Try.func30 (by kernel_rfl) rfl #[.agg #[.int .i64 ((rd_T34 l0 x24_2).f0.f0), .bool ((rd_T34 l0 x24_2).f0.f1), .int .i64 ((rd_T34 l0 x24_2).f1.f0), .bool ((rd_T34 l0 x24_2).f1.f1), .slice A146_4 ((rd_T34 l0 x24_2).f2).length c146_4, .slice A146_5 ((rd_T34 l0 x24_2).f3).length c146_5], .agg #[.int .i64 ((rd_T34 l1 x24_2).f0.f0), .bool ((rd_T34 l1 x24_2).f0.f1), .int .i64 ((rd_T34 l1 x24_2).f1.f0), .bool ((rd_T34 l1 x24_2).f1.f1), .slice A147_4 ((rd_T34 l1 x24_2).f2).length c147_4, .slice A147_5 ((rd_T34 l1 x24_2).f3).length c147_5], .bool t149] (by rfl) rfl rfl (by (try simp only [List.map_toArray, List.map_cons, List.map_nil]); first | done | rfl | (simp only [List.length_drop, List.length_take]; rfl)) ?_
            with_reducible refine (laws_sameTrie.calls k2 ((rd_T34 l0 x24_2).f0.f0) ((rd_T34 l0 x24_2).f0.f1) ((rd_T34 l0 x24_2).f1.f0) ((rd_T34 l0 x24_2).f1.f1) _ _ ((rd_T34 l0 x24_2).f2) _ _ ((rd_T34 l0 x24_2).f3) ((rd_T34 l1 x24_2).f0.f0) ((rd_T34 l1 x24_2).f0.f1) ((rd_T34 l1 x24_2).f1.f0) ((rd_T34 l1 x24_2).f1.f1) _ _ ((rd_T34 l1 x24_2).f2) _ _ ((rd_T34 l1 x24_2).f3) t149 false _ ?side1 ?side2 ?side3 ?side4 ?side5 ?side6 ?side7 ?side8 A14.out).mono ?_
            (case side1 => repeat (first | exact (Kd.C_below HR146_4.out (by repeat (first | (with_reducible first | exact HB.out | apply below_alloc | apply pw_below_drewN | apply below_drew1) | exact HB.out))) | (with_reducible refine Kd.C_alloc ?_ _) | (with_reducible refine Kd.C_drewN ?_ _) | (with_reducible refine Kd.C_drew ?_)))
            (case side2 => exact HC146_4.out)
            (case side3 => repeat (first | exact (Kd.C_below HR146_5.out (by repeat (first | (with_reducible first | exact HB.out | apply below_alloc | apply pw_below_drewN | apply below_drew1) | exact HB.out))) | (with_reducible refine Kd.C_alloc ?_ _) | (with_reducible refine Kd.C_drewN ?_ _) | (with_reducible refine Kd.C_drew ?_)))
            (case side4 => exact HC146_5.out)
            (case side5 => repeat (first | exact (Kd.C_below HR147_4.out (by repeat (first | (with_reducible first | exact HB.out | apply below_alloc | apply pw_below_drewN | apply below_drew1) | exact HB.out))) | (with_reducible refine Kd.C_alloc ?_ _) | (with_reducible refine Kd.C_drewN ?_ _) | (with_reducible refine Kd.C_drew ?_)))
            (case side6 => exact HC147_4.out)
            (case side7 => repeat (first | exact (Kd.C_below HR147_5.out (by repeat (first | (with_reducible first | exact HB.out | apply below_alloc | apply pw_below_drewN | apply below_drew1) | exact HB.out))) | (with_reducible refine Kd.C_alloc ?_ _) | (with_reducible refine Kd.C_drewN ?_ _) | (with_reducible refine Kd.C_drew ?_)))
            (case side8 => exact HC147_5.out)
            rintro e w19 ⟨rfl, hb⟩
            refine ⟨_, rfl, ?_⟩
            have n0_ := Aside0.mk (below_step (by repeat (first | (with_reducible first | exact HB.out | apply below_alloc | apply pw_below_drewN | apply below_drew1) | exact HB.out)) hb)
            clear HB
            have HB := n0_
            clear n0_
            (try clear hb)
            (try clear hb2)
            (try clear hk)
            (try clear hi)
            refine hK.out _ _ ⟨((HB.out.cell (World.block_lt_of_cell? w _ hw146_0)).trans hw146_0), ((HB.out.cell (World.block_lt_of_cell? w _ hw146_1)).trans hw146_1), ((HB.out.cell (World.block_lt_of_cell? w _ hw146_2)).trans hw146_2), ((HB.out.cell (World.block_lt_of_cell? w _ hw146_3)).trans hw146_3), ((HB.out.cell (World.block_lt_of_cell? w _ hw146_4)).trans hw146_4), ((HB.out.cell (World.block_lt_of_cell? w _ hw146_5)).trans hw146_5), ((HB.out.cell (World.block_lt_of_cell? w _ hw147_0)).trans hw147_0), ((HB.out.cell (World.block_lt_of_cell? w _ hw147_1)).trans hw147_1), ((HB.out.cell (World.block_lt_of_cell? w _ hw147_2)).trans hw147_2), ((HB.out.cell (World.block_lt_of_cell? w _ hw147_3)).trans hw147_3), ((HB.out.cell (World.block_lt_of_cell? w _ hw147_4)).trans hw147_4), ((HB.out.cell (World.block_lt_of_cell? w _ hw147_5)).trans hw147_5), ((HB.out.cell (World.block_lt_of_cell? w _ hw148_0)).trans hw148_0)⟩ (fun hHeld => ?_)
            clear hK K
            refine norm_ (a' := ?_) ?_ ?_
            rotate_left
            ·show Act.put _ (some 41) _ = _
             simp only [Act.put, List.setIfInBounds_toArray, List.set_cons_zero, List.set_cons_succ, i64_w, i32_w]
             rfl
            refine pure_ (i := 15) (N := some 42) (v := ?_) (a' := ?_) #[true, true, true, true, true, true, true, true, true, true, true, true, true, true, true, true] rfl rfl (any_of HT_.out (by kernel_rfl)) (fun _ _ _ h => h) (Or.inl ⟨by rfl, ?_⟩) ?_ ?_
            rotate_left
            ·intro w'
             go_simp
             with_reducible rfl
            rotate_left
            ·simp only [Act.put, List.setIfInBounds_toArray, List.set_cons_zero, List.set_cons_succ, i64_w, i32_w]
             rfl
            refine done_ (done_of HT_.out (by kernel_rfl)) ?_
            try go_wp2
            go_ret
            exact ⟨by first | rfl | (simp [errW_none, errW_some] <;> rfl) | (simp [*, errW_none, errW_some] <;> rfl), by repeat (first | (with_reducible first | exact HB.out | apply below_alloc | apply pw_below_drewN | apply below_drew1) | exact HB.out)⟩
          ·rw [if_neg c12] at H
           exact absurd H (by simp)
         ·rw [if_neg c11] at H
          exact absurd H (by simp)
        ·rw [if_neg c10] at H
         exact absurd H (by simp)
       ·rw [if_neg c9] at H
        exact absurd H (by simp)
      ·rw [if_neg c8] at H
       have c8b0 : decide (x24_2 < (l0.length : Int)) = false := decide_eq_false c8
       clear c8
       obtain rfl := Option.some.inj H
       go_wp2
       go_ret
       exact ⟨by first | rfl | (simp [errW_none, errW_some] <;> rfl) | (simp [*, errW_none, errW_some] <;> rfl), by repeat (first | (with_reducible first | exact HB.out | apply below_alloc | apply pw_below_drewN | apply below_drew1) | exact HB.out)⟩

end Go.Proofs.Ytaejkbjepbifcaa.PB
namespace Go.Proofs.Ytaejkbjepbifcaa.Da
open Go.RowKit Go.Proofs.YtaejkbjepbifcaaW.PrintWords Go.Proofs.Ytaejkbjepbifcaa.Plain
set_option linter.unusedVariables false
set_option linter.unusedSimpArgs false
theorem begins_some (a b : ByteArray) : ∃ r, PB.spec_dBegins.f a b = some r := by
  unfold PB.spec_dBegins.f
  by_cases h : (a.size : Int) ≥ (b.size : Int)
  · rw [if_pos h, if_pos (by omega), if_pos h]; exact ⟨_, rfl⟩
  · rw [if_neg h]; exact ⟨_, rfl⟩
theorem half_key (l : List ByteArray) (s : ByteArray) (hl : l.length ≤ 4611686018427387904) : ∀ d i (b : Bool), i + d = l.length → ∃ r, Ev (fun k => PB.spec_Half.l0 k s b l (l.length : Int) (i : Int)) r
  | 0, i, b, h => ⟨_, Ev.step (fun k => by rw [PB.spec_Half.l0]) (evn (by omega) (Ev.now _))⟩
  | d + 1, i, b, h => by
    obtain ⟨rt, ht⟩ := half_key l s hl d (i + 1) true (by omega)
    obtain ⟨rb, hb⟩ := begins_some (rdOf ByteArray.empty l (i : Int)) s
    obtain ⟨r2, h2⟩ := half_key l s hl d (i + 1) rb (by omega)
    have go : ∃ r, Ev (fun k => if b = true then PB.spec_Half.l0 k s true l (l.length : Int) (wrap64 ((i : Int) + 1)) else (PB.spec_dBegins.f (rdOf ByteArray.empty l (i : Int)) s).bind fun t144 => PB.spec_Half.l0 k s t144 l (l.length : Int) (wrap64 ((i : Int) + 1))) r := by
      rw [wrap_up i (by omega), hb]
      by_cases e : b = true
      · exact ⟨rt, evp e ht⟩
      · exact ⟨r2, evn e h2⟩
    obtain ⟨rg, hg⟩ := go
    by_cases e1 : (rdOf ByteArray.empty l (i : Int)).toList = s.toList
    · by_cases e2 : s.toList = []
      · exact ⟨rg, Ev.step (fun k => by rw [PB.spec_Half.l0]) (evp (by omega) (evp (by omega) (evp (by omega) (evp e1 (evp e2 hg)))))⟩
      · exact ⟨false, Ev.step (fun k => by rw [PB.spec_Half.l0]) (evp (by omega) (evp (by omega) (evp (by omega) (evp e1 (evn e2 (Ev.now false))))))⟩
    · exact ⟨rg, Ev.step (fun k => by rw [PB.spec_Half.l0]) (evp (by omega) (evp (by omega) (evp (by omega) (evn e1 hg))))⟩
theorem half_ev (l : List ByteArray) (s : ByteArray) (hl : l.length ≤ 4611686018427387904) : ∃ r, Ev (fun k => PB.spec_Half.f k l s) r := half_key l s hl l.length 0 false (by omega)
theorem found_refl (a : Int) (b : Bool) : PB.laws_sameFound.f a b a b = some true := by
  unfold PB.laws_sameFound.f
  cases b <;> simp
theorem trie_refl (a : PB.S34) (h : Bool) (h2 : a.f2.length ≤ 4611686018427387904) (h3 : a.f3.length ≤ 4611686018427387904) : Ev (fun k => PB.laws_sameTrie.f k a.f0.f0 a.f0.f1 a.f1.f0 a.f1.f1 a.f2 a.f3 a.f0.f0 a.f0.f1 a.f1.f0 a.f1.f1 a.f2 a.f3 h) true := by
  have e2 := same_ev a.f2 h2
  have e3 := same_ev a.f3 h3
  unfold PB.laws_sameTrie.f
  cases h with
  | true =>
    refine evp rfl ?_
    rw [found_refl]
    exact Ev.bind (Ev.now true) (evp rfl (Ev.bind e2 (evp rfl (Ev.bind e3 (Ev.now true)))))
  | false =>
    refine evn (by simp) ?_
    rw [found_refl, found_refl]
    exact Ev.bind (Ev.now true) (evp rfl (Ev.bind (Ev.now true) (evp rfl (Ev.bind e2 (evp rfl (Ev.bind e3 (Ev.now true)))))))
theorem rd_ans (l : List PB.S34) (i : Nat) : PB.rd_T34 l (i : Int) = l.getD i PB.z34 := by unfold PB.rd_T34; rw [Int.toNat_natCast]
theorem tries_key (l : List PB.S34) (ks ts : List ByteArray) (hl : l.length = ts.length) (hk : ks.length ≤ 4611686018427387904) (h : ts.length ≤ 4611686018427387904) (hs : ∀ a ∈ l, a.f2.length ≤ 4611686018427387904 ∧ a.f3.length ≤ 4611686018427387904) : ∀ d i, i + d = l.length → Ev (fun k => PB.laws_sameTries.l0 k l l ks ts (l.length : Int) (i : Int)) true
  | 0, i, hi => Ev.step (fun k => by rw [PB.laws_sameTries.l0]) (evn (by omega) (Ev.now true))
  | d + 1, i, hi => by
    have ih := tries_key l ks ts hl hk h hs d (i + 1) (by omega)
    obtain ⟨rh, hh⟩ := half_ev ks (rdOf ByteArray.empty ts (i : Int)) hk
    have ha := hs _ (getD_mem PB.z34 (show i < l.length by omega))
    have ht := trie_refl (l.getD i PB.z34) rh ha.1 ha.2
    refine Ev.step (fun k => by rw [PB.laws_sameTries.l0]) (evp (by omega) (evp (by omega) (evp (by omega) (evp (by omega) (evp (by omega) ?_)))))
    refine Ev.bind hh ?_
    rw [rd_ans]
    exact Ev.bind ht (evp rfl (by rw [wrap_up i (by omega)]; exact ih))
theorem tries_ev (l : List PB.S34) (ks ts : List ByteArray) (hl : l.length = ts.length) (hk : ks.length ≤ 4611686018427387904) (h : ts.length ≤ 4611686018427387904) (hs : ∀ a ∈ l, a.f2.length ≤ 4611686018427387904 ∧ a.f3.length ≤ 4611686018427387904) : ∃ k, PB.laws_sameTries.f k l l ks ts = some true := by
  have := tries_key l ks ts hl hk h hs l.length 0 (by omega)
  have e : ((l.length : Int) != (ts.length : Int)) = false := by rw [hl]; simp
  have h2 : Ev (fun k => PB.laws_sameTries.f k l l ks ts) true := by
    unfold PB.laws_sameTries.f
    refine evp rfl ?_
    rw [e]
    rw [show ((0 : Nat) : Int) = 0 from rfl] at this
    exact Ev.step (fun k => by rw [PB.laws_sameTries.j0]) (evn (by simp) this)
  exact h2.rounds
theorem ans_small (L : Keys) {ts : List ByteArray} (h : ∀ t ∈ ts, Cln t ∧ t.size ≤ 1000000000) : ∀ a ∈ ts.map (ans L), a.f2.length ≤ 4611686018427387904 ∧ a.f3.length ≤ 4611686018427387904 := by
  intro a ha
  obtain ⟨t, ht, rfl⟩ := List.mem_map.1 ha
  have h1 := hitsS_len L (bs t) (bs t).length
  have h2 := (h t ht).2
  rw [bs_len] at h1
  show (hitsS L (bs t) (bs t).length).length ≤ _ ∧ (hitsS L (bs t) (bs t).length).length ≤ _
  rw [bs_len]
  omega
/-- The answers as a list that is read. -/
def AskL (W w' : World) (L : Keys) (ts : List ByteArray) (e : Ending) : Prop := ∃ (A : Option Addr) (n : Nat) (l : List PB.S34), e = .returned (.tuple #[.slice A l.length n, .int .i64 0]) ∧ Aside0 (l = ts.map (ans L)) ∧ Aside0 (Kd.C PB.k34 w' A l.length l) ∧ Aside0 (l.length ≤ n) ∧ Below W.heap.size W w'
theorem askl_of {W w' : World} {L : Keys} {ts : List ByteArray} {e : Ending} (h : AskE W w' L ts e) : AskL W w' L ts e := by
  obtain ⟨ov, rfl, hR, hB⟩ := h
  obtain ⟨A, n, rfl, l1, g1⟩ := Kd.R_reads hR
  exact ⟨A, n, _, rfl, ⟨rfl⟩, ⟨g1⟩, ⟨l1⟩, hB⟩
theorem plain_any (W : World) (A0 A2 : Option Addr) (c0 c2 k : Nat) (ss ts : List ByteArray) (hr0 : Kd.C Kd.string W A0 ss.length ss) (hc0 : ss.length ≤ c0) (hr2 : Kd.C Kd.string W A2 ts.length ts) (hs : PB.slices_IsSorted_string_string.f k ss = some true) (K : KeysOk ss (ones ss.length)) (hI : InsOk ts) :
    Calls Try.prog 22 #[.slice A0 ss.length c0, .slice A2 ts.length c2] W fun e w' => AskL W w' (keysAll ss (ones ss.length)) ts e :=
  (plain_calls W A0 A2 c0 c2 k ss ts hr0 hc0 hr2 hs K hI).mono (fun _ _ h => askl_of h)
theorem trie_any (W : World) (A0 A1 A2 : Option Addr) (c0 c1 c2 k : Nat) (ss ts : List ByteArray) (ds : List Int) (n : Nat) (hn : n = ds.length) (hr0 : Kd.C Kd.string W A0 ss.length ss) (hc0 : ss.length ≤ c0) (hr1 : Kd.C (Kd.int .i64) W A1 ds.length ds) (hc1 : ds.length ≤ c1) (hr2 : Kd.C Kd.string W A2 ts.length ts) (hs : PB.slices_IsSorted_string_string.f k ss = some true) (K : KeysOk ss ds) (hI : InsOk ts) :
    Calls Try.prog 17 #[.slice A0 ss.length c0, .slice A1 n c1, .slice A2 ts.length c2] W fun e w' => AskL W w' (keysAll ss ds) ts e := by
  subst hn
  exact (trie_calls W A0 A1 A2 c0 c1 c2 k ss ts ds hr0 hc0 hr1 hc1 hr2 hs K hI).mono (fun _ _ h => askl_of h)
end Go.Proofs.Ytaejkbjepbifcaa.Da
namespace Go.Proofs.Ytaejkbjepbifcaa.PB
open Go.RowKit Go.Proofs.YtaejkbjepbifcaaW.PrintWords Go.Proofs.YtaejkbjepbifcaaW.PrintLast Go.Proofs.YtaejkbjepbifcaaW.PrintMore
attribute [local go_sem] max2_int min2_int max_two min_two max_three min_three max_four min_four   -- for this text's walks alone
set_option linter.unusedVariables false
set_option linter.unusedSimpArgs false

/-! ### spec_dSorted: function 32 -/
def spec_dSorted.l0 : Nat → List ByteArray → Int → Option (Bool)
 | 0, _, _ => none
 | k + 1, x0, x3 => if x3 < (x0.length : Int) then (if 0 ≤ (wrap64 (x3 - 1)) then (if (wrap64 (x3 - 1)) < (x0.length : Int) then (if 0 ≤ x3 then (if (Op.bytesLess ((rdOf ByteArray.empty x0 x3).toList) ((rdOf ByteArray.empty x0 (wrap64 (x3 - 1))).toList)) = true then (some false) else (spec_dSorted.l0 k x0 (wrap64 (x3 + 1)))) else (none)) else (none)) else (none)) else (some true)
def spec_dSorted.f (k : Nat) (l0 : List ByteArray) : Option (Bool) := spec_dSorted.l0 k l0 1
theorem spec_dSorted.mono_l : ∀ k, (∀ y0 y1, LeO (spec_dSorted.l0 k y0 y1) (spec_dSorted.l0 (k + 1) y0 y1))
 | 0 => fun _ _ r h => by simp [spec_dSorted.l0] at h
 | k + 1 => by
  have ih0 := spec_dSorted.mono_l k
  ·intro y0 y1
   unfold spec_dSorted.l0
   repeat' first
   | (with_reducible exact ih0 _ _)
   | (with_reducible exact LeO.refl _)
   | (with_reducible exact LeO.none _)
   | (with_reducible refine LeO.ite ?_ ?_)
   | (with_reducible refine LeO.bind ?_ (fun _ => ?_))
   | exact ih0 _ _
   | exact LeO.none _
   | refine LeO.ite ?_ ?_
   | refine LeO.bind ?_ (fun _ => ?_)
theorem spec_dSorted.mono : ∀ a0 k, LeO (spec_dSorted.f k a0) (spec_dSorted.f (k + 1) a0) := by
 intro a0 k
 have ih0 := spec_dSorted.mono_l k
 unfold spec_dSorted.f
 repeat' first
   | (with_reducible exact ih0 _ _)
   | (with_reducible exact LeO.refl _)
   | (with_reducible exact LeO.none _)
   | (with_reducible refine LeO.ite ?_ ?_)
   | (with_reducible refine LeO.bind ?_ (fun _ => ?_))
   | exact ih0 _ _
   | exact LeO.none _
   | refine LeO.ite ?_ ?_
   | refine LeO.bind ?_ (fun _ => ?_)
set_option maxHeartbeats 8000000 in
set_option maxRecDepth 100000 in
theorem spec_dSorted.calls (k : Nat) (A0 : Option Addr) (c0 : Nat) (l0 : List ByteArray) (r : Bool) (w : World) (hr0 : Kd.C Kd.string w A0 l0.length l0) (hc0 : l0.length ≤ c0) (h : spec_dSorted.f k l0 = some r) :
  Calls Try.prog 32 #[.slice A0 l0.length c0] w fun e w' => e = .returned (.bool r) ∧ Drawn0 w w' := by
 have HR0 := Aside0.mk hr0
 have H' := Aside0.mk h
 have hmx : l0.length ≤ 9223372036854775807 := hr0.2.1
 clear hr0 h hc0
 go_enter Try.func32, Try.ntmps32
 go_wp2
 go_loopg [3] k (fun kq v3 w' => ∃ (i : Nat), v3 = .int .i64 (i : Int) ∧ Aside0 (1 ≤ i) ∧ Aside0 (spec_dSorted.l0 kq l0 (i : Int) = some r) ∧ Aside0 (kq ≤ k) ∧ Drawn0 w w')
 case atStart => exact ⟨1, rfl, ⟨Nat.le_refl _⟩, H', ⟨Nat.le_refl _⟩, Drawn0.refl _⟩
 case round =>
  clear H'
  obtain ⟨i, rfl, H1, HA, HK1, ⟨m1, rfl⟩⟩ := hrel
  cases gk with
  | zero => exact absurd HA.out (by simp [spec_dSorted.l0])
  | succ k1 =>
   have h1 := H1.out
   have H := HA.out
   clear HA
   simp only [spec_dSorted.l0] at H
   by_cases hil : i < l0.length
   ·have hiz : (i : Int) < (l0.length : Int) := by omega
    have ew : wrap64 ((i : Int) - 1) = ((i - 1 : Nat) : Int) := by unfold wrap64; omega
    have ew2 : wrap64 ((i : Int) + 1) = ((i + 1 : Nat) : Int) := by unfold wrap64; omega
    obtain ⟨p, hp⟩ : ∃ p : Nat, i - 1 = p := ⟨_, rfl⟩
    rw [hp] at ew
    rw [if_pos hiz, ew, ew2, if_pos (by omega), if_pos (by omega), if_pos (by omega)] at H
    have hw : IntKind.i64.wrap ((i : Int) - 1) = (p : Int) := (i64_w _).trans ew
    obtain ⟨ad, e1, c1⟩ := Kd.at_string HR0.out (p : Int) (by omega) (by omega)
    obtain ⟨ad2, e2, c2⟩ := Kd.at_string HR0.out (i : Int) (by omega) hiz
    cases e1
    cases e2
    rw [Int.toNat_natCast] at c1 c2
    have hpz : (p : Int) < (l0.length : Int) := by omega
    have hp0 : 0 ≤ (p : Int) := by omega
    clear ew
    obtain ⟨sa, hsa⟩ : ∃ s, rdOf ByteArray.empty l0 (p : Int) = s := ⟨_, rfl⟩
    obtain ⟨sb, hsb⟩ : ∃ s, rdOf ByteArray.empty l0 (i : Int) = s := ⟨_, rfl⟩
    rw [hsa] at c1 H
    rw [hsb] at c2 H
    have HP := Aside0.mk hp
    have EW2 := Aside0.mk ew2
    clear hsa hsb hp ew2
    by_cases hb : Op.bytesLess sb.toList sa.toList = true
    ·rw [if_pos hb] at H
     obtain rfl := Option.some.inj H
     clear H
     have hlt : sb.toList < sa.toList := by rw [Own.bl_eq] at hb; exact of_decide_eq_true hb
     have hb1 : Op.bytesLess sa.toList sb.toList = false := by rw [Own.bl_eq, decide_eq_false_iff_not]; exact fun h => absurd (List.lt_trans h hlt) (List.lt_irrefl _)
     have hb2 : (sa.toList == sb.toList) = false := by rw [beq_eq_false_iff_ne]; intro h; rw [h] at hlt; exact List.lt_irrefl _ hlt
     clear hlt
     go_upto_region 4 with fail
     go_quiet (fail)
     clear hw
     go_wp2
     go_ret
     exact ⟨rfl, by repeat (first | exact Drawn0.refl _ | apply Drawn0.step)⟩
    ·rw [if_neg hb] at H
     have hbf : Op.bytesLess sb.toList sa.toList = false := by simpa using hb
     have HN := Aside0.mk H
     have hor : Op.bytesLess sa.toList sb.toList = true ∨ sa.toList = sb.toList := by
      rw [Own.bl_eq] at hb ⊢
      rw [decide_eq_true_iff] at hb ⊢
      rcases List.le_iff_lt_or_eq.1 (List.not_lt.1 hb) with h | h
      ·exact Or.inl h
      ·exact Or.inr h
     clear H hb
     rcases hor with hb1 | hb2
     all_goals
      (try have hb3 : (sa.toList == sb.toList) = true := by rw [hb2]; simp)
      (try clear hb2)
      go_upto_region 4 with fail
      go_quiet (fail)
      clear hw
      go_wp2
      go_roundg k1
      case measure => have := HK1.out; omega
      case rel => exact ⟨i + 1, congrArg (Value.int .i64) (by omega), ⟨by omega⟩, HN, ⟨by have := HK1.out; omega⟩, by repeat (first | exact Drawn0.refl _ | apply Drawn0.step)⟩
   ·have hiz : ¬ (i : Int) < (l0.length : Int) := by omega
    rw [if_neg hiz] at H
    obtain rfl := Option.some.inj H
    clear H
    go_wp2
    go_ret
    exact ⟨rfl, by repeat (first | exact Drawn0.refl _ | apply Drawn0.step)⟩

/-! ### spec_dHas: function 62 -/
def spec_dHas.l0 : Nat → ByteArray → Int → Int → Option (Bool)
 | 0, _, _, _ => none
 | k + 1, x0, x1, x5 => if x5 < (x0.size : Int) then (if 0 ≤ x5 then (if (bt x0 x5) = x1 then (some true) else (spec_dHas.l0 k x0 x1 (wrap64 (x5 + 1)))) else (none)) else (some false)
def spec_dHas.f (k : Nat) (a0 : ByteArray) (a1 : Int) : Option (Bool) := spec_dHas.l0 k a0 a1 0
theorem spec_dHas.mono_l : ∀ k, (∀ y0 y1 y2, LeO (spec_dHas.l0 k y0 y1 y2) (spec_dHas.l0 (k + 1) y0 y1 y2))
 | 0 => fun _ _ _ r h => by simp [spec_dHas.l0] at h
 | k + 1 => by
  have ih0 := spec_dHas.mono_l k
  ·intro y0 y1 y2
   unfold spec_dHas.l0
   repeat' first
   | (with_reducible exact ih0 _ _ _)
   | (with_reducible exact LeO.refl _)
   | (with_reducible exact LeO.none _)
   | (with_reducible refine LeO.ite ?_ ?_)
   | (with_reducible refine LeO.bind ?_ (fun _ => ?_))
   | exact ih0 _ _ _
   | exact LeO.none _
   | refine LeO.ite ?_ ?_
   | refine LeO.bind ?_ (fun _ => ?_)
theorem spec_dHas.mono : ∀ a0 a1 k, LeO (spec_dHas.f k a0 a1) (spec_dHas.f (k + 1) a0 a1) := by
 intro a0 a1 k
 have ih0 := spec_dHas.mono_l k
 unfold spec_dHas.f
 repeat' first
   | (with_reducible exact ih0 _ _ _)
   | (with_reducible exact LeO.refl _)
   | (with_reducible exact LeO.none _)
   | (with_reducible refine LeO.ite ?_ ?_)
   | (with_reducible refine LeO.bind ?_ (fun _ => ?_))
   | exact ih0 _ _ _
   | exact LeO.none _
   | refine LeO.ite ?_ ?_
   | refine LeO.bind ?_ (fun _ => ?_)
set_option maxHeartbeats 8000000 in
set_option maxRecDepth 100000 in
theorem spec_dHas.calls (k : Nat) (a0 : ByteArray) (a1 : Int) (r : Bool) (w : World) (h : spec_dHas.f k a0 a1 = some r) :
  Calls Try.prog 62 #[.string a0, .int .u8 a1] w fun e w' => e = .returned (.bool r) ∧ Drawn0 w w' := by
 have H : (spec_dHas.l0 k a0 a1 0) = some r := h
 clear h
 have H' := Aside0.mk H
 clear H
 go_enter Try.func62, Try.ntmps62
 go_wp2
 go_loopg [5] k (fun kq v5 w' => ∃ (x5_1 : Int), v5 = .int .i64 x5_1 ∧ Aside0 (spec_dHas.l0 kq a0 a1 x5_1 = some r) ∧ Aside0 (kq ≤ k) ∧ Drawn0 w w')
 case atStart => exact ⟨(0), (by first | rfl | (simp; done) | (simp [*]; done)), H', ⟨Nat.le_refl _⟩, by repeat (first | exact Drawn0.refl _ | apply Drawn0.step)⟩
 case round =>
  clear H'
  try clear p2
  obtain ⟨x5_1, rfl, HA, HK1, ⟨m1, rfl⟩⟩ := hrel
  cases gk with
  | zero => exact absurd HA.out (by simp [spec_dHas.l0])
  | succ k1 =>
   have H := HA.out
   clear HA
   simp only [spec_dHas.l0] at H
   by_cases c3 : x5_1 < (a0.size : Int)
   ·rw [if_pos c3] at H
    have c3b0 : decide (x5_1 < (a0.size : Int)) = true := decide_eq_true c3
    clear c3
    by_cases c4 : 0 ≤ x5_1
    ·rw [if_pos c4] at H
     have c4b0 : decide (0 ≤ x5_1) = true := decide_eq_true c4
     clear c4
     by_cases c6 : (bt a0 x5_1) = a1
     ·rw [if_pos c6] at H
      have c6b0 : ((bt a0 x5_1) == a1) = true := beq_iff_eq.mpr c6
      have c6b1 : ((bt a0 x5_1) != a1) = false := bne_eq_false_iff_eq.mpr c6
      clear c6
      obtain rfl := Option.some.inj H
      have p5 : 0 ≤ (x5_1 : Int) := of_decide_eq_true (by first | (with_reducible assumption) | assumption)
      have q5 : x5_1 < (a0.size : Int) := of_decide_eq_true (by first | (with_reducible assumption) | assumption)
      have hx5 := bt_at a0 x5_1
      replace p5 := eq_true p5
      replace q5 := eq_true q5
      go_wp2
      go_ret
      exact ⟨by first | rfl | (simp; done) | (simp [*]; done) | (simp [Own.isEmpty_bne]; done), by repeat (first | exact Drawn0.refl _ | apply Drawn0.step)⟩
     ·rw [if_neg c6] at H
      have c6b0 : ((bt a0 x5_1) == a1) = false := beq_eq_false_iff_ne.mpr c6
      have c6b1 : ((bt a0 x5_1) != a1) = true := bne_iff_ne.mpr c6
      have H' := Aside0.mk H
      clear H
      have p5 : 0 ≤ (x5_1 : Int) := of_decide_eq_true (by first | (with_reducible assumption) | assumption)
      have q5 : x5_1 < (a0.size : Int) := of_decide_eq_true (by first | (with_reducible assumption) | assumption)
      have hx5 := bt_at a0 x5_1
      replace p5 := eq_true p5
      replace q5 := eq_true q5
      go_wp2
      go_roundg k1
      case measure => have := HK1.out; omega
      case rel => exact ⟨(wrap64 (x5_1 + 1)), (by first | rfl | (simp; done) | (simp [*]; done)), H', ⟨by have := HK1.out; omega⟩, by repeat (first | exact Drawn0.refl _ | apply Drawn0.step)⟩
    ·rw [if_neg c4] at H
     exact absurd H (by simp)
   ·rw [if_neg c3] at H
    have c3b0 : decide (x5_1 < (a0.size : Int)) = false := decide_eq_false c3
    clear c3
    obtain rfl := Option.some.inj H
    go_wp2
    go_ret
    exact ⟨by first | rfl | (simp; done) | (simp [*]; done) | (simp [Own.isEmpty_bne]; done), by repeat (first | exact Drawn0.refl _ | apply Drawn0.step)⟩

/-! ### spec_dAnyHas: function 52 -/
def spec_dAnyHas.l0 : Nat → Int → List ByteArray → Int → Int → Option (Bool)
 | 0, _, _, _, _ => none
 | k + 1, x1, x7, x8, x9 => if x9 < x8 then (if 0 ≤ x9 then (if x9 < (x7.length : Int) then ((spec_dHas.f k (rdOf ByteArray.empty x7 x9) x1).bind fun t154 => (if t154 = true then (some true) else (spec_dAnyHas.l0 k x1 x7 x8 (wrap64 (x9 + 1))))) else (none)) else (none)) else (some false)
def spec_dAnyHas.f (k : Nat) (l0 : List ByteArray) (a1 : Int) : Option (Bool) := spec_dAnyHas.l0 k a1 l0 (l0.length : Int) 0
theorem spec_dAnyHas.mono_l : ∀ k, (∀ y0 y1 y2 y3, LeO (spec_dAnyHas.l0 k y0 y1 y2 y3) (spec_dAnyHas.l0 (k + 1) y0 y1 y2 y3))
 | 0 => fun _ _ _ _ r h => by simp [spec_dAnyHas.l0] at h
 | k + 1 => by
  have ih0 := spec_dAnyHas.mono_l k
  ·intro y0 y1 y2 y3
   unfold spec_dAnyHas.l0
   repeat' first
   | (with_reducible exact ih0 _ _ _ _)
   | (with_reducible exact spec_dHas.mono _ _ _)
   | (with_reducible exact LeO.refl _)
   | (with_reducible exact LeO.none _)
   | (with_reducible refine LeO.ite ?_ ?_)
   | (with_reducible refine LeO.bind ?_ (fun _ => ?_))
   | exact ih0 _ _ _ _
   | exact spec_dHas.mono _ _ _
   | exact LeO.none _
   | refine LeO.ite ?_ ?_
   | refine LeO.bind ?_ (fun _ => ?_)
theorem spec_dAnyHas.mono : ∀ a0 a1 k, LeO (spec_dAnyHas.f k a0 a1) (spec_dAnyHas.f (k + 1) a0 a1) := by
 intro a0 a1 k
 have ih0 := spec_dAnyHas.mono_l k
 unfold spec_dAnyHas.f
 repeat' first
   | (with_reducible exact ih0 _ _ _ _)
   | (with_reducible exact spec_dHas.mono _ _ _)
   | (with_reducible exact LeO.refl _)
   | (with_reducible exact LeO.none _)
   | (with_reducible refine LeO.ite ?_ ?_)
   | (with_reducible refine LeO.bind ?_ (fun _ => ?_))
   | exact ih0 _ _ _ _
   | exact spec_dHas.mono _ _ _
   | exact LeO.none _
   | refine LeO.ite ?_ ?_
   | refine LeO.bind ?_ (fun _ => ?_)
set_option maxHeartbeats 8000000 in
set_option maxRecDepth 100000 in
theorem spec_dAnyHas.calls (k : Nat) (A0 : Option Addr) (c0 : Nat) (l0 : List ByteArray) (a1 : Int) (r : Bool) (w : World) (hr0 : Kd.C Kd.string w A0 l0.length l0) (hc0 : l0.length ≤ c0) (h : spec_dAnyHas.f k l0 a1 = some r) :
  Calls Try.prog 52 #[.slice A0 l0.length c0, .int .u8 a1] w fun e w' => e = .returned (.bool r) ∧ Drawn0 w w' := by
 have HR0 := Aside0.mk hr0
 have HC0 := Aside0.mk hc0
 clear hr0 hc0
 have H : (spec_dAnyHas.l0 k a1 l0 (l0.length : Int) 0) = some r := h
 clear h
 have H' := Aside0.mk H
 clear H
 go_enter Try.func52, Try.ntmps52
 go_wp2
 go_loopg [9] k (fun kq v9 w' => ∃ (x9_1 : Int), v9 = .int .i64 x9_1 ∧ Aside0 (spec_dAnyHas.l0 kq a1 l0 (l0.length : Int) x9_1 = some r) ∧ Aside0 (kq ≤ k) ∧ Drawn0 w w')
 case atStart => exact ⟨(0), (by first | rfl | (simp; done) | (simp [*]; done)), H', ⟨Nat.le_refl _⟩, by repeat (first | exact Drawn0.refl _ | apply Drawn0.step)⟩
 case round =>
  clear H'
  try clear p2
  obtain ⟨x9_1, rfl, HA, HK1, ⟨m1, rfl⟩⟩ := hrel
  cases gk with
  | zero => exact absurd HA.out (by simp [spec_dAnyHas.l0])
  | succ k1 =>
   have H := HA.out
   clear HA
   simp only [spec_dAnyHas.l0] at H
   by_cases c3 : x9_1 < (l0.length : Int)
   ·rw [if_pos c3] at H
    have c3b0 : decide (x9_1 < (l0.length : Int)) = true := decide_eq_true c3
    clear c3
    by_cases c4 : 0 ≤ x9_1
    ·rw [if_pos c4] at H
     have c4b0 : decide (0 ≤ x9_1) = true := decide_eq_true c4
     clear c4
     by_cases c5 : x9_1 < (l0.length : Int)
     ·rw [if_pos c5] at H
      have c5b0 : decide (x9_1 < (l0.length : Int)) = true := decide_eq_true c5
      clear c5
      replace H := Option.bind_eq_some_iff.mp H
      obtain ⟨t154, A60, H⟩ := H
      replace H : (if t154 = true then (some true) else (spec_dAnyHas.l0 k1 a1 l0 (l0.length : Int) (wrap64 (x9_1 + 1)))) = some r := H
      have A6 := Aside0.mk A60
      clear A60
      by_cases c7 : t154 = true
      ·subst c7
       have H1 : (some true) = some r := by rw [if_pos rfl] at H; exact H
       clear H
       have H := H1
       clear H1
       obtain rfl := Option.some.inj H
       have p153 : 0 ≤ (x9_1 : Int) := of_decide_eq_true (by first | (with_reducible assumption) | assumption)
       have q153 : x9_1 < (l0.length : Int) := of_decide_eq_true (by first | (with_reducible assumption) | assumption)
       obtain ⟨ad153, e153, hx153_0⟩ := Kd.at_string HR0.out x9_1 p153 q153
       cases e153
       replace p153 := eq_true p153
       replace q153 := eq_true q153
       go_wp2_with (first | ((with_reducible refine gate_callee (f := 62) rfl ?_); refine goesL_ (some 15) rfl rfl Try.func62 (by kernel_rfl) rfl #[.string (rdOf ByteArray.empty l0 x9_1), .int .u8 a1] rfl (by (try simp only [List.map_toArray, List.map_cons, List.map_nil]); first | done | rfl | (simp only [List.length_drop, List.length_take]; rfl)) ?_; (with_reducible refine (spec_dHas.calls k1 (rdOf ByteArray.empty l0 x9_1) a1 true _ A6.out).mono ?_); rintro e w' ⟨rfl, ⟨nd, rfl⟩⟩; refine ⟨_, rfl, ?_⟩))
       go_ret
       exact ⟨by first | rfl | (simp; done) | (simp [*]; done) | (simp [Own.isEmpty_bne]; done), by repeat (first | exact Drawn0.refl _ | apply Drawn0.step)⟩
      ·replace c7 := Bool.eq_false_iff.mpr c7
       subst c7
       have H1 : (spec_dAnyHas.l0 k1 a1 l0 (l0.length : Int) (wrap64 (x9_1 + 1))) = some r := by rw [if_neg (show ¬ (false = true) by decide)] at H; exact H
       clear H
       have H := H1
       clear H1
       have H' := Aside0.mk H
       clear H
       have p153 : 0 ≤ (x9_1 : Int) := of_decide_eq_true (by first | (with_reducible assumption) | assumption)
       have q153 : x9_1 < (l0.length : Int) := of_decide_eq_true (by first | (with_reducible assumption) | assumption)
       obtain ⟨ad153, e153, hx153_0⟩ := Kd.at_string HR0.out x9_1 p153 q153
       cases e153
       replace p153 := eq_true p153
       replace q153 := eq_true q153
       go_wp2_with (first | ((with_reducible refine gate_callee (f := 62) rfl ?_); refine goesL_ (some 15) rfl rfl Try.func62 (by kernel_rfl) rfl #[.string (rdOf ByteArray.empty l0 x9_1), .int .u8 a1] rfl (by (try simp only [List.map_toArray, List.map_cons, List.map_nil]); first | done | rfl | (simp only [List.length_drop, List.length_take]; rfl)) ?_; (with_reducible refine (spec_dHas.calls k1 (rdOf ByteArray.empty l0 x9_1) a1 false _ A6.out).mono ?_); rintro e w' ⟨rfl, ⟨nd, rfl⟩⟩; refine ⟨_, rfl, ?_⟩))
       go_roundg k1
       case measure => have := HK1.out; omega
       case rel => exact ⟨(wrap64 (x9_1 + 1)), (by first | rfl | (simp; done) | (simp [*]; done)), H', ⟨by have := HK1.out; omega⟩, by repeat (first | exact Drawn0.refl _ | apply Drawn0.step)⟩
     ·rw [if_neg c5] at H
      exact absurd H (by simp)
    ·rw [if_neg c4] at H
     exact absurd H (by simp)
   ·rw [if_neg c3] at H
    have c3b0 : decide (x9_1 < (l0.length : Int)) = false := decide_eq_false c3
    clear c3
    obtain rfl := Option.some.inj H
    go_wp2
    go_ret
    exact ⟨by first | rfl | (simp; done) | (simp [*]; done) | (simp [Own.isEmpty_bne]; done), by repeat (first | exact Drawn0.refl _ | apply Drawn0.step)⟩

/-! ### spec_dGet: function 53 -/
def spec_dGet.l0 : Nat → List ByteArray → List Int → ByteArray → Bool → Int → Bool → Int → Int → Option (Int × Bool)
 | 0, _, _, _, _, _, _, _, _ => none
 | k + 1, x0, x1, x2, x8, x9, x10, x16, x17 => if x17 < x16 then (if 0 ≤ x17 then (if x17 < (x0.length : Int) then (if (rdOf ByteArray.empty x0 x17).toList = x2.toList then (if x2.toList = ([] : List UInt8) then (spec_dGet.l0 k x0 x1 x2 x8 x9 x10 x16 (wrap64 (x17 + 1))) else (if x8 = true then (if x10 = true then (spec_dGet.l0 k x0 x1 x2 true x17 x10 x16 (wrap64 (x17 + 1))) else (spec_dGet.l0 k x0 x1 x2 x8 x9 x10 x16 (wrap64 (x17 + 1)))) else (spec_dGet.l0 k x0 x1 x2 true x17 x10 x16 (wrap64 (x17 + 1))))) else (spec_dGet.l0 k x0 x1 x2 x8 x9 x10 x16 (wrap64 (x17 + 1)))) else (none)) else (none)) else (if x8 = true then (if 0 ≤ x9 then (if x9 < (x1.length : Int) then (some (rd x1 x9, true)) else (none)) else (none)) else (some (0, false)))
def spec_dGet.f (k : Nat) (l0 : List ByteArray) (l1 : List Int) (a2 : ByteArray) : Option (Int × Bool) := (spec_dSorted.f k l0).bind fun t155 => (spec_dGet.l0 k l0 l1 a2 false 0 (!t155) (l0.length : Int) 0)
theorem spec_dGet.mono_l : ∀ k, (∀ y0 y1 y2 y3 y4 y5 y6 y7, LeO (spec_dGet.l0 k y0 y1 y2 y3 y4 y5 y6 y7) (spec_dGet.l0 (k + 1) y0 y1 y2 y3 y4 y5 y6 y7))
 | 0 => fun _ _ _ _ _ _ _ _ r h => by simp [spec_dGet.l0] at h
 | k + 1 => by
  have ih0 := spec_dGet.mono_l k
  ·intro y0 y1 y2 y3 y4 y5 y6 y7
   unfold spec_dGet.l0
   repeat' first
   | (with_reducible exact ih0 _ _ _ _ _ _ _ _)
   | (with_reducible exact spec_dSorted.mono _ _)
   | (with_reducible exact LeO.refl _)
   | (with_reducible exact LeO.none _)
   | (with_reducible refine LeO.ite ?_ ?_)
   | (with_reducible refine LeO.bind ?_ (fun _ => ?_))
   | exact ih0 _ _ _ _ _ _ _ _
   | exact spec_dSorted.mono _ _
   | exact LeO.none _
   | refine LeO.ite ?_ ?_
   | refine LeO.bind ?_ (fun _ => ?_)
theorem spec_dGet.mono : ∀ a0 a1 a2 k, LeO (spec_dGet.f k a0 a1 a2) (spec_dGet.f (k + 1) a0 a1 a2) := by
 intro a0 a1 a2 k
 have ih0 := spec_dGet.mono_l k
 unfold spec_dGet.f
 repeat' first
   | (with_reducible exact ih0 _ _ _ _ _ _ _ _)
   | (with_reducible exact spec_dSorted.mono _ _)
   | (with_reducible exact LeO.refl _)
   | (with_reducible exact LeO.none _)
   | (with_reducible refine LeO.ite ?_ ?_)
   | (with_reducible refine LeO.bind ?_ (fun _ => ?_))
   | exact ih0 _ _ _ _ _ _ _ _
   | exact spec_dSorted.mono _ _
   | exact LeO.none _
   | refine LeO.ite ?_ ?_
   | refine LeO.bind ?_ (fun _ => ?_)
set_option maxHeartbeats 8000000 in
set_option maxRecDepth 100000 in
theorem spec_dGet.calls (k : Nat) (A0 : Option Addr) (c0 : Nat) (l0 : List ByteArray) (A1 : Option Addr) (c1 : Nat) (l1 : List Int) (a2 : ByteArray) (r1 : Int) (r2 : Bool) (w : World) (hr0 : Kd.C Kd.string w A0 l0.length l0) (hc0 : l0.length ≤ c0) (hr1 : Kd.C (Kd.int .i64) w A1 l1.length l1) (hc1 : l1.length ≤ c1) (h : spec_dGet.f k l0 l1 a2 = some (r1, r2)) :
  Calls Try.prog 53 #[.slice A0 l0.length c0, .slice A1 l1.length c1, .string a2] w fun e w' => e = .returned (.tuple #[.int .i64 r1, .bool r2]) ∧ Drawn0 w w' := by
 have HR0 := Aside0.mk hr0
 have HC0 := Aside0.mk hc0
 clear hr0 hc0
 have HR1 := Aside0.mk hr1
 have HC1 := Aside0.mk hc1
 clear hr1 hc1
 have H : ((spec_dSorted.f k l0).bind fun t155 => (spec_dGet.l0 k l0 l1 a2 false 0 (!t155) (l0.length : Int) 0)) = some (r1, r2) := h
 clear h
 replace H := Option.bind_eq_some_iff.mp H
 obtain ⟨t155, A40, H⟩ := H
 replace H : (spec_dGet.l0 k l0 l1 a2 false 0 (!t155) (l0.length : Int) 0) = some (r1, r2) := H
 have A4 := Aside0.mk A40
 clear A40
 have H' := Aside0.mk H
 clear H
 go_enter Try.func53, Try.ntmps53
 go_wp2_with (first | ((with_reducible refine gate_callee (f := 32) rfl ?_); refine goesL_ (some 13) rfl rfl Try.func32 (by kernel_rfl) rfl #[.slice A0 l0.length c0] rfl (by (try simp only [List.map_toArray, List.map_cons, List.map_nil]); first | done | rfl | (simp only [List.length_drop, List.length_take]; rfl)) ?_; (with_reducible refine (spec_dSorted.calls k _ _ l0 t155 _ ?side1 ?side2 A4.out).mono ?_); (case side1 => repeat (first | exact HR0.out | (with_reducible refine Kd.C_alloc ?_ _) | (with_reducible refine Kd.C_drewN ?_ _) | (with_reducible refine Kd.C_drew ?_))); (case side2 => exact HC0.out); rintro e w' ⟨rfl, ⟨nd, rfl⟩⟩; refine ⟨_, rfl, ?_⟩))
 go_loopg [8, 9, 17] k (fun kq v8 v9 v17 w' => ∃ (x8_1 : Bool) (x9_1 : Int) (x17_1 : Int), v8 = .bool x8_1 ∧ v9 = .int .i64 x9_1 ∧ v17 = .int .i64 x17_1 ∧ Aside0 (spec_dGet.l0 kq l0 l1 a2 x8_1 x9_1 (!t155) (l0.length : Int) x17_1 = some (r1, r2)) ∧ Aside0 (kq ≤ k) ∧ Drawn0 w w')
 case atStart => exact ⟨(false), (0), (0), (by first | rfl | (simp; done) | (simp [*]; done)), (by first | rfl | (simp; done) | (simp [*]; done)), (by first | rfl | (simp; done) | (simp [*]; done)), H', ⟨Nat.le_refl _⟩, by repeat (first | exact Drawn0.refl _ | apply Drawn0.step)⟩
 case round =>
  clear H'
  try clear c1
  try clear p2
  try clear c3
  obtain ⟨x8_1, x9_1, x17_1, rfl, rfl, rfl, HA, HK1, ⟨m1, rfl⟩⟩ := hrel
  cases gk with
  | zero => exact absurd HA.out (by simp [spec_dGet.l0])
  | succ k1 =>
   have H := HA.out
   clear HA
   simp only [spec_dGet.l0] at H
   by_cases c5 : x17_1 < (l0.length : Int)
   ·rw [if_pos c5] at H
    have c5b0 : decide (x17_1 < (l0.length : Int)) = true := decide_eq_true c5
    clear c5
    by_cases c6 : 0 ≤ x17_1
    ·rw [if_pos c6] at H
     have c6b0 : decide (0 ≤ x17_1) = true := decide_eq_true c6
     clear c6
     by_cases c7 : x17_1 < (l0.length : Int)
     ·rw [if_pos c7] at H
      have c7b0 : decide (x17_1 < (l0.length : Int)) = true := decide_eq_true c7
      clear c7
      by_cases c8 : (rdOf ByteArray.empty l0 x17_1).toList = a2.toList
      ·rw [if_pos c8] at H
       have c8b0 : ((rdOf ByteArray.empty l0 x17_1).toList == a2.toList) = true := beq_iff_eq.mpr c8
       have c8b1 : ((rdOf ByteArray.empty l0 x17_1).toList != a2.toList) = false := bne_eq_false_iff_eq.mpr c8
       clear c8
       by_cases c9 : a2.toList = ([] : List UInt8)
       ·rw [if_pos c9] at H
        have c9b0 : (a2.toList == ([] : List UInt8)) = true := beq_iff_eq.mpr c9
        have c9b1 : (a2.toList != ([] : List UInt8)) = false := bne_eq_false_iff_eq.mpr c9
        clear c9
        have H' := Aside0.mk H
        clear H
        have p156 : 0 ≤ (x17_1 : Int) := of_decide_eq_true (by first | (with_reducible assumption) | assumption)
        have q156 : x17_1 < (l0.length : Int) := of_decide_eq_true (by first | (with_reducible assumption) | assumption)
        obtain ⟨ad156, e156, hx156_0⟩ := Kd.at_string HR0.out x17_1 p156 q156
        cases e156
        replace p156 := eq_true p156
        replace q156 := eq_true q156
        go_wp2
        go_roundg k1
        case measure => have := HK1.out; omega
        case rel => exact ⟨(x8_1), (x9_1), (wrap64 (x17_1 + 1)), (by first | rfl | (simp; done) | (simp [*]; done)), (by first | rfl | (simp; done) | (simp [*]; done)), (by first | rfl | (simp; done) | (simp [*]; done)), H', ⟨by have := HK1.out; omega⟩, by repeat (first | exact Drawn0.refl _ | apply Drawn0.step)⟩
       ·rw [if_neg c9] at H
        have c9b0 : (a2.toList == ([] : List UInt8)) = false := beq_eq_false_iff_ne.mpr c9
        have c9b1 : (a2.toList != ([] : List UInt8)) = true := bne_iff_ne.mpr c9
        by_cases c10 : x8_1 = true
        ·subst c10
         have H1 : (if (!t155) = true then (spec_dGet.l0 k1 l0 l1 a2 true x17_1 (!t155) (l0.length : Int) (wrap64 (x17_1 + 1))) else (spec_dGet.l0 k1 l0 l1 a2 true x9_1 (!t155) (l0.length : Int) (wrap64 (x17_1 + 1)))) = some (r1, r2) := by rw [if_pos rfl] at H; exact H
         clear H
         have H := H1
         clear H1
         by_cases c11 : (!t155) = true
         ·rw [if_pos c11] at H
          have c11b0 : (!t155) = true := c11
          clear c11
          have H' := Aside0.mk H
          clear H
          have p156 : 0 ≤ (x17_1 : Int) := of_decide_eq_true (by first | (with_reducible assumption) | assumption)
          have q156 : x17_1 < (l0.length : Int) := of_decide_eq_true (by first | (with_reducible assumption) | assumption)
          obtain ⟨ad156, e156, hx156_0⟩ := Kd.at_string HR0.out x17_1 p156 q156
          cases e156
          replace p156 := eq_true p156
          replace q156 := eq_true q156
          go_wp2
          go_roundg k1
          case measure => have := HK1.out; omega
          case rel => exact ⟨(true), (x17_1), (wrap64 (x17_1 + 1)), (by first | rfl | (simp; done) | (simp [*]; done)), (by first | rfl | (simp; done) | (simp [*]; done)), (by first | rfl | (simp; done) | (simp [*]; done)), H', ⟨by have := HK1.out; omega⟩, by repeat (first | exact Drawn0.refl _ | apply Drawn0.step)⟩
         ·rw [if_neg c11] at H
          have c11b0 : (!t155) = false := by simpa using c11
          clear c11
          have H' := Aside0.mk H
          clear H
          have p156 : 0 ≤ (x17_1 : Int) := of_decide_eq_true (by first | (with_reducible assumption) | assumption)
          have q156 : x17_1 < (l0.length : Int) := of_decide_eq_true (by first | (with_reducible assumption) | assumption)
          obtain ⟨ad156, e156, hx156_0⟩ := Kd.at_string HR0.out x17_1 p156 q156
          cases e156
          replace p156 := eq_true p156
          replace q156 := eq_true q156
          go_wp2
          go_roundg k1
          case measure => have := HK1.out; omega
          case rel => exact ⟨(true), (x9_1), (wrap64 (x17_1 + 1)), (by first | rfl | (simp; done) | (simp [*]; done)), (by first | rfl | (simp; done) | (simp [*]; done)), (by first | rfl | (simp; done) | (simp [*]; done)), H', ⟨by have := HK1.out; omega⟩, by repeat (first | exact Drawn0.refl _ | apply Drawn0.step)⟩
        ·replace c10 := Bool.eq_false_iff.mpr c10
         subst c10
         have H1 : (spec_dGet.l0 k1 l0 l1 a2 true x17_1 (!t155) (l0.length : Int) (wrap64 (x17_1 + 1))) = some (r1, r2) := by rw [if_neg (show ¬ (false = true) by decide)] at H; exact H
         clear H
         have H := H1
         clear H1
         have H' := Aside0.mk H
         clear H
         have p156 : 0 ≤ (x17_1 : Int) := of_decide_eq_true (by first | (with_reducible assumption) | assumption)
         have q156 : x17_1 < (l0.length : Int) := of_decide_eq_true (by first | (with_reducible assumption) | assumption)
         obtain ⟨ad156, e156, hx156_0⟩ := Kd.at_string HR0.out x17_1 p156 q156
         cases e156
         replace p156 := eq_true p156
         replace q156 := eq_true q156
         go_wp2
         go_roundg k1
         case measure => have := HK1.out; omega
         case rel => exact ⟨(true), (x17_1), (wrap64 (x17_1 + 1)), (by first | rfl | (simp; done) | (simp [*]; done)), (by first | rfl | (simp; done) | (simp [*]; done)), (by first | rfl | (simp; done) | (simp [*]; done)), H', ⟨by have := HK1.out; omega⟩, by repeat (first | exact Drawn0.refl _ | apply Drawn0.step)⟩
      ·rw [if_neg c8] at H
       have c8b0 : ((rdOf ByteArray.empty l0 x17_1).toList == a2.toList) = false := beq_eq_false_iff_ne.mpr c8
       have c8b1 : ((rdOf ByteArray.empty l0 x17_1).toList != a2.toList) = true := bne_iff_ne.mpr c8
       have H' := Aside0.mk H
       clear H
       have p156 : 0 ≤ (x17_1 : Int) := of_decide_eq_true (by first | (with_reducible assumption) | assumption)
       have q156 : x17_1 < (l0.length : Int) := of_decide_eq_true (by first | (with_reducible assumption) | assumption)
       obtain ⟨ad156, e156, hx156_0⟩ := Kd.at_string HR0.out x17_1 p156 q156
       cases e156
       replace p156 := eq_true p156
       replace q156 := eq_true q156
       go_wp2
       go_roundg k1
       case measure => have := HK1.out; omega
       case rel => exact ⟨(x8_1), (x9_1), (wrap64 (x17_1 + 1)), (by first | rfl | (simp; done) | (simp [*]; done)), (by first | rfl | (simp; done) | (simp [*]; done)), (by first | rfl | (simp; done) | (simp [*]; done)), H', ⟨by have := HK1.out; omega⟩, by repeat (first | exact Drawn0.refl _ | apply Drawn0.step)⟩
     ·rw [if_neg c7] at H
      exact absurd H (by simp)
    ·rw [if_neg c6] at H
     exact absurd H (by simp)
   ·rw [if_neg c5] at H
    have c5b0 : decide (x17_1 < (l0.length : Int)) = false := decide_eq_false c5
    clear c5
    by_cases c12 : x8_1 = true
    ·subst c12
     have H1 : (if 0 ≤ x9_1 then (if x9_1 < (l1.length : Int) then (some (rd l1 x9_1, true)) else (none)) else (none)) = some (r1, r2) := by rw [if_pos rfl] at H; exact H
     clear H
     have H := H1
     clear H1
     by_cases c13 : 0 ≤ x9_1
     ·rw [if_pos c13] at H
      have c13b0 : decide (0 ≤ x9_1) = true := decide_eq_true c13
      clear c13
      by_cases c14 : x9_1 < (l1.length : Int)
      ·rw [if_pos c14] at H
       have c14b0 : decide (x9_1 < (l1.length : Int)) = true := decide_eq_true c14
       clear c14
       simp only [Option.some.injEq, Prod.mk.injEq] at H
       obtain ⟨rfl, rfl⟩ := H
       have p157 : 0 ≤ (x9_1 : Int) := of_decide_eq_true (by first | (with_reducible assumption) | assumption)
       have q157 : x9_1 < (l1.length : Int) := of_decide_eq_true (by first | (with_reducible assumption) | assumption)
       obtain ⟨ad157, e157, hx157_0⟩ := Kd.at_int HR1.out x9_1 p157 q157
       cases e157
       replace p157 := eq_true p157
       replace q157 := eq_true q157
       go_wp2
       go_ret2
       exact ⟨by first | rfl | (simp; done) | (simp [*]; done) | (simp [Own.isEmpty_bne]; done), by repeat (first | exact Drawn0.refl _ | apply Drawn0.step)⟩
      ·rw [if_neg c14] at H
       exact absurd H (by simp)
     ·rw [if_neg c13] at H
      exact absurd H (by simp)
    ·replace c12 := Bool.eq_false_iff.mpr c12
     subst c12
     have H1 : (some (0, false)) = some (r1, r2) := by rw [if_neg (show ¬ (false = true) by decide)] at H; exact H
     clear H
     have H := H1
     clear H1
     simp only [Option.some.injEq, Prod.mk.injEq] at H
     obtain ⟨rfl, rfl⟩ := H
     go_wp2
     go_ret2
     exact ⟨by first | rfl | (simp; done) | (simp [*]; done) | (simp [Own.isEmpty_bne]; done), by repeat (first | exact Drawn0.refl _ | apply Drawn0.step)⟩

/-! ### spec_dPrefixes: function 54 -/
def spec_dPrefixes.l0 : Nat → List ByteArray → List Int → ByteArray → List (S39) → Int → Option ((List (S39)))
 | 0, _, _, _, _, _ => none
 | k + 1, x0, x1, x2, x7, x8 => if x8 ≤ (x2.size : Int) then (if 0 ≤ x8 then ((spec_dGet.f k x0 x1 (x2.extract 0 (x8 : Int).toNat)).bind fun bt158 => (if bt158.2 = true then (if x7.length < 8796093022208 then (spec_dPrefixes.l0 k x0 x1 x2 (x7 ++ [(⟨bt158.1, x8⟩ : S39)]) (wrap64 (x8 + 1))) else (none)) else (spec_dPrefixes.l0 k x0 x1 x2 x7 (wrap64 (x8 + 1))))) else (none)) else (some x7)
def spec_dPrefixes.f (k : Nat) (l0 : List ByteArray) (l1 : List Int) (a2 : ByteArray) : Option ((List (S39))) := spec_dPrefixes.l0 k l0 l1 a2 ([] : List (S39)) 1
theorem spec_dPrefixes.mono_l : ∀ k, (∀ y0 y1 y2 y3 y4, LeO (spec_dPrefixes.l0 k y0 y1 y2 y3 y4) (spec_dPrefixes.l0 (k + 1) y0 y1 y2 y3 y4))
 | 0 => fun _ _ _ _ _ r h => by simp [spec_dPrefixes.l0] at h
 | k + 1 => by
  have ih0 := spec_dPrefixes.mono_l k
  ·intro y0 y1 y2 y3 y4
   unfold spec_dPrefixes.l0
   repeat' first
   | (with_reducible exact ih0 _ _ _ _ _)
   | (with_reducible exact spec_dGet.mono _ _ _ _)
   | (with_reducible exact LeO.refl _)
   | (with_reducible exact LeO.none _)
   | (with_reducible refine LeO.ite ?_ ?_)
   | (with_reducible refine LeO.bind ?_ (fun _ => ?_))
   | exact ih0 _ _ _ _ _
   | exact spec_dGet.mono _ _ _ _
   | exact LeO.none _
   | refine LeO.ite ?_ ?_
   | refine LeO.bind ?_ (fun _ => ?_)
theorem spec_dPrefixes.mono : ∀ a0 a1 a2 k, LeO (spec_dPrefixes.f k a0 a1 a2) (spec_dPrefixes.f (k + 1) a0 a1 a2) := by
 intro a0 a1 a2 k
 have ih0 := spec_dPrefixes.mono_l k
 unfold spec_dPrefixes.f
 repeat' first
   | (with_reducible exact ih0 _ _ _ _ _)
   | (with_reducible exact spec_dGet.mono _ _ _ _)
   | (with_reducible exact LeO.refl _)
   | (with_reducible exact LeO.none _)
   | (with_reducible refine LeO.ite ?_ ?_)
   | (with_reducible refine LeO.bind ?_ (fun _ => ?_))
   | exact ih0 _ _ _ _ _
   | exact spec_dGet.mono _ _ _ _
   | exact LeO.none _
   | refine LeO.ite ?_ ?_
   | refine LeO.bind ?_ (fun _ => ?_)
set_option maxHeartbeats 8000000 in
set_option maxRecDepth 100000 in
theorem spec_dPrefixes.calls (k : Nat) (A0 : Option Addr) (c0 : Nat) (l0 : List ByteArray) (A1 : Option Addr) (c1 : Nat) (l1 : List Int) (a2 : ByteArray) (r : List (S39)) (w : World) (hr0 : Kd.C Kd.string w A0 l0.length l0) (hc0 : l0.length ≤ c0) (hr1 : Kd.C (Kd.int .i64) w A1 l1.length l1) (hc1 : l1.length ≤ c1) (h : spec_dPrefixes.f k l0 l1 a2 = some r) :
  Calls Try.prog 54 #[.slice A0 l0.length c0, .slice A1 l1.length c1, .string a2] w fun e w' => ∃ v0_ : Value, e = .returned (v0_) ∧ Kd.R k39 39 w' w.heap.size (fun _ => True) v0_ r ∧ Below w.heap.size w w' := by
 have hu39 := Try.underlying39
 have HR0 := Aside0.mk hr0
 have HC0 := Aside0.mk hc0
 clear hr0 hc0
 have HR1 := Aside0.mk hr1
 have HC1 := Aside0.mk hc1
 clear hr1 hc1
 have HB := Aside0.mk (Below.refl w.heap.size w)
 have H : (spec_dPrefixes.l0 k l0 l1 a2 ([] : List (S39)) 1) = some r := h
 clear h
 have H' := Aside0.mk H
 clear H
 go_enter Try.func54, Try.ntmps54
 go_wp2
 go_loopg [7, 8] k (fun kq v7 v8 w' => ∃ (x7_1 : List (S39)) (x8_1 : Int), v8 = .int .i64 x8_1 ∧ Aside0 (spec_dPrefixes.l0 kq l0 l1 a2 x7_1 x8_1 = some r) ∧ Aside0 (kq ≤ k) ∧ Aside0 (Kd.R k39 39 w' w.heap.size (fun _ => True) v7 x7_1) ∧ Aside0 (Below w.heap.size w w'))
 case atStart => exact ⟨(([] : List (S39))), (1), (by first | rfl | (simp; done) | (simp [*]; done)), H', ⟨Nat.le_refl _⟩, ⟨by first | exact Kd.R_nil _ _ _ _ _ | exact Kd.N_nil _ _ _ _ _ | exact Kd.V_nil _ _ _ _ _ | exact Kd.Q_nil _ _ _ _ _ | exact Kd.S_nil _ _ _ _ _⟩, ⟨by repeat (first | (with_reducible first | exact HB.out | apply below_alloc | apply pw_below_drewN | apply below_drew1) | exact HB.out)⟩⟩
 case round =>
  clear H'
  try clear c1
  try clear p2
  obtain ⟨x7_1, x8_1, rfl, HA, HK1, HO_7, HB⟩ := hrel
  cases gk with
  | zero => exact absurd HA.out (by simp [spec_dPrefixes.l0])
  | succ k1 =>
   have H := HA.out
   clear HA
   simp only [spec_dPrefixes.l0] at H
   by_cases c4 : x8_1 ≤ (a2.size : Int)
   ·rw [if_pos c4] at H
    have c4b0 : decide (x8_1 ≤ (a2.size : Int)) = true := decide_eq_true c4
    clear c4
    by_cases c5 : 0 ≤ x8_1
    ·rw [if_pos c5] at H
     have c5b0 := eq_true c5
     have c5b1 : decide (0 ≤ x8_1) = true := decide_eq_true c5
     clear c5
     have c6b0 := eq_true (of_decide_eq_true (by first | (with_reducible assumption) | assumption) : x8_1 ≤ (a2.size : Int))
     replace H := Option.bind_eq_some_iff.mp H
     obtain ⟨⟨t158, t159⟩, A70, H⟩ := H
     replace H : (if t159 = true then (if x7_1.length < 8796093022208 then (spec_dPrefixes.l0 k1 l0 l1 a2 (x7_1 ++ [(⟨t158, x8_1⟩ : S39)]) (wrap64 (x8_1 + 1))) else (none)) else (spec_dPrefixes.l0 k1 l0 l1 a2 x7_1 (wrap64 (x8_1 + 1)))) = some r := H
     have A7 := Aside0.mk A70
     clear A70
     by_cases c8 : t159 = true
     ·subst c8
      have H1 : (if x7_1.length < 8796093022208 then (spec_dPrefixes.l0 k1 l0 l1 a2 (x7_1 ++ [(⟨t158, x8_1⟩ : S39)]) (wrap64 (x8_1 + 1))) else (none)) = some r := by rw [if_pos rfl] at H; exact H
      clear H
      have H := H1
      clear H1
      by_cases c9 : x7_1.length < 8796093022208
      ·rw [if_pos c9] at H
       have LMc9 := Aside0.mk c9
       clear c9
       obtain ⟨y160, hy160⟩ : ∃ y_ : List (S39), y_ = (x7_1 ++ [(⟨t158, x8_1⟩ : S39)]) := ⟨_, rfl⟩
       replace H : (spec_dPrefixes.l0 k1 l0 l1 a2 y160 (wrap64 (x8_1 + 1))) = some r := by first | (rw [hy160]; with_reducible exact H) | (have H2_ := (Option.bind_some _ _).symm.trans H; rw [hy160]; with_reducible exact H2_) | (have H2_ := (Option.bind_some _ _).symm.trans H; with_reducible exact H2_) | with_reducible exact H | (rw [hy160]; exact H) | exact H
       have Ny160 := Aside0.mk hy160
       clear hy160
       have H' := Aside0.mk H
       clear H
       go_wp2_with (first | ((with_reducible refine gate_callee (f := 53) rfl ?_); refine goesL_ (some 23) rfl rfl Try.func53 (by kernel_rfl) rfl #[.slice A0 l0.length c0, .slice A1 l1.length c1, .string (a2.extract 0 (x8_1 : Int).toNat)] rfl (by (try simp only [List.map_toArray, List.map_cons, List.map_nil]); first | done | rfl | (simp only [List.length_drop, List.length_take]; rfl)) ?_; (with_reducible refine (spec_dGet.calls k1 _ _ l0 _ _ l1 (a2.extract 0 (x8_1 : Int).toNat) t158 true _ ?side1 ?side2 ?side3 ?side4 A7.out).mono ?_); (case side1 => repeat (first | exact (Kd.C_below HR0.out HB.out) | (with_reducible refine Kd.C_alloc ?_ _) | (with_reducible refine Kd.C_drewN ?_ _) | (with_reducible refine Kd.C_drew ?_))); (case side2 => exact HC0.out); (case side3 => repeat (first | exact (Kd.C_below HR1.out HB.out) | (with_reducible refine Kd.C_alloc ?_ _) | (with_reducible refine Kd.C_drewN ?_ _) | (with_reducible refine Kd.C_drew ?_))); (case side4 => exact HC1.out); rintro e w' ⟨rfl, ⟨nd, rfl⟩⟩; refine ⟨_, rfl, ?_⟩) | ((with_reducible refine gate_builtin (b := .append) (xs := #[.tmp 27, .tmp 31]) rfl ?_); at_builtin; refine Kd.R_append k39 (w0 := w) w.heap.size rfl (.tmp 27) (.tmp 31) 32 39 (.agg #[(.int .i64 0), (.int .i64 0)]) 16 rfl Try.underlying32 info39 rfl (by decide) (by omega) u7 x7_1 (⟨t158, x8_1⟩ : S39) [.int .i64 t158, .int .i64 x8_1] (fun _ => True) (fun _ => False) rfl rfl ?aP (fun _ hk => hk.elim) ?aF ?aO ?aB ?aS ?aL ?_; (case aP => exact k39_mkM _ _ _ (⟨t158, x8_1⟩ : S39)); (case aB => exact (by repeat (first | (with_reducible first | exact HB.out | apply below_alloc | apply pw_below_drewN | apply below_drew1) | exact HB.out))); (case aF => exact (fun _ _ => trivial)); (case aO => exact (by (with_reducible repeat (first | apply Kd.R_alloc | apply Kd.R_drewN | apply Kd.R_drew)); exact HO_7.out)); (case aS => exact (below_size (by repeat (first | (with_reducible first | exact HB.out | apply below_alloc | apply pw_below_drewN | apply below_drew1) | exact HB.out)))); (case aL => have := LMc9.out; omega); intro v161 w10 ho hb hg hat; rw [← Ny160.out] at ho; have n0_ := Aside0.mk (hb); have n1_ := Aside0.mk (ho); clear HB; clear HO_7; have HB := n0_; have HO162 := n1_; clear n0_ n1_; clear ho hb hg hat))
       go_roundg k1
       case measure => have := HK1.out; omega
       case rel => exact ⟨(y160), (wrap64 (x8_1 + 1)), (by first | rfl | (simp; done) | (simp [*]; done)), H', ⟨by have := HK1.out; omega⟩, ⟨by (with_reducible repeat (first | apply Kd.R_alloc | apply Kd.R_drewN | apply Kd.R_drew)); exact HO162.out⟩, ⟨by repeat (first | (with_reducible first | exact HB.out | apply below_alloc | apply pw_below_drewN | apply below_drew1) | exact HB.out)⟩⟩
      ·rw [if_neg c9] at H
       exact absurd H (by simp)
     ·replace c8 := Bool.eq_false_iff.mpr c8
      subst c8
      have H1 : (spec_dPrefixes.l0 k1 l0 l1 a2 x7_1 (wrap64 (x8_1 + 1))) = some r := by rw [if_neg (show ¬ (false = true) by decide)] at H; exact H
      clear H
      have H := H1
      clear H1
      have H' := Aside0.mk H
      clear H
      go_wp2_with (first | ((with_reducible refine gate_callee (f := 53) rfl ?_); refine goesL_ (some 23) rfl rfl Try.func53 (by kernel_rfl) rfl #[.slice A0 l0.length c0, .slice A1 l1.length c1, .string (a2.extract 0 (x8_1 : Int).toNat)] rfl (by (try simp only [List.map_toArray, List.map_cons, List.map_nil]); first | done | rfl | (simp only [List.length_drop, List.length_take]; rfl)) ?_; (with_reducible refine (spec_dGet.calls k1 _ _ l0 _ _ l1 (a2.extract 0 (x8_1 : Int).toNat) t158 false _ ?side1 ?side2 ?side3 ?side4 A7.out).mono ?_); (case side1 => repeat (first | exact (Kd.C_below HR0.out HB.out) | (with_reducible refine Kd.C_alloc ?_ _) | (with_reducible refine Kd.C_drewN ?_ _) | (with_reducible refine Kd.C_drew ?_))); (case side2 => exact HC0.out); (case side3 => repeat (first | exact (Kd.C_below HR1.out HB.out) | (with_reducible refine Kd.C_alloc ?_ _) | (with_reducible refine Kd.C_drewN ?_ _) | (with_reducible refine Kd.C_drew ?_))); (case side4 => exact HC1.out); rintro e w' ⟨rfl, ⟨nd, rfl⟩⟩; refine ⟨_, rfl, ?_⟩))
      go_roundg k1
      case measure => have := HK1.out; omega
      case rel => exact ⟨(x7_1), (wrap64 (x8_1 + 1)), (by first | rfl | (simp; done) | (simp [*]; done)), H', ⟨by have := HK1.out; omega⟩, ⟨by (with_reducible repeat (first | apply Kd.R_alloc | apply Kd.R_drewN | apply Kd.R_drew)); exact HO_7.out⟩, ⟨by repeat (first | (with_reducible first | exact HB.out | apply below_alloc | apply pw_below_drewN | apply below_drew1) | exact HB.out)⟩⟩
    ·rw [if_neg c5] at H
     exact absurd H (by simp)
   ·rw [if_neg c4] at H
    have c4b0 : decide (x8_1 ≤ (a2.size : Int)) = false := decide_eq_false c4
    clear c4
    obtain rfl := Option.some.inj H
    go_wp2
    go_ret
    exact ⟨_, by first | rfl | (simp [errW_none, errW_some] <;> rfl) | (simp [*, errW_none, errW_some] <;> rfl), by (with_reducible repeat (first | apply Kd.R_alloc | apply Kd.R_drewN | apply Kd.R_drew)); exact HO_7.out, by repeat (first | (with_reducible first | exact HB.out | apply below_alloc | apply pw_below_drewN | apply below_drew1) | exact HB.out)⟩

end Go.Proofs.Ytaejkbjepbifcaa.PB
namespace Go.Proofs.Ytaejkbjepbifcaa.Da
open Go.RowKit Go.Proofs.YtaejkbjepbifcaaW.PrintWords Go.Proofs.Ytaejkbjepbifcaa.Plain
set_option linter.unusedVariables false
set_option linter.unusedSimpArgs false
theorem here_find (w : List Int) : ∀ L : Keys, here (subw L w) = (L.find? (fun k => k.1 == w)).map (·.2) := by
  induction w with
  | nil =>
    intro L
    show here L = _
    unfold here
    congr 2
    funext k
    cases k.1 <;> rfl
  | cons c w ih =>
    intro L
    show here (subw (sub L c) w) = _
    rw [ih (sub L c)]
    induction L with
    | nil => rfl
    | cons k L ihL =>
      obtain ⟨x, v⟩ := k
      cases x with
      | nil =>
        have e : sub (([], v) :: L) c = sub L c := rfl
        rw [e, ihL, List.find?_cons_of_neg (by simp)]
      | cons d t =>
        by_cases hd : d = c
        · subst hd
          have e : sub ((d :: t, v) :: L) d = (t, v) :: sub L d := by simp [sub, subk]
          rw [e]
          by_cases ht : t = w
          · subst ht
            rw [List.find?_cons_of_pos (by simp), List.find?_cons_of_pos (by simp)]; rfl
          · rw [List.find?_cons_of_neg (by simpa using ht), List.find?_cons_of_neg (by simp [ht]), ihL]
        · have e : sub ((d :: t, v) :: L) c = sub L c := by simp [sub, subk, hd]
          rw [e, ihL, List.find?_cons_of_neg (by simp [hd])]
theorem bs_inj {s t : ByteArray} : s.toList = t.toList ↔ bs s = bs t := by
  rw [Lib.toList_data, Lib.toList_data]
  unfold bs
  constructor
  · intro h; rw [h]
  · intro h
    exact (List.map_inj_right (fun a b h => UInt8.toNat_inj.1 (by have h : (a.toNat : Int) = b.toNat := h; omega))).1 h
theorem bs_nil {s : ByteArray} : s.toList = [] ↔ bs s = [] := by
  rw [Lib.toList_data]
  unfold bs
  simp
theorem keys_drop (ss : List ByteArray) (ds : List Int) {i : Nat} (h : i < ss.length) : (keysAll ss ds).drop i = (bs (ss.getD i ByteArray.empty), ds.getD i 0) :: (keysAll ss ds).drop (i + 1) := by
  unfold keysAll keysOf
  rw [← List.map_drop, ← List.map_drop, List.drop_eq_getElem_cons (by rw [List.length_range]; exact h), List.map_cons, List.getElem_range]
  simp only [List.drop_zero]
  rfl
theorem sort_key (l : List ByteArray) (hl : l.length ≤ 4611686018427387904) : ∀ d i, 1 ≤ i → i + d = l.length + 1 → ∃ r, Ev (fun k => PB.spec_dSorted.l0 k l (i : Int)) r ∧ (r = true → ∀ j, i ≤ j + 1 → j + 1 < l.length → Op.bytesLess (l.getD (j + 1) ByteArray.empty).toList (l.getD j ByteArray.empty).toList = false)
  | 0, i, h0, h => ⟨true, Ev.step (fun k => by rw [PB.spec_dSorted.l0]) (evn (by omega) (Ev.now true)), fun _ j h1 h2 => by omega⟩
  | d + 1, i, h0, h => by
    by_cases hil : i < l.length
    · obtain ⟨r, hr, hp⟩ := sort_key l hl d (i + 1) (by omega) (by omega)
      have ew := wrap_dn i h0 (by omega)
      by_cases hb : Op.bytesLess (l.getD i ByteArray.empty).toList (l.getD (i - 1) ByteArray.empty).toList = true
      · exact ⟨false, Ev.step (fun k => by rw [PB.spec_dSorted.l0]) (evp (by omega) (evp (by rw [ew]; omega) (evp (by rw [ew]; omega) (evp (by omega) (evp (by rw [ew, rdOf_nat, rdOf_nat]; exact hb) (Ev.now false)))))), fun h => by cases h⟩
      · refine ⟨r, Ev.step (fun k => by rw [PB.spec_dSorted.l0]) (evp (by omega) (evp (by rw [ew]; omega) (evp (by rw [ew]; omega) (evp (by omega) (evn (by rw [ew, rdOf_nat, rdOf_nat]; exact hb) (by rw [wrap_up i (by omega)]; exact hr)))))), fun h j h1 h2 => ?_⟩
        by_cases e : i = j + 1
        · subst e
          have : Op.bytesLess (l.getD (j + 1) ByteArray.empty).toList (l.getD (j + 1 - 1) ByteArray.empty).toList = false := by simpa using hb
          rw [Nat.add_sub_cancel] at this
          exact this
        · exact hp h j (by omega) h2
    · exact ⟨true, Ev.step (fun k => by rw [PB.spec_dSorted.l0]) (evn (by omega) (Ev.now true)), fun _ j h1 h2 => by omega⟩
def Up (l : List ByteArray) : Prop := ∀ i, i + 1 < l.length → Op.bytesLess (l.getD (i + 1) ByteArray.empty).toList (l.getD i ByteArray.empty).toList = false
theorem sort_ev (l : List ByteArray) (hl : l.length ≤ 4611686018427387904) : Tru (fun k => PB.spec_dSorted.f k l) (Up l) := by
  obtain ⟨r, hr, hp⟩ := sort_key l hl l.length 1 (by omega) (by omega)
  exact ⟨r, hr, fun e i hi => hp e i (by omega) hi⟩
theorem get_found (ss : List ByteArray) (ds : List Int) (s : ByteArray) (at_ : Nat) (ha : at_ < ds.length) (hl : ss.length ≤ 4611686018427387904) : ∀ d i, i + d = ss.length → Ev (fun k => PB.spec_dGet.l0 k ss ds s true (at_ : Int) false (ss.length : Int) (i : Int)) (ds.getD at_ 0, true)
  | 0, i, h => Ev.step (fun k => by rw [PB.spec_dGet.l0]) (evn (by omega) (evp rfl (evp (by omega) (evp (by omega) (by rw [show rd ds (at_ : Int) = ds.getD at_ 0 by unfold rd; rw [Int.toNat_natCast]]; exact Ev.now _)))))
  | d + 1, i, h => by
    have ih := get_found ss ds s at_ ha hl d (i + 1) (by omega)
    rw [← wrap_up i (by omega)] at ih
    by_cases e1 : (rdOf ByteArray.empty ss (i : Int)).toList = s.toList
    · by_cases e2 : s.toList = []
      · exact Ev.step (fun k => by rw [PB.spec_dGet.l0]) (evp (by omega) (evp (by omega) (evp (by omega) (evp e1 (evp e2 ih)))))
      · exact Ev.step (fun k => by rw [PB.spec_dGet.l0]) (evp (by omega) (evp (by omega) (evp (by omega) (evp e1 (evn e2 (evp rfl (evn (by simp) ih)))))))
    · exact Ev.step (fun k => by rw [PB.spec_dGet.l0]) (evp (by omega) (evp (by omega) (evp (by omega) (evn e1 ih))))
/-- The reference's look-up. -/
def dget (L : Keys) (w : List Int) : Int × Bool := ((found L w).getD 0, (found L w).isSome)
theorem get_key (ss : List ByteArray) (ds : List Int) (s : ByteArray) (hd : ds.length = ss.length) (hl : ss.length ≤ 4611686018427387904) : ∀ d i, i + d = ss.length → Ev (fun k => PB.spec_dGet.l0 k ss ds s false 0 false (ss.length : Int) (i : Int)) (if bs s = [] then (0, false) else ((((keysAll ss ds).drop i).find? (fun k => k.1 == bs s)).map (·.2) |>.getD 0, (((keysAll ss ds).drop i).find? (fun k => k.1 == bs s)).isSome))
  | 0, i, h => by
    have e : (keysAll ss ds).drop i = [] := List.drop_eq_nil_of_le (by unfold keysAll keysOf; simp; omega)
    rw [e]
    have : (if bs s = [] then ((0 : Int), false) else (((([] : Keys).find? (fun k => k.1 == bs s)).map (·.2)).getD 0, (([] : Keys).find? (fun k => k.1 == bs s)).isSome)) = (0, false) := by split <;> rfl
    rw [this]
    exact Ev.step (fun k => by rw [PB.spec_dGet.l0]) (evn (by omega) (evn (by simp) (Ev.now _)))
  | d + 1, i, h => by
    have ih := get_key ss ds s hd hl d (i + 1) (by omega)
    have hil : i < ss.length := by omega
    rw [keys_drop ss ds hil]
    by_cases e1 : (rdOf ByteArray.empty ss (i : Int)).toList = s.toList
    · by_cases e2 : s.toList = []
      · rw [if_pos (bs_nil.1 e2)] at ih ⊢
        exact Ev.step (fun k => by rw [PB.spec_dGet.l0]) (evp (by omega) (evp (by omega) (evp (by omega) (evp e1 (evp e2 (by rw [wrap_up i (by omega)]; exact ih))))))
      · have e3 : bs (ss.getD i ByteArray.empty) = bs s := by rw [rdOf_nat] at e1; exact bs_inj.1 e1
        rw [if_neg (fun h => e2 (bs_nil.2 h)), List.find?_cons_of_pos (by simpa using e3)]
        have hg := get_found ss ds s i (by omega) hl d (i + 1) (by omega)
        rw [← wrap_up i (by omega)] at hg
        exact Ev.step (fun k => by rw [PB.spec_dGet.l0]) (evp (by omega) (evp (by omega) (evp (by omega) (evp e1 (evn e2 (evn (by simp) hg))))))
    · have e3 : ¬ bs (ss.getD i ByteArray.empty) = bs s := fun h => e1 (by rw [rdOf_nat]; exact bs_inj.2 h)
      rw [List.find?_cons_of_neg (by simpa using e3)]
      exact Ev.step (fun k => by rw [PB.spec_dGet.l0]) (evp (by omega) (evp (by omega) (evp (by omega) (evn e1 (by rw [wrap_up i (by omega)]; exact ih)))))
theorem get_ev (ss : List ByteArray) (ds : List Int) (s : ByteArray) (hd : ds.length = ss.length) (hl : ss.length ≤ 4611686018427387904) (hs : Ev (fun k => PB.spec_dSorted.f k ss) true) : Ev (fun k => PB.spec_dGet.f k ss ds s) (dget (keysAll ss ds) (bs s)) := by
  have h := get_key ss ds s hd hl ss.length 0 (by omega)
  rw [List.drop_zero] at h
  have e : (if bs s = [] then ((0 : Int), false) else ((((keysAll ss ds)).find? (fun k => k.1 == bs s)).map (·.2) |>.getD 0, (((keysAll ss ds)).find? (fun k => k.1 == bs s)).isSome)) = dget (keysAll ss ds) (bs s) := by
    unfold dget found
    split
    · rfl
    · rw [here_find]; simp
  rw [e] at h
  unfold PB.spec_dGet.f
  exact Ev.bind hs h
theorem bs_extract (s : ByteArray) (n : Nat) : bs (s.extract 0 n) = (bs s).take n := by
  unfold bs
  rw [Lib.extract_data, ← List.map_take]
  simp
theorem pref_key (ss : List ByteArray) (ds : List Int) (s : ByteArray) (hd : ds.length = ss.length) (hl : ss.length ≤ 4611686018427387904) (hs : Ev (fun k => PB.spec_dSorted.f k ss) true) (hz : s.size ≤ 1000000000) : ∀ d i, i + d = s.size → Ev (fun k => PB.spec_dPrefixes.l0 k ss ds s (hitsS (keysAll ss ds) (bs s) i) ((i + 1 : Nat) : Int)) (hitsS (keysAll ss ds) (bs s) s.size)
  | 0, i, h => by
    have e : i = s.size := by omega
    rw [e]
    exact Ev.step (fun k => by rw [PB.spec_dPrefixes.l0]) (evn (by omega) (Ev.now _))
  | d + 1, i, h => by
    have ih := pref_key ss ds s hd hl hs hz d (i + 1) (by omega)
    have hg := get_ev ss ds (s.extract 0 (((i + 1 : Nat) : Int)).toNat) hd hl hs
    have eb : bs (s.extract 0 (((i + 1 : Nat) : Int)).toNat) = (bs s).take (i + 1) := by rw [Int.toNat_natCast, bs_extract]
    rw [eb] at hg
    have hne : (bs s).take (i + 1) ≠ [] := by
      intro e
      have := congrArg List.length e
      rw [List.length_take, bs_len] at this
      have h0 : min (i + 1) s.size = 0 := this
      omega
    have hdg : dget (keysAll ss ds) ((bs s).take (i + 1)) = ((hitAt (keysAll ss ds) (bs s) i).getD 0, (hitAt (keysAll ss ds) (bs s) i).isSome) := by
      unfold dget found hitAt
      rw [if_neg hne]
    rw [hdg] at hg
    have hlen := hitsS_len (keysAll ss ds) (bs s) i
    cases hv : hitAt (keysAll ss ds) (bs s) i with
    | none =>
      rw [hv] at hg
      have e : hitsS (keysAll ss ds) (bs s) (i + 1) = hitsS (keysAll ss ds) (bs s) i := by unfold hitsS; rw [hits_none hv]
      rw [e] at ih
      refine Ev.step (fun k => by rw [PB.spec_dPrefixes.l0]) (evp (by omega) (evp (by omega) (Ev.bind hg ?_)))
      refine evn (by simp) ?_
      rw [wrap_up (i + 1) (by omega)]
      exact ih
    | some v =>
      rw [hv] at hg
      have e : hitsS (keysAll ss ds) (bs s) (i + 1) = hitsS (keysAll ss ds) (bs s) i ++ [⟨v, ((i + 1 : Nat) : Int)⟩] := by unfold hitsS; rw [hits_some hv, List.map_append]; rfl
      rw [e] at ih
      refine Ev.step (fun k => by rw [PB.spec_dPrefixes.l0]) (evp (by omega) (evp (by omega) (Ev.bind hg ?_)))
      refine evp rfl (evp (by omega) ?_)
      rw [wrap_up (i + 1) (by omega)]
      exact ih
theorem pref_ev (ss : List ByteArray) (ds : List Int) (s : ByteArray) (hd : ds.length = ss.length) (hl : ss.length ≤ 4611686018427387904) (hs : Ev (fun k => PB.spec_dSorted.f k ss) true) (hz : s.size ≤ 1000000000) : Ev (fun k => PB.spec_dPrefixes.f k ss ds s) (hitsS (keysAll ss ds) (bs s) (bs s).length) := by
  have := pref_key ss ds s hd hl hs hz s.size 0 (by omega)
  rw [bs_len]
  exact this
theorem has_key (t : ByteArray) (ht : t.size ≤ 4611686018427387904) : ∀ d i, i + d = t.size → ∃ r, Ev (fun k => PB.spec_dHas.l0 k t 0 (i : Int)) r ∧ (r = false → ∀ j, i ≤ j → j < t.size → (bs t).getD j 0 ≠ 0)
  | 0, i, h => ⟨false, Ev.step (fun k => by rw [PB.spec_dHas.l0]) (evn (by omega) (Ev.now false)), fun _ j h1 h2 => by omega⟩
  | d + 1, i, h => by
    obtain ⟨r, hr, hp⟩ := has_key t ht d (i + 1) (by omega)
    by_cases hs : bt t (i : Int) = 0
    · exact ⟨true, Ev.step (fun k => by rw [PB.spec_dHas.l0]) (evp (by omega) (evp (by omega) (evp hs (Ev.now true)))), fun h => by cases h⟩
    · refine ⟨r, Ev.step (fun k => by rw [PB.spec_dHas.l0]) (evp (by omega) (evp (by omega) (evn hs (by rw [wrap_up i (by omega)]; exact hr)))), fun h j h1 h2 => ?_⟩
      by_cases e : j = i
      · subst e; rw [← bt_nat t j (by omega)]; exact hs
      · exact hp h j (by omega) h2
theorem has_ev (t : ByteArray) (ht : t.size ≤ 4611686018427387904) : ∃ r, Ev (fun k => PB.spec_dHas.f k t 0) r ∧ (r = false → Cln t) := by
  obtain ⟨r, hr, hp⟩ := has_key t ht t.size 0 (by omega)
  exact ⟨r, hr, fun e => cln_of (fun j hj => hp e j (Nat.zero_le _) hj)⟩
theorem any_key (l : List ByteArray) (hl : Fits l) : ∀ d i, i + d = l.length → ∃ r, Ev (fun k => PB.spec_dAnyHas.l0 k 0 l (l.length : Int) (i : Int)) r ∧ (r = false → ∀ j, i ≤ j → j < l.length → Cln (l.getD j ByteArray.empty))
  | 0, i, h => ⟨false, Ev.step (fun k => by rw [PB.spec_dAnyHas.l0]) (evn (by omega) (Ev.now false)), fun _ j h1 h2 => by omega⟩
  | d + 1, i, h => by
    have hl1 := hl.1
    obtain ⟨r, hr, hp⟩ := any_key l hl d (i + 1) (by omega)
    have hm := hl.2 _ (getD_mem ByteArray.empty (show i < l.length by omega))
    obtain ⟨rw_, hw, hwp⟩ := has_ev (l.getD i ByteArray.empty) (by omega)
    cases rw_ with
    | true => exact ⟨true, Ev.step (fun k => by rw [PB.spec_dAnyHas.l0]) (evp (by omega) (evp (by omega) (evp (by omega) (by rw [rdOf_nat]; exact Ev.bind hw (evp rfl (Ev.now true)))))), fun h => by cases h⟩
    | false =>
      refine ⟨r, Ev.step (fun k => by rw [PB.spec_dAnyHas.l0]) (evp (by omega) (evp (by omega) (evp (by omega) (by rw [rdOf_nat]; exact Ev.bind hw (evn (by simp) (by rw [wrap_up i (by omega)]; exact hr)))))), fun h j h1 h2 => ?_⟩
      by_cases e : j = i
      · subst e; exact hwp rfl
      · exact hp h j (by omega) h2
theorem any_ev (l : List ByteArray) (hl : Fits l) : ∃ r, Ev (fun k => PB.spec_dAnyHas.f k l 0) r ∧ (r = false → ∀ t ∈ l, Cln t) := by
  obtain ⟨r, hr, hp⟩ := any_key l hl l.length 0 (by omega)
  exact ⟨r, hr, fun e => all_getD _ (fun j hj => hp e j (Nat.zero_le _) hj)⟩
end Go.Proofs.Ytaejkbjepbifcaa.Da
namespace Go.Proofs.Ytaejkbjepbifcaa.Da
open Go.RowKit Go.Proofs.YtaejkbjepbifcaaW.PrintWords Go.Proofs.Ytaejkbjepbifcaa.Plain
set_option linter.unusedVariables false
set_option linter.unusedSimpArgs false
/-- The reference's answer. -/
def sans (L : Keys) (t : ByteArray) : PB.S34 := ⟨⟨(dget L (bs t)).1, (dget L (bs t)).2⟩, ⟨(lng L t).1, (lng L t).2⟩, hitsS L (bs t) (bs t).length, hitsS L (bs t) (bs t).length⟩
theorem lng_nil {L : Keys} {t : ByteArray} (h : hitsS L (bs t) (bs t).length = []) : lng L t = (0, false) := by
  unfold lng lastHit
  unfold hitsS at h
  rw [List.map_eq_nil_iff.1 h]; rfl
theorem lng_last {L : Keys} {t : ByteArray} {n : Nat} (h : (hitsS L (bs t) (bs t).length).length = n + 1) : ∃ p, (hitsS L (bs t) (bs t).length)[n]? = some p ∧ lng L t = (p.f0, true) := by
  unfold hitsS at h ⊢
  rw [List.length_map] at h
  have e : (hitsTo L (bs t) (bs t).length).length - 1 = n := by omega
  have hl : (hitsTo L (bs t) (bs t).length).getLast? = (hitsTo L (bs t) (bs t).length)[n]? := by rw [List.getLast?_eq_getElem?, e]
  refine ⟨⟨((hitsTo L (bs t) (bs t).length)[n]'(by omega)).1, ((hitsTo L (bs t) (bs t).length)[n]'(by omega)).2⟩, ?_, ?_⟩
  · rw [List.getElem?_map, List.getElem?_eq_getElem (by omega)]; rfl
  · unfold lng lastHit
    rw [hl, List.getElem?_eq_getElem (by omega)]; rfl
/-- In the middle of an input. -/
structure MidS (W w : World) (L : Keys) (ov : Value) (l : List ByteArray) (xb : Nat) (c0 c1 c2 c3 c4 cv : Value) : Prop where
  kp : Below W.heap.size W w
  r : Kd.R PB.k34 34 w W.heap.size (fun k => k < xb) ov (l.map (sans L))
  bx : ABox w xb c0 c1 c2 c3 c4 cv
  ge : W.heap.size ≤ xb
section
variable {W w w' : World} {L : Keys} {ov : Value} {l : List ByteArray} {xb : Nat} {c0 c1 c2 c3 c4 cv : Value}
theorem MidS.start (hb : Below W.heap.size W w) (hr : Kd.R PB.k34 34 w W.heap.size (fun _ => True) ov (l.map (sans L))) : MidS W (w.alloc (.cells #[.int .i64 0, .bool false, .int .i64 0, .bool false, .slice none 0 0, .slice none 0 0] 34)) L ov l w.heap.size (.int .i64 0) (.bool false) (.int .i64 0) (.bool false) (.slice none 0 0) (.slice none 0 0) :=
  ⟨below_alloc hb _, Kd.R_below (Kd.R_mono (Kd.R_bound hr) (fun k hk => hk.2.2.1)) (below_alloc (Below.refl _ _) _), blk_new _ _, hb.size⟩
theorem MidS.below (h : MidS W w L ov l xb c0 c1 c2 c3 c4 cv) (hb : Below w.heap.size w w') : MidS W w' L ov l xb c0 c1 c2 c3 c4 cv :=
  ⟨below_step h.kp hb, Kd.R_below h.r hb, h.bx.step (hb.block _ h.bx.lt), h.ge⟩
theorem MidS.put (h : MidS W w L ov l xb c0 c1 c2 c3 c4 cv) {d0 d1 d2 d3 d4 dv : Value} (i : Nat) (v : Value) (hb : ABox (w.setCell ⟨xb, i, none⟩ v) xb d0 d1 d2 d3 d4 dv) : MidS W (w.setCell ⟨xb, i, none⟩ v) L ov l xb d0 d1 d2 d3 d4 dv :=
  ⟨h.kp.setCell h.ge v, Kd.R_far h.r (fun k hk => by show k ≠ xb; omega) _, hb, h.ge⟩
theorem row_xb {base i : Nat} {v u : Value} {xs : List PB.S39} (h : Kd.R PB.k39 39 w base (fun k => xb < k) v xs) : Kd.R PB.k39 39 (w.setCell ⟨xb, i, none⟩ u) base (fun k => xb < k) v xs :=
  Kd.R_far (p := ⟨xb, i, none⟩) h (fun k hk => by show k ≠ xb; omega) u
end
theorem ABox.set5' {W : World} {xb : Nat} {c0 c1 c2 c3 c4 cv : Value} (h : ABox W xb c0 c1 c2 c3 c4 cv) (v : Value) : ABox (W.setCell ⟨xb, 5, none⟩ v) xb c0 c1 c2 c3 c4 v := h.set5 v
theorem hit0_at {w : World} {g j : Nat} {Y : List PB.S39} {p : PB.S39} (h : Kd.C PB.k39 w (some ⟨g, 0, none⟩) Y.length Y) (hj : Y[j]? = some p) : w.cell? ⟨g, j * 2, none⟩ = some (.int .i64 p.f0) := by
  obtain ⟨ad, e, hx⟩ := h.2.2 (by have := (List.getElem?_eq_some_iff.1 hj).1; omega)
  cases e
  obtain ⟨cs, _, hK, hc⟩ := hx _ _ hj
  obtain rfl := PB.k39_open hK
  have := hc 0 _ rfl
  rw [show (⟨g, 0, none⟩ : Addr).add (j * PB.k39.sz + 0) = ⟨g, j * 2, none⟩ by
    show (⟨g, 0, none⟩ : Addr).add (j * 2 + 0) = _
    rw [add_at0, Nat.zero_add, Nat.add_zero]] at this
  exact this
def SpcE (W w' : World) (L : Keys) (ts : List ByteArray) (e : Ending) : Prop := ∃ (A : Option Addr) (n : Nat) (l : List PB.S34), e = .returned (.tuple #[.slice A l.length n, .int .i64 0, .bool true]) ∧ Aside0 (l = ts.map (sans L)) ∧ Aside0 (Kd.C PB.k34 w' A l.length l) ∧ Aside0 (l.length ≤ n) ∧ Below W.heap.size W w'
set_option maxHeartbeats 16000000 in
set_option maxRecDepth 100000 in
theorem strie_calls (W : World) (A0 A1 A2 : Option Addr) (c0 c1 c2 nd : Nat) (ss ts : List ByteArray) (ds : List Int) (hnd : nd = ss.length) (hr0 : Kd.C Kd.string W A0 ss.length ss) (hc0 : ss.length ≤ c0) (hr1 : Kd.C (Kd.int .i64) W A1 ds.length ds) (hc1 : ds.length ≤ c1) (hr2 : Kd.C Kd.string W A2 ts.length ts) (hc2 : ts.length ≤ c2) (hs : Ev (fun k => PB.spec_dSorted.f k ss) true) (K : KeysOk ss ds) (hI : InsOk ts) (ka kb : Nat) (ha : PB.spec_dAnyHas.f ka ss 0 = some false) (hb : PB.spec_dAnyHas.f kb ts 0 = some false) :
    Calls Try.prog 33 #[.slice A0 ss.length c0, .slice A1 nd c1, .slice A2 ts.length c2] W fun e w' => SpcE W w' (keysAll ss ds) ts e := by
  subst hnd
  have hlen := K.len
  have HR0 := Aside0.mk hr0
  have HR1 := Aside0.mk hr1
  have HR2 := Aside0.mk hr2
  have HC1 := Aside0.mk hc1
  have HK := Aside0.mk K
  have HI := Aside0.mk hI
  have HS := Aside0.mk hs
  have HAA := Aside0.mk ha
  have HAB := Aside0.mk hb
  have hfew := K.few
  have hfew2 := hI.1
  have hpos : 0 < ss.length := List.length_pos_iff.2 K.ne
  have hl0 : ((ss.length : Int) == 0) = false := by rw [beq_eq_false_iff_ne]; omega
  have hl1 : ((ss.length : Int) != (ss.length : Int)) = false := by simp
  have HL := Aside0.mk hlen
  have HB0 := Aside0.mk (Below.refl W.heap.size W)
  clear hr0 hr1 hr2 hs K hI ha hb hlen hc1
  go_enter Try.func33, Try.ntmps33
  go_wp2_with (first | (go_at_call 52; (with_reducible refine Calls.mono (PB.spec_dAnyHas.calls ka A0 c0 ss 0 false _ HR0.out hc0 HAA.out) ?_); rintro e_ w_ ⟨rfl, ⟨q1, rfl⟩⟩) | (go_at_call 52; (with_reducible refine Calls.mono (PB.spec_dAnyHas.calls kb A2 c2 ts 0 false _ (Kd.C_drewN HR2.out _) hc2 HAB.out) ?_); rintro e_ w_ ⟨rfl, ⟨q2, rfl⟩⟩))
  have HB1 : Aside0 (Below W.heap.size W (W.drewN (q1 + q2))) := ⟨pw_below_drewN HB0.out _⟩
  clear HB0
  go_loopg [6, 33] ss.length (fun kq v6 v33 w' => ∃ (j : Nat), v6 = .slice none 0 0 ∧ v33 = .int .i64 (j : Int) ∧ Aside0 (j + kq = ss.length) ∧ Aside0 (Below W.heap.size W w'))
  case atStart => exact ⟨0, rfl, rfl, ⟨by omega⟩, HB1⟩
  case round =>
    clear HB1
    obtain ⟨j, rfl, rfl, HJ, HBj⟩ := hrel
    have hj := HJ.out
    by_cases hjl : j < ss.length
    · have hjz : (j : Int) < (ss.length : Int) := by omega
      obtain ⟨ad, hA, hcell⟩ := int_cell (Kd.C_below HR1.out HBj.out) j (by rw [HL.out]; exact hjl)
      subst hA
      have hbd := HK.out.dsb _ (getD_mem 0 (show j < ds.length by rw [HL.out]; exact hjl))
      obtain ⟨dv, hdv⟩ : ∃ dv, ds.getD j 0 = dv := ⟨_, rfl⟩
      rw [hdv] at hcell hbd
      have hb1 : ¬ dv < 0 := by omega
      have hb2 : ¬ dv > 2147483647 := by omega
      clear hdv hbd
      cases gk with
      | zero => omega
      | succ kz =>
      go_wp2_with fail
      go_roundg kz
      case measure => omega
      case rel => exact ⟨j + 1, rfl, congrArg (Value.int .i64) (by omega), ⟨by omega⟩, HBj⟩
    · have hjz : ¬ (j : Int) < (ss.length : Int) := by omega
      go_wp2_with fail
      go_loopg [6, 46] ts.length (fun kq v6 v46 w' => ∃ (i : Nat), v46 = .int .i64 (i : Int) ∧ Aside0 (i + kq = ts.length) ∧ Aside0 (Below W.heap.size W w') ∧ Aside0 (Kd.R PB.k34 34 w' W.heap.size (fun _ => True) v6 ((ts.take i).map (sans (keysAll ss ds)))))
      case atStart => exact ⟨0, rfl, ⟨by omega⟩, HBj, ⟨Kd.R_nil _ _ _ _ _⟩⟩
      case round =>
        clear HBj
        obtain ⟨i, rfl, HI2, HBi, HO⟩ := hrel
        have hi2 := HI2.out
        by_cases hil : i < ts.length
        · have hiz : (i : Int) < (ts.length : Int) := by omega
          obtain ⟨ad, hA, hcell⟩ := str_cell (Kd.C_below HR2.out HBi.out) i hil
          subst hA
          have hm : ts.getD i ByteArray.empty ∈ ts := getD_mem _ hil
          obtain ⟨ht1, ht2⟩ := HI.out.2 _ hm
          obtain ⟨t, ht⟩ : ∃ t, ts.getD i ByteArray.empty = t := ⟨_, rfl⟩
          rw [ht] at hcell ht1 ht2
          have HT1 := Aside0.mk ht1
          have HT := Aside0.mk ht
          obtain ⟨kg, hg⟩ := (get_ev ss ds t HL.out (by omega) HS.out).rounds
          obtain ⟨kp, hp⟩ := (pref_ev ss ds t HL.out (by omega) HS.out ht2).rounds
          have HGV := Aside0.mk hg
          have HPV := Aside0.mk hp
          clear ht1 ht hm hg hp
          go_upto_region 15 with fail
          obtain ⟨w1, hw1, hm1⟩ : ∃ w1, w1 = _ ∧ MidS W w1 (keysAll ss ds) u6 (ts.take i) wr.heap.size _ _ _ _ _ _ := ⟨_, rfl, MidS.start HBi.out HO.out⟩
          rw [← hw1]
          obtain ⟨xb, hxbe⟩ : ∃ xb, wr.heap.size = xb := ⟨_, rfl⟩
          rw [hxbe] at hm1 ⊢
          have HM := Aside0.mk hm1
          have hlen := HL.out
          have hF : Aside0 (Calls Try.prog 53 #[.slice A0 ss.length c0, .slice A1 ss.length c1, .string t] w1 fun e w' => e = .returned (.tuple #[.int .i64 (dget (keysAll ss ds) (bs t)).1, .bool (dget (keysAll ss ds) (bs t)).2]) ∧ Below w1.heap.size w1 w') := ⟨by
            have h9 := PB.spec_dGet.calls kg A0 c0 ss A1 c1 ds t (dget (keysAll ss ds) (bs t)).1 (dget (keysAll ss ds) (bs t)).2 w1 (Kd.C_below HR0.out hm1.kp) hc0 (Kd.C_below HR1.out hm1.kp) HC1.out HGV.out
            rw [hlen] at h9
            exact h9.mono (fun _ _ h => ⟨h.1, h.2.below⟩)⟩
          clear hw1 hm1 hxbe
          go_upto_region 16 with (go_at_call 53; refine hF.out.mono ?_; rintro e_ w2 ⟨rfl, hB⟩; have hm2 := HM.out.below hB; have HM2 := Aside0.mk hm2; obtain ⟨k0, k1, k2, k3, k4, k5⟩ := hm2.bx.cells; have z0 := hm2.bx.froz 0; have z1 := hm2.bx.froz 1; clear hB hm2)
          obtain ⟨w3, hw3, hm3⟩ : ∃ w3, w3 = ((w2.setCell ⟨xb, 0, none⟩ (.int .i64 (dget (keysAll ss ds) (bs t)).1)).setCell ⟨xb, 1, none⟩ (.bool (dget (keysAll ss ds) (bs t)).2)) ∧ MidS W w3 (keysAll ss ds) u6 (ts.take i) xb _ _ _ _ _ _ := ⟨_, rfl, ((HM2.out.put 0 _ (HM2.out.bx.set0 _)).put 1 _ ((HM2.out.bx.set0 _).set1 _))⟩
          rw [← hw3]
          clear hw3
          have HM3 := Aside0.mk hm3
          have HP : Aside0 (∀ w', Below W.heap.size W w' → Calls Try.prog 54 #[.slice A0 ss.length c0, .slice A1 ss.length c1, .string t] w' fun e w2 => ∃ (A : Option Addr) (n : Nat) (l : List PB.S39), e = .returned (.slice A l.length n) ∧ Aside0 (l = hitsS (keysAll ss ds) (bs t) (bs t).length) ∧ Aside0 (Kd.R PB.k39 39 w2 w'.heap.size (fun _ => True) (.slice A l.length n) l) ∧ Below w'.heap.size w' w2) := ⟨fun w' hB => by
            have h9 := PB.spec_dPrefixes.calls kp A0 c0 ss A1 c1 ds t _ w' (Kd.C_below HR0.out hB) hc0 (Kd.C_below HR1.out hB) HC1.out HPV.out
            rw [hlen] at h9
            refine h9.mono ?_
            rintro e w2 ⟨v, rfl, hR, hB2⟩
            obtain ⟨A, n, rfl⟩ := Kd.R_slice hR
            exact ⟨A, n, _, rfl, ⟨rfl⟩, ⟨hR⟩, hB2⟩⟩
          clear HM2 hm3 k0 k1 k2 k3 k4 k5 z0 z1 HM hF
          go_upto_region 17 with (go_at_call 54; refine (HP.out _ HM3.out.kp).mono ?_; rintro e_ w4 ⟨Ah, nh, lh, rfl, HEH, HRH, hB⟩; have hm4 := HM3.out.below hB; have HM4 := Aside0.mk hm4; have HXL := Aside0.mk HM3.out.bx.lt; obtain ⟨k0, k1, k2, k3, k4, k5⟩ := hm4.bx.cells; have z4 := hm4.bx.froz 4; clear hB hm4)
          obtain ⟨w5, hw5, hm5, hr5⟩ : ∃ w5, w5 = w4.setCell ⟨xb, 4, none⟩ (.slice Ah lh.length nh) ∧ MidS W w5 (keysAll ss ds) u6 (ts.take i) xb _ _ _ _ _ _ ∧ Kd.R PB.k39 39 w5 W.heap.size (fun k => xb < k) (.slice Ah lh.length nh) lh := ⟨_, rfl, HM4.out.put 4 _ (HM4.out.bx.set4 _), row_xb (row_new HRH.out HXL.out HM3.out.kp.size)⟩
          rw [← hw5]
          clear hw5
          have HM5 := Aside0.mk hm5
          have HR5 := Aside0.mk hr5
          have HXL5 := Aside0.mk hm5.bx.lt
          clear HM4 HM3 hm5 hr5 HXL HRH k0 k1 k2 k3 k4 k5 z4
          go_upto_region 18 with (go_at_call 54; refine (HP.out _ HM5.out.kp).mono ?_; rintro e_ w6 ⟨Ac, nc, lc, rfl, HEC, HRC, hB⟩; have hm6 := HM5.out.below hB; have HM6 := Aside0.mk hm6; have HR6 := Aside0.mk (Kd.R_below HR5.out hB); obtain ⟨k0, k1, k2, k3, k4, k5⟩ := hm6.bx.cells; have z5 := hm6.bx.froz 5; clear hB hm6)
          obtain ⟨w7, hw7, hm7, hr7, hc7⟩ : ∃ w7, w7 = w6.setCell ⟨xb, 5, none⟩ (.slice Ac lc.length nc) ∧ MidS W w7 (keysAll ss ds) u6 (ts.take i) xb _ _ _ _ _ _ ∧ Kd.R PB.k39 39 w7 W.heap.size (fun k => xb < k) (.slice Ah lh.length nh) lh ∧ Kd.R PB.k39 39 w7 W.heap.size (fun k => xb < k) (.slice Ac lc.length nc) lc := ⟨_, rfl, HM6.out.put 5 _ (HM6.out.bx.set5 _), row_xb HR6.out, row_xb (row_new HRC.out HXL5.out HM5.out.kp.size)⟩
          rw [← hw7]
          clear hw7
          have HM7 := Aside0.mk hm7
          have HR7 := Aside0.mk hr7
          have HC7 := Aside0.mk hc7
          obtain ⟨k0', k1', k2', k3', k4', k5'⟩ := hm7.bx.cells
          have z2 := hm7.bx.froz 2
          have z3 := hm7.bx.froz 3
          clear HM5 HM6 HR5 HR6 HRC HXL5 hm7 hr7 hc7 k0 k1 k2 k3 k4 k5 z5
          by_cases hz : lh.length = 0
          · have hzz : ¬ (lh.length : Int) > 0 := by omega
            have hln : lng (keysAll ss ds) t = (0, false) := lng_nil (by rw [← HEH.out]; exact List.length_eq_zero_iff.1 hz)
            have HZ := Aside0.mk hz
            clear hz
            go_upto_region 21 with fail
            obtain ⟨w8, hw8, hm8, hr8, hc8⟩ : ∃ w8, w8 = w7 ∧ MidS W w8 (keysAll ss ds) u6 (ts.take i) xb (.int .i64 (dget (keysAll ss ds) (bs t)).1) (.bool (dget (keysAll ss ds) (bs t)).2) (.int .i64 (lng (keysAll ss ds) t).1) (.bool (lng (keysAll ss ds) t).2) (.slice Ah lh.length nh) (.slice Ac lc.length nc) ∧ Kd.R PB.k39 39 w8 W.heap.size (fun k => xb < k) (.slice Ah lh.length nh) lh ∧ Kd.R PB.k39 39 w8 W.heap.size (fun k => xb < k) (.slice Ac lc.length nc) lc := ⟨_, rfl, by rw [hln]; exact HM7.out, HR7.out, HC7.out⟩
            rw [← hw8]
            clear hw8 hln k0' k1' k2' k3' k4' k5' z2 z3 hzz
            have HM8 := Aside0.mk hm8
            have HR8 : Aside0 (Kd.R PB.k39 39 w8 W.heap.size (fun k => xb < k) (.slice Ah lh.length nh) (sans (keysAll ss ds) t).f2) := ⟨by
              show Kd.R _ _ _ _ _ _ (hitsS (keysAll ss ds) (bs t) (bs t).length)
              rw [← HEH.out]; exact hr8⟩
            have HC8 : Aside0 (Kd.R PB.k39 39 w8 W.heap.size (fun k => xb < k) (.slice Ac lc.length nc) (sans (keysAll ss ds) t).f3) := ⟨by
              show Kd.R _ _ _ _ _ _ (hitsS (keysAll ss ds) (bs t) (bs t).length)
              rw [← HEC.out]; exact hc8⟩
            obtain ⟨j0, j1, j2, j3, j4, j5⟩ := hm8.bx.cells
            have hsz8 := hm8.kp.size
            have hOK : ∀ k, xb < k → True ∧ some k ≠ u6.ownBlock := fun k hk => ⟨trivial, fun e => by have := hm8.r.1 k e.symm; omega⟩
            have HOK := Aside0.mk hOK
            have hl34 : ((ts.take i).map (sans (keysAll ss ds))).length ≤ 1000000 := by simp; omega
            clear hm8 hr8 hc8 hOK
            cases gk with
            | zero => omega
            | succ kz =>
            go_wp2_with (first | ((with_reducible refine gate_builtin (b := .append) (xs := #[.tmp 85, .tmp 87]) rfl ?_); at_builtin; refine Kd.R_append PB.k34 (w0 := w8) W.heap.size rfl (.tmp 85) (.tmp 87) 42 34 (.agg #[(.int .i64 0), (.bool false), (.int .i64 0), (.bool false), (.slice none 0 0), (.slice none 0 0)]) 80 rfl Try.underlying42 PB.info34 rfl (by decide) (by omega) u6 _ (sans (keysAll ss ds) t) [.int .i64 (sans (keysAll ss ds) t).f0.f0, .bool (sans (keysAll ss ds) t).f0.f1, .int .i64 (sans (keysAll ss ds) t).f1.f0, .bool (sans (keysAll ss ds) t).f1.f1, _, _] (fun _ => True) (fun k => xb < k) rfl rfl (PB.k34_mkM _ _ _ _ HR8.out HC8.out) HOK.out (fun _ _ => trivial) (Kd.R_mono HM8.out.r (fun _ _ => trivial)) (Below.refl _ _) hsz8 (by omega) ?_; intro va wa ho hb hg hat; have HOA := Aside0.mk ho; have HBA := Aside0.mk hb; clear ho hb hg hat) | fail)
            go_roundg kz
            case measure => omega
            case rel => exact ⟨i + 1, congrArg (Value.int .i64) (by omega), ⟨by omega⟩, ⟨HM8.out.kp.trans HBA.out⟩, ⟨by rw [List.take_succ_eq_append_getElem hil, show ts[i] = t by rw [← HT.out, List.getD_eq_getElem?_getD, List.getElem?_eq_getElem hil]; rfl, List.map_append]; exact HOA.out⟩⟩
          · obtain ⟨n, hn⟩ : ∃ n, lh.length = n + 1 := ⟨lh.length - 1, by omega⟩
            obtain ⟨p, hp, hln⟩ := lng_last (L := keysAll ss ds) (t := t) (n := n) (by rw [← HEH.out]; exact hn)
            rw [← HEH.out] at hp
            obtain ⟨g, c', eg, _, _, _, hC⟩ := own_head HR7.out (by intro e; rw [e] at hn; simp at hn)
            cases eg
            have hcg := hit0_at hC hp
            have hzz : (lh.length : Int) > 0 := by omega
            have hsub : (lh.length : Int) - 1 = (n : Int) := by omega
            have hnz : (n : Int) < (lh.length : Int) := by omega
            have hlm : lh.length ≤ 1000000000 := by
              rw [HEH.out]
              have h9 := hitsS_len (keysAll ss ds) (bs t) (bs t).length
              rw [bs_len] at h9 ⊢
              omega
            have HN := Aside0.mk hn
            clear hz hn hp hC
            go_upto_region 21 with fail
            clear hsub hnz hzz
            obtain ⟨w8, hw8, hm8, hr8, hc8⟩ : ∃ w8, w8 = (w7.setCell ⟨xb, 2, none⟩ (.int .i64 p.f0)).setCell ⟨xb, 3, none⟩ (.bool true) ∧ MidS W w8 (keysAll ss ds) u6 (ts.take i) xb (.int .i64 (dget (keysAll ss ds) (bs t)).1) (.bool (dget (keysAll ss ds) (bs t)).2) (.int .i64 (lng (keysAll ss ds) t).1) (.bool (lng (keysAll ss ds) t).2) (.slice (some ⟨g, 0, none⟩) lh.length nh) (.slice Ac lc.length nc) ∧ Kd.R PB.k39 39 w8 W.heap.size (fun k => xb < k) (.slice (some ⟨g, 0, none⟩) lh.length nh) lh ∧ Kd.R PB.k39 39 w8 W.heap.size (fun k => xb < k) (.slice Ac lc.length nc) lc := ⟨_, rfl, by rw [hln]; exact (HM7.out.put 2 _ (HM7.out.bx.set2 _)).put 3 _ ((HM7.out.bx.set2 _).set3 _), row_xb (row_xb HR7.out), row_xb (row_xb HC7.out)⟩
            rw [← hw8]
            clear hw8 hln k0' k1' k2' k3' k4' k5' z2 z3 hcg
            have HM8 := Aside0.mk hm8
            have HR8 : Aside0 (Kd.R PB.k39 39 w8 W.heap.size (fun k => xb < k) (.slice (some ⟨g, 0, none⟩) lh.length nh) (sans (keysAll ss ds) t).f2) := ⟨by
              show Kd.R _ _ _ _ _ _ (hitsS (keysAll ss ds) (bs t) (bs t).length)
              rw [← HEH.out]; exact hr8⟩
            have HC8 : Aside0 (Kd.R PB.k39 39 w8 W.heap.size (fun k => xb < k) (.slice Ac lc.length nc) (sans (keysAll ss ds) t).f3) := ⟨by
              show Kd.R _ _ _ _ _ _ (hitsS (keysAll ss ds) (bs t) (bs t).length)
              rw [← HEC.out]; exact hc8⟩
            obtain ⟨j0, j1, j2, j3, j4, j5⟩ := hm8.bx.cells
            have hsz8 := hm8.kp.size
            have hOK : ∀ k, xb < k → True ∧ some k ≠ u6.ownBlock := fun k hk => ⟨trivial, fun e => by have := hm8.r.1 k e.symm; omega⟩
            have HOK := Aside0.mk hOK
            have hl34 : ((ts.take i).map (sans (keysAll ss ds))).length ≤ 1000000 := by simp; omega
            clear hm8 hr8 hc8 hOK
            cases gk with
            | zero => omega
            | succ kz =>
            go_wp2_with (first | ((with_reducible refine gate_builtin (b := .append) (xs := #[.tmp 85, .tmp 87]) rfl ?_); at_builtin; refine Kd.R_append PB.k34 (w0 := w8) W.heap.size rfl (.tmp 85) (.tmp 87) 42 34 (.agg #[(.int .i64 0), (.bool false), (.int .i64 0), (.bool false), (.slice none 0 0), (.slice none 0 0)]) 80 rfl Try.underlying42 PB.info34 rfl (by decide) (by omega) u6 _ (sans (keysAll ss ds) t) [.int .i64 (sans (keysAll ss ds) t).f0.f0, .bool (sans (keysAll ss ds) t).f0.f1, .int .i64 (sans (keysAll ss ds) t).f1.f0, .bool (sans (keysAll ss ds) t).f1.f1, _, _] (fun _ => True) (fun k => xb < k) rfl rfl (PB.k34_mkM _ _ _ _ HR8.out HC8.out) HOK.out (fun _ _ => trivial) (Kd.R_mono HM8.out.r (fun _ _ => trivial)) (Below.refl _ _) hsz8 (by omega) ?_; intro va wa ho hb hg hat; have HOA := Aside0.mk ho; have HBA := Aside0.mk hb; clear ho hb hg hat) | fail)
            go_roundg kz
            case measure => omega
            case rel => exact ⟨i + 1, congrArg (Value.int .i64) (by omega), ⟨by omega⟩, ⟨HM8.out.kp.trans HBA.out⟩, ⟨by rw [List.take_succ_eq_append_getElem hil, show ts[i] = t by rw [← HT.out, List.getD_eq_getElem?_getD, List.getElem?_eq_getElem hil]; rfl, List.map_append]; exact HOA.out⟩⟩
        · have hiz : ¬ (i : Int) < (ts.length : Int) := by omega
          have hie : i = ts.length := by omega
          rw [hie, List.take_length] at HO
          obtain ⟨Ao, no, eo, lo, go⟩ := Kd.R_reads HO.out
          obtain ⟨lst, hlst⟩ : ∃ l, l = ts.map (sans (keysAll ss ds)) := ⟨_, rfl⟩
          rw [← hlst] at eo lo go
          have HLS := Aside0.mk hlst
          have HGO := Aside0.mk go
          have HLO := Aside0.mk lo
          subst eo
          clear hlst lo go hie
          go_wp2_with fail
          exact bodyPost_ret (v := .tuple #[.slice Ao lst.length no, .int .i64 0, .bool true]) (by simp [results, Try.results33, go_sem]) rfl ⟨Ao, no, lst, rfl, HLS, HGO, HLO, HBi.out⟩
end Go.Proofs.Ytaejkbjepbifcaa.Da
namespace Go.Proofs.Ytaejkbjepbifcaa.Da
open Go.RowKit Go.Proofs.YtaejkbjepbifcaaW.PrintWords Go.Proofs.Ytaejkbjepbifcaa.Plain
set_option linter.unusedVariables false
set_option linter.unusedSimpArgs false
theorem subw_mem : ∀ (w : List Int) (L : Keys) (x : List Int × Int), x ∈ subw L w → (w ++ x.1, x.2) ∈ L
  | [], L, x, h => h
  | c :: w, L, x, h => by
    have ih := subw_mem w (sub L c) x h
    obtain ⟨a, ha, hs⟩ := List.mem_filterMap.1 ih
    obtain ⟨y, v⟩ := a
    cases y with
    | nil => cases hs
    | cons d t =>
      simp only [subk] at hs
      split at hs
      · rename_i e
        cases hs
        rw [e] at ha
        exact ha
      · cases hs
theorem keys_get {ss : List ByteArray} {ds : List Int} {x : List Int × Int} (h : x ∈ keysAll ss ds) : ∃ z, z < ss.length ∧ x.1 = bs (ss.getD z ByteArray.empty) := by
  unfold keysAll keysOf at h
  obtain ⟨z, hz, rfl⟩ := List.mem_map.1 h
  exact ⟨z, List.mem_range.1 hz, List.drop_zero⟩
theorem keys_put {ss : List ByteArray} (ds : List Int) {z : Nat} (hz : z < ss.length) : (bs (ss.getD z ByteArray.empty), ds.getD z 0) ∈ keysAll ss ds :=
  List.mem_map.2 ⟨z, List.mem_range.2 hz, by simp only [List.drop_zero]; rfl⟩
theorem begins_of {a s : ByteArray} {r : List Int} (h : bs a = bs s ++ r) : PB.spec_dBegins.f a s = some true := by
  have hl : s.size ≤ a.size := by
    have := congrArg List.length h
    rw [List.length_append, bs_len, bs_len] at this
    omega
  unfold PB.spec_dBegins.f
  rw [if_pos (by omega), if_pos (by omega), if_pos (by omega)]
  congr 1
  rw [beq_iff_eq, bs_inj, Int.toNat_natCast, bs_extract, h, List.take_append_of_le_length (by rw [bs_len]; exact Nat.le_refl _), List.take_of_length_le (by rw [bs_len]; exact Nat.le_refl _)]
theorem half_true (l : List ByteArray) (s : ByteArray) (hl : l.length ≤ 4611686018427387904) (hne : ∀ j, j < l.length → (l.getD j ByteArray.empty).toList ≠ s.toList) : ∀ d i (b : Bool), i + d = l.length → (b = true ∨ ∃ j, i ≤ j ∧ j < l.length ∧ PB.spec_dBegins.f (l.getD j ByteArray.empty) s = some true) → Ev (fun k => PB.spec_Half.l0 k s b l (l.length : Int) (i : Int)) true
  | 0, i, b, h, hb => by
    have : b = true := by
      rcases hb with h1 | ⟨j, h1, h2, _⟩
      · exact h1
      · omega
    subst this
    exact Ev.step (fun k => by rw [PB.spec_Half.l0]) (evn (by omega) (Ev.now _))
  | d + 1, i, b, h, hb => by
    have hil : i < l.length := by omega
    have e1 : ¬ (rdOf ByteArray.empty l (i : Int)).toList = s.toList := by rw [rdOf_nat]; exact hne i hil
    by_cases e : b = true
    · have ih := half_true l s hl hne d (i + 1) true (by omega) (Or.inl rfl)
      rw [← wrap_up i (by omega)] at ih
      exact Ev.step (fun k => by rw [PB.spec_Half.l0]) (evp (by omega) (evp (by omega) (evp (by omega) (evn e1 (evp e ih)))))
    · obtain ⟨r, hr⟩ := begins_some (rdOf ByteArray.empty l (i : Int)) s
      have ih := half_true l s hl hne d (i + 1) r (by omega) (by
        rcases hb with h1 | ⟨j, h1, h2, h3⟩
        · exact absurd h1 e
        · by_cases hj : j = i
          · subst hj
            rw [rdOf_nat] at hr
            rw [hr] at h3
            exact Or.inl (Option.some.inj h3)
          · exact Or.inr ⟨j, by omega, h2, h3⟩)
      rw [← wrap_up i (by omega)] at ih
      refine Ev.step (fun k => by rw [PB.spec_Half.l0]) (evp (by omega) (evp (by omega) (evp (by omega) (evn e1 (evn e ?_)))))
      rw [hr]
      exact Ev.bind (Ev.now r) ih
/-- Where 'Find' says another thing than the reference the text is the beginning of a key and no key. -/
theorem half_or (ss : List ByteArray) (ds : List Int) (t : ByteArray) (hl : ss.length ≤ 4611686018427387904) : Ev (fun k => PB.spec_Half.f k ss t) true ∨ fnd (keysAll ss ds) t = dget (keysAll ss ds) (bs t) := by
  by_cases h0 : bs t = []
  · right
    unfold fnd dget found
    simp [h0]
  · by_cases h1 : subw (keysAll ss ds) (bs t) = []
    · right
      have hf : found (keysAll ss ds) (bs t) = none := by unfold found; rw [if_neg h0, h1]; rfl
      unfold fnd dget
      rw [hf]
      simp [h1]
    · cases hf : found (keysAll ss ds) (bs t) with
      | some v =>
        right
        unfold fnd dget
        rw [hf]
        simp [h0, h1]
      | none =>
        left
        unfold found at hf
        rw [if_neg h0, here_find, Option.map_eq_none_iff, List.find?_eq_none] at hf
        obtain ⟨x, hx⟩ := List.exists_mem_of_ne_nil _ h1
        obtain ⟨z, hz, hzx⟩ := keys_get (subw_mem _ _ _ hx)
        refine half_true ss t hl (fun j hj e => ?_) ss.length 0 false (by omega) (Or.inr ⟨z, Nat.zero_le _, hz, begins_of hzx.symm⟩)
        exact hf _ (keys_put ds hj) (by simpa using bs_inj.1 e)
theorem trie_two (L : Keys) (t : ByteArray) (h : Bool) (hh : h = true ∨ fnd L t = dget L (bs t)) (hl : (hitsS L (bs t) (bs t).length).length ≤ 4611686018427387904) : Ev (fun k => PB.laws_sameTrie.f k (ans L t).f0.f0 (ans L t).f0.f1 (ans L t).f1.f0 (ans L t).f1.f1 (ans L t).f2 (ans L t).f3 (sans L t).f0.f0 (sans L t).f0.f1 (sans L t).f1.f0 (sans L t).f1.f1 (sans L t).f2 (sans L t).f3 h) true := by
  have e2 := same_ev (hitsS L (bs t) (bs t).length) hl
  rcases hh with rfl | hh
  · unfold PB.laws_sameTrie.f
    refine evp rfl ?_
    show Ev (fun k => (PB.laws_sameFound.f (lng L t).1 (lng L t).2 (lng L t).1 (lng L t).2).bind _) true
    rw [found_refl]
    exact Ev.bind (Ev.now true) (evp rfl (Ev.bind e2 (evp rfl (Ev.bind e2 (Ev.now true)))))
  · have e : sans L t = ans L t := by unfold sans ans; rw [hh]
    rw [e]
    exact trie_refl (ans L t) h hl hl
theorem two_key (ss : List ByteArray) (ds : List Int) (ts : List ByteArray) (hk : ss.length ≤ 4611686018427387904) (h : ts.length ≤ 4611686018427387904) (hs : ∀ t ∈ ts, (hitsS (keysAll ss ds) (bs t) (bs t).length).length ≤ 4611686018427387904) : ∀ d i, i + d = ts.length → Ev (fun k => PB.laws_sameTries.l0 k (ts.map (ans (keysAll ss ds))) (ts.map (sans (keysAll ss ds))) ss ts (ts.length : Int) (i : Int)) true
  | 0, i, hi => Ev.step (fun k => by rw [PB.laws_sameTries.l0]) (evn (by omega) (Ev.now true))
  | d + 1, i, hi => by
    have ih := two_key ss ds ts hk h hs d (i + 1) (by omega)
    have hil : i < ts.length := by omega
    have hm : ts.getD i ByteArray.empty ∈ ts := getD_mem _ hil
    obtain ⟨t, ht⟩ : ∃ t, ts.getD i ByteArray.empty = t := ⟨_, rfl⟩
    rw [ht] at hm
    have er : rdOf ByteArray.empty ts (i : Int) = t := by rw [rdOf_nat, ht]
    have ea : (ts.map (ans (keysAll ss ds))).getD i PB.z34 = ans (keysAll ss ds) t := by
      rw [List.getD_eq_getElem?_getD, List.getElem?_map, List.getElem?_eq_getElem hil, ← ht, List.getD_eq_getElem?_getD, List.getElem?_eq_getElem hil]; rfl
    have eb : (ts.map (sans (keysAll ss ds))).getD i PB.z34 = sans (keysAll ss ds) t := by
      rw [List.getD_eq_getElem?_getD, List.getElem?_map, List.getElem?_eq_getElem hil, ← ht, List.getD_eq_getElem?_getD, List.getElem?_eq_getElem hil]; rfl
    have hh : ∃ r, Ev (fun k => PB.spec_Half.f k ss t) r ∧ (r = true ∨ fnd (keysAll ss ds) t = dget (keysAll ss ds) (bs t)) := by
      rcases half_or ss ds t hk with h1 | h1
      · exact ⟨true, h1, Or.inl rfl⟩
      · obtain ⟨r, hr⟩ := half_ev ss t hk
        exact ⟨r, hr, Or.inr h1⟩
    obtain ⟨r, hr, hor⟩ := hh
    refine Ev.step (fun k => by rw [PB.laws_sameTries.l0]) (evp (by omega) (evp (by omega) (evp (by rw [List.length_map]; omega) (evp (by rw [List.length_map]; omega) (evp (by omega) ?_)))))
    rw [er, rd_ans, rd_ans, ea, eb]
    refine Ev.bind hr ?_
    exact Ev.bind (trie_two _ t r hor (hs t hm)) (evp rfl (by rw [wrap_up i (by omega)]; exact ih))
theorem two_ev (ss : List ByteArray) (ds : List Int) (ts : List ByteArray) (hk : ss.length ≤ 4611686018427387904) (h : ts.length ≤ 4611686018427387904) (hs : ∀ t ∈ ts, (hitsS (keysAll ss ds) (bs t) (bs t).length).length ≤ 4611686018427387904) : ∃ k, PB.laws_sameTries.f k (ts.map (ans (keysAll ss ds))) (ts.map (sans (keysAll ss ds))) ss ts = some true := by
  have := two_key ss ds ts hk h hs ts.length 0 (by omega)
  have h2 : Ev (fun k => PB.laws_sameTries.f k (ts.map (ans (keysAll ss ds))) (ts.map (sans (keysAll ss ds))) ss ts) true := by
    unfold PB.laws_sameTries.f
    rw [List.length_map, List.length_map]
    refine evp rfl ?_
    have e : ((ts.length : Int) != (ts.length : Int)) = false := by simp
    rw [e]
    rw [show ((0 : Nat) : Int) = 0 from rfl] at this
    exact Ev.step (fun k => by rw [PB.laws_sameTries.j0]) (evn (by simp) (by rw [List.length_map]; exact this))
  exact h2.rounds
theorem hits_small (L : Keys) {ts : List ByteArray} (h : ∀ t ∈ ts, Cln t ∧ t.size ≤ 1000000000) : ∀ t ∈ ts, (hitsS L (bs t) (bs t).length).length ≤ 4611686018427387904 := by
  intro t ht
  have h1 := hitsS_len L (bs t) (bs t).length
  have h2 := (h t ht).2
  rw [bs_len] at h1 ⊢
  omega
end Go.Proofs.Ytaejkbjepbifcaa.Da
namespace Go.Proofs.Ytaejkbjepbifcaa.Da
open Go.RowKit Go.Proofs.YtaejkbjepbifcaaW.PrintWords Go.Proofs.Ytaejkbjepbifcaa.Plain
set_option linter.unusedVariables false
set_option linter.unusedSimpArgs false
theorem ones_next (i : Nat) : ones (i + 1) = ones i ++ [(i : Int) + 1] := by unfold ones; rw [List.range_succ, List.map_append]; rfl
set_option maxHeartbeats 16000000 in
set_option maxRecDepth 100000 in
/-- Unsorted keys: nothing is said. -/
theorem plain_no (W : World) (A0 A2 : Option Addr) (c0 c2 ks : Nat) (ss ts : List ByteArray) (hr0 : Kd.C Kd.string W A0 ss.length ss) (hc0 : ss.length ≤ c0) (hs : PB.spec_dSorted.f ks ss = some false) :
    Calls Try.prog 21 #[.slice A0 ss.length c0, .slice A2 ts.length c2] W fun e w' => ∃ (A : Option Addr) (n : Nat), e = .returned (.tuple #[.slice A 0 n, .int .i64 0, .bool false]) ∧ Below W.heap.size W w' := by
  have h1 := PB.spec_dSorted.calls ks A0 c0 ss false W hr0 hc0 hs
  have H1 := Aside0.mk h1
  clear h1 hr0
  go_enter Try.func21, Try.ntmps21
  go_wp2_with (go_at_call 32; refine H1.out.mono ?_; rintro e_ w_ ⟨rfl, ⟨q1, rfl⟩⟩)
  exact bodyPost_ret (v := .tuple #[.slice none 0 0, .int .i64 0, .bool false]) (by simp [results, Try.results21, go_sem]) rfl ⟨none, 0, rfl, pw_below_drewN (Below.refl _ _) _⟩
/-- Nothing is said of no keys, nor of bytes 0. -/
theorem strie_no (W : World) (A0 A1 A2 : Option Addr) (c0 c1 c2 nd : Nat) (ss ts : List ByteArray) (hnd : nd = ss.length) (hl : ss.length ≤ 1000000) (hr0 : Kd.C Kd.string W A0 ss.length ss) (hc0 : ss.length ≤ c0) (hr2 : Kd.C Kd.string W A2 ts.length ts) (hc2 : ts.length ≤ c2) (ka kb : Nat)
    (h : ss = [] ∨ PB.spec_dAnyHas.f ka ss 0 = some true ∨ (PB.spec_dAnyHas.f ka ss 0 = some false ∧ PB.spec_dAnyHas.f kb ts 0 = some true)) :
    Calls Try.prog 33 #[.slice A0 ss.length c0, .slice A1 nd c1, .slice A2 ts.length c2] W fun e w' => ∃ (A : Option Addr) (n : Nat), e = .returned (.tuple #[.slice A 0 n, .int .i64 0, .bool false]) ∧ Below W.heap.size W w' := by
  subst hnd
  have HR0 := Aside0.mk hr0
  have HR2 := Aside0.mk hr2
  have hl1 : ((ss.length : Int) != (ss.length : Int)) = false := by simp
  by_cases h0 : ss.length = 0
  · have hl0 : ((ss.length : Int) == 0) = true := by rw [beq_iff_eq]; omega
    clear h hr0 hr2 h0
    go_enter Try.func33, Try.ntmps33
    go_wp2_with fail
    exact bodyPost_ret (v := .tuple #[.slice none 0 0, .int .i64 0, .bool false]) (by simp [results, Try.results33, go_sem]) rfl ⟨none, 0, rfl, Below.refl _ _⟩
  · have hl0 : ((ss.length : Int) == 0) = false := by rw [beq_eq_false_iff_ne]; omega
    rcases h with h | h | ⟨h, h2⟩
    · exact absurd (by rw [h]; rfl) h0
    · have HAA := Aside0.mk h
      clear h hr0 hr2 h0
      go_enter Try.func33, Try.ntmps33
      go_wp2_with (go_at_call 52; (with_reducible refine Calls.mono (PB.spec_dAnyHas.calls ka A0 c0 ss 0 true _ HR0.out hc0 HAA.out) ?_); rintro e_ w_ ⟨rfl, ⟨q1, rfl⟩⟩)
      exact bodyPost_ret (v := .tuple #[.slice none 0 0, .int .i64 0, .bool false]) (by simp [results, Try.results33, go_sem]) rfl ⟨none, 0, rfl, pw_below_drewN (Below.refl _ _) _⟩
    · have HAA := Aside0.mk h
      have HAB := Aside0.mk h2
      clear h h2 hr0 hr2 h0
      go_enter Try.func33, Try.ntmps33
      go_wp2_with (first | (go_at_call 52; (with_reducible refine Calls.mono (PB.spec_dAnyHas.calls ka A0 c0 ss 0 false _ HR0.out hc0 HAA.out) ?_); rintro e_ w_ ⟨rfl, ⟨q1, rfl⟩⟩) | (go_at_call 52; (with_reducible refine Calls.mono (PB.spec_dAnyHas.calls kb A2 c2 ts 0 true _ (Kd.C_drewN HR2.out _) hc2 HAB.out) ?_); rintro e_ w_ ⟨rfl, ⟨q2, rfl⟩⟩))
      exact bodyPost_ret (v := .tuple #[.slice none 0 0, .int .i64 0, .bool false]) (by simp [results, Try.results33, go_sem]) rfl ⟨none, 0, rfl, pw_below_drewN (Below.refl _ _) _⟩
set_option maxHeartbeats 16000000 in
set_option maxRecDepth 100000 in
/-- spec.TriePlain over sorted keys is spec.Trie with the numbers 1, 2 .. -/
theorem splain_via (W : World) (A0 A2 : Option Addr) (c0 c2 ks : Nat) (ss ts : List ByteArray) (hl : ss.length ≤ 1000000) (hr0 : Kd.C Kd.string W A0 ss.length ss) (hc0 : ss.length ≤ c0) (hs : PB.spec_dSorted.f ks ss = some true) (said : Bool) (P : World → Option Addr → Nat → Nat → Prop)
    (H : ∀ (w1 : World) (A1 : Option Addr) (c1 : Nat), Below W.heap.size W w1 → Kd.C (Kd.int .i64) w1 A1 (ones ss.length).length (ones ss.length) → (ones ss.length).length ≤ c1 → Calls Try.prog 33 #[.slice A0 ss.length c0, .slice A1 (ones ss.length).length c1, .slice A2 ts.length c2] w1 fun e w' => ∃ (A : Option Addr) (n m : Nat), e = .returned (.tuple #[.slice A m n, .int .i64 0, .bool said]) ∧ Aside0 (P w' A m n) ∧ Below W.heap.size W w') :
    Calls Try.prog 21 #[.slice A0 ss.length c0, .slice A2 ts.length c2] W fun e w' => ∃ (A : Option Addr) (n m : Nat), e = .returned (.tuple #[.slice A m n, .int .i64 0, .bool said]) ∧ Aside0 (P w' A m n) ∧ Below W.heap.size W w' := by
  have h1 := PB.spec_dSorted.calls ks A0 c0 ss true W hr0 hc0 hs
  have H1 := Aside0.mk h1
  have HH := Aside0.mk H
  clear h1 hr0 H
  go_enter Try.func21, Try.ntmps21
  go_wp2_with (go_at_call 32; refine H1.out.mono ?_; rintro e_ w_ ⟨rfl, ⟨q1, rfl⟩⟩)
  have HB1 : Aside0 (Below W.heap.size W (W.drewN q1)) := ⟨pw_below_drewN (Below.refl _ _) _⟩
  go_loopg [7, 8, 14] ss.length (fun kq v7 v8 v14 w' => ∃ (i : Nat), v14 = .int .i64 (i : Int) ∧ Aside0 (i + kq = ss.length) ∧ Aside0 (Kd.R (Kd.int .i64) 3 w' W.heap.size (fun _ => True) v7 (ones i)) ∧ Aside0 (Below W.heap.size W w'))
  case atStart => exact ⟨0, rfl, ⟨by omega⟩, ⟨Kd.R_nil _ _ _ _ _⟩, HB1⟩
  case round =>
    clear HB1
    obtain ⟨i, rfl, HI, HO, HBr⟩ := hrel
    have hi := HI.out
    by_cases hil : i < ss.length
    · have hiz : (i : Int) < (ss.length : Int) := by omega
      cases gk with
      | zero => omega
      | succ kz =>
      go_wp2_with (first | ((with_reducible refine gate_builtin (b := .append) (xs := #[.tmp 17, .tmp 20]) rfl ?_); at_builtin; refine Kd.R_append (Kd.int .i64) (w0 := W) W.heap.size rfl (.tmp 17) (.tmp 20) 23 3 (.int .i64 0) 8 rfl Try.underlying23 info_int rfl (by decide) (by omega) u7 (ones i) ((i : Int) + 1) [.int .i64 ((i : Int) + 1)] (fun _ => True) (fun _ => False) rfl rfl rfl (fun _ hk => hk.elim) (fun _ _ => trivial) HO.out HBr.out (below_size HBr.out) (by rw [ones_len]; omega) ?_; intro va wa ho hb hg hat; have HO2 := Aside0.mk ho; have HB2 := Aside0.mk hb; clear ho hb hg hat) | fail)
      go_roundg kz
      case measure => omega
      case rel => exact ⟨i + 1, congrArg (Value.int .i64) (by omega), ⟨by omega⟩, ⟨by rw [ones_next]; exact HO2.out⟩, HB2⟩
    · have hiz : ¬ (i : Int) < (ss.length : Int) := by omega
      have hie : i = ss.length := by omega
      rw [hie] at HO
      obtain ⟨Ai, ni, rfl, li, gi⟩ := Kd.R_reads HO.out
      have HRI := Aside0.mk gi
      have HLI := Aside0.mk li
      clear hie li gi
      go_wp2_with (go_at_call 33; (with_reducible refine Calls.mono (HH.out _ Ai ni HBr.out HRI.out HLI.out) ?_); rintro e_ w3 ⟨A, n, m, rfl, HP, hB⟩; have HB3 := Aside0.mk hB; clear hB)
      exact bodyPost_ret (v := .tuple #[.slice A m n, .int .i64 0, .bool said]) (by simp [results, Try.results21, go_sem]) rfl ⟨A, n, m, rfl, HP, HB3.out⟩
end Go.Proofs.Ytaejkbjepbifcaa.Da
