/- The walks over tries and what they compute: part 2 of several, put together by a program. -/
import Derived.Test.YtaejkbjepbifcaaU1
import Derived.Defers
import Derived.Recover
import Derived.Laws.Pointers
import Derived.Test.YtaejkbjepbifcaaU0
import Derived.Test.YtaejkbjepbifcaaKPlain
import Derived.Lib.Strings
namespace Go.Proofs.Ytaejkbjepbifcaa.Da
open Go.RowKit Go.Proofs.YtaejkbjepbifcaaW.PrintWords
set_option linter.unusedVariables false
set_option linter.unusedSimpArgs false
def ans (L : Keys) (t : ByteArray) : PB.S34 := ⟨⟨(fnd L t).1, (fnd L t).2⟩, ⟨(lng L t).1, (lng L t).2⟩, hitsS L (bs t) (bs t).length, hitsS L (bs t) (bs t).length⟩
/-- So many inputs have been asked. -/
structure AskS (W w : World) (L : Keys) (ov : Value) (l : List ByteArray) : Prop where
  kp : Kp W w (fun _ => False)
  o : w.heap[W.heap.size]? = some (.cells #[ov] 42 (0, 0))
  e : w.heap[W.heap.size + 1]? = some (.cells #[.int .i64 0] 3 (0, 0))
  r : Kd.R PB.k34 34 w (W.heap.size + 2) (fun _ => True) ov (l.map (ans L))
/-- A cell of a row of texts. -/
theorem str_cell {W : World} {A : Option Addr} {ss : List ByteArray} (h : Kd.C Kd.string W A ss.length ss) (j : Nat) (hj : j < ss.length) : ∃ ad, A = some ad ∧ W.cell? (ad.add j) = some (.string (ss.getD j ByteArray.empty)) := by
  obtain ⟨ad, c, e, _, hK, hc0⟩ := Kd.C_get h ByteArray.empty (j : Int) (by omega) (by omega)
  have hK : c = [.string _] := hK
  subst hK
  have := hc0 0 _ rfl
  rw [Int.toNat_natCast] at this
  have e1 : (Kd.string).sz = 1 := rfl
  rw [e1, Nat.mul_one, Nat.add_zero] at this
  exact ⟨ad, e, this⟩
theorem cell_lt {w : World} {a : Addr} {v : Value} (h : w.cell? a = some v) : a.block < w.heap.size := by
  rcases Nat.lt_or_ge a.block w.heap.size with h1 | h1
  · exact h1
  · unfold World.cell? at h
    rw [Array.getElem?_eq_none h1] at h
    simp at h
def AskE (W w' : World) (L : Keys) (ss : List ByteArray) (e : Ending) : Prop := ∃ ov, e = .returned (.tuple #[ov, .int .i64 0]) ∧ Kd.R PB.k34 34 w' W.heap.size (fun _ => True) ov (ss.map (ans L)) ∧ Below W.heap.size W w'
theorem ABox.set0 {W : World} {xb : Nat} {c0 c1 c2 c3 c4 cv : Value} (h : ABox W xb c0 c1 c2 c3 c4 cv) (v : Value) : ABox (W.setCell ⟨xb, 0, none⟩ v) xb v c1 c2 c3 c4 cv := (setCell_heap h).trans (by rfl)
theorem ABox.set1 {W : World} {xb : Nat} {c0 c1 c2 c3 c4 cv : Value} (h : ABox W xb c0 c1 c2 c3 c4 cv) (v : Value) : ABox (W.setCell ⟨xb, 1, none⟩ v) xb c0 v c2 c3 c4 cv := (setCell_heap h).trans (by rfl)
theorem ABox.set2 {W : World} {xb : Nat} {c0 c1 c2 c3 c4 cv : Value} (h : ABox W xb c0 c1 c2 c3 c4 cv) (v : Value) : ABox (W.setCell ⟨xb, 2, none⟩ v) xb c0 c1 v c3 c4 cv := (setCell_heap h).trans (by rfl)
theorem ABox.set3 {W : World} {xb : Nat} {c0 c1 c2 c3 c4 cv : Value} (h : ABox W xb c0 c1 c2 c3 c4 cv) (v : Value) : ABox (W.setCell ⟨xb, 3, none⟩ v) xb c0 c1 c2 v c4 cv := (setCell_heap h).trans (by rfl)
theorem ABox.cells {W : World} {xb : Nat} {c0 c1 c2 c3 c4 cv : Value} (h : ABox W xb c0 c1 c2 c3 c4 cv) : W.cell? ⟨xb, 0, none⟩ = some c0 ∧ W.cell? ⟨xb, 1, none⟩ = some c1 ∧ W.cell? ⟨xb, 2, none⟩ = some c2 ∧ W.cell? ⟨xb, 3, none⟩ = some c3 ∧ W.cell? ⟨xb, 4, none⟩ = some c4 ∧ W.cell? ⟨xb, 5, none⟩ = some cv := by
  unfold ABox at h
  unfold World.cell?
  simp [h]
/-- In the middle of an input. -/
structure Mid (W w : World) (L : Keys) (ov : Value) (l : List ByteArray) (xb : Nat) (c0 c1 c2 c3 c4 cv : Value) : Prop where
  kp : Kp W w (fun _ => False)
  o : w.heap[W.heap.size]? = some (.cells #[ov] 42 (0, 0))
  e : w.heap[W.heap.size + 1]? = some (.cells #[.int .i64 0] 3 (0, 0))
  r : Kd.R PB.k34 34 w (W.heap.size + 2) (fun k => k < xb) ov (l.map (ans L))
  bx : ABox w xb c0 c1 c2 c3 c4 cv
  ge : W.heap.size + 2 ≤ xb
section
variable {W w w' : World} {L : Keys} {ov : Value} {l : List ByteArray} {xb : Nat} {c0 c1 c2 c3 c4 cv : Value}
theorem Mid.start (h : AskS W w L ov l) : Mid W (w.alloc (.cells #[.int .i64 0, .bool false, .int .i64 0, .bool false, .slice none 0 0, .slice none 0 0] 34)) L ov l w.heap.size (.int .i64 0) (.bool false) (.int .i64 0) (.bool false) (.slice none 0 0) (.slice none 0 0) := by
  have hb := below_alloc (Below.refl w.heap.size w) (.cells #[.int .i64 0, .bool false, .int .i64 0, .bool false, .slice none 0 0, .slice none 0 0] 34)
  have l1 := (Array.getElem?_eq_some_iff.1 h.e).1
  exact ⟨h.kp.alloc _, (hb.block _ (by omega)).trans h.o, (hb.block _ (by omega)).trans h.e, Kd.R_below (Kd.R_mono (Kd.R_bound h.r) (fun k hk => hk.2.2.1)) hb, blk_new _ _, by omega⟩
theorem Mid.below (h : Mid W w L ov l xb c0 c1 c2 c3 c4 cv) (hb : Below w.heap.size w w') : Mid W w' L ov l xb c0 c1 c2 c3 c4 cv := by
  have l1 := (Array.getElem?_eq_some_iff.1 h.e).1
  exact ⟨h.kp.then hb, (hb.block _ (by omega)).trans h.o, (hb.block _ l1).trans h.e, Kd.R_below h.r hb, h.bx.step (hb.block _ h.bx.lt), h.ge⟩
theorem Mid.drewN (h : Mid W w L ov l xb c0 c1 c2 c3 c4 cv) (q : Nat) : Mid W (w.drewN q) L ov l xb c0 c1 c2 c3 c4 cv := h.below (pw_below_drewN (Below.refl _ _) q)
theorem Mid.put (h : Mid W w L ov l xb c0 c1 c2 c3 c4 cv) {d0 d1 d2 d3 d4 dv : Value} (i : Nat) (v : Value) (hb : ABox (w.setCell ⟨xb, i, none⟩ v) xb d0 d1 d2 d3 d4 dv) : Mid W (w.setCell ⟨xb, i, none⟩ v) L ov l xb d0 d1 d2 d3 d4 dv := by
  have hg := h.ge
  exact ⟨h.kp.setNew _ _ (by show W.heap.size ≤ xb; omega), (Below.heap_setCell _ _ _ _ (by show _ ≠ xb; omega)).trans h.o, (Below.heap_setCell _ _ _ _ (by show _ ≠ xb; omega)).trans h.e, Kd.R_far h.r (fun k hk => by show k ≠ xb; omega) _, hb, h.ge⟩
theorem Mid.set0 (h : Mid W w L ov l xb c0 c1 c2 c3 c4 cv) (v : Value) : Mid W (w.setCell ⟨xb, 0, none⟩ v) L ov l xb v c1 c2 c3 c4 cv := h.put 0 v (h.bx.set0 v)
theorem Mid.set1 (h : Mid W w L ov l xb c0 c1 c2 c3 c4 cv) (v : Value) : Mid W (w.setCell ⟨xb, 1, none⟩ v) L ov l xb c0 v c2 c3 c4 cv := h.put 1 v (h.bx.set1 v)
theorem Mid.set2 (h : Mid W w L ov l xb c0 c1 c2 c3 c4 cv) (v : Value) : Mid W (w.setCell ⟨xb, 2, none⟩ v) L ov l xb c0 c1 v c3 c4 cv := h.put 2 v (h.bx.set2 v)
theorem Mid.set3 (h : Mid W w L ov l xb c0 c1 c2 c3 c4 cv) (v : Value) : Mid W (w.setCell ⟨xb, 3, none⟩ v) L ov l xb c0 c1 c2 v c4 cv := h.put 3 v (h.bx.set3 v)
theorem Mid.arr (h : Mid W w L ov l xb c0 c1 c2 c3 c4 cv) {g : Nat} {s : DA} (a : Arr W g s) : Arr w g s := a.step (h.kp.old g a.lt id)
theorem Mid.cb (h : Mid W w L ov l xb c0 c1 c2 c3 c4 cv) {dv : Value} (k : Kp w w' (fun k => k = xb)) (hb : ABox w' xb c0 c1 c2 c3 c4 dv) : Mid W w' L ov l xb c0 c1 c2 c3 c4 dv := by
  have hg := h.ge
  have l1 := (Array.getElem?_eq_some_iff.1 h.e).1
  exact ⟨(h.kp.trans k).mono (fun i hi hx => by rcases hx with hx | hx; exact hx; omega), (k.old _ (by omega) (by omega)).trans h.o, (k.old _ l1 (by omega)).trans h.e, Kd.R_step h.r (fun i hi hl => k.old i hl (by omega)), hb, h.ge⟩
/-- The input is done. -/
theorem Mid.done (h : Mid W w L ov l xb c0 c1 c2 c3 c4 cv) {va : Value} {t : ByteArray} (hb : Below (W.heap.size + 2) w w') (hr : Kd.R PB.k34 34 w' (W.heap.size + 2) (fun _ => True) va (l.map (ans L) ++ [ans L t])) : AskS W (w'.setCell ⟨W.heap.size, 0, none⟩ va) L va (l ++ [t]) := by
  have hg := h.ge
  have hk : Kp W w' (fun _ => False) := ⟨Nat.le_trans h.kp.size hb.size, fun i hi hn => (hb.block i (by omega)).trans (h.kp.old i hi hn), h.kp.env.trans ⟨hb.os, hb.tape, hb.output⟩⟩
  refine ⟨hk.setNew _ _ (Nat.le_refl _), ?_, ?_, ?_⟩
  · rw [setCell_heap ((hb.block _ (by omega)).trans h.o)]; rfl
  · exact (Below.heap_setCell _ _ _ _ (by show _ ≠ W.heap.size; omega)).trans ((hb.block _ (by omega)).trans h.e)
  · rw [List.map_append]
    exact Kd.R_mono (Kd.R_far (p := ⟨W.heap.size, 0, none⟩) (Kd.R_mono (Kd.R_bound hr) (ok' := fun k => k ≠ W.heap.size) (fun k hk => by have := hk.2.1; omega)) (fun k hk => hk) _) (fun _ _ => trivial)
theorem Mid.out (h : Mid W w L ov l xb c0 c1 c2 c3 c4 cv) : w.cell? ⟨W.heap.size, 0, none⟩ = some ov ∧ w.frozen? ⟨W.heap.size, 0, none⟩ = false := by
  have := h.o
  constructor
  · unfold World.cell?; simp [this]
  · unfold World.frozen?; simp [this]
theorem Mid.out2 (h : Mid W w L ov l xb c0 c1 c2 c3 c4 cv) (hb : Below (W.heap.size + 2) w w') : w'.cell? ⟨W.heap.size, 0, none⟩ = some ov ∧ w'.frozen? ⟨W.heap.size, 0, none⟩ = false := by
  have := (hb.block W.heap.size (by omega)).trans h.o
  constructor
  · unfold World.cell?; simp [this]
  · unfold World.frozen?; simp [this]
theorem AskS.outs (h : AskS W w L ov l) : w.cell? ⟨W.heap.size, 0, none⟩ = some ov ∧ w.frozen? ⟨W.heap.size, 0, none⟩ = false ∧ w.cell? ⟨W.heap.size + 1, 0, none⟩ = some (.int .i64 0) ∧ w.frozen? ⟨W.heap.size + 1, 0, none⟩ = false := by
  have h1 := h.o
  have h2 := h.e
  unfold World.cell? World.frozen?
  refine ⟨?_, ?_, ?_, ?_⟩
  · simp [h1]
  · simp [h1]
  · simp [h2]
  · simp [h2]
theorem AskS.sl (h : AskS W w L ov l) : ∃ A c, ov = .slice A l.length c := by
  obtain ⟨A, c, e⟩ := Kd.R_slice h.r
  exact ⟨A, c, by rw [e, List.length_map]⟩
theorem kp_below {W w : World} (k : Kp W w (fun _ => False)) : Below W.heap.size W w := ⟨k.env.1, k.env.2.1, k.env.2.2, k.size, fun i hi => k.old i hi id⟩
theorem AskS.fin (h : AskS W w L ov l) : AskE W ((w.setCell ⟨W.heap.size, 0, none⟩ ov).setCell ⟨W.heap.size + 1, 0, none⟩ (.int .i64 0)) L l (.returned (.tuple #[ov, .int .i64 0])) := by
  refine ⟨ov, rfl, ?_, ((kp_below h.kp).setCell (Nat.le_refl _) _).setCell (Nat.le_succ _) _⟩
  have h1 := Kd.R_mono (Kd.R_bound h.r) (ok' := fun k => W.heap.size + 2 ≤ k) (fun k hk => hk.2.1)
  exact Kd.R_mono (Kd.R_lower (Kd.R_far (p := ⟨W.heap.size + 1, 0, none⟩) (Kd.R_far (p := ⟨W.heap.size, 0, none⟩) h1 (fun k hk => by show k ≠ W.heap.size; omega) _) (fun k hk => by show k ≠ W.heap.size + 1; omega) _) (by omega)) (fun _ _ => trivial)
theorem Mid.ne (h : Mid W w L ov l xb c0 c1 c2 c3 c4 cv) {g : Nat} {s : DA} (a : Arr W g s) : g ≠ xb := by have := a.lt; have := h.ge; omega
end
end Go.Proofs.Ytaejkbjepbifcaa.Da
namespace Go.Proofs.Ytaejkbjepbifcaa.Da
open Go.RowKit Go.Maps Go.ChangeShapes Go.Proofs.YtaejkbjepbifcaaW.PrintWords
set_option linter.unusedVariables false
set_option linter.unusedSimpArgs false
/-- What BuildWithIDs hands back. -/
def BldE (W W' : World) (S : Nat → Prop) (L : Keys) (e : Ending) : Prop := ∃ g s, e = .returned (.tuple #[.slice (some ⟨g, 0, none⟩) s.n s.n, .nilIface]) ∧ Arr W' g s ∧ Good s 0 L ∧ 0 < s.n ∧ W.heap.size ≤ g ∧ Kp W W' S
theorem bld_end {W w w' : World} {x g g' : Nat} {s' : DA} {L : Keys} {S : Nat → Prop} (hk : Kp W w S) (hx : W.heap.size ≤ x) (hg : W.heap.size ≤ g) (h : BldP w w' x g L g' s') : BldE W w' S L (.returned (.tuple #[.slice (some ⟨g', 0, none⟩) s'.n s'.n, .nilIface])) := by
  obtain ⟨h1, h2, h3, h4, h5⟩ := h
  have := hk.size
  exact ⟨g', s', rfl, h1, h2, h3, by omega, (hk.trans h5).mono (fun i hi h => by rcases h with h | h | h; exact h; omega; omega)⟩
set_option maxHeartbeats 16000000 in
set_option maxRecDepth 100000 in
theorem build_sorted (W : World) (kb ko ib io Nc Dc k : Nat) (ss : List ByteArray) (ds : List Int) (HSRC : Src W kb ko ss ib io ds) (hr : Kd.C Kd.string W (some ⟨kb, ko, none⟩) ss.length ss) (hc : ss.length ≤ Nc) (hs : PB.slices_IsSorted_string_string.f k ss = some true) (hne : ss ≠ []) (hok : Okk (keysAll ss ds)) (has : Asc (keysAll ss ds)) (ht : tot (keysAll ss ds) ≤ 32000) :
    Calls Try.prog 26 #[.slice (some ⟨kb, ko, none⟩) ss.length Nc, .slice (some ⟨ib, io, none⟩) ds.length Dc] W fun e w' => BldE W w' (fun _ => False) (keysAll ss ds) e := by
  have HS0 := Aside0.mk HSRC
  have HR := Aside0.mk hr
  have HIS := Aside0.mk hs
  have HNE := Aside0.mk hne
  have HOK := Aside0.mk hok
  have HAS := Aside0.mk has
  have HT := Aside0.mk ht
  have hlen := HSRC.len
  have hpos : 0 < ss.length := List.length_pos_iff.2 hne
  have hl0 : ((ss.length : Int) == 0) = false := by rw [beq_eq_false_iff_ne]; omega
  have hl1 : ((ss.length : Int) != (ss.length : Int)) = false := by simp
  have hfew := HSRC.few
  have HLE := Aside0.mk hlen
  rw [hlen]
  clear HSRC hr hs hne hok has ht hlen
  go_enter Try.func26, Try.ntmps26
  refine wp_seq_k fun K hK_ => ?_
  have hK := Aside0.mk hK_
  clear hK_
  go_wp2_with fail
  refine hK.out _ _ ?_
  clear hK K
  refine wp_seq_k fun K hK_ => ?_
  have hK := Aside0.mk hK_
  clear hK_
  go_wp2_with fail
  refine hK.out _ _ ?_
  clear hK K
  have hz1 : (W.alloc (.cells #[] 100)).heap.size = W.heap.size + 1 := Own.size_alloc _ _
  obtain ⟨w1, hw1, hbx, hk1⟩ : ∃ w1, w1 = (W.alloc (.cells #[] 100)).alloc (.cells #[.slice (some ⟨W.heap.size, 0, none⟩) 0 0] 62) ∧ w1.heap[W.heap.size + 1]? = some (.cells #[.slice (some ⟨W.heap.size, 0, none⟩) 0 0] 62 (0, 0)) ∧ Kp W w1 (fun _ => False) := ⟨_, rfl, by rw [← hz1]; exact blk_new _ _, ((Kp.self W _).alloc _).alloc _⟩
  rw [← hw1]
  obtain ⟨x, hx⟩ : ∃ x, W.heap.size + 1 = x := ⟨_, rfl⟩
  rw [hx] at hbx ⊢
  have HX := Aside0.mk hx
  have HI := Aside0.mk (init_calls w1 x _ hbx)
  have HK1 := Aside0.mk hk1
  clear hw1 hbx hk1 hz1 hx
  refine wp_seq_k fun K hK_ => ?_
  have hK := Aside0.mk hK_
  clear hK_
  go_wp2_with (first | (go_at_call 37; refine HI.out.mono ?_; rintro e_ w2 ⟨rfl, g, hg, hM, hK⟩; have HM := Aside0.mk hM; have HG := Aside0.mk hg; have HK2 : Aside0 (Kp W w2 (fun _ => False)) := ⟨(HK1.out.trans hK).mono (fun i hi h => by have := HX.out; rcases h with h | h; exact h; omega)⟩; have HIS2 := Aside0.mk (PB.slices_IsSorted_string_string.calls k _ Nc ss true w2 (Kd.C_below HR.out (kp_below HK2.out)) hc HIS.out); clear hM hg hK) | (go_at_call 39; refine HIS2.out.mono ?_; rintro e_ w3 ⟨rfl, ⟨q3, rfl⟩⟩))
  refine hK.out _ _ ?_
  clear hK K
  refine wp_seq_k fun K hK_ => ?_
  have hK := Aside0.mk hK_
  clear hK_
  go_wp2_with fail
  refine hK.out _ _ ?_
  clear hK K
  refine wp_seq_k fun K hK_ => ?_
  have hK := Aside0.mk hK_
  clear hK_
  go_wp2_with fail
  refine hK.out _ _ ?_
  clear hK K
  refine wp_seq_k fun K hK_ => ?_
  have hK := Aside0.mk hK_
  clear hK_
  go_wp2_with (first | (go_at_call 37; refine HI.out.mono ?_; rintro e_ w2 ⟨rfl, g, hg, hM, hK⟩; have HM := Aside0.mk hM; have HG := Aside0.mk hg; have HK2 : Aside0 (Kp W w2 (fun _ => False)) := ⟨(HK1.out.trans hK).mono (fun i hi h => by have := HX.out; rcases h with h | h; exact h; omega)⟩; have HIS2 := Aside0.mk (PB.slices_IsSorted_string_string.calls k _ Nc ss true w2 (Kd.C_below HR.out (kp_below HK2.out)) hc HIS.out); clear hM hg hK) | (go_at_call 39; refine HIS2.out.mono ?_; rintro e_ w3 ⟨rfl, ⟨q3, rfl⟩⟩))
  refine hK.out _ _ ?_
  clear hK K
  have hm3 := HM.out.drewN q3
  have hk3 := HK2.out.drewN q3
  have hs3 := HS0.out.step hk3 id id
  have hg3 : W.heap.size ≤ g := by have := HK1.out.size; have := HG.out; omega
  have hap : kb ≠ x ∧ kb ≠ g ∧ ib ≠ x ∧ ib ≠ g := by
    have := HS0.out.kl
    have := HS0.out.il
    have := HX.out
    omega
  have HM3 := Aside0.mk hm3
  have HK3 := Aside0.mk hk3
  have HS3 := Aside0.mk hs3
  have HG3 := Aside0.mk hg3
  have HAP := Aside0.mk hap
  clear hm3 hk3 hs3 hg3 hap HM HK2 HIS2 HI HK1
  refine bld_tail _ x g kb ko ib io Nc Dc ss ds HM3 HS3 HNE HOK HAS HT HAP ⟨?_⟩
  intro n12 n13 n62 n63 n64 n65 n66 n67 n68 n69 n70 n71 n72 n73 n74 n75 n76 n77 n78 n79 n80 g' s' w' HB
  (try simp only [Exit.then, Exit.jump])
  exact bodyPost_ret (v := .tuple #[.slice (some ⟨g', 0, none⟩) s'.n s'.n, .nilIface]) (by simp [results, Try.results26, go_sem]) rfl (bld_end HK3.out (by have := HX.out; omega) HG3.out HB.out)
end Go.Proofs.Ytaejkbjepbifcaa.Da
namespace Go.Proofs.Ytaejkbjepbifcaa.Da
open Go.RowKit Go.Proofs.YtaejkbjepbifcaaW.PrintWords
set_option linter.unusedVariables false
set_option linter.unusedSimpArgs false
/-- A row of one-cell elements of the call's own, that is not empty, stands at the head of a block. -/
theorem own_head {α : Type} {d : Kd α} {e : Nat} {w : World} {base : Nat} {ok : Nat → Prop} {v : Value} {xs : List α} (h : Kd.R d e w base ok v xs) (hne : xs ≠ []) : ∃ g c, v = .slice (some ⟨g, 0, none⟩) xs.length c ∧ base ≤ g ∧ g < w.heap.size ∧ xs.length ≤ c ∧ Kd.C d w (some ⟨g, 0, none⟩) xs.length xs := by
  obtain ⟨inner, ho⟩ := Kd.R_own h
  have hp : 0 < xs.length := List.length_pos_iff.2 hne
  rcases ho.2 with ⟨_, h0⟩ | ⟨g, cap, cur, rfl, h2, h3, h4, h5, h6, h7⟩
  · omega
  · obtain ⟨A, c, e1, l1, g1⟩ := Kd.R_reads h
    injection e1 with e1 e2 e3
    subst e1
    subst e3
    exact ⟨g, _, rfl, h2, (Array.getElem?_eq_some_iff.1 h3).1, l1, g1⟩
theorem add_at0 (g j : Nat) : (⟨g, 0, none⟩ : Addr).add j = ⟨g, 0 + j, none⟩ := by unfold Addr.add; split <;> simp_all
theorem int_cell {W : World} {A : Option Addr} {ds : List Int} (h : Kd.C (Kd.int .i64) W A ds.length ds) (j : Nat) (hj : j < ds.length) : ∃ ad, A = some ad ∧ W.cell? (ad.add j) = some (.int .i64 (ds.getD j 0)) := by
  obtain ⟨ad, c, e, _, hK, hc0⟩ := Kd.C_get h 0 (j : Int) (by omega) (by omega)
  have hK : c = [.int .i64 _] := hK
  subst hK
  have := hc0 0 _ rfl
  rw [Int.toNat_natCast] at this
  have e1 : (Kd.int .i64).sz = 1 := rfl
  rw [e1, Nat.mul_one, Nat.add_zero] at this
  exact ⟨ad, e, this⟩
/-- What is asked of keys and identifiers. -/
structure KeysOk (ss : List ByteArray) (ds : List Int) : Prop where
  ne : ss ≠ []
  len : ds.length = ss.length
  few : ss.length ≤ 1000000
  sz : ∀ t ∈ ss, t.size ≤ 1000000000
  dsb : ∀ d ∈ ds, 0 ≤ d ∧ d ≤ 2147483647
  ok : Okk (keysAll ss ds)
  asc : Asc (keysAll ss ds)
  tot : tot (keysAll ss ds) ≤ 32000
theorem src_of {W : World} {kb ib : Nat} {ss : List ByteArray} {ds : List Int} (k : KeysOk ss ds) (h1 : Kd.C Kd.string W (some ⟨kb, 0, none⟩) ss.length ss) (h2 : Kd.C (Kd.int .i64) W (some ⟨ib, 0, none⟩) ds.length ds) (hk : kb < W.heap.size) (hi : ib < W.heap.size) : Src W kb 0 ss ib 0 ds :=
  ⟨fun j hj => by
    obtain ⟨ad, e, h⟩ := str_cell h1 j hj
    cases e
    rw [add_at0] at h
    exact h, fun j hj => by
    obtain ⟨ad, e, h⟩ := int_cell h2 j hj
    cases e
    rw [add_at0] at h
    exact h, hk, hi, k.len, k.few, k.sz, k.dsb⟩
theorem clone_strs (ss : List ByteArray) (h : ss.length ≤ 1000000) : PB.slices_Clone_string_string.f ss = some ss := by
  unfold PB.slices_Clone_string_string.f
  simp only [Option.bind_some, List.nil_append, List.length_nil, Nat.zero_add]
  rw [if_pos (by omega)]
end Go.Proofs.Ytaejkbjepbifcaa.Da
namespace Go.Proofs.Ytaejkbjepbifcaa.Da
open Go.RowKit Go.Proofs.YtaejkbjepbifcaaW.PrintWords Go.Proofs.Ytaejkbjepbifcaa.Plain
set_option linter.unusedVariables false
set_option linter.unusedSimpArgs false
/-- Some answer, and what follows when it is yes. -/
def Tru (g : Nat → Option Bool) (P : Prop) : Prop := ∃ r, Ev g r ∧ (r = true → P)
theorem wrap_up (i : Nat) (h : i ≤ 4611686018427387904) : wrap64 ((i : Int) + 1) = ((i + 1 : Nat) : Int) := by unfold wrap64; omega
theorem wrap_dn (i : Nat) (h0 : 1 ≤ i) (h : i ≤ 4611686018427387904) : wrap64 ((i : Int) - 1) = ((i - 1 : Nat) : Int) := by unfold wrap64; omega
theorem rdOf_nat {α : Type} (d : α) (l : List α) (i : Nat) : rdOf d l (i : Int) = l.getD i d := by unfold rdOf; rw [Int.toNat_natCast]
/-- Sizes that fit. -/
def Fits (l : List ByteArray) : Prop := l.length ≤ 2147483647 ∧ ∀ t ∈ l, t.size ≤ 2147483647
theorem getD_mem {α : Type} {l : List α} {i : Nat} (d : α) (h : i < l.length) : l.getD i d ∈ l := by
  rw [List.getD_eq_getElem?_getD, List.getElem?_eq_getElem h]; exact List.getElem_mem h
theorem all_getD {α : Type} {l : List α} (d : α) {P : α → Prop} (h : ∀ j, j < l.length → P (l.getD j d)) : ∀ x ∈ l, P x := by
  intro x hx
  obtain ⟨j, hj, rfl⟩ := List.getElem_of_mem hx
  have := h j hj
  rw [List.getD_eq_getElem?_getD, List.getElem?_eq_getElem hj] at this
  exact this
theorem zf_key (l : List ByteArray) (hl : l.length ≤ 4611686018427387904) : ∀ d i, i + d = l.length → ∃ r, Ev (fun k => PB.laws_zzFits3.l0 k l (l.length : Int) (i : Int)) r ∧ (r = true → ∀ j, i ≤ j → j < l.length → (l.getD j ByteArray.empty).size ≤ 2147483647)
  | 0, i, h => ⟨true, Ev.step (fun k => by rw [PB.laws_zzFits3.l0]) (evn (by omega) (Ev.now true)), fun _ j h1 h2 => by omega⟩
  | d + 1, i, h => by
    obtain ⟨r, hr, hp⟩ := zf_key l hl d (i + 1) (by omega)
    by_cases hs : ((l.getD i ByteArray.empty).size : Int) > 2147483647
    · exact ⟨false, Ev.step (fun k => by rw [PB.laws_zzFits3.l0]) (evp (by omega) (evp (by omega) (evp (by omega) (evp (by rw [rdOf_nat]; exact hs) (Ev.now false))))), fun h => by cases h⟩
    · refine ⟨r, Ev.step (fun k => by rw [PB.laws_zzFits3.l0]) (evp (by omega) (evp (by omega) (evp (by omega) (evn (by rw [rdOf_nat]; exact hs) (by rw [wrap_up i (by omega)]; exact hr))))), fun h j h1 h2 => ?_⟩
      by_cases e : j = i
      · subst e; omega
      · exact hp h j (by omega) h2
theorem zf_ev (l : List ByteArray) (hl : l.length ≤ 4611686018427387904) : Tru (fun k => PB.laws_zzFits3.f k l) (Fits l) := by
  unfold PB.laws_zzFits3.f
  by_cases h : (l.length : Int) > 2147483647
  · exact ⟨false, evp h (Ev.now false), fun h => by cases h⟩
  · obtain ⟨r, hr, hp⟩ := zf_key l hl l.length 0 (by omega)
    exact ⟨r, evn h hr, fun e => ⟨by omega, all_getD _ (fun j hj => hp e j (Nat.zero_le _) hj)⟩⟩
/-- The texts' bytes, each with one more. -/
def wt (l : List ByteArray) : Nat := (l.map (fun t => t.size + 1)).sum
theorem wt_drop {l : List ByteArray} {j : Nat} (h : j < l.length) : wt (l.drop j) = (l.getD j ByteArray.empty).size + 1 + wt (l.drop (j + 1)) := by
  rw [List.drop_eq_getElem_cons h, List.getD_eq_getElem?_getD, List.getElem?_eq_getElem h]
  unfold wt
  rw [List.map_cons, List.sum_cons]
  rfl
theorem wt_le {l : List ByteArray} (h : Fits l) (j : Nat) : wt (l.drop j) ≤ 2147483648 * 2147483647 := by
  have key : ∀ m : List ByteArray, (∀ t ∈ m, t.size ≤ 2147483647) → wt m ≤ 2147483648 * m.length := by
    intro m
    induction m with
    | nil => intro _; simp [wt]
    | cons t m ih =>
      intro hm
      have h1 := hm t List.mem_cons_self
      have h2 := ih (fun x hx => hm x (List.mem_cons_of_mem _ hx))
      simp only [wt, List.map_cons, List.sum_cons, List.length_cons] at h2 ⊢
      omega
  have h1 := key (l.drop j) (fun t ht => h.2 t (List.mem_of_mem_drop ht))
  have h2 := h.1
  rw [List.length_drop] at h1
  have : 2147483648 * (l.length - j) ≤ 2147483648 * 2147483647 := Nat.mul_le_mul_left _ (by omega)
  omega
theorem few_in (ls : List (List ByteArray)) (i : Nat) (hi : i < ls.length) (hf : Fits (ls.getD i [])) (r : Bool) (hls : ls.length ≤ 4) : ∀ d j n, j + d = (ls.getD i []).length → n + wt ((ls.getD i []).drop j) ≤ 9223372036854775807 →
    Ev (fun k => PB.laws_few.l0 k ls ((n + wt ((ls.getD i []).drop j) : Nat) : Int) (ls.length : Int) ((i + 1 : Nat) : Int)) r → Ev (fun k => PB.laws_few.l1 k ls (n : Int) (i : Int) (ls.length : Int) (i : Int) ((PB.rd_L1 ls (i : Int)).length : Int) (j : Int)) r
  | 0, j, n, h, hn, hr => by
    have e : PB.rd_L1 ls (i : Int) = ls.getD i [] := by unfold PB.rd_L1; rw [Int.toNat_natCast]
    refine Ev.step (fun k => by rw [PB.laws_few.l1]) (evn (by rw [e]; omega) ?_)
    rw [wrap_up i (by omega)]
    rw [List.drop_eq_nil_of_le (by omega)] at hr
    exact hr
  | d + 1, j, n, h, hn, hr => by
    have e : PB.rd_L1 ls (i : Int) = ls.getD i [] := by unfold PB.rd_L1; rw [Int.toNat_natCast]
    have hj : j < (ls.getD i []).length := by omega
    have hsz := hf.2 _ (getD_mem ByteArray.empty hj)
    have hl := hf.1
    have hw := wt_drop hj
    have ih := few_in ls i hi hf r hls d (j + 1) (n + (((ls.getD i []).getD j ByteArray.empty).size + 1)) (by omega) (by omega) (by rw [hw] at hr; rw [show n + (((ls.getD i []).getD j ByteArray.empty).size + 1) + wt ((ls.getD i []).drop (j + 1)) = n + (((ls.getD i []).getD j ByteArray.empty).size + 1 + wt ((ls.getD i []).drop (j + 1))) by omega]; exact hr)
    refine Ev.step (fun k => by rw [PB.laws_few.l1]) (evp (by rw [e]; omega) (evp (by omega) (evp (by omega) (evp (by omega) (evp (by rw [e]; omega) ?_)))))
    have e1 : wrap64 ((n : Int) + wrap64 (((rdOf ByteArray.empty (PB.rd_L1 ls (i : Int)) (j : Int)).size : Int) + 1)) = ((n + (((ls.getD i []).getD j ByteArray.empty).size + 1) : Nat) : Int) := by
      rw [e, rdOf_nat, wrap_ok (i := (((ls.getD i []).getD j ByteArray.empty).size : Int) + 1) (by omega) (by omega), wrap_ok (by omega) (by omega)]
      omega
    rw [e1, wrap_up j (by omega)]
    exact ih
def wts (ls : List (List ByteArray)) : Nat := (ls.map wt).sum
theorem few_key (ls : List (List ByteArray)) (hf : ∀ l ∈ ls, Fits l) (hls : ls.length ≤ 4) : ∀ d i n, i + d = ls.length → n + wts (ls.drop i) ≤ 9223372036854775807 →
    Ev (fun k => PB.laws_few.l0 k ls (n : Int) (ls.length : Int) (i : Int)) (decide (n + wts (ls.drop i) ≤ 4000))
  | 0, i, n, h, hn => by
    rw [List.drop_eq_nil_of_le (by omega)]
    refine Ev.step (fun k => by rw [PB.laws_few.l0]) (evn (by omega) ?_)
    have : decide ((n : Int) ≤ 4000) = decide (n + wts [] ≤ 4000) := by
      simp only [wts, List.map_nil, List.sum_nil, Nat.add_zero]
      apply decide_eq_decide.2
      omega
    rw [this]
    exact Ev.now _
  | d + 1, i, n, h, hn => by
    have hi : i < ls.length := by omega
    have e : wts (ls.drop i) = wt (ls.getD i []) + wts (ls.drop (i + 1)) := by
      rw [List.drop_eq_getElem_cons hi, List.getD_eq_getElem?_getD, List.getElem?_eq_getElem hi]
      unfold wts
      rw [List.map_cons, List.sum_cons]
      rfl
    have ih := few_key ls hf hls d (i + 1) (n + wt (ls.getD i [])) (by omega) (by omega)
    have hin := few_in ls i hi (hf _ (getD_mem [] hi)) _ hls (ls.getD i []).length 0 n (by omega) (by rw [List.drop_zero]; omega) (by rw [List.drop_zero]; exact ih)
    rw [e, ← Nat.add_assoc]
    rw [show ((0 : Nat) : Int) = 0 from rfl] at hin
    exact Ev.step (fun k => by rw [PB.laws_few.l0]) (evp (by omega) (evp (by omega) (evp (by omega) hin)))
theorem wt_fits {l : List ByteArray} (h : Fits l) : wt l ≤ 4611686016279904256 := by have := wt_le h 0; rw [List.drop_zero] at this; omega
theorem few_ev2 (a b : List ByteArray) (ha : Fits a) (hb : Fits b) : Ev (fun k => PB.laws_few.f k [a, b]) (decide (wt a + wt b ≤ 4000)) := by
  have h1 := wt_fits ha
  have h2 := wt_fits hb
  have := few_key [a, b] (by intro l hl; simp at hl; rcases hl with rfl | rfl <;> assumption) (by simp) 2 0 0 rfl (by simp [wts]; omega)
  simpa [wts, PB.laws_few.f] using this
theorem bt_nat (t : ByteArray) (i : Nat) (h : i < t.size) : bt t (i : Int) = (bs t).getD i 0 := by
  rw [bs_at t i h]
  unfold bt
  rw [dif_pos (by simpa using h)]
  simp
theorem within_key (t : ByteArray) (ht : t.size ≤ 4611686018427387904) : ∀ d i, i + d = t.size → ∃ r, Ev (fun k => PB.laws_within.l0 k t 0 (t.size : Int) (i : Int)) r ∧ (r = false → ∀ j, i ≤ j → j < t.size → (bs t).getD j 0 ≠ 0)
  | 0, i, h => ⟨false, Ev.step (fun k => by rw [PB.laws_within.l0]) (evn (by omega) (Ev.now false)), fun _ j h1 h2 => by omega⟩
  | d + 1, i, h => by
    obtain ⟨r, hr, hp⟩ := within_key t ht d (i + 1) (by omega)
    by_cases hs : bt t (i : Int) = 0
    · exact ⟨true, Ev.step (fun k => by rw [PB.laws_within.l0]) (evp (by omega) (evp (by omega) (evp (by omega) (evp hs (Ev.now true))))), fun h => by cases h⟩
    · refine ⟨r, Ev.step (fun k => by rw [PB.laws_within.l0]) (evp (by omega) (evp (by omega) (evp (by omega) (evn hs (by rw [wrap_up i (by omega)]; exact hr))))), fun h j h1 h2 => ?_⟩
      by_cases e : j = i
      · subst e; rw [← bt_nat t j (by omega)]; exact hs
      · exact hp h j (by omega) h2
theorem bs_range (t : ByteArray) : ∀ c ∈ bs t, 0 ≤ c ∧ c ≤ 255 := by
  intro c hc
  unfold bs at hc
  obtain ⟨b, _, rfl⟩ := List.mem_map.1 hc
  have := b.toNat_lt
  omega
theorem cln_of {t : ByteArray} (h : ∀ j, j < t.size → (bs t).getD j 0 ≠ 0) : Cln t := by
  intro c hc
  have hr := bs_range t c hc
  have h1 : c ≠ 0 := all_getD (P := fun c => c ≠ 0) 0 (fun j hj => h j (by rw [bs_len] at hj; exact hj)) c hc
  unfold Okc
  omega
theorem within_ev (t : ByteArray) (ht : t.size ≤ 4611686018427387904) : ∃ r, Ev (fun k => PB.laws_within.f k t 0) r ∧ (r = false → Cln t) := by
  obtain ⟨r, hr, hp⟩ := within_key t ht t.size 0 (by omega)
  exact ⟨r, hr, fun e => cln_of (fun j hj => hp e j (Nat.zero_le _) hj)⟩
theorem clean_key (l : List ByteArray) (hl : Fits l) : ∀ d i, i + d = l.length → ∃ r, Ev (fun k => PB.laws_clean.l0 k l (l.length : Int) (i : Int)) r ∧ (r = true → ∀ j, i ≤ j → j < l.length → Cln (l.getD j ByteArray.empty))
  | 0, i, h => ⟨true, Ev.step (fun k => by rw [PB.laws_clean.l0]) (evn (by omega) (Ev.now true)), fun _ j h1 h2 => by omega⟩
  | d + 1, i, h => by
    have hl1 := hl.1
    obtain ⟨r, hr, hp⟩ := clean_key l hl d (i + 1) (by omega)
    have hm := hl.2 _ (getD_mem ByteArray.empty (show i < l.length by omega))
    obtain ⟨rw_, hw, hwp⟩ := within_ev (l.getD i ByteArray.empty) (by omega)
    cases rw_ with
    | true => exact ⟨false, Ev.step (fun k => by rw [PB.laws_clean.l0]) (evp (by omega) (evp (by omega) (evp (by omega) (by rw [rdOf_nat]; exact Ev.bind hw (evp rfl (Ev.now false)))))), fun h => by cases h⟩
    | false =>
      refine ⟨r, Ev.step (fun k => by rw [PB.laws_clean.l0]) (evp (by omega) (evp (by omega) (evp (by omega) (by rw [rdOf_nat]; exact Ev.bind hw (evn (by simp) (by rw [wrap_up i (by omega)]; exact hr)))))), fun h j h1 h2 => ?_⟩
      by_cases e : j = i
      · subst e; exact hwp rfl
      · exact hp h j (by omega) h2
theorem clean_ev (l : List ByteArray) (hl : Fits l) : Tru (fun k => PB.laws_clean.f k l) (∀ t ∈ l, Cln t) := by
  obtain ⟨r, hr, hp⟩ := clean_key l hl l.length 0 (by omega)
  exact ⟨r, hr, fun e => all_getD _ (fun j hj => hp e j (Nat.zero_le _) hj)⟩
/-- Ascending, none empty, none with a byte 0. -/
structure Ord (l : List ByteArray) (strict : Bool) : Prop where
  cln : ∀ t ∈ l, Cln t
  ne : ∀ t ∈ l, t.toList ≠ []
  up : ∀ i, i + 1 < l.length → Op.bytesLess (l.getD (i + 1) ByteArray.empty).toList (l.getD i ByteArray.empty).toList = false
  str : strict = true → ∀ i, i + 1 < l.length → (l.getD (i + 1) ByteArray.empty).toList ≠ (l.getD i ByteArray.empty).toList
  pos : l ≠ []
end Go.Proofs.Ytaejkbjepbifcaa.Da
namespace Go.Proofs.Ytaejkbjepbifcaa.Da
open Go.RowKit Go.Proofs.YtaejkbjepbifcaaW.PrintWords Go.Proofs.Ytaejkbjepbifcaa.Plain
set_option linter.unusedVariables false
set_option linter.unusedSimpArgs false
theorem le_of_not : ∀ (x y : List UInt8), ¬ y < x → le (x.map (fun b => (b.toNat : Int))) (y.map (fun b => (b.toNat : Int)))
  | [], _, _ => trivial
  | a :: x, [], h => absurd (List.nil_lt_cons a x) h
  | a :: x, b :: y, h => by
    rw [List.cons_lt_cons_iff] at h
    show (a.toNat : Int) < b.toNat ∨ ((a.toNat : Int) = b.toNat ∧ le _ _)
    by_cases e : a = b
    · subst e
      exact Or.inr ⟨rfl, le_of_not x y (fun h2 => h (Or.inr ⟨rfl, h2⟩))⟩
    · left
      have h1 : ¬ b < a := fun h2 => h (Or.inl h2)
      rw [UInt8.lt_iff_toNat_lt] at h1
      have h2 : a.toNat ≠ b.toNat := fun h2 => e (UInt8.toNat_inj.1 h2)
      omega
theorem up_le {l : List ByteArray} (h : ∀ i, i + 1 < l.length → Op.bytesLess (l.getD (i + 1) ByteArray.empty).toList (l.getD i ByteArray.empty).toList = false) : ∀ d i, i + d < l.length → ¬ (l.getD (i + d) ByteArray.empty).toList < (l.getD i ByteArray.empty).toList
  | 0, i, _ => List.lt_irrefl _
  | d + 1, i, hd => by
    have ih := up_le h d i (by omega)
    have h1 := h (i + d) (by omega)
    rw [Own.bl_eq, decide_eq_false_iff_not] at h1
    rw [show i + (d + 1) = i + d + 1 by omega]
    have a : (l.getD i ByteArray.empty).toList ≤ (l.getD (i + d) ByteArray.empty).toList := List.not_lt.1 ih
    have b : (l.getD (i + d) ByteArray.empty).toList ≤ (l.getD (i + d + 1) ByteArray.empty).toList := List.not_lt.1 h1
    exact List.not_lt.2 (List.le_trans a b)
theorem le_words {l : List ByteArray} (h : ∀ i, i + 1 < l.length → Op.bytesLess (l.getD (i + 1) ByteArray.empty).toList (l.getD i ByteArray.empty).toList = false) {i j : Nat} (hij : i < j) (hj : j < l.length) : le (word l i) (word l j) := by
  have := up_le h (j - i) i (by omega)
  rw [show i + (j - i) = j by omega, Lib.toList_data, Lib.toList_data] at this
  exact le_of_not _ _ this
theorem wt_len (l : List ByteArray) : l.length ≤ wt l := by
  induction l with
  | nil => exact Nat.le_refl _
  | cons t l ih => simp only [wt, List.map_cons, List.sum_cons, List.length_cons] at ih ⊢; omega
theorem wt_mem {l : List ByteArray} {t : ByteArray} (h : t ∈ l) : t.size ≤ wt l := by
  induction l with
  | nil => cases h
  | cons u l ih =>
    simp only [wt, List.map_cons, List.sum_cons] at ih ⊢
    rcases List.mem_cons.1 h with rfl | h
    · omega
    · have := ih h; omega
theorem tot_wt (ss : List ByteArray) (ds : List Int) : tot (keysAll ss ds) ≤ wt ss := by
  have key : ∀ n, n ≤ ss.length → ((List.range n).map (fun z => (word ss z).length)).sum ≤ wt (ss.take n) := by
    intro n
    induction n with
    | zero => intro _; exact Nat.zero_le _
    | succ n ih =>
      intro hn
      have := ih (by omega)
      rw [List.range_succ, List.map_append, List.sum_append, List.take_succ_eq_append_getElem (by omega)]
      unfold wt at this ⊢
      rw [List.map_append, List.sum_append]
      have e : (word ss n).length = (ss[n]'(by omega)).size := by
        unfold word
        rw [bs_len, List.getD_eq_getElem?_getD, List.getElem?_eq_getElem (by omega)]; rfl
      simp only [List.map_cons, List.map_nil, List.sum_cons, List.sum_nil, e]
      omega
  have := key ss.length (Nat.le_refl _)
  rw [List.take_length] at this
  refine Nat.le_trans (Nat.le_of_eq ?_) this
  unfold tot keysAll keysOf
  rw [List.map_map]
  congr 1
theorem keys_ok2 {ss : List ByteArray} {ds : List Int} (hw : wt ss ≤ 4000) (hpos : ss ≠ []) (hcln : ∀ t ∈ ss, Cln t) (hup : ∀ i, i + 1 < ss.length → Op.bytesLess (ss.getD (i + 1) ByteArray.empty).toList (ss.getD i ByteArray.empty).toList = false) (hl : ds.length = ss.length) (hd : ∀ d ∈ ds, 0 ≤ d ∧ d ≤ 2147483647) : KeysOk ss ds := by
  have h1 := wt_len ss
  refine ⟨hpos, hl, by omega, fun t ht => by have := wt_mem ht; omega, hd, ?_, ?_, by have := tot_wt ss ds; omega⟩
  · intro k hk
    obtain ⟨z, hz, rfl⟩ := List.mem_map.1 hk
    show Okw ((word ss z).drop 0)
    rw [List.drop_zero]
    exact hcln _ (getD_mem _ (List.mem_range.1 hz))
  · show List.Pairwise _ ((List.range ss.length).map _)
    rw [List.pairwise_map]
    refine List.pairwise_lt_range.imp_of_mem (fun {a b} ha hb hab => ?_)
    show le ((word ss a).drop 0) ((word ss b).drop 0)
    rw [List.drop_zero, List.drop_zero]
    exact le_words hup hab (List.mem_range.1 hb)
theorem nan_f (a : ByteArray) : PB.cmp_isNaN_string.f a = some false := by simp [PB.cmp_isNaN_string.f]
theorem less_f (a b : ByteArray) : PB.cmp_Less_string.f a b = some (Op.bytesLess a.toList b.toList) := by simp [PB.cmp_Less_string.f, nan_f]
theorem sorted_key (l : List ByteArray) (hl : l.length ≤ 4611686018427387904) (h : ∀ i, i + 1 < l.length → Op.bytesLess (l.getD (i + 1) ByteArray.empty).toList (l.getD i ByteArray.empty).toList = false) : ∀ i, i < l.length → Ev (fun k => PB.slices_IsSorted_string_string.l0 k l (i : Int)) true
  | 0, hi => Ev.step (fun k => by rw [PB.slices_IsSorted_string_string.l0]) (evn (by omega) (Ev.now true))
  | i + 1, hi => by
    have ih := sorted_key l hl h i (by omega)
    have e : wrap64 (((i + 1 : Nat) : Int) - 1) = (i : Int) := by rw [wrap_dn (i + 1) (by omega) (by omega)]; rfl
    refine Ev.step (fun k => by rw [PB.slices_IsSorted_string_string.l0]) (evp (by omega) (evp (by omega) (evp (by omega) (evp (by rw [e]; omega) (evp (by rw [e]; omega) ?_)))))
    rw [e, rdOf_nat, rdOf_nat, less_f, h i hi]
    exact Ev.bind (Ev.now false) (evn (by simp) ih)
theorem sorted_ev (l : List ByteArray) (h0 : l ≠ []) (hl : l.length ≤ 4611686018427387904) (h : ∀ i, i + 1 < l.length → Op.bytesLess (l.getD (i + 1) ByteArray.empty).toList (l.getD i ByteArray.empty).toList = false) : ∃ k, PB.slices_IsSorted_string_string.f k l = some true := by
  have hp := List.length_pos_iff.2 h0
  have := sorted_key l hl h (l.length - 1) (by omega)
  have e : wrap64 ((l.length : Int) - 1) = ((l.length - 1 : Nat) : Int) := wrap_dn _ (by omega) hl
  obtain ⟨k, hk⟩ := this.rounds
  exact ⟨k, by unfold PB.slices_IsSorted_string_string.f; rw [e]; exact hk⟩
/-- The same lists. -/
theorem same_key (l : List PB.S39) (hl : l.length ≤ 4611686018427387904) : ∀ d i, i + d = l.length → Ev (fun k => PB.impl_Hit.l0 k l l (l.length : Int) (i : Int)) true
  | 0, i, h => Ev.step (fun k => by rw [PB.impl_Hit.l0]) (evn (by omega) (Ev.now true))
  | d + 1, i, h => by
    have ih := same_key l hl d (i + 1) (by omega)
    exact Ev.step (fun k => by rw [PB.impl_Hit.l0]) (evp (by omega) (evp (by omega) (evp (by omega) (evp (by omega) (evn (by simp) (by rw [wrap_up i (by omega)]; exact ih))))))
theorem same_ev (l : List PB.S39) (hl : l.length ≤ 4611686018427387904) : Ev (fun k => PB.impl_Hit.f k l l) true := by
  have := same_key l hl l.length 0 (by omega)
  exact evp rfl this
end Go.Proofs.Ytaejkbjepbifcaa.Da
namespace Go.Proofs.Ytaejkbjepbifcaa.Da
open Go.RowKit Go.Proofs.YtaejkbjepbifcaaW.PrintWords Go.Proofs.Ytaejkbjepbifcaa.Plain
set_option linter.unusedVariables false
set_option linter.unusedSimpArgs false
abbrev ta : ByteArray := { data := #[97] }
theorem cln_a : Cln ta := by intro c hc; have : c = 97 := by simpa [bs, ta] using hc
                             subst this; unfold Okc; omega
theorem new1 {α : Type} {enc : α → Value} {h1 : ∀ x, (enc x).oneCell' = true} (w : World) (b : Nat) (hb : b = w.heap.size) (xs : List α) (e : TypeId) (cs : Array Value) (hcs : cs = (xs.map enc).toArray) (hm : xs.length ≤ 9223372036854775807) :
    (Kd.scalar enc h1).C (w.alloc (.cells cs e (0, 0))) (some ⟨b, 0, none⟩) xs.length xs := by
  subst hb
  exact Own.C_alloc_new w xs e (0, 0) cs hcs hm
theorem row_reads {α : Type} {d : Kd α} {e : Nat} {w : World} {base : Nat} {ok : Nat → Prop} {A : Option Addr} {n c : Nat} {xs : List α} (h : Kd.R d e w base ok (.slice A n c) xs) : xs.length ≤ c ∧ Kd.C d w A xs.length xs := by
  obtain ⟨A', c', e1, l1, g1⟩ := Kd.R_reads h
  cases e1
  exact ⟨l1, g1⟩
end Go.Proofs.Ytaejkbjepbifcaa.Da
namespace Go.Proofs.Ytaejkbjepbifcaa.Da
open Go.RowKit Go.Proofs.YtaejkbjepbifcaaW.PrintWords Go.Proofs.Ytaejkbjepbifcaa.Plain
set_option linter.unusedVariables false
set_option linter.unusedSimpArgs false
theorem new_two (w : World) (g : Nat) (hg : g = w.heap.size) (A0 A1 : Option Addr) (c0 c1 n0 n1 : Nat) (a b : List ByteArray) (h0 : n0 = a.length) (h1 : n1 = b.length) (ha : Kd.C Kd.string w A0 a.length a) (hca : a.length ≤ c0) (hb : Kd.C Kd.string w A1 b.length b) (hcb : b.length ≤ c1) :
    Kd.C (Kd.slice 9 Kd.string) (w.alloc (.cells #[.slice A0 n0 c0, .slice A1 n1 c1] 22 (0, 0))) (some ⟨g, 0, none⟩) [a, b].length [a, b] := by
  subst h0
  subst h1
  refine Own.C_new1 (d := Kd.slice 9 Kd.string) rfl w g hg 22 (0, 0) [.slice A0 a.length c0, .slice A1 b.length c1] [a, b] rfl (by simp) (fun j p u hp hu => ?_)
  have hb2 := below_alloc (Below.refl w.heap.size w) (.cells #[.slice A0 a.length c0, .slice A1 b.length c1] 22 (0, 0))
  have hj : j < 2 := by have := (List.getElem?_eq_some_iff.1 hp).1; simpa using this
  rcases (show j = 0 ∨ j = 1 by omega) with rfl | rfl <;> simp at hp hu <;> subst hp <;> subst hu
  · exact ⟨A0, c0, rfl, hca, Kd.C_below ha hb2⟩
  · exact ⟨A1, c1, rfl, hcb, Kd.C_below hb hb2⟩
theorem size_at (w : World) (o : Obj) (n : Nat) (h : n = w.heap.size) : n + 1 = (w.alloc o).heap.size := by rw [h]; exact (Own.size_alloc _ _).symm
end Go.Proofs.Ytaejkbjepbifcaa.Da
namespace Go.Proofs.Ytaejkbjepbifcaa.PB
open Go.RowKit Go.Proofs.YtaejkbjepbifcaaW.PrintWords Go.Proofs.YtaejkbjepbifcaaW.PrintLast Go.Proofs.YtaejkbjepbifcaaW.PrintMore
attribute [local go_sem] max2_int min2_int max_two min_two max_three min_three max_four min_four   -- for this text's walks alone
set_option linter.unusedVariables false
set_option linter.unusedSimpArgs false

abbrev mk0 : Array Bool := #[false, false, false, false, false, false, false, false, false, false, false, false, false, false, false, false, false, false, false, false, false, false, false, false, false, false, false, false, false, false, false, false, false, false, false, false, false, false, false, false, false, false, false, false, false]
abbrev mk1 : Array Bool := #[true, false, false, false, false, false, false, false, false, false, false, false, false, false, false, false, false, false, false, false, false, false, false, false, false, false, false, false, false, false, false, false, false, false, false, false, false, false, false, false, false, false, false, false, false]
abbrev mk2 : Array Bool := #[true, true, false, false, false, false, false, false, false, false, false, false, false, false, false, false, false, false, false, false, false, false, false, false, false, false, false, false, false, false, false, false, false, false, false, false, false, false, false, false, false, false, false, false, false]
abbrev mk3 : Array Bool := #[true, true, true, false, false, false, false, false, false, false, false, false, false, false, false, false, false, false, false, false, false, false, false, false, false, false, false, false, false, false, false, false, false, false, false, false, false, false, false, false, false, false, false, false, false]
abbrev mk4 : Array Bool := #[true, true, true, true, false, false, false, false, false, false, false, false, false, false, false, false, false, false, false, false, false, false, false, false, false, false, false, false, false, false, false, false, false, false, false, false, false, false, false, false, false, false, false, false, false]
abbrev mk5 : Array Bool := #[true, true, true, true, true, false, false, false, false, false, false, false, false, false, false, false, false, false, false, false, false, false, false, false, false, false, false, false, false, false, false, false, false, false, false, false, false, false, false, false, false, false, false, false, false]
abbrev mk6 : Array Bool := #[true, true, true, true, true, true, false, false, false, false, false, false, false, false, false, false, false, false, false, false, false, false, false, false, false, false, false, false, false, false, false, false, false, false, false, false, false, false, false, false, false, false, false, false, false]
abbrev mk7 : Array Bool := #[true, true, true, true, true, true, true, false, false, false, false, false, false, false, false, false, false, false, false, false, false, false, false, false, false, false, false, false, false, false, false, false, false, false, false, false, false, false, false, false, false, false, false, false, false]
abbrev mk8 : Array Bool := #[true, true, true, true, true, true, true, true, false, false, false, false, false, false, false, false, false, false, false, false, false, false, false, false, false, false, false, false, false, false, false, false, false, false, false, false, false, false, false, false, false, false, false, false, false]
abbrev mk9 : Array Bool := #[true, true, true, true, true, true, true, true, true, false, false, false, false, false, false, false, false, false, false, false, false, false, false, false, false, false, false, false, false, false, false, false, false, false, false, false, false, false, false, false, false, false, false, false, false]
abbrev mk10 : Array Bool := #[true, true, true, true, true, true, true, true, true, true, false, false, false, false, false, false, false, false, false, false, false, false, false, false, false, false, false, false, false, false, false, false, false, false, false, false, false, false, false, false, false, false, false, false, false]
abbrev mk11 : Array Bool := #[true, true, true, true, true, true, true, true, true, true, true, false, false, false, false, false, false, false, false, false, false, false, false, false, false, false, false, false, false, false, false, false, false, false, false, false, false, false, false, false, false, false, false, false, false]
abbrev mk12 : Array Bool := #[true, true, true, true, true, true, true, true, true, true, true, true, false, false, false, false, false, false, false, false, false, false, false, false, false, false, false, false, false, false, false, false, false, false, false, false, false, false, false, false, false, false, false, false, false]
abbrev mk13 : Array Bool := #[true, true, true, true, true, true, true, true, true, true, true, true, true, false, false, false, false, false, false, false, false, false, false, false, false, false, false, false, false, false, false, false, false, false, false, false, false, false, false, false, false, false, false, false, false]
abbrev mk14 : Array Bool := #[true, true, true, true, true, true, true, true, true, true, true, true, true, true, false, false, false, false, false, false, false, false, false, false, false, false, false, false, false, false, false, false, false, false, false, false, false, false, false, false, false, false, false, false, false]
abbrev mk15 : Array Bool := #[true, true, true, true, true, true, true, true, true, true, true, true, true, true, true, false, false, false, false, false, false, false, false, false, false, false, false, false, false, false, false, false, false, false, false, false, false, false, false, false, false, false, false, false, false]
abbrev mk16 : Array Bool := #[true, true, true, true, true, true, true, true, true, true, true, true, true, true, true, true, false, false, false, false, false, false, false, false, false, false, false, false, false, false, false, false, false, false, false, false, false, false, false, false, false, false, false, false, false]
abbrev mk17 : Array Bool := #[true, true, true, true, true, true, true, true, true, true, true, true, true, true, true, true, true, false, false, false, false, false, false, false, false, false, false, false, false, false, false, false, false, false, false, false, false, false, false, false, false, false, false, false, false]
abbrev mk18 : Array Bool := #[true, true, true, true, true, true, true, true, true, true, true, true, true, true, true, true, true, true, false, false, false, false, false, false, false, false, false, false, false, false, false, false, false, false, false, false, false, false, false, false, false, false, false, false, false]
abbrev mk19 : Array Bool := #[true, true, true, true, true, true, true, true, true, true, true, true, true, true, true, true, true, true, true, false, false, false, false, false, false, false, false, false, false, false, false, false, false, false, false, false, false, false, false, false, false, false, false, false, false]
abbrev mk20 : Array Bool := #[true, true, true, true, true, true, true, true, true, true, true, true, true, true, true, true, true, true, true, true, false, false, false, false, false, false, false, false, false, false, false, false, false, false, false, false, false, false, false, false, false, false, false, false, false]
abbrev mk21 : Array Bool := #[true, true, true, true, true, true, true, true, true, true, true, true, true, true, true, true, true, true, true, true, true, false, false, false, false, false, false, false, false, false, false, false, false, false, false, false, false, false, false, false, false, false, false, false, false]
abbrev mk22 : Array Bool := #[true, true, true, true, true, true, true, true, true, true, true, true, true, true, true, true, true, true, true, true, true, true, false, false, false, false, false, false, false, false, false, false, false, false, false, false, false, false, false, false, false, false, false, false, false]
abbrev mk23 : Array Bool := #[true, true, true, true, true, true, true, true, true, true, true, true, true, true, true, true, true, true, true, true, true, true, true, false, false, false, false, false, false, false, false, false, false, false, false, false, false, false, false, false, false, false, false, false, false]
abbrev mk24 : Array Bool := #[true, true, true, true, true, true, true, true, true, true, true, true, true, true, true, true, true, true, true, true, true, true, true, true, false, false, false, false, false, false, false, false, false, false, false, false, false, false, false, false, false, false, false, false, false]
abbrev mk25 : Array Bool := #[true, true, true, true, true, true, true, true, true, true, true, true, true, true, true, true, true, true, true, true, true, true, true, true, true, false, false, false, false, false, false, false, false, false, false, false, false, false, false, false, false, false, false, false, false]
abbrev mk26 : Array Bool := #[true, true, true, true, true, true, true, true, true, true, true, true, true, true, true, true, true, true, true, true, true, true, true, true, true, true, false, false, false, false, false, false, false, false, false, false, false, false, false, false, false, false, false, false, false]
abbrev mk27 : Array Bool := #[true, true, true, true, true, true, true, true, true, true, true, true, true, true, true, true, true, true, true, true, true, true, true, true, true, true, true, false, false, false, false, false, false, false, false, false, false, false, false, false, false, false, false, false, false]
abbrev mk28 : Array Bool := #[true, true, true, true, true, true, true, true, true, true, true, true, true, true, true, true, true, true, true, true, true, true, true, true, true, true, true, true, false, false, false, false, false, false, false, false, false, false, false, false, false, false, false, false, false]
abbrev mk29 : Array Bool := #[true, true, true, true, true, true, true, true, true, true, true, true, true, true, true, true, true, true, true, true, true, true, true, true, true, true, true, true, true, false, false, false, false, false, false, false, false, false, false, false, false, false, false, false, false]
abbrev mk30 : Array Bool := #[true, true, true, true, true, true, true, true, true, true, true, true, true, true, true, true, true, true, true, true, true, true, true, true, true, true, true, true, true, true, false, false, false, false, false, false, false, false, false, false, false, false, false, false, false]
abbrev mk31 : Array Bool := #[true, true, true, true, true, true, true, true, true, true, true, true, true, true, true, true, true, true, true, true, true, true, true, true, true, true, true, true, true, true, true, false, false, false, false, false, false, false, false, false, false, false, false, false, false]
abbrev mk32 : Array Bool := #[true, true, true, true, true, true, true, true, true, true, true, true, true, true, true, true, true, true, true, true, true, true, true, true, true, true, true, true, true, true, true, true, false, false, false, false, false, false, false, false, false, false, false, false, false]
abbrev mk33 : Array Bool := #[true, true, true, true, true, true, true, true, true, true, true, true, true, true, true, true, true, true, true, true, true, true, true, true, true, true, true, true, true, true, true, true, true, false, false, false, false, false, false, false, false, false, false, false, false]
abbrev mk34 : Array Bool := #[true, true, true, true, true, true, true, true, true, true, true, true, true, true, true, true, true, true, true, true, true, true, true, true, true, true, true, true, true, true, true, true, true, true, false, false, false, false, false, false, false, false, false, false, false]
abbrev mk35 : Array Bool := #[true, true, true, true, true, true, true, true, true, true, true, true, true, true, true, true, true, true, true, true, true, true, true, true, true, true, true, true, true, true, true, true, true, true, true, false, false, false, false, false, false, false, false, false, false]
abbrev mk36 : Array Bool := #[true, true, true, true, true, true, true, true, true, true, true, true, true, true, true, true, true, true, true, true, true, true, true, true, true, true, true, true, true, true, true, true, true, true, true, true, false, false, false, false, false, false, false, false, false]
abbrev mk37 : Array Bool := #[true, true, true, true, true, true, true, true, true, true, true, true, true, true, true, true, true, true, true, true, true, true, true, true, true, true, true, true, true, true, true, true, true, true, true, true, true, false, false, false, false, false, false, false, false]
abbrev mk38 : Array Bool := #[true, true, true, true, true, true, true, true, true, true, true, true, true, true, true, true, true, true, true, true, true, true, true, true, true, true, true, true, true, true, true, true, true, true, true, true, true, true, false, false, false, false, false, false, false]
abbrev mk39 : Array Bool := #[true, true, true, true, true, true, true, true, true, true, true, true, true, true, true, true, true, true, true, true, true, true, true, true, true, true, true, true, true, true, true, true, true, true, true, true, true, true, true, false, false, false, false, false, false]
abbrev mk40 : Array Bool := #[true, true, true, true, true, true, true, true, true, true, true, true, true, true, true, true, true, true, true, true, true, true, true, true, true, true, true, true, true, true, true, true, true, true, true, true, true, true, true, true, false, false, false, false, false]
abbrev mk41 : Array Bool := #[true, true, true, true, true, true, true, true, true, true, true, true, true, true, true, true, true, true, true, true, true, true, true, true, true, true, true, true, true, true, true, true, true, true, true, true, true, true, true, true, true, false, false, false, false]
abbrev mk42 : Array Bool := #[true, true, true, true, true, true, true, true, true, true, true, true, true, true, true, true, true, true, true, true, true, true, true, true, true, true, true, true, true, true, true, true, true, true, true, true, true, true, true, true, true, true, false, false, false]
abbrev mk43 : Array Bool := #[true, true, true, true, true, true, true, true, true, true, true, true, true, true, true, true, true, true, true, true, true, true, true, true, true, true, true, true, true, true, true, true, true, true, true, true, true, true, true, true, true, true, true, false, false]
abbrev mk44 : Array Bool := #[true, true, true, true, true, true, true, true, true, true, true, true, true, true, true, true, true, true, true, true, true, true, true, true, true, true, true, true, true, true, true, true, true, true, true, true, true, true, true, true, true, true, true, true, false]
abbrev mk45 : Array Bool := #[true, true, true, true, true, true, true, true, true, true, true, true, true, true, true, true, true, true, true, true, true, true, true, true, true, true, true, true, true, true, true, true, true, true, true, true, true, true, true, true, true, true, true, true, true]
abbrev mk46 : Array Bool := #[true, true, true, true, true, true, true, true, true, true, true, true, true, true, true, true, true, true, true, true, true, false, true, false, false, false, false, false, false, false, false, false, false, false, false, false, false, false, false, false, false, false, false, false, false]
abbrev mk47 : Array Bool := #[true, true, true, true, true, true, true, true, true, true, true, true, true, true, true, true, true, true, true, true, true, false, true, true, false, false, false, false, false, false, false, false, false, false, false, false, false, false, false, false, false, false, false, false, false]
abbrev mk48 : Array Bool := #[true, true, true, true, true, true, true, true, true, true, true, true, true, true, true, true, true, true, true, true, true, false, true, true, true, false, false, false, false, false, false, false, false, false, false, false, false, false, false, false, false, false, false, false, false]
abbrev mk49 : Array Bool := #[true, true, true, true, true, true, true, true, true, true, true, true, true, true, true, true, true, true, true, true, true, false, true, true, true, true, false, false, false, false, false, false, false, false, false, false, false, false, false, false, false, false, false, false, false]
abbrev mk50 : Array Bool := #[true, true, true, true, true, true, true, true, true, true, true, true, true, true, true, true, true, true, true, true, true, true, true, true, true, true, true, true, true, true, true, true, true, true, false, true, false, false, false, false, false, false, false, false, false]
abbrev mk51 : Array Bool := #[true, true, true, true, true, true, true, true, true, true, true, true, true, true, true, true, true, true, true, true, true, true, true, true, true, true, true, true, true, true, true, true, true, true, false, true, true, false, false, false, false, false, false, false, false]
abbrev mk52 : Array Bool := #[true, true, true, true, true, true, true, true, true, true, true, true, true, true, true, true, true, true, true, true, true, true, true, true, true, true, true, true, true, true, true, true, true, true, false, true, true, true, false, false, false, false, false, false, false]
abbrev mk53 : Array Bool := #[true, true, true, true, true, true, true, true, true, true, true, true, true, true, true, true, true, true, true, true, true, true, true, true, true, true, true, true, true, true, true, true, true, true, false, true, true, true, true, false, false, false, false, false, false]
/-! ### laws_ordered: function 11 -/
def laws_ordered.l0 : Nat → List ByteArray → Bool → Int → Int → Option (Bool)
 | 0, _, _, _, _ => none
 | k + 1, x0, x1, x7, x8 => if x8 < x7 then (if 0 ≤ x8 then (if x8 < (x0.length : Int) then (if (rdOf ByteArray.empty x0 x8).toList = ([] : List UInt8) then (some false) else ((laws_clean.f k (([rdOf ByteArray.empty x0 x8] : List ByteArray))).bind fun t199 => (if t199 = true then (if x8 > 0 then (if 0 ≤ (wrap64 (x8 - 1)) then (if (wrap64 (x8 - 1)) < (x0.length : Int) then (if (Op.bytesLess ((rdOf ByteArray.empty x0 x8).toList) ((rdOf ByteArray.empty x0 (wrap64 (x8 - 1))).toList)) = true then (some false) else (if x1 = true then (if (rdOf ByteArray.empty x0 x8).toList = (rdOf ByteArray.empty x0 (wrap64 (x8 - 1))).toList then (some false) else (laws_ordered.l0 k x0 x1 x7 (wrap64 (x8 + 1)))) else (laws_ordered.l0 k x0 x1 x7 (wrap64 (x8 + 1))))) else (none)) else (none)) else (laws_ordered.l0 k x0 x1 x7 (wrap64 (x8 + 1)))) else (some false)))) else (none)) else (none)) else (some (decide ((x0.length : Int) > 0)))
def laws_ordered.f (k : Nat) (l0 : List ByteArray) (a1 : Bool) : Option (Bool) := laws_ordered.l0 k l0 a1 (l0.length : Int) 0
theorem laws_ordered.mono_l : ∀ k, (∀ y0 y1 y2 y3, LeO (laws_ordered.l0 k y0 y1 y2 y3) (laws_ordered.l0 (k + 1) y0 y1 y2 y3))
 | 0 => fun _ _ _ _ r h => by simp [laws_ordered.l0] at h
 | k + 1 => by
  have ih0 := laws_ordered.mono_l k
  ·intro y0 y1 y2 y3
   unfold laws_ordered.l0
   repeat' first
   | (with_reducible exact ih0 _ _ _ _)
   | (with_reducible exact laws_clean.mono _ _)
   | (with_reducible exact LeO.refl _)
   | (with_reducible exact LeO.none _)
   | (with_reducible refine LeO.ite ?_ ?_)
   | (with_reducible refine LeO.bind ?_ (fun _ => ?_))
   | exact ih0 _ _ _ _
   | exact laws_clean.mono _ _
   | exact LeO.none _
   | refine LeO.ite ?_ ?_
   | refine LeO.bind ?_ (fun _ => ?_)
theorem laws_ordered.mono : ∀ a0 a1 k, LeO (laws_ordered.f k a0 a1) (laws_ordered.f (k + 1) a0 a1) := by
 intro a0 a1 k
 have ih0 := laws_ordered.mono_l k
 unfold laws_ordered.f
 repeat' first
   | (with_reducible exact ih0 _ _ _ _)
   | (with_reducible exact laws_clean.mono _ _)
   | (with_reducible exact LeO.refl _)
   | (with_reducible exact LeO.none _)
   | (with_reducible refine LeO.ite ?_ ?_)
   | (with_reducible refine LeO.bind ?_ (fun _ => ?_))
   | exact ih0 _ _ _ _
   | exact laws_clean.mono _ _
   | exact LeO.none _
   | refine LeO.ite ?_ ?_
   | refine LeO.bind ?_ (fun _ => ?_)
def laws_ordered.T4 : Bool × List (List Nat × List Nat) := (true, [([], []), ([], []), ([0, 1], [0, 1]), ([2], [2]), ([3], [3]), ([4], [4]), ([5], [5]), ([5], [5]), ([6, 7, 5], [5, 6, 7]), ([8, 5], [5, 8]), ([9, 5], [5, 9]), ([10, 5, 5], [5, 10]), ([11, 5], [5, 11]), ([5, 12], [5, 12]), ([13, 11], [13]), ([14], [14]), ([15, 14], [14, 15]), ([16, 14, 14], [14, 16]), ([17], [17]), ([17], [17]), ([18, 19, 17], [17, 18, 19]), ([20, 17], [17, 20]), ([17], [17]), ([17], [17]), ([23, 17], [17, 23]), ([22, 24, 17], [17, 22, 24]), ([25, 17], [17, 25]), ([21, 26, 17], [17, 21, 26]), ([27, 17, 17], [17, 27]), ([28], [28]), ([29, 28, 28], [28, 29]), ([30], [30]), ([30], [30]), ([31, 32, 30], [30, 31, 32]), ([33, 30], [30, 33]), ([30], [30]), ([30], [30]), ([36, 30], [30, 36]), ([35, 37, 30], [30, 35, 37]), ([38, 30], [30, 38]), ([34, 39, 30], [30, 34, 39]), ([30, 40, 28], [28, 30, 40]), ([28, 41, 17], [17, 28, 41]), ([17, 42, 14], [14, 17, 42]), ([14, 43], [14, 43])])
def laws_ordered.B4 : List Nat := [0, 0, 3, 7, 15, 31, 63, 63, 255, 511, 1023, 2047, 4095, 8191, 16383, 32767, 65535, 131071, 262143, 262143, 1048575, 2097151, 262143, 262143, 8650751, 29622271, 63176703, 134217727, 268435455, 536870911, 1073741823, 2147483647, 2147483647, 8589934591, 17179869183, 2147483647, 2147483647, 70866960383, 242665652223, 517543559167, 1099511627775, 2199023255551, 4398046511103, 8796093022207, 17592186044415]
theorem laws_ordered.tab4 : rtab .any (opsOf Try.f11 4) = laws_ordered.T4 := by kernel_rfl
theorem laws_ordered.bits4 : waitsOk laws_ordered.T4.2 laws_ordered.B4 = true := by kernel_rfl
set_option maxHeartbeats 8000000 in
set_option maxRecDepth 100000 in
theorem laws_ordered.calls (k : Nat) (A0 : Option Addr) (c0 : Nat) (l0 : List ByteArray) (a1 : Bool) (r : Bool) (w : World) (hr0 : Kd.C Kd.string w A0 l0.length l0) (hc0 : l0.length ≤ c0) (h : laws_ordered.f k l0 a1 = some r) :
  Calls Try.prog 11 #[.slice A0 l0.length c0, .bool a1] w fun e w' => e = .returned (.bool r) ∧ Below w.heap.size w w' := by
 have HR0 := Aside0.mk hr0
 have HC0 := Aside0.mk hc0
 clear hr0 hc0
 have HB := Aside0.mk (Below.refl w.heap.size w)
 have H : (laws_ordered.l0 k l0 a1 (l0.length : Int) 0) = some r := h
 clear h
 have H' := Aside0.mk H
 clear H
 go_enter Try.func11, Try.ntmps11
 go_wp2
 go_loopg [8] k (fun kq v8 w' => ∃ (x8_1 : Int), v8 = .int .i64 x8_1 ∧ Aside0 (laws_ordered.l0 kq l0 a1 (l0.length : Int) x8_1 = some r) ∧ Aside0 (kq ≤ k) ∧ Aside0 (Below w.heap.size w w'))
 case atStart => exact ⟨(0), (by first | rfl | (simp; done) | (simp [*]; done)), H', ⟨Nat.le_refl _⟩, ⟨by repeat (first | (with_reducible first | exact HB.out | apply below_alloc | apply pw_below_drewN | apply below_drew1) | exact HB.out)⟩⟩
 case round =>
  clear H'
  try clear c1
  try clear p2
  obtain ⟨x8_1, rfl, HA, HK1, HB⟩ := hrel
  cases gk with
  | zero => exact absurd HA.out (by simp [laws_ordered.l0])
  | succ k1 =>
   have H := HA.out
   clear HA
   simp only [laws_ordered.l0] at H
   by_cases c3 : x8_1 < (l0.length : Int)
   ·rw [if_pos c3] at H
    have c3b0 : decide (x8_1 < (l0.length : Int)) = true := decide_eq_true c3
    clear c3
    by_cases c4 : 0 ≤ x8_1
    ·rw [if_pos c4] at H
     have c4b0 : decide (0 ≤ x8_1) = true := decide_eq_true c4
     clear c4
     by_cases c5 : x8_1 < (l0.length : Int)
     ·rw [if_pos c5] at H
      have c5b0 : decide (x8_1 < (l0.length : Int)) = true := decide_eq_true c5
      clear c5
      by_cases c6 : (rdOf ByteArray.empty l0 x8_1).toList = ([] : List UInt8)
      ·rw [if_pos c6] at H
       have c6b0 : ((rdOf ByteArray.empty l0 x8_1).toList == ([] : List UInt8)) = true := beq_iff_eq.mpr c6
       have c6b1 : ((rdOf ByteArray.empty l0 x8_1).toList != ([] : List UInt8)) = false := bne_eq_false_iff_eq.mpr c6
       clear c6
       obtain rfl := Option.some.inj H
       try go_wp2
       have n0_ := Aside0.mk (below_drew1 HB.out)
       clear HB
       have HB := n0_
       clear n0_
       have p194 : 0 ≤ (x8_1 : Int) := of_decide_eq_true (by first | (with_reducible assumption) | assumption)
       have q194 : x8_1 < (l0.length : Int) := of_decide_eq_true (by first | (with_reducible assumption) | assumption)
       obtain ⟨ad194, e194, hx194_0⟩ := Kd.at_string HR0.out x8_1 p194 q194
       have hw194_0 := hx194_0
       cases e194
       replace hx194_0 := (HB.out.cell (World.block_lt_of_cell? w _ hx194_0)).trans hx194_0
       replace p194 := eq_true p194
       replace q194 := eq_true q194
       refine start_ (n := 45) (S := fun w' => w'.cell? (ad194.add (x8_1).toNat) = some (.string (rdOf ByteArray.empty l0 x8_1))) (ds := []) mk0 (by kernel_rfl) rfl rfl (((HB.out.cell (World.block_lt_of_cell? w _ hw194_0)).trans hw194_0)) (fun hHeld => ?_); refine with_tabW laws_ordered.tab4 laws_ordered.bits4 (fun HT_ HW_ => ?_)
       generalize wr.drew = w7 at HB hx194_0 hHeld ⊢
       refine pure_ (i := 0) (N := some 11) (v := ?_) (a' := ?_) mk1 rfl rfl (any_of HT_.out (by kernel_rfl)) (fun _ _ _ h => h) (Or.inl ⟨by rfl, ?_⟩) ?_ ?_
       rotate_left
       ·intro w'
        go_simp
        with_reducible rfl
       rotate_left
       ·simp only [Act.put, List.setIfInBounds_toArray, List.set_cons_zero, List.set_cons_succ, i64_w, i32_w]
        rfl
       refine pure_ (i := 1) (N := some 12) (v := ?_) (a' := ?_) mk2 rfl rfl (any_of HT_.out (by kernel_rfl)) (fun _ _ _ h => h) (Or.inl ⟨by rfl, ?_⟩) ?_ ?_
       rotate_left
       ·intro w'
        go_simp
        with_reducible rfl
       rotate_left
       ·simp only [Act.put, List.setIfInBounds_toArray, List.set_cons_zero, List.set_cons_succ, i64_w, i32_w]
        rfl
       refine pure_ (i := 2) (N := some 13) (v := ?_) (a' := ?_) mk3 rfl rfl (any_of HT_.out (by kernel_rfl)) (fun _ _ _ h => h) (Or.inl ⟨by rfl, ?_⟩) ?_ ?_
       rotate_left
       ·intro w'
        go_simp
        with_reducible rfl
       rotate_left
       ·simp only [Act.put, List.setIfInBounds_toArray, List.set_cons_zero, List.set_cons_succ, i64_w, i32_w]
        rfl
       refine take_ (i := 3) (N := some 14) (v := ?_) (a' := ?_) mk4 rfl rfl (take_ofW HT_.out HW_.out (by kernel_rfl)) (fun _ _ _ h => h) (Or.inl ⟨by rfl, ?_⟩) hHeld ?_ ?_
       rotate_left
       ·intro w' s0
        go_simp
        with_reducible rfl
       rotate_left
       ·simp only [Act.put, List.setIfInBounds_toArray, List.set_cons_zero, List.set_cons_succ, i64_w, i32_w]
        rfl
       refine pure_ (i := 4) (N := some 15) (v := ?_) (a' := ?_) mk5 rfl rfl (any_of HT_.out (by kernel_rfl)) (fun _ _ _ h => h) (Or.inl ⟨by rfl, ?_⟩) ?_ ?_
       rotate_left
       ·intro w'
        go_simp
        with_reducible rfl
       rotate_left
       ·simp only [Act.put, List.setIfInBounds_toArray, List.set_cons_zero, List.set_cons_succ, i64_w, i32_w]
        rfl
       refine pure_ (i := 5) (N := some 16) (v := ?_) (a' := ?_) mk6 rfl rfl (any_of HT_.out (by kernel_rfl)) (fun _ _ _ h => h) (Or.inl ⟨by rfl, ?_⟩) ?_ ?_
       rotate_left
       ·intro w'
        go_simp
        with_reducible rfl
       rotate_left
       ·simp only [Act.put, List.setIfInBounds_toArray, List.set_cons_zero, List.set_cons_succ, i64_w, i32_w]
        rfl
       refine pure_ (i := 6) (N := some 17) (v := undef) (a' := ?_) mk7 rfl rfl (any_of HT_.out (by kernel_rfl)) (fun _ _ _ h => h) (Or.inr ⟨by rfl, rfl⟩) ?_ ?_
       rotate_left
       ·simp only [Act.put, List.setIfInBounds_toArray, List.set_cons_zero, List.set_cons_succ, i64_w, i32_w]
        rfl
       refine pure_ (i := 7) (N := some 18) (v := undef) (a' := ?_) mk8 rfl rfl (any_of HT_.out (by kernel_rfl)) (fun _ _ _ h => h) (Or.inr ⟨by rfl, rfl⟩) ?_ ?_
       rotate_left
       ·simp only [Act.put, List.setIfInBounds_toArray, List.set_cons_zero, List.set_cons_succ, i64_w, i32_w]
        rfl
       refine pure_ (i := 8) (N := some 19) (v := undef) (a' := ?_) mk9 rfl rfl (any_of HT_.out (by kernel_rfl)) (fun _ _ _ h => h) (Or.inr ⟨by rfl, rfl⟩) ?_ ?_
       rotate_left
       ·simp only [Act.put, List.setIfInBounds_toArray, List.set_cons_zero, List.set_cons_succ, i64_w, i32_w]
        rfl
       refine pure_ (i := 9) (N := some 20) (v := undef) (a' := ?_) mk10 rfl rfl (any_of HT_.out (by kernel_rfl)) (fun _ _ _ h => h) (Or.inr ⟨by rfl, rfl⟩) ?_ ?_
       rotate_left
       ·simp only [Act.put, List.setIfInBounds_toArray, List.set_cons_zero, List.set_cons_succ, i64_w, i32_w]
        rfl
       refine pure_ (i := 10) (N := some 21) (v := undef) (a' := ?_) mk11 rfl rfl (any_of HT_.out (by kernel_rfl)) (fun _ _ _ h => h) (Or.inr ⟨by rfl, rfl⟩) ?_ ?_
       rotate_left
       ·simp only [Act.put, List.setIfInBounds_toArray, List.set_cons_zero, List.set_cons_succ, i64_w, i32_w]
        rfl
       refine pure_ (i := 11) (N := some 22) (v := undef) (a' := ?_) mk12 rfl rfl (any_of HT_.out (by kernel_rfl)) (fun _ _ _ h => h) (Or.inr ⟨by rfl, rfl⟩) ?_ ?_
       rotate_left
       ·simp only [Act.put, List.setIfInBounds_toArray, List.set_cons_zero, List.set_cons_succ, i64_w, i32_w]
        rfl
       refine pure_ (i := 12) (N := some 23) (v := undef) (a' := ?_) mk13 rfl rfl (any_of HT_.out (by kernel_rfl)) (fun _ _ _ h => h) (Or.inr ⟨by rfl, rfl⟩) ?_ ?_
       rotate_left
       ·simp only [Act.put, List.setIfInBounds_toArray, List.set_cons_zero, List.set_cons_succ, i64_w, i32_w]
        rfl
       refine pure_ (i := 13) (N := some 24) (v := ?_) (a' := ?_) mk14 rfl rfl (any_of HT_.out (by kernel_rfl)) (fun _ _ _ h => h) (Or.inl ⟨by rfl, ?_⟩) ?_ ?_
       rotate_left
       ·intro w'
        go_simp
        with_reducible rfl
       rotate_left
       ·simp only [Act.put, List.setIfInBounds_toArray, List.set_cons_zero, List.set_cons_succ, i64_w, i32_w]
        rfl
       refine pure_ (i := 14) (N := some 25) (v := ?_) (a' := ?_) mk15 rfl rfl (any_of HT_.out (by kernel_rfl)) (fun _ _ _ h => h) (Or.inl ⟨by rfl, ?_⟩) ?_ ?_
       rotate_left
       ·intro w'
        go_simp
        with_reducible rfl
       rotate_left
       ·simp only [Act.put, List.setIfInBounds_toArray, List.set_cons_zero, List.set_cons_succ, i64_w, i32_w]
        rfl
       refine pure_ (i := 15) (N := some 26) (v := undef) (a' := ?_) mk16 rfl rfl (any_of HT_.out (by kernel_rfl)) (fun _ _ _ h => h) (Or.inr ⟨by rfl, rfl⟩) ?_ ?_
       rotate_left
       ·simp only [Act.put, List.setIfInBounds_toArray, List.set_cons_zero, List.set_cons_succ, i64_w, i32_w]
        rfl
       refine pure_ (i := 16) (N := some 27) (v := undef) (a' := ?_) mk17 rfl rfl (any_of HT_.out (by kernel_rfl)) (fun _ _ _ h => h) (Or.inr ⟨by rfl, rfl⟩) ?_ ?_
       rotate_left
       ·simp only [Act.put, List.setIfInBounds_toArray, List.set_cons_zero, List.set_cons_succ, i64_w, i32_w]
        rfl
       refine pure_ (i := 17) (N := some 28) (v := undef) (a' := ?_) mk18 rfl rfl (any_of HT_.out (by kernel_rfl)) (fun _ _ _ h => h) (Or.inr ⟨by rfl, rfl⟩) ?_ ?_
       rotate_left
       ·simp only [Act.put, List.setIfInBounds_toArray, List.set_cons_zero, List.set_cons_succ, i64_w, i32_w]
        rfl
       refine pure_ (i := 18) (N := some 29) (v := undef) (a' := ?_) mk19 rfl rfl (any_of HT_.out (by kernel_rfl)) (fun _ _ _ h => h) (Or.inr ⟨by rfl, rfl⟩) ?_ ?_
       rotate_left
       ·simp only [Act.put, List.setIfInBounds_toArray, List.set_cons_zero, List.set_cons_succ, i64_w, i32_w]
        rfl
       refine pure_ (i := 19) (N := some 30) (v := undef) (a' := ?_) mk20 rfl rfl (any_of HT_.out (by kernel_rfl)) (fun _ _ _ h => h) (Or.inr ⟨by rfl, rfl⟩) ?_ ?_
       rotate_left
       ·simp only [Act.put, List.setIfInBounds_toArray, List.set_cons_zero, List.set_cons_succ, i64_w, i32_w]
        rfl
       refine pure_ (i := 20) (N := some 31) (v := undef) (a' := ?_) mk21 rfl rfl (any_of HT_.out (by kernel_rfl)) (fun _ _ _ h => h) (Or.inr ⟨by rfl, rfl⟩) ?_ ?_
       rotate_left
       ·simp only [Act.put, List.setIfInBounds_toArray, List.set_cons_zero, List.set_cons_succ, i64_w, i32_w]
        rfl
       refine pure_ (i := 21) (N := some 32) (v := undef) (a' := ?_) mk22 rfl rfl (any_of HT_.out (by kernel_rfl)) (fun _ _ _ h => h) (Or.inr ⟨by rfl, rfl⟩) ?_ ?_
       rotate_left
       ·simp only [Act.put, List.setIfInBounds_toArray, List.set_cons_zero, List.set_cons_succ, i64_w, i32_w]
        rfl
       refine pure_ (i := 22) (N := some 33) (v := undef) (a' := ?_) mk23 rfl rfl (any_of HT_.out (by kernel_rfl)) (fun _ _ _ h => h) (Or.inr ⟨by rfl, rfl⟩) ?_ ?_
       rotate_left
       ·simp only [Act.put, List.setIfInBounds_toArray, List.set_cons_zero, List.set_cons_succ, i64_w, i32_w]
        rfl
       refine pure_ (i := 23) (N := some 34) (v := undef) (a' := ?_) mk24 rfl rfl (any_of HT_.out (by kernel_rfl)) (fun _ _ _ h => h) (Or.inr ⟨by rfl, rfl⟩) ?_ ?_
       rotate_left
       ·simp only [Act.put, List.setIfInBounds_toArray, List.set_cons_zero, List.set_cons_succ, i64_w, i32_w]
        rfl
       refine pure_ (i := 24) (N := some 35) (v := undef) (a' := ?_) mk25 rfl rfl (any_of HT_.out (by kernel_rfl)) (fun _ _ _ h => h) (Or.inr ⟨by rfl, rfl⟩) ?_ ?_
       rotate_left
       ·simp only [Act.put, List.setIfInBounds_toArray, List.set_cons_zero, List.set_cons_succ, i64_w, i32_w]
        rfl
       refine pure_ (i := 25) (N := some 36) (v := undef) (a' := ?_) mk26 rfl rfl (any_of HT_.out (by kernel_rfl)) (fun _ _ _ h => h) (Or.inr ⟨by rfl, rfl⟩) ?_ ?_
       rotate_left
       ·simp only [Act.put, List.setIfInBounds_toArray, List.set_cons_zero, List.set_cons_succ, i64_w, i32_w]
        rfl
       refine pure_ (i := 26) (N := some 37) (v := undef) (a' := ?_) mk27 rfl rfl (any_of HT_.out (by kernel_rfl)) (fun _ _ _ h => h) (Or.inr ⟨by rfl, rfl⟩) ?_ ?_
       rotate_left
       ·simp only [Act.put, List.setIfInBounds_toArray, List.set_cons_zero, List.set_cons_succ, i64_w, i32_w]
        rfl
       refine pure_ (i := 27) (N := some 38) (v := undef) (a' := ?_) mk28 rfl rfl (any_of HT_.out (by kernel_rfl)) (fun _ _ _ h => h) (Or.inr ⟨by rfl, rfl⟩) ?_ ?_
       rotate_left
       ·simp only [Act.put, List.setIfInBounds_toArray, List.set_cons_zero, List.set_cons_succ, i64_w, i32_w]
        rfl
       refine pure_ (i := 28) (N := some 39) (v := undef) (a' := ?_) mk29 rfl rfl (any_of HT_.out (by kernel_rfl)) (fun _ _ _ h => h) (Or.inr ⟨by rfl, rfl⟩) ?_ ?_
       rotate_left
       ·simp only [Act.put, List.setIfInBounds_toArray, List.set_cons_zero, List.set_cons_succ, i64_w, i32_w]
        rfl
       refine pure_ (i := 29) (N := some 40) (v := undef) (a' := ?_) mk30 rfl rfl (any_of HT_.out (by kernel_rfl)) (fun _ _ _ h => h) (Or.inr ⟨by rfl, rfl⟩) ?_ ?_
       rotate_left
       ·simp only [Act.put, List.setIfInBounds_toArray, List.set_cons_zero, List.set_cons_succ, i64_w, i32_w]
        rfl
       refine pure_ (i := 30) (N := some 41) (v := undef) (a' := ?_) mk31 rfl rfl (any_of HT_.out (by kernel_rfl)) (fun _ _ _ h => h) (Or.inr ⟨by rfl, rfl⟩) ?_ ?_
       rotate_left
       ·simp only [Act.put, List.setIfInBounds_toArray, List.set_cons_zero, List.set_cons_succ, i64_w, i32_w]
        rfl
       refine pure_ (i := 31) (N := some 42) (v := undef) (a' := ?_) mk32 rfl rfl (any_of HT_.out (by kernel_rfl)) (fun _ _ _ h => h) (Or.inr ⟨by rfl, rfl⟩) ?_ ?_
       rotate_left
       ·simp only [Act.put, List.setIfInBounds_toArray, List.set_cons_zero, List.set_cons_succ, i64_w, i32_w]
        rfl
       refine pure_ (i := 32) (N := some 43) (v := undef) (a' := ?_) mk33 rfl rfl (any_of HT_.out (by kernel_rfl)) (fun _ _ _ h => h) (Or.inr ⟨by rfl, rfl⟩) ?_ ?_
       rotate_left
       ·simp only [Act.put, List.setIfInBounds_toArray, List.set_cons_zero, List.set_cons_succ, i64_w, i32_w]
        rfl
       refine pure_ (i := 33) (N := some 44) (v := undef) (a' := ?_) mk34 rfl rfl (any_of HT_.out (by kernel_rfl)) (fun _ _ _ h => h) (Or.inr ⟨by rfl, rfl⟩) ?_ ?_
       rotate_left
       ·simp only [Act.put, List.setIfInBounds_toArray, List.set_cons_zero, List.set_cons_succ, i64_w, i32_w]
        rfl
       refine pure_ (i := 34) (N := some 45) (v := undef) (a' := ?_) mk35 rfl rfl (any_of HT_.out (by kernel_rfl)) (fun _ _ _ h => h) (Or.inr ⟨by rfl, rfl⟩) ?_ ?_
       rotate_left
       ·simp only [Act.put, List.setIfInBounds_toArray, List.set_cons_zero, List.set_cons_succ, i64_w, i32_w]
        rfl
       refine pure_ (i := 35) (N := some 46) (v := undef) (a' := ?_) mk36 rfl rfl (any_of HT_.out (by kernel_rfl)) (fun _ _ _ h => h) (Or.inr ⟨by rfl, rfl⟩) ?_ ?_
       rotate_left
       ·simp only [Act.put, List.setIfInBounds_toArray, List.set_cons_zero, List.set_cons_succ, i64_w, i32_w]
        rfl
       refine pure_ (i := 36) (N := some 47) (v := undef) (a' := ?_) mk37 rfl rfl (any_of HT_.out (by kernel_rfl)) (fun _ _ _ h => h) (Or.inr ⟨by rfl, rfl⟩) ?_ ?_
       rotate_left
       ·simp only [Act.put, List.setIfInBounds_toArray, List.set_cons_zero, List.set_cons_succ, i64_w, i32_w]
        rfl
       refine pure_ (i := 37) (N := some 48) (v := undef) (a' := ?_) mk38 rfl rfl (any_of HT_.out (by kernel_rfl)) (fun _ _ _ h => h) (Or.inr ⟨by rfl, rfl⟩) ?_ ?_
       rotate_left
       ·simp only [Act.put, List.setIfInBounds_toArray, List.set_cons_zero, List.set_cons_succ, i64_w, i32_w]
        rfl
       refine pure_ (i := 38) (N := some 49) (v := undef) (a' := ?_) mk39 rfl rfl (any_of HT_.out (by kernel_rfl)) (fun _ _ _ h => h) (Or.inr ⟨by rfl, rfl⟩) ?_ ?_
       rotate_left
       ·simp only [Act.put, List.setIfInBounds_toArray, List.set_cons_zero, List.set_cons_succ, i64_w, i32_w]
        rfl
       refine pure_ (i := 39) (N := some 50) (v := undef) (a' := ?_) mk40 rfl rfl (any_of HT_.out (by kernel_rfl)) (fun _ _ _ h => h) (Or.inr ⟨by rfl, rfl⟩) ?_ ?_
       rotate_left
       ·simp only [Act.put, List.setIfInBounds_toArray, List.set_cons_zero, List.set_cons_succ, i64_w, i32_w]
        rfl
       refine pure_ (i := 40) (N := some 51) (v := undef) (a' := ?_) mk41 rfl rfl (any_of HT_.out (by kernel_rfl)) (fun _ _ _ h => h) (Or.inr ⟨by rfl, rfl⟩) ?_ ?_
       rotate_left
       ·simp only [Act.put, List.setIfInBounds_toArray, List.set_cons_zero, List.set_cons_succ, i64_w, i32_w]
        rfl
       refine pure_ (i := 41) (N := some 52) (v := undef) (a' := ?_) mk42 rfl rfl (any_of HT_.out (by kernel_rfl)) (fun _ _ _ h => h) (Or.inr ⟨by rfl, rfl⟩) ?_ ?_
       rotate_left
       ·simp only [Act.put, List.setIfInBounds_toArray, List.set_cons_zero, List.set_cons_succ, i64_w, i32_w]
        rfl
       refine pure_ (i := 42) (N := some 53) (v := undef) (a' := ?_) mk43 rfl rfl (any_of HT_.out (by kernel_rfl)) (fun _ _ _ h => h) (Or.inr ⟨by rfl, rfl⟩) ?_ ?_
       rotate_left
       ·simp only [Act.put, List.setIfInBounds_toArray, List.set_cons_zero, List.set_cons_succ, i64_w, i32_w]
        rfl
       refine pure_ (i := 43) (N := some 54) (v := undef) (a' := ?_) mk44 rfl rfl (any_of HT_.out (by kernel_rfl)) (fun _ _ _ h => h) (Or.inr ⟨by rfl, rfl⟩) ?_ ?_
       rotate_left
       ·simp only [Act.put, List.setIfInBounds_toArray, List.set_cons_zero, List.set_cons_succ, i64_w, i32_w]
        rfl
       refine pure_ (i := 44) (N := some 55) (v := ?_) (a' := ?_) mk45 rfl rfl (any_of HT_.out (by kernel_rfl)) (fun _ _ _ h => h) (Or.inl ⟨by rfl, ?_⟩) ?_ ?_
       rotate_left
       ·intro w'
        go_simp
        with_reducible rfl
       rotate_left
       ·simp only [Act.put, List.setIfInBounds_toArray, List.set_cons_zero, List.set_cons_succ, i64_w, i32_w]
        rfl
       refine done_ (done_of HT_.out (by kernel_rfl)) ?_
       try go_wp2
       go_ret
       exact ⟨by first | rfl | (simp [errW_none, errW_some] <;> rfl) | (simp [*, errW_none, errW_some] <;> rfl), by repeat (first | (with_reducible first | exact HB.out | apply below_alloc | apply pw_below_drewN | apply below_drew1) | exact HB.out)⟩
      ·rw [if_neg c6] at H
       have c6b0 : ((rdOf ByteArray.empty l0 x8_1).toList == ([] : List UInt8)) = false := beq_eq_false_iff_ne.mpr c6
       have c6b1 : ((rdOf ByteArray.empty l0 x8_1).toList != ([] : List UInt8)) = true := bne_iff_ne.mpr c6
       obtain ⟨y196, hy196⟩ : ∃ y_ : List ByteArray, y_ = (([rdOf ByteArray.empty l0 x8_1] : List ByteArray)) := ⟨_, rfl⟩
       replace H : ((laws_clean.f k1 y196).bind fun t199 => (if t199 = true then (if x8_1 > 0 then (if 0 ≤ (wrap64 (x8_1 - 1)) then (if (wrap64 (x8_1 - 1)) < (l0.length : Int) then (if (Op.bytesLess ((rdOf ByteArray.empty l0 x8_1).toList) ((rdOf ByteArray.empty l0 (wrap64 (x8_1 - 1))).toList)) = true then (some false) else (if a1 = true then (if (rdOf ByteArray.empty l0 x8_1).toList = (rdOf ByteArray.empty l0 (wrap64 (x8_1 - 1))).toList then (some false) else (laws_ordered.l0 k1 l0 a1 (l0.length : Int) (wrap64 (x8_1 + 1)))) else (laws_ordered.l0 k1 l0 a1 (l0.length : Int) (wrap64 (x8_1 + 1))))) else (none)) else (none)) else (laws_ordered.l0 k1 l0 a1 (l0.length : Int) (wrap64 (x8_1 + 1)))) else (some false))) = some r := by first | (rw [hy196]; with_reducible exact H) | (have H2_ := (Option.bind_some _ _).symm.trans H; rw [hy196]; with_reducible exact H2_) | (have H2_ := (Option.bind_some _ _).symm.trans H; with_reducible exact H2_) | with_reducible exact H | (rw [hy196]; exact H) | exact H
       have Ny196 := Aside0.mk hy196
       clear hy196
       replace H := Option.bind_eq_some_iff.mp H
       obtain ⟨t199, A80, H⟩ := H
       replace H : (if t199 = true then (if x8_1 > 0 then (if 0 ≤ (wrap64 (x8_1 - 1)) then (if (wrap64 (x8_1 - 1)) < (l0.length : Int) then (if (Op.bytesLess ((rdOf ByteArray.empty l0 x8_1).toList) ((rdOf ByteArray.empty l0 (wrap64 (x8_1 - 1))).toList)) = true then (some false) else (if a1 = true then (if (rdOf ByteArray.empty l0 x8_1).toList = (rdOf ByteArray.empty l0 (wrap64 (x8_1 - 1))).toList then (some false) else (laws_ordered.l0 k1 l0 a1 (l0.length : Int) (wrap64 (x8_1 + 1)))) else (laws_ordered.l0 k1 l0 a1 (l0.length : Int) (wrap64 (x8_1 + 1))))) else (none)) else (none)) else (laws_ordered.l0 k1 l0 a1 (l0.length : Int) (wrap64 (x8_1 + 1)))) else (some false)) = some r := H
       have A8 := Aside0.mk A80
       clear A80
       by_cases c9 : t199 = true
       ·subst c9
        have H1 : (if x8_1 > 0 then (if 0 ≤ (wrap64 (x8_1 - 1)) then (if (wrap64 (x8_1 - 1)) < (l0.length : Int) then (if (Op.bytesLess ((rdOf ByteArray.empty l0 x8_1).toList) ((rdOf ByteArray.empty l0 (wrap64 (x8_1 - 1))).toList)) = true then (some false) else (if a1 = true then (if (rdOf ByteArray.empty l0 x8_1).toList = (rdOf ByteArray.empty l0 (wrap64 (x8_1 - 1))).toList then (some false) else (laws_ordered.l0 k1 l0 a1 (l0.length : Int) (wrap64 (x8_1 + 1)))) else (laws_ordered.l0 k1 l0 a1 (l0.length : Int) (wrap64 (x8_1 + 1))))) else (none)) else (none)) else (laws_ordered.l0 k1 l0 a1 (l0.length : Int) (wrap64 (x8_1 + 1)))) = some r := by rw [if_pos rfl] at H; exact H
        clear H
        have H := H1
        clear H1
        by_cases c10 : x8_1 > 0
        ·rw [if_pos c10] at H
         have c10b0 : decide (0 < x8_1) = true := decide_eq_true c10
         clear c10
         obtain ⟨ji11, hji11⟩ : ∃ j_ : Int, (wrap64 (x8_1 - 1)) = j_ := ⟨_, rfl⟩
         replace H : (if 0 ≤ (ji11) then (if (ji11) < (l0.length : Int) then (if (Op.bytesLess ((rdOf ByteArray.empty l0 x8_1).toList) ((rdOf ByteArray.empty l0 (ji11)).toList)) = true then (some false) else (if a1 = true then (if (rdOf ByteArray.empty l0 x8_1).toList = (rdOf ByteArray.empty l0 (ji11)).toList then (some false) else (laws_ordered.l0 k1 l0 a1 (l0.length : Int) (wrap64 (x8_1 + 1)))) else (laws_ordered.l0 k1 l0 a1 (l0.length : Int) (wrap64 (x8_1 + 1))))) else (none)) else (none)) = some r := by first | (rw [hji11] at H; exact H) | (simp only [hji11] at H ⊢; exact H)
         (try rw [hji11] at A8)
         have hji11w : (IntKind.i64.wrap (x8_1 - 1)) = ji11 := (i64_w _).trans hji11
         by_cases c12 : 0 ≤ (ji11)
         ·rw [if_pos c12] at H
          have c12b0 : decide (0 ≤ (ji11)) = true := decide_eq_true c12
          clear c12
          by_cases c13 : (ji11) < (l0.length : Int)
          ·rw [if_pos c13] at H
           have c13b0 : decide ((ji11) < (l0.length : Int)) = true := decide_eq_true c13
           clear c13
           by_cases c14 : (Op.bytesLess ((rdOf ByteArray.empty l0 x8_1).toList) ((rdOf ByteArray.empty l0 (ji11)).toList)) = true
           ·rw [if_pos c14] at H
            have c14b0 : (Op.bytesLess ((rdOf ByteArray.empty l0 x8_1).toList) ((rdOf ByteArray.empty l0 (ji11)).toList)) = true := c14
            clear c14
            obtain rfl := Option.some.inj H
            try go_wp2
            have n0_ := Aside0.mk (below_drew1 HB.out)
            clear HB
            have HB := n0_
            clear n0_
            have p194 : 0 ≤ (x8_1 : Int) := of_decide_eq_true (by first | (with_reducible assumption) | assumption)
            have q194 : x8_1 < (l0.length : Int) := of_decide_eq_true (by first | (with_reducible assumption) | assumption)
            obtain ⟨ad194, e194, hx194_0⟩ := Kd.at_string HR0.out x8_1 p194 q194
            have hw194_0 := hx194_0
            cases e194
            replace hx194_0 := (HB.out.cell (World.block_lt_of_cell? w _ hx194_0)).trans hx194_0
            replace p194 := eq_true p194
            replace q194 := eq_true q194
            have p195 : 0 ≤ (x8_1 : Int) := of_decide_eq_true (by first | (with_reducible assumption) | assumption)
            have q195 : x8_1 < (l0.length : Int) := of_decide_eq_true (by first | (with_reducible assumption) | assumption)
            obtain ⟨ad195, e195, hx195_0⟩ := Kd.at_string HR0.out x8_1 p195 q195
            have hw195_0 := hx195_0
            obtain rfl : ad194 = ad195 := (by injection e195)
            replace hx195_0 := (HB.out.cell (World.block_lt_of_cell? w _ hx195_0)).trans hx195_0
            replace p195 := eq_true p195
            replace q195 := eq_true q195
            have p200 : 0 ≤ (x8_1 : Int) := of_decide_eq_true (by first | (with_reducible assumption) | assumption)
            have q200 : x8_1 < (l0.length : Int) := of_decide_eq_true (by first | (with_reducible assumption) | assumption)
            obtain ⟨ad200, e200, hx200_0⟩ := Kd.at_string HR0.out x8_1 p200 q200
            have hw200_0 := hx200_0
            obtain rfl : ad194 = ad200 := (by injection e200)
            replace hx200_0 := (HB.out.cell (World.block_lt_of_cell? w _ hx200_0)).trans hx200_0
            replace p200 := eq_true p200
            replace q200 := eq_true q200
            have p201 : 0 ≤ ((ji11) : Int) := of_decide_eq_true (by first | (with_reducible assumption) | assumption)
            have q201 : (ji11) < (l0.length : Int) := of_decide_eq_true (by first | (with_reducible assumption) | assumption)
            obtain ⟨ad201, e201, hx201_0⟩ := Kd.at_string HR0.out (ji11) p201 q201
            have hw201_0 := hx201_0
            obtain rfl : ad194 = ad201 := (by injection e201)
            replace hx201_0 := (HB.out.cell (World.block_lt_of_cell? w _ hx201_0)).trans hx201_0
            replace p201 := eq_true p201
            replace q201 := eq_true q201
            refine start_ (n := 45) (S := fun w' => w'.cell? (ad194.add (x8_1).toNat) = some (.string (rdOf ByteArray.empty l0 x8_1)) ∧ w'.cell? (ad194.add (x8_1).toNat) = some (.string (rdOf ByteArray.empty l0 x8_1)) ∧ w'.cell? (ad194.add (x8_1).toNat) = some (.string (rdOf ByteArray.empty l0 x8_1)) ∧ w'.cell? (ad194.add ((ji11)).toNat) = some (.string (rdOf ByteArray.empty l0 (ji11)))) (ds := []) mk0 (by kernel_rfl) rfl rfl ⟨((HB.out.cell (World.block_lt_of_cell? w _ hw194_0)).trans hw194_0), ((HB.out.cell (World.block_lt_of_cell? w _ hw195_0)).trans hw195_0), ((HB.out.cell (World.block_lt_of_cell? w _ hw200_0)).trans hw200_0), ((HB.out.cell (World.block_lt_of_cell? w _ hw201_0)).trans hw201_0)⟩ (fun hHeld => ?_); refine with_tabW laws_ordered.tab4 laws_ordered.bits4 (fun HT_ HW_ => ?_)
            generalize wr.drew = w15 at HB hx194_0 hx195_0 hx200_0 hx201_0 hHeld ⊢
            refine pure_ (i := 0) (N := some 11) (v := ?_) (a' := ?_) mk1 rfl rfl (any_of HT_.out (by kernel_rfl)) (fun _ _ _ h => h) (Or.inl ⟨by rfl, ?_⟩) ?_ ?_
            rotate_left
            ·intro w'
             go_simp
             with_reducible rfl
            rotate_left
            ·simp only [Act.put, List.setIfInBounds_toArray, List.set_cons_zero, List.set_cons_succ, i64_w, i32_w]
             rfl
            refine pure_ (i := 1) (N := some 12) (v := ?_) (a' := ?_) mk2 rfl rfl (any_of HT_.out (by kernel_rfl)) (fun _ _ _ h => h) (Or.inl ⟨by rfl, ?_⟩) ?_ ?_
            rotate_left
            ·intro w'
             go_simp
             with_reducible rfl
            rotate_left
            ·simp only [Act.put, List.setIfInBounds_toArray, List.set_cons_zero, List.set_cons_succ, i64_w, i32_w]
             rfl
            refine pure_ (i := 2) (N := some 13) (v := ?_) (a' := ?_) mk3 rfl rfl (any_of HT_.out (by kernel_rfl)) (fun _ _ _ h => h) (Or.inl ⟨by rfl, ?_⟩) ?_ ?_
            rotate_left
            ·intro w'
             go_simp
             with_reducible rfl
            rotate_left
            ·simp only [Act.put, List.setIfInBounds_toArray, List.set_cons_zero, List.set_cons_succ, i64_w, i32_w]
             rfl
            refine take_ (i := 3) (N := some 14) (v := ?_) (a' := ?_) mk4 rfl rfl (take_ofW HT_.out HW_.out (by kernel_rfl)) (fun _ _ _ h => h) (Or.inl ⟨by rfl, ?_⟩) hHeld ?_ ?_
            rotate_left
            ·rintro w' ⟨s0, s1, s2, s3⟩
             go_simp
             with_reducible rfl
            rotate_left
            ·simp only [Act.put, List.setIfInBounds_toArray, List.set_cons_zero, List.set_cons_succ, i64_w, i32_w]
             rfl
            refine pure_ (i := 4) (N := some 15) (v := ?_) (a' := ?_) mk5 rfl rfl (any_of HT_.out (by kernel_rfl)) (fun _ _ _ h => h) (Or.inl ⟨by rfl, ?_⟩) ?_ ?_
            rotate_left
            ·intro w'
             go_simp
             with_reducible rfl
            rotate_left
            ·simp only [Act.put, List.setIfInBounds_toArray, List.set_cons_zero, List.set_cons_succ, i64_w, i32_w]
             rfl
            refine pure_ (i := 5) (N := some 16) (v := ?_) (a' := ?_) mk6 rfl rfl (any_of HT_.out (by kernel_rfl)) (fun _ _ _ h => h) (Or.inl ⟨by rfl, ?_⟩) ?_ ?_
            rotate_left
            ·intro w'
             go_simp
             with_reducible rfl
            rotate_left
            ·simp only [Act.put, List.setIfInBounds_toArray, List.set_cons_zero, List.set_cons_succ, i64_w, i32_w]
             rfl
            refine pure_ (i := 6) (N := some 17) (v := ?_) (a' := ?_) mk7 rfl rfl (any_of HT_.out (by kernel_rfl)) (fun _ _ _ h => h) (Or.inl ⟨by rfl, ?_⟩) ?_ ?_
            rotate_left
            ·intro w'
             go_simp
             with_reducible rfl
            rotate_left
            ·simp only [Act.put, List.setIfInBounds_toArray, List.set_cons_zero, List.set_cons_succ, i64_w, i32_w]
             rfl
            refine pure_ (i := 7) (N := some 18) (v := ?_) (a' := ?_) mk8 rfl rfl (any_of HT_.out (by kernel_rfl)) (fun _ _ _ h => h) (Or.inl ⟨by rfl, ?_⟩) ?_ ?_
            rotate_left
            ·intro w'
             go_simp
             with_reducible rfl
            rotate_left
            ·simp only [Act.put, List.setIfInBounds_toArray, List.set_cons_zero, List.set_cons_succ, i64_w, i32_w]
             rfl
            refine pure_ (i := 8) (N := some 19) (v := ?_) (a' := ?_) mk9 rfl rfl (any_of HT_.out (by kernel_rfl)) (fun _ _ _ h => h) (Or.inl ⟨by rfl, ?_⟩) ?_ ?_
            rotate_left
            ·intro w'
             go_simp
             with_reducible rfl
            rotate_left
            ·simp only [Act.put, List.setIfInBounds_toArray, List.set_cons_zero, List.set_cons_succ, i64_w, i32_w]
             rfl
            refine take_ (i := 9) (N := some 20) (v := ?_) (a' := ?_) mk10 rfl rfl (take_ofW HT_.out HW_.out (by kernel_rfl)) (fun _ _ _ h => h) (Or.inl ⟨by rfl, ?_⟩) hHeld ?_ ?_
            rotate_left
            ·rintro w' ⟨s0, s1, s2, s3⟩
             go_simp
             with_reducible rfl
            rotate_left
            ·simp only [Act.put, List.setIfInBounds_toArray, List.set_cons_zero, List.set_cons_succ, i64_w, i32_w]
             rfl
            refine one_ (i := 10) (N := some 21) mk11 rfl rfl (one_of HT_.out (by kernel_rfl)) (by decide) (fun K hK => ?_)
            refine Kd.R_lit_step Kd.string _ 9 ?hg (N := 21) ?hd (xs := ([rdOf ByteArray.empty l0 x8_1] : List ByteArray)) (inner := [.string (rdOf ByteArray.empty l0 x8_1)]) (ok := fun _ => True) (okp := fun _ => True) ?hr ?hp (fun _ hk => hk) trivial (Below.refl _ _) (Nat.le_refl _) (by simp) ?_; (case hd => rfl); (case hg => rfl); (case hr => first | (go_simp; done) | (go_simp; rfl)); (case hp => exact (Reps.one (show Kd.M Kd.string _ _ _ (rdOf ByteArray.empty l0 x8_1) [.string (rdOf ByteArray.empty l0 x8_1)] from rfl) (Reps.none _ _)))
            intro v197 w16 ho17 hb hg_ hnew_
            clear hg_ hnew_
            (first | rw [← Ny196.out] at ho17 | (simp only [Int.reduceToNat] at ho17; rw [← Ny196.out] at ho17))
            have n0_ := Aside0.mk (Kd.R_lower ho17 (below_size (by repeat (first | (with_reducible first | exact HB.out | apply below_alloc | apply pw_below_drewN | apply below_drew1) | exact HB.out))))
            have n1_ := Aside0.mk (below_step (by repeat (first | (with_reducible first | exact HB.out | apply below_alloc | apply pw_below_drewN | apply below_drew1) | exact HB.out)) hb)
            clear HB
            have HO198 := n0_
            have HB := n1_
            clear n0_ n1_
            clear hb ho17
            obtain ⟨Ao18, co18, eo18⟩ := Kd.R_slice HO198.out
            (first | subst eo18 | (injection eo18 with f1_ f2_ f3_; have f4_ := f1_.symm; have f5_ := f3_.symm; clear f1_ f2_ f3_; subst f4_; subst f5_))
            refine hK.out _ _ ⟨((HB.out.cell (World.block_lt_of_cell? w _ hw194_0)).trans hw194_0), ((HB.out.cell (World.block_lt_of_cell? w _ hw195_0)).trans hw195_0), ((HB.out.cell (World.block_lt_of_cell? w _ hw200_0)).trans hw200_0), ((HB.out.cell (World.block_lt_of_cell? w _ hw201_0)).trans hw201_0)⟩ (fun hHeld => ?_)
            clear hK K
            refine norm_ (a' := ?_) ?_ ?_
            rotate_left
            ·show Act.put _ (some 21) _ = _
             simp only [Act.put, List.setIfInBounds_toArray, List.set_cons_zero, List.set_cons_succ, i64_w, i32_w]
             rfl
            refine one_ (i := 11) (N := some 22) mk12 rfl rfl (one_of HT_.out (by kernel_rfl)) (by decide) (fun K hK => ?_)
            refine goes_ Try.func13 (by kernel_rfl) rfl #[.slice Ao18 y196.length co18] (by rfl) rfl rfl (by (try simp only [List.map_toArray, List.map_cons, List.map_nil]); first | done | rfl | (simp only [List.length_drop, List.length_take]; rfl)) ?_
            with_reducible refine (laws_clean.calls k1 _ _ y196 true _ ?side1 ?side2 A8.out).mono ?_
            (case side1 => repeat (first | exact (Kd.R_reads' HO198.out).2.2 | (with_reducible refine Kd.C_alloc ?_ _) | (with_reducible refine Kd.C_drewN ?_ _) | (with_reducible refine Kd.C_drew ?_)))
            (case side2 => exact (Kd.R_reads' HO198.out).2.1)
            rintro e w' ⟨rfl, ⟨nd, rfl⟩⟩
            refine ⟨_, rfl, ?_⟩
            refine hK.out _ _ ⟨((HB.out.cell (World.block_lt_of_cell? w _ hw194_0)).trans hw194_0), ((HB.out.cell (World.block_lt_of_cell? w _ hw195_0)).trans hw195_0), ((HB.out.cell (World.block_lt_of_cell? w _ hw200_0)).trans hw200_0), ((HB.out.cell (World.block_lt_of_cell? w _ hw201_0)).trans hw201_0)⟩ (fun hHeld => ?_)
            clear hK K
            refine norm_ (a' := ?_) ?_ ?_
            rotate_left
            ·show Act.put _ (some 22) _ = _
             simp only [Act.put, List.setIfInBounds_toArray, List.set_cons_zero, List.set_cons_succ, i64_w, i32_w]
             rfl
            refine pure_ (i := 12) (N := some 23) (v := ?_) (a' := ?_) mk13 rfl rfl (any_of HT_.out (by kernel_rfl)) (fun _ _ _ h => h) (Or.inl ⟨by rfl, ?_⟩) ?_ ?_
            rotate_left
            ·intro w'
             go_simp
             with_reducible rfl
            rotate_left
            ·simp only [Act.put, List.setIfInBounds_toArray, List.set_cons_zero, List.set_cons_succ, i64_w, i32_w]
             rfl
            refine pure_ (i := 13) (N := some 24) (v := ?_) (a' := ?_) mk14 rfl rfl (any_of HT_.out (by kernel_rfl)) (fun _ _ _ h => h) (Or.inl ⟨by rfl, ?_⟩) ?_ ?_
            rotate_left
            ·intro w'
             go_simp
             with_reducible rfl
            rotate_left
            ·simp only [Act.put, List.setIfInBounds_toArray, List.set_cons_zero, List.set_cons_succ, i64_w, i32_w]
             rfl
            refine pure_ (i := 14) (N := some 25) (v := ?_) (a' := ?_) mk15 rfl rfl (any_of HT_.out (by kernel_rfl)) (fun _ _ _ h => h) (Or.inl ⟨by rfl, ?_⟩) ?_ ?_
            rotate_left
            ·intro w'
             go_simp
             with_reducible rfl
            rotate_left
            ·simp only [Act.put, List.setIfInBounds_toArray, List.set_cons_zero, List.set_cons_succ, i64_w, i32_w]
             rfl
            refine pure_ (i := 15) (N := some 26) (v := ?_) (a' := ?_) mk16 rfl rfl (any_of HT_.out (by kernel_rfl)) (fun _ _ _ h => h) (Or.inl ⟨by rfl, ?_⟩) ?_ ?_
            rotate_left
            ·intro w'
             go_simp
             with_reducible rfl
            rotate_left
            ·simp only [Act.put, List.setIfInBounds_toArray, List.set_cons_zero, List.set_cons_succ, i64_w, i32_w]
             rfl
            refine pure_ (i := 16) (N := some 27) (v := ?_) (a' := ?_) mk17 rfl rfl (any_of HT_.out (by kernel_rfl)) (fun _ _ _ h => h) (Or.inl ⟨by rfl, ?_⟩) ?_ ?_
            rotate_left
            ·intro w'
             go_simp
             with_reducible rfl
            rotate_left
            ·simp only [Act.put, List.setIfInBounds_toArray, List.set_cons_zero, List.set_cons_succ, i64_w, i32_w]
             rfl
            refine pure_ (i := 17) (N := some 28) (v := ?_) (a' := ?_) mk18 rfl rfl (any_of HT_.out (by kernel_rfl)) (fun _ _ _ h => h) (Or.inl ⟨by rfl, ?_⟩) ?_ ?_
            rotate_left
            ·intro w'
             go_simp
             with_reducible rfl
            rotate_left
            ·simp only [Act.put, List.setIfInBounds_toArray, List.set_cons_zero, List.set_cons_succ, i64_w, i32_w]
             rfl
            refine pure_ (i := 18) (N := some 29) (v := ?_) (a' := ?_) mk19 rfl rfl (any_of HT_.out (by kernel_rfl)) (fun _ _ _ h => h) (Or.inl ⟨by rfl, ?_⟩) ?_ ?_
            rotate_left
            ·intro w'
             go_simp
             with_reducible rfl
            rotate_left
            ·simp only [Act.put, List.setIfInBounds_toArray, List.set_cons_zero, List.set_cons_succ, i64_w, i32_w]
             rfl
            refine pure_ (i := 19) (N := some 30) (v := ?_) (a' := ?_) mk20 rfl rfl (any_of HT_.out (by kernel_rfl)) (fun _ _ _ h => h) (Or.inl ⟨by rfl, ?_⟩) ?_ ?_
            rotate_left
            ·intro w'
             go_simp
             with_reducible rfl
            rotate_left
            ·simp only [Act.put, List.setIfInBounds_toArray, List.set_cons_zero, List.set_cons_succ, i64_w, i32_w]
             rfl
            refine pure_ (i := 20) (N := some 31) (v := ?_) (a' := ?_) mk21 rfl rfl (any_of HT_.out (by kernel_rfl)) (fun _ _ _ h => h) (Or.inl ⟨by rfl, ?_⟩) ?_ ?_
            rotate_left
            ·intro w'
             go_simp
             with_reducible rfl
            rotate_left
            ·simp only [Act.put, List.setIfInBounds_toArray, List.set_cons_zero, List.set_cons_succ, i64_w, i32_w]
             rfl
            refine pure_ (i := 22) (N := some 33) (v := ?_) (a' := ?_) mk46 rfl rfl (any_of HT_.out (by kernel_rfl)) (fun _ _ _ h => h) (Or.inl ⟨by rfl, ?_⟩) ?_ ?_
            rotate_left
            ·intro w'
             go_simp
             with_reducible rfl
            rotate_left
            ·simp only [Act.put, List.setIfInBounds_toArray, List.set_cons_zero, List.set_cons_succ, i64_w, i32_w]
             rfl
            refine pure_ (i := 23) (N := some 34) (v := ?_) (a' := ?_) mk47 rfl rfl (any_of HT_.out (by kernel_rfl)) (fun _ _ _ h => h) (Or.inl ⟨by rfl, ?_⟩) ?_ ?_
            rotate_left
            ·intro w'
             go_simp
             with_reducible rfl
            rotate_left
            ·simp only [Act.put, List.setIfInBounds_toArray, List.set_cons_zero, List.set_cons_succ, i64_w, i32_w]
             rfl
            refine pure_ (i := 24) (N := some 35) (v := ?_) (a' := ?_) mk48 rfl rfl (any_of HT_.out (by kernel_rfl)) (fun _ _ _ h => h) (Or.inl ⟨by rfl, ?_⟩) ?_ ?_
            rotate_left
            ·intro w'
             go_simp
             with_reducible rfl
            rotate_left
            ·simp only [Act.put, List.setIfInBounds_toArray, List.set_cons_zero, List.set_cons_succ, i64_w, i32_w]
             rfl
            refine pure_ (i := 25) (N := some 36) (v := ?_) (a' := ?_) mk49 rfl rfl (any_of HT_.out (by kernel_rfl)) (fun _ _ _ h => h) (Or.inl ⟨by rfl, ?_⟩) ?_ ?_
            rotate_left
            ·intro w'
             go_simp
             with_reducible rfl
            rotate_left
            ·simp only [Act.put, List.setIfInBounds_toArray, List.set_cons_zero, List.set_cons_succ, i64_w, i32_w]
             rfl
            refine take_ (i := 21) (N := some 32) (v := ?_) (a' := ?_) mk26 rfl rfl (take_ofW HT_.out HW_.out (by kernel_rfl)) (fun _ _ _ h => h) (Or.inl ⟨by rfl, ?_⟩) hHeld ?_ ?_
            rotate_left
            ·rintro w' ⟨s0, s1, s2, s3⟩
             go_simp
             with_reducible rfl
            rotate_left
            ·simp only [Act.put, List.setIfInBounds_toArray, List.set_cons_zero, List.set_cons_succ, i64_w, i32_w]
             rfl
            refine take_ (i := 26) (N := some 37) (v := ?_) (a' := ?_) mk27 rfl rfl (take_ofW HT_.out HW_.out (by kernel_rfl)) (fun _ _ _ h => h) (Or.inl ⟨by rfl, ?_⟩) hHeld ?_ ?_
            rotate_left
            ·rintro w' ⟨s0, s1, s2, s3⟩
             go_simp
             with_reducible rfl
            rotate_left
            ·simp only [Act.put, List.setIfInBounds_toArray, List.set_cons_zero, List.set_cons_succ, i64_w, i32_w]
             rfl
            refine pure_ (i := 27) (N := some 38) (v := ?_) (a' := ?_) mk28 rfl rfl (any_of HT_.out (by kernel_rfl)) (fun _ _ _ h => h) (Or.inl ⟨by rfl, ?_⟩) ?_ ?_
            rotate_left
            ·intro w'
             go_simp
             with_reducible rfl
            rotate_left
            ·simp only [Act.put, List.setIfInBounds_toArray, List.set_cons_zero, List.set_cons_succ, i64_w, i32_w]
             rfl
            refine pure_ (i := 28) (N := some 39) (v := ?_) (a' := ?_) mk29 rfl rfl (any_of HT_.out (by kernel_rfl)) (fun _ _ _ h => h) (Or.inl ⟨by rfl, ?_⟩) ?_ ?_
            rotate_left
            ·intro w'
             go_simp
             with_reducible rfl
            rotate_left
            ·simp only [Act.put, List.setIfInBounds_toArray, List.set_cons_zero, List.set_cons_succ, i64_w, i32_w]
             rfl
            refine pure_ (i := 29) (N := some 40) (v := undef) (a' := ?_) mk30 rfl rfl (any_of HT_.out (by kernel_rfl)) (fun _ _ _ h => h) (Or.inr ⟨by rfl, rfl⟩) ?_ ?_
            rotate_left
            ·simp only [Act.put, List.setIfInBounds_toArray, List.set_cons_zero, List.set_cons_succ, i64_w, i32_w]
             rfl
            refine pure_ (i := 30) (N := some 41) (v := undef) (a' := ?_) mk31 rfl rfl (any_of HT_.out (by kernel_rfl)) (fun _ _ _ h => h) (Or.inr ⟨by rfl, rfl⟩) ?_ ?_
            rotate_left
            ·simp only [Act.put, List.setIfInBounds_toArray, List.set_cons_zero, List.set_cons_succ, i64_w, i32_w]
             rfl
            refine pure_ (i := 31) (N := some 42) (v := undef) (a' := ?_) mk32 rfl rfl (any_of HT_.out (by kernel_rfl)) (fun _ _ _ h => h) (Or.inr ⟨by rfl, rfl⟩) ?_ ?_
            rotate_left
            ·simp only [Act.put, List.setIfInBounds_toArray, List.set_cons_zero, List.set_cons_succ, i64_w, i32_w]
             rfl
            refine pure_ (i := 32) (N := some 43) (v := undef) (a' := ?_) mk33 rfl rfl (any_of HT_.out (by kernel_rfl)) (fun _ _ _ h => h) (Or.inr ⟨by rfl, rfl⟩) ?_ ?_
            rotate_left
            ·simp only [Act.put, List.setIfInBounds_toArray, List.set_cons_zero, List.set_cons_succ, i64_w, i32_w]
             rfl
            refine pure_ (i := 33) (N := some 44) (v := undef) (a' := ?_) mk34 rfl rfl (any_of HT_.out (by kernel_rfl)) (fun _ _ _ h => h) (Or.inr ⟨by rfl, rfl⟩) ?_ ?_
            rotate_left
            ·simp only [Act.put, List.setIfInBounds_toArray, List.set_cons_zero, List.set_cons_succ, i64_w, i32_w]
             rfl
            refine pure_ (i := 34) (N := some 45) (v := undef) (a' := ?_) mk35 rfl rfl (any_of HT_.out (by kernel_rfl)) (fun _ _ _ h => h) (Or.inr ⟨by rfl, rfl⟩) ?_ ?_
            rotate_left
            ·simp only [Act.put, List.setIfInBounds_toArray, List.set_cons_zero, List.set_cons_succ, i64_w, i32_w]
             rfl
            refine pure_ (i := 35) (N := some 46) (v := undef) (a' := ?_) mk36 rfl rfl (any_of HT_.out (by kernel_rfl)) (fun _ _ _ h => h) (Or.inr ⟨by rfl, rfl⟩) ?_ ?_
            rotate_left
            ·simp only [Act.put, List.setIfInBounds_toArray, List.set_cons_zero, List.set_cons_succ, i64_w, i32_w]
             rfl
            refine pure_ (i := 36) (N := some 47) (v := undef) (a' := ?_) mk37 rfl rfl (any_of HT_.out (by kernel_rfl)) (fun _ _ _ h => h) (Or.inr ⟨by rfl, rfl⟩) ?_ ?_
            rotate_left
            ·simp only [Act.put, List.setIfInBounds_toArray, List.set_cons_zero, List.set_cons_succ, i64_w, i32_w]
             rfl
            refine pure_ (i := 37) (N := some 48) (v := undef) (a' := ?_) mk38 rfl rfl (any_of HT_.out (by kernel_rfl)) (fun _ _ _ h => h) (Or.inr ⟨by rfl, rfl⟩) ?_ ?_
            rotate_left
            ·simp only [Act.put, List.setIfInBounds_toArray, List.set_cons_zero, List.set_cons_succ, i64_w, i32_w]
             rfl
            refine pure_ (i := 38) (N := some 49) (v := undef) (a' := ?_) mk39 rfl rfl (any_of HT_.out (by kernel_rfl)) (fun _ _ _ h => h) (Or.inr ⟨by rfl, rfl⟩) ?_ ?_
            rotate_left
            ·simp only [Act.put, List.setIfInBounds_toArray, List.set_cons_zero, List.set_cons_succ, i64_w, i32_w]
             rfl
            refine pure_ (i := 39) (N := some 50) (v := undef) (a' := ?_) mk40 rfl rfl (any_of HT_.out (by kernel_rfl)) (fun _ _ _ h => h) (Or.inr ⟨by rfl, rfl⟩) ?_ ?_
            rotate_left
            ·simp only [Act.put, List.setIfInBounds_toArray, List.set_cons_zero, List.set_cons_succ, i64_w, i32_w]
             rfl
            refine pure_ (i := 40) (N := some 51) (v := undef) (a' := ?_) mk41 rfl rfl (any_of HT_.out (by kernel_rfl)) (fun _ _ _ h => h) (Or.inr ⟨by rfl, rfl⟩) ?_ ?_
            rotate_left
            ·simp only [Act.put, List.setIfInBounds_toArray, List.set_cons_zero, List.set_cons_succ, i64_w, i32_w]
             rfl
            refine pure_ (i := 41) (N := some 52) (v := undef) (a' := ?_) mk42 rfl rfl (any_of HT_.out (by kernel_rfl)) (fun _ _ _ h => h) (Or.inr ⟨by rfl, rfl⟩) ?_ ?_
            rotate_left
            ·simp only [Act.put, List.setIfInBounds_toArray, List.set_cons_zero, List.set_cons_succ, i64_w, i32_w]
             rfl
            refine pure_ (i := 42) (N := some 53) (v := ?_) (a' := ?_) mk43 rfl rfl (any_of HT_.out (by kernel_rfl)) (fun _ _ _ h => h) (Or.inl ⟨by rfl, ?_⟩) ?_ ?_
            rotate_left
            ·intro w'
             go_simp
             with_reducible rfl
            rotate_left
            ·simp only [Act.put, List.setIfInBounds_toArray, List.set_cons_zero, List.set_cons_succ, i64_w, i32_w]
             rfl
            refine pure_ (i := 43) (N := some 54) (v := ?_) (a' := ?_) mk44 rfl rfl (any_of HT_.out (by kernel_rfl)) (fun _ _ _ h => h) (Or.inl ⟨by rfl, ?_⟩) ?_ ?_
            rotate_left
            ·intro w'
             go_simp
             with_reducible rfl
            rotate_left
            ·simp only [Act.put, List.setIfInBounds_toArray, List.set_cons_zero, List.set_cons_succ, i64_w, i32_w]
             rfl
            refine pure_ (i := 44) (N := some 55) (v := ?_) (a' := ?_) mk45 rfl rfl (any_of HT_.out (by kernel_rfl)) (fun _ _ _ h => h) (Or.inl ⟨by rfl, ?_⟩) ?_ ?_
            rotate_left
            ·intro w'
             go_simp
             with_reducible rfl
            rotate_left
            ·simp only [Act.put, List.setIfInBounds_toArray, List.set_cons_zero, List.set_cons_succ, i64_w, i32_w]
             rfl
            refine done_ (done_of HT_.out (by kernel_rfl)) ?_
            try go_wp2
            go_ret
            exact ⟨by first | rfl | (simp [errW_none, errW_some] <;> rfl) | (simp only [← hji11]; first | rfl | (simp [errW_none, errW_some] <;> rfl)) | (simp [*, errW_none, errW_some] <;> rfl), by repeat (first | (with_reducible first | exact HB.out | apply below_alloc | apply pw_below_drewN | apply below_drew1) | exact HB.out)⟩
           ·rw [if_neg c14] at H
            have c14b0 : (Op.bytesLess ((rdOf ByteArray.empty l0 x8_1).toList) ((rdOf ByteArray.empty l0 (ji11)).toList)) = false := by simpa using c14
            clear c14
            by_cases c19 : a1 = true
            ·subst c19
             have H1 : (if (rdOf ByteArray.empty l0 x8_1).toList = (rdOf ByteArray.empty l0 (ji11)).toList then (some false) else (laws_ordered.l0 k1 l0 true (l0.length : Int) (wrap64 (x8_1 + 1)))) = some r := by rw [if_pos rfl] at H; exact H
             clear H
             have H := H1
             clear H1
             by_cases c20 : (rdOf ByteArray.empty l0 x8_1).toList = (rdOf ByteArray.empty l0 (ji11)).toList
             ·rw [if_pos c20] at H
              have c20b0 : ((rdOf ByteArray.empty l0 x8_1).toList == (rdOf ByteArray.empty l0 (ji11)).toList) = true := beq_iff_eq.mpr c20
              have c20b1 : ((rdOf ByteArray.empty l0 x8_1).toList != (rdOf ByteArray.empty l0 (ji11)).toList) = false := bne_eq_false_iff_eq.mpr c20
              clear c20
              obtain rfl := Option.some.inj H
              try go_wp2
              have n0_ := Aside0.mk (below_drew1 HB.out)
              clear HB
              have HB := n0_
              clear n0_
              have p194 : 0 ≤ (x8_1 : Int) := of_decide_eq_true (by first | (with_reducible assumption) | assumption)
              have q194 : x8_1 < (l0.length : Int) := of_decide_eq_true (by first | (with_reducible assumption) | assumption)
              obtain ⟨ad194, e194, hx194_0⟩ := Kd.at_string HR0.out x8_1 p194 q194
              have hw194_0 := hx194_0
              cases e194
              replace hx194_0 := (HB.out.cell (World.block_lt_of_cell? w _ hx194_0)).trans hx194_0
              replace p194 := eq_true p194
              replace q194 := eq_true q194
              have p195 : 0 ≤ (x8_1 : Int) := of_decide_eq_true (by first | (with_reducible assumption) | assumption)
              have q195 : x8_1 < (l0.length : Int) := of_decide_eq_true (by first | (with_reducible assumption) | assumption)
              obtain ⟨ad195, e195, hx195_0⟩ := Kd.at_string HR0.out x8_1 p195 q195
              have hw195_0 := hx195_0
              obtain rfl : ad194 = ad195 := (by injection e195)
              replace hx195_0 := (HB.out.cell (World.block_lt_of_cell? w _ hx195_0)).trans hx195_0
              replace p195 := eq_true p195
              replace q195 := eq_true q195
              have p200 : 0 ≤ (x8_1 : Int) := of_decide_eq_true (by first | (with_reducible assumption) | assumption)
              have q200 : x8_1 < (l0.length : Int) := of_decide_eq_true (by first | (with_reducible assumption) | assumption)
              obtain ⟨ad200, e200, hx200_0⟩ := Kd.at_string HR0.out x8_1 p200 q200
              have hw200_0 := hx200_0
              obtain rfl : ad194 = ad200 := (by injection e200)
              replace hx200_0 := (HB.out.cell (World.block_lt_of_cell? w _ hx200_0)).trans hx200_0
              replace p200 := eq_true p200
              replace q200 := eq_true q200
              have p201 : 0 ≤ ((ji11) : Int) := of_decide_eq_true (by first | (with_reducible assumption) | assumption)
              have q201 : (ji11) < (l0.length : Int) := of_decide_eq_true (by first | (with_reducible assumption) | assumption)
              obtain ⟨ad201, e201, hx201_0⟩ := Kd.at_string HR0.out (ji11) p201 q201
              have hw201_0 := hx201_0
              obtain rfl : ad194 = ad201 := (by injection e201)
              replace hx201_0 := (HB.out.cell (World.block_lt_of_cell? w _ hx201_0)).trans hx201_0
              replace p201 := eq_true p201
              replace q201 := eq_true q201
              have p202 : 0 ≤ (x8_1 : Int) := of_decide_eq_true (by first | (with_reducible assumption) | assumption)
              have q202 : x8_1 < (l0.length : Int) := of_decide_eq_true (by first | (with_reducible assumption) | assumption)
              obtain ⟨ad202, e202, hx202_0⟩ := Kd.at_string HR0.out x8_1 p202 q202
              have hw202_0 := hx202_0
              obtain rfl : ad194 = ad202 := (by injection e202)
              replace hx202_0 := (HB.out.cell (World.block_lt_of_cell? w _ hx202_0)).trans hx202_0
              replace p202 := eq_true p202
              replace q202 := eq_true q202
              have p203 : 0 ≤ ((ji11) : Int) := of_decide_eq_true (by first | (with_reducible assumption) | assumption)
              have q203 : (ji11) < (l0.length : Int) := of_decide_eq_true (by first | (with_reducible assumption) | assumption)
              obtain ⟨ad203, e203, hx203_0⟩ := Kd.at_string HR0.out (ji11) p203 q203
              have hw203_0 := hx203_0
              obtain rfl : ad194 = ad203 := (by injection e203)
              replace hx203_0 := (HB.out.cell (World.block_lt_of_cell? w _ hx203_0)).trans hx203_0
              replace p203 := eq_true p203
              replace q203 := eq_true q203
              refine start_ (n := 45) (S := fun w' => w'.cell? (ad194.add (x8_1).toNat) = some (.string (rdOf ByteArray.empty l0 x8_1)) ∧ w'.cell? (ad194.add (x8_1).toNat) = some (.string (rdOf ByteArray.empty l0 x8_1)) ∧ w'.cell? (ad194.add (x8_1).toNat) = some (.string (rdOf ByteArray.empty l0 x8_1)) ∧ w'.cell? (ad194.add ((ji11)).toNat) = some (.string (rdOf ByteArray.empty l0 (ji11))) ∧ w'.cell? (ad194.add (x8_1).toNat) = some (.string (rdOf ByteArray.empty l0 x8_1)) ∧ w'.cell? (ad194.add ((ji11)).toNat) = some (.string (rdOf ByteArray.empty l0 (ji11)))) (ds := []) mk0 (by kernel_rfl) rfl rfl ⟨((HB.out.cell (World.block_lt_of_cell? w _ hw194_0)).trans hw194_0), ((HB.out.cell (World.block_lt_of_cell? w _ hw195_0)).trans hw195_0), ((HB.out.cell (World.block_lt_of_cell? w _ hw200_0)).trans hw200_0), ((HB.out.cell (World.block_lt_of_cell? w _ hw201_0)).trans hw201_0), ((HB.out.cell (World.block_lt_of_cell? w _ hw202_0)).trans hw202_0), ((HB.out.cell (World.block_lt_of_cell? w _ hw203_0)).trans hw203_0)⟩ (fun hHeld => ?_); refine with_tabW laws_ordered.tab4 laws_ordered.bits4 (fun HT_ HW_ => ?_)
              generalize wr.drew = w21 at HB hx194_0 hx195_0 hx200_0 hx201_0 hx202_0 hx203_0 hHeld ⊢
              refine pure_ (i := 0) (N := some 11) (v := ?_) (a' := ?_) mk1 rfl rfl (any_of HT_.out (by kernel_rfl)) (fun _ _ _ h => h) (Or.inl ⟨by rfl, ?_⟩) ?_ ?_
              rotate_left
              ·intro w'
               go_simp
               with_reducible rfl
              rotate_left
              ·simp only [Act.put, List.setIfInBounds_toArray, List.set_cons_zero, List.set_cons_succ, i64_w, i32_w]
               rfl
              refine pure_ (i := 1) (N := some 12) (v := ?_) (a' := ?_) mk2 rfl rfl (any_of HT_.out (by kernel_rfl)) (fun _ _ _ h => h) (Or.inl ⟨by rfl, ?_⟩) ?_ ?_
              rotate_left
              ·intro w'
               go_simp
               with_reducible rfl
              rotate_left
              ·simp only [Act.put, List.setIfInBounds_toArray, List.set_cons_zero, List.set_cons_succ, i64_w, i32_w]
               rfl
              refine pure_ (i := 2) (N := some 13) (v := ?_) (a' := ?_) mk3 rfl rfl (any_of HT_.out (by kernel_rfl)) (fun _ _ _ h => h) (Or.inl ⟨by rfl, ?_⟩) ?_ ?_
              rotate_left
              ·intro w'
               go_simp
               with_reducible rfl
              rotate_left
              ·simp only [Act.put, List.setIfInBounds_toArray, List.set_cons_zero, List.set_cons_succ, i64_w, i32_w]
               rfl
              refine take_ (i := 3) (N := some 14) (v := ?_) (a' := ?_) mk4 rfl rfl (take_ofW HT_.out HW_.out (by kernel_rfl)) (fun _ _ _ h => h) (Or.inl ⟨by rfl, ?_⟩) hHeld ?_ ?_
              rotate_left
              ·rintro w' ⟨s0, s1, s2, s3, s4, s5⟩
               go_simp
               with_reducible rfl
              rotate_left
              ·simp only [Act.put, List.setIfInBounds_toArray, List.set_cons_zero, List.set_cons_succ, i64_w, i32_w]
               rfl
              refine pure_ (i := 4) (N := some 15) (v := ?_) (a' := ?_) mk5 rfl rfl (any_of HT_.out (by kernel_rfl)) (fun _ _ _ h => h) (Or.inl ⟨by rfl, ?_⟩) ?_ ?_
              rotate_left
              ·intro w'
               go_simp
               with_reducible rfl
              rotate_left
              ·simp only [Act.put, List.setIfInBounds_toArray, List.set_cons_zero, List.set_cons_succ, i64_w, i32_w]
               rfl
              refine pure_ (i := 5) (N := some 16) (v := ?_) (a' := ?_) mk6 rfl rfl (any_of HT_.out (by kernel_rfl)) (fun _ _ _ h => h) (Or.inl ⟨by rfl, ?_⟩) ?_ ?_
              rotate_left
              ·intro w'
               go_simp
               with_reducible rfl
              rotate_left
              ·simp only [Act.put, List.setIfInBounds_toArray, List.set_cons_zero, List.set_cons_succ, i64_w, i32_w]
               rfl
              refine pure_ (i := 6) (N := some 17) (v := ?_) (a' := ?_) mk7 rfl rfl (any_of HT_.out (by kernel_rfl)) (fun _ _ _ h => h) (Or.inl ⟨by rfl, ?_⟩) ?_ ?_
              rotate_left
              ·intro w'
               go_simp
               with_reducible rfl
              rotate_left
              ·simp only [Act.put, List.setIfInBounds_toArray, List.set_cons_zero, List.set_cons_succ, i64_w, i32_w]
               rfl
              refine pure_ (i := 7) (N := some 18) (v := ?_) (a' := ?_) mk8 rfl rfl (any_of HT_.out (by kernel_rfl)) (fun _ _ _ h => h) (Or.inl ⟨by rfl, ?_⟩) ?_ ?_
              rotate_left
              ·intro w'
               go_simp
               with_reducible rfl
              rotate_left
              ·simp only [Act.put, List.setIfInBounds_toArray, List.set_cons_zero, List.set_cons_succ, i64_w, i32_w]
               rfl
              refine pure_ (i := 8) (N := some 19) (v := ?_) (a' := ?_) mk9 rfl rfl (any_of HT_.out (by kernel_rfl)) (fun _ _ _ h => h) (Or.inl ⟨by rfl, ?_⟩) ?_ ?_
              rotate_left
              ·intro w'
               go_simp
               with_reducible rfl
              rotate_left
              ·simp only [Act.put, List.setIfInBounds_toArray, List.set_cons_zero, List.set_cons_succ, i64_w, i32_w]
               rfl
              refine take_ (i := 9) (N := some 20) (v := ?_) (a' := ?_) mk10 rfl rfl (take_ofW HT_.out HW_.out (by kernel_rfl)) (fun _ _ _ h => h) (Or.inl ⟨by rfl, ?_⟩) hHeld ?_ ?_
              rotate_left
              ·rintro w' ⟨s0, s1, s2, s3, s4, s5⟩
               go_simp
               with_reducible rfl
              rotate_left
              ·simp only [Act.put, List.setIfInBounds_toArray, List.set_cons_zero, List.set_cons_succ, i64_w, i32_w]
               rfl
              refine one_ (i := 10) (N := some 21) mk11 rfl rfl (one_of HT_.out (by kernel_rfl)) (by decide) (fun K hK => ?_)
              refine Kd.R_lit_step Kd.string _ 9 ?hg (N := 21) ?hd (xs := ([rdOf ByteArray.empty l0 x8_1] : List ByteArray)) (inner := [.string (rdOf ByteArray.empty l0 x8_1)]) (ok := fun _ => True) (okp := fun _ => True) ?hr ?hp (fun _ hk => hk) trivial (Below.refl _ _) (Nat.le_refl _) (by simp) ?_; (case hd => rfl); (case hg => rfl); (case hr => first | (go_simp; done) | (go_simp; rfl)); (case hp => exact (Reps.one (show Kd.M Kd.string _ _ _ (rdOf ByteArray.empty l0 x8_1) [.string (rdOf ByteArray.empty l0 x8_1)] from rfl) (Reps.none _ _)))
              intro v197 w22 ho23 hb hg_ hnew_
              clear hg_ hnew_
              (first | rw [← Ny196.out] at ho23 | (simp only [Int.reduceToNat] at ho23; rw [← Ny196.out] at ho23))
              have n0_ := Aside0.mk (Kd.R_lower ho23 (below_size (by repeat (first | (with_reducible first | exact HB.out | apply below_alloc | apply pw_below_drewN | apply below_drew1) | exact HB.out))))
              have n1_ := Aside0.mk (below_step (by repeat (first | (with_reducible first | exact HB.out | apply below_alloc | apply pw_below_drewN | apply below_drew1) | exact HB.out)) hb)
              clear HB
              have HO198 := n0_
              have HB := n1_
              clear n0_ n1_
              clear hb ho23
              obtain ⟨Ao24, co24, eo24⟩ := Kd.R_slice HO198.out
              (first | subst eo24 | (injection eo24 with f1_ f2_ f3_; have f4_ := f1_.symm; have f5_ := f3_.symm; clear f1_ f2_ f3_; subst f4_; subst f5_))
              refine hK.out _ _ ⟨((HB.out.cell (World.block_lt_of_cell? w _ hw194_0)).trans hw194_0), ((HB.out.cell (World.block_lt_of_cell? w _ hw195_0)).trans hw195_0), ((HB.out.cell (World.block_lt_of_cell? w _ hw200_0)).trans hw200_0), ((HB.out.cell (World.block_lt_of_cell? w _ hw201_0)).trans hw201_0), ((HB.out.cell (World.block_lt_of_cell? w _ hw202_0)).trans hw202_0), ((HB.out.cell (World.block_lt_of_cell? w _ hw203_0)).trans hw203_0)⟩ (fun hHeld => ?_)
              clear hK K
              refine norm_ (a' := ?_) ?_ ?_
              rotate_left
              ·show Act.put _ (some 21) _ = _
               simp only [Act.put, List.setIfInBounds_toArray, List.set_cons_zero, List.set_cons_succ, i64_w, i32_w]
               rfl
              refine one_ (i := 11) (N := some 22) mk12 rfl rfl (one_of HT_.out (by kernel_rfl)) (by decide) (fun K hK => ?_)
              refine goes_ Try.func13 (by kernel_rfl) rfl #[.slice Ao24 y196.length co24] (by rfl) rfl rfl (by (try simp only [List.map_toArray, List.map_cons, List.map_nil]); first | done | rfl | (simp only [List.length_drop, List.length_take]; rfl)) ?_
              with_reducible refine (laws_clean.calls k1 _ _ y196 true _ ?side1 ?side2 A8.out).mono ?_
              (case side1 => repeat (first | exact (Kd.R_reads' HO198.out).2.2 | (with_reducible refine Kd.C_alloc ?_ _) | (with_reducible refine Kd.C_drewN ?_ _) | (with_reducible refine Kd.C_drew ?_)))
              (case side2 => exact (Kd.R_reads' HO198.out).2.1)
              rintro e w' ⟨rfl, ⟨nd, rfl⟩⟩
              refine ⟨_, rfl, ?_⟩
              refine hK.out _ _ ⟨((HB.out.cell (World.block_lt_of_cell? w _ hw194_0)).trans hw194_0), ((HB.out.cell (World.block_lt_of_cell? w _ hw195_0)).trans hw195_0), ((HB.out.cell (World.block_lt_of_cell? w _ hw200_0)).trans hw200_0), ((HB.out.cell (World.block_lt_of_cell? w _ hw201_0)).trans hw201_0), ((HB.out.cell (World.block_lt_of_cell? w _ hw202_0)).trans hw202_0), ((HB.out.cell (World.block_lt_of_cell? w _ hw203_0)).trans hw203_0)⟩ (fun hHeld => ?_)
              clear hK K
              refine norm_ (a' := ?_) ?_ ?_
              rotate_left
              ·show Act.put _ (some 22) _ = _
               simp only [Act.put, List.setIfInBounds_toArray, List.set_cons_zero, List.set_cons_succ, i64_w, i32_w]
               rfl
              refine pure_ (i := 12) (N := some 23) (v := ?_) (a' := ?_) mk13 rfl rfl (any_of HT_.out (by kernel_rfl)) (fun _ _ _ h => h) (Or.inl ⟨by rfl, ?_⟩) ?_ ?_
              rotate_left
              ·intro w'
               go_simp
               with_reducible rfl
              rotate_left
              ·simp only [Act.put, List.setIfInBounds_toArray, List.set_cons_zero, List.set_cons_succ, i64_w, i32_w]
               rfl
              refine pure_ (i := 13) (N := some 24) (v := ?_) (a' := ?_) mk14 rfl rfl (any_of HT_.out (by kernel_rfl)) (fun _ _ _ h => h) (Or.inl ⟨by rfl, ?_⟩) ?_ ?_
              rotate_left
              ·intro w'
               go_simp
               with_reducible rfl
              rotate_left
              ·simp only [Act.put, List.setIfInBounds_toArray, List.set_cons_zero, List.set_cons_succ, i64_w, i32_w]
               rfl
              refine pure_ (i := 14) (N := some 25) (v := ?_) (a' := ?_) mk15 rfl rfl (any_of HT_.out (by kernel_rfl)) (fun _ _ _ h => h) (Or.inl ⟨by rfl, ?_⟩) ?_ ?_
              rotate_left
              ·intro w'
               go_simp
               with_reducible rfl
              rotate_left
              ·simp only [Act.put, List.setIfInBounds_toArray, List.set_cons_zero, List.set_cons_succ, i64_w, i32_w]
               rfl
              refine pure_ (i := 15) (N := some 26) (v := ?_) (a' := ?_) mk16 rfl rfl (any_of HT_.out (by kernel_rfl)) (fun _ _ _ h => h) (Or.inl ⟨by rfl, ?_⟩) ?_ ?_
              rotate_left
              ·intro w'
               go_simp
               with_reducible rfl
              rotate_left
              ·simp only [Act.put, List.setIfInBounds_toArray, List.set_cons_zero, List.set_cons_succ, i64_w, i32_w]
               rfl
              refine pure_ (i := 16) (N := some 27) (v := ?_) (a' := ?_) mk17 rfl rfl (any_of HT_.out (by kernel_rfl)) (fun _ _ _ h => h) (Or.inl ⟨by rfl, ?_⟩) ?_ ?_
              rotate_left
              ·intro w'
               go_simp
               with_reducible rfl
              rotate_left
              ·simp only [Act.put, List.setIfInBounds_toArray, List.set_cons_zero, List.set_cons_succ, i64_w, i32_w]
               rfl
              refine pure_ (i := 17) (N := some 28) (v := ?_) (a' := ?_) mk18 rfl rfl (any_of HT_.out (by kernel_rfl)) (fun _ _ _ h => h) (Or.inl ⟨by rfl, ?_⟩) ?_ ?_
              rotate_left
              ·intro w'
               go_simp
               with_reducible rfl
              rotate_left
              ·simp only [Act.put, List.setIfInBounds_toArray, List.set_cons_zero, List.set_cons_succ, i64_w, i32_w]
               rfl
              refine pure_ (i := 18) (N := some 29) (v := ?_) (a' := ?_) mk19 rfl rfl (any_of HT_.out (by kernel_rfl)) (fun _ _ _ h => h) (Or.inl ⟨by rfl, ?_⟩) ?_ ?_
              rotate_left
              ·intro w'
               go_simp
               with_reducible rfl
              rotate_left
              ·simp only [Act.put, List.setIfInBounds_toArray, List.set_cons_zero, List.set_cons_succ, i64_w, i32_w]
               rfl
              refine pure_ (i := 19) (N := some 30) (v := ?_) (a' := ?_) mk20 rfl rfl (any_of HT_.out (by kernel_rfl)) (fun _ _ _ h => h) (Or.inl ⟨by rfl, ?_⟩) ?_ ?_
              rotate_left
              ·intro w'
               go_simp
               with_reducible rfl
              rotate_left
              ·simp only [Act.put, List.setIfInBounds_toArray, List.set_cons_zero, List.set_cons_succ, i64_w, i32_w]
               rfl
              refine pure_ (i := 20) (N := some 31) (v := ?_) (a' := ?_) mk21 rfl rfl (any_of HT_.out (by kernel_rfl)) (fun _ _ _ h => h) (Or.inl ⟨by rfl, ?_⟩) ?_ ?_
              rotate_left
              ·intro w'
               go_simp
               with_reducible rfl
              rotate_left
              ·simp only [Act.put, List.setIfInBounds_toArray, List.set_cons_zero, List.set_cons_succ, i64_w, i32_w]
               rfl
              refine pure_ (i := 22) (N := some 33) (v := ?_) (a' := ?_) mk46 rfl rfl (any_of HT_.out (by kernel_rfl)) (fun _ _ _ h => h) (Or.inl ⟨by rfl, ?_⟩) ?_ ?_
              rotate_left
              ·intro w'
               go_simp
               with_reducible rfl
              rotate_left
              ·simp only [Act.put, List.setIfInBounds_toArray, List.set_cons_zero, List.set_cons_succ, i64_w, i32_w]
               rfl
              refine pure_ (i := 23) (N := some 34) (v := ?_) (a' := ?_) mk47 rfl rfl (any_of HT_.out (by kernel_rfl)) (fun _ _ _ h => h) (Or.inl ⟨by rfl, ?_⟩) ?_ ?_
              rotate_left
              ·intro w'
               go_simp
               with_reducible rfl
              rotate_left
              ·simp only [Act.put, List.setIfInBounds_toArray, List.set_cons_zero, List.set_cons_succ, i64_w, i32_w]
               rfl
              refine pure_ (i := 24) (N := some 35) (v := ?_) (a' := ?_) mk48 rfl rfl (any_of HT_.out (by kernel_rfl)) (fun _ _ _ h => h) (Or.inl ⟨by rfl, ?_⟩) ?_ ?_
              rotate_left
              ·intro w'
               go_simp
               with_reducible rfl
              rotate_left
              ·simp only [Act.put, List.setIfInBounds_toArray, List.set_cons_zero, List.set_cons_succ, i64_w, i32_w]
               rfl
              refine pure_ (i := 25) (N := some 36) (v := ?_) (a' := ?_) mk49 rfl rfl (any_of HT_.out (by kernel_rfl)) (fun _ _ _ h => h) (Or.inl ⟨by rfl, ?_⟩) ?_ ?_
              rotate_left
              ·intro w'
               go_simp
               with_reducible rfl
              rotate_left
              ·simp only [Act.put, List.setIfInBounds_toArray, List.set_cons_zero, List.set_cons_succ, i64_w, i32_w]
               rfl
              refine take_ (i := 21) (N := some 32) (v := ?_) (a' := ?_) mk26 rfl rfl (take_ofW HT_.out HW_.out (by kernel_rfl)) (fun _ _ _ h => h) (Or.inl ⟨by rfl, ?_⟩) hHeld ?_ ?_
              rotate_left
              ·rintro w' ⟨s0, s1, s2, s3, s4, s5⟩
               go_simp
               with_reducible rfl
              rotate_left
              ·simp only [Act.put, List.setIfInBounds_toArray, List.set_cons_zero, List.set_cons_succ, i64_w, i32_w]
               rfl
              refine take_ (i := 26) (N := some 37) (v := ?_) (a' := ?_) mk27 rfl rfl (take_ofW HT_.out HW_.out (by kernel_rfl)) (fun _ _ _ h => h) (Or.inl ⟨by rfl, ?_⟩) hHeld ?_ ?_
              rotate_left
              ·rintro w' ⟨s0, s1, s2, s3, s4, s5⟩
               go_simp
               with_reducible rfl
              rotate_left
              ·simp only [Act.put, List.setIfInBounds_toArray, List.set_cons_zero, List.set_cons_succ, i64_w, i32_w]
               rfl
              refine pure_ (i := 27) (N := some 38) (v := ?_) (a' := ?_) mk28 rfl rfl (any_of HT_.out (by kernel_rfl)) (fun _ _ _ h => h) (Or.inl ⟨by rfl, ?_⟩) ?_ ?_
              rotate_left
              ·intro w'
               go_simp
               with_reducible rfl
              rotate_left
              ·simp only [Act.put, List.setIfInBounds_toArray, List.set_cons_zero, List.set_cons_succ, i64_w, i32_w]
               rfl
              refine pure_ (i := 28) (N := some 39) (v := ?_) (a' := ?_) mk29 rfl rfl (any_of HT_.out (by kernel_rfl)) (fun _ _ _ h => h) (Or.inl ⟨by rfl, ?_⟩) ?_ ?_
              rotate_left
              ·intro w'
               go_simp
               with_reducible rfl
              rotate_left
              ·simp only [Act.put, List.setIfInBounds_toArray, List.set_cons_zero, List.set_cons_succ, i64_w, i32_w]
               rfl
              refine pure_ (i := 29) (N := some 40) (v := ?_) (a' := ?_) mk30 rfl rfl (any_of HT_.out (by kernel_rfl)) (fun _ _ _ h => h) (Or.inl ⟨by rfl, ?_⟩) ?_ ?_
              rotate_left
              ·intro w'
               go_simp
               with_reducible rfl
              rotate_left
              ·simp only [Act.put, List.setIfInBounds_toArray, List.set_cons_zero, List.set_cons_succ, i64_w, i32_w]
               rfl
              refine pure_ (i := 30) (N := some 41) (v := ?_) (a' := ?_) mk31 rfl rfl (any_of HT_.out (by kernel_rfl)) (fun _ _ _ h => h) (Or.inl ⟨by rfl, ?_⟩) ?_ ?_
              rotate_left
              ·intro w'
               go_simp
               with_reducible rfl
              rotate_left
              ·simp only [Act.put, List.setIfInBounds_toArray, List.set_cons_zero, List.set_cons_succ, i64_w, i32_w]
               rfl
              refine pure_ (i := 31) (N := some 42) (v := ?_) (a' := ?_) mk32 rfl rfl (any_of HT_.out (by kernel_rfl)) (fun _ _ _ h => h) (Or.inl ⟨by rfl, ?_⟩) ?_ ?_
              rotate_left
              ·intro w'
               go_simp
               with_reducible rfl
              rotate_left
              ·simp only [Act.put, List.setIfInBounds_toArray, List.set_cons_zero, List.set_cons_succ, i64_w, i32_w]
               rfl
              refine pure_ (i := 32) (N := some 43) (v := ?_) (a' := ?_) mk33 rfl rfl (any_of HT_.out (by kernel_rfl)) (fun _ _ _ h => h) (Or.inl ⟨by rfl, ?_⟩) ?_ ?_
              rotate_left
              ·intro w'
               go_simp
               with_reducible rfl
              rotate_left
              ·simp only [Act.put, List.setIfInBounds_toArray, List.set_cons_zero, List.set_cons_succ, i64_w, i32_w]
               rfl
              refine pure_ (i := 33) (N := some 44) (v := ?_) (a' := ?_) mk34 rfl rfl (any_of HT_.out (by kernel_rfl)) (fun _ _ _ h => h) (Or.inl ⟨by rfl, ?_⟩) ?_ ?_
              rotate_left
              ·intro w'
               go_simp
               with_reducible rfl
              rotate_left
              ·simp only [Act.put, List.setIfInBounds_toArray, List.set_cons_zero, List.set_cons_succ, i64_w, i32_w]
               rfl
              refine pure_ (i := 35) (N := some 46) (v := ?_) (a' := ?_) mk50 rfl rfl (any_of HT_.out (by kernel_rfl)) (fun _ _ _ h => h) (Or.inl ⟨by rfl, ?_⟩) ?_ ?_
              rotate_left
              ·intro w'
               go_simp
               with_reducible rfl
              rotate_left
              ·simp only [Act.put, List.setIfInBounds_toArray, List.set_cons_zero, List.set_cons_succ, i64_w, i32_w]
               rfl
              refine pure_ (i := 36) (N := some 47) (v := ?_) (a' := ?_) mk51 rfl rfl (any_of HT_.out (by kernel_rfl)) (fun _ _ _ h => h) (Or.inl ⟨by rfl, ?_⟩) ?_ ?_
              rotate_left
              ·intro w'
               go_simp
               with_reducible rfl
              rotate_left
              ·simp only [Act.put, List.setIfInBounds_toArray, List.set_cons_zero, List.set_cons_succ, i64_w, i32_w]
               rfl
              refine pure_ (i := 37) (N := some 48) (v := ?_) (a' := ?_) mk52 rfl rfl (any_of HT_.out (by kernel_rfl)) (fun _ _ _ h => h) (Or.inl ⟨by rfl, ?_⟩) ?_ ?_
              rotate_left
              ·intro w'
               go_simp
               with_reducible rfl
              rotate_left
              ·simp only [Act.put, List.setIfInBounds_toArray, List.set_cons_zero, List.set_cons_succ, i64_w, i32_w]
               rfl
              refine pure_ (i := 38) (N := some 49) (v := ?_) (a' := ?_) mk53 rfl rfl (any_of HT_.out (by kernel_rfl)) (fun _ _ _ h => h) (Or.inl ⟨by rfl, ?_⟩) ?_ ?_
              rotate_left
              ·intro w'
               go_simp
               with_reducible rfl
              rotate_left
              ·simp only [Act.put, List.setIfInBounds_toArray, List.set_cons_zero, List.set_cons_succ, i64_w, i32_w]
               rfl
              refine take_ (i := 34) (N := some 45) (v := ?_) (a' := ?_) mk39 rfl rfl (take_ofW HT_.out HW_.out (by kernel_rfl)) (fun _ _ _ h => h) (Or.inl ⟨by rfl, ?_⟩) hHeld ?_ ?_
              rotate_left
              ·rintro w' ⟨s0, s1, s2, s3, s4, s5⟩
               go_simp
               with_reducible rfl
              rotate_left
              ·simp only [Act.put, List.setIfInBounds_toArray, List.set_cons_zero, List.set_cons_succ, i64_w, i32_w]
               rfl
              refine take_ (i := 39) (N := some 50) (v := ?_) (a' := ?_) mk40 rfl rfl (take_ofW HT_.out HW_.out (by kernel_rfl)) (fun _ _ _ h => h) (Or.inl ⟨by rfl, ?_⟩) hHeld ?_ ?_
              rotate_left
              ·rintro w' ⟨s0, s1, s2, s3, s4, s5⟩
               go_simp
               with_reducible rfl
              rotate_left
              ·simp only [Act.put, List.setIfInBounds_toArray, List.set_cons_zero, List.set_cons_succ, i64_w, i32_w]
               rfl
              refine pure_ (i := 40) (N := some 51) (v := ?_) (a' := ?_) mk41 rfl rfl (any_of HT_.out (by kernel_rfl)) (fun _ _ _ h => h) (Or.inl ⟨by rfl, ?_⟩) ?_ ?_
              rotate_left
              ·intro w'
               go_simp
               with_reducible rfl
              rotate_left
              ·simp only [Act.put, List.setIfInBounds_toArray, List.set_cons_zero, List.set_cons_succ, i64_w, i32_w]
               rfl
              refine pure_ (i := 41) (N := some 52) (v := ?_) (a' := ?_) mk42 rfl rfl (any_of HT_.out (by kernel_rfl)) (fun _ _ _ h => h) (Or.inl ⟨by rfl, ?_⟩) ?_ ?_
              rotate_left
              ·intro w'
               go_simp
               with_reducible rfl
              rotate_left
              ·simp only [Act.put, List.setIfInBounds_toArray, List.set_cons_zero, List.set_cons_succ, i64_w, i32_w]
               rfl
              refine pure_ (i := 42) (N := some 53) (v := ?_) (a' := ?_) mk43 rfl rfl (any_of HT_.out (by kernel_rfl)) (fun _ _ _ h => h) (Or.inl ⟨by rfl, ?_⟩) ?_ ?_
              rotate_left
              ·intro w'
               go_simp
               with_reducible rfl
              rotate_left
              ·simp only [Act.put, List.setIfInBounds_toArray, List.set_cons_zero, List.set_cons_succ, i64_w, i32_w]
               rfl
              refine pure_ (i := 43) (N := some 54) (v := ?_) (a' := ?_) mk44 rfl rfl (any_of HT_.out (by kernel_rfl)) (fun _ _ _ h => h) (Or.inl ⟨by rfl, ?_⟩) ?_ ?_
              rotate_left
              ·intro w'
               go_simp
               with_reducible rfl
              rotate_left
              ·simp only [Act.put, List.setIfInBounds_toArray, List.set_cons_zero, List.set_cons_succ, i64_w, i32_w]
               rfl
              refine pure_ (i := 44) (N := some 55) (v := ?_) (a' := ?_) mk45 rfl rfl (any_of HT_.out (by kernel_rfl)) (fun _ _ _ h => h) (Or.inl ⟨by rfl, ?_⟩) ?_ ?_
              rotate_left
              ·intro w'
               go_simp
               with_reducible rfl
              rotate_left
              ·simp only [Act.put, List.setIfInBounds_toArray, List.set_cons_zero, List.set_cons_succ, i64_w, i32_w]
               rfl
              refine done_ (done_of HT_.out (by kernel_rfl)) ?_
              try go_wp2
              go_ret
              exact ⟨by first | rfl | (simp [errW_none, errW_some] <;> rfl) | (simp only [← hji11]; first | rfl | (simp [errW_none, errW_some] <;> rfl)) | (simp [*, errW_none, errW_some] <;> rfl), by repeat (first | (with_reducible first | exact HB.out | apply below_alloc | apply pw_below_drewN | apply below_drew1) | exact HB.out)⟩
             ·rw [if_neg c20] at H
              have c20b0 : ((rdOf ByteArray.empty l0 x8_1).toList == (rdOf ByteArray.empty l0 (ji11)).toList) = false := beq_eq_false_iff_ne.mpr c20
              have c20b1 : ((rdOf ByteArray.empty l0 x8_1).toList != (rdOf ByteArray.empty l0 (ji11)).toList) = true := bne_iff_ne.mpr c20
              have H' := Aside0.mk H
              clear H
              try go_wp2
              have n0_ := Aside0.mk (below_drew1 HB.out)
              clear HB
              have HB := n0_
              clear n0_
              have p194 : 0 ≤ (x8_1 : Int) := of_decide_eq_true (by first | (with_reducible assumption) | assumption)
              have q194 : x8_1 < (l0.length : Int) := of_decide_eq_true (by first | (with_reducible assumption) | assumption)
              obtain ⟨ad194, e194, hx194_0⟩ := Kd.at_string HR0.out x8_1 p194 q194
              have hw194_0 := hx194_0
              cases e194
              replace hx194_0 := (HB.out.cell (World.block_lt_of_cell? w _ hx194_0)).trans hx194_0
              replace p194 := eq_true p194
              replace q194 := eq_true q194
              have p195 : 0 ≤ (x8_1 : Int) := of_decide_eq_true (by first | (with_reducible assumption) | assumption)
              have q195 : x8_1 < (l0.length : Int) := of_decide_eq_true (by first | (with_reducible assumption) | assumption)
              obtain ⟨ad195, e195, hx195_0⟩ := Kd.at_string HR0.out x8_1 p195 q195
              have hw195_0 := hx195_0
              obtain rfl : ad194 = ad195 := (by injection e195)
              replace hx195_0 := (HB.out.cell (World.block_lt_of_cell? w _ hx195_0)).trans hx195_0
              replace p195 := eq_true p195
              replace q195 := eq_true q195
              have p200 : 0 ≤ (x8_1 : Int) := of_decide_eq_true (by first | (with_reducible assumption) | assumption)
              have q200 : x8_1 < (l0.length : Int) := of_decide_eq_true (by first | (with_reducible assumption) | assumption)
              obtain ⟨ad200, e200, hx200_0⟩ := Kd.at_string HR0.out x8_1 p200 q200
              have hw200_0 := hx200_0
              obtain rfl : ad194 = ad200 := (by injection e200)
              replace hx200_0 := (HB.out.cell (World.block_lt_of_cell? w _ hx200_0)).trans hx200_0
              replace p200 := eq_true p200
              replace q200 := eq_true q200
              have p201 : 0 ≤ ((ji11) : Int) := of_decide_eq_true (by first | (with_reducible assumption) | assumption)
              have q201 : (ji11) < (l0.length : Int) := of_decide_eq_true (by first | (with_reducible assumption) | assumption)
              obtain ⟨ad201, e201, hx201_0⟩ := Kd.at_string HR0.out (ji11) p201 q201
              have hw201_0 := hx201_0
              obtain rfl : ad194 = ad201 := (by injection e201)
              replace hx201_0 := (HB.out.cell (World.block_lt_of_cell? w _ hx201_0)).trans hx201_0
              replace p201 := eq_true p201
              replace q201 := eq_true q201
              have p202 : 0 ≤ (x8_1 : Int) := of_decide_eq_true (by first | (with_reducible assumption) | assumption)
              have q202 : x8_1 < (l0.length : Int) := of_decide_eq_true (by first | (with_reducible assumption) | assumption)
              obtain ⟨ad202, e202, hx202_0⟩ := Kd.at_string HR0.out x8_1 p202 q202
              have hw202_0 := hx202_0
              obtain rfl : ad194 = ad202 := (by injection e202)
              replace hx202_0 := (HB.out.cell (World.block_lt_of_cell? w _ hx202_0)).trans hx202_0
              replace p202 := eq_true p202
              replace q202 := eq_true q202
              have p203 : 0 ≤ ((ji11) : Int) := of_decide_eq_true (by first | (with_reducible assumption) | assumption)
              have q203 : (ji11) < (l0.length : Int) := of_decide_eq_true (by first | (with_reducible assumption) | assumption)
              obtain ⟨ad203, e203, hx203_0⟩ := Kd.at_string HR0.out (ji11) p203 q203
              have hw203_0 := hx203_0
              obtain rfl : ad194 = ad203 := (by injection e203)
              replace hx203_0 := (HB.out.cell (World.block_lt_of_cell? w _ hx203_0)).trans hx203_0
              replace p203 := eq_true p203
              replace q203 := eq_true q203
              refine start_ (n := 45) (S := fun w' => w'.cell? (ad194.add (x8_1).toNat) = some (.string (rdOf ByteArray.empty l0 x8_1)) ∧ w'.cell? (ad194.add (x8_1).toNat) = some (.string (rdOf ByteArray.empty l0 x8_1)) ∧ w'.cell? (ad194.add (x8_1).toNat) = some (.string (rdOf ByteArray.empty l0 x8_1)) ∧ w'.cell? (ad194.add ((ji11)).toNat) = some (.string (rdOf ByteArray.empty l0 (ji11))) ∧ w'.cell? (ad194.add (x8_1).toNat) = some (.string (rdOf ByteArray.empty l0 x8_1)) ∧ w'.cell? (ad194.add ((ji11)).toNat) = some (.string (rdOf ByteArray.empty l0 (ji11)))) (ds := []) mk0 (by kernel_rfl) rfl rfl ⟨((HB.out.cell (World.block_lt_of_cell? w _ hw194_0)).trans hw194_0), ((HB.out.cell (World.block_lt_of_cell? w _ hw195_0)).trans hw195_0), ((HB.out.cell (World.block_lt_of_cell? w _ hw200_0)).trans hw200_0), ((HB.out.cell (World.block_lt_of_cell? w _ hw201_0)).trans hw201_0), ((HB.out.cell (World.block_lt_of_cell? w _ hw202_0)).trans hw202_0), ((HB.out.cell (World.block_lt_of_cell? w _ hw203_0)).trans hw203_0)⟩ (fun hHeld => ?_); refine with_tabW laws_ordered.tab4 laws_ordered.bits4 (fun HT_ HW_ => ?_)
              generalize wr.drew = w25 at HB hx194_0 hx195_0 hx200_0 hx201_0 hx202_0 hx203_0 hHeld ⊢
              refine pure_ (i := 0) (N := some 11) (v := ?_) (a' := ?_) mk1 rfl rfl (any_of HT_.out (by kernel_rfl)) (fun _ _ _ h => h) (Or.inl ⟨by rfl, ?_⟩) ?_ ?_
              rotate_left
              ·intro w'
               go_simp
               with_reducible rfl
              rotate_left
              ·simp only [Act.put, List.setIfInBounds_toArray, List.set_cons_zero, List.set_cons_succ, i64_w, i32_w]
               rfl
              refine pure_ (i := 1) (N := some 12) (v := ?_) (a' := ?_) mk2 rfl rfl (any_of HT_.out (by kernel_rfl)) (fun _ _ _ h => h) (Or.inl ⟨by rfl, ?_⟩) ?_ ?_
              rotate_left
              ·intro w'
               go_simp
               with_reducible rfl
              rotate_left
              ·simp only [Act.put, List.setIfInBounds_toArray, List.set_cons_zero, List.set_cons_succ, i64_w, i32_w]
               rfl
              refine pure_ (i := 2) (N := some 13) (v := ?_) (a' := ?_) mk3 rfl rfl (any_of HT_.out (by kernel_rfl)) (fun _ _ _ h => h) (Or.inl ⟨by rfl, ?_⟩) ?_ ?_
              rotate_left
              ·intro w'
               go_simp
               with_reducible rfl
              rotate_left
              ·simp only [Act.put, List.setIfInBounds_toArray, List.set_cons_zero, List.set_cons_succ, i64_w, i32_w]
               rfl
              refine take_ (i := 3) (N := some 14) (v := ?_) (a' := ?_) mk4 rfl rfl (take_ofW HT_.out HW_.out (by kernel_rfl)) (fun _ _ _ h => h) (Or.inl ⟨by rfl, ?_⟩) hHeld ?_ ?_
              rotate_left
              ·rintro w' ⟨s0, s1, s2, s3, s4, s5⟩
               go_simp
               with_reducible rfl
              rotate_left
              ·simp only [Act.put, List.setIfInBounds_toArray, List.set_cons_zero, List.set_cons_succ, i64_w, i32_w]
               rfl
              refine pure_ (i := 4) (N := some 15) (v := ?_) (a' := ?_) mk5 rfl rfl (any_of HT_.out (by kernel_rfl)) (fun _ _ _ h => h) (Or.inl ⟨by rfl, ?_⟩) ?_ ?_
              rotate_left
              ·intro w'
               go_simp
               with_reducible rfl
              rotate_left
              ·simp only [Act.put, List.setIfInBounds_toArray, List.set_cons_zero, List.set_cons_succ, i64_w, i32_w]
               rfl
              refine pure_ (i := 5) (N := some 16) (v := ?_) (a' := ?_) mk6 rfl rfl (any_of HT_.out (by kernel_rfl)) (fun _ _ _ h => h) (Or.inl ⟨by rfl, ?_⟩) ?_ ?_
              rotate_left
              ·intro w'
               go_simp
               with_reducible rfl
              rotate_left
              ·simp only [Act.put, List.setIfInBounds_toArray, List.set_cons_zero, List.set_cons_succ, i64_w, i32_w]
               rfl
              refine pure_ (i := 6) (N := some 17) (v := ?_) (a' := ?_) mk7 rfl rfl (any_of HT_.out (by kernel_rfl)) (fun _ _ _ h => h) (Or.inl ⟨by rfl, ?_⟩) ?_ ?_
              rotate_left
              ·intro w'
               go_simp
               with_reducible rfl
              rotate_left
              ·simp only [Act.put, List.setIfInBounds_toArray, List.set_cons_zero, List.set_cons_succ, i64_w, i32_w]
               rfl
              refine pure_ (i := 7) (N := some 18) (v := ?_) (a' := ?_) mk8 rfl rfl (any_of HT_.out (by kernel_rfl)) (fun _ _ _ h => h) (Or.inl ⟨by rfl, ?_⟩) ?_ ?_
              rotate_left
              ·intro w'
               go_simp
               with_reducible rfl
              rotate_left
              ·simp only [Act.put, List.setIfInBounds_toArray, List.set_cons_zero, List.set_cons_succ, i64_w, i32_w]
               rfl
              refine pure_ (i := 8) (N := some 19) (v := ?_) (a' := ?_) mk9 rfl rfl (any_of HT_.out (by kernel_rfl)) (fun _ _ _ h => h) (Or.inl ⟨by rfl, ?_⟩) ?_ ?_
              rotate_left
              ·intro w'
               go_simp
               with_reducible rfl
              rotate_left
              ·simp only [Act.put, List.setIfInBounds_toArray, List.set_cons_zero, List.set_cons_succ, i64_w, i32_w]
               rfl
              refine take_ (i := 9) (N := some 20) (v := ?_) (a' := ?_) mk10 rfl rfl (take_ofW HT_.out HW_.out (by kernel_rfl)) (fun _ _ _ h => h) (Or.inl ⟨by rfl, ?_⟩) hHeld ?_ ?_
              rotate_left
              ·rintro w' ⟨s0, s1, s2, s3, s4, s5⟩
               go_simp
               with_reducible rfl
              rotate_left
              ·simp only [Act.put, List.setIfInBounds_toArray, List.set_cons_zero, List.set_cons_succ, i64_w, i32_w]
               rfl
              refine one_ (i := 10) (N := some 21) mk11 rfl rfl (one_of HT_.out (by kernel_rfl)) (by decide) (fun K hK => ?_)
              refine Kd.R_lit_step Kd.string _ 9 ?hg (N := 21) ?hd (xs := ([rdOf ByteArray.empty l0 x8_1] : List ByteArray)) (inner := [.string (rdOf ByteArray.empty l0 x8_1)]) (ok := fun _ => True) (okp := fun _ => True) ?hr ?hp (fun _ hk => hk) trivial (Below.refl _ _) (Nat.le_refl _) (by simp) ?_; (case hd => rfl); (case hg => rfl); (case hr => first | (go_simp; done) | (go_simp; rfl)); (case hp => exact (Reps.one (show Kd.M Kd.string _ _ _ (rdOf ByteArray.empty l0 x8_1) [.string (rdOf ByteArray.empty l0 x8_1)] from rfl) (Reps.none _ _)))
              intro v197 w26 ho27 hb hg_ hnew_
              clear hg_ hnew_
              (first | rw [← Ny196.out] at ho27 | (simp only [Int.reduceToNat] at ho27; rw [← Ny196.out] at ho27))
              have n0_ := Aside0.mk (Kd.R_lower ho27 (below_size (by repeat (first | (with_reducible first | exact HB.out | apply below_alloc | apply pw_below_drewN | apply below_drew1) | exact HB.out))))
              have n1_ := Aside0.mk (below_step (by repeat (first | (with_reducible first | exact HB.out | apply below_alloc | apply pw_below_drewN | apply below_drew1) | exact HB.out)) hb)
              clear HB
              have HO198 := n0_
              have HB := n1_
              clear n0_ n1_
              clear hb ho27
              obtain ⟨Ao28, co28, eo28⟩ := Kd.R_slice HO198.out
              (first | subst eo28 | (injection eo28 with f1_ f2_ f3_; have f4_ := f1_.symm; have f5_ := f3_.symm; clear f1_ f2_ f3_; subst f4_; subst f5_))
              refine hK.out _ _ ⟨((HB.out.cell (World.block_lt_of_cell? w _ hw194_0)).trans hw194_0), ((HB.out.cell (World.block_lt_of_cell? w _ hw195_0)).trans hw195_0), ((HB.out.cell (World.block_lt_of_cell? w _ hw200_0)).trans hw200_0), ((HB.out.cell (World.block_lt_of_cell? w _ hw201_0)).trans hw201_0), ((HB.out.cell (World.block_lt_of_cell? w _ hw202_0)).trans hw202_0), ((HB.out.cell (World.block_lt_of_cell? w _ hw203_0)).trans hw203_0)⟩ (fun hHeld => ?_)
              clear hK K
              refine norm_ (a' := ?_) ?_ ?_
              rotate_left
              ·show Act.put _ (some 21) _ = _
               simp only [Act.put, List.setIfInBounds_toArray, List.set_cons_zero, List.set_cons_succ, i64_w, i32_w]
               rfl
              refine one_ (i := 11) (N := some 22) mk12 rfl rfl (one_of HT_.out (by kernel_rfl)) (by decide) (fun K hK => ?_)
              refine goes_ Try.func13 (by kernel_rfl) rfl #[.slice Ao28 y196.length co28] (by rfl) rfl rfl (by (try simp only [List.map_toArray, List.map_cons, List.map_nil]); first | done | rfl | (simp only [List.length_drop, List.length_take]; rfl)) ?_
              with_reducible refine (laws_clean.calls k1 _ _ y196 true _ ?side1 ?side2 A8.out).mono ?_
              (case side1 => repeat (first | exact (Kd.R_reads' HO198.out).2.2 | (with_reducible refine Kd.C_alloc ?_ _) | (with_reducible refine Kd.C_drewN ?_ _) | (with_reducible refine Kd.C_drew ?_)))
              (case side2 => exact (Kd.R_reads' HO198.out).2.1)
              rintro e w' ⟨rfl, ⟨nd, rfl⟩⟩
              refine ⟨_, rfl, ?_⟩
              refine hK.out _ _ ⟨((HB.out.cell (World.block_lt_of_cell? w _ hw194_0)).trans hw194_0), ((HB.out.cell (World.block_lt_of_cell? w _ hw195_0)).trans hw195_0), ((HB.out.cell (World.block_lt_of_cell? w _ hw200_0)).trans hw200_0), ((HB.out.cell (World.block_lt_of_cell? w _ hw201_0)).trans hw201_0), ((HB.out.cell (World.block_lt_of_cell? w _ hw202_0)).trans hw202_0), ((HB.out.cell (World.block_lt_of_cell? w _ hw203_0)).trans hw203_0)⟩ (fun hHeld => ?_)
              clear hK K
              refine norm_ (a' := ?_) ?_ ?_
              rotate_left
              ·show Act.put _ (some 22) _ = _
               simp only [Act.put, List.setIfInBounds_toArray, List.set_cons_zero, List.set_cons_succ, i64_w, i32_w]
               rfl
              refine pure_ (i := 12) (N := some 23) (v := ?_) (a' := ?_) mk13 rfl rfl (any_of HT_.out (by kernel_rfl)) (fun _ _ _ h => h) (Or.inl ⟨by rfl, ?_⟩) ?_ ?_
              rotate_left
              ·intro w'
               go_simp
               with_reducible rfl
              rotate_left
              ·simp only [Act.put, List.setIfInBounds_toArray, List.set_cons_zero, List.set_cons_succ, i64_w, i32_w]
               rfl
              refine pure_ (i := 13) (N := some 24) (v := ?_) (a' := ?_) mk14 rfl rfl (any_of HT_.out (by kernel_rfl)) (fun _ _ _ h => h) (Or.inl ⟨by rfl, ?_⟩) ?_ ?_
              rotate_left
              ·intro w'
               go_simp
               with_reducible rfl
              rotate_left
              ·simp only [Act.put, List.setIfInBounds_toArray, List.set_cons_zero, List.set_cons_succ, i64_w, i32_w]
               rfl
              refine pure_ (i := 14) (N := some 25) (v := ?_) (a' := ?_) mk15 rfl rfl (any_of HT_.out (by kernel_rfl)) (fun _ _ _ h => h) (Or.inl ⟨by rfl, ?_⟩) ?_ ?_
              rotate_left
              ·intro w'
               go_simp
               with_reducible rfl
              rotate_left
              ·simp only [Act.put, List.setIfInBounds_toArray, List.set_cons_zero, List.set_cons_succ, i64_w, i32_w]
               rfl
              refine pure_ (i := 15) (N := some 26) (v := ?_) (a' := ?_) mk16 rfl rfl (any_of HT_.out (by kernel_rfl)) (fun _ _ _ h => h) (Or.inl ⟨by rfl, ?_⟩) ?_ ?_
              rotate_left
              ·intro w'
               go_simp
               with_reducible rfl
              rotate_left
              ·simp only [Act.put, List.setIfInBounds_toArray, List.set_cons_zero, List.set_cons_succ, i64_w, i32_w]
               rfl
              refine pure_ (i := 16) (N := some 27) (v := ?_) (a' := ?_) mk17 rfl rfl (any_of HT_.out (by kernel_rfl)) (fun _ _ _ h => h) (Or.inl ⟨by rfl, ?_⟩) ?_ ?_
              rotate_left
              ·intro w'
               go_simp
               with_reducible rfl
              rotate_left
              ·simp only [Act.put, List.setIfInBounds_toArray, List.set_cons_zero, List.set_cons_succ, i64_w, i32_w]
               rfl
              refine pure_ (i := 17) (N := some 28) (v := ?_) (a' := ?_) mk18 rfl rfl (any_of HT_.out (by kernel_rfl)) (fun _ _ _ h => h) (Or.inl ⟨by rfl, ?_⟩) ?_ ?_
              rotate_left
              ·intro w'
               go_simp
               with_reducible rfl
              rotate_left
              ·simp only [Act.put, List.setIfInBounds_toArray, List.set_cons_zero, List.set_cons_succ, i64_w, i32_w]
               rfl
              refine pure_ (i := 18) (N := some 29) (v := ?_) (a' := ?_) mk19 rfl rfl (any_of HT_.out (by kernel_rfl)) (fun _ _ _ h => h) (Or.inl ⟨by rfl, ?_⟩) ?_ ?_
              rotate_left
              ·intro w'
               go_simp
               with_reducible rfl
              rotate_left
              ·simp only [Act.put, List.setIfInBounds_toArray, List.set_cons_zero, List.set_cons_succ, i64_w, i32_w]
               rfl
              refine pure_ (i := 19) (N := some 30) (v := ?_) (a' := ?_) mk20 rfl rfl (any_of HT_.out (by kernel_rfl)) (fun _ _ _ h => h) (Or.inl ⟨by rfl, ?_⟩) ?_ ?_
              rotate_left
              ·intro w'
               go_simp
               with_reducible rfl
              rotate_left
              ·simp only [Act.put, List.setIfInBounds_toArray, List.set_cons_zero, List.set_cons_succ, i64_w, i32_w]
               rfl
              refine pure_ (i := 20) (N := some 31) (v := ?_) (a' := ?_) mk21 rfl rfl (any_of HT_.out (by kernel_rfl)) (fun _ _ _ h => h) (Or.inl ⟨by rfl, ?_⟩) ?_ ?_
              rotate_left
              ·intro w'
               go_simp
               with_reducible rfl
              rotate_left
              ·simp only [Act.put, List.setIfInBounds_toArray, List.set_cons_zero, List.set_cons_succ, i64_w, i32_w]
               rfl
              refine pure_ (i := 22) (N := some 33) (v := ?_) (a' := ?_) mk46 rfl rfl (any_of HT_.out (by kernel_rfl)) (fun _ _ _ h => h) (Or.inl ⟨by rfl, ?_⟩) ?_ ?_
              rotate_left
              ·intro w'
               go_simp
               with_reducible rfl
              rotate_left
              ·simp only [Act.put, List.setIfInBounds_toArray, List.set_cons_zero, List.set_cons_succ, i64_w, i32_w]
               rfl
              refine pure_ (i := 23) (N := some 34) (v := ?_) (a' := ?_) mk47 rfl rfl (any_of HT_.out (by kernel_rfl)) (fun _ _ _ h => h) (Or.inl ⟨by rfl, ?_⟩) ?_ ?_
              rotate_left
              ·intro w'
               go_simp
               with_reducible rfl
              rotate_left
              ·simp only [Act.put, List.setIfInBounds_toArray, List.set_cons_zero, List.set_cons_succ, i64_w, i32_w]
               rfl
              refine pure_ (i := 24) (N := some 35) (v := ?_) (a' := ?_) mk48 rfl rfl (any_of HT_.out (by kernel_rfl)) (fun _ _ _ h => h) (Or.inl ⟨by rfl, ?_⟩) ?_ ?_
              rotate_left
              ·intro w'
               go_simp
               with_reducible rfl
              rotate_left
              ·simp only [Act.put, List.setIfInBounds_toArray, List.set_cons_zero, List.set_cons_succ, i64_w, i32_w]
               rfl
              refine pure_ (i := 25) (N := some 36) (v := ?_) (a' := ?_) mk49 rfl rfl (any_of HT_.out (by kernel_rfl)) (fun _ _ _ h => h) (Or.inl ⟨by rfl, ?_⟩) ?_ ?_
              rotate_left
              ·intro w'
               go_simp
               with_reducible rfl
              rotate_left
              ·simp only [Act.put, List.setIfInBounds_toArray, List.set_cons_zero, List.set_cons_succ, i64_w, i32_w]
               rfl
              refine take_ (i := 21) (N := some 32) (v := ?_) (a' := ?_) mk26 rfl rfl (take_ofW HT_.out HW_.out (by kernel_rfl)) (fun _ _ _ h => h) (Or.inl ⟨by rfl, ?_⟩) hHeld ?_ ?_
              rotate_left
              ·rintro w' ⟨s0, s1, s2, s3, s4, s5⟩
               go_simp
               with_reducible rfl
              rotate_left
              ·simp only [Act.put, List.setIfInBounds_toArray, List.set_cons_zero, List.set_cons_succ, i64_w, i32_w]
               rfl
              refine take_ (i := 26) (N := some 37) (v := ?_) (a' := ?_) mk27 rfl rfl (take_ofW HT_.out HW_.out (by kernel_rfl)) (fun _ _ _ h => h) (Or.inl ⟨by rfl, ?_⟩) hHeld ?_ ?_
              rotate_left
              ·rintro w' ⟨s0, s1, s2, s3, s4, s5⟩
               go_simp
               with_reducible rfl
              rotate_left
              ·simp only [Act.put, List.setIfInBounds_toArray, List.set_cons_zero, List.set_cons_succ, i64_w, i32_w]
               rfl
              refine pure_ (i := 27) (N := some 38) (v := ?_) (a' := ?_) mk28 rfl rfl (any_of HT_.out (by kernel_rfl)) (fun _ _ _ h => h) (Or.inl ⟨by rfl, ?_⟩) ?_ ?_
              rotate_left
              ·intro w'
               go_simp
               with_reducible rfl
              rotate_left
              ·simp only [Act.put, List.setIfInBounds_toArray, List.set_cons_zero, List.set_cons_succ, i64_w, i32_w]
               rfl
              refine pure_ (i := 28) (N := some 39) (v := ?_) (a' := ?_) mk29 rfl rfl (any_of HT_.out (by kernel_rfl)) (fun _ _ _ h => h) (Or.inl ⟨by rfl, ?_⟩) ?_ ?_
              rotate_left
              ·intro w'
               go_simp
               with_reducible rfl
              rotate_left
              ·simp only [Act.put, List.setIfInBounds_toArray, List.set_cons_zero, List.set_cons_succ, i64_w, i32_w]
               rfl
              refine pure_ (i := 29) (N := some 40) (v := ?_) (a' := ?_) mk30 rfl rfl (any_of HT_.out (by kernel_rfl)) (fun _ _ _ h => h) (Or.inl ⟨by rfl, ?_⟩) ?_ ?_
              rotate_left
              ·intro w'
               go_simp
               with_reducible rfl
              rotate_left
              ·simp only [Act.put, List.setIfInBounds_toArray, List.set_cons_zero, List.set_cons_succ, i64_w, i32_w]
               rfl
              refine pure_ (i := 30) (N := some 41) (v := ?_) (a' := ?_) mk31 rfl rfl (any_of HT_.out (by kernel_rfl)) (fun _ _ _ h => h) (Or.inl ⟨by rfl, ?_⟩) ?_ ?_
              rotate_left
              ·intro w'
               go_simp
               with_reducible rfl
              rotate_left
              ·simp only [Act.put, List.setIfInBounds_toArray, List.set_cons_zero, List.set_cons_succ, i64_w, i32_w]
               rfl
              refine pure_ (i := 31) (N := some 42) (v := ?_) (a' := ?_) mk32 rfl rfl (any_of HT_.out (by kernel_rfl)) (fun _ _ _ h => h) (Or.inl ⟨by rfl, ?_⟩) ?_ ?_
              rotate_left
              ·intro w'
               go_simp
               with_reducible rfl
              rotate_left
              ·simp only [Act.put, List.setIfInBounds_toArray, List.set_cons_zero, List.set_cons_succ, i64_w, i32_w]
               rfl
              refine pure_ (i := 32) (N := some 43) (v := ?_) (a' := ?_) mk33 rfl rfl (any_of HT_.out (by kernel_rfl)) (fun _ _ _ h => h) (Or.inl ⟨by rfl, ?_⟩) ?_ ?_
              rotate_left
              ·intro w'
               go_simp
               with_reducible rfl
              rotate_left
              ·simp only [Act.put, List.setIfInBounds_toArray, List.set_cons_zero, List.set_cons_succ, i64_w, i32_w]
               rfl
              refine pure_ (i := 33) (N := some 44) (v := ?_) (a' := ?_) mk34 rfl rfl (any_of HT_.out (by kernel_rfl)) (fun _ _ _ h => h) (Or.inl ⟨by rfl, ?_⟩) ?_ ?_
              rotate_left
              ·intro w'
               go_simp
               with_reducible rfl
              rotate_left
              ·simp only [Act.put, List.setIfInBounds_toArray, List.set_cons_zero, List.set_cons_succ, i64_w, i32_w]
               rfl
              refine pure_ (i := 35) (N := some 46) (v := ?_) (a' := ?_) mk50 rfl rfl (any_of HT_.out (by kernel_rfl)) (fun _ _ _ h => h) (Or.inl ⟨by rfl, ?_⟩) ?_ ?_
              rotate_left
              ·intro w'
               go_simp
               with_reducible rfl
              rotate_left
              ·simp only [Act.put, List.setIfInBounds_toArray, List.set_cons_zero, List.set_cons_succ, i64_w, i32_w]
               rfl
              refine pure_ (i := 36) (N := some 47) (v := ?_) (a' := ?_) mk51 rfl rfl (any_of HT_.out (by kernel_rfl)) (fun _ _ _ h => h) (Or.inl ⟨by rfl, ?_⟩) ?_ ?_
              rotate_left
              ·intro w'
               go_simp
               with_reducible rfl
              rotate_left
              ·simp only [Act.put, List.setIfInBounds_toArray, List.set_cons_zero, List.set_cons_succ, i64_w, i32_w]
               rfl
              refine pure_ (i := 37) (N := some 48) (v := ?_) (a' := ?_) mk52 rfl rfl (any_of HT_.out (by kernel_rfl)) (fun _ _ _ h => h) (Or.inl ⟨by rfl, ?_⟩) ?_ ?_
              rotate_left
              ·intro w'
               go_simp
               with_reducible rfl
              rotate_left
              ·simp only [Act.put, List.setIfInBounds_toArray, List.set_cons_zero, List.set_cons_succ, i64_w, i32_w]
               rfl
              refine pure_ (i := 38) (N := some 49) (v := ?_) (a' := ?_) mk53 rfl rfl (any_of HT_.out (by kernel_rfl)) (fun _ _ _ h => h) (Or.inl ⟨by rfl, ?_⟩) ?_ ?_
              rotate_left
              ·intro w'
               go_simp
               with_reducible rfl
              rotate_left
              ·simp only [Act.put, List.setIfInBounds_toArray, List.set_cons_zero, List.set_cons_succ, i64_w, i32_w]
               rfl
              refine take_ (i := 34) (N := some 45) (v := ?_) (a' := ?_) mk39 rfl rfl (take_ofW HT_.out HW_.out (by kernel_rfl)) (fun _ _ _ h => h) (Or.inl ⟨by rfl, ?_⟩) hHeld ?_ ?_
              rotate_left
              ·rintro w' ⟨s0, s1, s2, s3, s4, s5⟩
               go_simp
               with_reducible rfl
              rotate_left
              ·simp only [Act.put, List.setIfInBounds_toArray, List.set_cons_zero, List.set_cons_succ, i64_w, i32_w]
               rfl
              refine take_ (i := 39) (N := some 50) (v := ?_) (a' := ?_) mk40 rfl rfl (take_ofW HT_.out HW_.out (by kernel_rfl)) (fun _ _ _ h => h) (Or.inl ⟨by rfl, ?_⟩) hHeld ?_ ?_
              rotate_left
              ·rintro w' ⟨s0, s1, s2, s3, s4, s5⟩
               go_simp
               with_reducible rfl
              rotate_left
              ·simp only [Act.put, List.setIfInBounds_toArray, List.set_cons_zero, List.set_cons_succ, i64_w, i32_w]
               rfl
              refine pure_ (i := 40) (N := some 51) (v := ?_) (a' := ?_) mk41 rfl rfl (any_of HT_.out (by kernel_rfl)) (fun _ _ _ h => h) (Or.inl ⟨by rfl, ?_⟩) ?_ ?_
              rotate_left
              ·intro w'
               go_simp
               with_reducible rfl
              rotate_left
              ·simp only [Act.put, List.setIfInBounds_toArray, List.set_cons_zero, List.set_cons_succ, i64_w, i32_w]
               rfl
              refine pure_ (i := 41) (N := some 52) (v := ?_) (a' := ?_) mk42 rfl rfl (any_of HT_.out (by kernel_rfl)) (fun _ _ _ h => h) (Or.inl ⟨by rfl, ?_⟩) ?_ ?_
              rotate_left
              ·intro w'
               go_simp
               with_reducible rfl
              rotate_left
              ·simp only [Act.put, List.setIfInBounds_toArray, List.set_cons_zero, List.set_cons_succ, i64_w, i32_w]
               rfl
              refine pure_ (i := 42) (N := some 53) (v := ?_) (a' := ?_) mk43 rfl rfl (any_of HT_.out (by kernel_rfl)) (fun _ _ _ h => h) (Or.inl ⟨by rfl, ?_⟩) ?_ ?_
              rotate_left
              ·intro w'
               go_simp
               with_reducible rfl
              rotate_left
              ·simp only [Act.put, List.setIfInBounds_toArray, List.set_cons_zero, List.set_cons_succ, i64_w, i32_w]
               rfl
              refine pure_ (i := 43) (N := some 54) (v := ?_) (a' := ?_) mk44 rfl rfl (any_of HT_.out (by kernel_rfl)) (fun _ _ _ h => h) (Or.inl ⟨by rfl, ?_⟩) ?_ ?_
              rotate_left
              ·intro w'
               go_simp
               with_reducible rfl
              rotate_left
              ·simp only [Act.put, List.setIfInBounds_toArray, List.set_cons_zero, List.set_cons_succ, i64_w, i32_w]
               rfl
              refine pure_ (i := 44) (N := some 55) (v := ?_) (a' := ?_) mk45 rfl rfl (any_of HT_.out (by kernel_rfl)) (fun _ _ _ h => h) (Or.inl ⟨by rfl, ?_⟩) ?_ ?_
              rotate_left
              ·intro w'
               go_simp
               with_reducible rfl
              rotate_left
              ·simp only [Act.put, List.setIfInBounds_toArray, List.set_cons_zero, List.set_cons_succ, i64_w, i32_w]
               rfl
              refine done_ (done_of HT_.out (by kernel_rfl)) ?_
              try go_wp2
              go_roundg k1
              case measure => have := HK1.out; omega
              case rel => exact ⟨(wrap64 (x8_1 + 1)), (by first | rfl | (simp; done) | (simp [*]; done)), H', ⟨by have := HK1.out; omega⟩, ⟨by repeat (first | (with_reducible first | exact HB.out | apply below_alloc | apply pw_below_drewN | apply below_drew1) | exact HB.out)⟩⟩
            ·replace c19 := Bool.eq_false_iff.mpr c19
             subst c19
             have H1 : (laws_ordered.l0 k1 l0 false (l0.length : Int) (wrap64 (x8_1 + 1))) = some r := by rw [if_neg (show ¬ (false = true) by decide)] at H; exact H
             clear H
             have H := H1
             clear H1
             have H' := Aside0.mk H
             clear H
             try go_wp2
             have n0_ := Aside0.mk (below_drew1 HB.out)
             clear HB
             have HB := n0_
             clear n0_
             have p194 : 0 ≤ (x8_1 : Int) := of_decide_eq_true (by first | (with_reducible assumption) | assumption)
             have q194 : x8_1 < (l0.length : Int) := of_decide_eq_true (by first | (with_reducible assumption) | assumption)
             obtain ⟨ad194, e194, hx194_0⟩ := Kd.at_string HR0.out x8_1 p194 q194
             have hw194_0 := hx194_0
             cases e194
             replace hx194_0 := (HB.out.cell (World.block_lt_of_cell? w _ hx194_0)).trans hx194_0
             replace p194 := eq_true p194
             replace q194 := eq_true q194
             have p195 : 0 ≤ (x8_1 : Int) := of_decide_eq_true (by first | (with_reducible assumption) | assumption)
             have q195 : x8_1 < (l0.length : Int) := of_decide_eq_true (by first | (with_reducible assumption) | assumption)
             obtain ⟨ad195, e195, hx195_0⟩ := Kd.at_string HR0.out x8_1 p195 q195
             have hw195_0 := hx195_0
             obtain rfl : ad194 = ad195 := (by injection e195)
             replace hx195_0 := (HB.out.cell (World.block_lt_of_cell? w _ hx195_0)).trans hx195_0
             replace p195 := eq_true p195
             replace q195 := eq_true q195
             have p200 : 0 ≤ (x8_1 : Int) := of_decide_eq_true (by first | (with_reducible assumption) | assumption)
             have q200 : x8_1 < (l0.length : Int) := of_decide_eq_true (by first | (with_reducible assumption) | assumption)
             obtain ⟨ad200, e200, hx200_0⟩ := Kd.at_string HR0.out x8_1 p200 q200
             have hw200_0 := hx200_0
             obtain rfl : ad194 = ad200 := (by injection e200)
             replace hx200_0 := (HB.out.cell (World.block_lt_of_cell? w _ hx200_0)).trans hx200_0
             replace p200 := eq_true p200
             replace q200 := eq_true q200
             have p201 : 0 ≤ ((ji11) : Int) := of_decide_eq_true (by first | (with_reducible assumption) | assumption)
             have q201 : (ji11) < (l0.length : Int) := of_decide_eq_true (by first | (with_reducible assumption) | assumption)
             obtain ⟨ad201, e201, hx201_0⟩ := Kd.at_string HR0.out (ji11) p201 q201
             have hw201_0 := hx201_0
             obtain rfl : ad194 = ad201 := (by injection e201)
             replace hx201_0 := (HB.out.cell (World.block_lt_of_cell? w _ hx201_0)).trans hx201_0
             replace p201 := eq_true p201
             replace q201 := eq_true q201
             refine start_ (n := 45) (S := fun w' => w'.cell? (ad194.add (x8_1).toNat) = some (.string (rdOf ByteArray.empty l0 x8_1)) ∧ w'.cell? (ad194.add (x8_1).toNat) = some (.string (rdOf ByteArray.empty l0 x8_1)) ∧ w'.cell? (ad194.add (x8_1).toNat) = some (.string (rdOf ByteArray.empty l0 x8_1)) ∧ w'.cell? (ad194.add ((ji11)).toNat) = some (.string (rdOf ByteArray.empty l0 (ji11)))) (ds := []) mk0 (by kernel_rfl) rfl rfl ⟨((HB.out.cell (World.block_lt_of_cell? w _ hw194_0)).trans hw194_0), ((HB.out.cell (World.block_lt_of_cell? w _ hw195_0)).trans hw195_0), ((HB.out.cell (World.block_lt_of_cell? w _ hw200_0)).trans hw200_0), ((HB.out.cell (World.block_lt_of_cell? w _ hw201_0)).trans hw201_0)⟩ (fun hHeld => ?_); refine with_tabW laws_ordered.tab4 laws_ordered.bits4 (fun HT_ HW_ => ?_)
             generalize wr.drew = w29 at HB hx194_0 hx195_0 hx200_0 hx201_0 hHeld ⊢
             refine pure_ (i := 0) (N := some 11) (v := ?_) (a' := ?_) mk1 rfl rfl (any_of HT_.out (by kernel_rfl)) (fun _ _ _ h => h) (Or.inl ⟨by rfl, ?_⟩) ?_ ?_
             rotate_left
             ·intro w'
              go_simp
              with_reducible rfl
             rotate_left
             ·simp only [Act.put, List.setIfInBounds_toArray, List.set_cons_zero, List.set_cons_succ, i64_w, i32_w]
              rfl
             refine pure_ (i := 1) (N := some 12) (v := ?_) (a' := ?_) mk2 rfl rfl (any_of HT_.out (by kernel_rfl)) (fun _ _ _ h => h) (Or.inl ⟨by rfl, ?_⟩) ?_ ?_
             rotate_left
             ·intro w'
              go_simp
              with_reducible rfl
             rotate_left
             ·simp only [Act.put, List.setIfInBounds_toArray, List.set_cons_zero, List.set_cons_succ, i64_w, i32_w]
              rfl
             refine pure_ (i := 2) (N := some 13) (v := ?_) (a' := ?_) mk3 rfl rfl (any_of HT_.out (by kernel_rfl)) (fun _ _ _ h => h) (Or.inl ⟨by rfl, ?_⟩) ?_ ?_
             rotate_left
             ·intro w'
              go_simp
              with_reducible rfl
             rotate_left
             ·simp only [Act.put, List.setIfInBounds_toArray, List.set_cons_zero, List.set_cons_succ, i64_w, i32_w]
              rfl
             refine take_ (i := 3) (N := some 14) (v := ?_) (a' := ?_) mk4 rfl rfl (take_ofW HT_.out HW_.out (by kernel_rfl)) (fun _ _ _ h => h) (Or.inl ⟨by rfl, ?_⟩) hHeld ?_ ?_
             rotate_left
             ·rintro w' ⟨s0, s1, s2, s3⟩
              go_simp
              with_reducible rfl
             rotate_left
             ·simp only [Act.put, List.setIfInBounds_toArray, List.set_cons_zero, List.set_cons_succ, i64_w, i32_w]
              rfl
             refine pure_ (i := 4) (N := some 15) (v := ?_) (a' := ?_) mk5 rfl rfl (any_of HT_.out (by kernel_rfl)) (fun _ _ _ h => h) (Or.inl ⟨by rfl, ?_⟩) ?_ ?_
             rotate_left
             ·intro w'
              go_simp
              with_reducible rfl
             rotate_left
             ·simp only [Act.put, List.setIfInBounds_toArray, List.set_cons_zero, List.set_cons_succ, i64_w, i32_w]
              rfl
             refine pure_ (i := 5) (N := some 16) (v := ?_) (a' := ?_) mk6 rfl rfl (any_of HT_.out (by kernel_rfl)) (fun _ _ _ h => h) (Or.inl ⟨by rfl, ?_⟩) ?_ ?_
             rotate_left
             ·intro w'
              go_simp
              with_reducible rfl
             rotate_left
             ·simp only [Act.put, List.setIfInBounds_toArray, List.set_cons_zero, List.set_cons_succ, i64_w, i32_w]
              rfl
             refine pure_ (i := 6) (N := some 17) (v := ?_) (a' := ?_) mk7 rfl rfl (any_of HT_.out (by kernel_rfl)) (fun _ _ _ h => h) (Or.inl ⟨by rfl, ?_⟩) ?_ ?_
             rotate_left
             ·intro w'
              go_simp
              with_reducible rfl
             rotate_left
             ·simp only [Act.put, List.setIfInBounds_toArray, List.set_cons_zero, List.set_cons_succ, i64_w, i32_w]
              rfl
             refine pure_ (i := 7) (N := some 18) (v := ?_) (a' := ?_) mk8 rfl rfl (any_of HT_.out (by kernel_rfl)) (fun _ _ _ h => h) (Or.inl ⟨by rfl, ?_⟩) ?_ ?_
             rotate_left
             ·intro w'
              go_simp
              with_reducible rfl
             rotate_left
             ·simp only [Act.put, List.setIfInBounds_toArray, List.set_cons_zero, List.set_cons_succ, i64_w, i32_w]
              rfl
             refine pure_ (i := 8) (N := some 19) (v := ?_) (a' := ?_) mk9 rfl rfl (any_of HT_.out (by kernel_rfl)) (fun _ _ _ h => h) (Or.inl ⟨by rfl, ?_⟩) ?_ ?_
             rotate_left
             ·intro w'
              go_simp
              with_reducible rfl
             rotate_left
             ·simp only [Act.put, List.setIfInBounds_toArray, List.set_cons_zero, List.set_cons_succ, i64_w, i32_w]
              rfl
             refine take_ (i := 9) (N := some 20) (v := ?_) (a' := ?_) mk10 rfl rfl (take_ofW HT_.out HW_.out (by kernel_rfl)) (fun _ _ _ h => h) (Or.inl ⟨by rfl, ?_⟩) hHeld ?_ ?_
             rotate_left
             ·rintro w' ⟨s0, s1, s2, s3⟩
              go_simp
              with_reducible rfl
             rotate_left
             ·simp only [Act.put, List.setIfInBounds_toArray, List.set_cons_zero, List.set_cons_succ, i64_w, i32_w]
              rfl
             refine one_ (i := 10) (N := some 21) mk11 rfl rfl (one_of HT_.out (by kernel_rfl)) (by decide) (fun K hK => ?_)
             refine Kd.R_lit_step Kd.string _ 9 ?hg (N := 21) ?hd (xs := ([rdOf ByteArray.empty l0 x8_1] : List ByteArray)) (inner := [.string (rdOf ByteArray.empty l0 x8_1)]) (ok := fun _ => True) (okp := fun _ => True) ?hr ?hp (fun _ hk => hk) trivial (Below.refl _ _) (Nat.le_refl _) (by simp) ?_; (case hd => rfl); (case hg => rfl); (case hr => first | (go_simp; done) | (go_simp; rfl)); (case hp => exact (Reps.one (show Kd.M Kd.string _ _ _ (rdOf ByteArray.empty l0 x8_1) [.string (rdOf ByteArray.empty l0 x8_1)] from rfl) (Reps.none _ _)))
             intro v197 w30 ho31 hb hg_ hnew_
             clear hg_ hnew_
             (first | rw [← Ny196.out] at ho31 | (simp only [Int.reduceToNat] at ho31; rw [← Ny196.out] at ho31))
             have n0_ := Aside0.mk (Kd.R_lower ho31 (below_size (by repeat (first | (with_reducible first | exact HB.out | apply below_alloc | apply pw_below_drewN | apply below_drew1) | exact HB.out))))
             have n1_ := Aside0.mk (below_step (by repeat (first | (with_reducible first | exact HB.out | apply below_alloc | apply pw_below_drewN | apply below_drew1) | exact HB.out)) hb)
             clear HB
             have HO198 := n0_
             have HB := n1_
             clear n0_ n1_
             clear hb ho31
             obtain ⟨Ao32, co32, eo32⟩ := Kd.R_slice HO198.out
             (first | subst eo32 | (injection eo32 with f1_ f2_ f3_; have f4_ := f1_.symm; have f5_ := f3_.symm; clear f1_ f2_ f3_; subst f4_; subst f5_))
             refine hK.out _ _ ⟨((HB.out.cell (World.block_lt_of_cell? w _ hw194_0)).trans hw194_0), ((HB.out.cell (World.block_lt_of_cell? w _ hw195_0)).trans hw195_0), ((HB.out.cell (World.block_lt_of_cell? w _ hw200_0)).trans hw200_0), ((HB.out.cell (World.block_lt_of_cell? w _ hw201_0)).trans hw201_0)⟩ (fun hHeld => ?_)
             clear hK K
             refine norm_ (a' := ?_) ?_ ?_
             rotate_left
             ·show Act.put _ (some 21) _ = _
              simp only [Act.put, List.setIfInBounds_toArray, List.set_cons_zero, List.set_cons_succ, i64_w, i32_w]
              rfl
             refine one_ (i := 11) (N := some 22) mk12 rfl rfl (one_of HT_.out (by kernel_rfl)) (by decide) (fun K hK => ?_)
             refine goes_ Try.func13 (by kernel_rfl) rfl #[.slice Ao32 y196.length co32] (by rfl) rfl rfl (by (try simp only [List.map_toArray, List.map_cons, List.map_nil]); first | done | rfl | (simp only [List.length_drop, List.length_take]; rfl)) ?_
             with_reducible refine (laws_clean.calls k1 _ _ y196 true _ ?side1 ?side2 A8.out).mono ?_
             (case side1 => repeat (first | exact (Kd.R_reads' HO198.out).2.2 | (with_reducible refine Kd.C_alloc ?_ _) | (with_reducible refine Kd.C_drewN ?_ _) | (with_reducible refine Kd.C_drew ?_)))
             (case side2 => exact (Kd.R_reads' HO198.out).2.1)
             rintro e w' ⟨rfl, ⟨nd, rfl⟩⟩
             refine ⟨_, rfl, ?_⟩
             refine hK.out _ _ ⟨((HB.out.cell (World.block_lt_of_cell? w _ hw194_0)).trans hw194_0), ((HB.out.cell (World.block_lt_of_cell? w _ hw195_0)).trans hw195_0), ((HB.out.cell (World.block_lt_of_cell? w _ hw200_0)).trans hw200_0), ((HB.out.cell (World.block_lt_of_cell? w _ hw201_0)).trans hw201_0)⟩ (fun hHeld => ?_)
             clear hK K
             refine norm_ (a' := ?_) ?_ ?_
             rotate_left
             ·show Act.put _ (some 22) _ = _
              simp only [Act.put, List.setIfInBounds_toArray, List.set_cons_zero, List.set_cons_succ, i64_w, i32_w]
              rfl
             refine pure_ (i := 12) (N := some 23) (v := ?_) (a' := ?_) mk13 rfl rfl (any_of HT_.out (by kernel_rfl)) (fun _ _ _ h => h) (Or.inl ⟨by rfl, ?_⟩) ?_ ?_
             rotate_left
             ·intro w'
              go_simp
              with_reducible rfl
             rotate_left
             ·simp only [Act.put, List.setIfInBounds_toArray, List.set_cons_zero, List.set_cons_succ, i64_w, i32_w]
              rfl
             refine pure_ (i := 13) (N := some 24) (v := ?_) (a' := ?_) mk14 rfl rfl (any_of HT_.out (by kernel_rfl)) (fun _ _ _ h => h) (Or.inl ⟨by rfl, ?_⟩) ?_ ?_
             rotate_left
             ·intro w'
              go_simp
              with_reducible rfl
             rotate_left
             ·simp only [Act.put, List.setIfInBounds_toArray, List.set_cons_zero, List.set_cons_succ, i64_w, i32_w]
              rfl
             refine pure_ (i := 14) (N := some 25) (v := ?_) (a' := ?_) mk15 rfl rfl (any_of HT_.out (by kernel_rfl)) (fun _ _ _ h => h) (Or.inl ⟨by rfl, ?_⟩) ?_ ?_
             rotate_left
             ·intro w'
              go_simp
              with_reducible rfl
             rotate_left
             ·simp only [Act.put, List.setIfInBounds_toArray, List.set_cons_zero, List.set_cons_succ, i64_w, i32_w]
              rfl
             refine pure_ (i := 15) (N := some 26) (v := ?_) (a' := ?_) mk16 rfl rfl (any_of HT_.out (by kernel_rfl)) (fun _ _ _ h => h) (Or.inl ⟨by rfl, ?_⟩) ?_ ?_
             rotate_left
             ·intro w'
              go_simp
              with_reducible rfl
             rotate_left
             ·simp only [Act.put, List.setIfInBounds_toArray, List.set_cons_zero, List.set_cons_succ, i64_w, i32_w]
              rfl
             refine pure_ (i := 16) (N := some 27) (v := ?_) (a' := ?_) mk17 rfl rfl (any_of HT_.out (by kernel_rfl)) (fun _ _ _ h => h) (Or.inl ⟨by rfl, ?_⟩) ?_ ?_
             rotate_left
             ·intro w'
              go_simp
              with_reducible rfl
             rotate_left
             ·simp only [Act.put, List.setIfInBounds_toArray, List.set_cons_zero, List.set_cons_succ, i64_w, i32_w]
              rfl
             refine pure_ (i := 17) (N := some 28) (v := ?_) (a' := ?_) mk18 rfl rfl (any_of HT_.out (by kernel_rfl)) (fun _ _ _ h => h) (Or.inl ⟨by rfl, ?_⟩) ?_ ?_
             rotate_left
             ·intro w'
              go_simp
              with_reducible rfl
             rotate_left
             ·simp only [Act.put, List.setIfInBounds_toArray, List.set_cons_zero, List.set_cons_succ, i64_w, i32_w]
              rfl
             refine pure_ (i := 18) (N := some 29) (v := ?_) (a' := ?_) mk19 rfl rfl (any_of HT_.out (by kernel_rfl)) (fun _ _ _ h => h) (Or.inl ⟨by rfl, ?_⟩) ?_ ?_
             rotate_left
             ·intro w'
              go_simp
              with_reducible rfl
             rotate_left
             ·simp only [Act.put, List.setIfInBounds_toArray, List.set_cons_zero, List.set_cons_succ, i64_w, i32_w]
              rfl
             refine pure_ (i := 19) (N := some 30) (v := ?_) (a' := ?_) mk20 rfl rfl (any_of HT_.out (by kernel_rfl)) (fun _ _ _ h => h) (Or.inl ⟨by rfl, ?_⟩) ?_ ?_
             rotate_left
             ·intro w'
              go_simp
              with_reducible rfl
             rotate_left
             ·simp only [Act.put, List.setIfInBounds_toArray, List.set_cons_zero, List.set_cons_succ, i64_w, i32_w]
              rfl
             refine pure_ (i := 20) (N := some 31) (v := ?_) (a' := ?_) mk21 rfl rfl (any_of HT_.out (by kernel_rfl)) (fun _ _ _ h => h) (Or.inl ⟨by rfl, ?_⟩) ?_ ?_
             rotate_left
             ·intro w'
              go_simp
              with_reducible rfl
             rotate_left
             ·simp only [Act.put, List.setIfInBounds_toArray, List.set_cons_zero, List.set_cons_succ, i64_w, i32_w]
              rfl
             refine pure_ (i := 22) (N := some 33) (v := ?_) (a' := ?_) mk46 rfl rfl (any_of HT_.out (by kernel_rfl)) (fun _ _ _ h => h) (Or.inl ⟨by rfl, ?_⟩) ?_ ?_
             rotate_left
             ·intro w'
              go_simp
              with_reducible rfl
             rotate_left
             ·simp only [Act.put, List.setIfInBounds_toArray, List.set_cons_zero, List.set_cons_succ, i64_w, i32_w]
              rfl
             refine pure_ (i := 23) (N := some 34) (v := ?_) (a' := ?_) mk47 rfl rfl (any_of HT_.out (by kernel_rfl)) (fun _ _ _ h => h) (Or.inl ⟨by rfl, ?_⟩) ?_ ?_
             rotate_left
             ·intro w'
              go_simp
              with_reducible rfl
             rotate_left
             ·simp only [Act.put, List.setIfInBounds_toArray, List.set_cons_zero, List.set_cons_succ, i64_w, i32_w]
              rfl
             refine pure_ (i := 24) (N := some 35) (v := ?_) (a' := ?_) mk48 rfl rfl (any_of HT_.out (by kernel_rfl)) (fun _ _ _ h => h) (Or.inl ⟨by rfl, ?_⟩) ?_ ?_
             rotate_left
             ·intro w'
              go_simp
              with_reducible rfl
             rotate_left
             ·simp only [Act.put, List.setIfInBounds_toArray, List.set_cons_zero, List.set_cons_succ, i64_w, i32_w]
              rfl
             refine pure_ (i := 25) (N := some 36) (v := ?_) (a' := ?_) mk49 rfl rfl (any_of HT_.out (by kernel_rfl)) (fun _ _ _ h => h) (Or.inl ⟨by rfl, ?_⟩) ?_ ?_
             rotate_left
             ·intro w'
              go_simp
              with_reducible rfl
             rotate_left
             ·simp only [Act.put, List.setIfInBounds_toArray, List.set_cons_zero, List.set_cons_succ, i64_w, i32_w]
              rfl
             refine take_ (i := 21) (N := some 32) (v := ?_) (a' := ?_) mk26 rfl rfl (take_ofW HT_.out HW_.out (by kernel_rfl)) (fun _ _ _ h => h) (Or.inl ⟨by rfl, ?_⟩) hHeld ?_ ?_
             rotate_left
             ·rintro w' ⟨s0, s1, s2, s3⟩
              go_simp
              with_reducible rfl
             rotate_left
             ·simp only [Act.put, List.setIfInBounds_toArray, List.set_cons_zero, List.set_cons_succ, i64_w, i32_w]
              rfl
             refine take_ (i := 26) (N := some 37) (v := ?_) (a' := ?_) mk27 rfl rfl (take_ofW HT_.out HW_.out (by kernel_rfl)) (fun _ _ _ h => h) (Or.inl ⟨by rfl, ?_⟩) hHeld ?_ ?_
             rotate_left
             ·rintro w' ⟨s0, s1, s2, s3⟩
              go_simp
              with_reducible rfl
             rotate_left
             ·simp only [Act.put, List.setIfInBounds_toArray, List.set_cons_zero, List.set_cons_succ, i64_w, i32_w]
              rfl
             refine pure_ (i := 27) (N := some 38) (v := ?_) (a' := ?_) mk28 rfl rfl (any_of HT_.out (by kernel_rfl)) (fun _ _ _ h => h) (Or.inl ⟨by rfl, ?_⟩) ?_ ?_
             rotate_left
             ·intro w'
              go_simp
              with_reducible rfl
             rotate_left
             ·simp only [Act.put, List.setIfInBounds_toArray, List.set_cons_zero, List.set_cons_succ, i64_w, i32_w]
              rfl
             refine pure_ (i := 28) (N := some 39) (v := ?_) (a' := ?_) mk29 rfl rfl (any_of HT_.out (by kernel_rfl)) (fun _ _ _ h => h) (Or.inl ⟨by rfl, ?_⟩) ?_ ?_
             rotate_left
             ·intro w'
              go_simp
              with_reducible rfl
             rotate_left
             ·simp only [Act.put, List.setIfInBounds_toArray, List.set_cons_zero, List.set_cons_succ, i64_w, i32_w]
              rfl
             refine pure_ (i := 29) (N := some 40) (v := ?_) (a' := ?_) mk30 rfl rfl (any_of HT_.out (by kernel_rfl)) (fun _ _ _ h => h) (Or.inl ⟨by rfl, ?_⟩) ?_ ?_
             rotate_left
             ·intro w'
              go_simp
              with_reducible rfl
             rotate_left
             ·simp only [Act.put, List.setIfInBounds_toArray, List.set_cons_zero, List.set_cons_succ, i64_w, i32_w]
              rfl
             refine pure_ (i := 30) (N := some 41) (v := ?_) (a' := ?_) mk31 rfl rfl (any_of HT_.out (by kernel_rfl)) (fun _ _ _ h => h) (Or.inl ⟨by rfl, ?_⟩) ?_ ?_
             rotate_left
             ·intro w'
              go_simp
              with_reducible rfl
             rotate_left
             ·simp only [Act.put, List.setIfInBounds_toArray, List.set_cons_zero, List.set_cons_succ, i64_w, i32_w]
              rfl
             refine pure_ (i := 31) (N := some 42) (v := undef) (a' := ?_) mk32 rfl rfl (any_of HT_.out (by kernel_rfl)) (fun _ _ _ h => h) (Or.inr ⟨by rfl, rfl⟩) ?_ ?_
             rotate_left
             ·simp only [Act.put, List.setIfInBounds_toArray, List.set_cons_zero, List.set_cons_succ, i64_w, i32_w]
              rfl
             refine pure_ (i := 32) (N := some 43) (v := undef) (a' := ?_) mk33 rfl rfl (any_of HT_.out (by kernel_rfl)) (fun _ _ _ h => h) (Or.inr ⟨by rfl, rfl⟩) ?_ ?_
             rotate_left
             ·simp only [Act.put, List.setIfInBounds_toArray, List.set_cons_zero, List.set_cons_succ, i64_w, i32_w]
              rfl
             refine pure_ (i := 33) (N := some 44) (v := undef) (a' := ?_) mk34 rfl rfl (any_of HT_.out (by kernel_rfl)) (fun _ _ _ h => h) (Or.inr ⟨by rfl, rfl⟩) ?_ ?_
             rotate_left
             ·simp only [Act.put, List.setIfInBounds_toArray, List.set_cons_zero, List.set_cons_succ, i64_w, i32_w]
              rfl
             refine pure_ (i := 34) (N := some 45) (v := undef) (a' := ?_) mk35 rfl rfl (any_of HT_.out (by kernel_rfl)) (fun _ _ _ h => h) (Or.inr ⟨by rfl, rfl⟩) ?_ ?_
             rotate_left
             ·simp only [Act.put, List.setIfInBounds_toArray, List.set_cons_zero, List.set_cons_succ, i64_w, i32_w]
              rfl
             refine pure_ (i := 35) (N := some 46) (v := undef) (a' := ?_) mk36 rfl rfl (any_of HT_.out (by kernel_rfl)) (fun _ _ _ h => h) (Or.inr ⟨by rfl, rfl⟩) ?_ ?_
             rotate_left
             ·simp only [Act.put, List.setIfInBounds_toArray, List.set_cons_zero, List.set_cons_succ, i64_w, i32_w]
              rfl
             refine pure_ (i := 36) (N := some 47) (v := undef) (a' := ?_) mk37 rfl rfl (any_of HT_.out (by kernel_rfl)) (fun _ _ _ h => h) (Or.inr ⟨by rfl, rfl⟩) ?_ ?_
             rotate_left
             ·simp only [Act.put, List.setIfInBounds_toArray, List.set_cons_zero, List.set_cons_succ, i64_w, i32_w]
              rfl
             refine pure_ (i := 37) (N := some 48) (v := undef) (a' := ?_) mk38 rfl rfl (any_of HT_.out (by kernel_rfl)) (fun _ _ _ h => h) (Or.inr ⟨by rfl, rfl⟩) ?_ ?_
             rotate_left
             ·simp only [Act.put, List.setIfInBounds_toArray, List.set_cons_zero, List.set_cons_succ, i64_w, i32_w]
              rfl
             refine pure_ (i := 38) (N := some 49) (v := undef) (a' := ?_) mk39 rfl rfl (any_of HT_.out (by kernel_rfl)) (fun _ _ _ h => h) (Or.inr ⟨by rfl, rfl⟩) ?_ ?_
             rotate_left
             ·simp only [Act.put, List.setIfInBounds_toArray, List.set_cons_zero, List.set_cons_succ, i64_w, i32_w]
              rfl
             refine pure_ (i := 39) (N := some 50) (v := undef) (a' := ?_) mk40 rfl rfl (any_of HT_.out (by kernel_rfl)) (fun _ _ _ h => h) (Or.inr ⟨by rfl, rfl⟩) ?_ ?_
             rotate_left
             ·simp only [Act.put, List.setIfInBounds_toArray, List.set_cons_zero, List.set_cons_succ, i64_w, i32_w]
              rfl
             refine pure_ (i := 40) (N := some 51) (v := undef) (a' := ?_) mk41 rfl rfl (any_of HT_.out (by kernel_rfl)) (fun _ _ _ h => h) (Or.inr ⟨by rfl, rfl⟩) ?_ ?_
             rotate_left
             ·simp only [Act.put, List.setIfInBounds_toArray, List.set_cons_zero, List.set_cons_succ, i64_w, i32_w]
              rfl
             refine pure_ (i := 41) (N := some 52) (v := ?_) (a' := ?_) mk42 rfl rfl (any_of HT_.out (by kernel_rfl)) (fun _ _ _ h => h) (Or.inl ⟨by rfl, ?_⟩) ?_ ?_
             rotate_left
             ·intro w'
              go_simp
              with_reducible rfl
             rotate_left
             ·simp only [Act.put, List.setIfInBounds_toArray, List.set_cons_zero, List.set_cons_succ, i64_w, i32_w]
              rfl
             refine pure_ (i := 42) (N := some 53) (v := ?_) (a' := ?_) mk43 rfl rfl (any_of HT_.out (by kernel_rfl)) (fun _ _ _ h => h) (Or.inl ⟨by rfl, ?_⟩) ?_ ?_
             rotate_left
             ·intro w'
              go_simp
              with_reducible rfl
             rotate_left
             ·simp only [Act.put, List.setIfInBounds_toArray, List.set_cons_zero, List.set_cons_succ, i64_w, i32_w]
              rfl
             refine pure_ (i := 43) (N := some 54) (v := ?_) (a' := ?_) mk44 rfl rfl (any_of HT_.out (by kernel_rfl)) (fun _ _ _ h => h) (Or.inl ⟨by rfl, ?_⟩) ?_ ?_
             rotate_left
             ·intro w'
              go_simp
              with_reducible rfl
             rotate_left
             ·simp only [Act.put, List.setIfInBounds_toArray, List.set_cons_zero, List.set_cons_succ, i64_w, i32_w]
              rfl
             refine pure_ (i := 44) (N := some 55) (v := ?_) (a' := ?_) mk45 rfl rfl (any_of HT_.out (by kernel_rfl)) (fun _ _ _ h => h) (Or.inl ⟨by rfl, ?_⟩) ?_ ?_
             rotate_left
             ·intro w'
              go_simp
              with_reducible rfl
             rotate_left
             ·simp only [Act.put, List.setIfInBounds_toArray, List.set_cons_zero, List.set_cons_succ, i64_w, i32_w]
              rfl
             refine done_ (done_of HT_.out (by kernel_rfl)) ?_
             try go_wp2
             go_roundg k1
             case measure => have := HK1.out; omega
             case rel => exact ⟨(wrap64 (x8_1 + 1)), (by first | rfl | (simp; done) | (simp [*]; done)), H', ⟨by have := HK1.out; omega⟩, ⟨by repeat (first | (with_reducible first | exact HB.out | apply below_alloc | apply pw_below_drewN | apply below_drew1) | exact HB.out)⟩⟩
          ·rw [if_neg c13] at H
           exact absurd H (by simp)
         ·rw [if_neg c12] at H
          exact absurd H (by simp)
        ·rw [if_neg c10] at H
         have c10b0 : decide (0 < x8_1) = false := decide_eq_false c10
         clear c10
         have H' := Aside0.mk H
         clear H
         try go_wp2
         have n0_ := Aside0.mk (below_drew1 HB.out)
         clear HB
         have HB := n0_
         clear n0_
         have p194 : 0 ≤ (x8_1 : Int) := of_decide_eq_true (by first | (with_reducible assumption) | assumption)
         have q194 : x8_1 < (l0.length : Int) := of_decide_eq_true (by first | (with_reducible assumption) | assumption)
         obtain ⟨ad194, e194, hx194_0⟩ := Kd.at_string HR0.out x8_1 p194 q194
         have hw194_0 := hx194_0
         cases e194
         replace hx194_0 := (HB.out.cell (World.block_lt_of_cell? w _ hx194_0)).trans hx194_0
         replace p194 := eq_true p194
         replace q194 := eq_true q194
         have p195 : 0 ≤ (x8_1 : Int) := of_decide_eq_true (by first | (with_reducible assumption) | assumption)
         have q195 : x8_1 < (l0.length : Int) := of_decide_eq_true (by first | (with_reducible assumption) | assumption)
         obtain ⟨ad195, e195, hx195_0⟩ := Kd.at_string HR0.out x8_1 p195 q195
         have hw195_0 := hx195_0
         obtain rfl : ad194 = ad195 := (by injection e195)
         replace hx195_0 := (HB.out.cell (World.block_lt_of_cell? w _ hx195_0)).trans hx195_0
         replace p195 := eq_true p195
         replace q195 := eq_true q195
         refine start_ (n := 45) (S := fun w' => w'.cell? (ad194.add (x8_1).toNat) = some (.string (rdOf ByteArray.empty l0 x8_1)) ∧ w'.cell? (ad194.add (x8_1).toNat) = some (.string (rdOf ByteArray.empty l0 x8_1))) (ds := []) mk0 (by kernel_rfl) rfl rfl ⟨((HB.out.cell (World.block_lt_of_cell? w _ hw194_0)).trans hw194_0), ((HB.out.cell (World.block_lt_of_cell? w _ hw195_0)).trans hw195_0)⟩ (fun hHeld => ?_); refine with_tabW laws_ordered.tab4 laws_ordered.bits4 (fun HT_ HW_ => ?_)
         generalize wr.drew = w33 at HB hx194_0 hx195_0 hHeld ⊢
         refine pure_ (i := 0) (N := some 11) (v := ?_) (a' := ?_) mk1 rfl rfl (any_of HT_.out (by kernel_rfl)) (fun _ _ _ h => h) (Or.inl ⟨by rfl, ?_⟩) ?_ ?_
         rotate_left
         ·intro w'
          go_simp
          with_reducible rfl
         rotate_left
         ·simp only [Act.put, List.setIfInBounds_toArray, List.set_cons_zero, List.set_cons_succ, i64_w, i32_w]
          rfl
         refine pure_ (i := 1) (N := some 12) (v := ?_) (a' := ?_) mk2 rfl rfl (any_of HT_.out (by kernel_rfl)) (fun _ _ _ h => h) (Or.inl ⟨by rfl, ?_⟩) ?_ ?_
         rotate_left
         ·intro w'
          go_simp
          with_reducible rfl
         rotate_left
         ·simp only [Act.put, List.setIfInBounds_toArray, List.set_cons_zero, List.set_cons_succ, i64_w, i32_w]
          rfl
         refine pure_ (i := 2) (N := some 13) (v := ?_) (a' := ?_) mk3 rfl rfl (any_of HT_.out (by kernel_rfl)) (fun _ _ _ h => h) (Or.inl ⟨by rfl, ?_⟩) ?_ ?_
         rotate_left
         ·intro w'
          go_simp
          with_reducible rfl
         rotate_left
         ·simp only [Act.put, List.setIfInBounds_toArray, List.set_cons_zero, List.set_cons_succ, i64_w, i32_w]
          rfl
         refine take_ (i := 3) (N := some 14) (v := ?_) (a' := ?_) mk4 rfl rfl (take_ofW HT_.out HW_.out (by kernel_rfl)) (fun _ _ _ h => h) (Or.inl ⟨by rfl, ?_⟩) hHeld ?_ ?_
         rotate_left
         ·rintro w' ⟨s0, s1⟩
          go_simp
          with_reducible rfl
         rotate_left
         ·simp only [Act.put, List.setIfInBounds_toArray, List.set_cons_zero, List.set_cons_succ, i64_w, i32_w]
          rfl
         refine pure_ (i := 4) (N := some 15) (v := ?_) (a' := ?_) mk5 rfl rfl (any_of HT_.out (by kernel_rfl)) (fun _ _ _ h => h) (Or.inl ⟨by rfl, ?_⟩) ?_ ?_
         rotate_left
         ·intro w'
          go_simp
          with_reducible rfl
         rotate_left
         ·simp only [Act.put, List.setIfInBounds_toArray, List.set_cons_zero, List.set_cons_succ, i64_w, i32_w]
          rfl
         refine pure_ (i := 5) (N := some 16) (v := ?_) (a' := ?_) mk6 rfl rfl (any_of HT_.out (by kernel_rfl)) (fun _ _ _ h => h) (Or.inl ⟨by rfl, ?_⟩) ?_ ?_
         rotate_left
         ·intro w'
          go_simp
          with_reducible rfl
         rotate_left
         ·simp only [Act.put, List.setIfInBounds_toArray, List.set_cons_zero, List.set_cons_succ, i64_w, i32_w]
          rfl
         refine pure_ (i := 6) (N := some 17) (v := ?_) (a' := ?_) mk7 rfl rfl (any_of HT_.out (by kernel_rfl)) (fun _ _ _ h => h) (Or.inl ⟨by rfl, ?_⟩) ?_ ?_
         rotate_left
         ·intro w'
          go_simp
          with_reducible rfl
         rotate_left
         ·simp only [Act.put, List.setIfInBounds_toArray, List.set_cons_zero, List.set_cons_succ, i64_w, i32_w]
          rfl
         refine pure_ (i := 7) (N := some 18) (v := ?_) (a' := ?_) mk8 rfl rfl (any_of HT_.out (by kernel_rfl)) (fun _ _ _ h => h) (Or.inl ⟨by rfl, ?_⟩) ?_ ?_
         rotate_left
         ·intro w'
          go_simp
          with_reducible rfl
         rotate_left
         ·simp only [Act.put, List.setIfInBounds_toArray, List.set_cons_zero, List.set_cons_succ, i64_w, i32_w]
          rfl
         refine pure_ (i := 8) (N := some 19) (v := ?_) (a' := ?_) mk9 rfl rfl (any_of HT_.out (by kernel_rfl)) (fun _ _ _ h => h) (Or.inl ⟨by rfl, ?_⟩) ?_ ?_
         rotate_left
         ·intro w'
          go_simp
          with_reducible rfl
         rotate_left
         ·simp only [Act.put, List.setIfInBounds_toArray, List.set_cons_zero, List.set_cons_succ, i64_w, i32_w]
          rfl
         refine take_ (i := 9) (N := some 20) (v := ?_) (a' := ?_) mk10 rfl rfl (take_ofW HT_.out HW_.out (by kernel_rfl)) (fun _ _ _ h => h) (Or.inl ⟨by rfl, ?_⟩) hHeld ?_ ?_
         rotate_left
         ·rintro w' ⟨s0, s1⟩
          go_simp
          with_reducible rfl
         rotate_left
         ·simp only [Act.put, List.setIfInBounds_toArray, List.set_cons_zero, List.set_cons_succ, i64_w, i32_w]
          rfl
         refine one_ (i := 10) (N := some 21) mk11 rfl rfl (one_of HT_.out (by kernel_rfl)) (by decide) (fun K hK => ?_)
         refine Kd.R_lit_step Kd.string _ 9 ?hg (N := 21) ?hd (xs := ([rdOf ByteArray.empty l0 x8_1] : List ByteArray)) (inner := [.string (rdOf ByteArray.empty l0 x8_1)]) (ok := fun _ => True) (okp := fun _ => True) ?hr ?hp (fun _ hk => hk) trivial (Below.refl _ _) (Nat.le_refl _) (by simp) ?_; (case hd => rfl); (case hg => rfl); (case hr => first | (go_simp; done) | (go_simp; rfl)); (case hp => exact (Reps.one (show Kd.M Kd.string _ _ _ (rdOf ByteArray.empty l0 x8_1) [.string (rdOf ByteArray.empty l0 x8_1)] from rfl) (Reps.none _ _)))
         intro v197 w34 ho35 hb hg_ hnew_
         clear hg_ hnew_
         (first | rw [← Ny196.out] at ho35 | (simp only [Int.reduceToNat] at ho35; rw [← Ny196.out] at ho35))
         have n0_ := Aside0.mk (Kd.R_lower ho35 (below_size (by repeat (first | (with_reducible first | exact HB.out | apply below_alloc | apply pw_below_drewN | apply below_drew1) | exact HB.out))))
         have n1_ := Aside0.mk (below_step (by repeat (first | (with_reducible first | exact HB.out | apply below_alloc | apply pw_below_drewN | apply below_drew1) | exact HB.out)) hb)
         clear HB
         have HO198 := n0_
         have HB := n1_
         clear n0_ n1_
         clear hb ho35
         obtain ⟨Ao36, co36, eo36⟩ := Kd.R_slice HO198.out
         (first | subst eo36 | (injection eo36 with f1_ f2_ f3_; have f4_ := f1_.symm; have f5_ := f3_.symm; clear f1_ f2_ f3_; subst f4_; subst f5_))
         refine hK.out _ _ ⟨((HB.out.cell (World.block_lt_of_cell? w _ hw194_0)).trans hw194_0), ((HB.out.cell (World.block_lt_of_cell? w _ hw195_0)).trans hw195_0)⟩ (fun hHeld => ?_)
         clear hK K
         refine norm_ (a' := ?_) ?_ ?_
         rotate_left
         ·show Act.put _ (some 21) _ = _
          simp only [Act.put, List.setIfInBounds_toArray, List.set_cons_zero, List.set_cons_succ, i64_w, i32_w]
          rfl
         refine one_ (i := 11) (N := some 22) mk12 rfl rfl (one_of HT_.out (by kernel_rfl)) (by decide) (fun K hK => ?_)
         refine goes_ Try.func13 (by kernel_rfl) rfl #[.slice Ao36 y196.length co36] (by rfl) rfl rfl (by (try simp only [List.map_toArray, List.map_cons, List.map_nil]); first | done | rfl | (simp only [List.length_drop, List.length_take]; rfl)) ?_
         with_reducible refine (laws_clean.calls k1 _ _ y196 true _ ?side1 ?side2 A8.out).mono ?_
         (case side1 => repeat (first | exact (Kd.R_reads' HO198.out).2.2 | (with_reducible refine Kd.C_alloc ?_ _) | (with_reducible refine Kd.C_drewN ?_ _) | (with_reducible refine Kd.C_drew ?_)))
         (case side2 => exact (Kd.R_reads' HO198.out).2.1)
         rintro e w' ⟨rfl, ⟨nd, rfl⟩⟩
         refine ⟨_, rfl, ?_⟩
         refine hK.out _ _ ⟨((HB.out.cell (World.block_lt_of_cell? w _ hw194_0)).trans hw194_0), ((HB.out.cell (World.block_lt_of_cell? w _ hw195_0)).trans hw195_0)⟩ (fun hHeld => ?_)
         clear hK K
         refine norm_ (a' := ?_) ?_ ?_
         rotate_left
         ·show Act.put _ (some 22) _ = _
          simp only [Act.put, List.setIfInBounds_toArray, List.set_cons_zero, List.set_cons_succ, i64_w, i32_w]
          rfl
         refine pure_ (i := 12) (N := some 23) (v := ?_) (a' := ?_) mk13 rfl rfl (any_of HT_.out (by kernel_rfl)) (fun _ _ _ h => h) (Or.inl ⟨by rfl, ?_⟩) ?_ ?_
         rotate_left
         ·intro w'
          go_simp
          with_reducible rfl
         rotate_left
         ·simp only [Act.put, List.setIfInBounds_toArray, List.set_cons_zero, List.set_cons_succ, i64_w, i32_w]
          rfl
         refine pure_ (i := 13) (N := some 24) (v := ?_) (a' := ?_) mk14 rfl rfl (any_of HT_.out (by kernel_rfl)) (fun _ _ _ h => h) (Or.inl ⟨by rfl, ?_⟩) ?_ ?_
         rotate_left
         ·intro w'
          go_simp
          with_reducible rfl
         rotate_left
         ·simp only [Act.put, List.setIfInBounds_toArray, List.set_cons_zero, List.set_cons_succ, i64_w, i32_w]
          rfl
         refine pure_ (i := 14) (N := some 25) (v := ?_) (a' := ?_) mk15 rfl rfl (any_of HT_.out (by kernel_rfl)) (fun _ _ _ h => h) (Or.inl ⟨by rfl, ?_⟩) ?_ ?_
         rotate_left
         ·intro w'
          go_simp
          with_reducible rfl
         rotate_left
         ·simp only [Act.put, List.setIfInBounds_toArray, List.set_cons_zero, List.set_cons_succ, i64_w, i32_w]
          rfl
         refine pure_ (i := 15) (N := some 26) (v := ?_) (a' := ?_) mk16 rfl rfl (any_of HT_.out (by kernel_rfl)) (fun _ _ _ h => h) (Or.inl ⟨by rfl, ?_⟩) ?_ ?_
         rotate_left
         ·intro w'
          go_simp
          with_reducible rfl
         rotate_left
         ·simp only [Act.put, List.setIfInBounds_toArray, List.set_cons_zero, List.set_cons_succ, i64_w, i32_w]
          rfl
         refine pure_ (i := 16) (N := some 27) (v := ?_) (a' := ?_) mk17 rfl rfl (any_of HT_.out (by kernel_rfl)) (fun _ _ _ h => h) (Or.inl ⟨by rfl, ?_⟩) ?_ ?_
         rotate_left
         ·intro w'
          go_simp
          with_reducible rfl
         rotate_left
         ·simp only [Act.put, List.setIfInBounds_toArray, List.set_cons_zero, List.set_cons_succ, i64_w, i32_w]
          rfl
         refine pure_ (i := 17) (N := some 28) (v := ?_) (a' := ?_) mk18 rfl rfl (any_of HT_.out (by kernel_rfl)) (fun _ _ _ h => h) (Or.inl ⟨by rfl, ?_⟩) ?_ ?_
         rotate_left
         ·intro w'
          go_simp
          with_reducible rfl
         rotate_left
         ·simp only [Act.put, List.setIfInBounds_toArray, List.set_cons_zero, List.set_cons_succ, i64_w, i32_w]
          rfl
         refine pure_ (i := 18) (N := some 29) (v := undef) (a' := ?_) mk19 rfl rfl (any_of HT_.out (by kernel_rfl)) (fun _ _ _ h => h) (Or.inr ⟨by rfl, rfl⟩) ?_ ?_
         rotate_left
         ·simp only [Act.put, List.setIfInBounds_toArray, List.set_cons_zero, List.set_cons_succ, i64_w, i32_w]
          rfl
         refine pure_ (i := 19) (N := some 30) (v := undef) (a' := ?_) mk20 rfl rfl (any_of HT_.out (by kernel_rfl)) (fun _ _ _ h => h) (Or.inr ⟨by rfl, rfl⟩) ?_ ?_
         rotate_left
         ·simp only [Act.put, List.setIfInBounds_toArray, List.set_cons_zero, List.set_cons_succ, i64_w, i32_w]
          rfl
         refine pure_ (i := 20) (N := some 31) (v := undef) (a' := ?_) mk21 rfl rfl (any_of HT_.out (by kernel_rfl)) (fun _ _ _ h => h) (Or.inr ⟨by rfl, rfl⟩) ?_ ?_
         rotate_left
         ·simp only [Act.put, List.setIfInBounds_toArray, List.set_cons_zero, List.set_cons_succ, i64_w, i32_w]
          rfl
         refine pure_ (i := 21) (N := some 32) (v := undef) (a' := ?_) mk22 rfl rfl (any_of HT_.out (by kernel_rfl)) (fun _ _ _ h => h) (Or.inr ⟨by rfl, rfl⟩) ?_ ?_
         rotate_left
         ·simp only [Act.put, List.setIfInBounds_toArray, List.set_cons_zero, List.set_cons_succ, i64_w, i32_w]
          rfl
         refine pure_ (i := 22) (N := some 33) (v := undef) (a' := ?_) mk23 rfl rfl (any_of HT_.out (by kernel_rfl)) (fun _ _ _ h => h) (Or.inr ⟨by rfl, rfl⟩) ?_ ?_
         rotate_left
         ·simp only [Act.put, List.setIfInBounds_toArray, List.set_cons_zero, List.set_cons_succ, i64_w, i32_w]
          rfl
         refine pure_ (i := 23) (N := some 34) (v := undef) (a' := ?_) mk24 rfl rfl (any_of HT_.out (by kernel_rfl)) (fun _ _ _ h => h) (Or.inr ⟨by rfl, rfl⟩) ?_ ?_
         rotate_left
         ·simp only [Act.put, List.setIfInBounds_toArray, List.set_cons_zero, List.set_cons_succ, i64_w, i32_w]
          rfl
         refine pure_ (i := 24) (N := some 35) (v := undef) (a' := ?_) mk25 rfl rfl (any_of HT_.out (by kernel_rfl)) (fun _ _ _ h => h) (Or.inr ⟨by rfl, rfl⟩) ?_ ?_
         rotate_left
         ·simp only [Act.put, List.setIfInBounds_toArray, List.set_cons_zero, List.set_cons_succ, i64_w, i32_w]
          rfl
         refine pure_ (i := 25) (N := some 36) (v := undef) (a' := ?_) mk26 rfl rfl (any_of HT_.out (by kernel_rfl)) (fun _ _ _ h => h) (Or.inr ⟨by rfl, rfl⟩) ?_ ?_
         rotate_left
         ·simp only [Act.put, List.setIfInBounds_toArray, List.set_cons_zero, List.set_cons_succ, i64_w, i32_w]
          rfl
         refine pure_ (i := 26) (N := some 37) (v := undef) (a' := ?_) mk27 rfl rfl (any_of HT_.out (by kernel_rfl)) (fun _ _ _ h => h) (Or.inr ⟨by rfl, rfl⟩) ?_ ?_
         rotate_left
         ·simp only [Act.put, List.setIfInBounds_toArray, List.set_cons_zero, List.set_cons_succ, i64_w, i32_w]
          rfl
         refine pure_ (i := 27) (N := some 38) (v := undef) (a' := ?_) mk28 rfl rfl (any_of HT_.out (by kernel_rfl)) (fun _ _ _ h => h) (Or.inr ⟨by rfl, rfl⟩) ?_ ?_
         rotate_left
         ·simp only [Act.put, List.setIfInBounds_toArray, List.set_cons_zero, List.set_cons_succ, i64_w, i32_w]
          rfl
         refine pure_ (i := 28) (N := some 39) (v := undef) (a' := ?_) mk29 rfl rfl (any_of HT_.out (by kernel_rfl)) (fun _ _ _ h => h) (Or.inr ⟨by rfl, rfl⟩) ?_ ?_
         rotate_left
         ·simp only [Act.put, List.setIfInBounds_toArray, List.set_cons_zero, List.set_cons_succ, i64_w, i32_w]
          rfl
         refine pure_ (i := 29) (N := some 40) (v := undef) (a' := ?_) mk30 rfl rfl (any_of HT_.out (by kernel_rfl)) (fun _ _ _ h => h) (Or.inr ⟨by rfl, rfl⟩) ?_ ?_
         rotate_left
         ·simp only [Act.put, List.setIfInBounds_toArray, List.set_cons_zero, List.set_cons_succ, i64_w, i32_w]
          rfl
         refine pure_ (i := 30) (N := some 41) (v := undef) (a' := ?_) mk31 rfl rfl (any_of HT_.out (by kernel_rfl)) (fun _ _ _ h => h) (Or.inr ⟨by rfl, rfl⟩) ?_ ?_
         rotate_left
         ·simp only [Act.put, List.setIfInBounds_toArray, List.set_cons_zero, List.set_cons_succ, i64_w, i32_w]
          rfl
         refine pure_ (i := 31) (N := some 42) (v := undef) (a' := ?_) mk32 rfl rfl (any_of HT_.out (by kernel_rfl)) (fun _ _ _ h => h) (Or.inr ⟨by rfl, rfl⟩) ?_ ?_
         rotate_left
         ·simp only [Act.put, List.setIfInBounds_toArray, List.set_cons_zero, List.set_cons_succ, i64_w, i32_w]
          rfl
         refine pure_ (i := 32) (N := some 43) (v := undef) (a' := ?_) mk33 rfl rfl (any_of HT_.out (by kernel_rfl)) (fun _ _ _ h => h) (Or.inr ⟨by rfl, rfl⟩) ?_ ?_
         rotate_left
         ·simp only [Act.put, List.setIfInBounds_toArray, List.set_cons_zero, List.set_cons_succ, i64_w, i32_w]
          rfl
         refine pure_ (i := 33) (N := some 44) (v := undef) (a' := ?_) mk34 rfl rfl (any_of HT_.out (by kernel_rfl)) (fun _ _ _ h => h) (Or.inr ⟨by rfl, rfl⟩) ?_ ?_
         rotate_left
         ·simp only [Act.put, List.setIfInBounds_toArray, List.set_cons_zero, List.set_cons_succ, i64_w, i32_w]
          rfl
         refine pure_ (i := 34) (N := some 45) (v := undef) (a' := ?_) mk35 rfl rfl (any_of HT_.out (by kernel_rfl)) (fun _ _ _ h => h) (Or.inr ⟨by rfl, rfl⟩) ?_ ?_
         rotate_left
         ·simp only [Act.put, List.setIfInBounds_toArray, List.set_cons_zero, List.set_cons_succ, i64_w, i32_w]
          rfl
         refine pure_ (i := 35) (N := some 46) (v := undef) (a' := ?_) mk36 rfl rfl (any_of HT_.out (by kernel_rfl)) (fun _ _ _ h => h) (Or.inr ⟨by rfl, rfl⟩) ?_ ?_
         rotate_left
         ·simp only [Act.put, List.setIfInBounds_toArray, List.set_cons_zero, List.set_cons_succ, i64_w, i32_w]
          rfl
         refine pure_ (i := 36) (N := some 47) (v := undef) (a' := ?_) mk37 rfl rfl (any_of HT_.out (by kernel_rfl)) (fun _ _ _ h => h) (Or.inr ⟨by rfl, rfl⟩) ?_ ?_
         rotate_left
         ·simp only [Act.put, List.setIfInBounds_toArray, List.set_cons_zero, List.set_cons_succ, i64_w, i32_w]
          rfl
         refine pure_ (i := 37) (N := some 48) (v := undef) (a' := ?_) mk38 rfl rfl (any_of HT_.out (by kernel_rfl)) (fun _ _ _ h => h) (Or.inr ⟨by rfl, rfl⟩) ?_ ?_
         rotate_left
         ·simp only [Act.put, List.setIfInBounds_toArray, List.set_cons_zero, List.set_cons_succ, i64_w, i32_w]
          rfl
         refine pure_ (i := 38) (N := some 49) (v := undef) (a' := ?_) mk39 rfl rfl (any_of HT_.out (by kernel_rfl)) (fun _ _ _ h => h) (Or.inr ⟨by rfl, rfl⟩) ?_ ?_
         rotate_left
         ·simp only [Act.put, List.setIfInBounds_toArray, List.set_cons_zero, List.set_cons_succ, i64_w, i32_w]
          rfl
         refine pure_ (i := 39) (N := some 50) (v := undef) (a' := ?_) mk40 rfl rfl (any_of HT_.out (by kernel_rfl)) (fun _ _ _ h => h) (Or.inr ⟨by rfl, rfl⟩) ?_ ?_
         rotate_left
         ·simp only [Act.put, List.setIfInBounds_toArray, List.set_cons_zero, List.set_cons_succ, i64_w, i32_w]
          rfl
         refine pure_ (i := 40) (N := some 51) (v := undef) (a' := ?_) mk41 rfl rfl (any_of HT_.out (by kernel_rfl)) (fun _ _ _ h => h) (Or.inr ⟨by rfl, rfl⟩) ?_ ?_
         rotate_left
         ·simp only [Act.put, List.setIfInBounds_toArray, List.set_cons_zero, List.set_cons_succ, i64_w, i32_w]
          rfl
         refine pure_ (i := 41) (N := some 52) (v := undef) (a' := ?_) mk42 rfl rfl (any_of HT_.out (by kernel_rfl)) (fun _ _ _ h => h) (Or.inr ⟨by rfl, rfl⟩) ?_ ?_
         rotate_left
         ·simp only [Act.put, List.setIfInBounds_toArray, List.set_cons_zero, List.set_cons_succ, i64_w, i32_w]
          rfl
         refine pure_ (i := 42) (N := some 53) (v := undef) (a' := ?_) mk43 rfl rfl (any_of HT_.out (by kernel_rfl)) (fun _ _ _ h => h) (Or.inr ⟨by rfl, rfl⟩) ?_ ?_
         rotate_left
         ·simp only [Act.put, List.setIfInBounds_toArray, List.set_cons_zero, List.set_cons_succ, i64_w, i32_w]
          rfl
         refine pure_ (i := 43) (N := some 54) (v := ?_) (a' := ?_) mk44 rfl rfl (any_of HT_.out (by kernel_rfl)) (fun _ _ _ h => h) (Or.inl ⟨by rfl, ?_⟩) ?_ ?_
         rotate_left
         ·intro w'
          go_simp
          with_reducible rfl
         rotate_left
         ·simp only [Act.put, List.setIfInBounds_toArray, List.set_cons_zero, List.set_cons_succ, i64_w, i32_w]
          rfl
         refine pure_ (i := 44) (N := some 55) (v := ?_) (a' := ?_) mk45 rfl rfl (any_of HT_.out (by kernel_rfl)) (fun _ _ _ h => h) (Or.inl ⟨by rfl, ?_⟩) ?_ ?_
         rotate_left
         ·intro w'
          go_simp
          with_reducible rfl
         rotate_left
         ·simp only [Act.put, List.setIfInBounds_toArray, List.set_cons_zero, List.set_cons_succ, i64_w, i32_w]
          rfl
         refine done_ (done_of HT_.out (by kernel_rfl)) ?_
         try go_wp2
         go_roundg k1
         case measure => have := HK1.out; omega
         case rel => exact ⟨(wrap64 (x8_1 + 1)), (by first | rfl | (simp; done) | (simp [*]; done)), H', ⟨by have := HK1.out; omega⟩, ⟨by repeat (first | (with_reducible first | exact HB.out | apply below_alloc | apply pw_below_drewN | apply below_drew1) | exact HB.out)⟩⟩
       ·replace c9 := Bool.eq_false_iff.mpr c9
        subst c9
        have H1 : (some false) = some r := by rw [if_neg (show ¬ (false = true) by decide)] at H; exact H
        clear H
        have H := H1
        clear H1
        obtain rfl := Option.some.inj H
        try go_wp2
        have n0_ := Aside0.mk (below_drew1 HB.out)
        clear HB
        have HB := n0_
        clear n0_
        have p194 : 0 ≤ (x8_1 : Int) := of_decide_eq_true (by first | (with_reducible assumption) | assumption)
        have q194 : x8_1 < (l0.length : Int) := of_decide_eq_true (by first | (with_reducible assumption) | assumption)
        obtain ⟨ad194, e194, hx194_0⟩ := Kd.at_string HR0.out x8_1 p194 q194
        have hw194_0 := hx194_0
        cases e194
        replace hx194_0 := (HB.out.cell (World.block_lt_of_cell? w _ hx194_0)).trans hx194_0
        replace p194 := eq_true p194
        replace q194 := eq_true q194
        have p195 : 0 ≤ (x8_1 : Int) := of_decide_eq_true (by first | (with_reducible assumption) | assumption)
        have q195 : x8_1 < (l0.length : Int) := of_decide_eq_true (by first | (with_reducible assumption) | assumption)
        obtain ⟨ad195, e195, hx195_0⟩ := Kd.at_string HR0.out x8_1 p195 q195
        have hw195_0 := hx195_0
        obtain rfl : ad194 = ad195 := (by injection e195)
        replace hx195_0 := (HB.out.cell (World.block_lt_of_cell? w _ hx195_0)).trans hx195_0
        replace p195 := eq_true p195
        replace q195 := eq_true q195
        refine start_ (n := 45) (S := fun w' => w'.cell? (ad194.add (x8_1).toNat) = some (.string (rdOf ByteArray.empty l0 x8_1)) ∧ w'.cell? (ad194.add (x8_1).toNat) = some (.string (rdOf ByteArray.empty l0 x8_1))) (ds := []) mk0 (by kernel_rfl) rfl rfl ⟨((HB.out.cell (World.block_lt_of_cell? w _ hw194_0)).trans hw194_0), ((HB.out.cell (World.block_lt_of_cell? w _ hw195_0)).trans hw195_0)⟩ (fun hHeld => ?_); refine with_tabW laws_ordered.tab4 laws_ordered.bits4 (fun HT_ HW_ => ?_)
        generalize wr.drew = w37 at HB hx194_0 hx195_0 hHeld ⊢
        refine pure_ (i := 0) (N := some 11) (v := ?_) (a' := ?_) mk1 rfl rfl (any_of HT_.out (by kernel_rfl)) (fun _ _ _ h => h) (Or.inl ⟨by rfl, ?_⟩) ?_ ?_
        rotate_left
        ·intro w'
         go_simp
         with_reducible rfl
        rotate_left
        ·simp only [Act.put, List.setIfInBounds_toArray, List.set_cons_zero, List.set_cons_succ, i64_w, i32_w]
         rfl
        refine pure_ (i := 1) (N := some 12) (v := ?_) (a' := ?_) mk2 rfl rfl (any_of HT_.out (by kernel_rfl)) (fun _ _ _ h => h) (Or.inl ⟨by rfl, ?_⟩) ?_ ?_
        rotate_left
        ·intro w'
         go_simp
         with_reducible rfl
        rotate_left
        ·simp only [Act.put, List.setIfInBounds_toArray, List.set_cons_zero, List.set_cons_succ, i64_w, i32_w]
         rfl
        refine pure_ (i := 2) (N := some 13) (v := ?_) (a' := ?_) mk3 rfl rfl (any_of HT_.out (by kernel_rfl)) (fun _ _ _ h => h) (Or.inl ⟨by rfl, ?_⟩) ?_ ?_
        rotate_left
        ·intro w'
         go_simp
         with_reducible rfl
        rotate_left
        ·simp only [Act.put, List.setIfInBounds_toArray, List.set_cons_zero, List.set_cons_succ, i64_w, i32_w]
         rfl
        refine take_ (i := 3) (N := some 14) (v := ?_) (a' := ?_) mk4 rfl rfl (take_ofW HT_.out HW_.out (by kernel_rfl)) (fun _ _ _ h => h) (Or.inl ⟨by rfl, ?_⟩) hHeld ?_ ?_
        rotate_left
        ·rintro w' ⟨s0, s1⟩
         go_simp
         with_reducible rfl
        rotate_left
        ·simp only [Act.put, List.setIfInBounds_toArray, List.set_cons_zero, List.set_cons_succ, i64_w, i32_w]
         rfl
        refine pure_ (i := 4) (N := some 15) (v := ?_) (a' := ?_) mk5 rfl rfl (any_of HT_.out (by kernel_rfl)) (fun _ _ _ h => h) (Or.inl ⟨by rfl, ?_⟩) ?_ ?_
        rotate_left
        ·intro w'
         go_simp
         with_reducible rfl
        rotate_left
        ·simp only [Act.put, List.setIfInBounds_toArray, List.set_cons_zero, List.set_cons_succ, i64_w, i32_w]
         rfl
        refine pure_ (i := 5) (N := some 16) (v := ?_) (a' := ?_) mk6 rfl rfl (any_of HT_.out (by kernel_rfl)) (fun _ _ _ h => h) (Or.inl ⟨by rfl, ?_⟩) ?_ ?_
        rotate_left
        ·intro w'
         go_simp
         with_reducible rfl
        rotate_left
        ·simp only [Act.put, List.setIfInBounds_toArray, List.set_cons_zero, List.set_cons_succ, i64_w, i32_w]
         rfl
        refine pure_ (i := 6) (N := some 17) (v := ?_) (a' := ?_) mk7 rfl rfl (any_of HT_.out (by kernel_rfl)) (fun _ _ _ h => h) (Or.inl ⟨by rfl, ?_⟩) ?_ ?_
        rotate_left
        ·intro w'
         go_simp
         with_reducible rfl
        rotate_left
        ·simp only [Act.put, List.setIfInBounds_toArray, List.set_cons_zero, List.set_cons_succ, i64_w, i32_w]
         rfl
        refine pure_ (i := 7) (N := some 18) (v := ?_) (a' := ?_) mk8 rfl rfl (any_of HT_.out (by kernel_rfl)) (fun _ _ _ h => h) (Or.inl ⟨by rfl, ?_⟩) ?_ ?_
        rotate_left
        ·intro w'
         go_simp
         with_reducible rfl
        rotate_left
        ·simp only [Act.put, List.setIfInBounds_toArray, List.set_cons_zero, List.set_cons_succ, i64_w, i32_w]
         rfl
        refine pure_ (i := 8) (N := some 19) (v := ?_) (a' := ?_) mk9 rfl rfl (any_of HT_.out (by kernel_rfl)) (fun _ _ _ h => h) (Or.inl ⟨by rfl, ?_⟩) ?_ ?_
        rotate_left
        ·intro w'
         go_simp
         with_reducible rfl
        rotate_left
        ·simp only [Act.put, List.setIfInBounds_toArray, List.set_cons_zero, List.set_cons_succ, i64_w, i32_w]
         rfl
        refine take_ (i := 9) (N := some 20) (v := ?_) (a' := ?_) mk10 rfl rfl (take_ofW HT_.out HW_.out (by kernel_rfl)) (fun _ _ _ h => h) (Or.inl ⟨by rfl, ?_⟩) hHeld ?_ ?_
        rotate_left
        ·rintro w' ⟨s0, s1⟩
         go_simp
         with_reducible rfl
        rotate_left
        ·simp only [Act.put, List.setIfInBounds_toArray, List.set_cons_zero, List.set_cons_succ, i64_w, i32_w]
         rfl
        refine one_ (i := 10) (N := some 21) mk11 rfl rfl (one_of HT_.out (by kernel_rfl)) (by decide) (fun K hK => ?_)
        refine Kd.R_lit_step Kd.string _ 9 ?hg (N := 21) ?hd (xs := ([rdOf ByteArray.empty l0 x8_1] : List ByteArray)) (inner := [.string (rdOf ByteArray.empty l0 x8_1)]) (ok := fun _ => True) (okp := fun _ => True) ?hr ?hp (fun _ hk => hk) trivial (Below.refl _ _) (Nat.le_refl _) (by simp) ?_; (case hd => rfl); (case hg => rfl); (case hr => first | (go_simp; done) | (go_simp; rfl)); (case hp => exact (Reps.one (show Kd.M Kd.string _ _ _ (rdOf ByteArray.empty l0 x8_1) [.string (rdOf ByteArray.empty l0 x8_1)] from rfl) (Reps.none _ _)))
        intro v197 w38 ho39 hb hg_ hnew_
        clear hg_ hnew_
        (first | rw [← Ny196.out] at ho39 | (simp only [Int.reduceToNat] at ho39; rw [← Ny196.out] at ho39))
        have n0_ := Aside0.mk (Kd.R_lower ho39 (below_size (by repeat (first | (with_reducible first | exact HB.out | apply below_alloc | apply pw_below_drewN | apply below_drew1) | exact HB.out))))
        have n1_ := Aside0.mk (below_step (by repeat (first | (with_reducible first | exact HB.out | apply below_alloc | apply pw_below_drewN | apply below_drew1) | exact HB.out)) hb)
        clear HB
        have HO198 := n0_
        have HB := n1_
        clear n0_ n1_
        clear hb ho39
        obtain ⟨Ao40, co40, eo40⟩ := Kd.R_slice HO198.out
        (first | subst eo40 | (injection eo40 with f1_ f2_ f3_; have f4_ := f1_.symm; have f5_ := f3_.symm; clear f1_ f2_ f3_; subst f4_; subst f5_))
        refine hK.out _ _ ⟨((HB.out.cell (World.block_lt_of_cell? w _ hw194_0)).trans hw194_0), ((HB.out.cell (World.block_lt_of_cell? w _ hw195_0)).trans hw195_0)⟩ (fun hHeld => ?_)
        clear hK K
        refine norm_ (a' := ?_) ?_ ?_
        rotate_left
        ·show Act.put _ (some 21) _ = _
         simp only [Act.put, List.setIfInBounds_toArray, List.set_cons_zero, List.set_cons_succ, i64_w, i32_w]
         rfl
        refine one_ (i := 11) (N := some 22) mk12 rfl rfl (one_of HT_.out (by kernel_rfl)) (by decide) (fun K hK => ?_)
        refine goes_ Try.func13 (by kernel_rfl) rfl #[.slice Ao40 y196.length co40] (by rfl) rfl rfl (by (try simp only [List.map_toArray, List.map_cons, List.map_nil]); first | done | rfl | (simp only [List.length_drop, List.length_take]; rfl)) ?_
        with_reducible refine (laws_clean.calls k1 _ _ y196 false _ ?side1 ?side2 A8.out).mono ?_
        (case side1 => repeat (first | exact (Kd.R_reads' HO198.out).2.2 | (with_reducible refine Kd.C_alloc ?_ _) | (with_reducible refine Kd.C_drewN ?_ _) | (with_reducible refine Kd.C_drew ?_)))
        (case side2 => exact (Kd.R_reads' HO198.out).2.1)
        rintro e w' ⟨rfl, ⟨nd, rfl⟩⟩
        refine ⟨_, rfl, ?_⟩
        refine hK.out _ _ ⟨((HB.out.cell (World.block_lt_of_cell? w _ hw194_0)).trans hw194_0), ((HB.out.cell (World.block_lt_of_cell? w _ hw195_0)).trans hw195_0)⟩ (fun hHeld => ?_)
        clear hK K
        refine norm_ (a' := ?_) ?_ ?_
        rotate_left
        ·show Act.put _ (some 22) _ = _
         simp only [Act.put, List.setIfInBounds_toArray, List.set_cons_zero, List.set_cons_succ, i64_w, i32_w]
         rfl
        refine pure_ (i := 12) (N := some 23) (v := ?_) (a' := ?_) mk13 rfl rfl (any_of HT_.out (by kernel_rfl)) (fun _ _ _ h => h) (Or.inl ⟨by rfl, ?_⟩) ?_ ?_
        rotate_left
        ·intro w'
         go_simp
         with_reducible rfl
        rotate_left
        ·simp only [Act.put, List.setIfInBounds_toArray, List.set_cons_zero, List.set_cons_succ, i64_w, i32_w]
         rfl
        refine pure_ (i := 13) (N := some 24) (v := ?_) (a' := ?_) mk14 rfl rfl (any_of HT_.out (by kernel_rfl)) (fun _ _ _ h => h) (Or.inl ⟨by rfl, ?_⟩) ?_ ?_
        rotate_left
        ·intro w'
         go_simp
         with_reducible rfl
        rotate_left
        ·simp only [Act.put, List.setIfInBounds_toArray, List.set_cons_zero, List.set_cons_succ, i64_w, i32_w]
         rfl
        refine pure_ (i := 14) (N := some 25) (v := ?_) (a' := ?_) mk15 rfl rfl (any_of HT_.out (by kernel_rfl)) (fun _ _ _ h => h) (Or.inl ⟨by rfl, ?_⟩) ?_ ?_
        rotate_left
        ·intro w'
         go_simp
         with_reducible rfl
        rotate_left
        ·simp only [Act.put, List.setIfInBounds_toArray, List.set_cons_zero, List.set_cons_succ, i64_w, i32_w]
         rfl
        refine pure_ (i := 15) (N := some 26) (v := undef) (a' := ?_) mk16 rfl rfl (any_of HT_.out (by kernel_rfl)) (fun _ _ _ h => h) (Or.inr ⟨by rfl, rfl⟩) ?_ ?_
        rotate_left
        ·simp only [Act.put, List.setIfInBounds_toArray, List.set_cons_zero, List.set_cons_succ, i64_w, i32_w]
         rfl
        refine pure_ (i := 16) (N := some 27) (v := undef) (a' := ?_) mk17 rfl rfl (any_of HT_.out (by kernel_rfl)) (fun _ _ _ h => h) (Or.inr ⟨by rfl, rfl⟩) ?_ ?_
        rotate_left
        ·simp only [Act.put, List.setIfInBounds_toArray, List.set_cons_zero, List.set_cons_succ, i64_w, i32_w]
         rfl
        refine pure_ (i := 17) (N := some 28) (v := undef) (a' := ?_) mk18 rfl rfl (any_of HT_.out (by kernel_rfl)) (fun _ _ _ h => h) (Or.inr ⟨by rfl, rfl⟩) ?_ ?_
        rotate_left
        ·simp only [Act.put, List.setIfInBounds_toArray, List.set_cons_zero, List.set_cons_succ, i64_w, i32_w]
         rfl
        refine pure_ (i := 18) (N := some 29) (v := undef) (a' := ?_) mk19 rfl rfl (any_of HT_.out (by kernel_rfl)) (fun _ _ _ h => h) (Or.inr ⟨by rfl, rfl⟩) ?_ ?_
        rotate_left
        ·simp only [Act.put, List.setIfInBounds_toArray, List.set_cons_zero, List.set_cons_succ, i64_w, i32_w]
         rfl
        refine pure_ (i := 19) (N := some 30) (v := undef) (a' := ?_) mk20 rfl rfl (any_of HT_.out (by kernel_rfl)) (fun _ _ _ h => h) (Or.inr ⟨by rfl, rfl⟩) ?_ ?_
        rotate_left
        ·simp only [Act.put, List.setIfInBounds_toArray, List.set_cons_zero, List.set_cons_succ, i64_w, i32_w]
         rfl
        refine pure_ (i := 20) (N := some 31) (v := undef) (a' := ?_) mk21 rfl rfl (any_of HT_.out (by kernel_rfl)) (fun _ _ _ h => h) (Or.inr ⟨by rfl, rfl⟩) ?_ ?_
        rotate_left
        ·simp only [Act.put, List.setIfInBounds_toArray, List.set_cons_zero, List.set_cons_succ, i64_w, i32_w]
         rfl
        refine pure_ (i := 21) (N := some 32) (v := undef) (a' := ?_) mk22 rfl rfl (any_of HT_.out (by kernel_rfl)) (fun _ _ _ h => h) (Or.inr ⟨by rfl, rfl⟩) ?_ ?_
        rotate_left
        ·simp only [Act.put, List.setIfInBounds_toArray, List.set_cons_zero, List.set_cons_succ, i64_w, i32_w]
         rfl
        refine pure_ (i := 22) (N := some 33) (v := undef) (a' := ?_) mk23 rfl rfl (any_of HT_.out (by kernel_rfl)) (fun _ _ _ h => h) (Or.inr ⟨by rfl, rfl⟩) ?_ ?_
        rotate_left
        ·simp only [Act.put, List.setIfInBounds_toArray, List.set_cons_zero, List.set_cons_succ, i64_w, i32_w]
         rfl
        refine pure_ (i := 23) (N := some 34) (v := undef) (a' := ?_) mk24 rfl rfl (any_of HT_.out (by kernel_rfl)) (fun _ _ _ h => h) (Or.inr ⟨by rfl, rfl⟩) ?_ ?_
        rotate_left
        ·simp only [Act.put, List.setIfInBounds_toArray, List.set_cons_zero, List.set_cons_succ, i64_w, i32_w]
         rfl
        refine pure_ (i := 24) (N := some 35) (v := undef) (a' := ?_) mk25 rfl rfl (any_of HT_.out (by kernel_rfl)) (fun _ _ _ h => h) (Or.inr ⟨by rfl, rfl⟩) ?_ ?_
        rotate_left
        ·simp only [Act.put, List.setIfInBounds_toArray, List.set_cons_zero, List.set_cons_succ, i64_w, i32_w]
         rfl
        refine pure_ (i := 25) (N := some 36) (v := undef) (a' := ?_) mk26 rfl rfl (any_of HT_.out (by kernel_rfl)) (fun _ _ _ h => h) (Or.inr ⟨by rfl, rfl⟩) ?_ ?_
        rotate_left
        ·simp only [Act.put, List.setIfInBounds_toArray, List.set_cons_zero, List.set_cons_succ, i64_w, i32_w]
         rfl
        refine pure_ (i := 26) (N := some 37) (v := undef) (a' := ?_) mk27 rfl rfl (any_of HT_.out (by kernel_rfl)) (fun _ _ _ h => h) (Or.inr ⟨by rfl, rfl⟩) ?_ ?_
        rotate_left
        ·simp only [Act.put, List.setIfInBounds_toArray, List.set_cons_zero, List.set_cons_succ, i64_w, i32_w]
         rfl
        refine pure_ (i := 27) (N := some 38) (v := undef) (a' := ?_) mk28 rfl rfl (any_of HT_.out (by kernel_rfl)) (fun _ _ _ h => h) (Or.inr ⟨by rfl, rfl⟩) ?_ ?_
        rotate_left
        ·simp only [Act.put, List.setIfInBounds_toArray, List.set_cons_zero, List.set_cons_succ, i64_w, i32_w]
         rfl
        refine pure_ (i := 28) (N := some 39) (v := undef) (a' := ?_) mk29 rfl rfl (any_of HT_.out (by kernel_rfl)) (fun _ _ _ h => h) (Or.inr ⟨by rfl, rfl⟩) ?_ ?_
        rotate_left
        ·simp only [Act.put, List.setIfInBounds_toArray, List.set_cons_zero, List.set_cons_succ, i64_w, i32_w]
         rfl
        refine pure_ (i := 29) (N := some 40) (v := undef) (a' := ?_) mk30 rfl rfl (any_of HT_.out (by kernel_rfl)) (fun _ _ _ h => h) (Or.inr ⟨by rfl, rfl⟩) ?_ ?_
        rotate_left
        ·simp only [Act.put, List.setIfInBounds_toArray, List.set_cons_zero, List.set_cons_succ, i64_w, i32_w]
         rfl
        refine pure_ (i := 30) (N := some 41) (v := undef) (a' := ?_) mk31 rfl rfl (any_of HT_.out (by kernel_rfl)) (fun _ _ _ h => h) (Or.inr ⟨by rfl, rfl⟩) ?_ ?_
        rotate_left
        ·simp only [Act.put, List.setIfInBounds_toArray, List.set_cons_zero, List.set_cons_succ, i64_w, i32_w]
         rfl
        refine pure_ (i := 31) (N := some 42) (v := undef) (a' := ?_) mk32 rfl rfl (any_of HT_.out (by kernel_rfl)) (fun _ _ _ h => h) (Or.inr ⟨by rfl, rfl⟩) ?_ ?_
        rotate_left
        ·simp only [Act.put, List.setIfInBounds_toArray, List.set_cons_zero, List.set_cons_succ, i64_w, i32_w]
         rfl
        refine pure_ (i := 32) (N := some 43) (v := undef) (a' := ?_) mk33 rfl rfl (any_of HT_.out (by kernel_rfl)) (fun _ _ _ h => h) (Or.inr ⟨by rfl, rfl⟩) ?_ ?_
        rotate_left
        ·simp only [Act.put, List.setIfInBounds_toArray, List.set_cons_zero, List.set_cons_succ, i64_w, i32_w]
         rfl
        refine pure_ (i := 33) (N := some 44) (v := undef) (a' := ?_) mk34 rfl rfl (any_of HT_.out (by kernel_rfl)) (fun _ _ _ h => h) (Or.inr ⟨by rfl, rfl⟩) ?_ ?_
        rotate_left
        ·simp only [Act.put, List.setIfInBounds_toArray, List.set_cons_zero, List.set_cons_succ, i64_w, i32_w]
         rfl
        refine pure_ (i := 34) (N := some 45) (v := undef) (a' := ?_) mk35 rfl rfl (any_of HT_.out (by kernel_rfl)) (fun _ _ _ h => h) (Or.inr ⟨by rfl, rfl⟩) ?_ ?_
        rotate_left
        ·simp only [Act.put, List.setIfInBounds_toArray, List.set_cons_zero, List.set_cons_succ, i64_w, i32_w]
         rfl
        refine pure_ (i := 35) (N := some 46) (v := undef) (a' := ?_) mk36 rfl rfl (any_of HT_.out (by kernel_rfl)) (fun _ _ _ h => h) (Or.inr ⟨by rfl, rfl⟩) ?_ ?_
        rotate_left
        ·simp only [Act.put, List.setIfInBounds_toArray, List.set_cons_zero, List.set_cons_succ, i64_w, i32_w]
         rfl
        refine pure_ (i := 36) (N := some 47) (v := undef) (a' := ?_) mk37 rfl rfl (any_of HT_.out (by kernel_rfl)) (fun _ _ _ h => h) (Or.inr ⟨by rfl, rfl⟩) ?_ ?_
        rotate_left
        ·simp only [Act.put, List.setIfInBounds_toArray, List.set_cons_zero, List.set_cons_succ, i64_w, i32_w]
         rfl
        refine pure_ (i := 37) (N := some 48) (v := undef) (a' := ?_) mk38 rfl rfl (any_of HT_.out (by kernel_rfl)) (fun _ _ _ h => h) (Or.inr ⟨by rfl, rfl⟩) ?_ ?_
        rotate_left
        ·simp only [Act.put, List.setIfInBounds_toArray, List.set_cons_zero, List.set_cons_succ, i64_w, i32_w]
         rfl
        refine pure_ (i := 38) (N := some 49) (v := undef) (a' := ?_) mk39 rfl rfl (any_of HT_.out (by kernel_rfl)) (fun _ _ _ h => h) (Or.inr ⟨by rfl, rfl⟩) ?_ ?_
        rotate_left
        ·simp only [Act.put, List.setIfInBounds_toArray, List.set_cons_zero, List.set_cons_succ, i64_w, i32_w]
         rfl
        refine pure_ (i := 39) (N := some 50) (v := undef) (a' := ?_) mk40 rfl rfl (any_of HT_.out (by kernel_rfl)) (fun _ _ _ h => h) (Or.inr ⟨by rfl, rfl⟩) ?_ ?_
        rotate_left
        ·simp only [Act.put, List.setIfInBounds_toArray, List.set_cons_zero, List.set_cons_succ, i64_w, i32_w]
         rfl
        refine pure_ (i := 40) (N := some 51) (v := undef) (a' := ?_) mk41 rfl rfl (any_of HT_.out (by kernel_rfl)) (fun _ _ _ h => h) (Or.inr ⟨by rfl, rfl⟩) ?_ ?_
        rotate_left
        ·simp only [Act.put, List.setIfInBounds_toArray, List.set_cons_zero, List.set_cons_succ, i64_w, i32_w]
         rfl
        refine pure_ (i := 41) (N := some 52) (v := undef) (a' := ?_) mk42 rfl rfl (any_of HT_.out (by kernel_rfl)) (fun _ _ _ h => h) (Or.inr ⟨by rfl, rfl⟩) ?_ ?_
        rotate_left
        ·simp only [Act.put, List.setIfInBounds_toArray, List.set_cons_zero, List.set_cons_succ, i64_w, i32_w]
         rfl
        refine pure_ (i := 42) (N := some 53) (v := undef) (a' := ?_) mk43 rfl rfl (any_of HT_.out (by kernel_rfl)) (fun _ _ _ h => h) (Or.inr ⟨by rfl, rfl⟩) ?_ ?_
        rotate_left
        ·simp only [Act.put, List.setIfInBounds_toArray, List.set_cons_zero, List.set_cons_succ, i64_w, i32_w]
         rfl
        refine pure_ (i := 43) (N := some 54) (v := undef) (a' := ?_) mk44 rfl rfl (any_of HT_.out (by kernel_rfl)) (fun _ _ _ h => h) (Or.inr ⟨by rfl, rfl⟩) ?_ ?_
        rotate_left
        ·simp only [Act.put, List.setIfInBounds_toArray, List.set_cons_zero, List.set_cons_succ, i64_w, i32_w]
         rfl
        refine pure_ (i := 44) (N := some 55) (v := ?_) (a' := ?_) mk45 rfl rfl (any_of HT_.out (by kernel_rfl)) (fun _ _ _ h => h) (Or.inl ⟨by rfl, ?_⟩) ?_ ?_
        rotate_left
        ·intro w'
         go_simp
         with_reducible rfl
        rotate_left
        ·simp only [Act.put, List.setIfInBounds_toArray, List.set_cons_zero, List.set_cons_succ, i64_w, i32_w]
         rfl
        refine done_ (done_of HT_.out (by kernel_rfl)) ?_
        try go_wp2
        go_ret
        exact ⟨by first | rfl | (simp [errW_none, errW_some] <;> rfl) | (simp [*, errW_none, errW_some] <;> rfl), by repeat (first | (with_reducible first | exact HB.out | apply below_alloc | apply pw_below_drewN | apply below_drew1) | exact HB.out)⟩
     ·rw [if_neg c5] at H
      exact absurd H (by simp)
    ·rw [if_neg c4] at H
     exact absurd H (by simp)
   ·rw [if_neg c3] at H
    have c3b0 : decide (x8_1 < (l0.length : Int)) = false := decide_eq_false c3
    clear c3
    obtain rfl := Option.some.inj H
    go_wp2
    go_ret
    exact ⟨by first | rfl | (simp [errW_none, errW_some] <;> rfl) | (simp [*, errW_none, errW_some] <;> rfl), by repeat (first | (with_reducible first | exact HB.out | apply below_alloc | apply pw_below_drewN | apply below_drew1) | exact HB.out)⟩

end Go.Proofs.Ytaejkbjepbifcaa.PB
namespace Go.Proofs.Ytaejkbjepbifcaa.Da
open Go.RowKit Go.Proofs.YtaejkbjepbifcaaW.PrintWords Go.Proofs.Ytaejkbjepbifcaa.Plain
set_option linter.unusedVariables false
set_option linter.unusedSimpArgs false
theorem ord_key (l : List ByteArray) (st : Bool) (hl : Fits l) : ∀ d i, i + d = l.length → ∃ r, Ev (fun k => PB.laws_ordered.l0 k l st (l.length : Int) (i : Int)) r ∧
    (r = true → 0 < l.length ∧ ∀ j, i ≤ j → j < l.length → Cln (l.getD j ByteArray.empty) ∧ (l.getD j ByteArray.empty).toList ≠ [] ∧ (1 ≤ j → Op.bytesLess (l.getD j ByteArray.empty).toList (l.getD (j - 1) ByteArray.empty).toList = false ∧ (st = true → (l.getD j ByteArray.empty).toList ≠ (l.getD (j - 1) ByteArray.empty).toList)))
  | 0, i, h => ⟨_, Ev.step (fun k => by rw [PB.laws_ordered.l0]) (evn (by omega) (Ev.now _)), fun h => ⟨by have := of_decide_eq_true h; omega, fun j h1 h2 => by omega⟩⟩
  | d + 1, i, h => by
    have hl1 := hl.1
    obtain ⟨r, hr, hp⟩ := ord_key l st hl d (i + 1) (by omega)
    have hil : i < l.length := by omega
    have hm := hl.2 _ (getD_mem ByteArray.empty hil)
    obtain ⟨x, hx⟩ : ∃ x, l.getD i ByteArray.empty = x := ⟨_, rfl⟩
    rw [hx] at hm
    have ex : rdOf ByteArray.empty l (i : Int) = x := by rw [rdOf_nat, hx]
    by_cases h0 : x.toList = []
    · exact ⟨false, Ev.step (fun k => by rw [PB.laws_ordered.l0]) (evp (by omega) (evp (by omega) (evp (by omega) (evp (by rw [ex]; exact h0) (Ev.now false))))), fun h => by cases h⟩
    · obtain ⟨rc, hc, hcp⟩ := clean_ev [x] ⟨by simp, by intro t ht; rw [List.mem_singleton.1 ht]; exact hm⟩
      cases rc with
      | false => exact ⟨false, Ev.step (fun k => by rw [PB.laws_ordered.l0]) (evp (by omega) (evp (by omega) (evp (by omega) (evn (by rw [ex]; exact h0) (by rw [ex]; exact Ev.bind hc (evn (by simp) (Ev.now false))))))), fun h => by cases h⟩
      | true =>
        have hxc := hcp rfl x List.mem_cons_self
        have go : ∀ {q : Nat → Option Bool} {s : Bool}, Ev q s → (∀ k, q k = (if (i : Int) > 0 then (if 0 ≤ (wrap64 ((i : Int) - 1)) then (if (wrap64 ((i : Int) - 1)) < (l.length : Int) then (if (Op.bytesLess (x.toList) ((rdOf ByteArray.empty l (wrap64 ((i : Int) - 1))).toList)) = true then (some false) else (if st = true then (if x.toList = (rdOf ByteArray.empty l (wrap64 ((i : Int) - 1))).toList then (some false) else (PB.laws_ordered.l0 k l st (l.length : Int) (wrap64 ((i : Int) + 1)))) else (PB.laws_ordered.l0 k l st (l.length : Int) (wrap64 ((i : Int) + 1))))) else (none)) else (none)) else (PB.laws_ordered.l0 k l st (l.length : Int) (wrap64 ((i : Int) + 1))))) → Ev (fun k => PB.laws_ordered.l0 k l st (l.length : Int) (i : Int)) s := fun hq hqe =>
          Ev.step (fun k => by rw [PB.laws_ordered.l0]) (evp (by omega) (evp (by omega) (evp (by omega) (evn (by rw [ex]; exact h0) (by rw [ex]; exact Ev.bind hc (evp rfl (Ev.congr (fun k => (hqe k).symm) hq)))))))
        by_cases hi0 : i = 0
        · subst hi0
          refine ⟨r, go (evn (by omega) (by rw [wrap_up 0 (by omega)]; exact hr)) (fun k => rfl), fun h => ⟨(hp h).1, fun j g1 g2 => ?_⟩⟩
          by_cases e : j = 0
          · subst e; rw [hx]; exact ⟨hxc, h0, fun h => by omega⟩
          · exact (hp h).2 j (by omega) g2
        · have ew := wrap_dn i (by omega) (by omega)
          obtain ⟨y, hy⟩ : ∃ y, l.getD (i - 1) ByteArray.empty = y := ⟨_, rfl⟩
          have ey : rdOf ByteArray.empty l (wrap64 ((i : Int) - 1)) = y := by rw [ew, rdOf_nat, hy]
          have fin : ∀ s : Bool, (s = true → r = true) → (s = true → Op.bytesLess x.toList y.toList = false ∧ (st = true → x.toList ≠ y.toList)) → (s = true → 0 < l.length ∧ ∀ j, i ≤ j → j < l.length → Cln (l.getD j ByteArray.empty) ∧ (l.getD j ByteArray.empty).toList ≠ [] ∧ (1 ≤ j → Op.bytesLess (l.getD j ByteArray.empty).toList (l.getD (j - 1) ByteArray.empty).toList = false ∧ (st = true → (l.getD j ByteArray.empty).toList ≠ (l.getD (j - 1) ByteArray.empty).toList))) := by
            intro s hs1 hs2 hs
            have hrp := hp (hs1 hs)
            refine ⟨hrp.1, fun j g1 g2 => ?_⟩
            by_cases e : j = i
            · subst e; rw [hx, hy]; exact ⟨hxc, h0, fun _ => hs2 hs⟩
            · exact hrp.2 j (by omega) g2
          by_cases hb : Op.bytesLess x.toList y.toList = true
          · exact ⟨false, go (evp (by omega) (evp (by rw [ew]; omega) (evp (by rw [ew]; omega) (evp (by rw [ey]; exact hb) (Ev.now false))))) (fun k => rfl), fun h => by cases h⟩
          · have hbf : Op.bytesLess x.toList y.toList = false := by simpa using hb
            by_cases hst : st = true
            · by_cases hxy : x.toList = y.toList
              · exact ⟨false, go (evp (by omega) (evp (by rw [ew]; omega) (evp (by rw [ew]; omega) (evn (by rw [ey]; exact hb) (evp hst (evp (by rw [ey]; exact hxy) (Ev.now false))))))) (fun k => rfl), fun h => by cases h⟩
              · exact ⟨r, go (evp (by omega) (evp (by rw [ew]; omega) (evp (by rw [ew]; omega) (evn (by rw [ey]; exact hb) (evp hst (evn (by rw [ey]; exact hxy) (by rw [wrap_up i (by omega)]; exact hr))))))) (fun k => rfl), fin r id (fun _ => ⟨hbf, fun _ => hxy⟩)⟩
            · exact ⟨r, go (evp (by omega) (evp (by rw [ew]; omega) (evp (by rw [ew]; omega) (evn (by rw [ey]; exact hb) (evn hst (by rw [wrap_up i (by omega)]; exact hr)))))) (fun k => rfl), fin r id (fun _ => ⟨hbf, fun h => absurd h hst⟩)⟩
theorem ord_ev (l : List ByteArray) (st : Bool) (hl : Fits l) : Tru (fun k => PB.laws_ordered.f k l st) (Ord l st) := by
  obtain ⟨r, hr, hp⟩ := ord_key l st hl l.length 0 (by omega)
  refine ⟨r, hr, fun e => ?_⟩
  obtain ⟨h0, h⟩ := hp e
  exact ⟨all_getD _ (fun j hj => (h j (Nat.zero_le _) hj).1), all_getD (P := fun t => t.toList ≠ []) _ (fun j hj => (h j (Nat.zero_le _) hj).2.1), fun i hi => by have := ((h (i + 1) (Nat.zero_le _) hi).2.2 (by omega)).1; rw [Nat.add_sub_cancel] at this; exact this, fun hs i hi => by have := ((h (i + 1) (Nat.zero_le _) hi).2.2 (by omega)).2 hs; rw [Nat.add_sub_cancel] at this; exact this, List.length_pos_iff.1 h0⟩
end Go.Proofs.Ytaejkbjepbifcaa.Da
