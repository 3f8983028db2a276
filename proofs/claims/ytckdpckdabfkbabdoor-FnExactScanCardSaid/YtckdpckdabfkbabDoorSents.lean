/- impl.Sentences. -/
import Derived.Test.YtckdpckdabfkbabDoorScan2
import Derived.Test.YtckdpckdabfkbabDoorScanP
import Derived.Lib.ConvBytes
import Derived.Laws.Cover3
namespace Go.Proofs.YtckdpckdabfkbabDoor.Scan
open Go.RowKit Go.Proofs.YtckdpckdabfkbabDoorW.PrintWords Go.Proofs.YtckdpckdabfkbabDoor.Plain Go.Proofs.YtckdpckdabfkbabDoor.Num Go.Proofs.YtckdpckdabfkbabDoor.PC
set_option linter.unusedVariables false
set_option linter.unusedSimpArgs false
/-- A row of the call's own, whatever becomes of an older block. -/
theorem row_stays {d : Kd Int} {e base b : Nat} {ok : Nat → Prop} {w W : World} {v : Value} {xs : List Int} (h : d.R e w base ok v xs) (hb : b < base) (k : Kp w W (fun x => x = b)) : d.R e W base (fun _ => True) v xs :=
  Kd.R_mono (Kd.R_move (Kd.R_bound h) (fun j hj => k.old j hj.2.2.1 (by have := hj.2.1; omega))) (fun _ _ => trivial)
theorem row_form {d : Kd Int} {e base b : Nat} {ok : Nat → Prop} {w : World} {v : Value} {xs : List Int} (h : d.R e w base ok v xs) (hb : b < base) : ∃ A c, v = .slice A xs.length c ∧ xs.length ≤ c ∧ ∀ W, Kp w W (fun x => x = b) → d.C W A xs.length xs := by
  obtain ⟨A, c, rfl, hl, _⟩ := Kd.R_reads h
  refine ⟨A, c, rfl, hl, fun W k => ?_⟩
  exact (Kd.R_reads' (row_stays h hb k)).2.2
theorem clone_f (l : List Int) (h : l.length ≤ 2147483647) : slices_Clone_rune_rune.f l = some l := by
  simp only [slices_Clone_rune_rune.f, Option.bind_some, List.length_nil, List.nil_append]
  rw [if_pos (by omega)]
theorem split_f (l m : List Int) (x y : Bool) (z : Int) (h : l.length ≤ 2147483647) (h2 : m.length ≤ 2147483647) : impl_splitterOf.f l m x y z = some (l, m, x, y, z) := by
  simp only [impl_splitterOf.f, clone_f l h, clone_f m h2, Option.bind_some]
theorem tokv_is {R : Res} (h : R.tok = true) (b off c : Nat) : ∃ x, tokv R b off c = .slice (some ⟨b, x, none⟩) R.out.length (c - R.start) ∧ (R.start < c → x = off + R.start) := by
  refine ⟨off + (if R.start < c then R.start else 0), by unfold tokv; rw [h], fun h2 => by rw [if_pos h2]⟩
theorem Res.cells {w W : World} {b off x n c : Nat} {D : ByteArray} {R : Res} (h : SI w W b off n (R.mem D)) (ht : R.tok = true) (ho : R.start + R.out.length ≤ n) (hc : n ≤ c) (hx : R.start < c → x = off + R.start) (i : Nat) (hi : i < R.out.length) : W.cell? ⟨b, x + i, none⟩ = some (.int .u8 (R.out.getD i 0)) := by
  have h1 := h.cell (R.start + i) (by omega)
  rw [hx (by omega), Nat.add_assoc, h1]
  simp only [Res.mem, ht, Bool.true_eq_false, false_and, if_false, Scan.mem]
  rw [if_pos (by omega), Nat.add_sub_cancel_left]
/-- What of a row is not moved. -/
theorem Res.left {w W : World} {b off n : Nat} {D : ByteArray} {R : Res} (h : SI w W b off n (R.mem D)) (hn : n = D.size) (ht : R.tok = true) (ho : R.start + R.out.length ≤ R.adv) : Row W b (off + R.adv) (rest D R.adv).size (by' (rest D R.adv)) := by
  obtain ⟨cs, t, h1, h2⟩ := h.row
  refine ⟨cs, t, h1, fun j hj => ?_⟩
  rw [rest_size] at hj
  rw [Nat.add_assoc, h2 (R.adv + j) (by omega), by_rest]
  simp only [Res.mem, ht, Bool.true_eq_false, false_and, if_false]
  rw [mem_far _ _ _ _ (by omega)]
theorem Row.none {W : World} {b off off' n : Nat} {f g : Nat → Int} (h : Row W b off n f) : Row W b off' 0 g := by
  obtain ⟨cs, t, h1, _⟩ := h
  exact ⟨cs, t, h1, fun j hj => absurd hj (Nat.not_lt_zero _)⟩
theorem Row.step {W W' : World} {b off n : Nat} {f : Nat → Int} (h : Row W b off n f) (hb : Below W.heap.size W W') : Row W' b off n f := by
  obtain ⟨cs, t, ⟨z, h1, hz⟩, h2⟩ := h
  have hl := (Array.getElem?_eq_some_iff.1 h1).1
  exact ⟨cs, t, ⟨z, (hb.block b hl).trans h1, hz⟩, h2⟩
theorem Row.lt {W : World} {b off n : Nat} {f : Nat → Int} (h : Row W b off n f) : b < W.heap.size := by
  obtain ⟨cs, t, h1, _⟩ := h; exact h1.lt
theorem Row.fresh {W : World} (D : ByteArray) : Row (Lib.bytesWorld W 5 D) W.heap.size 0 D.size (by' D) := by
  refine ⟨_, _, ⟨_, Lib.bytesWorld_at_new W 5 D, Or.inr (Nat.le_refl _)⟩, fun j hj => ?_⟩
  have hz : D.size = D.data.size := rfl
  simp only [Lib.bytesCells, Nat.zero_add]
  rw [Array.getElem?_append_left (by rw [Array.size_map]; omega), Array.getElem?_map, Array.getElem?_eq_getElem (by omega)]
  simp only [Option.map_some, by']
  congr 3
  have : D.get! j = D.data[j]! := rfl
  rw [this, getElem!_pos D.data j (by omega)]
theorem below_bytes (W : World) (e : TypeId) (D : ByteArray) : Below W.heap.size W (Lib.bytesWorld W e D) := by
  refine ⟨?_, ?_, ?_, by rw [Lib.bytesWorld_size]; omega, fun i hi => Lib.bytesWorld_at_old W e D i hi⟩ <;>
    (unfold Lib.bytesWorld World.freeze; first | rfl | (simp; rfl) | simp)
theorem kp_below {n b : Nat} {w W W' : World} (h : Below n w W) (k : Kp W W' (fun x => x = b)) (hn : n ≤ b) (hs : n ≤ W.heap.size) : Below n w W' :=
  h.trans ⟨k.env.1, k.env.2.1, k.env.2.2, k.size, fun i hi => k.old i (by omega) (by omega)⟩
theorem base_of {w W1 : World} {b : Nat} {S : Sp} {A0 A1 : Option Addr} {c0 c1 : Nat} (hb : w.heap.size ≤ b) (B : Below w.heap.size w W1) (ht : Lib.Utf8Tabs 1 2 w) (hw : Lib.WhiteTab 0 w)
    (h0 : ∀ W, Kp W1 W (fun x => x = b) → (Kd.int .i32).C W A0 S.del.length S.del) (l0 : S.del.length ≤ c0) (h1 : ∀ W, Kp W1 W (fun x => x = b) → (Kd.int .i32).C W A1 S.fol.length S.fol) (l1 : S.fol.length ≤ c1) : Base W1 b S A0 A1 c0 c1 :=
  ⟨h0, l0, h1, l1, fun W k => Utf8Tabs_below ht (kp_below B k hb B.size), fun W k => WhiteTab_below hw (kp_below B k hb B.size)⟩
theorem outs_step {S : Sp} {k : Nat} {E : ByteArray} {R : Res} (h : 0 < E.size) (hR : scan S E true = R) : outs S (k + 1) E = strOfNums R.out :: outs S k (rest E R.adv) := by
  rw [outs, if_neg (by omega), hR]
theorem outs_end {S : Sp} {k : Nat} {E : ByteArray} (h : ¬ 0 < E.size) : outs S k E = [] := by
  cases k with
  | zero => rfl
  | succ k => rw [outs, if_pos (by omega)]
set_option maxHeartbeats 16000000 in
set_option maxRecDepth 100000 in
theorem sents_calls (w : World) (S : Sp) (Ad Af : Option Addr) (cd cf : Nat) (D : ByteArray) (hd : (Kd.int .i32).C w Ad S.del.length S.del) (hcd : S.del.length ≤ cd) (hf : (Kd.int .i32).C w Af S.fol.length S.fol) (hcf : S.fol.length ≤ cf) (hl1 : S.del.length ≤ 2147483647) (hl2 : S.fol.length ≤ 2147483647)
    (hn : D.size ≤ 1000000000) (ht : Lib.Utf8Tabs 1 2 w) (hw : Lib.WhiteTab 0 w) :
    Calls Tryd.prog 20 #[.agg (sv S Ad Af cd cf), .string D] w fun e w' => ∃ v, e = .returned v ∧ Kd.R Kd.string 9 w' w.heap.size (fun _ => True) v (outs S (D.size + 1) D) ∧ Below w.heap.size w w' := by
  obtain ⟨del, fol, skip, dbl, most⟩ := S
  obtain ⟨w1, hw1⟩ : ∃ w1, w1 = w.alloc (.cells (sv ⟨del, fol, skip, dbl, most⟩ Ad Af cd cf) 38) := ⟨_, rfl⟩
  have hs1 : w1.heap.size = w.heap.size + 1 := by rw [hw1]; exact Own.size_alloc _ _
  have hb1 : Below w.heap.size w w1 := by rw [hw1]; exact below_alloc (Below.refl _ _) _
  have hx1 : w1.heap[w.heap.size]? = some (.cells (sv ⟨del, fol, skip, dbl, most⟩ Ad Af cd cf) 38 (0, 0)) := by rw [hw1]; exact blk_new w _
  have hcv := Lib.run_convert_string_bytes (P := Tryd.prog) w1 9 22 5 D Tryd.underlying9 Tryd.underlying22 Tryd.underlying5
  have hb2 := below_bytes w1 5 D
  have hrow := Row.fresh (W := w1) D
  have hs2 := Lib.bytesWorld_size w1 5 D
  obtain ⟨w2, hw2⟩ : ∃ w2, w2 = Lib.bytesWorld w1 5 D := ⟨_, rfl⟩
  obtain ⟨gc, hgc⟩ : ∃ gc, gc = grownCap w1 D.size 0 5 := ⟨_, rfl⟩
  have hgl : D.size ≤ gc := by rw [hgc]; exact grownCap_ge _ _ _ _
  rw [← hw2] at hcv hb2 hrow hs2
  rw [← hgc] at hcv
  rw [hs1] at hcv hrow
  have HB : Aside0 (Below w.heap.size w w2) := ⟨hb1.trans (hb2.mono hb1.size)⟩
  have HX : Aside0 (w2.heap[w.heap.size]? = some (.cells (sv ⟨del, fol, skip, dbl, most⟩ Ad Af cd cf) 38 (0, 0))) := ⟨(hb2.block _ (by omega)).trans hx1⟩
  have HW : Aside0 (Row w2 (w.heap.size + 1) 0 D.size (by' D)) := ⟨hrow⟩
  have HCD := Aside0.mk hd
  have HCF := Aside0.mk hf
  have HT := Aside0.mk ht
  have HWT := Aside0.mk hw
  clear hd hf ht hw hb1 hb2 hx1 hrow hs2 hw2 hgc
  go_enter Tryd.func20, Tryd.ntmps20
  go_wp2_with fail
  rw [← hw1]
  clear hw1
  rw [hcv]
  clear hcv
  go_wp2_with fail
  go_loopg [5, 6] (D.size + 1) (fun kq v5 v6 w' => ∃ (off c : Nat) (E : ByteArray) (L : List ByteArray) (A : Option Addr) (co : Nat), v5 = .slice (some ⟨w.heap.size + 1, off, none⟩) E.size c ∧ v6 = .slice A L.length co ∧ Aside0 (Kd.R Kd.string 9 w' w.heap.size (fun k => k ≠ w.heap.size ∧ k ≠ w.heap.size + 1) (.slice A L.length co) L) ∧ Aside0 (L ++ outs ⟨del, fol, skip, dbl, most⟩ kq E = outs ⟨del, fol, skip, dbl, most⟩ (D.size + 1) D) ∧ Aside0 (E.size ≤ c ∧ E.size < kq ∧ L.length + E.size ≤ D.size) ∧ Aside0 (Row w' (w.heap.size + 1) off E.size (by' E)) ∧ Aside0 (Below w.heap.size w w') ∧ Aside0 (w'.heap[w.heap.size]? = some (.cells (sv ⟨del, fol, skip, dbl, most⟩ Ad Af cd cf) 38 (0, 0))))
  case atStart => exact ⟨0, gc, D, [], none, 0, rfl, rfl, ⟨Kd.R_nil _ _ _ _ _⟩, ⟨List.nil_append _⟩, ⟨by simp; omega⟩, HW, HB, HX⟩
  case round =>
    clear HW HB HX
    obtain ⟨off, c, E, L, A, co, rfl, rfl, HR, HE, HM, HW, HB, HX⟩ := hrel
    obtain ⟨m1, m2, m3⟩ := HM.out
    by_cases h0 : 0 < E.size
    · have h0b : (0 : Int) < (E.size : Int) := by omega
      cases gk with
      | zero => omega
      | succ k9 =>
      obtain ⟨R, hR⟩ : ∃ R, scan ⟨del, fol, skip, dbl, most⟩ E true = R := ⟨_, rfl⟩
      have hok : ROk E true 0 R := by rw [← hR]; exact scan_ok _ _ _
      have htok := hok.f rfl
      obtain ⟨x, hx, hx2⟩ := tokv_is htok (w.heap.size + 1) off c
      have r1 := hok.l htok h0
      have r2 := hok.a
      have r3 := (hok.t htok).2
      have r4 := hok.o
      have r5 : (0 : Int) ≤ (R.adv : Int) := by omega
      have r6 : (R.adv : Int) ≤ (E.size : Int) := by omega
      have r7 : ¬ (R.adv : Int) ≤ 0 := by omega
      have HE2 := Aside0.mk ((congrArg (L ++ ·) (outs_step (k := k9) h0 hR)).symm.trans HE.out)
      have HRR := Aside0.mk hR
      have HTK := Aside0.mk htok
      have HXX := Aside0.mk hx2
      clear HE hok hR hx2
      have z0 := cells_at HX.out 0 _ rfl; have z1 := cells_at HX.out 1 _ rfl; have z2 := cells_at HX.out 2 _ rfl; have z3 := cells_at HX.out 3 _ rfl; have z4 := cells_at HX.out 4 _ rfl
      have HCall := Aside0.mk (impl_splitterOf.calls Ad cd del Af cf fol skip dbl most _ _ _ _ _ wr (Kd.C_below HCD.out HB.out) hcd (Kd.C_below HCF.out HB.out) hcf (split_f _ _ _ _ _ hl1 hl2))
      go_wp2_with fail
      refine HCall.out.mono ?_
      rintro _ W1 ⟨v0_, v1_, rfl, q0, q1, qb⟩
      have hlt := HW.out.lt
      obtain ⟨A0, c0, rfl, l0, C0⟩ := row_form q0 hlt
      obtain ⟨A1, c1, rfl, l1, C1⟩ := row_form q1 hlt
      have B1 := HB.out.trans (qb.mono HB.out.size)
      have hcn : 0 < c := by omega
      have HScan := Aside0.mk (scan_true W1 ⟨del, fol, skip, dbl, most⟩ A0 A1 c0 c1 (w.heap.size + 1) off c E (base_of (Nat.le_succ _) B1 HT.out HWT.out C0 l0 C1 l1) (HW.out.step qb) m1 (by omega) h0 R HRR.out)
      have HX1 : Aside0 (W1.heap[w.heap.size]? = some (.cells (sv ⟨del, fol, skip, dbl, most⟩ Ad Af cd cf) 38 (0, 0))) := ⟨(qb.block _ (by omega)).trans HX.out⟩
      have HR1 := Aside0.mk (Kd.R_below HR.out qb)
      have HB1 := Aside0.mk B1
      clear q0 q1 qb C0 C1 l0 l1 B1 z0 z1 z2 z3 z4 hlt HCall
      rw [hx] at HScan
      clear hx
      go_wp2_with fail
      refine HScan.out.mono ?_
      rintro _ W2 ⟨rfl, hSI⟩
      have HB2 := Aside0.mk (kp_below HB1.out hSI.kept (Nat.le_succ _) HB1.out.size)
      have HX2 : Aside0 (W2.heap[w.heap.size]? = some (.cells (sv ⟨del, fol, skip, dbl, most⟩ Ad Af cd cf) 38 (0, 0))) := ⟨(hSI.kept.old _ (Array.getElem?_eq_some_iff.1 HX1.out).1 (by omega)).trans HX1.out⟩
      have HR2 := Aside0.mk (Kd.R_step HR1.out (fun k hk hk2 => hSI.kept.old k hk2 hk.2))
      have HW2 := Aside0.mk (Res.left hSI rfl HTK.out r3)
      have hcv := run_convert_bytes_arg (P := Tryd.prog) W2 22 5 Tryd.underlying22 Tryd.underlying5 (w.heap.size + 1) x R.out.length (c - R.start) R.out rfl (Res.cells hSI HTK.out r4 m1 HXX.out) 9 Tryd.underlying9
      clear HScan hSI HR HR1 HB HB1 HX HX1 HW
      obtain ⟨T, hT⟩ : ∃ T, T = strOfNums R.out := ⟨_, rfl⟩
      rw [← hT] at HE2 hcv
      clear hT
      rcases Nat.lt_or_ge R.adv c with hac | hac
      · go_wp2_with (first | ((with_reducible refine gate_builtin (b := .append) (xs := #[.tmp 25, .tmp 28]) rfl ?_); at_builtin; refine Kd.R_append Kd.string (w0 := w) w.heap.size rfl (.tmp 25) (.tmp 28) 43 9 (.string ⟨#[]⟩) 16 rfl Tryd.underlying43 (by kernel_rfl) rfl (by decide) (by omega) (.slice A L.length co) L T [.string T] (fun k => k ≠ w.heap.size ∧ k ≠ w.heap.size + 1) (fun _ => False) rfl ?aX ?aP (fun _ h_ => h_.elim) ?aF ?aO ?aB ?aS ?aL ?aK; (case aX => first | rfl | (go_simp; done) | (go_simp; rfl)); (case aP => exact rfl); (case aF => exact fun k_ hk_ => by have := HW2.out.lt; omega); (case aO => exact HR2.out); (case aB => exact HB2.out); (case aS => exact HB2.out.size); (case aL => omega); intro v1 w3 hR1 hB1 hG1 hA1; obtain ⟨A9, c9, e9⟩ := Kd.R_slice hR1; subst e9; have HR3 := Aside0.mk hR1; have HB3 := Aside0.mk hB1; have HG3 := Aside0.mk hG1; clear hR1 hB1 hG1 hA1))
        have hn1 : w.heap.size + 1 < W2.heap.size := HW2.out.lt
        have HX3 := (HG3.out.block _ (by omega) (fun e_ => (HR2.out.1 _ e_.symm).1 rfl)).trans HX2.out
        have HW3 : Row w3 (w.heap.size + 1) (off + R.adv) (rest E R.adv).size (by' (rest E R.adv)) := by
          obtain ⟨cs, t, ⟨z, g1, gz⟩, g2⟩ := HW2.out
          exact ⟨cs, t, ⟨z, (HG3.out.block _ hn1 (fun e_ => (HR2.out.1 _ e_.symm).2 rfl)).trans g1, gz⟩, g2⟩
        have hrs := rest_size E R.adv
        go_roundg k9
        case measure => omega
        case rel => exact ⟨off + R.adv, c - R.adv, rest E R.adv, L ++ [T], A9, c9, by rw [hrs], by first | rfl | simp, HR3, ⟨by rw [List.append_assoc]; exact HE2.out⟩, ⟨by rw [hrs, List.length_append, List.length_singleton]; omega⟩, ⟨HW3⟩, HB3, ⟨HX3⟩⟩
      · obtain rfl : c = R.adv := by omega
        go_wp2_with (first | ((with_reducible refine gate_builtin (b := .append) (xs := #[.tmp 25, .tmp 28]) rfl ?_); at_builtin; refine Kd.R_append Kd.string (w0 := w) w.heap.size rfl (.tmp 25) (.tmp 28) 43 9 (.string ⟨#[]⟩) 16 rfl Tryd.underlying43 (by kernel_rfl) rfl (by decide) (by omega) (.slice A L.length co) L T [.string T] (fun k => k ≠ w.heap.size ∧ k ≠ w.heap.size + 1) (fun _ => False) rfl ?bX ?bP (fun _ h_ => h_.elim) ?bF ?bO ?bB ?bS ?bL ?bK; (case bX => first | rfl | (go_simp; done) | (go_simp; rfl)); (case bP => exact rfl); (case bF => exact fun k_ hk_ => by have := HW2.out.lt; omega); (case bO => exact HR2.out); (case bB => exact HB2.out); (case bS => exact HB2.out.size); (case bL => omega); intro v1 w3 hR1 hB1 hG1 hA1; obtain ⟨A9, c9, e9⟩ := Kd.R_slice hR1; subst e9; have HR3 := Aside0.mk hR1; have HB3 := Aside0.mk hB1; have HG3 := Aside0.mk hG1; clear hR1 hB1 hG1 hA1))
        have hn1 : w.heap.size + 1 < W2.heap.size := HW2.out.lt
        have HX3 := (HG3.out.block _ (by omega) (fun e_ => (HR2.out.1 _ e_.symm).1 rfl)).trans HX2.out
        have HW3 : Row w3 (w.heap.size + 1) (off + R.adv) (rest E R.adv).size (by' (rest E R.adv)) := by
          obtain ⟨cs, t, ⟨z, g1, gz⟩, g2⟩ := HW2.out
          exact ⟨cs, t, ⟨z, (HG3.out.block _ hn1 (fun e_ => (HR2.out.1 _ e_.symm).2 rfl)).trans g1, gz⟩, g2⟩
        have hrs := rest_size E R.adv
        have e0 : (rest E R.adv).size = 0 := by omega
        have HW4 : Row w3 (w.heap.size + 1) off (rest E R.adv).size (by' (rest E R.adv)) := by rw [e0]; exact HW3.none
        go_roundg k9
        case measure => omega
        case rel => exact ⟨off, 0, rest E R.adv, L ++ [T], A9, c9, by rw [e0], by first | rfl | simp, HR3, ⟨by rw [List.append_assoc]; exact HE2.out⟩, ⟨by rw [hrs, List.length_append, List.length_singleton]; omega⟩, ⟨HW4⟩, HB3, ⟨HX3⟩⟩
    · have h0b : ¬ (0 : Int) < (E.size : Int) := by omega
      go_wp2_with fail
      go_ret
      have hE := HE.out
      rw [outs_end h0, List.append_nil] at hE
      exact ⟨_, rfl, by rw [← hE]; exact Kd.R_mono HR.out (fun _ _ => trivial), HB.out⟩
end Go.Proofs.YtckdpckdabfkbabDoor.Scan
