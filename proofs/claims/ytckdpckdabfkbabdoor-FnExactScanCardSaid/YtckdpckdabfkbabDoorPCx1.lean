-- Written by a program of ours out of the kit's print program.
import Derived.Test.YtckdpckdabfkbabDoorPCx0
namespace Go.Proofs.YtckdpckdabfkbabDoor.PC
open Go.RowKit Go.Proofs.YtckdpckdabfkbabDoorW.PrintWords Go.Proofs.YtckdpckdabfkbabDoorW.PrintLast Go.Proofs.YtckdpckdabfkbabDoorW.PrintMore
attribute [local go_sem] max2_int min2_int max_two min_two max_three min_three max_four min_four   -- for this text's walks alone
set_option linter.unusedVariables false
set_option linter.unusedSimpArgs false

/-! ### laws_zzFits18: function 14 -/
def laws_zzFits18.f (l0_0 : List Int) (l0_1 : List Int) (a0_2 : Bool) (a0_3 : Bool) (a0_4 : Int) : Option (Bool) := if (l0_0.length : Int) > 2147483647 then (some false) else (if (l0_1.length : Int) > 2147483647 then (some false) else (some true))
set_option maxHeartbeats 8000000 in
set_option maxRecDepth 100000 in
theorem laws_zzFits18.calls (A0_0 : Option Addr) (c0_0 : Nat) (l0_0 : List Int) (A0_1 : Option Addr) (c0_1 : Nat) (l0_1 : List Int) (a0_2 : Bool) (a0_3 : Bool) (a0_4 : Int) (r : Bool) (w : World) (hr0_0 : Kd.C (Kd.int .i32) w A0_0 l0_0.length l0_0) (hc0_0 : l0_0.length ≤ c0_0) (hr0_1 : Kd.C (Kd.int .i32) w A0_1 l0_1.length l0_1) (hc0_1 : l0_1.length ≤ c0_1) (h : laws_zzFits18.f l0_0 l0_1 a0_2 a0_3 a0_4 = some r) :
    Calls Tryd.prog 14 #[.agg #[.slice A0_0 l0_0.length c0_0, .slice A0_1 l0_1.length c0_1, .bool a0_2, .bool a0_3, .int .i64 a0_4]] w fun e w' => e = .returned (.bool r) ∧ Below w.heap.size w w' := by
  have hu38 := Tryd.underlying38
  have HR0_0 := Aside0.mk hr0_0
  have HC0_0 := Aside0.mk hc0_0
  clear hr0_0 hc0_0
  have HR0_1 := Aside0.mk hr0_1
  have HC0_1 := Aside0.mk hc0_1
  clear hr0_1 hc0_1
  have HB := Aside0.mk (Below.refl w.heap.size w)
  have H : (if (l0_0.length : Int) > 2147483647 then (some false) else (if (l0_1.length : Int) > 2147483647 then (some false) else (some true))) = some r := h
  clear h
  by_cases c2 : (l0_0.length : Int) > 2147483647
  · rw [if_pos c2] at H
    have c2b0 : decide (2147483647 < (l0_0.length : Int)) = true := decide_eq_true c2
    have c2b1 : decide (2147483647 < l0_0.length) = true := decide_eq_true (by omega)
    clear c2
    obtain rfl := Option.some.inj H
    go_enter Tryd.func14, Tryd.ntmps14
    go_wp2_with (first | ((with_reducible refine gate_dst (N := 1) rfl ?_); refine box_event ?hg (N := 1) ?hd (cs := #[.slice A0_0 l0_0.length c0_0, .slice A0_1 l0_1.length c0_1, .bool a0_2, .bool a0_3, .int .i64 a0_4]) (t := 38) ?hr ?_; (case hd => rfl); (case hg => rfl); (case hr => first | (go_simp; done) | (go_simp; rfl)); intro gb101 hg w3 hbox hb; have n0_ := Aside0.mk (below_step (by repeat (first | (with_reducible first | exact HB.out | apply below_alloc | apply pw_below_drewN | apply below_drew1) | exact HB.out)) hb); have n1_ := Aside0.mk (hbox); have n2_ := Aside0.mk ((by rw [hg]; exact (below_size (by repeat (first | (with_reducible first | exact HB.out | apply below_alloc | apply pw_below_drewN | apply below_drew1) | exact HB.out))) : w.heap.size ≤ gb101)); have n3_ := Aside0.mk ((by rw [hg]; exact (below_size (by repeat (first | (with_reducible first | exact HB.out | apply below_alloc | apply pw_below_drewN | apply below_drew1) | exact HB.out))) : w.heap.size ≤ gb101)); clear HB; have HB := n0_; have BK101 := n1_; have GW101 := n2_; have GE101 := n3_; clear n0_ n1_ n2_ n3_; clear hb hbox hg; have hcz4_0 : w3.cell? ⟨gb101, 0, none⟩ = some (.slice A0_0 l0_0.length c0_0) := (blk_cell BK101.out 0).trans rfl; have hcz4_1 : w3.cell? ⟨gb101, 1, none⟩ = some (.slice A0_1 l0_1.length c0_1) := (blk_cell BK101.out 1).trans rfl; have hcz4_2 : w3.cell? ⟨gb101, 2, none⟩ = some (.bool a0_2) := (blk_cell BK101.out 2).trans rfl; have hcz4_3 : w3.cell? ⟨gb101, 3, none⟩ = some (.bool a0_3) := (blk_cell BK101.out 3).trans rfl; have hcz4_4 : w3.cell? ⟨gb101, 4, none⟩ = some (.int .i64 a0_4) := (blk_cell BK101.out 4).trans rfl; have hfz4_0 := blk_frozen BK101.out 0; have hfz4_1 := blk_frozen BK101.out 1; have hfz4_2 := blk_frozen BK101.out 2; have hfz4_3 := blk_frozen BK101.out 3; have hfz4_4 := blk_frozen BK101.out 4))
    go_ret
    exact ⟨by first | rfl | (simp [errW_none, errW_some] <;> rfl) | (simp [*, errW_none, errW_some] <;> rfl), by repeat (first | (with_reducible first | exact HB.out | apply below_alloc | apply pw_below_drewN | apply below_drew1 | refine below_set ?_ GE101.out) | exact HB.out)⟩
  · rw [if_neg c2] at H
    have c2b0 : decide (2147483647 < (l0_0.length : Int)) = false := decide_eq_false c2
    have c2b1 : decide (2147483647 < l0_0.length) = false := decide_eq_false (by omega)
    clear c2
    by_cases c5 : (l0_1.length : Int) > 2147483647
    · rw [if_pos c5] at H
      have c5b0 : decide (2147483647 < (l0_1.length : Int)) = true := decide_eq_true c5
      have c5b1 : decide (2147483647 < l0_1.length) = true := decide_eq_true (by omega)
      clear c5
      obtain rfl := Option.some.inj H
      go_enter Tryd.func14, Tryd.ntmps14
      go_wp2_with (first | ((with_reducible refine gate_dst (N := 1) rfl ?_); refine box_event ?hg (N := 1) ?hd (cs := #[.slice A0_0 l0_0.length c0_0, .slice A0_1 l0_1.length c0_1, .bool a0_2, .bool a0_3, .int .i64 a0_4]) (t := 38) ?hr ?_; (case hd => rfl); (case hg => rfl); (case hr => first | (go_simp; done) | (go_simp; rfl)); intro gb101 hg w6 hbox hb; have n0_ := Aside0.mk (below_step (by repeat (first | (with_reducible first | exact HB.out | apply below_alloc | apply pw_below_drewN | apply below_drew1) | exact HB.out)) hb); have n1_ := Aside0.mk (hbox); have n2_ := Aside0.mk ((by rw [hg]; exact (below_size (by repeat (first | (with_reducible first | exact HB.out | apply below_alloc | apply pw_below_drewN | apply below_drew1) | exact HB.out))) : w.heap.size ≤ gb101)); have n3_ := Aside0.mk ((by rw [hg]; exact (below_size (by repeat (first | (with_reducible first | exact HB.out | apply below_alloc | apply pw_below_drewN | apply below_drew1) | exact HB.out))) : w.heap.size ≤ gb101)); clear HB; have HB := n0_; have BK101 := n1_; have GW101 := n2_; have GE101 := n3_; clear n0_ n1_ n2_ n3_; clear hb hbox hg; have hcz7_0 : w6.cell? ⟨gb101, 0, none⟩ = some (.slice A0_0 l0_0.length c0_0) := (blk_cell BK101.out 0).trans rfl; have hcz7_1 : w6.cell? ⟨gb101, 1, none⟩ = some (.slice A0_1 l0_1.length c0_1) := (blk_cell BK101.out 1).trans rfl; have hcz7_2 : w6.cell? ⟨gb101, 2, none⟩ = some (.bool a0_2) := (blk_cell BK101.out 2).trans rfl; have hcz7_3 : w6.cell? ⟨gb101, 3, none⟩ = some (.bool a0_3) := (blk_cell BK101.out 3).trans rfl; have hcz7_4 : w6.cell? ⟨gb101, 4, none⟩ = some (.int .i64 a0_4) := (blk_cell BK101.out 4).trans rfl; have hfz7_0 := blk_frozen BK101.out 0; have hfz7_1 := blk_frozen BK101.out 1; have hfz7_2 := blk_frozen BK101.out 2; have hfz7_3 := blk_frozen BK101.out 3; have hfz7_4 := blk_frozen BK101.out 4))
      go_ret
      exact ⟨by first | rfl | (simp [errW_none, errW_some] <;> rfl) | (simp [*, errW_none, errW_some] <;> rfl), by repeat (first | (with_reducible first | exact HB.out | apply below_alloc | apply pw_below_drewN | apply below_drew1 | refine below_set ?_ GE101.out) | exact HB.out)⟩
    · rw [if_neg c5] at H
      have c5b0 : decide (2147483647 < (l0_1.length : Int)) = false := decide_eq_false c5
      have c5b1 : decide (2147483647 < l0_1.length) = false := decide_eq_false (by omega)
      clear c5
      obtain rfl := Option.some.inj H
      go_enter Tryd.func14, Tryd.ntmps14
      go_wp2_with (first | ((with_reducible refine gate_dst (N := 1) rfl ?_); refine box_event ?hg (N := 1) ?hd (cs := #[.slice A0_0 l0_0.length c0_0, .slice A0_1 l0_1.length c0_1, .bool a0_2, .bool a0_3, .int .i64 a0_4]) (t := 38) ?hr ?_; (case hd => rfl); (case hg => rfl); (case hr => first | (go_simp; done) | (go_simp; rfl)); intro gb101 hg w8 hbox hb; have n0_ := Aside0.mk (below_step (by repeat (first | (with_reducible first | exact HB.out | apply below_alloc | apply pw_below_drewN | apply below_drew1) | exact HB.out)) hb); have n1_ := Aside0.mk (hbox); have n2_ := Aside0.mk ((by rw [hg]; exact (below_size (by repeat (first | (with_reducible first | exact HB.out | apply below_alloc | apply pw_below_drewN | apply below_drew1) | exact HB.out))) : w.heap.size ≤ gb101)); have n3_ := Aside0.mk ((by rw [hg]; exact (below_size (by repeat (first | (with_reducible first | exact HB.out | apply below_alloc | apply pw_below_drewN | apply below_drew1) | exact HB.out))) : w.heap.size ≤ gb101)); clear HB; have HB := n0_; have BK101 := n1_; have GW101 := n2_; have GE101 := n3_; clear n0_ n1_ n2_ n3_; clear hb hbox hg; have hcz9_0 : w8.cell? ⟨gb101, 0, none⟩ = some (.slice A0_0 l0_0.length c0_0) := (blk_cell BK101.out 0).trans rfl; have hcz9_1 : w8.cell? ⟨gb101, 1, none⟩ = some (.slice A0_1 l0_1.length c0_1) := (blk_cell BK101.out 1).trans rfl; have hcz9_2 : w8.cell? ⟨gb101, 2, none⟩ = some (.bool a0_2) := (blk_cell BK101.out 2).trans rfl; have hcz9_3 : w8.cell? ⟨gb101, 3, none⟩ = some (.bool a0_3) := (blk_cell BK101.out 3).trans rfl; have hcz9_4 : w8.cell? ⟨gb101, 4, none⟩ = some (.int .i64 a0_4) := (blk_cell BK101.out 4).trans rfl; have hfz9_0 := blk_frozen BK101.out 0; have hfz9_1 := blk_frozen BK101.out 1; have hfz9_2 := blk_frozen BK101.out 2; have hfz9_3 := blk_frozen BK101.out 3; have hfz9_4 := blk_frozen BK101.out 4))
      go_ret
      exact ⟨by first | rfl | (simp [errW_none, errW_some] <;> rfl) | (simp [*, errW_none, errW_some] <;> rfl), by repeat (first | (with_reducible first | exact HB.out | apply below_alloc | apply pw_below_drewN | apply below_drew1 | refine below_set ?_ GE101.out) | exact HB.out)⟩

/-! ### laws_white: function 18 -/
mutual
def laws_white.j0 : Nat → Int → Bool → Option (Bool)
  | 0, _, _ => none
  | k + 1, x0, x3 => if x3 = true then (some true) else (if x0 = 32 then (some true) else (if x0 = 133 then (some true) else (if x0 = 160 then (some true) else (if x0 = 5760 then (some true) else (if x0 ≥ 8192 then (laws_white.j1 k x0 (decide (x0 ≤ 8202))) else (laws_white.j1 k x0 false))))))
def laws_white.j1 : Nat → Int → Bool → Option (Bool)
  | 0, _, _ => none
  | k + 1, x0, x3 => if x3 = true then (some true) else (if x0 = 8232 then (some true) else (if x0 = 8233 then (some true) else (if x0 = 8239 then (some true) else (if x0 = 8287 then (some true) else (if x0 = 12288 then (some true) else (some false))))))
end
def laws_white.f (k : Nat) (a0 : Int) : Option (Bool) := if a0 ≥ 9 then (laws_white.j0 k a0 (decide (a0 ≤ 13))) else (laws_white.j0 k a0 false)
theorem laws_white.mono_l : ∀ k, (∀ y0 y1, LeO (laws_white.j0 k y0 y1) (laws_white.j0 (k + 1) y0 y1)) ∧ (∀ y0 y1, LeO (laws_white.j1 k y0 y1) (laws_white.j1 (k + 1) y0 y1))
  | 0 => ⟨fun _ _ r h => by simp [laws_white.j0] at h, fun _ _ r h => by simp [laws_white.j1] at h⟩
  | k + 1 => by
    obtain ⟨ih0, ih1⟩ := laws_white.mono_l k
    refine ⟨?_, ?_⟩
    · intro y0 y1
      unfold laws_white.j0
      repeat' first
      | (with_reducible exact ih0 _ _)
      | (with_reducible exact ih1 _ _)
      | (with_reducible exact LeO.refl _)
      | (with_reducible exact LeO.none _)
      | (with_reducible refine LeO.ite ?_ ?_)
      | (with_reducible refine LeO.bind ?_ (fun _ => ?_))
      | exact ih0 _ _
      | exact ih1 _ _
      | exact LeO.none _
      | refine LeO.ite ?_ ?_
      | refine LeO.bind ?_ (fun _ => ?_)
    · intro y0 y1
      unfold laws_white.j1
      repeat' first
      | (with_reducible exact ih0 _ _)
      | (with_reducible exact ih1 _ _)
      | (with_reducible exact LeO.refl _)
      | (with_reducible exact LeO.none _)
      | (with_reducible refine LeO.ite ?_ ?_)
      | (with_reducible refine LeO.bind ?_ (fun _ => ?_))
      | exact ih0 _ _
      | exact ih1 _ _
      | exact LeO.none _
      | refine LeO.ite ?_ ?_
      | refine LeO.bind ?_ (fun _ => ?_)
theorem laws_white.mono : ∀ a0 k, LeO (laws_white.f k a0) (laws_white.f (k + 1) a0) := by
  intro a0 k
  obtain ⟨ih0, ih1⟩ := laws_white.mono_l k
  unfold laws_white.f
  repeat' first
      | (with_reducible exact ih0 _ _)
      | (with_reducible exact ih1 _ _)
      | (with_reducible exact LeO.refl _)
      | (with_reducible exact LeO.none _)
      | (with_reducible refine LeO.ite ?_ ?_)
      | (with_reducible refine LeO.bind ?_ (fun _ => ?_))
      | exact ih0 _ _
      | exact ih1 _ _
      | exact LeO.none _
      | refine LeO.ite ?_ ?_
      | refine LeO.bind ?_ (fun _ => ?_)
set_option maxHeartbeats 8000000 in
set_option maxRecDepth 100000 in
theorem laws_white.calls (k : Nat) (a0 : Int) (r : Bool) (w : World) (h : laws_white.f k a0 = some r) :
    Calls Tryd.prog 18 #[.int .i32 a0] w fun e w' => e = .returned (.bool r) ∧ Drawn0 w w' := by
  have H : (if a0 ≥ 9 then (laws_white.j0 k a0 (decide (a0 ≤ 13))) else (laws_white.j0 k a0 false)) = some r := h
  clear h
  have HC2 := Aside0.mk H
  clear H
  go_enter Tryd.func18, Tryd.ntmps18
  go_upto_region 1 with (fail)
  go_cut [3] (fun v3 wc => ∃ (kq : Nat) (x3_1 : Bool), v3 = .bool x3_1 ∧ Aside0 (laws_white.j0 kq a0 x3_1 = some r) ∧ Aside0 (kq ≤ k) ∧ Drawn0 w wc)
  case first =>
    have H := HC2.out
    clear HC2
    by_cases c3 : a0 ≥ 9
    · rw [if_pos c3] at H
      have c3b0 : decide (9 ≤ a0) = true := decide_eq_true c3
      clear c3
      (first | rw [c3b0] | (simp only [i64_w, i32_w]; rw [c3b0]) | skip)
      have H' := Aside0.mk H
      clear H
      go_wp2
      go_meet
      case rel => exact ⟨_, (decide (a0 ≤ 13)), (by first | rfl | (simp; done) | (simp [*]; done)), H', ⟨by first | omega | exact Nat.le_refl _⟩, by repeat (first | exact Drawn0.refl _ | apply Drawn0.step)⟩
    · rw [if_neg c3] at H
      have c3b0 : decide (9 ≤ a0) = false := decide_eq_false c3
      clear c3
      (first | rw [c3b0] | (simp only [i64_w, i32_w]; rw [c3b0]) | skip)
      have H' := Aside0.mk H
      clear H
      go_wp2
      go_meet
      case rel => exact ⟨_, (false), (by first | rfl | (simp; done) | (simp [*]; done)), H', ⟨by first | omega | exact Nat.le_refl _⟩, by repeat (first | exact Drawn0.refl _ | apply Drawn0.step)⟩
  case rest =>
    clear HC2
    try clear c1
    try clear p2
    try clear c3
    try clear c3b0
    obtain ⟨kq, x3_1, rfl, HA, HJ1, ⟨mc1, rfl⟩⟩ := hcut
    cases kq with
    | zero => exact absurd HA.out (by simp [laws_white.j0])
    | succ kj1 =>
      have H := HA.out
      clear HA
      simp only [laws_white.j0] at H
      by_cases c4 : x3_1 = true
      · subst c4
        have H1 : (some true) = some r := by rw [if_pos rfl] at H; exact H
        clear H
        have H := H1
        clear H1
        obtain rfl := Option.some.inj H
        go_wp2
        go_ret
        exact ⟨by first | rfl | (simp; done) | (simp [*]; done) | (simp [Own.isEmpty_bne]; done), by repeat (first | exact Drawn0.refl _ | apply Drawn0.step)⟩
      · replace c4 := Bool.eq_false_iff.mpr c4
        subst c4
        have H1 : (if a0 = 32 then (some true) else (if a0 = 133 then (some true) else (if a0 = 160 then (some true) else (if a0 = 5760 then (some true) else (if a0 ≥ 8192 then (laws_white.j1 kj1 a0 (decide (a0 ≤ 8202))) else (laws_white.j1 kj1 a0 false)))))) = some r := by rw [if_neg (show ¬ (false = true) by decide)] at H; exact H
        clear H
        have H := H1
        clear H1
        by_cases c5 : a0 = 32
        · rw [if_pos c5] at H
          have c5b0 : (a0 == 32) = true := beq_iff_eq.mpr c5
          have c5b1 : (a0 != 32) = false := bne_eq_false_iff_eq.mpr c5
          clear c5
          obtain rfl := Option.some.inj H
          go_wp2
          go_ret
          exact ⟨by first | rfl | (simp; done) | (simp [*]; done) | (simp [Own.isEmpty_bne]; done), by repeat (first | exact Drawn0.refl _ | apply Drawn0.step)⟩
        · rw [if_neg c5] at H
          have c5b0 : (a0 == 32) = false := beq_eq_false_iff_ne.mpr c5
          have c5b1 : (a0 != 32) = true := bne_iff_ne.mpr c5
          by_cases c6 : a0 = 133
          · rw [if_pos c6] at H
            have c6b0 : (a0 == 133) = true := beq_iff_eq.mpr c6
            have c6b1 : (a0 != 133) = false := bne_eq_false_iff_eq.mpr c6
            clear c6
            obtain rfl := Option.some.inj H
            go_wp2
            go_ret
            exact ⟨by first | rfl | (simp; done) | (simp [*]; done) | (simp [Own.isEmpty_bne]; done), by repeat (first | exact Drawn0.refl _ | apply Drawn0.step)⟩
          · rw [if_neg c6] at H
            have c6b0 : (a0 == 133) = false := beq_eq_false_iff_ne.mpr c6
            have c6b1 : (a0 != 133) = true := bne_iff_ne.mpr c6
            by_cases c7 : a0 = 160
            · rw [if_pos c7] at H
              have c7b0 : (a0 == 160) = true := beq_iff_eq.mpr c7
              have c7b1 : (a0 != 160) = false := bne_eq_false_iff_eq.mpr c7
              clear c7
              obtain rfl := Option.some.inj H
              go_wp2
              go_ret
              exact ⟨by first | rfl | (simp; done) | (simp [*]; done) | (simp [Own.isEmpty_bne]; done), by repeat (first | exact Drawn0.refl _ | apply Drawn0.step)⟩
            · rw [if_neg c7] at H
              have c7b0 : (a0 == 160) = false := beq_eq_false_iff_ne.mpr c7
              have c7b1 : (a0 != 160) = true := bne_iff_ne.mpr c7
              by_cases c8 : a0 = 5760
              · rw [if_pos c8] at H
                have c8b0 : (a0 == 5760) = true := beq_iff_eq.mpr c8
                have c8b1 : (a0 != 5760) = false := bne_eq_false_iff_eq.mpr c8
                clear c8
                obtain rfl := Option.some.inj H
                go_wp2
                go_ret
                exact ⟨by first | rfl | (simp; done) | (simp [*]; done) | (simp [Own.isEmpty_bne]; done), by repeat (first | exact Drawn0.refl _ | apply Drawn0.step)⟩
              · rw [if_neg c8] at H
                have c8b0 : (a0 == 5760) = false := beq_eq_false_iff_ne.mpr c8
                have c8b1 : (a0 != 5760) = true := bne_iff_ne.mpr c8
                have HC9 := Aside0.mk H
                clear H
                go_upto_region 6 with (fail)
                go_cut [3] (fun v3 wc => ∃ (kq : Nat) (x3_8 : Bool), v3 = .bool x3_8 ∧ Aside0 (laws_white.j1 kq a0 x3_8 = some r) ∧ Aside0 (kq ≤ kj1) ∧ Drawn0 w wc)
                case first =>
                  have H := HC9.out
                  clear HC9
                  by_cases c10 : a0 ≥ 8192
                  · rw [if_pos c10] at H
                    have c10b0 : decide (8192 ≤ a0) = true := decide_eq_true c10
                    clear c10
                    (first | rw [c10b0] | (simp only [i64_w, i32_w]; rw [c10b0]) | skip)
                    have H' := Aside0.mk H
                    clear H
                    go_wp2
                    go_meet
                    case rel => exact ⟨_, (decide (a0 ≤ 8202)), (by first | rfl | (simp; done) | (simp [*]; done)), H', ⟨by have := HJ1.out; first | omega | exact Nat.le_refl _⟩, by repeat (first | exact Drawn0.refl _ | apply Drawn0.step)⟩
                  · rw [if_neg c10] at H
                    have c10b0 : decide (8192 ≤ a0) = false := decide_eq_false c10
                    clear c10
                    (first | rw [c10b0] | (simp only [i64_w, i32_w]; rw [c10b0]) | skip)
                    have H' := Aside0.mk H
                    clear H
                    go_wp2
                    go_meet
                    case rel => exact ⟨_, (false), (by first | rfl | (simp; done) | (simp [*]; done)), H', ⟨by have := HJ1.out; first | omega | exact Nat.le_refl _⟩, by repeat (first | exact Drawn0.refl _ | apply Drawn0.step)⟩
                case rest =>
                  clear HC9
                  try clear c1
                  try clear p2
                  try clear c3
                  try clear c3b0
                  try clear c4
                  try clear c5
                  try clear c5b0
                  try clear c5b1
                  try clear c6
                  try clear c6b0
                  try clear c6b1
                  try clear c7
                  try clear c7b0
                  try clear c7b1
                  try clear c8
                  try clear c8b0
                  try clear c8b1
                  try clear c10
                  try clear c10b0
                  try clear p2
                  obtain ⟨kq, x3_8, rfl, HA, HJ8, ⟨mc8, rfl⟩⟩ := hcut
                  cases kq with
                  | zero => exact absurd HA.out (by simp [laws_white.j1])
                  | succ kj8 =>
                    have H := HA.out
                    clear HA
                    simp only [laws_white.j1] at H
                    by_cases c11 : x3_8 = true
                    · subst c11
                      have H1 : (some true) = some r := by rw [if_pos rfl] at H; exact H
                      clear H
                      have H := H1
                      clear H1
                      obtain rfl := Option.some.inj H
                      go_wp2
                      go_ret
                      exact ⟨by first | rfl | (simp; done) | (simp [*]; done) | (simp [Own.isEmpty_bne]; done), by repeat (first | exact Drawn0.refl _ | apply Drawn0.step)⟩
                    · replace c11 := Bool.eq_false_iff.mpr c11
                      subst c11
                      have H1 : (if a0 = 8232 then (some true) else (if a0 = 8233 then (some true) else (if a0 = 8239 then (some true) else (if a0 = 8287 then (some true) else (if a0 = 12288 then (some true) else (some false)))))) = some r := by rw [if_neg (show ¬ (false = true) by decide)] at H; exact H
                      clear H
                      have H := H1
                      clear H1
                      by_cases c12 : a0 = 8232
                      · rw [if_pos c12] at H
                        have c12b0 : (a0 == 8232) = true := beq_iff_eq.mpr c12
                        have c12b1 : (a0 != 8232) = false := bne_eq_false_iff_eq.mpr c12
                        clear c12
                        obtain rfl := Option.some.inj H
                        go_wp2
                        go_ret
                        exact ⟨by first | rfl | (simp; done) | (simp [*]; done) | (simp [Own.isEmpty_bne]; done), by repeat (first | exact Drawn0.refl _ | apply Drawn0.step)⟩
                      · rw [if_neg c12] at H
                        have c12b0 : (a0 == 8232) = false := beq_eq_false_iff_ne.mpr c12
                        have c12b1 : (a0 != 8232) = true := bne_iff_ne.mpr c12
                        by_cases c13 : a0 = 8233
                        · rw [if_pos c13] at H
                          have c13b0 : (a0 == 8233) = true := beq_iff_eq.mpr c13
                          have c13b1 : (a0 != 8233) = false := bne_eq_false_iff_eq.mpr c13
                          clear c13
                          obtain rfl := Option.some.inj H
                          go_wp2
                          go_ret
                          exact ⟨by first | rfl | (simp; done) | (simp [*]; done) | (simp [Own.isEmpty_bne]; done), by repeat (first | exact Drawn0.refl _ | apply Drawn0.step)⟩
                        · rw [if_neg c13] at H
                          have c13b0 : (a0 == 8233) = false := beq_eq_false_iff_ne.mpr c13
                          have c13b1 : (a0 != 8233) = true := bne_iff_ne.mpr c13
                          by_cases c14 : a0 = 8239
                          · rw [if_pos c14] at H
                            have c14b0 : (a0 == 8239) = true := beq_iff_eq.mpr c14
                            have c14b1 : (a0 != 8239) = false := bne_eq_false_iff_eq.mpr c14
                            clear c14
                            obtain rfl := Option.some.inj H
                            go_wp2
                            go_ret
                            exact ⟨by first | rfl | (simp; done) | (simp [*]; done) | (simp [Own.isEmpty_bne]; done), by repeat (first | exact Drawn0.refl _ | apply Drawn0.step)⟩
                          · rw [if_neg c14] at H
                            have c14b0 : (a0 == 8239) = false := beq_eq_false_iff_ne.mpr c14
                            have c14b1 : (a0 != 8239) = true := bne_iff_ne.mpr c14
                            by_cases c15 : a0 = 8287
                            · rw [if_pos c15] at H
                              have c15b0 : (a0 == 8287) = true := beq_iff_eq.mpr c15
                              have c15b1 : (a0 != 8287) = false := bne_eq_false_iff_eq.mpr c15
                              clear c15
                              obtain rfl := Option.some.inj H
                              go_wp2
                              go_ret
                              exact ⟨by first | rfl | (simp; done) | (simp [*]; done) | (simp [Own.isEmpty_bne]; done), by repeat (first | exact Drawn0.refl _ | apply Drawn0.step)⟩
                            · rw [if_neg c15] at H
                              have c15b0 : (a0 == 8287) = false := beq_eq_false_iff_ne.mpr c15
                              have c15b1 : (a0 != 8287) = true := bne_iff_ne.mpr c15
                              by_cases c16 : a0 = 12288
                              · rw [if_pos c16] at H
                                have c16b0 : (a0 == 12288) = true := beq_iff_eq.mpr c16
                                have c16b1 : (a0 != 12288) = false := bne_eq_false_iff_eq.mpr c16
                                clear c16
                                obtain rfl := Option.some.inj H
                                go_wp2
                                go_ret
                                exact ⟨by first | rfl | (simp; done) | (simp [*]; done) | (simp [Own.isEmpty_bne]; done), by repeat (first | exact Drawn0.refl _ | apply Drawn0.step)⟩
                              · rw [if_neg c16] at H
                                have c16b0 : (a0 == 12288) = false := beq_eq_false_iff_ne.mpr c16
                                have c16b1 : (a0 != 12288) = true := bne_iff_ne.mpr c16
                                obtain rfl := Option.some.inj H
                                go_wp2
                                go_ret
                                exact ⟨by first | rfl | (simp; done) | (simp [*]; done) | (simp [Own.isEmpty_bne]; done), by repeat (first | exact Drawn0.refl _ | apply Drawn0.step)⟩

/-! ### utf8_ValidRune: function 34 -/
def utf8_ValidRune.j0 : Nat → Int → Bool → Option (Bool)
  | 0, _, _ => none
  | k + 1, x0, x3 => if x3 = true then (some true) else (if 57343 < x0 then (if x0 ≤ 1114111 then (some true) else (some false)) else (some false))
def utf8_ValidRune.f (k : Nat) (a0 : Int) : Option (Bool) := if 0 ≤ a0 then (utf8_ValidRune.j0 k a0 (decide (a0 < 55296))) else (utf8_ValidRune.j0 k a0 false)
theorem utf8_ValidRune.mono_l : ∀ k, (∀ y0 y1, LeO (utf8_ValidRune.j0 k y0 y1) (utf8_ValidRune.j0 (k + 1) y0 y1))
  | 0 => fun _ _ r h => by simp [utf8_ValidRune.j0] at h
  | k + 1 => by
    have ih0 := utf8_ValidRune.mono_l k
    · intro y0 y1
      unfold utf8_ValidRune.j0
      repeat' first
      | (with_reducible exact ih0 _ _)
      | (with_reducible exact LeO.refl _)
      | (with_reducible exact LeO.none _)
      | (with_reducible refine LeO.ite ?_ ?_)
      | (with_reducible refine LeO.bind ?_ (fun _ => ?_))
      | exact ih0 _ _
      | exact LeO.none _
      | refine LeO.ite ?_ ?_
      | refine LeO.bind ?_ (fun _ => ?_)
theorem utf8_ValidRune.mono : ∀ a0 k, LeO (utf8_ValidRune.f k a0) (utf8_ValidRune.f (k + 1) a0) := by
  intro a0 k
  have ih0 := utf8_ValidRune.mono_l k
  unfold utf8_ValidRune.f
  repeat' first
      | (with_reducible exact ih0 _ _)
      | (with_reducible exact LeO.refl _)
      | (with_reducible exact LeO.none _)
      | (with_reducible refine LeO.ite ?_ ?_)
      | (with_reducible refine LeO.bind ?_ (fun _ => ?_))
      | exact ih0 _ _
      | exact LeO.none _
      | refine LeO.ite ?_ ?_
      | refine LeO.bind ?_ (fun _ => ?_)
set_option maxHeartbeats 8000000 in
set_option maxRecDepth 100000 in
theorem utf8_ValidRune.calls (k : Nat) (a0 : Int) (r : Bool) (w : World) (h : utf8_ValidRune.f k a0 = some r) :
    Calls Tryd.prog 34 #[.int .i32 a0] w fun e w' => e = .returned (.bool r) ∧ Drawn0 w w' := by
  have H : (if 0 ≤ a0 then (utf8_ValidRune.j0 k a0 (decide (a0 < 55296))) else (utf8_ValidRune.j0 k a0 false)) = some r := h
  clear h
  have HC2 := Aside0.mk H
  clear H
  go_enter Tryd.func34, Tryd.ntmps34
  go_upto_region 1 with (fail)
  go_cut [3] (fun v3 wc => ∃ (kq : Nat) (x3_1 : Bool), v3 = .bool x3_1 ∧ Aside0 (utf8_ValidRune.j0 kq a0 x3_1 = some r) ∧ Aside0 (kq ≤ k) ∧ Drawn0 w wc)
  case first =>
    have H := HC2.out
    clear HC2
    by_cases c3 : 0 ≤ a0
    · rw [if_pos c3] at H
      have c3b0 : decide (0 ≤ a0) = true := decide_eq_true c3
      clear c3
      (first | rw [c3b0] | (simp only [i64_w, i32_w]; rw [c3b0]) | skip)
      have H' := Aside0.mk H
      clear H
      go_wp2
      go_meet
      case rel => exact ⟨_, (decide (a0 < 55296)), (by first | rfl | (simp; done) | (simp [*]; done)), H', ⟨by first | omega | exact Nat.le_refl _⟩, by repeat (first | exact Drawn0.refl _ | apply Drawn0.step)⟩
    · rw [if_neg c3] at H
      have c3b0 : decide (0 ≤ a0) = false := decide_eq_false c3
      clear c3
      (first | rw [c3b0] | (simp only [i64_w, i32_w]; rw [c3b0]) | skip)
      have H' := Aside0.mk H
      clear H
      go_wp2
      go_meet
      case rel => exact ⟨_, (false), (by first | rfl | (simp; done) | (simp [*]; done)), H', ⟨by first | omega | exact Nat.le_refl _⟩, by repeat (first | exact Drawn0.refl _ | apply Drawn0.step)⟩
  case rest =>
    clear HC2
    try clear p2
    try clear c3
    try clear c3b0
    obtain ⟨kq, x3_1, rfl, HA, HJ1, ⟨mc1, rfl⟩⟩ := hcut
    cases kq with
    | zero => exact absurd HA.out (by simp [utf8_ValidRune.j0])
    | succ kj1 =>
      have H := HA.out
      clear HA
      simp only [utf8_ValidRune.j0] at H
      by_cases c4 : x3_1 = true
      · subst c4
        have H1 : (some true) = some r := by rw [if_pos rfl] at H; exact H
        clear H
        have H := H1
        clear H1
        obtain rfl := Option.some.inj H
        go_wp2
        go_ret
        exact ⟨by first | rfl | (simp; done) | (simp [*]; done) | (simp [Own.isEmpty_bne]; done), by repeat (first | exact Drawn0.refl _ | apply Drawn0.step)⟩
      · replace c4 := Bool.eq_false_iff.mpr c4
        subst c4
        have H1 : (if 57343 < a0 then (if a0 ≤ 1114111 then (some true) else (some false)) else (some false)) = some r := by rw [if_neg (show ¬ (false = true) by decide)] at H; exact H
        clear H
        have H := H1
        clear H1
        by_cases c5 : 57343 < a0
        · rw [if_pos c5] at H
          have c5b0 : decide (57343 < a0) = true := decide_eq_true c5
          clear c5
          by_cases c6 : a0 ≤ 1114111
          · rw [if_pos c6] at H
            have c6b0 : decide (a0 ≤ 1114111) = true := decide_eq_true c6
            clear c6
            obtain rfl := Option.some.inj H
            go_wp2
            go_ret
            exact ⟨by first | rfl | (simp; done) | (simp [*]; done) | (simp [Own.isEmpty_bne]; done), by repeat (first | exact Drawn0.refl _ | apply Drawn0.step)⟩
          · rw [if_neg c6] at H
            have c6b0 : decide (a0 ≤ 1114111) = false := decide_eq_false c6
            clear c6
            obtain rfl := Option.some.inj H
            go_wp2
            go_ret
            exact ⟨by first | rfl | (simp; done) | (simp [*]; done) | (simp [Own.isEmpty_bne]; done), by repeat (first | exact Drawn0.refl _ | apply Drawn0.step)⟩
        · rw [if_neg c5] at H
          have c5b0 : decide (57343 < a0) = false := decide_eq_false c5
          clear c5
          obtain rfl := Option.some.inj H
          go_wp2
          go_ret
          exact ⟨by first | rfl | (simp; done) | (simp [*]; done) | (simp [Own.isEmpty_bne]; done), by repeat (first | exact Drawn0.refl _ | apply Drawn0.step)⟩

end Go.Proofs.YtckdpckdabfkbabDoor.PC
