-- Written by a program of ours out of the kit's print program.
import Derived.Test.YtckdpckdabfkbabDoorPCx0
import Derived.Test.YtckdpckdabfkbabDoorPCx1
namespace Go.Proofs.YtckdpckdabfkbabDoor.PC
open Go.RowKit Go.Proofs.YtckdpckdabfkbabDoorW.PrintWords Go.Proofs.YtckdpckdabfkbabDoorW.PrintLast Go.Proofs.YtckdpckdabfkbabDoorW.PrintMore
attribute [local go_sem] max2_int min2_int max_two min_two max_three min_three max_four min_four   -- for this text's walks alone
set_option linter.unusedVariables false
set_option linter.unusedSimpArgs false

/-! ### laws_splits: function 15 -/
def laws_splits.l0 : Nat → List Int → Int → Int → List Int → List Int → Bool → Bool → Int → Option (Bool)
  | 0, _, _, _, _, _, _, _, _ => none
  | k + 1, x11, x12, x13, x103000, x103001, x103002, x103003, x103004 => if x13 < x12 then (if 0 ≤ x13 then (if x13 < (x11.length : Int) then ((laws_white.f k (rd x11 x13)).bind fun t113 => (if t113 = true then (some false) else (if (rd x11 x13) = 65533 then (some false) else ((utf8_ValidRune.f k (rd x11 x13)).bind fun t114 => (if t114 = true then (laws_splits.l0 k x11 x12 (wrap64 (x13 + 1)) x103000 x103001 x103002 x103003 x103004) else (some false)))))) else (none)) else (none)) else (if (x103000.length : Int) ≤ 20 then (if (x103001.length : Int) ≤ 20 then (if x103004 ≤ 1048576 then (some (decide (x103004 ≥ (-1048576)))) else (some false)) else (some false)) else (some false))
def laws_splits.f (k : Nat) (l0_0 : List Int) (l0_1 : List Int) (a0_2 : Bool) (a0_3 : Bool) (a0_4 : Int) : Option (Bool) := (some (([] : List Int) : List Int)).bind fun y103 => (if y103.length + l0_0.length < 35184372088832 then ((some (y103 ++ l0_0 : List Int)).bind fun y106 => (if y106.length + l0_1.length < 35184372088832 then ((some (y106 ++ l0_1 : List Int)).bind fun y109 => (laws_splits.l0 k y109 (y109.length : Int) 0 l0_0 l0_1 a0_2 a0_3 a0_4)) else (none))) else (none))
theorem laws_splits.mono_l : ∀ k, (∀ y0 y1 y2 y3 y4 y5 y6 y7, LeO (laws_splits.l0 k y0 y1 y2 y3 y4 y5 y6 y7) (laws_splits.l0 (k + 1) y0 y1 y2 y3 y4 y5 y6 y7))
  | 0 => fun _ _ _ _ _ _ _ _ r h => by simp [laws_splits.l0] at h
  | k + 1 => by
    have ih0 := laws_splits.mono_l k
    · intro y0 y1 y2 y3 y4 y5 y6 y7
      unfold laws_splits.l0
      repeat' first
      | (with_reducible exact ih0 _ _ _ _ _ _ _ _)
      | (with_reducible exact laws_white.mono _ _)
      | (with_reducible exact utf8_ValidRune.mono _ _)
      | (with_reducible exact LeO.refl _)
      | (with_reducible exact LeO.none _)
      | (with_reducible refine LeO.ite ?_ ?_)
      | (with_reducible refine LeO.bind ?_ (fun _ => ?_))
      | exact ih0 _ _ _ _ _ _ _ _
      | exact laws_white.mono _ _
      | exact utf8_ValidRune.mono _ _
      | exact LeO.none _
      | refine LeO.ite ?_ ?_
      | refine LeO.bind ?_ (fun _ => ?_)
theorem laws_splits.mono : ∀ a0 a1 a2 a3 a4 k, LeO (laws_splits.f k a0 a1 a2 a3 a4) (laws_splits.f (k + 1) a0 a1 a2 a3 a4) := by
  intro a0 a1 a2 a3 a4 k
  have ih0 := laws_splits.mono_l k
  unfold laws_splits.f
  repeat' first
      | (with_reducible exact ih0 _ _ _ _ _ _ _ _)
      | (with_reducible exact laws_white.mono _ _)
      | (with_reducible exact utf8_ValidRune.mono _ _)
      | (with_reducible exact LeO.refl _)
      | (with_reducible exact LeO.none _)
      | (with_reducible refine LeO.ite ?_ ?_)
      | (with_reducible refine LeO.bind ?_ (fun _ => ?_))
      | exact ih0 _ _ _ _ _ _ _ _
      | exact laws_white.mono _ _
      | exact utf8_ValidRune.mono _ _
      | exact LeO.none _
      | refine LeO.ite ?_ ?_
      | refine LeO.bind ?_ (fun _ => ?_)
def laws_splits.T1 : Bool × List (List Nat × List Nat) := (true, [([], []), ([], []), ([1], [1]), ([0, 2], [0, 2]), ([], []), ([4], [4]), ([3, 5, 3], [3, 5]), ([6], [6]), ([], [])])
def laws_splits.B1 : List Nat := [0, 0, 2, 7, 0, 16, 63, 127, 0]
theorem laws_splits.tab1 : rtab .any (opsOf Tryd.f15 1) = laws_splits.T1 := by kernel_rfl
theorem laws_splits.bits1 : waitsOk laws_splits.T1.2 laws_splits.B1 = true := by kernel_rfl
set_option maxHeartbeats 8000000 in
set_option maxRecDepth 100000 in
theorem laws_splits.calls (k : Nat) (A0_0 : Option Addr) (c0_0 : Nat) (l0_0 : List Int) (A0_1 : Option Addr) (c0_1 : Nat) (l0_1 : List Int) (a0_2 : Bool) (a0_3 : Bool) (a0_4 : Int) (r : Bool) (w : World) (hr0_0 : Kd.C (Kd.int .i32) w A0_0 l0_0.length l0_0) (hc0_0 : l0_0.length ≤ c0_0) (hr0_1 : Kd.C (Kd.int .i32) w A0_1 l0_1.length l0_1) (hc0_1 : l0_1.length ≤ c0_1) (h : laws_splits.f k l0_0 l0_1 a0_2 a0_3 a0_4 = some r) :
    Calls Tryd.prog 15 #[.agg #[.slice A0_0 l0_0.length c0_0, .slice A0_1 l0_1.length c0_1, .bool a0_2, .bool a0_3, .int .i64 a0_4]] w fun e w' => e = .returned (.bool r) ∧ Below w.heap.size w w' := by
  have hu38 := Tryd.underlying38
  have HR0_0 := Aside0.mk hr0_0
  have HC0_0 := Aside0.mk hc0_0
  clear hr0_0 hc0_0
  have HR0_1 := Aside0.mk hr0_1
  have HC0_1 := Aside0.mk hc0_1
  clear hr0_1 hc0_1
  have HB := Aside0.mk (Below.refl w.heap.size w)
  have H : ((some (([] : List Int) : List Int)).bind fun y103 => (if y103.length + l0_0.length < 35184372088832 then ((some (y103 ++ l0_0 : List Int)).bind fun y106 => (if y106.length + l0_1.length < 35184372088832 then ((some (y106 ++ l0_1 : List Int)).bind fun y109 => (laws_splits.l0 k y109 (y109.length : Int) 0 l0_0 l0_1 a0_2 a0_3 a0_4)) else (none))) else (none))) = some r := h
  clear h
  obtain ⟨y103, hy103⟩ : ∃ y_ : List Int, y_ = (([] : List Int)) := ⟨_, rfl⟩
  replace H : (if y103.length + l0_0.length < 35184372088832 then ((some (y103 ++ l0_0 : List Int)).bind fun y106 => (if y106.length + l0_1.length < 35184372088832 then ((some (y106 ++ l0_1 : List Int)).bind fun y109 => (laws_splits.l0 k y109 (y109.length : Int) 0 l0_0 l0_1 a0_2 a0_3 a0_4)) else (none))) else (none)) = some r := by first | (rw [hy103]; with_reducible exact H) | (have H2_ := (Option.bind_some _ _).symm.trans H; rw [hy103]; with_reducible exact H2_) | (have H2_ := (Option.bind_some _ _).symm.trans H; with_reducible exact H2_) | with_reducible exact H | (rw [hy103]; exact H) | exact H
  have Ny103 := Aside0.mk hy103
  clear hy103
  by_cases c2 : y103.length + l0_0.length < 35184372088832
  · rw [if_pos c2] at H
    have LMc2 := Aside0.mk c2
    clear c2
    obtain ⟨y106, hy106⟩ : ∃ y_ : List Int, y_ = (y103 ++ l0_0) := ⟨_, rfl⟩
    replace H : (if y106.length + l0_1.length < 35184372088832 then ((some (y106 ++ l0_1 : List Int)).bind fun y109 => (laws_splits.l0 k y109 (y109.length : Int) 0 l0_0 l0_1 a0_2 a0_3 a0_4)) else (none)) = some r := by first | (rw [hy106]; with_reducible exact H) | (have H2_ := (Option.bind_some _ _).symm.trans H; rw [hy106]; with_reducible exact H2_) | (have H2_ := (Option.bind_some _ _).symm.trans H; with_reducible exact H2_) | with_reducible exact H | (rw [hy106]; exact H) | exact H
    have Ny106 := Aside0.mk hy106
    clear hy106
    by_cases c3 : y106.length + l0_1.length < 35184372088832
    · rw [if_pos c3] at H
      have LMc3 := Aside0.mk c3
      clear c3
      obtain ⟨y109, hy109⟩ : ∃ y_ : List Int, y_ = (y106 ++ l0_1) := ⟨_, rfl⟩
      replace H : (laws_splits.l0 k y109 (y109.length : Int) 0 l0_0 l0_1 a0_2 a0_3 a0_4) = some r := by first | (rw [hy109]; with_reducible exact H) | (have H2_ := (Option.bind_some _ _).symm.trans H; rw [hy109]; with_reducible exact H2_) | (have H2_ := (Option.bind_some _ _).symm.trans H; with_reducible exact H2_) | with_reducible exact H | (rw [hy109]; exact H) | exact H
      have Ny109 := Aside0.mk hy109
      clear hy109
      have H' := Aside0.mk H
      clear H
      go_enter Tryd.func15, Tryd.ntmps15
      try go_wp2_with (first | ((with_reducible refine gate_dst (N := 1) rfl ?_); (try (refine gate_guard (by rfl) ?_; dsimp only)); refine box_event ?hg (N := 1) ?hd (cs := #[.slice A0_0 l0_0.length c0_0, .slice A0_1 l0_1.length c0_1, .bool a0_2, .bool a0_3, .int .i64 a0_4]) (t := 38) ?hr ?_; (case hd => rfl); (case hg => rfl); (case hr => first | (go_simp; done) | (go_simp; rfl)); intro gb102 hg w4 hbox hb; have n0_ := Aside0.mk (below_step (by repeat (first | (with_reducible first | exact HB.out | apply below_alloc | apply pw_below_drewN | apply below_drew1) | exact HB.out)) hb); have n1_ := Aside0.mk (hbox); have n2_ := Aside0.mk ((by rw [hg]; exact (below_size (by repeat (first | (with_reducible first | exact HB.out | apply below_alloc | apply pw_below_drewN | apply below_drew1) | exact HB.out))) : w.heap.size ≤ gb102)); have n3_ := Aside0.mk ((by rw [hg]; exact (below_size (by repeat (first | (with_reducible first | exact HB.out | apply below_alloc | apply pw_below_drewN | apply below_drew1) | exact HB.out))) : w.heap.size ≤ gb102)); clear HB; have HB := n0_; have BK102 := n1_; have GW102 := n2_; have GE102 := n3_; clear n0_ n1_ n2_ n3_; clear hb hbox hg))
      have n0_ := Aside0.mk (blk_drew BK102.out)
      have n1_ := Aside0.mk (below_drew1 HB.out)
      clear BK102
      clear HB
      have BK102 := n0_
      have HB := n1_
      clear n0_ n1_
      refine start_ (n := 9) (S := fun w' => w'.cell? ⟨gb102, 0, none⟩ = some (.slice A0_0 l0_0.length c0_0) ∧ w'.cell? ⟨gb102, 1, none⟩ = some (.slice A0_1 l0_1.length c0_1) ∧ w'.cell? ⟨gb102, 2, none⟩ = some (.bool a0_2) ∧ w'.cell? ⟨gb102, 3, none⟩ = some (.bool a0_3) ∧ w'.cell? ⟨gb102, 4, none⟩ = some (.int .i64 a0_4)) (ds := []) #[false, false, false, false, false, false, false, false, false] (by kernel_rfl) rfl rfl ⟨(blk_cell BK102.out 0).trans rfl, (blk_cell BK102.out 1).trans rfl, (blk_cell BK102.out 2).trans rfl, (blk_cell BK102.out 3).trans rfl, (blk_cell BK102.out 4).trans rfl⟩ (fun hHeld => ?_); refine with_tabW laws_splits.tab1 laws_splits.bits1 (fun HT_ HW_ => ?_)
      generalize w4.drew = w5 at BK102 HB hHeld ⊢
      refine pure_ (i := 1) (N := some 6) (v := ?_) (a' := ?_) #[false, true, false, false, false, false, false, false, false] rfl rfl (any_of HT_.out (by kernel_rfl)) (fun _ _ _ h => h) (Or.inl ⟨by rfl, ?_⟩) ?_ ?_
      rotate_left
      · intro w'
        go_simp
        with_reducible rfl
      rotate_left
      · simp only [Act.put, List.setIfInBounds_toArray, List.set_cons_zero, List.set_cons_succ, i64_w, i32_w]
        rfl
      refine pure_ (i := 4) (N := some 9) (v := ?_) (a' := ?_) #[false, true, false, false, true, false, false, false, false] rfl rfl (any_of HT_.out (by kernel_rfl)) (fun _ _ _ h => h) (Or.inl ⟨by rfl, ?_⟩) ?_ ?_
      rotate_left
      · intro w'
        go_simp
        with_reducible rfl
      rotate_left
      · simp only [Act.put, List.setIfInBounds_toArray, List.set_cons_zero, List.set_cons_succ, i64_w, i32_w]
        rfl
      refine pure_ (i := 8) (N := some 13) (v := ?_) (a' := ?_) #[false, true, false, false, true, false, false, false, true] rfl rfl (any_of HT_.out (by kernel_rfl)) (fun _ _ _ h => h) (Or.inl ⟨by rfl, ?_⟩) ?_ ?_
      rotate_left
      · intro w'
        go_simp
        with_reducible rfl
      rotate_left
      · simp only [Act.put, List.setIfInBounds_toArray, List.set_cons_zero, List.set_cons_succ, i64_w, i32_w]
        rfl
      refine take_ (i := 2) (N := some 7) (v := ?_) (a' := ?_) #[false, true, true, false, true, false, false, false, true] rfl rfl (take_ofW HT_.out HW_.out (by kernel_rfl)) (fun _ _ _ h => h) (Or.inl ⟨by rfl, ?_⟩) hHeld ?_ ?_
      rotate_left
      · rintro w' ⟨s0, s1, s2, s3, s4⟩
        go_simp
        with_reducible rfl
      rotate_left
      · simp only [Act.put, List.setIfInBounds_toArray, List.set_cons_zero, List.set_cons_succ, i64_w, i32_w]
        rfl
      refine take_ (i := 5) (N := some 10) (v := ?_) (a' := ?_) #[false, true, true, false, true, true, false, false, true] rfl rfl (take_ofW HT_.out HW_.out (by kernel_rfl)) (fun _ _ _ h => h) (Or.inl ⟨by rfl, ?_⟩) hHeld ?_ ?_
      rotate_left
      · rintro w' ⟨s0, s1, s2, s3, s4⟩
        go_simp
        with_reducible rfl
      rotate_left
      · simp only [Act.put, List.setIfInBounds_toArray, List.set_cons_zero, List.set_cons_succ, i64_w, i32_w]
        rfl
      refine one_ (i := 0) (N := some 5) #[true, true, true, false, true, true, false, false, true] rfl rfl (one_of HT_.out (by kernel_rfl)) (by decide) (fun K hK => ?_)
      refine Kd.R_lit_step (Kd.int .i32) _ 21 ?hg (N := 5) ?hd (xs := ([] : List Int)) (inner := []) (ok := fun _ => True) (okp := fun _ => True) ?hr ?hp (fun _ hk => hk) trivial (Below.refl _ _) (Nat.le_refl _) (by simp) ?_; (case hd => rfl); (case hg => rfl); (case hr => first | (go_simp; done) | (go_simp; rfl)); (case hp => exact (Reps.none _ _))
      intro v104 w6 ho7 hb hg_ hnew_
      clear hg_ hnew_
      (first | rw [← Ny103.out] at ho7 | (simp only [Int.reduceToNat] at ho7; rw [← Ny103.out] at ho7))
      have n0_ := Aside0.mk (Kd.R_lower ho7 (below_size (by repeat (first | (with_reducible first | exact HB.out | apply below_alloc | apply pw_below_drewN | apply below_drew1 | refine below_set ?_ GE102.out) | exact HB.out))))
      have n1_ := Aside0.mk (blk_below (g := gb102) (o := .cells #[.slice A0_0 l0_0.length c0_0, .slice A0_1 l0_1.length c0_1, .bool a0_2, .bool a0_3, .int .i64 a0_4] 38 (0, 0)) (by (with_reducible repeat (first | refine blk_drewN ?_ _ | refine blk_drew ?_ | refine blk_alloc ?_ _)); exact BK102.out) hb)
      have n2_ := Aside0.mk (below_step (by repeat (first | (with_reducible first | exact HB.out | apply below_alloc | apply pw_below_drewN | apply below_drew1 | refine below_set ?_ GE102.out) | exact HB.out)) hb)
      clear BK102
      clear HB
      have HO105 := n0_
      have BK102 := n1_
      have HB := n2_
      clear n0_ n1_ n2_
      clear hb ho7
      refine hK.out _ _ ⟨(blk_cell BK102.out 0).trans rfl, (blk_cell BK102.out 1).trans rfl, (blk_cell BK102.out 2).trans rfl, (blk_cell BK102.out 3).trans rfl, (blk_cell BK102.out 4).trans rfl⟩ (fun hHeld => ?_)
      clear hK K
      refine norm_ (a' := ?_) ?_ ?_
      rotate_left
      · show Act.put _ (some 5) _ = _
        simp only [Act.put, List.setIfInBounds_toArray, List.set_cons_zero, List.set_cons_succ, i64_w, i32_w]
        rfl
      refine one_ (i := 3) (N := some 8) #[true, true, true, true, true, true, false, false, true] rfl rfl (one_of HT_.out (by kernel_rfl)) (by decide) (fun K hK => ?_)
      refine Kd.R_append_rows_step (Kd.int .i32) (w0 := w) w.heap.size (by rfl) (.tmp 5) (.tmp 7) 36 21 (.int .i32 0) 4 rfl Tryd.underlying36 info21 rfl (by decide) (by omega) v104 y103 l0_0 _ _ _ (fun _ => True) (fun _ => False) rfl rfl ?aO ?aR (fun _ _ h => h) (fun _ h => h.elim) ?aF ?aB ?aS ?aL ?_
      (case aR => repeat (first | exact (Kd.C_below HR0_0.out HB.out) | (with_reducible refine Kd.C_alloc ?_ _) | (with_reducible refine Kd.C_drewN ?_ _) | (with_reducible refine Kd.C_drew ?_)))
      (case aB => exact (by repeat (first | (with_reducible first | exact HB.out | apply below_alloc | apply pw_below_drewN | apply below_drew1 | refine below_set ?_ GE102.out) | exact HB.out)))
      (case aF => exact (fun _ _ => trivial))
      (case aO => exact (by (with_reducible repeat (first | apply Kd.R_alloc | apply Kd.R_drewN | apply Kd.R_drew)); exact HO105.out))
      (case aS => exact (below_size (by repeat (first | (with_reducible first | exact HB.out | apply below_alloc | apply pw_below_drewN | apply below_drew1 | refine below_set ?_ GE102.out) | exact HB.out))))
      (case aL => have := LMc2.out; omega)
      intro v107 w8 ho hb hg hat
      rw [← Ny106.out] at ho
      have n0_ := Aside0.mk (blk_grown (g := gb102) (o := .cells #[.slice A0_0 l0_0.length c0_0, .slice A0_1 l0_1.length c0_1, .bool a0_2, .bool a0_3, .int .i64 a0_4] 38 (0, 0)) (by (with_reducible repeat (first | refine blk_drewN ?_ _ | refine blk_drew ?_ | refine blk_alloc ?_ _)); exact BK102.out) hg (Kd.R_ne HO105.out BK102.out (by decide)))
      have n1_ := Aside0.mk (hb)
      have n2_ := Aside0.mk (ho)
      clear BK102
      clear HB
      clear HO105
      have BK102 := n0_
      have HB := n1_
      have HO108 := n2_
      clear n0_ n1_ n2_
      clear ho hb hg hat
      refine hK.out _ _ ⟨(blk_cell BK102.out 0).trans rfl, (blk_cell BK102.out 1).trans rfl, (blk_cell BK102.out 2).trans rfl, (blk_cell BK102.out 3).trans rfl, (blk_cell BK102.out 4).trans rfl⟩ (fun hHeld => ?_)
      clear hK K
      refine norm_ (a' := ?_) ?_ ?_
      rotate_left
      · show Act.put _ (some 8) _ = _
        simp only [Act.put, List.setIfInBounds_toArray, List.set_cons_zero, List.set_cons_succ, i64_w, i32_w]
        rfl
      refine one_ (i := 6) (N := some 11) #[true, true, true, true, true, true, true, false, true] rfl rfl (one_of HT_.out (by kernel_rfl)) (by decide) (fun K hK => ?_)
      refine Kd.R_append_rows_step (Kd.int .i32) (w0 := w) w.heap.size (by rfl) (.tmp 8) (.tmp 10) 36 21 (.int .i32 0) 4 rfl Tryd.underlying36 info21 rfl (by decide) (by omega) v107 y106 l0_1 _ _ _ (fun _ => True) (fun _ => False) rfl rfl ?aO ?aR (fun _ _ h => h) (fun _ h => h.elim) ?aF ?aB ?aS ?aL ?_
      (case aR => repeat (first | exact (Kd.C_below HR0_1.out HB.out) | (with_reducible refine Kd.C_alloc ?_ _) | (with_reducible refine Kd.C_drewN ?_ _) | (with_reducible refine Kd.C_drew ?_)))
      (case aB => exact (by repeat (first | (with_reducible first | exact HB.out | apply below_alloc | apply pw_below_drewN | apply below_drew1 | refine below_set ?_ GE102.out) | exact HB.out)))
      (case aF => exact (fun _ _ => trivial))
      (case aO => exact (by (with_reducible repeat (first | apply Kd.R_alloc | apply Kd.R_drewN | apply Kd.R_drew)); exact HO108.out))
      (case aS => exact (below_size (by repeat (first | (with_reducible first | exact HB.out | apply below_alloc | apply pw_below_drewN | apply below_drew1 | refine below_set ?_ GE102.out) | exact HB.out))))
      (case aL => have := LMc3.out; omega)
      intro v110 w9 ho hb hg hat
      rw [← Ny109.out] at ho
      have n0_ := Aside0.mk (blk_grown (g := gb102) (o := .cells #[.slice A0_0 l0_0.length c0_0, .slice A0_1 l0_1.length c0_1, .bool a0_2, .bool a0_3, .int .i64 a0_4] 38 (0, 0)) (by (with_reducible repeat (first | refine blk_drewN ?_ _ | refine blk_drew ?_ | refine blk_alloc ?_ _)); exact BK102.out) hg (Kd.R_ne HO108.out BK102.out (by decide)))
      have n1_ := Aside0.mk (hb)
      have n2_ := Aside0.mk (ho)
      clear BK102
      clear HB
      clear HO108
      have BK102 := n0_
      have HB := n1_
      have HO111 := n2_
      clear n0_ n1_ n2_
      clear ho hb hg hat
      obtain ⟨Ao10, co10, eo10⟩ := Kd.R_slice HO111.out
      (first | subst eo10 | (injection eo10 with f1_ f2_ f3_; have f4_ := f1_.symm; have f5_ := f3_.symm; clear f1_ f2_ f3_; subst f4_; subst f5_))
      refine hK.out _ _ ⟨(blk_cell BK102.out 0).trans rfl, (blk_cell BK102.out 1).trans rfl, (blk_cell BK102.out 2).trans rfl, (blk_cell BK102.out 3).trans rfl, (blk_cell BK102.out 4).trans rfl⟩ (fun hHeld => ?_)
      clear hK K
      refine norm_ (a' := ?_) ?_ ?_
      rotate_left
      · show Act.put _ (some 11) _ = _
        simp only [Act.put, List.setIfInBounds_toArray, List.set_cons_zero, List.set_cons_succ, i64_w, i32_w]
        rfl
      refine pure_ (i := 7) (N := some 12) (v := ?_) (a' := ?_) #[true, true, true, true, true, true, true, true, true] rfl rfl (any_of HT_.out (by kernel_rfl)) (fun _ _ _ h => h) (Or.inl ⟨by rfl, ?_⟩) ?_ ?_
      rotate_left
      · intro w'
        go_simp
        with_reducible rfl
      rotate_left
      · simp only [Act.put, List.setIfInBounds_toArray, List.set_cons_zero, List.set_cons_succ, i64_w, i32_w]
        rfl
      refine done_ (done_of HT_.out (by kernel_rfl)) ?_
      try go_wp2
      go_loopg [13] k (fun kq v13 w' => ∃ (x13_1 : Int), v13 = .int .i64 x13_1 ∧ Aside0 (laws_splits.l0 kq y109 (y109.length : Int) x13_1 l0_0 l0_1 a0_2 a0_3 a0_4 = some r) ∧ Aside0 (kq ≤ k) ∧ Aside0 (Kd.R (Kd.int .i32) 21 w' w.heap.size (fun _ => True) (.slice Ao10 y109.length co10) y109) ∧ Aside0 (w'.heap[gb102]? = some (.cells #[(.slice A0_0 l0_0.length c0_0), (.slice A0_1 l0_1.length c0_1), .bool a0_2, .bool a0_3, .int .i64 a0_4] 38 (0, 0))) ∧ Aside0 (Below w.heap.size w w'))
      case atStart => exact ⟨(0), (by first | rfl | (simp; done) | (simp [*]; done)), H', ⟨Nat.le_refl _⟩, ⟨by (with_reducible repeat (first | apply Kd.R_alloc | apply Kd.R_drewN | apply Kd.R_drew)); exact HO111.out⟩, ⟨by (with_reducible repeat (first | refine blk_drewN ?_ _ | refine blk_drew ?_ | refine blk_alloc ?_ _)); exact BK102.out⟩, ⟨by repeat (first | (with_reducible first | exact HB.out | apply below_alloc | apply pw_below_drewN | apply below_drew1 | refine below_set ?_ GE102.out) | exact HB.out)⟩⟩
      case round =>
        clear H'
        try clear c1
        try clear c2
        try clear p2
        try clear c3
        obtain ⟨x13_1, rfl, HA, HK1, HO_11, BK102, HB⟩ := hrel
        cases gk with
        | zero => exact absurd HA.out (by simp [laws_splits.l0])
        | succ k1 =>
          have H := HA.out
          clear HA
          simp only [laws_splits.l0] at H
          by_cases c11 : x13_1 < (y109.length : Int)
          · rw [if_pos c11] at H
            have c11b0 : decide (x13_1 < (y109.length : Int)) = true := decide_eq_true c11
            clear c11
            by_cases c12 : 0 ≤ x13_1
            · rw [if_pos c12] at H
              have c12b0 : decide (0 ≤ x13_1) = true := decide_eq_true c12
              clear c12
              by_cases c13 : x13_1 < (y109.length : Int)
              · rw [if_pos c13] at H
                have c13b0 : decide (x13_1 < (y109.length : Int)) = true := decide_eq_true c13
                clear c13
                replace H := Option.bind_eq_some_iff.mp H
                obtain ⟨t113, A140, H⟩ := H
                replace H : (if t113 = true then (some false) else (if (rd y109 x13_1) = 65533 then (some false) else ((utf8_ValidRune.f k1 (rd y109 x13_1)).bind fun t114 => (if t114 = true then (laws_splits.l0 k1 y109 (y109.length : Int) (wrap64 (x13_1 + 1)) l0_0 l0_1 a0_2 a0_3 a0_4) else (some false))))) = some r := H
                have A14 := Aside0.mk A140
                clear A140
                by_cases c15 : t113 = true
                · subst c15
                  have H1 : (some false) = some r := by rw [if_pos rfl] at H; exact H
                  clear H
                  have H := H1
                  clear H1
                  obtain rfl := Option.some.inj H
                  have p112 : 0 ≤ (x13_1 : Int) := of_decide_eq_true (by first | (with_reducible assumption) | assumption)
                  have q112 : x13_1 < (y109.length : Int) := of_decide_eq_true (by first | (with_reducible assumption) | assumption)
                  obtain ⟨ad112, e112, hx112_0⟩ := Kd.at_int (Kd.R_reads' HO_11.out).2.2 x13_1 p112 q112
                  cases e112
                  replace p112 := eq_true p112
                  replace q112 := eq_true q112
                  go_wp2_with (first | ((with_reducible refine gate_callee (f := 18) rfl ?_); refine goesL_ (some 18) rfl rfl Tryd.func18 (by kernel_rfl) rfl #[.int .i32 (rd y109 x13_1)] rfl (by (try simp only [List.map_toArray, List.map_cons, List.map_nil]); first | done | rfl | (simp only [List.length_drop, List.length_take]; rfl)) ?_; (with_reducible refine (laws_white.calls k1 (rd y109 x13_1) true _ A14.out).mono ?_); rintro e w' ⟨rfl, ⟨nd, rfl⟩⟩; refine ⟨_, rfl, ?_⟩))
                  go_ret
                  exact ⟨by first | rfl | (simp [errW_none, errW_some] <;> rfl) | (simp [*, errW_none, errW_some] <;> rfl), by repeat (first | (with_reducible first | exact HB.out | apply below_alloc | apply pw_below_drewN | apply below_drew1 | refine below_set ?_ GE102.out) | exact HB.out)⟩
                · replace c15 := Bool.eq_false_iff.mpr c15
                  subst c15
                  have H1 : (if (rd y109 x13_1) = 65533 then (some false) else ((utf8_ValidRune.f k1 (rd y109 x13_1)).bind fun t114 => (if t114 = true then (laws_splits.l0 k1 y109 (y109.length : Int) (wrap64 (x13_1 + 1)) l0_0 l0_1 a0_2 a0_3 a0_4) else (some false)))) = some r := by rw [if_neg (show ¬ (false = true) by decide)] at H; exact H
                  clear H
                  have H := H1
                  clear H1
                  by_cases c16 : (rd y109 x13_1) = 65533
                  · rw [if_pos c16] at H
                    have c16b0 : ((rd y109 x13_1) == 65533) = true := beq_iff_eq.mpr c16
                    have c16b1 : ((rd y109 x13_1) != 65533) = false := bne_eq_false_iff_eq.mpr c16
                    clear c16
                    obtain rfl := Option.some.inj H
                    have p112 : 0 ≤ (x13_1 : Int) := of_decide_eq_true (by first | (with_reducible assumption) | assumption)
                    have q112 : x13_1 < (y109.length : Int) := of_decide_eq_true (by first | (with_reducible assumption) | assumption)
                    obtain ⟨ad112, e112, hx112_0⟩ := Kd.at_int (Kd.R_reads' HO_11.out).2.2 x13_1 p112 q112
                    cases e112
                    replace p112 := eq_true p112
                    replace q112 := eq_true q112
                    go_wp2_with (first | ((with_reducible refine gate_callee (f := 18) rfl ?_); refine goesL_ (some 18) rfl rfl Tryd.func18 (by kernel_rfl) rfl #[.int .i32 (rd y109 x13_1)] rfl (by (try simp only [List.map_toArray, List.map_cons, List.map_nil]); first | done | rfl | (simp only [List.length_drop, List.length_take]; rfl)) ?_; (with_reducible refine (laws_white.calls k1 (rd y109 x13_1) false _ A14.out).mono ?_); rintro e w' ⟨rfl, ⟨nd, rfl⟩⟩; refine ⟨_, rfl, ?_⟩))
                    go_ret
                    exact ⟨by first | rfl | (simp [errW_none, errW_some] <;> rfl) | (simp [*, errW_none, errW_some] <;> rfl), by repeat (first | (with_reducible first | exact HB.out | apply below_alloc | apply pw_below_drewN | apply below_drew1 | refine below_set ?_ GE102.out) | exact HB.out)⟩
                  · rw [if_neg c16] at H
                    have c16b0 : ((rd y109 x13_1) == 65533) = false := beq_eq_false_iff_ne.mpr c16
                    have c16b1 : ((rd y109 x13_1) != 65533) = true := bne_iff_ne.mpr c16
                    replace H := Option.bind_eq_some_iff.mp H
                    obtain ⟨t114, A170, H⟩ := H
                    replace H : (if t114 = true then (laws_splits.l0 k1 y109 (y109.length : Int) (wrap64 (x13_1 + 1)) l0_0 l0_1 a0_2 a0_3 a0_4) else (some false)) = some r := H
                    have A17 := Aside0.mk A170
                    clear A170
                    by_cases c18 : t114 = true
                    · subst c18
                      have H1 : (laws_splits.l0 k1 y109 (y109.length : Int) (wrap64 (x13_1 + 1)) l0_0 l0_1 a0_2 a0_3 a0_4) = some r := by rw [if_pos rfl] at H; exact H
                      clear H
                      have H := H1
                      clear H1
                      have H' := Aside0.mk H
                      clear H
                      have p112 : 0 ≤ (x13_1 : Int) := of_decide_eq_true (by first | (with_reducible assumption) | assumption)
                      have q112 : x13_1 < (y109.length : Int) := of_decide_eq_true (by first | (with_reducible assumption) | assumption)
                      obtain ⟨ad112, e112, hx112_0⟩ := Kd.at_int (Kd.R_reads' HO_11.out).2.2 x13_1 p112 q112
                      cases e112
                      replace p112 := eq_true p112
                      replace q112 := eq_true q112
                      go_wp2_with (first | ((with_reducible refine gate_callee (f := 18) rfl ?_); refine goesL_ (some 18) rfl rfl Tryd.func18 (by kernel_rfl) rfl #[.int .i32 (rd y109 x13_1)] rfl (by (try simp only [List.map_toArray, List.map_cons, List.map_nil]); first | done | rfl | (simp only [List.length_drop, List.length_take]; rfl)) ?_; (with_reducible refine (laws_white.calls k1 (rd y109 x13_1) false _ A14.out).mono ?_); rintro e w' ⟨rfl, ⟨nd, rfl⟩⟩; refine ⟨_, rfl, ?_⟩) | (go_at_call 34; (with_reducible refine (utf8_ValidRune.calls k1 (rd y109 x13_1) true _ A17.out).mono ?_); rintro e w' ⟨rfl, ⟨nd, rfl⟩⟩))
                      go_roundg k1
                      case measure => have := HK1.out; omega
                      case rel => exact ⟨(wrap64 (x13_1 + 1)), (by first | rfl | (simp; done) | (simp [*]; done)), H', ⟨by have := HK1.out; omega⟩, ⟨by (with_reducible repeat (first | apply Kd.R_alloc | apply Kd.R_drewN | apply Kd.R_drew)); exact HO_11.out⟩, ⟨by (with_reducible repeat (first | refine blk_drewN ?_ _ | refine blk_drew ?_ | refine blk_alloc ?_ _)); exact BK102.out⟩, ⟨by repeat (first | (with_reducible first | exact HB.out | apply below_alloc | apply pw_below_drewN | apply below_drew1 | refine below_set ?_ GE102.out) | exact HB.out)⟩⟩
                    · replace c18 := Bool.eq_false_iff.mpr c18
                      subst c18
                      have H1 : (some false) = some r := by rw [if_neg (show ¬ (false = true) by decide)] at H; exact H
                      clear H
                      have H := H1
                      clear H1
                      obtain rfl := Option.some.inj H
                      have p112 : 0 ≤ (x13_1 : Int) := of_decide_eq_true (by first | (with_reducible assumption) | assumption)
                      have q112 : x13_1 < (y109.length : Int) := of_decide_eq_true (by first | (with_reducible assumption) | assumption)
                      obtain ⟨ad112, e112, hx112_0⟩ := Kd.at_int (Kd.R_reads' HO_11.out).2.2 x13_1 p112 q112
                      cases e112
                      replace p112 := eq_true p112
                      replace q112 := eq_true q112
                      go_wp2_with (first | ((with_reducible refine gate_callee (f := 18) rfl ?_); refine goesL_ (some 18) rfl rfl Tryd.func18 (by kernel_rfl) rfl #[.int .i32 (rd y109 x13_1)] rfl (by (try simp only [List.map_toArray, List.map_cons, List.map_nil]); first | done | rfl | (simp only [List.length_drop, List.length_take]; rfl)) ?_; (with_reducible refine (laws_white.calls k1 (rd y109 x13_1) false _ A14.out).mono ?_); rintro e w' ⟨rfl, ⟨nd, rfl⟩⟩; refine ⟨_, rfl, ?_⟩) | (go_at_call 34; (with_reducible refine (utf8_ValidRune.calls k1 (rd y109 x13_1) false _ A17.out).mono ?_); rintro e w' ⟨rfl, ⟨nd, rfl⟩⟩))
                      go_ret
                      exact ⟨by first | rfl | (simp [errW_none, errW_some] <;> rfl) | (simp [*, errW_none, errW_some] <;> rfl), by repeat (first | (with_reducible first | exact HB.out | apply below_alloc | apply pw_below_drewN | apply below_drew1 | refine below_set ?_ GE102.out) | exact HB.out)⟩
              · rw [if_neg c13] at H
                exact absurd H (by simp)
            · rw [if_neg c12] at H
              exact absurd H (by simp)
          · rw [if_neg c11] at H
            have c11b0 : decide (x13_1 < (y109.length : Int)) = false := decide_eq_false c11
            clear c11
            by_cases c19 : (l0_0.length : Int) ≤ 20
            · rw [if_pos c19] at H
              have c19b0 : decide ((l0_0.length : Int) ≤ 20) = true := decide_eq_true c19
              have c19b1 : decide (l0_0.length ≤ 20) = true := decide_eq_true (by omega)
              clear c19
              by_cases c20 : (l0_1.length : Int) ≤ 20
              · rw [if_pos c20] at H
                have c20b0 : decide ((l0_1.length : Int) ≤ 20) = true := decide_eq_true c20
                have c20b1 : decide (l0_1.length ≤ 20) = true := decide_eq_true (by omega)
                clear c20
                by_cases c21 : a0_4 ≤ 1048576
                · rw [if_pos c21] at H
                  have c21b0 : decide (a0_4 ≤ 1048576) = true := decide_eq_true c21
                  clear c21
                  obtain rfl := Option.some.inj H
                  have hcz22_0 : wr.cell? ⟨gb102, 0, none⟩ = some (.slice A0_0 l0_0.length c0_0) := (blk_cell BK102.out 0).trans rfl
                  have hcz22_1 : wr.cell? ⟨gb102, 1, none⟩ = some (.slice A0_1 l0_1.length c0_1) := (blk_cell BK102.out 1).trans rfl
                  have hcz22_2 : wr.cell? ⟨gb102, 2, none⟩ = some (.bool a0_2) := (blk_cell BK102.out 2).trans rfl
                  have hcz22_3 : wr.cell? ⟨gb102, 3, none⟩ = some (.bool a0_3) := (blk_cell BK102.out 3).trans rfl
                  have hcz22_4 : wr.cell? ⟨gb102, 4, none⟩ = some (.int .i64 a0_4) := (blk_cell BK102.out 4).trans rfl
                  have hfz22_0 := blk_frozen BK102.out 0
                  have hfz22_1 := blk_frozen BK102.out 1
                  have hfz22_2 := blk_frozen BK102.out 2
                  have hfz22_3 := blk_frozen BK102.out 3
                  have hfz22_4 := blk_frozen BK102.out 4
                  go_wp2
                  go_ret
                  exact ⟨by first | rfl | (simp [errW_none, errW_some] <;> rfl) | (simp [*, errW_none, errW_some] <;> rfl), by repeat (first | (with_reducible first | exact HB.out | apply below_alloc | apply pw_below_drewN | apply below_drew1 | refine below_set ?_ GE102.out) | exact HB.out)⟩
                · rw [if_neg c21] at H
                  have c21b0 : decide (a0_4 ≤ 1048576) = false := decide_eq_false c21
                  clear c21
                  obtain rfl := Option.some.inj H
                  have hcz23_0 : wr.cell? ⟨gb102, 0, none⟩ = some (.slice A0_0 l0_0.length c0_0) := (blk_cell BK102.out 0).trans rfl
                  have hcz23_1 : wr.cell? ⟨gb102, 1, none⟩ = some (.slice A0_1 l0_1.length c0_1) := (blk_cell BK102.out 1).trans rfl
                  have hcz23_2 : wr.cell? ⟨gb102, 2, none⟩ = some (.bool a0_2) := (blk_cell BK102.out 2).trans rfl
                  have hcz23_3 : wr.cell? ⟨gb102, 3, none⟩ = some (.bool a0_3) := (blk_cell BK102.out 3).trans rfl
                  have hcz23_4 : wr.cell? ⟨gb102, 4, none⟩ = some (.int .i64 a0_4) := (blk_cell BK102.out 4).trans rfl
                  have hfz23_0 := blk_frozen BK102.out 0
                  have hfz23_1 := blk_frozen BK102.out 1
                  have hfz23_2 := blk_frozen BK102.out 2
                  have hfz23_3 := blk_frozen BK102.out 3
                  have hfz23_4 := blk_frozen BK102.out 4
                  go_wp2
                  go_ret
                  exact ⟨by first | rfl | (simp [errW_none, errW_some] <;> rfl) | (simp [*, errW_none, errW_some] <;> rfl), by repeat (first | (with_reducible first | exact HB.out | apply below_alloc | apply pw_below_drewN | apply below_drew1 | refine below_set ?_ GE102.out) | exact HB.out)⟩
              · rw [if_neg c20] at H
                have c20b0 : decide ((l0_1.length : Int) ≤ 20) = false := decide_eq_false c20
                have c20b1 : decide (l0_1.length ≤ 20) = false := decide_eq_false (by omega)
                clear c20
                obtain rfl := Option.some.inj H
                have hcz24_0 : wr.cell? ⟨gb102, 0, none⟩ = some (.slice A0_0 l0_0.length c0_0) := (blk_cell BK102.out 0).trans rfl
                have hcz24_1 : wr.cell? ⟨gb102, 1, none⟩ = some (.slice A0_1 l0_1.length c0_1) := (blk_cell BK102.out 1).trans rfl
                have hcz24_2 : wr.cell? ⟨gb102, 2, none⟩ = some (.bool a0_2) := (blk_cell BK102.out 2).trans rfl
                have hcz24_3 : wr.cell? ⟨gb102, 3, none⟩ = some (.bool a0_3) := (blk_cell BK102.out 3).trans rfl
                have hcz24_4 : wr.cell? ⟨gb102, 4, none⟩ = some (.int .i64 a0_4) := (blk_cell BK102.out 4).trans rfl
                have hfz24_0 := blk_frozen BK102.out 0
                have hfz24_1 := blk_frozen BK102.out 1
                have hfz24_2 := blk_frozen BK102.out 2
                have hfz24_3 := blk_frozen BK102.out 3
                have hfz24_4 := blk_frozen BK102.out 4
                go_wp2
                go_ret
                exact ⟨by first | rfl | (simp [errW_none, errW_some] <;> rfl) | (simp [*, errW_none, errW_some] <;> rfl), by repeat (first | (with_reducible first | exact HB.out | apply below_alloc | apply pw_below_drewN | apply below_drew1 | refine below_set ?_ GE102.out) | exact HB.out)⟩
            · rw [if_neg c19] at H
              have c19b0 : decide ((l0_0.length : Int) ≤ 20) = false := decide_eq_false c19
              have c19b1 : decide (l0_0.length ≤ 20) = false := decide_eq_false (by omega)
              clear c19
              obtain rfl := Option.some.inj H
              have hcz25_0 : wr.cell? ⟨gb102, 0, none⟩ = some (.slice A0_0 l0_0.length c0_0) := (blk_cell BK102.out 0).trans rfl
              have hcz25_1 : wr.cell? ⟨gb102, 1, none⟩ = some (.slice A0_1 l0_1.length c0_1) := (blk_cell BK102.out 1).trans rfl
              have hcz25_2 : wr.cell? ⟨gb102, 2, none⟩ = some (.bool a0_2) := (blk_cell BK102.out 2).trans rfl
              have hcz25_3 : wr.cell? ⟨gb102, 3, none⟩ = some (.bool a0_3) := (blk_cell BK102.out 3).trans rfl
              have hcz25_4 : wr.cell? ⟨gb102, 4, none⟩ = some (.int .i64 a0_4) := (blk_cell BK102.out 4).trans rfl
              have hfz25_0 := blk_frozen BK102.out 0
              have hfz25_1 := blk_frozen BK102.out 1
              have hfz25_2 := blk_frozen BK102.out 2
              have hfz25_3 := blk_frozen BK102.out 3
              have hfz25_4 := blk_frozen BK102.out 4
              go_wp2
              go_ret
              exact ⟨by first | rfl | (simp [errW_none, errW_some] <;> rfl) | (simp [*, errW_none, errW_some] <;> rfl), by repeat (first | (with_reducible first | exact HB.out | apply below_alloc | apply pw_below_drewN | apply below_drew1 | refine below_set ?_ GE102.out) | exact HB.out)⟩
    · rw [if_neg c3] at H
      exact absurd H (by simp)
  · rw [if_neg c2] at H
    exact absurd H (by simp)

/-! ### laws_readable: function 16 -/
def laws_readable.f (a0 : ByteArray) : Option (Bool) := none
set_option maxHeartbeats 8000000 in
set_option maxRecDepth 100000 in
theorem laws_readable.calls (a0 : ByteArray) (r : Bool) (w : World) (h : laws_readable.f a0 = some r) :
    Calls Tryd.prog 16 #[.string a0] w fun e w' => e = .returned (.bool r) ∧ Drawn0 w w' := by
  have H : (none) = some r := h
  clear h
  exact absurd H (by simp)

/-! ### slices_Clone_rune_rune: function 50 -/
def slices_Clone_rune_rune.f (l0 : List Int) : Option (List Int) := (some (([] : List Int) : List Int)).bind fun y115 => (if y115.length + l0.length < 35184372088832 then (some (y115 ++ l0)) else (none))
set_option maxHeartbeats 8000000 in
set_option maxRecDepth 100000 in
theorem slices_Clone_rune_rune.calls (A0 : Option Addr) (c0 : Nat) (l0 : List Int) (r : List Int) (w : World) (hr0 : Kd.C (Kd.int .i32) w A0 l0.length l0) (hc0 : l0.length ≤ c0) (h : slices_Clone_rune_rune.f l0 = some r) :
    Calls Tryd.prog 50 #[.slice A0 l0.length c0] w fun e w' => ∃ v0_ : Value, e = .returned (v0_) ∧ Kd.R (Kd.int .i32) 21 w' w.heap.size (fun _ => True) v0_ r ∧ Below w.heap.size w w' := by
  have hl := hr0.1
  cases A0 with
  | none =>
    have hl0 : l0 = [] := by
      cases l0 with
      | nil => rfl
      | cons a l => exact absurd (hr0.2.2 (by simp)) (by rintro ⟨_, h, _⟩; cases h)
    subst hl0
    obtain rfl : [] = r := by
      simp only [slices_Clone_rune_rune.f, Option.bind_some] at h
      rw [if_pos (by simp)] at h
      simpa using h
    have hnil := fun (n c : Nat) (w : World) => Lib.run_eql_slice_nil (P := Tryd.prog) w 36 21 none n c 0 0 Tryd.underlying36
    clear hl hr0 hc0 h
    go_enter Tryd.func50, Tryd.ntmps50
    go_wp2
    go_ret
    exact ⟨_, rfl, Kd.R_nil _ _ _ _ _, Below.refl _ _⟩
  | some a0 =>
    have hnil := fun (n c : Nat) (w : World) => Lib.run_eql_slice_nil (P := Tryd.prog) w 36 21 (some a0) n c 0 0 Tryd.underlying36
    clear hl
    have HR0 := Aside0.mk hr0
    have HC0 := Aside0.mk hc0
    clear hr0 hc0
    have HB := Aside0.mk (Below.refl w.heap.size w)
    have H : ((some (([] : List Int) : List Int)).bind fun y115 => (if y115.length + l0.length < 35184372088832 then (some (y115 ++ l0)) else (none))) = some r := h
    clear h
    obtain ⟨y115, hy115⟩ : ∃ y_ : List Int, y_ = (([] : List Int)) := ⟨_, rfl⟩
    replace H : (if y115.length + l0.length < 35184372088832 then (some (y115 ++ l0)) else (none)) = some r := by first | (rw [hy115]; with_reducible exact H) | (have H2_ := (Option.bind_some _ _).symm.trans H; rw [hy115]; with_reducible exact H2_) | (have H2_ := (Option.bind_some _ _).symm.trans H; with_reducible exact H2_) | with_reducible exact H | (rw [hy115]; exact H) | exact H
    have Ny115 := Aside0.mk hy115
    clear hy115
    by_cases c2 : y115.length + l0.length < 35184372088832
    · rw [if_pos c2] at H
      have LMc2 := Aside0.mk c2
      clear c2
      obtain ⟨y118, hy118⟩ : ∃ y_ : List Int, y_ = (y115 ++ l0) := ⟨_, rfl⟩
      replace H : (some y118) = some r := by first | (rw [hy118]; with_reducible exact H) | (have H2_ := (Option.bind_some _ _).symm.trans H; rw [hy118]; with_reducible exact H2_) | (have H2_ := (Option.bind_some _ _).symm.trans H; with_reducible exact H2_) | with_reducible exact H | (rw [hy118]; exact H) | exact H
      have Ny118 := Aside0.mk hy118
      clear hy118
      obtain rfl := Option.some.inj H
      go_enter Tryd.func50, Tryd.ntmps50
      go_wp2_with (first | ((with_reducible refine gate_dst (N := 5) rfl ?_); refine Kd.R_lit (Kd.int .i32) _ 21 ?hg (N := 5) ?hd (xs := ([] : List Int)) (inner := []) (ok := fun _ => True) (okp := fun _ => True) ?hr ?hp (fun _ hk => hk) trivial (Below.refl _ _) (Nat.le_refl _) (by simp) ?_; (case hd => rfl); (case hg => rfl); (case hr => first | (go_simp; done) | (go_simp; rfl)); (case hp => exact (Reps.none _ _)); intro v116 w3 ho4 hb hg_ hnew_; clear hg_ hnew_; (first | rw [← Ny115.out] at ho4 | (simp only [Int.reduceToNat] at ho4; rw [← Ny115.out] at ho4)); have n0_ := Aside0.mk (Kd.R_lower ho4 (below_size (by repeat (first | (with_reducible first | exact HB.out | apply below_alloc | apply pw_below_drewN | apply below_drew1) | exact HB.out)))); have n1_ := Aside0.mk (below_step (by repeat (first | (with_reducible first | exact HB.out | apply below_alloc | apply pw_below_drewN | apply below_drew1) | exact HB.out)) hb); clear HB; have HO117 := n0_; have HB := n1_; clear n0_ n1_; clear hb ho4) | ((with_reducible refine gate_builtin (b := .append) (xs := #[.tmp 5, .tmp 6]) rfl ?_); at_builtin; refine Kd.R_append_rows (Kd.int .i32) (w0 := w) w.heap.size rfl (.tmp 5) (.tmp 6) 36 21 (.int .i32 0) 4 rfl Tryd.underlying36 info21 rfl (by decide) (by omega) v116 y115 l0 _ _ _ (fun _ => True) (fun _ => False) rfl rfl ?aO ?aR (fun _ _ h => h) (fun _ h => h.elim) ?aF ?aB ?aS ?aL ?_; (case aR => repeat (first | exact (Kd.C_below HR0.out HB.out) | (with_reducible refine Kd.C_alloc ?_ _) | (with_reducible refine Kd.C_drewN ?_ _) | (with_reducible refine Kd.C_drew ?_))); (case aB => exact (by repeat (first | (with_reducible first | exact HB.out | apply below_alloc | apply pw_below_drewN | apply below_drew1) | exact HB.out))); (case aF => exact (fun _ _ => trivial)); (case aO => exact (by (with_reducible repeat (first | apply Kd.R_alloc | apply Kd.R_drewN | apply Kd.R_drew)); exact HO117.out)); (case aS => exact (below_size (by repeat (first | (with_reducible first | exact HB.out | apply below_alloc | apply pw_below_drewN | apply below_drew1) | exact HB.out)))); (case aL => have := LMc2.out; omega); intro v119 w5 ho hb hg hat; rw [← Ny118.out] at ho; have n0_ := Aside0.mk (hb); have n1_ := Aside0.mk (ho); clear HB; clear HO117; have HB := n0_; have HO120 := n1_; clear n0_ n1_; clear ho hb hg hat))
      go_ret
      exact ⟨_, by first | rfl | (simp [errW_none, errW_some] <;> rfl) | (simp [*, errW_none, errW_some] <;> rfl), by (with_reducible repeat (first | apply Kd.R_alloc | apply Kd.R_drewN | apply Kd.R_drew)); exact HO120.out, by repeat (first | (with_reducible first | exact HB.out | apply below_alloc | apply pw_below_drewN | apply below_drew1) | exact HB.out)⟩
    · rw [if_neg c2] at H
      exact absurd H (by simp)


/-! ### impl_splitterOf: function 36 -/
def impl_splitterOf.f (l0_0 : List Int) (l0_1 : List Int) (a0_2 : Bool) (a0_3 : Bool) (a0_4 : Int) : Option (List Int × List Int × Bool × Bool × Int) := (slices_Clone_rune_rune.f l0_0).bind fun t123 => ((slices_Clone_rune_rune.f l0_1).bind fun t126 => (some (t123, t126, a0_2, a0_3, a0_4)))
def impl_splitterOf.T1 : Bool × List (List Nat × List Nat) := (true, [([], []), ([0], [0]), ([1], [1]), ([], []), ([3], [3]), ([4, 2], [4]), ([], []), ([6], [6]), ([], []), ([8], [8]), ([], []), ([10], [10]), ([2, 5, 7, 9, 11], [2, 5, 7, 9, 11]), ([12, 5, 0, 1, 2, 3, 4, 5, 6, 7, 8, 9, 10, 11, 12], [12])])
def impl_splitterOf.B1 : List Nat := [0, 1, 3, 0, 8, 31, 0, 64, 0, 256, 0, 1024, 4095, 8191]
theorem impl_splitterOf.tab1 : rtab .any (opsOf Tryd.f36 1) = impl_splitterOf.T1 := by kernel_rfl
theorem impl_splitterOf.bits1 : waitsOk impl_splitterOf.T1.2 impl_splitterOf.B1 = true := by kernel_rfl
set_option maxHeartbeats 8000000 in
set_option maxRecDepth 100000 in
theorem impl_splitterOf.calls (A0_0 : Option Addr) (c0_0 : Nat) (l0_0 : List Int) (A0_1 : Option Addr) (c0_1 : Nat) (l0_1 : List Int) (a0_2 : Bool) (a0_3 : Bool) (a0_4 : Int) (r1 : List Int) (r2 : List Int) (r3 : Bool) (r4 : Bool) (r5 : Int) (w : World) (hr0_0 : Kd.C (Kd.int .i32) w A0_0 l0_0.length l0_0) (hc0_0 : l0_0.length ≤ c0_0) (hr0_1 : Kd.C (Kd.int .i32) w A0_1 l0_1.length l0_1) (hc0_1 : l0_1.length ≤ c0_1) (h : impl_splitterOf.f l0_0 l0_1 a0_2 a0_3 a0_4 = some (r1, r2, r3, r4, r5)) :
    Calls Tryd.prog 36 #[.agg #[.slice A0_0 l0_0.length c0_0, .slice A0_1 l0_1.length c0_1, .bool a0_2, .bool a0_3, .int .i64 a0_4]] w fun e w' => ∃ v0_ v1_ : Value, e = .returned (.agg #[v0_, v1_, .bool r3, .bool r4, .int .i64 r5]) ∧ Kd.R (Kd.int .i32) 21 w' w.heap.size (fun k_ => some k_ ≠ (v1_ : Value).ownBlock) v0_ r1 ∧ Kd.R (Kd.int .i32) 21 w' w.heap.size (fun k_ => some k_ ≠ (v0_ : Value).ownBlock) v1_ r2 ∧ Below w.heap.size w w' := by
  have hu38 := Tryd.underlying38
  have hu81 := Tryd.underlying81
  have HR0_0 := Aside0.mk hr0_0
  have HC0_0 := Aside0.mk hc0_0
  clear hr0_0 hc0_0
  have HR0_1 := Aside0.mk hr0_1
  have HC0_1 := Aside0.mk hc0_1
  clear hr0_1 hc0_1
  have HB := Aside0.mk (Below.refl w.heap.size w)
  have H : ((slices_Clone_rune_rune.f l0_0).bind fun t123 => ((slices_Clone_rune_rune.f l0_1).bind fun t126 => (some (t123, t126, a0_2, a0_3, a0_4)))) = some (r1, r2, r3, r4, r5) := h
  clear h
  replace H := Option.bind_eq_some_iff.mp H
  obtain ⟨t123, A20, H⟩ := H
  replace H : ((slices_Clone_rune_rune.f l0_1).bind fun t126 => (some (t123, t126, a0_2, a0_3, a0_4))) = some (r1, r2, r3, r4, r5) := H
  have A2 := Aside0.mk A20
  clear A20
  replace H := Option.bind_eq_some_iff.mp H
  obtain ⟨t126, A30, H⟩ := H
  replace H : (some (t123, t126, a0_2, a0_3, a0_4)) = some (r1, r2, r3, r4, r5) := H
  have A3 := Aside0.mk A30
  clear A30
  simp only [Option.some.injEq, Prod.mk.injEq] at H
  obtain ⟨rfl, rfl, rfl, rfl, rfl⟩ := H
  go_enter Tryd.func36, Tryd.ntmps36
  try go_wp2_with (first | ((with_reducible refine gate_dst (N := 1) rfl ?_); refine box_event ?hg (N := 1) ?hd (cs := #[.slice A0_0 l0_0.length c0_0, .slice A0_1 l0_1.length c0_1, .bool a0_2, .bool a0_3, .int .i64 a0_4]) (t := 38) ?hr ?_; (case hd => rfl); (case hg => rfl); (case hr => first | (go_simp; done) | (go_simp; rfl)); intro gb121 hg w4 hbox hb; have n0_ := Aside0.mk (below_step (by repeat (first | (with_reducible first | exact HB.out | apply below_alloc | apply pw_below_drewN | apply below_drew1) | exact HB.out)) hb); have n1_ := Aside0.mk (hbox); have n2_ := Aside0.mk ((by rw [hg]; exact (below_size (by repeat (first | (with_reducible first | exact HB.out | apply below_alloc | apply pw_below_drewN | apply below_drew1) | exact HB.out))) : w.heap.size ≤ gb121)); have n3_ := Aside0.mk ((by rw [hg]; exact (below_size (by repeat (first | (with_reducible first | exact HB.out | apply below_alloc | apply pw_below_drewN | apply below_drew1) | exact HB.out))) : w.heap.size ≤ gb121)); clear HB; have HB := n0_; have BK121 := n1_; have GW121 := n2_; have GE121 := n3_; clear n0_ n1_ n2_ n3_; clear hb hbox hg) | ((with_reducible refine gate_dst (N := 2) rfl ?_); refine box_event ?hg (N := 2) ?hd (cs := #[.slice none 0 0, .slice none 0 0, .bool false, .bool false, .int .i64 0]) (t := 81) ?hr ?_; (case hd => rfl); (case hg => rfl); (case hr => first | (go_simp; done) | (go_simp; rfl)); intro gb122 hg w5 hbox hb; have n0_ := Aside0.mk (blk_below (g := gb121) (o := .cells #[.slice A0_0 l0_0.length c0_0, .slice A0_1 l0_1.length c0_1, .bool a0_2, .bool a0_3, .int .i64 a0_4] 38 (0, 0)) (by (with_reducible repeat (first | refine blk_drewN ?_ _ | refine blk_drew ?_ | refine blk_alloc ?_ _)); exact BK121.out) hb); have n1_ := Aside0.mk (below_step (by repeat (first | (with_reducible first | exact HB.out | apply below_alloc | apply pw_below_drewN | apply below_drew1 | refine below_set ?_ GE121.out) | exact HB.out)) hb); have n2_ := Aside0.mk (hbox); have n3_ := Aside0.mk ((by rw [hg]; exact (below_size (by repeat (first | (with_reducible first | exact HB.out | apply below_alloc | apply pw_below_drewN | apply below_drew1 | refine below_set ?_ GE121.out) | exact HB.out))) : w.heap.size ≤ gb122)); have n4_ := Aside0.mk ((by rw [hg]; exact (below_size (by repeat (first | (with_reducible first | exact HB.out | apply below_alloc | apply pw_below_drewN | apply below_drew1 | refine below_set ?_ GE121.out) | exact HB.out))) : w.heap.size ≤ gb122)); have n5_ := Aside0.mk ((by rw [hg]; exact Nat.ne_of_lt (blk_lt (g := gb121) (o := .cells #[.slice A0_0 l0_0.length c0_0, .slice A0_1 l0_1.length c0_1, .bool a0_2, .bool a0_3, .int .i64 a0_4] 38 (0, 0)) (by (with_reducible repeat (first | refine blk_drewN ?_ _ | refine blk_drew ?_ | refine blk_alloc ?_ _)); exact BK121.out)) : gb121 ≠ gb122)); have n6_ := Aside0.mk ((by rw [hg]; exact Nat.ne_of_gt (blk_lt (g := gb121) (o := .cells #[.slice A0_0 l0_0.length c0_0, .slice A0_1 l0_1.length c0_1, .bool a0_2, .bool a0_3, .int .i64 a0_4] 38 (0, 0)) (by (with_reducible repeat (first | refine blk_drewN ?_ _ | refine blk_drew ?_ | refine blk_alloc ?_ _)); exact BK121.out)) : gb122 ≠ gb121)); clear BK121; clear HB; have BK121 := n0_; have HB := n1_; have BK122 := n2_; have GW122 := n3_; have GE122 := n4_; have NB121_122 := n5_; have NB122_121 := n6_; clear n0_ n1_ n2_ n3_ n4_ n5_ n6_; clear hb hbox hg))
  have n0_ := Aside0.mk (blk_drew BK121.out)
  have n1_ := Aside0.mk (blk_drew BK122.out)
  have n2_ := Aside0.mk (below_drew1 HB.out)
  clear BK121
  clear BK122
  clear HB
  have BK121 := n0_
  have BK122 := n1_
  have HB := n2_
  clear n0_ n1_ n2_
  refine start_ (n := 14) (S := fun w' => w'.cell? ⟨gb121, 0, none⟩ = some (.slice A0_0 l0_0.length c0_0) ∧ w'.cell? ⟨gb121, 1, none⟩ = some (.slice A0_1 l0_1.length c0_1) ∧ w'.cell? ⟨gb121, 2, none⟩ = some (.bool a0_2) ∧ w'.cell? ⟨gb121, 3, none⟩ = some (.bool a0_3) ∧ w'.cell? ⟨gb121, 4, none⟩ = some (.int .i64 a0_4)) (ds := []) #[false, false, false, false, false, false, false, false, false, false, false, false, false, false] (by kernel_rfl) rfl rfl ⟨(blk_cell BK121.out 0).trans rfl, (blk_cell BK121.out 1).trans rfl, (blk_cell BK121.out 2).trans rfl, (blk_cell BK121.out 3).trans rfl, (blk_cell BK121.out 4).trans rfl⟩ (fun hHeld => ?_); refine with_tabW impl_splitterOf.tab1 impl_splitterOf.bits1 (fun HT_ HW_ => ?_)
  generalize w5.drew = w6 at BK121 BK122 HB hHeld ⊢
  refine pure_ (i := 0) (N := some 3) (v := ?_) (a' := ?_) #[true, false, false, false, false, false, false, false, false, false, false, false, false, false] rfl rfl (any_of HT_.out (by kernel_rfl)) (fun _ _ _ h => h) (Or.inl ⟨by rfl, ?_⟩) ?_ ?_
  rotate_left
  · intro w'
    go_simp
    with_reducible rfl
  rotate_left
  · simp only [Act.put, List.setIfInBounds_toArray, List.set_cons_zero, List.set_cons_succ, i64_w, i32_w]
    rfl
  refine pure_ (i := 3) (N := some 6) (v := ?_) (a' := ?_) #[true, false, false, true, false, false, false, false, false, false, false, false, false, false] rfl rfl (any_of HT_.out (by kernel_rfl)) (fun _ _ _ h => h) (Or.inl ⟨by rfl, ?_⟩) ?_ ?_
  rotate_left
  · intro w'
    go_simp
    with_reducible rfl
  rotate_left
  · simp only [Act.put, List.setIfInBounds_toArray, List.set_cons_zero, List.set_cons_succ, i64_w, i32_w]
    rfl
  refine pure_ (i := 6) (N := some 9) (v := ?_) (a' := ?_) #[true, false, false, true, false, false, true, false, false, false, false, false, false, false] rfl rfl (any_of HT_.out (by kernel_rfl)) (fun _ _ _ h => h) (Or.inl ⟨by rfl, ?_⟩) ?_ ?_
  rotate_left
  · intro w'
    go_simp
    with_reducible rfl
  rotate_left
  · simp only [Act.put, List.setIfInBounds_toArray, List.set_cons_zero, List.set_cons_succ, i64_w, i32_w]
    rfl
  refine pure_ (i := 8) (N := some 11) (v := ?_) (a' := ?_) #[true, false, false, true, false, false, true, false, true, false, false, false, false, false] rfl rfl (any_of HT_.out (by kernel_rfl)) (fun _ _ _ h => h) (Or.inl ⟨by rfl, ?_⟩) ?_ ?_
  rotate_left
  · intro w'
    go_simp
    with_reducible rfl
  rotate_left
  · simp only [Act.put, List.setIfInBounds_toArray, List.set_cons_zero, List.set_cons_succ, i64_w, i32_w]
    rfl
  refine pure_ (i := 10) (N := some 13) (v := ?_) (a' := ?_) #[true, false, false, true, false, false, true, false, true, false, true, false, false, false] rfl rfl (any_of HT_.out (by kernel_rfl)) (fun _ _ _ h => h) (Or.inl ⟨by rfl, ?_⟩) ?_ ?_
  rotate_left
  · intro w'
    go_simp
    with_reducible rfl
  rotate_left
  · simp only [Act.put, List.setIfInBounds_toArray, List.set_cons_zero, List.set_cons_succ, i64_w, i32_w]
    rfl
  refine take_ (i := 1) (N := some 4) (v := ?_) (a' := ?_) #[true, true, false, true, false, false, true, false, true, false, true, false, false, false] rfl rfl (take_ofW HT_.out HW_.out (by kernel_rfl)) (fun _ _ _ h => h) (Or.inl ⟨by rfl, ?_⟩) hHeld ?_ ?_
  rotate_left
  · rintro w' ⟨s0, s1, s2, s3, s4⟩
    go_simp
    with_reducible rfl
  rotate_left
  · simp only [Act.put, List.setIfInBounds_toArray, List.set_cons_zero, List.set_cons_succ, i64_w, i32_w]
    rfl
  refine take_ (i := 4) (N := some 7) (v := ?_) (a' := ?_) #[true, true, false, true, true, false, true, false, true, false, true, false, false, false] rfl rfl (take_ofW HT_.out HW_.out (by kernel_rfl)) (fun _ _ _ h => h) (Or.inl ⟨by rfl, ?_⟩) hHeld ?_ ?_
  rotate_left
  · rintro w' ⟨s0, s1, s2, s3, s4⟩
    go_simp
    with_reducible rfl
  rotate_left
  · simp only [Act.put, List.setIfInBounds_toArray, List.set_cons_zero, List.set_cons_succ, i64_w, i32_w]
    rfl
  refine take_ (i := 7) (N := some 10) (v := ?_) (a' := ?_) #[true, true, false, true, true, false, true, true, true, false, true, false, false, false] rfl rfl (take_ofW HT_.out HW_.out (by kernel_rfl)) (fun _ _ _ h => h) (Or.inl ⟨by rfl, ?_⟩) hHeld ?_ ?_
  rotate_left
  · rintro w' ⟨s0, s1, s2, s3, s4⟩
    go_simp
    with_reducible rfl
  rotate_left
  · simp only [Act.put, List.setIfInBounds_toArray, List.set_cons_zero, List.set_cons_succ, i64_w, i32_w]
    rfl
  refine take_ (i := 9) (N := some 12) (v := ?_) (a' := ?_) #[true, true, false, true, true, false, true, true, true, true, true, false, false, false] rfl rfl (take_ofW HT_.out HW_.out (by kernel_rfl)) (fun _ _ _ h => h) (Or.inl ⟨by rfl, ?_⟩) hHeld ?_ ?_
  rotate_left
  · rintro w' ⟨s0, s1, s2, s3, s4⟩
    go_simp
    with_reducible rfl
  rotate_left
  · simp only [Act.put, List.setIfInBounds_toArray, List.set_cons_zero, List.set_cons_succ, i64_w, i32_w]
    rfl
  refine take_ (i := 11) (N := some 14) (v := ?_) (a' := ?_) #[true, true, false, true, true, false, true, true, true, true, true, true, false, false] rfl rfl (take_ofW HT_.out HW_.out (by kernel_rfl)) (fun _ _ _ h => h) (Or.inl ⟨by rfl, ?_⟩) hHeld ?_ ?_
  rotate_left
  · rintro w' ⟨s0, s1, s2, s3, s4⟩
    go_simp
    with_reducible rfl
  rotate_left
  · simp only [Act.put, List.setIfInBounds_toArray, List.set_cons_zero, List.set_cons_succ, i64_w, i32_w]
    rfl
  refine one_ (i := 2) (N := some 5) #[true, true, true, true, true, false, true, true, true, true, true, true, false, false] rfl rfl (one_of HT_.out (by kernel_rfl)) (by decide) (fun K hK => ?_)
  refine goes_ Tryd.func50 (by kernel_rfl) rfl #[.slice A0_0 l0_0.length c0_0] (by rfl) rfl rfl (by (try simp only [List.map_toArray, List.map_cons, List.map_nil]); first | done | rfl | (simp only [List.length_drop, List.length_take]; rfl)) ?_
  with_reducible refine (slices_Clone_rune_rune.calls _ _ l0_0 t123 _ ?side1 ?side2 A2.out).mono ?_
  (case side1 => repeat (first | exact (Kd.C_below HR0_0.out HB.out) | (with_reducible refine Kd.C_alloc ?_ _) | (with_reducible refine Kd.C_drewN ?_ _) | (with_reducible refine Kd.C_drew ?_)))
  (case side2 => exact HC0_0.out)
  rintro e w7 ⟨v124, rfl, ho0, hb⟩
  refine ⟨_, rfl, ?_⟩
  have n0_ := Aside0.mk (Kd.R_lower ho0 (below_size (by repeat (first | (with_reducible first | exact HB.out | apply below_alloc | apply pw_below_drewN | apply below_drew1 | refine below_set ?_ GE121.out | refine below_set ?_ GE122.out) | exact HB.out))))
  have n1_ := Aside0.mk (blk_below (g := gb121) (o := .cells #[.slice A0_0 l0_0.length c0_0, .slice A0_1 l0_1.length c0_1, .bool a0_2, .bool a0_3, .int .i64 a0_4] 38 (0, 0)) (by (with_reducible repeat (first | refine blk_drewN ?_ _ | refine blk_drew ?_ | refine blk_alloc ?_ _)); exact BK121.out) hb)
  have n2_ := Aside0.mk (blk_below (g := gb122) (o := .cells #[.slice none 0 0, .slice none 0 0, .bool false, .bool false, .int .i64 0] 81 (0, 0)) (by (with_reducible repeat (first | refine blk_drewN ?_ _ | refine blk_drew ?_ | refine blk_alloc ?_ _)); exact BK122.out) hb)
  have n3_ := Aside0.mk (below_step (by repeat (first | (with_reducible first | exact HB.out | apply below_alloc | apply pw_below_drewN | apply below_drew1 | refine below_set ?_ GE121.out | refine below_set ?_ GE122.out) | exact HB.out)) hb)
  clear BK121
  clear BK122
  clear HB
  have HO125 := n0_
  have BK121 := n1_
  have BK122 := n2_
  have HB := n3_
  clear n0_ n1_ n2_ n3_
  (try clear hb)
  (try clear hb2)
  (try clear hk)
  (try clear hi)
  (try clear ho0)
  refine hK.out _ _ ⟨(blk_cell BK121.out 0).trans rfl, (blk_cell BK121.out 1).trans rfl, (blk_cell BK121.out 2).trans rfl, (blk_cell BK121.out 3).trans rfl, (blk_cell BK121.out 4).trans rfl⟩ (fun hHeld => ?_)
  clear hK K
  refine norm_ (a' := ?_) ?_ ?_
  rotate_left
  · show Act.put _ (some 5) _ = _
    simp only [Act.put, List.setIfInBounds_toArray, List.set_cons_zero, List.set_cons_succ, i64_w, i32_w]
    rfl
  refine one_ (i := 5) (N := some 8) #[true, true, true, true, true, true, true, true, true, true, true, true, false, false] rfl rfl (one_of HT_.out (by kernel_rfl)) (by decide) (fun K hK => ?_)
  refine goes_ Tryd.func50 (by kernel_rfl) rfl #[.slice A0_1 l0_1.length c0_1] (by rfl) rfl rfl (by (try simp only [List.map_toArray, List.map_cons, List.map_nil]); first | done | rfl | (simp only [List.length_drop, List.length_take]; rfl)) ?_
  with_reducible refine (slices_Clone_rune_rune.calls _ _ l0_1 t126 _ ?side1 ?side2 A3.out).mono ?_
  (case side1 => repeat (first | exact (Kd.C_below HR0_1.out HB.out) | (with_reducible refine Kd.C_alloc ?_ _) | (with_reducible refine Kd.C_drewN ?_ _) | (with_reducible refine Kd.C_drew ?_)))
  (case side2 => exact HC0_1.out)
  rintro e w8 ⟨v127, rfl, ho0, hb⟩
  refine ⟨_, rfl, ?_⟩
  have n0_ := Aside0.mk (Kd.R_elder' (by (with_reducible repeat (first | apply Kd.R_alloc | apply Kd.R_drewN | apply Kd.R_drew)); exact HO125.out) (Kd.R_base ho0) hb)
  have n1_ := Aside0.mk (Kd.R_lower (Kd.R_new' ho0 (Kd.R_lt (by (with_reducible repeat (first | apply Kd.R_alloc | apply Kd.R_drewN | apply Kd.R_drew)); exact HO125.out))) (below_size (by repeat (first | (with_reducible first | exact HB.out | apply below_alloc | apply pw_below_drewN | apply below_drew1 | refine below_set ?_ GE121.out | refine below_set ?_ GE122.out) | exact HB.out))))
  have n2_ := Aside0.mk (blk_below (g := gb121) (o := .cells #[.slice A0_0 l0_0.length c0_0, .slice A0_1 l0_1.length c0_1, .bool a0_2, .bool a0_3, .int .i64 a0_4] 38 (0, 0)) (by (with_reducible repeat (first | refine blk_drewN ?_ _ | refine blk_drew ?_ | refine blk_alloc ?_ _)); exact BK121.out) hb)
  have n3_ := Aside0.mk (blk_below (g := gb122) (o := .cells #[.slice none 0 0, .slice none 0 0, .bool false, .bool false, .int .i64 0] 81 (0, 0)) (by (with_reducible repeat (first | refine blk_drewN ?_ _ | refine blk_drew ?_ | refine blk_alloc ?_ _)); exact BK122.out) hb)
  have n4_ := Aside0.mk (below_step (by repeat (first | (with_reducible first | exact HB.out | apply below_alloc | apply pw_below_drewN | apply below_drew1 | refine below_set ?_ GE121.out | refine below_set ?_ GE122.out) | exact HB.out)) hb)
  clear HO125
  clear BK121
  clear BK122
  clear HB
  have HO125 := n0_
  have HO128 := n1_
  have BK121 := n2_
  have BK122 := n3_
  have HB := n4_
  clear n0_ n1_ n2_ n3_ n4_
  (try clear hb)
  (try clear hb2)
  (try clear hk)
  (try clear hi)
  (try clear ho0)
  obtain ⟨Ao9, co9, eo9⟩ := Kd.R_slice HO128.out
  (first | subst eo9 | (injection eo9 with f1_ f2_ f3_; have f4_ := f1_.symm; have f5_ := f3_.symm; clear f1_ f2_ f3_; subst f4_; subst f5_))
  obtain ⟨Ao10, co10, eo10⟩ := Kd.R_slice HO125.out
  (first | subst eo10 | (injection eo10 with f1_ f2_ f3_; have f4_ := f1_.symm; have f5_ := f3_.symm; clear f1_ f2_ f3_; subst f4_; subst f5_))
  refine hK.out _ _ ⟨(blk_cell BK121.out 0).trans rfl, (blk_cell BK121.out 1).trans rfl, (blk_cell BK121.out 2).trans rfl, (blk_cell BK121.out 3).trans rfl, (blk_cell BK121.out 4).trans rfl⟩ (fun hHeld => ?_)
  clear hK K
  refine norm_ (a' := ?_) ?_ ?_
  rotate_left
  · show Act.put _ (some 8) _ = _
    simp only [Act.put, List.setIfInBounds_toArray, List.set_cons_zero, List.set_cons_succ, i64_w, i32_w]
    rfl
  refine pure_ (i := 12) (N := some 15) (v := ?_) (a' := ?_) #[true, true, true, true, true, true, true, true, true, true, true, true, true, false] rfl rfl (any_of HT_.out (by kernel_rfl)) (fun _ _ _ h => h) (Or.inl ⟨by rfl, ?_⟩) ?_ ?_
  rotate_left
  · intro w'
    go_simp
    with_reducible rfl
  rotate_left
  · simp only [Act.put, List.setIfInBounds_toArray, List.set_cons_zero, List.set_cons_succ, i64_w, i32_w]
    rfl
  refine one_ (i := 13) (N := none) #[true, true, true, true, true, true, true, true, true, true, true, true, true, true] rfl rfl (one_of HT_.out (by kernel_rfl)) (by decide) (fun K hK => ?_)
  have hs11 : w8.cell? ⟨gb122, 0, none⟩ = some (.slice none 0 0) := (blk_cell BK122.out 0).trans rfl
  have hfs11 := blk_frozen BK122.out 0
  have hns11_0 := NB121_122.out
  have hms11_0 := NB122_121.out
  have hs12 : w8.cell? ⟨gb122, 1, none⟩ = some (.slice none 0 0) := (blk_cell BK122.out 1).trans rfl
  have hfs12 := blk_frozen BK122.out 1
  have hns12_0 := NB121_122.out
  have hms12_0 := NB122_121.out
  have hs13 : w8.cell? ⟨gb122, 2, none⟩ = some (.bool false) := (blk_cell BK122.out 2).trans rfl
  have hfs13 := blk_frozen BK122.out 2
  have hns13_0 := NB121_122.out
  have hms13_0 := NB122_121.out
  have hs14 : w8.cell? ⟨gb122, 3, none⟩ = some (.bool false) := (blk_cell BK122.out 3).trans rfl
  have hfs14 := blk_frozen BK122.out 3
  have hns14_0 := NB121_122.out
  have hms14_0 := NB122_121.out
  have hs15 : w8.cell? ⟨gb122, 4, none⟩ = some (.int .i64 0) := (blk_cell BK122.out 4).trans rfl
  have hfs15 := blk_frozen BK122.out 4
  have hns15_0 := NB121_122.out
  have hms15_0 := NB122_121.out
  refine skip_ (w1 := ?_) (by rfl) rfl ?_ ?_
  rotate_left
  · go_simp
    rfl
  refine hK.out _ _ ⟨((cell_far (p := ⟨gb122, _, none⟩) NB121_122.out _).trans (((cell_far (p := ⟨gb122, _, none⟩) NB121_122.out _).trans (((cell_far (p := ⟨gb122, _, none⟩) NB121_122.out _).trans (((cell_far (p := ⟨gb122, _, none⟩) NB121_122.out _).trans (((cell_far (p := ⟨gb122, _, none⟩) NB121_122.out _).trans (hHeld.1)))))))))), ((cell_far (p := ⟨gb122, _, none⟩) NB121_122.out _).trans (((cell_far (p := ⟨gb122, _, none⟩) NB121_122.out _).trans (((cell_far (p := ⟨gb122, _, none⟩) NB121_122.out _).trans (((cell_far (p := ⟨gb122, _, none⟩) NB121_122.out _).trans (((cell_far (p := ⟨gb122, _, none⟩) NB121_122.out _).trans (hHeld.2.1)))))))))), ((cell_far (p := ⟨gb122, _, none⟩) NB121_122.out _).trans (((cell_far (p := ⟨gb122, _, none⟩) NB121_122.out _).trans (((cell_far (p := ⟨gb122, _, none⟩) NB121_122.out _).trans (((cell_far (p := ⟨gb122, _, none⟩) NB121_122.out _).trans (((cell_far (p := ⟨gb122, _, none⟩) NB121_122.out _).trans (hHeld.2.2.1)))))))))), ((cell_far (p := ⟨gb122, _, none⟩) NB121_122.out _).trans (((cell_far (p := ⟨gb122, _, none⟩) NB121_122.out _).trans (((cell_far (p := ⟨gb122, _, none⟩) NB121_122.out _).trans (((cell_far (p := ⟨gb122, _, none⟩) NB121_122.out _).trans (((cell_far (p := ⟨gb122, _, none⟩) NB121_122.out _).trans (hHeld.2.2.2.1)))))))))), ((cell_far (p := ⟨gb122, _, none⟩) NB121_122.out _).trans (((cell_far (p := ⟨gb122, _, none⟩) NB121_122.out _).trans (((cell_far (p := ⟨gb122, _, none⟩) NB121_122.out _).trans (((cell_far (p := ⟨gb122, _, none⟩) NB121_122.out _).trans (((cell_far (p := ⟨gb122, _, none⟩) NB121_122.out _).trans (hHeld.2.2.2.2))))))))))⟩ (fun hHeld => ?_)
  clear hK K
  refine done_ (done_of HT_.out (by kernel_rfl)) ?_
  try go_wp2
  refine bodyPost_ret (results_cell_row rfl _ _ gb122 81 #[.slice Ao10 t123.length co10, .slice Ao9 t126.length co9, .bool a0_2, .bool a0_3, .int .i64 a0_4] (0, 0) _ rfl (by (with_reducible repeat (first | refine blk_drewN ?_ _ | refine blk_drew ?_ | refine blk_alloc ?_ _)); refine blk_put (cs := #[.slice Ao10 t123.length co10, .slice Ao9 t126.length co9, .bool a0_2, .bool a0_3, .int .i64 0]) ?_ 4 _ rfl; (with_reducible repeat (first | refine blk_drewN ?_ _ | refine blk_drew ?_ | refine blk_alloc ?_ _)); refine blk_put (cs := #[.slice Ao10 t123.length co10, .slice Ao9 t126.length co9, .bool a0_2, .bool false, .int .i64 0]) ?_ 3 _ rfl; (with_reducible repeat (first | refine blk_drewN ?_ _ | refine blk_drew ?_ | refine blk_alloc ?_ _)); refine blk_put (cs := #[.slice Ao10 t123.length co10, .slice Ao9 t126.length co9, .bool false, .bool false, .int .i64 0]) ?_ 2 _ rfl; (with_reducible repeat (first | refine blk_drewN ?_ _ | refine blk_drew ?_ | refine blk_alloc ?_ _)); refine blk_put (cs := #[.slice Ao10 t123.length co10, .slice none 0 0, .bool false, .bool false, .int .i64 0]) ?_ 1 _ rfl; (with_reducible repeat (first | refine blk_drewN ?_ _ | refine blk_drew ?_ | refine blk_alloc ?_ _)); refine blk_put (cs := #[.slice none 0 0, .slice none 0 0, .bool false, .bool false, .int .i64 0]) ?_ 0 _ rfl; (with_reducible repeat (first | refine blk_drewN ?_ _ | refine blk_drew ?_ | refine blk_alloc ?_ _)); exact BK122.out) Tryd.underlying81 rfl (by kernel_rfl)) rfl ?_
  exact ⟨_, _, by first | rfl | (simp [errW_none, errW_some] <;> rfl) | (simp [*, errW_none, errW_some] <;> rfl), by (with_reducible repeat (first | apply Kd.R_alloc | apply Kd.R_drewN | apply Kd.R_drew)); exact Kd.R_mono (Kd.R_far (p := ⟨gb122, 4, none⟩) (Kd.R_far (p := ⟨gb122, 3, none⟩) (Kd.R_far (p := ⟨gb122, 2, none⟩) (Kd.R_far (p := ⟨gb122, 1, none⟩) (Kd.R_far (p := ⟨gb122, 0, none⟩) (Kd.R_types HO125.out BK122.out (by decide)) (fun _ hk => hk.2) (.slice Ao10 t123.length co10)) (fun _ hk => hk.2) (.slice Ao9 t126.length co9)) (fun _ hk => hk.2) (.bool a0_2)) (fun _ hk => hk.2) (.bool a0_3)) (fun _ hk => hk.2) (.int .i64 a0_4)) (fun _ hk => hk.1.2), by (with_reducible repeat (first | apply Kd.R_alloc | apply Kd.R_drewN | apply Kd.R_drew)); exact Kd.R_mono (Kd.R_far (p := ⟨gb122, 4, none⟩) (Kd.R_far (p := ⟨gb122, 3, none⟩) (Kd.R_far (p := ⟨gb122, 2, none⟩) (Kd.R_far (p := ⟨gb122, 1, none⟩) (Kd.R_far (p := ⟨gb122, 0, none⟩) (Kd.R_types HO128.out BK122.out (by decide)) (fun _ hk => hk.2) (.slice Ao10 t123.length co10)) (fun _ hk => hk.2) (.slice Ao9 t126.length co9)) (fun _ hk => hk.2) (.bool a0_2)) (fun _ hk => hk.2) (.bool a0_3)) (fun _ hk => hk.2) (.int .i64 a0_4)) (fun _ hk => hk.1.2), by repeat (first | (with_reducible first | exact HB.out | apply below_alloc | apply pw_below_drewN | apply below_drew1 | refine below_set ?_ GE121.out | refine below_set ?_ GE122.out) | exact HB.out)⟩

-- NOT PRINTED: function 60 (unicode_is16)

-- NOT PRINTED: function 61 (unicode_is32)

-- NOT PRINTED: function 56 (unicode_isExcludingLatin)

-- NOT PRINTED: function 41 (unicode_IsSpace)

-- NOT PRINTED: function 58 (utf8_decodeRuneSlow)

-- NOT PRINTED: function 51 (utf8_DecodeRune)

/-! ### filter_SentenceSplitter_isDelim: function 52 -/
def filter_SentenceSplitter_isDelim.l0 : Nat → Int → List Int → Int → Int → Option (Bool)
  | 0, _, _, _, _ => none
  | k + 1, x1, x8, x9, x10 => if x10 < x9 then (if 0 ≤ x10 then (if x10 < (x8.length : Int) then (if x1 = (rd x8 x10) then (some true) else (filter_SentenceSplitter_isDelim.l0 k x1 x8 x9 (wrap64 (x10 + 1)))) else (none)) else (none)) else (some false)
def filter_SentenceSplitter_isDelim.f (k : Nat) (l0_0 : List Int) (l0_1 : List Int) (a0_2 : Bool) (a0_3 : Bool) (a0_4 : Int) (a1 : Int) : Option (Bool) := filter_SentenceSplitter_isDelim.l0 k a1 l0_0 (l0_0.length : Int) 0
theorem filter_SentenceSplitter_isDelim.mono_l : ∀ k, (∀ y0 y1 y2 y3, LeO (filter_SentenceSplitter_isDelim.l0 k y0 y1 y2 y3) (filter_SentenceSplitter_isDelim.l0 (k + 1) y0 y1 y2 y3))
  | 0 => fun _ _ _ _ r h => by simp [filter_SentenceSplitter_isDelim.l0] at h
  | k + 1 => by
    have ih0 := filter_SentenceSplitter_isDelim.mono_l k
    · intro y0 y1 y2 y3
      unfold filter_SentenceSplitter_isDelim.l0
      repeat' first
      | (with_reducible exact ih0 _ _ _ _)
      | (with_reducible exact LeO.refl _)
      | (with_reducible exact LeO.none _)
      | (with_reducible refine LeO.ite ?_ ?_)
      | (with_reducible refine LeO.bind ?_ (fun _ => ?_))
      | exact ih0 _ _ _ _
      | exact LeO.none _
      | refine LeO.ite ?_ ?_
      | refine LeO.bind ?_ (fun _ => ?_)
theorem filter_SentenceSplitter_isDelim.mono : ∀ a0 a1 a2 a3 a4 a5 k, LeO (filter_SentenceSplitter_isDelim.f k a0 a1 a2 a3 a4 a5) (filter_SentenceSplitter_isDelim.f (k + 1) a0 a1 a2 a3 a4 a5) := by
  intro a0 a1 a2 a3 a4 a5 k
  have ih0 := filter_SentenceSplitter_isDelim.mono_l k
  unfold filter_SentenceSplitter_isDelim.f
  repeat' first
      | (with_reducible exact ih0 _ _ _ _)
      | (with_reducible exact LeO.refl _)
      | (with_reducible exact LeO.none _)
      | (with_reducible refine LeO.ite ?_ ?_)
      | (with_reducible refine LeO.bind ?_ (fun _ => ?_))
      | exact ih0 _ _ _ _
      | exact LeO.none _
      | refine LeO.ite ?_ ?_
      | refine LeO.bind ?_ (fun _ => ?_)
set_option maxHeartbeats 8000000 in
set_option maxRecDepth 100000 in
theorem filter_SentenceSplitter_isDelim.calls (k : Nat) (A0_0 : Option Addr) (c0_0 : Nat) (l0_0 : List Int) (A0_1 : Option Addr) (c0_1 : Nat) (l0_1 : List Int) (a0_2 : Bool) (a0_3 : Bool) (a0_4 : Int) (a1 : Int) (r : Bool) (w : World) (hr0_0 : Kd.C (Kd.int .i32) w A0_0 l0_0.length l0_0) (hc0_0 : l0_0.length ≤ c0_0) (hr0_1 : Kd.C (Kd.int .i32) w A0_1 l0_1.length l0_1) (hc0_1 : l0_1.length ≤ c0_1) (h : filter_SentenceSplitter_isDelim.f k l0_0 l0_1 a0_2 a0_3 a0_4 a1 = some r) :
    Calls Tryd.prog 52 #[.agg #[.slice A0_0 l0_0.length c0_0, .slice A0_1 l0_1.length c0_1, .bool a0_2, .bool a0_3, .int .i64 a0_4], .int .i32 a1] w fun e w' => e = .returned (.bool r) ∧ Below w.heap.size w w' := by
  have hu81 := Tryd.underlying81
  have HR0_0 := Aside0.mk hr0_0
  have HC0_0 := Aside0.mk hc0_0
  clear hr0_0 hc0_0
  have HR0_1 := Aside0.mk hr0_1
  have HC0_1 := Aside0.mk hc0_1
  clear hr0_1 hc0_1
  have HB := Aside0.mk (Below.refl w.heap.size w)
  have H : (filter_SentenceSplitter_isDelim.l0 k a1 l0_0 (l0_0.length : Int) 0) = some r := h
  clear h
  have H' := Aside0.mk H
  clear H
  go_enter Tryd.func52, Tryd.ntmps52
  go_wp2_with (first | ((with_reducible refine gate_dst (N := 2) rfl ?_); refine box_event ?hg (N := 2) ?hd (cs := #[.slice A0_0 l0_0.length c0_0, .slice A0_1 l0_1.length c0_1, .bool a0_2, .bool a0_3, .int .i64 a0_4]) (t := 81) ?hr ?_; (case hd => rfl); (case hg => rfl); (case hr => first | (go_simp; done) | (go_simp; rfl)); intro gb134 hg w3 hbox hb; have n0_ := Aside0.mk (below_step (by repeat (first | (with_reducible first | exact HB.out | apply below_alloc | apply pw_below_drewN | apply below_drew1) | exact HB.out)) hb); have n1_ := Aside0.mk (hbox); have n2_ := Aside0.mk ((by rw [hg]; exact (below_size (by repeat (first | (with_reducible first | exact HB.out | apply below_alloc | apply pw_below_drewN | apply below_drew1) | exact HB.out))) : w.heap.size ≤ gb134)); have n3_ := Aside0.mk ((by rw [hg]; exact (below_size (by repeat (first | (with_reducible first | exact HB.out | apply below_alloc | apply pw_below_drewN | apply below_drew1) | exact HB.out))) : w.heap.size ≤ gb134)); clear HB; have HB := n0_; have BK134 := n1_; have GW134 := n2_; have GE134 := n3_; clear n0_ n1_ n2_ n3_; clear hb hbox hg; have hcz4_0 : w3.cell? ⟨gb134, 0, none⟩ = some (.slice A0_0 l0_0.length c0_0) := (blk_cell BK134.out 0).trans rfl; have hcz4_1 : w3.cell? ⟨gb134, 1, none⟩ = some (.slice A0_1 l0_1.length c0_1) := (blk_cell BK134.out 1).trans rfl; have hcz4_2 : w3.cell? ⟨gb134, 2, none⟩ = some (.bool a0_2) := (blk_cell BK134.out 2).trans rfl; have hcz4_3 : w3.cell? ⟨gb134, 3, none⟩ = some (.bool a0_3) := (blk_cell BK134.out 3).trans rfl; have hcz4_4 : w3.cell? ⟨gb134, 4, none⟩ = some (.int .i64 a0_4) := (blk_cell BK134.out 4).trans rfl; have hfz4_0 := blk_frozen BK134.out 0; have hfz4_1 := blk_frozen BK134.out 1; have hfz4_2 := blk_frozen BK134.out 2; have hfz4_3 := blk_frozen BK134.out 3; have hfz4_4 := blk_frozen BK134.out 4))
  go_loopg [10] k (fun kq v10 w' => ∃ (x10_1 : Int), v10 = .int .i64 x10_1 ∧ Aside0 (filter_SentenceSplitter_isDelim.l0 kq a1 l0_0 (l0_0.length : Int) x10_1 = some r) ∧ Aside0 (kq ≤ k) ∧ Aside0 (w'.heap[gb134]? = some (.cells #[(.slice A0_0 l0_0.length c0_0), (.slice A0_1 l0_1.length c0_1), .bool a0_2, .bool a0_3, .int .i64 a0_4] 81 (0, 0))) ∧ Aside0 (Below w.heap.size w w'))
  case atStart => exact ⟨(0), (by first | rfl | (simp; done) | (simp [*]; done)), H', ⟨Nat.le_refl _⟩, ⟨by (with_reducible repeat (first | refine blk_drewN ?_ _ | refine blk_drew ?_ | refine blk_alloc ?_ _)); exact BK134.out⟩, ⟨by repeat (first | (with_reducible first | exact HB.out | apply below_alloc | apply pw_below_drewN | apply below_drew1 | refine below_set ?_ GE134.out) | exact HB.out)⟩⟩
  case round =>
    clear H'
    try clear p2
    try clear hcz4_0
    try clear hcz4_1
    try clear hcz4_2
    try clear hcz4_3
    try clear hcz4_4
    try clear hfz4_0
    try clear hfz4_1
    try clear hfz4_2
    try clear hfz4_3
    try clear hfz4_4
    obtain ⟨x10_1, rfl, HA, HK1, BK134, HB⟩ := hrel
    cases gk with
    | zero => exact absurd HA.out (by simp [filter_SentenceSplitter_isDelim.l0])
    | succ k1 =>
      have H := HA.out
      clear HA
      simp only [filter_SentenceSplitter_isDelim.l0] at H
      by_cases c5 : x10_1 < (l0_0.length : Int)
      · rw [if_pos c5] at H
        have c5b0 : decide (x10_1 < (l0_0.length : Int)) = true := decide_eq_true c5
        clear c5
        by_cases c6 : 0 ≤ x10_1
        · rw [if_pos c6] at H
          have c6b0 : decide (0 ≤ x10_1) = true := decide_eq_true c6
          clear c6
          by_cases c7 : x10_1 < (l0_0.length : Int)
          · rw [if_pos c7] at H
            have c7b0 : decide (x10_1 < (l0_0.length : Int)) = true := decide_eq_true c7
            clear c7
            by_cases c8 : a1 = (rd l0_0 x10_1)
            · rw [if_pos c8] at H
              have c8b0 : (a1 == (rd l0_0 x10_1)) = true := beq_iff_eq.mpr c8
              have c8b1 : (a1 != (rd l0_0 x10_1)) = false := bne_eq_false_iff_eq.mpr c8
              clear c8
              obtain rfl := Option.some.inj H
              have p135 : 0 ≤ (x10_1 : Int) := of_decide_eq_true (by first | (with_reducible assumption) | assumption)
              have q135 : x10_1 < (l0_0.length : Int) := of_decide_eq_true (by first | (with_reducible assumption) | assumption)
              obtain ⟨ad135, e135, hx135_0⟩ := Kd.at_int HR0_0.out x10_1 p135 q135
              cases e135
              replace hx135_0 := (HB.out.cell (World.block_lt_of_cell? w _ hx135_0)).trans hx135_0
              replace p135 := eq_true p135
              replace q135 := eq_true q135
              go_wp2
              go_ret
              exact ⟨by first | rfl | (simp [errW_none, errW_some] <;> rfl) | (simp [*, errW_none, errW_some] <;> rfl), by repeat (first | (with_reducible first | exact HB.out | apply below_alloc | apply pw_below_drewN | apply below_drew1 | refine below_set ?_ GE134.out) | exact HB.out)⟩
            · rw [if_neg c8] at H
              have c8b0 : (a1 == (rd l0_0 x10_1)) = false := beq_eq_false_iff_ne.mpr c8
              have c8b1 : (a1 != (rd l0_0 x10_1)) = true := bne_iff_ne.mpr c8
              have H' := Aside0.mk H
              clear H
              have p135 : 0 ≤ (x10_1 : Int) := of_decide_eq_true (by first | (with_reducible assumption) | assumption)
              have q135 : x10_1 < (l0_0.length : Int) := of_decide_eq_true (by first | (with_reducible assumption) | assumption)
              obtain ⟨ad135, e135, hx135_0⟩ := Kd.at_int HR0_0.out x10_1 p135 q135
              cases e135
              replace hx135_0 := (HB.out.cell (World.block_lt_of_cell? w _ hx135_0)).trans hx135_0
              replace p135 := eq_true p135
              replace q135 := eq_true q135
              go_wp2
              go_roundg k1
              case measure => have := HK1.out; omega
              case rel => exact ⟨(wrap64 (x10_1 + 1)), (by first | rfl | (simp; done) | (simp [*]; done)), H', ⟨by have := HK1.out; omega⟩, ⟨by (with_reducible repeat (first | refine blk_drewN ?_ _ | refine blk_drew ?_ | refine blk_alloc ?_ _)); exact BK134.out⟩, ⟨by repeat (first | (with_reducible first | exact HB.out | apply below_alloc | apply pw_below_drewN | apply below_drew1 | refine below_set ?_ GE134.out) | exact HB.out)⟩⟩
          · rw [if_neg c7] at H
            exact absurd H (by simp)
        · rw [if_neg c6] at H
          exact absurd H (by simp)
      · rw [if_neg c5] at H
        have c5b0 : decide (x10_1 < (l0_0.length : Int)) = false := decide_eq_false c5
        clear c5
        obtain rfl := Option.some.inj H
        go_wp2
        go_ret
        exact ⟨by first | rfl | (simp [errW_none, errW_some] <;> rfl) | (simp [*, errW_none, errW_some] <;> rfl), by repeat (first | (with_reducible first | exact HB.out | apply below_alloc | apply pw_below_drewN | apply below_drew1 | refine below_set ?_ GE134.out) | exact HB.out)⟩

end Go.Proofs.YtckdpckdabfkbabDoor.PC
