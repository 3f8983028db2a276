-- Written by a program of ours out of the kit's print program.
import Derived.Test.YtckdpckdabfkbaaPBx0
import Derived.Test.YtckdpckdabfkbaaPBx1
namespace Go.Proofs.Ytckdpckdabfkbaa.PB
open Go.RowKit Go.Proofs.YtckdpckdabfkbaaW.PrintWords Go.Proofs.YtckdpckdabfkbaaW.PrintLast Go.Proofs.YtckdpckdabfkbaaW.PrintMore
attribute [local go_sem] max2_int min2_int max_two min_two max_three min_three max_four min_four   -- for this text's walks alone
set_option linter.unusedVariables false
set_option linter.unusedSimpArgs false

/-! ### impl_copied: function 28 -/
def impl_copied.l0 : Nat → List (List ByteArray) → List (List ByteArray) → Int → Int → Option ((List (List ByteArray)))
  | 0, _, _, _, _ => none
  | k + 1, x3, x6, x7, x8 => if x8 < x7 then (if 0 ≤ x8 then (if x8 < (x6.length : Int) then ((slices_Clone_string_string.f (rd_L1 x6 x8)).bind fun t119 => (if x3.length < 5864062014805 then (impl_copied.l0 k (x3 ++ [t119]) x6 x7 (wrap64 (x8 + 1))) else (none))) else (none)) else (none)) else (some x3)
def impl_copied.f (k : Nat) (l0 : List (List ByteArray)) : Option ((List (List ByteArray))) := impl_copied.l0 k ([] : List (List ByteArray)) l0 (l0.length : Int) 0
theorem impl_copied.mono_l : ∀ k, (∀ y0 y1 y2 y3, LeO (impl_copied.l0 k y0 y1 y2 y3) (impl_copied.l0 (k + 1) y0 y1 y2 y3))
  | 0 => fun _ _ _ _ r h => by simp [impl_copied.l0] at h
  | k + 1 => by
    have ih0 := impl_copied.mono_l k
    · intro y0 y1 y2 y3
      unfold impl_copied.l0
      repeat' first
      | (with_reducible exact ih0 _ _ _ _)
      | (with_reducible exact LeO.refl _)
      | (with_reducible exact LeO.none _)
      | (with_reducible refine LeO.ite ?_ ?_)
      | (with_reducible refine LeO.bind ?_ (fun _ => ?_))
      | exact ih0 _ _ _ _
      | exact LeO.none _
      | refine LeO.ite ?_ ?_
      | refine LeO.bind ?_ (fun _ => ?_)
theorem impl_copied.mono : ∀ a0 k, LeO (impl_copied.f k a0) (impl_copied.f (k + 1) a0) := by
  intro a0 k
  have ih0 := impl_copied.mono_l k
  unfold impl_copied.f
  repeat' first
      | (with_reducible exact ih0 _ _ _ _)
      | (with_reducible exact LeO.refl _)
      | (with_reducible exact LeO.none _)
      | (with_reducible refine LeO.ite ?_ ?_)
      | (with_reducible refine LeO.bind ?_ (fun _ => ?_))
      | exact ih0 _ _ _ _
      | exact LeO.none _
      | refine LeO.ite ?_ ?_
      | refine LeO.bind ?_ (fun _ => ?_)
set_option maxHeartbeats 8000000 in
set_option maxRecDepth 100000 in
theorem impl_copied.calls (k : Nat) (A0 : Option Addr) (c0 : Nat) (l0 : List (List ByteArray)) (r : List (List ByteArray)) (w : World) (hr0 : Kd.C (Kd.slice 9 Kd.string) w A0 l0.length l0) (hc0 : l0.length ≤ c0) (h : impl_copied.f k l0 = some r) :
    Calls Try.prog 28 #[.slice A0 l0.length c0] w fun e w' => ∃ v0_ : Value, e = .returned (v0_) ∧ Kd.S (Kd.slice 9 Kd.string) 22 w' w.heap.size (fun _ => True) v0_ r ∧ Below w.heap.size w w' := by
  have HR0 := Aside0.mk hr0
  have HC0 := Aside0.mk hc0
  clear hr0 hc0
  have HB := Aside0.mk (Below.refl w.heap.size w)
  have H : (impl_copied.l0 k ([] : List (List ByteArray)) l0 (l0.length : Int) 0) = some r := h
  clear h
  have H' := Aside0.mk H
  clear H
  go_enter Try.func28, Try.ntmps28
  go_wp2
  go_loopg [3, 8] k (fun kq v3 v8 w' => ∃ (x3_1 : List (List ByteArray)) (x8_1 : Int), v8 = .int .i64 x8_1 ∧ Aside0 (impl_copied.l0 kq x3_1 l0 (l0.length : Int) x8_1 = some r) ∧ Aside0 (kq ≤ k) ∧ Aside0 (Kd.S (Kd.slice 9 Kd.string) 22 w' w.heap.size (fun _ => True) v3 x3_1) ∧ Aside0 (Below w.heap.size w w'))
  case atStart => exact ⟨(([] : List (List ByteArray))), (0), (by first | rfl | (simp; done) | (simp [*]; done)), H', ⟨Nat.le_refl _⟩, ⟨by first | exact Kd.S_nil _ _ _ _ _ | exact Kd.N_nil _ _ _ _ _ | exact Kd.V_nil _ _ _ _ _ | exact Kd.Q_nil _ _ _ _ _ | exact Kd.R_nil _ _ _ _ _⟩, ⟨by repeat (first | (with_reducible first | exact HB.out | apply below_alloc | apply pw_below_drewN | apply below_drew1) | exact HB.out)⟩⟩
  case round =>
    clear H'
    obtain ⟨x3_1, x8_1, rfl, HA, HK1, HO_3, HB⟩ := hrel
    cases gk with
    | zero => exact absurd HA.out (by simp [impl_copied.l0])
    | succ k1 =>
      have H := HA.out
      clear HA
      simp only [impl_copied.l0] at H
      by_cases c2 : x8_1 < (l0.length : Int)
      · rw [if_pos c2] at H
        have c2b0 : decide (x8_1 < (l0.length : Int)) = true := decide_eq_true c2
        clear c2
        by_cases c3 : 0 ≤ x8_1
        · rw [if_pos c3] at H
          have c3b0 : decide (0 ≤ x8_1) = true := decide_eq_true c3
          clear c3
          by_cases c4 : x8_1 < (l0.length : Int)
          · rw [if_pos c4] at H
            have c4b0 : decide (x8_1 < (l0.length : Int)) = true := decide_eq_true c4
            clear c4
            replace H := Option.bind_eq_some_iff.mp H
            obtain ⟨t119, A50, H⟩ := H
            replace H : (if x3_1.length < 5864062014805 then (impl_copied.l0 k1 (x3_1 ++ [t119]) l0 (l0.length : Int) (wrap64 (x8_1 + 1))) else (none)) = some r := H
            have A5 := Aside0.mk A50
            clear A50
            by_cases c6 : x3_1.length < 5864062014805
            · rw [if_pos c6] at H
              have LMc6 := Aside0.mk c6
              clear c6
              obtain ⟨y122, hy122⟩ : ∃ y_ : List (List ByteArray), y_ = (x3_1 ++ [t119]) := ⟨_, rfl⟩
              replace H : (impl_copied.l0 k1 y122 l0 (l0.length : Int) (wrap64 (x8_1 + 1))) = some r := by first | (rw [hy122]; with_reducible exact H) | (have H2_ := (Option.bind_some _ _).symm.trans H; rw [hy122]; with_reducible exact H2_) | (have H2_ := (Option.bind_some _ _).symm.trans H; with_reducible exact H2_) | with_reducible exact H | (rw [hy122]; exact H) | exact H
              have Ny122 := Aside0.mk hy122
              clear hy122
              have H' := Aside0.mk H
              clear H
              have p118 : 0 ≤ (x8_1 : Int) := of_decide_eq_true (by first | (with_reducible assumption) | assumption)
              have q118 : x8_1 < (l0.length : Int) := of_decide_eq_true (by first | (with_reducible assumption) | assumption)
              obtain ⟨ad118, A118_0, c118_0, e118, hx118_0, hl118_0, hi118_0⟩ := at_L1 HR0.out x8_1 p118 q118
              cases e118
              replace hx118_0 := (HB.out.cell (World.block_lt_of_cell? w _ hx118_0)).trans hx118_0
              have HR118_0 := Aside0.mk hi118_0
              have HC118_0 := Aside0.mk hl118_0
              clear hi118_0 hl118_0
              replace p118 := eq_true p118
              replace q118 := eq_true q118
              go_wp2_with (first | ((with_reducible refine gate_callee (f := 32) rfl ?_); refine goesL_ (some 14) rfl rfl Try.func32 (by kernel_rfl) rfl #[.slice A118_0 (rd_L1 l0 x8_1).length c118_0] rfl (by (try simp only [List.map_toArray, List.map_cons, List.map_nil]); first | done | rfl | (simp only [List.length_drop, List.length_take]; rfl)) ?_; (with_reducible refine (slices_Clone_string_string.calls _ _ (rd_L1 l0 x8_1) t119 _ ?side1 ?side2 A5.out).mono ?_); (case side1 => repeat (first | exact (Kd.C_below HR118_0.out HB.out) | (with_reducible refine Kd.C_alloc ?_ _) | (with_reducible refine Kd.C_drewN ?_ _) | (with_reducible refine Kd.C_drew ?_))); (case side2 => exact HC118_0.out); rintro e w7 ⟨v120, rfl, ho0, hb⟩; refine ⟨_, rfl, ?_⟩; have n0_ := Aside0.mk (Kd.S_elder' (by (with_reducible repeat (first | apply Kd.S_alloc | apply Kd.S_drewN | apply Kd.S_drew)); exact HO_3.out) (Kd.R_base ho0) hb); have n1_ := Aside0.mk (Kd.R_lower ho0 (below_size (by repeat (first | (with_reducible first | exact HB.out | apply below_alloc | apply pw_below_drewN | apply below_drew1) | exact HB.out)))); have n2_ := Aside0.mk (below_step (by repeat (first | (with_reducible first | exact HB.out | apply below_alloc | apply pw_below_drewN | apply below_drew1) | exact HB.out)) hb); clear HO_3; clear HB; have HO_3 := n0_; have HO121 := n1_; have HB := n2_; clear n0_ n1_ n2_; (try clear hb); (try clear hb2); (try clear hk); (try clear hi); (try clear ho0); obtain ⟨Ao9, co9, eo9⟩ := Kd.R_slice HO121.out; subst eo9) | ((with_reducible refine gate_builtin (b := .append) (xs := #[.tmp 12, .tmp 15]) rfl ?_); at_builtin; refine Kd.S_append (Kd.slice 9 Kd.string) (w0 := w) w.heap.size rfl (.tmp 12) (.tmp 15) 27 22 (.slice none 0 0) 24 rfl Try.underlying27 info22 rfl (by decide) (by omega) u3 x3_1 t119 [.slice Ao9 t119.length co9] (fun _ => True) (fun k_ => some k_ = (.slice Ao9 t119.length co9 : Value).ownBlock) rfl rfl ?aP (fun k_ hk_ => ((Kd.R_mono (ok' := fun k_ => ((fun _ => True)) k_ ∧ some k_ ≠ (u3 : Value).ownBlock) (Kd.R_apart' (HO121.out) (Kd.S_typed HO_3.out) (by decide)) (fun k_ hk => ⟨trivial, hk.2⟩))).1 k_ hk_.symm) ?aF ?aO ?aB ?aS ?aL ?_; (case aP => exact Kd.M_row (Kd.R_mono (Kd.R_tight rfl (Kd.R_mono (ok' := fun k_ => ((fun _ => True)) k_ ∧ some k_ ≠ (u3 : Value).ownBlock) (Kd.R_apart' (HO121.out) (Kd.S_typed HO_3.out) (by decide)) (fun k_ hk => ⟨trivial, hk.2⟩))) (fun _ h_ => h_))); (case aB => exact (by repeat (first | (with_reducible first | exact HB.out | apply below_alloc | apply pw_below_drewN | apply below_drew1) | exact HB.out))); (case aF => exact (fun _ _ => trivial)); (case aO => exact (by (with_reducible repeat (first | apply Kd.S_alloc | apply Kd.S_drewN | apply Kd.S_drew)); exact Kd.S_mono HO_3.out (fun k_ hk => ⟨trivial, fun e_ => hk.2 e_⟩))); (case aS => exact (below_size (by repeat (first | (with_reducible first | exact HB.out | apply below_alloc | apply pw_below_drewN | apply below_drew1) | exact HB.out)))); (case aL => have := LMc6.out; omega); intro v123 w8 ho hb hg hat; rw [← Ny122.out] at ho; have n0_ := Aside0.mk (hb); have n1_ := Aside0.mk (ho); clear HB; clear HO_3; clear HO121; have HB := n0_; have HO124 := n1_; clear n0_ n1_; clear ho hb hg hat))
              go_roundg k1
              case measure => have := HK1.out; omega
              case rel => exact ⟨(y122), (wrap64 (x8_1 + 1)), (by first | rfl | (simp; done) | (simp [*]; done)), H', ⟨by have := HK1.out; omega⟩, ⟨by (with_reducible repeat (first | apply Kd.S_alloc | apply Kd.S_drewN | apply Kd.S_drew)); exact HO124.out⟩, ⟨by repeat (first | (with_reducible first | exact HB.out | apply below_alloc | apply pw_below_drewN | apply below_drew1) | exact HB.out)⟩⟩
            · rw [if_neg c6] at H
              exact absurd H (by simp)
          · rw [if_neg c4] at H
            exact absurd H (by simp)
        · rw [if_neg c3] at H
          exact absurd H (by simp)
      · rw [if_neg c2] at H
        have c2b0 : decide (x8_1 < (l0.length : Int)) = false := decide_eq_false c2
        clear c2
        obtain rfl := Option.some.inj H
        go_wp2
        go_ret
        exact ⟨_, by first | rfl | (simp [errW_none, errW_some] <;> rfl) | (simp [*, errW_none, errW_some] <;> rfl), by (with_reducible repeat (first | apply Kd.S_alloc | apply Kd.S_drewN | apply Kd.S_drew)); exact HO_3.out, by repeat (first | (with_reducible first | exact HB.out | apply below_alloc | apply pw_below_drewN | apply below_drew1) | exact HB.out)⟩

-- NOT PRINTED: function 29 (filter_FeaturesFilter_Match)

-- NOT PRINTED: function 18 (impl_Match)

/-! ### laws_same_bool: function 26 -/
def laws_same_bool.l0 : Nat → List Bool → List Bool → Int → Int → Option (Bool)
  | 0, _, _, _, _ => none
  | k + 1, x0, x1, x12, x13 => if x13 < x12 then (if 0 ≤ x13 then (if x13 < (x0.length : Int) then (if x13 < (x1.length : Int) then (if ((rdOf false x0 x13) != (rdOf false x1 x13)) = true then (some false) else (laws_same_bool.l0 k x0 x1 x12 (wrap64 (x13 + 1)))) else (none)) else (none)) else (none)) else (some true)
def laws_same_bool.f (k : Nat) (l0 : List Bool) (l1 : List Bool) : Option (Bool) := if (l0.length : Int) = (l1.length : Int) then (laws_same_bool.l0 k l0 l1 (l0.length : Int) 0) else (some false)
theorem laws_same_bool.mono_l : ∀ k, (∀ y0 y1 y2 y3, LeO (laws_same_bool.l0 k y0 y1 y2 y3) (laws_same_bool.l0 (k + 1) y0 y1 y2 y3))
  | 0 => fun _ _ _ _ r h => by simp [laws_same_bool.l0] at h
  | k + 1 => by
    have ih0 := laws_same_bool.mono_l k
    · intro y0 y1 y2 y3
      unfold laws_same_bool.l0
      repeat' first
      | (with_reducible exact ih0 _ _ _ _)
      | (with_reducible exact LeO.refl _)
      | (with_reducible exact LeO.none _)
      | (with_reducible refine LeO.ite ?_ ?_)
      | (with_reducible refine LeO.bind ?_ (fun _ => ?_))
      | exact ih0 _ _ _ _
      | exact LeO.none _
      | refine LeO.ite ?_ ?_
      | refine LeO.bind ?_ (fun _ => ?_)
theorem laws_same_bool.mono : ∀ a0 a1 k, LeO (laws_same_bool.f k a0 a1) (laws_same_bool.f (k + 1) a0 a1) := by
  intro a0 a1 k
  have ih0 := laws_same_bool.mono_l k
  unfold laws_same_bool.f
  repeat' first
      | (with_reducible exact ih0 _ _ _ _)
      | (with_reducible exact LeO.refl _)
      | (with_reducible exact LeO.none _)
      | (with_reducible refine LeO.ite ?_ ?_)
      | (with_reducible refine LeO.bind ?_ (fun _ => ?_))
      | exact ih0 _ _ _ _
      | exact LeO.none _
      | refine LeO.ite ?_ ?_
      | refine LeO.bind ?_ (fun _ => ?_)
set_option maxHeartbeats 8000000 in
set_option maxRecDepth 100000 in
theorem laws_same_bool.calls (k : Nat) (A0 : Option Addr) (c0 : Nat) (l0 : List Bool) (A1 : Option Addr) (c1 : Nat) (l1 : List Bool) (r : Bool) (w : World) (hr0 : Kd.C Kd.bool w A0 l0.length l0) (hc0 : l0.length ≤ c0) (hr1 : Kd.C Kd.bool w A1 l1.length l1) (hc1 : l1.length ≤ c1) (h : laws_same_bool.f k l0 l1 = some r) :
    Calls Try.prog 26 #[.slice A0 l0.length c0, .slice A1 l1.length c1] w fun e w' => e = .returned (.bool r) ∧ Drawn0 w w' := by
  have HR0 := Aside0.mk hr0
  have HC0 := Aside0.mk hc0
  clear hr0 hc0
  have HR1 := Aside0.mk hr1
  have HC1 := Aside0.mk hc1
  clear hr1 hc1
  have H : (if (l0.length : Int) = (l1.length : Int) then (laws_same_bool.l0 k l0 l1 (l0.length : Int) 0) else (some false)) = some r := h
  clear h
  by_cases c3 : (l0.length : Int) = (l1.length : Int)
  · rw [if_pos c3] at H
    have c3b0 : ((l0.length : Int) == (l1.length : Int)) = true := beq_iff_eq.mpr c3
    have c3b1 : ((l0.length : Int) != (l1.length : Int)) = false := bne_eq_false_iff_eq.mpr c3
    have c3b2 : (l0.length == l1.length) = true := by first | simpa using c3 | (simp at c3 ⊢; omega)
    clear c3
    have H' := Aside0.mk H
    clear H
    go_enter Try.func26, Try.ntmps26
    go_wp2
    repeat (go_quiet (fail); try go_wp2)
    go_loopg [13] k (fun kq v13 w' => ∃ (x13_1 : Int), v13 = .int .i64 x13_1 ∧ Aside0 (laws_same_bool.l0 kq l0 l1 (l0.length : Int) x13_1 = some r) ∧ Aside0 (kq ≤ k) ∧ Drawn0 w w')
    case atStart => exact ⟨(0), (by first | rfl | (simp; done) | (simp [*]; done)), H', ⟨Nat.le_refl _⟩, by repeat (first | exact Drawn0.refl _ | apply Drawn0.step)⟩
    case round =>
      clear H'
      try clear c1
      try clear c2
      try clear p2
      try clear c3
      try clear c3b0
      try clear c3b1
      try clear c3b2
      obtain ⟨x13_1, rfl, HA, HK1, ⟨m1, rfl⟩⟩ := hrel
      cases gk with
      | zero => exact absurd HA.out (by simp [laws_same_bool.l0])
      | succ k1 =>
        have H := HA.out
        clear HA
        simp only [laws_same_bool.l0] at H
        by_cases c4 : x13_1 < (l0.length : Int)
        · rw [if_pos c4] at H
          have c4b0 : decide (x13_1 < (l0.length : Int)) = true := decide_eq_true c4
          clear c4
          by_cases c5 : 0 ≤ x13_1
          · rw [if_pos c5] at H
            have c5b0 : decide (0 ≤ x13_1) = true := decide_eq_true c5
            clear c5
            by_cases c6 : x13_1 < (l0.length : Int)
            · rw [if_pos c6] at H
              have c6b0 : decide (x13_1 < (l0.length : Int)) = true := decide_eq_true c6
              clear c6
              by_cases c7 : x13_1 < (l1.length : Int)
              · rw [if_pos c7] at H
                have c7b0 : decide (x13_1 < (l1.length : Int)) = true := decide_eq_true c7
                clear c7
                by_cases c8 : ((rdOf false l0 x13_1) != (rdOf false l1 x13_1)) = true
                · rw [if_pos c8] at H
                  have c8b0 : ((rdOf false l0 x13_1) != (rdOf false l1 x13_1)) = true := c8
                  (try (have c8b1 : decide ((rdOf false l0 x13_1) = (rdOf false l1 x13_1)) = false := by simpa using c8))
                  (try (have c8b2 : ((rdOf false l0 x13_1) == (rdOf false l1 x13_1)) = false := by simpa using c8))
                  (try (have c8b3 : ¬ ((rdOf false l0 x13_1) = (rdOf false l1 x13_1)) := by simpa using c8))
                  clear c8
                  obtain rfl := Option.some.inj H
                  have p128 : 0 ≤ (x13_1 : Int) := of_decide_eq_true (by first | (with_reducible assumption) | assumption)
                  have q128 : x13_1 < (l0.length : Int) := of_decide_eq_true (by first | (with_reducible assumption) | assumption)
                  obtain ⟨ad128, e128, hx128_0⟩ := Kd.at_bool HR0.out x13_1 p128 q128
                  cases e128
                  replace p128 := eq_true p128
                  replace q128 := eq_true q128
                  have p129 : 0 ≤ (x13_1 : Int) := of_decide_eq_true (by first | (with_reducible assumption) | assumption)
                  have q129 : x13_1 < (l1.length : Int) := of_decide_eq_true (by first | (with_reducible assumption) | assumption)
                  obtain ⟨ad129, e129, hx129_0⟩ := Kd.at_bool HR1.out x13_1 p129 q129
                  cases e129
                  replace p129 := eq_true p129
                  replace q129 := eq_true q129
                  go_wp2
                  repeat (go_quiet (fail); try go_wp2)
                  go_ret
                  exact ⟨by first | rfl | (simp; done) | (simp [*]; done) | (simp [Own.isEmpty_bne]; done), by repeat (first | exact Drawn0.refl _ | apply Drawn0.step)⟩
                · rw [if_neg c8] at H
                  have c8b0 : ((rdOf false l0 x13_1) != (rdOf false l1 x13_1)) = false := by simpa using c8
                  (try (have c8b1 : decide ((rdOf false l0 x13_1) = (rdOf false l1 x13_1)) = true := by simpa using c8))
                  (try (have c8b2 : ((rdOf false l0 x13_1) == (rdOf false l1 x13_1)) = true := by simpa using c8))
                  clear c8
                  have H' := Aside0.mk H
                  clear H
                  have p128 : 0 ≤ (x13_1 : Int) := of_decide_eq_true (by first | (with_reducible assumption) | assumption)
                  have q128 : x13_1 < (l0.length : Int) := of_decide_eq_true (by first | (with_reducible assumption) | assumption)
                  obtain ⟨ad128, e128, hx128_0⟩ := Kd.at_bool HR0.out x13_1 p128 q128
                  cases e128
                  replace p128 := eq_true p128
                  replace q128 := eq_true q128
                  have p129 : 0 ≤ (x13_1 : Int) := of_decide_eq_true (by first | (with_reducible assumption) | assumption)
                  have q129 : x13_1 < (l1.length : Int) := of_decide_eq_true (by first | (with_reducible assumption) | assumption)
                  obtain ⟨ad129, e129, hx129_0⟩ := Kd.at_bool HR1.out x13_1 p129 q129
                  cases e129
                  replace p129 := eq_true p129
                  replace q129 := eq_true q129
                  go_wp2
                  repeat (go_quiet (fail); try go_wp2)
                  go_roundg k1
                  case measure => have := HK1.out; omega
                  case rel => exact ⟨(wrap64 (x13_1 + 1)), (by first | rfl | (simp; done) | (simp [*]; done)), H', ⟨by have := HK1.out; omega⟩, by repeat (first | exact Drawn0.refl _ | apply Drawn0.step)⟩
              · rw [if_neg c7] at H
                exact absurd H (by simp)
            · rw [if_neg c6] at H
              exact absurd H (by simp)
          · rw [if_neg c5] at H
            exact absurd H (by simp)
        · rw [if_neg c4] at H
          have c4b0 : decide (x13_1 < (l0.length : Int)) = false := decide_eq_false c4
          clear c4
          obtain rfl := Option.some.inj H
          go_wp2
          repeat (go_quiet (fail); try go_wp2)
          go_ret
          exact ⟨by first | rfl | (simp; done) | (simp [*]; done) | (simp [Own.isEmpty_bne]; done), by repeat (first | exact Drawn0.refl _ | apply Drawn0.step)⟩
  · rw [if_neg c3] at H
    have c3b0 : ((l0.length : Int) == (l1.length : Int)) = false := beq_eq_false_iff_ne.mpr c3
    have c3b1 : ((l0.length : Int) != (l1.length : Int)) = true := bne_iff_ne.mpr c3
    have c3b2 : (l0.length == l1.length) = false := by first | simpa using c3 | (simp at c3 ⊢; omega)
    obtain rfl := Option.some.inj H
    go_enter Try.func26, Try.ntmps26
    go_wp2
    repeat (go_quiet (fail); try go_wp2)
    go_ret
    exact ⟨by first | rfl | (simp; done) | (simp [*]; done) | (simp [Own.isEmpty_bne]; done), by repeat (first | exact Drawn0.refl _ | apply Drawn0.step)⟩

-- NOT PRINTED: function 17 (laws_takes)

-- NOT PRINTED: function 5 (laws_FnMatchLonger)

-- NOT PRINTED: function 6 (laws_FnMatchMore)

end Go.Proofs.Ytckdpckdabfkbaa.PB
