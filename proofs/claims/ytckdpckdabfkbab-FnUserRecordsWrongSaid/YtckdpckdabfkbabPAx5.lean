-- Written by a program of ours out of the kit's print program.
import Derived.Test.YtckdpckdabfkbabPAx0
import Derived.Test.YtckdpckdabfkbabPAx4
namespace Go.Proofs.Ytckdpckdabfkbab.PA
open Go.RowKit Go.Proofs.YtckdpckdabfkbabW.PrintWords Go.Proofs.YtckdpckdabfkbabW.PrintLast Go.Proofs.YtckdpckdabfkbabW.PrintMore
attribute [local go_sem] max2_int min2_int max_two min_two max_three min_three max_four min_four   -- for this text's walks alone
set_option linter.unusedVariables false
set_option linter.unusedSimpArgs false

/-! ### laws_same_string: function 14 -/
def laws_same_string.l0 : Nat → List ByteArray → List ByteArray → Int → Int → Option (Bool)
  | 0, _, _, _, _ => none
  | k + 1, x0, x1, x12, x13 => if x13 < x12 then (if 0 ≤ x13 then (if x13 < (x0.length : Int) then (if x13 < (x1.length : Int) then (if (rdOf ByteArray.empty x0 x13).toList = (rdOf ByteArray.empty x1 x13).toList then (laws_same_string.l0 k x0 x1 x12 (wrap64 (x13 + 1))) else (some false)) else (none)) else (none)) else (none)) else (some true)
def laws_same_string.f (k : Nat) (l0 : List ByteArray) (l1 : List ByteArray) : Option (Bool) := if (l0.length : Int) = (l1.length : Int) then (laws_same_string.l0 k l0 l1 (l0.length : Int) 0) else (some false)
theorem laws_same_string.mono_l : ∀ k, (∀ y0 y1 y2 y3, LeO (laws_same_string.l0 k y0 y1 y2 y3) (laws_same_string.l0 (k + 1) y0 y1 y2 y3))
  | 0 => fun _ _ _ _ r h => by simp [laws_same_string.l0] at h
  | k + 1 => by
    have ih0 := laws_same_string.mono_l k
    · intro y0 y1 y2 y3
      unfold laws_same_string.l0
      repeat' first
      | (with_reducible exact ih0 _ _ _ _)
      | (with_reducible exact LeO.refl _)
      | (with_reducible exact LeO.none _)
      | (with_reducible refine LeO.ite ?_ ?_)
      | (with_reducible refine LeO.bind ?_ (fun _ => ?_))
      | exact ih0 _ _ _ _
      | exact LeO.none _
      | refine LeO.ite ?_ ?_
      | refine LeO.bind ?_ (fun _ => ?_)
theorem laws_same_string.mono : ∀ a0 a1 k, LeO (laws_same_string.f k a0 a1) (laws_same_string.f (k + 1) a0 a1) := by
  intro a0 a1 k
  have ih0 := laws_same_string.mono_l k
  unfold laws_same_string.f
  repeat' first
      | (with_reducible exact ih0 _ _ _ _)
      | (with_reducible exact LeO.refl _)
      | (with_reducible exact LeO.none _)
      | (with_reducible refine LeO.ite ?_ ?_)
      | (with_reducible refine LeO.bind ?_ (fun _ => ?_))
      | exact ih0 _ _ _ _
      | exact LeO.none _
      | refine LeO.ite ?_ ?_
      | refine LeO.bind ?_ (fun _ => ?_)
set_option maxHeartbeats 8000000 in
set_option maxRecDepth 100000 in
theorem laws_same_string.calls (k : Nat) (A0 : Option Addr) (c0 : Nat) (l0 : List ByteArray) (A1 : Option Addr) (c1 : Nat) (l1 : List ByteArray) (r : Bool) (w : World) (hr0 : Kd.C Kd.string w A0 l0.length l0) (hc0 : l0.length ≤ c0) (hr1 : Kd.C Kd.string w A1 l1.length l1) (hc1 : l1.length ≤ c1) (h : laws_same_string.f k l0 l1 = some r) :
    Calls Try.prog 14 #[.slice A0 l0.length c0, .slice A1 l1.length c1] w fun e w' => e = .returned (.bool r) ∧ Drawn0 w w' := by
  have HR0 := Aside0.mk hr0
  have HC0 := Aside0.mk hc0
  clear hr0 hc0
  have HR1 := Aside0.mk hr1
  have HC1 := Aside0.mk hc1
  clear hr1 hc1
  have H : (if (l0.length : Int) = (l1.length : Int) then (laws_same_string.l0 k l0 l1 (l0.length : Int) 0) else (some false)) = some r := h
  clear h
  by_cases c3 : (l0.length : Int) = (l1.length : Int)
  · rw [if_pos c3] at H
    have c3b0 : ((l0.length : Int) == (l1.length : Int)) = true := beq_iff_eq.mpr c3
    have c3b1 : ((l0.length : Int) != (l1.length : Int)) = false := bne_eq_false_iff_eq.mpr c3
    have c3b2 : (l0.length == l1.length) = true := by first | simpa using c3 | (simp at c3 ⊢; omega)
    clear c3
    have H' := Aside0.mk H
    clear H
    go_enter Try.func14, Try.ntmps14
    go_wp2
    repeat (go_quiet (fail); try go_wp2)
    go_loopg [13] k (fun kq v13 w' => ∃ (x13_1 : Int), v13 = .int .i64 x13_1 ∧ Aside0 (laws_same_string.l0 kq l0 l1 (l0.length : Int) x13_1 = some r) ∧ Aside0 (kq ≤ k) ∧ Drawn0 w w')
    case atStart => exact ⟨(0), (by first | rfl | (simp; done) | (simp [*]; done)), H', ⟨Nat.le_refl _⟩, by repeat (first | exact Drawn0.refl _ | apply Drawn0.step)⟩
    case round =>
      clear H'
      try clear c1
      try clear p2
      try clear c3
      try clear c3b0
      try clear c3b1
      try clear c3b2
      obtain ⟨x13_1, rfl, HA, HK1, ⟨m1, rfl⟩⟩ := hrel
      cases gk with
      | zero => exact absurd HA.out (by simp [laws_same_string.l0])
      | succ k1 =>
        have H := HA.out
        clear HA
        simp only [laws_same_string.l0] at H
        by_cases c4 : x13_1 < (l0.length : Int)
        · rw [if_pos c4] at H
          have c4b0 : decide (x13_1 < (l0.length : Int)) = true := decide_eq_true c4
          clear c4
          by_cases c5 : 0 ≤ x13_1
          · rw [if_pos c5] at H
            have c5b0 : decide (0 ≤ x13_1) = true := decide_eq_true c5
            clear c5
            by_cases c6 : x13_1 < (l0.length : Int)
            · rw [if_pos c6] at H
              have c6b0 : decide (x13_1 < (l0.length : Int)) = true := decide_eq_true c6
              clear c6
              by_cases c7 : x13_1 < (l1.length : Int)
              · rw [if_pos c7] at H
                have c7b0 : decide (x13_1 < (l1.length : Int)) = true := decide_eq_true c7
                clear c7
                by_cases c8 : (rdOf ByteArray.empty l0 x13_1).toList = (rdOf ByteArray.empty l1 x13_1).toList
                · rw [if_pos c8] at H
                  have c8b0 : ((rdOf ByteArray.empty l0 x13_1).toList == (rdOf ByteArray.empty l1 x13_1).toList) = true := beq_iff_eq.mpr c8
                  have c8b1 : ((rdOf ByteArray.empty l0 x13_1).toList != (rdOf ByteArray.empty l1 x13_1).toList) = false := bne_eq_false_iff_eq.mpr c8
                  clear c8
                  have H' := Aside0.mk H
                  clear H
                  have p175 : 0 ≤ (x13_1 : Int) := of_decide_eq_true (by first | (with_reducible assumption) | assumption)
                  have q175 : x13_1 < (l0.length : Int) := of_decide_eq_true (by first | (with_reducible assumption) | assumption)
                  obtain ⟨ad175, e175, hx175_0⟩ := Kd.at_string HR0.out x13_1 p175 q175
                  cases e175
                  replace p175 := eq_true p175
                  replace q175 := eq_true q175
                  have p176 : 0 ≤ (x13_1 : Int) := of_decide_eq_true (by first | (with_reducible assumption) | assumption)
                  have q176 : x13_1 < (l1.length : Int) := of_decide_eq_true (by first | (with_reducible assumption) | assumption)
                  obtain ⟨ad176, e176, hx176_0⟩ := Kd.at_string HR1.out x13_1 p176 q176
                  cases e176
                  replace p176 := eq_true p176
                  replace q176 := eq_true q176
                  go_wp2
                  repeat (go_quiet (fail); try go_wp2)
                  go_roundg k1
                  case measure => have := HK1.out; omega
                  case rel => exact ⟨(wrap64 (x13_1 + 1)), (by first | rfl | (simp; done) | (simp [*]; done)), H', ⟨by have := HK1.out; omega⟩, by repeat (first | exact Drawn0.refl _ | apply Drawn0.step)⟩
                · rw [if_neg c8] at H
                  have c8b0 : ((rdOf ByteArray.empty l0 x13_1).toList == (rdOf ByteArray.empty l1 x13_1).toList) = false := beq_eq_false_iff_ne.mpr c8
                  have c8b1 : ((rdOf ByteArray.empty l0 x13_1).toList != (rdOf ByteArray.empty l1 x13_1).toList) = true := bne_iff_ne.mpr c8
                  obtain rfl := Option.some.inj H
                  have p175 : 0 ≤ (x13_1 : Int) := of_decide_eq_true (by first | (with_reducible assumption) | assumption)
                  have q175 : x13_1 < (l0.length : Int) := of_decide_eq_true (by first | (with_reducible assumption) | assumption)
                  obtain ⟨ad175, e175, hx175_0⟩ := Kd.at_string HR0.out x13_1 p175 q175
                  cases e175
                  replace p175 := eq_true p175
                  replace q175 := eq_true q175
                  have p176 : 0 ≤ (x13_1 : Int) := of_decide_eq_true (by first | (with_reducible assumption) | assumption)
                  have q176 : x13_1 < (l1.length : Int) := of_decide_eq_true (by first | (with_reducible assumption) | assumption)
                  obtain ⟨ad176, e176, hx176_0⟩ := Kd.at_string HR1.out x13_1 p176 q176
                  cases e176
                  replace p176 := eq_true p176
                  replace q176 := eq_true q176
                  go_wp2
                  repeat (go_quiet (fail); try go_wp2)
                  go_ret
                  exact ⟨by first | rfl | (simp; done) | (simp [*]; done) | (simp [Own.isEmpty_bne]; done), by repeat (first | exact Drawn0.refl _ | apply Drawn0.step)⟩
              · rw [if_neg c7] at H
                exact absurd H (by simp)
            · rw [if_neg c6] at H
              exact absurd H (by simp)
          · rw [if_neg c5] at H
            exact absurd H (by simp)
        · rw [if_neg c4] at H
          have c4b0 : decide (x13_1 < (l0.length : Int)) = false := decide_eq_false c4
          clear c4
          obtain rfl := Option.some.inj H
          go_wp2
          repeat (go_quiet (fail); try go_wp2)
          go_ret
          exact ⟨by first | rfl | (simp; done) | (simp [*]; done) | (simp [Own.isEmpty_bne]; done), by repeat (first | exact Drawn0.refl _ | apply Drawn0.step)⟩
  · rw [if_neg c3] at H
    have c3b0 : ((l0.length : Int) == (l1.length : Int)) = false := beq_eq_false_iff_ne.mpr c3
    have c3b1 : ((l0.length : Int) != (l1.length : Int)) = true := bne_iff_ne.mpr c3
    have c3b2 : (l0.length == l1.length) = false := by first | simpa using c3 | (simp at c3 ⊢; omega)
    obtain rfl := Option.some.inj H
    go_enter Try.func14, Try.ntmps14
    go_wp2
    repeat (go_quiet (fail); try go_wp2)
    go_ret
    exact ⟨by first | rfl | (simp; done) | (simp [*]; done) | (simp [Own.isEmpty_bne]; done), by repeat (first | exact Drawn0.refl _ | apply Drawn0.step)⟩

/-! ### laws_sameRecord: function 12 -/
def laws_sameRecord.f (k : Nat) (a0_0 : ByteArray) (l0_1 : List ByteArray) (l0_2 : List ByteArray) (a0_3 : ByteArray) (a1_0 : ByteArray) (l1_1 : List ByteArray) (l1_2 : List ByteArray) (a1_3 : ByteArray) (a2 : Bool) : Option (Bool) := if a2 = true then (if a0_0.toList = a1_0.toList then ((laws_same_string.f k l0_1 l1_1).bind fun t179 => (if t179 = true then ((laws_same_string.f k l0_2 l1_2).bind fun t180 => (if t180 = true then (some (a0_3.toList == a1_3.toList)) else (some false))) else (some false))) else (some false)) else ((laws_same_string.f k l0_1 l1_1).bind fun t181 => (if t181 = true then ((laws_same_string.f k l0_2 l1_2).bind fun t182 => (if t182 = true then (some (a0_3.toList == a1_3.toList)) else (some false))) else (some false)))
theorem laws_sameRecord.mono : ∀ a0 a1 a2 a3 a4 a5 a6 a7 a8 k, LeO (laws_sameRecord.f k a0 a1 a2 a3 a4 a5 a6 a7 a8) (laws_sameRecord.f (k + 1) a0 a1 a2 a3 a4 a5 a6 a7 a8) := by
  intro a0 a1 a2 a3 a4 a5 a6 a7 a8 k
  unfold laws_sameRecord.f
  repeat' first
      | (with_reducible exact laws_same_string.mono _ _ _)
      | (with_reducible exact LeO.refl _)
      | (with_reducible exact LeO.none _)
      | (with_reducible refine LeO.ite ?_ ?_)
      | (with_reducible refine LeO.bind ?_ (fun _ => ?_))
      | exact laws_same_string.mono _ _ _
      | exact LeO.none _
      | refine LeO.ite ?_ ?_
      | refine LeO.bind ?_ (fun _ => ?_)
set_option maxHeartbeats 8000000 in
set_option maxRecDepth 100000 in
theorem laws_sameRecord.calls (k : Nat) (a0_0 : ByteArray) (A0_1 : Option Addr) (c0_1 : Nat) (l0_1 : List ByteArray) (A0_2 : Option Addr) (c0_2 : Nat) (l0_2 : List ByteArray) (a0_3 : ByteArray) (a1_0 : ByteArray) (A1_1 : Option Addr) (c1_1 : Nat) (l1_1 : List ByteArray) (A1_2 : Option Addr) (c1_2 : Nat) (l1_2 : List ByteArray) (a1_3 : ByteArray) (a2 : Bool) (r : Bool) (w : World) (hr0_1 : Kd.C Kd.string w A0_1 l0_1.length l0_1) (hc0_1 : l0_1.length ≤ c0_1) (hr0_2 : Kd.C Kd.string w A0_2 l0_2.length l0_2) (hc0_2 : l0_2.length ≤ c0_2) (hr1_1 : Kd.C Kd.string w A1_1 l1_1.length l1_1) (hc1_1 : l1_1.length ≤ c1_1) (hr1_2 : Kd.C Kd.string w A1_2 l1_2.length l1_2) (hc1_2 : l1_2.length ≤ c1_2) (h : laws_sameRecord.f k a0_0 l0_1 l0_2 a0_3 a1_0 l1_1 l1_2 a1_3 a2 = some r) :
    Calls Try.prog 12 #[.agg #[.string a0_0, .slice A0_1 l0_1.length c0_1, .slice A0_2 l0_2.length c0_2, .string a0_3], .agg #[.string a1_0, .slice A1_1 l1_1.length c1_1, .slice A1_2 l1_2.length c1_2, .string a1_3], .bool a2] w fun e w' => e = .returned (.bool r) ∧ Below w.heap.size w w' := by
  have hu24 := Try.underlying24
  have HR0_1 := Aside0.mk hr0_1
  have HC0_1 := Aside0.mk hc0_1
  clear hr0_1 hc0_1
  have HR0_2 := Aside0.mk hr0_2
  have HC0_2 := Aside0.mk hc0_2
  clear hr0_2 hc0_2
  have HR1_1 := Aside0.mk hr1_1
  have HC1_1 := Aside0.mk hc1_1
  clear hr1_1 hc1_1
  have HR1_2 := Aside0.mk hr1_2
  have HC1_2 := Aside0.mk hc1_2
  clear hr1_2 hc1_2
  have HB := Aside0.mk (Below.refl w.heap.size w)
  have H : (if a2 = true then (if a0_0.toList = a1_0.toList then ((laws_same_string.f k l0_1 l1_1).bind fun t179 => (if t179 = true then ((laws_same_string.f k l0_2 l1_2).bind fun t180 => (if t180 = true then (some (a0_3.toList == a1_3.toList)) else (some false))) else (some false))) else (some false)) else ((laws_same_string.f k l0_1 l1_1).bind fun t181 => (if t181 = true then ((laws_same_string.f k l0_2 l1_2).bind fun t182 => (if t182 = true then (some (a0_3.toList == a1_3.toList)) else (some false))) else (some false)))) = some r := h
  clear h
  by_cases c4 : a2 = true
  · subst c4
    have H1 : (if a0_0.toList = a1_0.toList then ((laws_same_string.f k l0_1 l1_1).bind fun t179 => (if t179 = true then ((laws_same_string.f k l0_2 l1_2).bind fun t180 => (if t180 = true then (some (a0_3.toList == a1_3.toList)) else (some false))) else (some false))) else (some false)) = some r := by rw [if_pos rfl] at H; exact H
    clear H
    have H := H1
    clear H1
    by_cases c5 : a0_0.toList = a1_0.toList
    · rw [if_pos c5] at H
      have c5b0 : (a0_0.toList == a1_0.toList) = true := beq_iff_eq.mpr c5
      have c5b1 : (a0_0.toList != a1_0.toList) = false := bne_eq_false_iff_eq.mpr c5
      clear c5
      replace H := Option.bind_eq_some_iff.mp H
      obtain ⟨t179, A60, H⟩ := H
      replace H : (if t179 = true then ((laws_same_string.f k l0_2 l1_2).bind fun t180 => (if t180 = true then (some (a0_3.toList == a1_3.toList)) else (some false))) else (some false)) = some r := H
      have A6 := Aside0.mk A60
      clear A60
      by_cases c7 : t179 = true
      · subst c7
        have H1 : ((laws_same_string.f k l0_2 l1_2).bind fun t180 => (if t180 = true then (some (a0_3.toList == a1_3.toList)) else (some false))) = some r := by rw [if_pos rfl] at H; exact H
        clear H
        have H := H1
        clear H1
        replace H := Option.bind_eq_some_iff.mp H
        obtain ⟨t180, A80, H⟩ := H
        replace H : (if t180 = true then (some (a0_3.toList == a1_3.toList)) else (some false)) = some r := H
        have A8 := Aside0.mk A80
        clear A80
        by_cases c9 : t180 = true
        · subst c9
          have H1 : (some (a0_3.toList == a1_3.toList)) = some r := by rw [if_pos rfl] at H; exact H
          clear H
          have H := H1
          clear H1
          obtain rfl := Option.some.inj H
          go_enter Try.func12, Try.ntmps12
          go_wp2_with (first | ((with_reducible refine gate_dst (N := 3) rfl ?_); refine box_event ?hg (N := 3) ?hd (cs := #[.string a0_0, .slice A0_1 l0_1.length c0_1, .slice A0_2 l0_2.length c0_2, .string a0_3]) (t := 24) ?hr ?_; (case hd => rfl); (case hg => rfl); (case hr => first | (go_simp; done) | (go_simp; rfl)); intro gb177 hg w10 hbox hb; have n0_ := Aside0.mk (below_step (by repeat (first | (with_reducible first | exact HB.out | apply below_alloc | apply pw_below_drewN | apply below_drew1) | exact HB.out)) hb); have n1_ := Aside0.mk (hbox); have n2_ := Aside0.mk ((by rw [hg]; exact (below_size (by repeat (first | (with_reducible first | exact HB.out | apply below_alloc | apply pw_below_drewN | apply below_drew1) | exact HB.out))) : w.heap.size ≤ gb177)); have n3_ := Aside0.mk ((by rw [hg]; exact (below_size (by repeat (first | (with_reducible first | exact HB.out | apply below_alloc | apply pw_below_drewN | apply below_drew1) | exact HB.out))) : w.heap.size ≤ gb177)); clear HB; have HB := n0_; have BK177 := n1_; have GW177 := n2_; have GE177 := n3_; clear n0_ n1_ n2_ n3_; clear hb hbox hg) | ((with_reducible refine gate_dst (N := 4) rfl ?_); refine box_event ?hg (N := 4) ?hd (cs := #[.string a1_0, .slice A1_1 l1_1.length c1_1, .slice A1_2 l1_2.length c1_2, .string a1_3]) (t := 24) ?hr ?_; (case hd => rfl); (case hg => rfl); (case hr => first | (go_simp; done) | (go_simp; rfl)); intro gb178 hg w11 hbox hb; have n0_ := Aside0.mk (blk_below (g := gb177) (o := .cells #[.string a0_0, .slice A0_1 l0_1.length c0_1, .slice A0_2 l0_2.length c0_2, .string a0_3] 24 (0, 0)) (by (with_reducible repeat (first | refine blk_drewN ?_ _ | refine blk_drew ?_ | refine blk_alloc ?_ _)); exact BK177.out) hb); have n1_ := Aside0.mk (below_step (by repeat (first | (with_reducible first | exact HB.out | apply below_alloc | apply pw_below_drewN | apply below_drew1 | refine below_set ?_ GE177.out) | exact HB.out)) hb); have n2_ := Aside0.mk (hbox); have n3_ := Aside0.mk ((by rw [hg]; exact (below_size (by repeat (first | (with_reducible first | exact HB.out | apply below_alloc | apply pw_below_drewN | apply below_drew1 | refine below_set ?_ GE177.out) | exact HB.out))) : w.heap.size ≤ gb178)); have n4_ := Aside0.mk ((by rw [hg]; exact (below_size (by repeat (first | (with_reducible first | exact HB.out | apply below_alloc | apply pw_below_drewN | apply below_drew1 | refine below_set ?_ GE177.out) | exact HB.out))) : w.heap.size ≤ gb178)); have n5_ := Aside0.mk ((by rw [hg]; exact Nat.ne_of_lt (blk_lt (g := gb177) (o := .cells #[.string a0_0, .slice A0_1 l0_1.length c0_1, .slice A0_2 l0_2.length c0_2, .string a0_3] 24 (0, 0)) (by (with_reducible repeat (first | refine blk_drewN ?_ _ | refine blk_drew ?_ | refine blk_alloc ?_ _)); exact BK177.out)) : gb177 ≠ gb178)); have n6_ := Aside0.mk ((by rw [hg]; exact Nat.ne_of_gt (blk_lt (g := gb177) (o := .cells #[.string a0_0, .slice A0_1 l0_1.length c0_1, .slice A0_2 l0_2.length c0_2, .string a0_3] 24 (0, 0)) (by (with_reducible repeat (first | refine blk_drewN ?_ _ | refine blk_drew ?_ | refine blk_alloc ?_ _)); exact BK177.out)) : gb178 ≠ gb177)); clear BK177; clear HB; have BK177 := n0_; have HB := n1_; have BK178 := n2_; have GW178 := n3_; have GE178 := n4_; have NB177_178 := n5_; have NB178_177 := n6_; clear n0_ n1_ n2_ n3_ n4_ n5_ n6_; clear hb hbox hg; have hnb12 := NB177_178.out; have hnc12 := NB178_177.out; have hcz13_0 : w11.cell? ⟨gb177, 0, none⟩ = some (.string a0_0) := (blk_cell BK177.out 0).trans rfl; have hcz13_1 : w11.cell? ⟨gb177, 1, none⟩ = some (.slice A0_1 l0_1.length c0_1) := (blk_cell BK177.out 1).trans rfl; have hcz13_2 : w11.cell? ⟨gb177, 2, none⟩ = some (.slice A0_2 l0_2.length c0_2) := (blk_cell BK177.out 2).trans rfl; have hcz13_3 : w11.cell? ⟨gb177, 3, none⟩ = some (.string a0_3) := (blk_cell BK177.out 3).trans rfl; have hfz13_0 := blk_frozen BK177.out 0; have hfz13_1 := blk_frozen BK177.out 1; have hfz13_2 := blk_frozen BK177.out 2; have hfz13_3 := blk_frozen BK177.out 3; have hcz14_0 : w11.cell? ⟨gb178, 0, none⟩ = some (.string a1_0) := (blk_cell BK178.out 0).trans rfl; have hcz14_1 : w11.cell? ⟨gb178, 1, none⟩ = some (.slice A1_1 l1_1.length c1_1) := (blk_cell BK178.out 1).trans rfl; have hcz14_2 : w11.cell? ⟨gb178, 2, none⟩ = some (.slice A1_2 l1_2.length c1_2) := (blk_cell BK178.out 2).trans rfl; have hcz14_3 : w11.cell? ⟨gb178, 3, none⟩ = some (.string a1_3) := (blk_cell BK178.out 3).trans rfl; have hfz14_0 := blk_frozen BK178.out 0; have hfz14_1 := blk_frozen BK178.out 1; have hfz14_2 := blk_frozen BK178.out 2; have hfz14_3 := blk_frozen BK178.out 3) | (go_at_call 14; (with_reducible refine (laws_same_string.calls k _ _ l0_1 _ _ l1_1 true _ ?side1 ?side2 ?side3 ?side4 A6.out).mono ?_); (case side1 => repeat (first | exact (Kd.C_below HR0_1.out HB.out) | (with_reducible refine Kd.C_alloc ?_ _) | (with_reducible refine Kd.C_drewN ?_ _) | (with_reducible refine Kd.C_drew ?_))); (case side2 => exact HC0_1.out); (case side3 => repeat (first | exact (Kd.C_below HR1_1.out HB.out) | (with_reducible refine Kd.C_alloc ?_ _) | (with_reducible refine Kd.C_drewN ?_ _) | (with_reducible refine Kd.C_drew ?_))); (case side4 => exact HC1_1.out); rintro e w' ⟨rfl, ⟨nd, rfl⟩⟩) | (go_at_call 14; (with_reducible refine (laws_same_string.calls k _ _ l0_2 _ _ l1_2 true _ ?side1 ?side2 ?side3 ?side4 A8.out).mono ?_); (case side1 => repeat (first | exact (Kd.C_below HR0_2.out (by repeat (first | (with_reducible first | exact HB.out | apply below_alloc | apply pw_below_drewN | apply below_drew1 | refine below_set ?_ GE177.out | refine below_set ?_ GE178.out) | exact HB.out))) | (with_reducible refine Kd.C_alloc ?_ _) | (with_reducible refine Kd.C_drewN ?_ _) | (with_reducible refine Kd.C_drew ?_))); (case side2 => exact HC0_2.out); (case side3 => repeat (first | exact (Kd.C_below HR1_2.out (by repeat (first | (with_reducible first | exact HB.out | apply below_alloc | apply pw_below_drewN | apply below_drew1 | refine below_set ?_ GE177.out | refine below_set ?_ GE178.out) | exact HB.out))) | (with_reducible refine Kd.C_alloc ?_ _) | (with_reducible refine Kd.C_drewN ?_ _) | (with_reducible refine Kd.C_drew ?_))); (case side4 => exact HC1_2.out); rintro e w' ⟨rfl, ⟨nd, rfl⟩⟩))
          go_ret
          exact ⟨by first | rfl | (simp [errW_none, errW_some] <;> rfl) | (simp [*, errW_none, errW_some] <;> rfl), by repeat (first | (with_reducible first | exact HB.out | apply below_alloc | apply pw_below_drewN | apply below_drew1 | refine below_set ?_ GE177.out | refine below_set ?_ GE178.out) | exact HB.out)⟩
        · replace c9 := Bool.eq_false_iff.mpr c9
          subst c9
          have H1 : (some false) = some r := by rw [if_neg (show ¬ (false = true) by decide)] at H; exact H
          clear H
          have H := H1
          clear H1
          obtain rfl := Option.some.inj H
          go_enter Try.func12, Try.ntmps12
          go_wp2_with (first | ((with_reducible refine gate_dst (N := 3) rfl ?_); refine box_event ?hg (N := 3) ?hd (cs := #[.string a0_0, .slice A0_1 l0_1.length c0_1, .slice A0_2 l0_2.length c0_2, .string a0_3]) (t := 24) ?hr ?_; (case hd => rfl); (case hg => rfl); (case hr => first | (go_simp; done) | (go_simp; rfl)); intro gb177 hg w15 hbox hb; have n0_ := Aside0.mk (below_step (by repeat (first | (with_reducible first | exact HB.out | apply below_alloc | apply pw_below_drewN | apply below_drew1) | exact HB.out)) hb); have n1_ := Aside0.mk (hbox); have n2_ := Aside0.mk ((by rw [hg]; exact (below_size (by repeat (first | (with_reducible first | exact HB.out | apply below_alloc | apply pw_below_drewN | apply below_drew1) | exact HB.out))) : w.heap.size ≤ gb177)); have n3_ := Aside0.mk ((by rw [hg]; exact (below_size (by repeat (first | (with_reducible first | exact HB.out | apply below_alloc | apply pw_below_drewN | apply below_drew1) | exact HB.out))) : w.heap.size ≤ gb177)); clear HB; have HB := n0_; have BK177 := n1_; have GW177 := n2_; have GE177 := n3_; clear n0_ n1_ n2_ n3_; clear hb hbox hg) | ((with_reducible refine gate_dst (N := 4) rfl ?_); refine box_event ?hg (N := 4) ?hd (cs := #[.string a1_0, .slice A1_1 l1_1.length c1_1, .slice A1_2 l1_2.length c1_2, .string a1_3]) (t := 24) ?hr ?_; (case hd => rfl); (case hg => rfl); (case hr => first | (go_simp; done) | (go_simp; rfl)); intro gb178 hg w16 hbox hb; have n0_ := Aside0.mk (blk_below (g := gb177) (o := .cells #[.string a0_0, .slice A0_1 l0_1.length c0_1, .slice A0_2 l0_2.length c0_2, .string a0_3] 24 (0, 0)) (by (with_reducible repeat (first | refine blk_drewN ?_ _ | refine blk_drew ?_ | refine blk_alloc ?_ _)); exact BK177.out) hb); have n1_ := Aside0.mk (below_step (by repeat (first | (with_reducible first | exact HB.out | apply below_alloc | apply pw_below_drewN | apply below_drew1 | refine below_set ?_ GE177.out) | exact HB.out)) hb); have n2_ := Aside0.mk (hbox); have n3_ := Aside0.mk ((by rw [hg]; exact (below_size (by repeat (first | (with_reducible first | exact HB.out | apply below_alloc | apply pw_below_drewN | apply below_drew1 | refine below_set ?_ GE177.out) | exact HB.out))) : w.heap.size ≤ gb178)); have n4_ := Aside0.mk ((by rw [hg]; exact (below_size (by repeat (first | (with_reducible first | exact HB.out | apply below_alloc | apply pw_below_drewN | apply below_drew1 | refine below_set ?_ GE177.out) | exact HB.out))) : w.heap.size ≤ gb178)); have n5_ := Aside0.mk ((by rw [hg]; exact Nat.ne_of_lt (blk_lt (g := gb177) (o := .cells #[.string a0_0, .slice A0_1 l0_1.length c0_1, .slice A0_2 l0_2.length c0_2, .string a0_3] 24 (0, 0)) (by (with_reducible repeat (first | refine blk_drewN ?_ _ | refine blk_drew ?_ | refine blk_alloc ?_ _)); exact BK177.out)) : gb177 ≠ gb178)); have n6_ := Aside0.mk ((by rw [hg]; exact Nat.ne_of_gt (blk_lt (g := gb177) (o := .cells #[.string a0_0, .slice A0_1 l0_1.length c0_1, .slice A0_2 l0_2.length c0_2, .string a0_3] 24 (0, 0)) (by (with_reducible repeat (first | refine blk_drewN ?_ _ | refine blk_drew ?_ | refine blk_alloc ?_ _)); exact BK177.out)) : gb178 ≠ gb177)); clear BK177; clear HB; have BK177 := n0_; have HB := n1_; have BK178 := n2_; have GW178 := n3_; have GE178 := n4_; have NB177_178 := n5_; have NB178_177 := n6_; clear n0_ n1_ n2_ n3_ n4_ n5_ n6_; clear hb hbox hg; have hnb17 := NB177_178.out; have hnc17 := NB178_177.out; have hcz18_0 : w16.cell? ⟨gb177, 0, none⟩ = some (.string a0_0) := (blk_cell BK177.out 0).trans rfl; have hcz18_1 : w16.cell? ⟨gb177, 1, none⟩ = some (.slice A0_1 l0_1.length c0_1) := (blk_cell BK177.out 1).trans rfl; have hcz18_2 : w16.cell? ⟨gb177, 2, none⟩ = some (.slice A0_2 l0_2.length c0_2) := (blk_cell BK177.out 2).trans rfl; have hcz18_3 : w16.cell? ⟨gb177, 3, none⟩ = some (.string a0_3) := (blk_cell BK177.out 3).trans rfl; have hfz18_0 := blk_frozen BK177.out 0; have hfz18_1 := blk_frozen BK177.out 1; have hfz18_2 := blk_frozen BK177.out 2; have hfz18_3 := blk_frozen BK177.out 3; have hcz19_0 : w16.cell? ⟨gb178, 0, none⟩ = some (.string a1_0) := (blk_cell BK178.out 0).trans rfl; have hcz19_1 : w16.cell? ⟨gb178, 1, none⟩ = some (.slice A1_1 l1_1.length c1_1) := (blk_cell BK178.out 1).trans rfl; have hcz19_2 : w16.cell? ⟨gb178, 2, none⟩ = some (.slice A1_2 l1_2.length c1_2) := (blk_cell BK178.out 2).trans rfl; have hcz19_3 : w16.cell? ⟨gb178, 3, none⟩ = some (.string a1_3) := (blk_cell BK178.out 3).trans rfl; have hfz19_0 := blk_frozen BK178.out 0; have hfz19_1 := blk_frozen BK178.out 1; have hfz19_2 := blk_frozen BK178.out 2; have hfz19_3 := blk_frozen BK178.out 3) | (go_at_call 14; (with_reducible refine (laws_same_string.calls k _ _ l0_1 _ _ l1_1 true _ ?side1 ?side2 ?side3 ?side4 A6.out).mono ?_); (case side1 => repeat (first | exact (Kd.C_below HR0_1.out HB.out) | (with_reducible refine Kd.C_alloc ?_ _) | (with_reducible refine Kd.C_drewN ?_ _) | (with_reducible refine Kd.C_drew ?_))); (case side2 => exact HC0_1.out); (case side3 => repeat (first | exact (Kd.C_below HR1_1.out HB.out) | (with_reducible refine Kd.C_alloc ?_ _) | (with_reducible refine Kd.C_drewN ?_ _) | (with_reducible refine Kd.C_drew ?_))); (case side4 => exact HC1_1.out); rintro e w' ⟨rfl, ⟨nd, rfl⟩⟩) | (go_at_call 14; (with_reducible refine (laws_same_string.calls k _ _ l0_2 _ _ l1_2 false _ ?side1 ?side2 ?side3 ?side4 A8.out).mono ?_); (case side1 => repeat (first | exact (Kd.C_below HR0_2.out (by repeat (first | (with_reducible first | exact HB.out | apply below_alloc | apply pw_below_drewN | apply below_drew1 | refine below_set ?_ GE177.out | refine below_set ?_ GE178.out) | exact HB.out))) | (with_reducible refine Kd.C_alloc ?_ _) | (with_reducible refine Kd.C_drewN ?_ _) | (with_reducible refine Kd.C_drew ?_))); (case side2 => exact HC0_2.out); (case side3 => repeat (first | exact (Kd.C_below HR1_2.out (by repeat (first | (with_reducible first | exact HB.out | apply below_alloc | apply pw_below_drewN | apply below_drew1 | refine below_set ?_ GE177.out | refine below_set ?_ GE178.out) | exact HB.out))) | (with_reducible refine Kd.C_alloc ?_ _) | (with_reducible refine Kd.C_drewN ?_ _) | (with_reducible refine Kd.C_drew ?_))); (case side4 => exact HC1_2.out); rintro e w' ⟨rfl, ⟨nd, rfl⟩⟩))
          go_ret
          exact ⟨by first | rfl | (simp [errW_none, errW_some] <;> rfl) | (simp [*, errW_none, errW_some] <;> rfl), by repeat (first | (with_reducible first | exact HB.out | apply below_alloc | apply pw_below_drewN | apply below_drew1 | refine below_set ?_ GE177.out | refine below_set ?_ GE178.out) | exact HB.out)⟩
      · replace c7 := Bool.eq_false_iff.mpr c7
        subst c7
        have H1 : (some false) = some r := by rw [if_neg (show ¬ (false = true) by decide)] at H; exact H
        clear H
        have H := H1
        clear H1
        obtain rfl := Option.some.inj H
        go_enter Try.func12, Try.ntmps12
        go_wp2_with (first | ((with_reducible refine gate_dst (N := 3) rfl ?_); refine box_event ?hg (N := 3) ?hd (cs := #[.string a0_0, .slice A0_1 l0_1.length c0_1, .slice A0_2 l0_2.length c0_2, .string a0_3]) (t := 24) ?hr ?_; (case hd => rfl); (case hg => rfl); (case hr => first | (go_simp; done) | (go_simp; rfl)); intro gb177 hg w20 hbox hb; have n0_ := Aside0.mk (below_step (by repeat (first | (with_reducible first | exact HB.out | apply below_alloc | apply pw_below_drewN | apply below_drew1) | exact HB.out)) hb); have n1_ := Aside0.mk (hbox); have n2_ := Aside0.mk ((by rw [hg]; exact (below_size (by repeat (first | (with_reducible first | exact HB.out | apply below_alloc | apply pw_below_drewN | apply below_drew1) | exact HB.out))) : w.heap.size ≤ gb177)); have n3_ := Aside0.mk ((by rw [hg]; exact (below_size (by repeat (first | (with_reducible first | exact HB.out | apply below_alloc | apply pw_below_drewN | apply below_drew1) | exact HB.out))) : w.heap.size ≤ gb177)); clear HB; have HB := n0_; have BK177 := n1_; have GW177 := n2_; have GE177 := n3_; clear n0_ n1_ n2_ n3_; clear hb hbox hg) | ((with_reducible refine gate_dst (N := 4) rfl ?_); refine box_event ?hg (N := 4) ?hd (cs := #[.string a1_0, .slice A1_1 l1_1.length c1_1, .slice A1_2 l1_2.length c1_2, .string a1_3]) (t := 24) ?hr ?_; (case hd => rfl); (case hg => rfl); (case hr => first | (go_simp; done) | (go_simp; rfl)); intro gb178 hg w21 hbox hb; have n0_ := Aside0.mk (blk_below (g := gb177) (o := .cells #[.string a0_0, .slice A0_1 l0_1.length c0_1, .slice A0_2 l0_2.length c0_2, .string a0_3] 24 (0, 0)) (by (with_reducible repeat (first | refine blk_drewN ?_ _ | refine blk_drew ?_ | refine blk_alloc ?_ _)); exact BK177.out) hb); have n1_ := Aside0.mk (below_step (by repeat (first | (with_reducible first | exact HB.out | apply below_alloc | apply pw_below_drewN | apply below_drew1 | refine below_set ?_ GE177.out) | exact HB.out)) hb); have n2_ := Aside0.mk (hbox); have n3_ := Aside0.mk ((by rw [hg]; exact (below_size (by repeat (first | (with_reducible first | exact HB.out | apply below_alloc | apply pw_below_drewN | apply below_drew1 | refine below_set ?_ GE177.out) | exact HB.out))) : w.heap.size ≤ gb178)); have n4_ := Aside0.mk ((by rw [hg]; exact (below_size (by repeat (first | (with_reducible first | exact HB.out | apply below_alloc | apply pw_below_drewN | apply below_drew1 | refine below_set ?_ GE177.out) | exact HB.out))) : w.heap.size ≤ gb178)); have n5_ := Aside0.mk ((by rw [hg]; exact Nat.ne_of_lt (blk_lt (g := gb177) (o := .cells #[.string a0_0, .slice A0_1 l0_1.length c0_1, .slice A0_2 l0_2.length c0_2, .string a0_3] 24 (0, 0)) (by (with_reducible repeat (first | refine blk_drewN ?_ _ | refine blk_drew ?_ | refine blk_alloc ?_ _)); exact BK177.out)) : gb177 ≠ gb178)); have n6_ := Aside0.mk ((by rw [hg]; exact Nat.ne_of_gt (blk_lt (g := gb177) (o := .cells #[.string a0_0, .slice A0_1 l0_1.length c0_1, .slice A0_2 l0_2.length c0_2, .string a0_3] 24 (0, 0)) (by (with_reducible repeat (first | refine blk_drewN ?_ _ | refine blk_drew ?_ | refine blk_alloc ?_ _)); exact BK177.out)) : gb178 ≠ gb177)); clear BK177; clear HB; have BK177 := n0_; have HB := n1_; have BK178 := n2_; have GW178 := n3_; have GE178 := n4_; have NB177_178 := n5_; have NB178_177 := n6_; clear n0_ n1_ n2_ n3_ n4_ n5_ n6_; clear hb hbox hg; have hnb22 := NB177_178.out; have hnc22 := NB178_177.out; have hcz23_0 : w21.cell? ⟨gb177, 0, none⟩ = some (.string a0_0) := (blk_cell BK177.out 0).trans rfl; have hcz23_1 : w21.cell? ⟨gb177, 1, none⟩ = some (.slice A0_1 l0_1.length c0_1) := (blk_cell BK177.out 1).trans rfl; have hcz23_2 : w21.cell? ⟨gb177, 2, none⟩ = some (.slice A0_2 l0_2.length c0_2) := (blk_cell BK177.out 2).trans rfl; have hcz23_3 : w21.cell? ⟨gb177, 3, none⟩ = some (.string a0_3) := (blk_cell BK177.out 3).trans rfl; have hfz23_0 := blk_frozen BK177.out 0; have hfz23_1 := blk_frozen BK177.out 1; have hfz23_2 := blk_frozen BK177.out 2; have hfz23_3 := blk_frozen BK177.out 3; have hcz24_0 : w21.cell? ⟨gb178, 0, none⟩ = some (.string a1_0) := (blk_cell BK178.out 0).trans rfl; have hcz24_1 : w21.cell? ⟨gb178, 1, none⟩ = some (.slice A1_1 l1_1.length c1_1) := (blk_cell BK178.out 1).trans rfl; have hcz24_2 : w21.cell? ⟨gb178, 2, none⟩ = some (.slice A1_2 l1_2.length c1_2) := (blk_cell BK178.out 2).trans rfl; have hcz24_3 : w21.cell? ⟨gb178, 3, none⟩ = some (.string a1_3) := (blk_cell BK178.out 3).trans rfl; have hfz24_0 := blk_frozen BK178.out 0; have hfz24_1 := blk_frozen BK178.out 1; have hfz24_2 := blk_frozen BK178.out 2; have hfz24_3 := blk_frozen BK178.out 3) | (go_at_call 14; (with_reducible refine (laws_same_string.calls k _ _ l0_1 _ _ l1_1 false _ ?side1 ?side2 ?side3 ?side4 A6.out).mono ?_); (case side1 => repeat (first | exact (Kd.C_below HR0_1.out HB.out) | (with_reducible refine Kd.C_alloc ?_ _) | (with_reducible refine Kd.C_drewN ?_ _) | (with_reducible refine Kd.C_drew ?_))); (case side2 => exact HC0_1.out); (case side3 => repeat (first | exact (Kd.C_below HR1_1.out HB.out) | (with_reducible refine Kd.C_alloc ?_ _) | (with_reducible refine Kd.C_drewN ?_ _) | (with_reducible refine Kd.C_drew ?_))); (case side4 => exact HC1_1.out); rintro e w' ⟨rfl, ⟨nd, rfl⟩⟩))
        go_ret
        exact ⟨by first | rfl | (simp [errW_none, errW_some] <;> rfl) | (simp [*, errW_none, errW_some] <;> rfl), by repeat (first | (with_reducible first | exact HB.out | apply below_alloc | apply pw_below_drewN | apply below_drew1 | refine below_set ?_ GE177.out | refine below_set ?_ GE178.out) | exact HB.out)⟩
    · rw [if_neg c5] at H
      have c5b0 : (a0_0.toList == a1_0.toList) = false := beq_eq_false_iff_ne.mpr c5
      have c5b1 : (a0_0.toList != a1_0.toList) = true := bne_iff_ne.mpr c5
      obtain rfl := Option.some.inj H
      go_enter Try.func12, Try.ntmps12
      go_wp2_with (first | ((with_reducible refine gate_dst (N := 3) rfl ?_); refine box_event ?hg (N := 3) ?hd (cs := #[.string a0_0, .slice A0_1 l0_1.length c0_1, .slice A0_2 l0_2.length c0_2, .string a0_3]) (t := 24) ?hr ?_; (case hd => rfl); (case hg => rfl); (case hr => first | (go_simp; done) | (go_simp; rfl)); intro gb177 hg w25 hbox hb; have n0_ := Aside0.mk (below_step (by repeat (first | (with_reducible first | exact HB.out | apply below_alloc | apply pw_below_drewN | apply below_drew1) | exact HB.out)) hb); have n1_ := Aside0.mk (hbox); have n2_ := Aside0.mk ((by rw [hg]; exact (below_size (by repeat (first | (with_reducible first | exact HB.out | apply below_alloc | apply pw_below_drewN | apply below_drew1) | exact HB.out))) : w.heap.size ≤ gb177)); have n3_ := Aside0.mk ((by rw [hg]; exact (below_size (by repeat (first | (with_reducible first | exact HB.out | apply below_alloc | apply pw_below_drewN | apply below_drew1) | exact HB.out))) : w.heap.size ≤ gb177)); clear HB; have HB := n0_; have BK177 := n1_; have GW177 := n2_; have GE177 := n3_; clear n0_ n1_ n2_ n3_; clear hb hbox hg) | ((with_reducible refine gate_dst (N := 4) rfl ?_); refine box_event ?hg (N := 4) ?hd (cs := #[.string a1_0, .slice A1_1 l1_1.length c1_1, .slice A1_2 l1_2.length c1_2, .string a1_3]) (t := 24) ?hr ?_; (case hd => rfl); (case hg => rfl); (case hr => first | (go_simp; done) | (go_simp; rfl)); intro gb178 hg w26 hbox hb; have n0_ := Aside0.mk (blk_below (g := gb177) (o := .cells #[.string a0_0, .slice A0_1 l0_1.length c0_1, .slice A0_2 l0_2.length c0_2, .string a0_3] 24 (0, 0)) (by (with_reducible repeat (first | refine blk_drewN ?_ _ | refine blk_drew ?_ | refine blk_alloc ?_ _)); exact BK177.out) hb); have n1_ := Aside0.mk (below_step (by repeat (first | (with_reducible first | exact HB.out | apply below_alloc | apply pw_below_drewN | apply below_drew1 | refine below_set ?_ GE177.out) | exact HB.out)) hb); have n2_ := Aside0.mk (hbox); have n3_ := Aside0.mk ((by rw [hg]; exact (below_size (by repeat (first | (with_reducible first | exact HB.out | apply below_alloc | apply pw_below_drewN | apply below_drew1 | refine below_set ?_ GE177.out) | exact HB.out))) : w.heap.size ≤ gb178)); have n4_ := Aside0.mk ((by rw [hg]; exact (below_size (by repeat (first | (with_reducible first | exact HB.out | apply below_alloc | apply pw_below_drewN | apply below_drew1 | refine below_set ?_ GE177.out) | exact HB.out))) : w.heap.size ≤ gb178)); have n5_ := Aside0.mk ((by rw [hg]; exact Nat.ne_of_lt (blk_lt (g := gb177) (o := .cells #[.string a0_0, .slice A0_1 l0_1.length c0_1, .slice A0_2 l0_2.length c0_2, .string a0_3] 24 (0, 0)) (by (with_reducible repeat (first | refine blk_drewN ?_ _ | refine blk_drew ?_ | refine blk_alloc ?_ _)); exact BK177.out)) : gb177 ≠ gb178)); have n6_ := Aside0.mk ((by rw [hg]; exact Nat.ne_of_gt (blk_lt (g := gb177) (o := .cells #[.string a0_0, .slice A0_1 l0_1.length c0_1, .slice A0_2 l0_2.length c0_2, .string a0_3] 24 (0, 0)) (by (with_reducible repeat (first | refine blk_drewN ?_ _ | refine blk_drew ?_ | refine blk_alloc ?_ _)); exact BK177.out)) : gb178 ≠ gb177)); clear BK177; clear HB; have BK177 := n0_; have HB := n1_; have BK178 := n2_; have GW178 := n3_; have GE178 := n4_; have NB177_178 := n5_; have NB178_177 := n6_; clear n0_ n1_ n2_ n3_ n4_ n5_ n6_; clear hb hbox hg; have hnb27 := NB177_178.out; have hnc27 := NB178_177.out; have hcz28_0 : w26.cell? ⟨gb177, 0, none⟩ = some (.string a0_0) := (blk_cell BK177.out 0).trans rfl; have hcz28_1 : w26.cell? ⟨gb177, 1, none⟩ = some (.slice A0_1 l0_1.length c0_1) := (blk_cell BK177.out 1).trans rfl; have hcz28_2 : w26.cell? ⟨gb177, 2, none⟩ = some (.slice A0_2 l0_2.length c0_2) := (blk_cell BK177.out 2).trans rfl; have hcz28_3 : w26.cell? ⟨gb177, 3, none⟩ = some (.string a0_3) := (blk_cell BK177.out 3).trans rfl; have hfz28_0 := blk_frozen BK177.out 0; have hfz28_1 := blk_frozen BK177.out 1; have hfz28_2 := blk_frozen BK177.out 2; have hfz28_3 := blk_frozen BK177.out 3; have hcz29_0 : w26.cell? ⟨gb178, 0, none⟩ = some (.string a1_0) := (blk_cell BK178.out 0).trans rfl; have hcz29_1 : w26.cell? ⟨gb178, 1, none⟩ = some (.slice A1_1 l1_1.length c1_1) := (blk_cell BK178.out 1).trans rfl; have hcz29_2 : w26.cell? ⟨gb178, 2, none⟩ = some (.slice A1_2 l1_2.length c1_2) := (blk_cell BK178.out 2).trans rfl; have hcz29_3 : w26.cell? ⟨gb178, 3, none⟩ = some (.string a1_3) := (blk_cell BK178.out 3).trans rfl; have hfz29_0 := blk_frozen BK178.out 0; have hfz29_1 := blk_frozen BK178.out 1; have hfz29_2 := blk_frozen BK178.out 2; have hfz29_3 := blk_frozen BK178.out 3))
      go_ret
      exact ⟨by first | rfl | (simp [errW_none, errW_some] <;> rfl) | (simp [*, errW_none, errW_some] <;> rfl), by repeat (first | (with_reducible first | exact HB.out | apply below_alloc | apply pw_below_drewN | apply below_drew1 | refine below_set ?_ GE177.out | refine below_set ?_ GE178.out) | exact HB.out)⟩
  · replace c4 := Bool.eq_false_iff.mpr c4
    subst c4
    have H1 : ((laws_same_string.f k l0_1 l1_1).bind fun t181 => (if t181 = true then ((laws_same_string.f k l0_2 l1_2).bind fun t182 => (if t182 = true then (some (a0_3.toList == a1_3.toList)) else (some false))) else (some false))) = some r := by rw [if_neg (show ¬ (false = true) by decide)] at H; exact H
    clear H
    have H := H1
    clear H1
    replace H := Option.bind_eq_some_iff.mp H
    obtain ⟨t181, A300, H⟩ := H
    replace H : (if t181 = true then ((laws_same_string.f k l0_2 l1_2).bind fun t182 => (if t182 = true then (some (a0_3.toList == a1_3.toList)) else (some false))) else (some false)) = some r := H
    have A30 := Aside0.mk A300
    clear A300
    by_cases c31 : t181 = true
    · subst c31
      have H1 : ((laws_same_string.f k l0_2 l1_2).bind fun t182 => (if t182 = true then (some (a0_3.toList == a1_3.toList)) else (some false))) = some r := by rw [if_pos rfl] at H; exact H
      clear H
      have H := H1
      clear H1
      replace H := Option.bind_eq_some_iff.mp H
      obtain ⟨t182, A320, H⟩ := H
      replace H : (if t182 = true then (some (a0_3.toList == a1_3.toList)) else (some false)) = some r := H
      have A32 := Aside0.mk A320
      clear A320
      by_cases c33 : t182 = true
      · subst c33
        have H1 : (some (a0_3.toList == a1_3.toList)) = some r := by rw [if_pos rfl] at H; exact H
        clear H
        have H := H1
        clear H1
        obtain rfl := Option.some.inj H
        go_enter Try.func12, Try.ntmps12
        go_wp2_with (first | ((with_reducible refine gate_dst (N := 3) rfl ?_); refine box_event ?hg (N := 3) ?hd (cs := #[.string a0_0, .slice A0_1 l0_1.length c0_1, .slice A0_2 l0_2.length c0_2, .string a0_3]) (t := 24) ?hr ?_; (case hd => rfl); (case hg => rfl); (case hr => first | (go_simp; done) | (go_simp; rfl)); intro gb177 hg w34 hbox hb; have n0_ := Aside0.mk (below_step (by repeat (first | (with_reducible first | exact HB.out | apply below_alloc | apply pw_below_drewN | apply below_drew1) | exact HB.out)) hb); have n1_ := Aside0.mk (hbox); have n2_ := Aside0.mk ((by rw [hg]; exact (below_size (by repeat (first | (with_reducible first | exact HB.out | apply below_alloc | apply pw_below_drewN | apply below_drew1) | exact HB.out))) : w.heap.size ≤ gb177)); have n3_ := Aside0.mk ((by rw [hg]; exact (below_size (by repeat (first | (with_reducible first | exact HB.out | apply below_alloc | apply pw_below_drewN | apply below_drew1) | exact HB.out))) : w.heap.size ≤ gb177)); clear HB; have HB := n0_; have BK177 := n1_; have GW177 := n2_; have GE177 := n3_; clear n0_ n1_ n2_ n3_; clear hb hbox hg) | ((with_reducible refine gate_dst (N := 4) rfl ?_); refine box_event ?hg (N := 4) ?hd (cs := #[.string a1_0, .slice A1_1 l1_1.length c1_1, .slice A1_2 l1_2.length c1_2, .string a1_3]) (t := 24) ?hr ?_; (case hd => rfl); (case hg => rfl); (case hr => first | (go_simp; done) | (go_simp; rfl)); intro gb178 hg w35 hbox hb; have n0_ := Aside0.mk (blk_below (g := gb177) (o := .cells #[.string a0_0, .slice A0_1 l0_1.length c0_1, .slice A0_2 l0_2.length c0_2, .string a0_3] 24 (0, 0)) (by (with_reducible repeat (first | refine blk_drewN ?_ _ | refine blk_drew ?_ | refine blk_alloc ?_ _)); exact BK177.out) hb); have n1_ := Aside0.mk (below_step (by repeat (first | (with_reducible first | exact HB.out | apply below_alloc | apply pw_below_drewN | apply below_drew1 | refine below_set ?_ GE177.out) | exact HB.out)) hb); have n2_ := Aside0.mk (hbox); have n3_ := Aside0.mk ((by rw [hg]; exact (below_size (by repeat (first | (with_reducible first | exact HB.out | apply below_alloc | apply pw_below_drewN | apply below_drew1 | refine below_set ?_ GE177.out) | exact HB.out))) : w.heap.size ≤ gb178)); have n4_ := Aside0.mk ((by rw [hg]; exact (below_size (by repeat (first | (with_reducible first | exact HB.out | apply below_alloc | apply pw_below_drewN | apply below_drew1 | refine below_set ?_ GE177.out) | exact HB.out))) : w.heap.size ≤ gb178)); have n5_ := Aside0.mk ((by rw [hg]; exact Nat.ne_of_lt (blk_lt (g := gb177) (o := .cells #[.string a0_0, .slice A0_1 l0_1.length c0_1, .slice A0_2 l0_2.length c0_2, .string a0_3] 24 (0, 0)) (by (with_reducible repeat (first | refine blk_drewN ?_ _ | refine blk_drew ?_ | refine blk_alloc ?_ _)); exact BK177.out)) : gb177 ≠ gb178)); have n6_ := Aside0.mk ((by rw [hg]; exact Nat.ne_of_gt (blk_lt (g := gb177) (o := .cells #[.string a0_0, .slice A0_1 l0_1.length c0_1, .slice A0_2 l0_2.length c0_2, .string a0_3] 24 (0, 0)) (by (with_reducible repeat (first | refine blk_drewN ?_ _ | refine blk_drew ?_ | refine blk_alloc ?_ _)); exact BK177.out)) : gb178 ≠ gb177)); clear BK177; clear HB; have BK177 := n0_; have HB := n1_; have BK178 := n2_; have GW178 := n3_; have GE178 := n4_; have NB177_178 := n5_; have NB178_177 := n6_; clear n0_ n1_ n2_ n3_ n4_ n5_ n6_; clear hb hbox hg; have hnb36 := NB177_178.out; have hnc36 := NB178_177.out; have hcz37_0 : w35.cell? ⟨gb177, 0, none⟩ = some (.string a0_0) := (blk_cell BK177.out 0).trans rfl; have hcz37_1 : w35.cell? ⟨gb177, 1, none⟩ = some (.slice A0_1 l0_1.length c0_1) := (blk_cell BK177.out 1).trans rfl; have hcz37_2 : w35.cell? ⟨gb177, 2, none⟩ = some (.slice A0_2 l0_2.length c0_2) := (blk_cell BK177.out 2).trans rfl; have hcz37_3 : w35.cell? ⟨gb177, 3, none⟩ = some (.string a0_3) := (blk_cell BK177.out 3).trans rfl; have hfz37_0 := blk_frozen BK177.out 0; have hfz37_1 := blk_frozen BK177.out 1; have hfz37_2 := blk_frozen BK177.out 2; have hfz37_3 := blk_frozen BK177.out 3; have hcz38_0 : w35.cell? ⟨gb178, 0, none⟩ = some (.string a1_0) := (blk_cell BK178.out 0).trans rfl; have hcz38_1 : w35.cell? ⟨gb178, 1, none⟩ = some (.slice A1_1 l1_1.length c1_1) := (blk_cell BK178.out 1).trans rfl; have hcz38_2 : w35.cell? ⟨gb178, 2, none⟩ = some (.slice A1_2 l1_2.length c1_2) := (blk_cell BK178.out 2).trans rfl; have hcz38_3 : w35.cell? ⟨gb178, 3, none⟩ = some (.string a1_3) := (blk_cell BK178.out 3).trans rfl; have hfz38_0 := blk_frozen BK178.out 0; have hfz38_1 := blk_frozen BK178.out 1; have hfz38_2 := blk_frozen BK178.out 2; have hfz38_3 := blk_frozen BK178.out 3) | (go_at_call 14; (with_reducible refine (laws_same_string.calls k _ _ l0_1 _ _ l1_1 true _ ?side1 ?side2 ?side3 ?side4 A30.out).mono ?_); (case side1 => repeat (first | exact (Kd.C_below HR0_1.out HB.out) | (with_reducible refine Kd.C_alloc ?_ _) | (with_reducible refine Kd.C_drewN ?_ _) | (with_reducible refine Kd.C_drew ?_))); (case side2 => exact HC0_1.out); (case side3 => repeat (first | exact (Kd.C_below HR1_1.out HB.out) | (with_reducible refine Kd.C_alloc ?_ _) | (with_reducible refine Kd.C_drewN ?_ _) | (with_reducible refine Kd.C_drew ?_))); (case side4 => exact HC1_1.out); rintro e w' ⟨rfl, ⟨nd, rfl⟩⟩) | (go_at_call 14; (with_reducible refine (laws_same_string.calls k _ _ l0_2 _ _ l1_2 true _ ?side1 ?side2 ?side3 ?side4 A32.out).mono ?_); (case side1 => repeat (first | exact (Kd.C_below HR0_2.out (by repeat (first | (with_reducible first | exact HB.out | apply below_alloc | apply pw_below_drewN | apply below_drew1 | refine below_set ?_ GE177.out | refine below_set ?_ GE178.out) | exact HB.out))) | (with_reducible refine Kd.C_alloc ?_ _) | (with_reducible refine Kd.C_drewN ?_ _) | (with_reducible refine Kd.C_drew ?_))); (case side2 => exact HC0_2.out); (case side3 => repeat (first | exact (Kd.C_below HR1_2.out (by repeat (first | (with_reducible first | exact HB.out | apply below_alloc | apply pw_below_drewN | apply below_drew1 | refine below_set ?_ GE177.out | refine below_set ?_ GE178.out) | exact HB.out))) | (with_reducible refine Kd.C_alloc ?_ _) | (with_reducible refine Kd.C_drewN ?_ _) | (with_reducible refine Kd.C_drew ?_))); (case side4 => exact HC1_2.out); rintro e w' ⟨rfl, ⟨nd, rfl⟩⟩))
        go_ret
        exact ⟨by first | rfl | (simp [errW_none, errW_some] <;> rfl) | (simp [*, errW_none, errW_some] <;> rfl), by repeat (first | (with_reducible first | exact HB.out | apply below_alloc | apply pw_below_drewN | apply below_drew1 | refine below_set ?_ GE177.out | refine below_set ?_ GE178.out) | exact HB.out)⟩
      · replace c33 := Bool.eq_false_iff.mpr c33
        subst c33
        have H1 : (some false) = some r := by rw [if_neg (show ¬ (false = true) by decide)] at H; exact H
        clear H
        have H := H1
        clear H1
        obtain rfl := Option.some.inj H
        go_enter Try.func12, Try.ntmps12
        go_wp2_with (first | ((with_reducible refine gate_dst (N := 3) rfl ?_); refine box_event ?hg (N := 3) ?hd (cs := #[.string a0_0, .slice A0_1 l0_1.length c0_1, .slice A0_2 l0_2.length c0_2, .string a0_3]) (t := 24) ?hr ?_; (case hd => rfl); (case hg => rfl); (case hr => first | (go_simp; done) | (go_simp; rfl)); intro gb177 hg w39 hbox hb; have n0_ := Aside0.mk (below_step (by repeat (first | (with_reducible first | exact HB.out | apply below_alloc | apply pw_below_drewN | apply below_drew1) | exact HB.out)) hb); have n1_ := Aside0.mk (hbox); have n2_ := Aside0.mk ((by rw [hg]; exact (below_size (by repeat (first | (with_reducible first | exact HB.out | apply below_alloc | apply pw_below_drewN | apply below_drew1) | exact HB.out))) : w.heap.size ≤ gb177)); have n3_ := Aside0.mk ((by rw [hg]; exact (below_size (by repeat (first | (with_reducible first | exact HB.out | apply below_alloc | apply pw_below_drewN | apply below_drew1) | exact HB.out))) : w.heap.size ≤ gb177)); clear HB; have HB := n0_; have BK177 := n1_; have GW177 := n2_; have GE177 := n3_; clear n0_ n1_ n2_ n3_; clear hb hbox hg) | ((with_reducible refine gate_dst (N := 4) rfl ?_); refine box_event ?hg (N := 4) ?hd (cs := #[.string a1_0, .slice A1_1 l1_1.length c1_1, .slice A1_2 l1_2.length c1_2, .string a1_3]) (t := 24) ?hr ?_; (case hd => rfl); (case hg => rfl); (case hr => first | (go_simp; done) | (go_simp; rfl)); intro gb178 hg w40 hbox hb; have n0_ := Aside0.mk (blk_below (g := gb177) (o := .cells #[.string a0_0, .slice A0_1 l0_1.length c0_1, .slice A0_2 l0_2.length c0_2, .string a0_3] 24 (0, 0)) (by (with_reducible repeat (first | refine blk_drewN ?_ _ | refine blk_drew ?_ | refine blk_alloc ?_ _)); exact BK177.out) hb); have n1_ := Aside0.mk (below_step (by repeat (first | (with_reducible first | exact HB.out | apply below_alloc | apply pw_below_drewN | apply below_drew1 | refine below_set ?_ GE177.out) | exact HB.out)) hb); have n2_ := Aside0.mk (hbox); have n3_ := Aside0.mk ((by rw [hg]; exact (below_size (by repeat (first | (with_reducible first | exact HB.out | apply below_alloc | apply pw_below_drewN | apply below_drew1 | refine below_set ?_ GE177.out) | exact HB.out))) : w.heap.size ≤ gb178)); have n4_ := Aside0.mk ((by rw [hg]; exact (below_size (by repeat (first | (with_reducible first | exact HB.out | apply below_alloc | apply pw_below_drewN | apply below_drew1 | refine below_set ?_ GE177.out) | exact HB.out))) : w.heap.size ≤ gb178)); have n5_ := Aside0.mk ((by rw [hg]; exact Nat.ne_of_lt (blk_lt (g := gb177) (o := .cells #[.string a0_0, .slice A0_1 l0_1.length c0_1, .slice A0_2 l0_2.length c0_2, .string a0_3] 24 (0, 0)) (by (with_reducible repeat (first | refine blk_drewN ?_ _ | refine blk_drew ?_ | refine blk_alloc ?_ _)); exact BK177.out)) : gb177 ≠ gb178)); have n6_ := Aside0.mk ((by rw [hg]; exact Nat.ne_of_gt (blk_lt (g := gb177) (o := .cells #[.string a0_0, .slice A0_1 l0_1.length c0_1, .slice A0_2 l0_2.length c0_2, .string a0_3] 24 (0, 0)) (by (with_reducible repeat (first | refine blk_drewN ?_ _ | refine blk_drew ?_ | refine blk_alloc ?_ _)); exact BK177.out)) : gb178 ≠ gb177)); clear BK177; clear HB; have BK177 := n0_; have HB := n1_; have BK178 := n2_; have GW178 := n3_; have GE178 := n4_; have NB177_178 := n5_; have NB178_177 := n6_; clear n0_ n1_ n2_ n3_ n4_ n5_ n6_; clear hb hbox hg; have hnb41 := NB177_178.out; have hnc41 := NB178_177.out; have hcz42_0 : w40.cell? ⟨gb177, 0, none⟩ = some (.string a0_0) := (blk_cell BK177.out 0).trans rfl; have hcz42_1 : w40.cell? ⟨gb177, 1, none⟩ = some (.slice A0_1 l0_1.length c0_1) := (blk_cell BK177.out 1).trans rfl; have hcz42_2 : w40.cell? ⟨gb177, 2, none⟩ = some (.slice A0_2 l0_2.length c0_2) := (blk_cell BK177.out 2).trans rfl; have hcz42_3 : w40.cell? ⟨gb177, 3, none⟩ = some (.string a0_3) := (blk_cell BK177.out 3).trans rfl; have hfz42_0 := blk_frozen BK177.out 0; have hfz42_1 := blk_frozen BK177.out 1; have hfz42_2 := blk_frozen BK177.out 2; have hfz42_3 := blk_frozen BK177.out 3; have hcz43_0 : w40.cell? ⟨gb178, 0, none⟩ = some (.string a1_0) := (blk_cell BK178.out 0).trans rfl; have hcz43_1 : w40.cell? ⟨gb178, 1, none⟩ = some (.slice A1_1 l1_1.length c1_1) := (blk_cell BK178.out 1).trans rfl; have hcz43_2 : w40.cell? ⟨gb178, 2, none⟩ = some (.slice A1_2 l1_2.length c1_2) := (blk_cell BK178.out 2).trans rfl; have hcz43_3 : w40.cell? ⟨gb178, 3, none⟩ = some (.string a1_3) := (blk_cell BK178.out 3).trans rfl; have hfz43_0 := blk_frozen BK178.out 0; have hfz43_1 := blk_frozen BK178.out 1; have hfz43_2 := blk_frozen BK178.out 2; have hfz43_3 := blk_frozen BK178.out 3) | (go_at_call 14; (with_reducible refine (laws_same_string.calls k _ _ l0_1 _ _ l1_1 true _ ?side1 ?side2 ?side3 ?side4 A30.out).mono ?_); (case side1 => repeat (first | exact (Kd.C_below HR0_1.out HB.out) | (with_reducible refine Kd.C_alloc ?_ _) | (with_reducible refine Kd.C_drewN ?_ _) | (with_reducible refine Kd.C_drew ?_))); (case side2 => exact HC0_1.out); (case side3 => repeat (first | exact (Kd.C_below HR1_1.out HB.out) | (with_reducible refine Kd.C_alloc ?_ _) | (with_reducible refine Kd.C_drewN ?_ _) | (with_reducible refine Kd.C_drew ?_))); (case side4 => exact HC1_1.out); rintro e w' ⟨rfl, ⟨nd, rfl⟩⟩) | (go_at_call 14; (with_reducible refine (laws_same_string.calls k _ _ l0_2 _ _ l1_2 false _ ?side1 ?side2 ?side3 ?side4 A32.out).mono ?_); (case side1 => repeat (first | exact (Kd.C_below HR0_2.out (by repeat (first | (with_reducible first | exact HB.out | apply below_alloc | apply pw_below_drewN | apply below_drew1 | refine below_set ?_ GE177.out | refine below_set ?_ GE178.out) | exact HB.out))) | (with_reducible refine Kd.C_alloc ?_ _) | (with_reducible refine Kd.C_drewN ?_ _) | (with_reducible refine Kd.C_drew ?_))); (case side2 => exact HC0_2.out); (case side3 => repeat (first | exact (Kd.C_below HR1_2.out (by repeat (first | (with_reducible first | exact HB.out | apply below_alloc | apply pw_below_drewN | apply below_drew1 | refine below_set ?_ GE177.out | refine below_set ?_ GE178.out) | exact HB.out))) | (with_reducible refine Kd.C_alloc ?_ _) | (with_reducible refine Kd.C_drewN ?_ _) | (with_reducible refine Kd.C_drew ?_))); (case side4 => exact HC1_2.out); rintro e w' ⟨rfl, ⟨nd, rfl⟩⟩))
        go_ret
        exact ⟨by first | rfl | (simp [errW_none, errW_some] <;> rfl) | (simp [*, errW_none, errW_some] <;> rfl), by repeat (first | (with_reducible first | exact HB.out | apply below_alloc | apply pw_below_drewN | apply below_drew1 | refine below_set ?_ GE177.out | refine below_set ?_ GE178.out) | exact HB.out)⟩
    · replace c31 := Bool.eq_false_iff.mpr c31
      subst c31
      have H1 : (some false) = some r := by rw [if_neg (show ¬ (false = true) by decide)] at H; exact H
      clear H
      have H := H1
      clear H1
      obtain rfl := Option.some.inj H
      go_enter Try.func12, Try.ntmps12
      go_wp2_with (first | ((with_reducible refine gate_dst (N := 3) rfl ?_); refine box_event ?hg (N := 3) ?hd (cs := #[.string a0_0, .slice A0_1 l0_1.length c0_1, .slice A0_2 l0_2.length c0_2, .string a0_3]) (t := 24) ?hr ?_; (case hd => rfl); (case hg => rfl); (case hr => first | (go_simp; done) | (go_simp; rfl)); intro gb177 hg w44 hbox hb; have n0_ := Aside0.mk (below_step (by repeat (first | (with_reducible first | exact HB.out | apply below_alloc | apply pw_below_drewN | apply below_drew1) | exact HB.out)) hb); have n1_ := Aside0.mk (hbox); have n2_ := Aside0.mk ((by rw [hg]; exact (below_size (by repeat (first | (with_reducible first | exact HB.out | apply below_alloc | apply pw_below_drewN | apply below_drew1) | exact HB.out))) : w.heap.size ≤ gb177)); have n3_ := Aside0.mk ((by rw [hg]; exact (below_size (by repeat (first | (with_reducible first | exact HB.out | apply below_alloc | apply pw_below_drewN | apply below_drew1) | exact HB.out))) : w.heap.size ≤ gb177)); clear HB; have HB := n0_; have BK177 := n1_; have GW177 := n2_; have GE177 := n3_; clear n0_ n1_ n2_ n3_; clear hb hbox hg) | ((with_reducible refine gate_dst (N := 4) rfl ?_); refine box_event ?hg (N := 4) ?hd (cs := #[.string a1_0, .slice A1_1 l1_1.length c1_1, .slice A1_2 l1_2.length c1_2, .string a1_3]) (t := 24) ?hr ?_; (case hd => rfl); (case hg => rfl); (case hr => first | (go_simp; done) | (go_simp; rfl)); intro gb178 hg w45 hbox hb; have n0_ := Aside0.mk (blk_below (g := gb177) (o := .cells #[.string a0_0, .slice A0_1 l0_1.length c0_1, .slice A0_2 l0_2.length c0_2, .string a0_3] 24 (0, 0)) (by (with_reducible repeat (first | refine blk_drewN ?_ _ | refine blk_drew ?_ | refine blk_alloc ?_ _)); exact BK177.out) hb); have n1_ := Aside0.mk (below_step (by repeat (first | (with_reducible first | exact HB.out | apply below_alloc | apply pw_below_drewN | apply below_drew1 | refine below_set ?_ GE177.out) | exact HB.out)) hb); have n2_ := Aside0.mk (hbox); have n3_ := Aside0.mk ((by rw [hg]; exact (below_size (by repeat (first | (with_reducible first | exact HB.out | apply below_alloc | apply pw_below_drewN | apply below_drew1 | refine below_set ?_ GE177.out) | exact HB.out))) : w.heap.size ≤ gb178)); have n4_ := Aside0.mk ((by rw [hg]; exact (below_size (by repeat (first | (with_reducible first | exact HB.out | apply below_alloc | apply pw_below_drewN | apply below_drew1 | refine below_set ?_ GE177.out) | exact HB.out))) : w.heap.size ≤ gb178)); have n5_ := Aside0.mk ((by rw [hg]; exact Nat.ne_of_lt (blk_lt (g := gb177) (o := .cells #[.string a0_0, .slice A0_1 l0_1.length c0_1, .slice A0_2 l0_2.length c0_2, .string a0_3] 24 (0, 0)) (by (with_reducible repeat (first | refine blk_drewN ?_ _ | refine blk_drew ?_ | refine blk_alloc ?_ _)); exact BK177.out)) : gb177 ≠ gb178)); have n6_ := Aside0.mk ((by rw [hg]; exact Nat.ne_of_gt (blk_lt (g := gb177) (o := .cells #[.string a0_0, .slice A0_1 l0_1.length c0_1, .slice A0_2 l0_2.length c0_2, .string a0_3] 24 (0, 0)) (by (with_reducible repeat (first | refine blk_drewN ?_ _ | refine blk_drew ?_ | refine blk_alloc ?_ _)); exact BK177.out)) : gb178 ≠ gb177)); clear BK177; clear HB; have BK177 := n0_; have HB := n1_; have BK178 := n2_; have GW178 := n3_; have GE178 := n4_; have NB177_178 := n5_; have NB178_177 := n6_; clear n0_ n1_ n2_ n3_ n4_ n5_ n6_; clear hb hbox hg; have hnb46 := NB177_178.out; have hnc46 := NB178_177.out; have hcz47_0 : w45.cell? ⟨gb177, 0, none⟩ = some (.string a0_0) := (blk_cell BK177.out 0).trans rfl; have hcz47_1 : w45.cell? ⟨gb177, 1, none⟩ = some (.slice A0_1 l0_1.length c0_1) := (blk_cell BK177.out 1).trans rfl; have hcz47_2 : w45.cell? ⟨gb177, 2, none⟩ = some (.slice A0_2 l0_2.length c0_2) := (blk_cell BK177.out 2).trans rfl; have hcz47_3 : w45.cell? ⟨gb177, 3, none⟩ = some (.string a0_3) := (blk_cell BK177.out 3).trans rfl; have hfz47_0 := blk_frozen BK177.out 0; have hfz47_1 := blk_frozen BK177.out 1; have hfz47_2 := blk_frozen BK177.out 2; have hfz47_3 := blk_frozen BK177.out 3; have hcz48_0 : w45.cell? ⟨gb178, 0, none⟩ = some (.string a1_0) := (blk_cell BK178.out 0).trans rfl; have hcz48_1 : w45.cell? ⟨gb178, 1, none⟩ = some (.slice A1_1 l1_1.length c1_1) := (blk_cell BK178.out 1).trans rfl; have hcz48_2 : w45.cell? ⟨gb178, 2, none⟩ = some (.slice A1_2 l1_2.length c1_2) := (blk_cell BK178.out 2).trans rfl; have hcz48_3 : w45.cell? ⟨gb178, 3, none⟩ = some (.string a1_3) := (blk_cell BK178.out 3).trans rfl; have hfz48_0 := blk_frozen BK178.out 0; have hfz48_1 := blk_frozen BK178.out 1; have hfz48_2 := blk_frozen BK178.out 2; have hfz48_3 := blk_frozen BK178.out 3) | (go_at_call 14; (with_reducible refine (laws_same_string.calls k _ _ l0_1 _ _ l1_1 false _ ?side1 ?side2 ?side3 ?side4 A30.out).mono ?_); (case side1 => repeat (first | exact (Kd.C_below HR0_1.out HB.out) | (with_reducible refine Kd.C_alloc ?_ _) | (with_reducible refine Kd.C_drewN ?_ _) | (with_reducible refine Kd.C_drew ?_))); (case side2 => exact HC0_1.out); (case side3 => repeat (first | exact (Kd.C_below HR1_1.out HB.out) | (with_reducible refine Kd.C_alloc ?_ _) | (with_reducible refine Kd.C_drewN ?_ _) | (with_reducible refine Kd.C_drew ?_))); (case side4 => exact HC1_1.out); rintro e w' ⟨rfl, ⟨nd, rfl⟩⟩))
      go_ret
      exact ⟨by first | rfl | (simp [errW_none, errW_some] <;> rfl) | (simp [*, errW_none, errW_some] <;> rfl), by repeat (first | (with_reducible first | exact HB.out | apply below_alloc | apply pw_below_drewN | apply below_drew1 | refine below_set ?_ GE177.out | refine below_set ?_ GE178.out) | exact HB.out)⟩

/-! ### laws_users: function 6 -/
def laws_users.f (k : Nat)  : Option (Bool) := (impl_UserRecords.f k (⟨#[97, 98, 44, 97, 32, 98, 44, 99, 32, 100, 44, 110, 10]⟩ : ByteArray)).bind fun bt183 => (if bt183.2 = 0 then (if (bt183.1.length : Int) = 1 then (if 0 < (bt183.1.length : Int) then ((laws_sameRecord.f k ((rd_T24 bt183.1 0).f0) ((rd_T24 bt183.1 0).f1) ((rd_T24 bt183.1 0).f2) ((rd_T24 bt183.1 0).f3) (⟨#[97, 98]⟩ : ByteArray) (([(⟨#[97]⟩ : ByteArray), (⟨#[98]⟩ : ByteArray)] : List ByteArray)) (([(⟨#[99]⟩ : ByteArray), (⟨#[100]⟩ : ByteArray)] : List ByteArray)) (⟨#[110]⟩ : ByteArray) true).bind fun t194 => (some t194)) else (none)) else (some false)) else (some false))
theorem laws_users.mono : ∀ k, LeO (laws_users.f k ) (laws_users.f (k + 1) ) := by
  intro  k
  unfold laws_users.f
  repeat' first
      | (with_reducible exact impl_UserRecords.mono _ _)
      | (with_reducible exact laws_sameRecord.mono _ _ _ _ _ _ _ _ _ _)
      | (with_reducible exact LeO.refl _)
      | (with_reducible exact LeO.none _)
      | (with_reducible refine LeO.ite ?_ ?_)
      | (with_reducible refine LeO.bind ?_ (fun _ => ?_))
      | exact impl_UserRecords.mono _ _
      | exact laws_sameRecord.mono _ _ _ _ _ _ _ _ _ _
      | exact LeO.none _
      | refine LeO.ite ?_ ?_
      | refine LeO.bind ?_ (fun _ => ?_)
set_option maxHeartbeats 8000000 in
set_option maxRecDepth 100000 in
theorem laws_users.calls (k : Nat)  (r : Bool) (w : World) (h : laws_users.f k  = some r) :
    Calls Try.prog 6 #[] w fun e w' => e = .returned (.bool r) ∧ Below w.heap.size w w' := by
  have hu24 := Try.underlying24
  have HB := Aside0.mk (Below.refl w.heap.size w)
  have H : ((impl_UserRecords.f k (⟨#[97, 98, 44, 97, 32, 98, 44, 99, 32, 100, 44, 110, 10]⟩ : ByteArray)).bind fun bt183 => (if bt183.2 = 0 then (if (bt183.1.length : Int) = 1 then (if 0 < (bt183.1.length : Int) then ((laws_sameRecord.f k ((rd_T24 bt183.1 0).f0) ((rd_T24 bt183.1 0).f1) ((rd_T24 bt183.1 0).f2) ((rd_T24 bt183.1 0).f3) (⟨#[97, 98]⟩ : ByteArray) (([(⟨#[97]⟩ : ByteArray), (⟨#[98]⟩ : ByteArray)] : List ByteArray)) (([(⟨#[99]⟩ : ByteArray), (⟨#[100]⟩ : ByteArray)] : List ByteArray)) (⟨#[110]⟩ : ByteArray) true).bind fun t194 => (some t194)) else (none)) else (some false)) else (some false))) = some r := h
  clear h
  replace H := Option.bind_eq_some_iff.mp H
  obtain ⟨⟨t183, t186⟩, A10, H⟩ := H
  replace H : (if t186 = 0 then (if (t183.length : Int) = 1 then (if 0 < (t183.length : Int) then ((laws_sameRecord.f k ((rd_T24 t183 0).f0) ((rd_T24 t183 0).f1) ((rd_T24 t183 0).f2) ((rd_T24 t183 0).f3) (⟨#[97, 98]⟩ : ByteArray) (([(⟨#[97]⟩ : ByteArray), (⟨#[98]⟩ : ByteArray)] : List ByteArray)) (([(⟨#[99]⟩ : ByteArray), (⟨#[100]⟩ : ByteArray)] : List ByteArray)) (⟨#[110]⟩ : ByteArray) true).bind fun t194 => (some t194)) else (none)) else (some false)) else (some false)) = some r := H
  have A1 := Aside0.mk A10
  clear A10
  by_cases c2 : t186 = 0
  · rw [if_pos c2] at H
    have c2b0 : (t186 == 0) = true := beq_iff_eq.mpr c2
    have c2b1 : (t186 != 0) = false := bne_eq_false_iff_eq.mpr c2
    clear c2
    by_cases c3 : (t183.length : Int) = 1
    · rw [if_pos c3] at H
      have c3b0 : ((t183.length : Int) == 1) = true := beq_iff_eq.mpr c3
      have c3b1 : ((t183.length : Int) != 1) = false := bne_eq_false_iff_eq.mpr c3
      clear c3
      by_cases c4 : 0 < (t183.length : Int)
      · rw [if_pos c4] at H
        have c4b0 : decide (0 < (t183.length : Int)) = true := decide_eq_true c4
        have c4b1 : decide (0 < t183.length) = true := decide_eq_true (by omega)
        clear c4
        obtain ⟨y188, hy188⟩ : ∃ y_ : List ByteArray, y_ = (([(⟨#[97]⟩ : ByteArray), (⟨#[98]⟩ : ByteArray)] : List ByteArray)) := ⟨_, rfl⟩
        replace H : ((laws_sameRecord.f k ((rd_T24 t183 0).f0) ((rd_T24 t183 0).f1) ((rd_T24 t183 0).f2) ((rd_T24 t183 0).f3) (⟨#[97, 98]⟩ : ByteArray) y188 (([(⟨#[99]⟩ : ByteArray), (⟨#[100]⟩ : ByteArray)] : List ByteArray)) (⟨#[110]⟩ : ByteArray) true).bind fun t194 => (some t194)) = some r := by first | (rw [hy188]; with_reducible exact H) | (have H2_ := (Option.bind_some _ _).symm.trans H; rw [hy188]; with_reducible exact H2_) | (have H2_ := (Option.bind_some _ _).symm.trans H; with_reducible exact H2_) | with_reducible exact H | (rw [hy188]; exact H) | exact H
        have Ny188 := Aside0.mk hy188
        clear hy188
        obtain ⟨y191, hy191⟩ : ∃ y_ : List ByteArray, y_ = (([(⟨#[99]⟩ : ByteArray), (⟨#[100]⟩ : ByteArray)] : List ByteArray)) := ⟨_, rfl⟩
        replace H : ((laws_sameRecord.f k ((rd_T24 t183 0).f0) ((rd_T24 t183 0).f1) ((rd_T24 t183 0).f2) ((rd_T24 t183 0).f3) (⟨#[97, 98]⟩ : ByteArray) y188 y191 (⟨#[110]⟩ : ByteArray) true).bind fun t194 => (some t194)) = some r := by first | (rw [hy191]; with_reducible exact H) | (have H2_ := (Option.bind_some _ _).symm.trans H; rw [hy191]; with_reducible exact H2_) | (have H2_ := (Option.bind_some _ _).symm.trans H; with_reducible exact H2_) | with_reducible exact H | (rw [hy191]; exact H) | exact H
        have Ny191 := Aside0.mk hy191
        clear hy191
        replace H := Option.bind_eq_some_iff.mp H
        obtain ⟨t194, A50, H⟩ := H
        replace H : (some t194) = some r := H
        have A5 := Aside0.mk A50
        clear A50
        obtain rfl := Option.some.inj H
        go_enter Try.func6, Try.ntmps6
        go_wp2_with (first | ((with_reducible refine gate_callee (f := 9) rfl ?_); refine goesL_ (some 4) rfl rfl Try.func9 (by kernel_rfl) rfl #[.string (⟨#[97, 98, 44, 97, 32, 98, 44, 99, 32, 100, 44, 110, 10]⟩ : ByteArray)] rfl (by (try simp only [List.map_toArray, List.map_cons, List.map_nil]); first | done | rfl | (simp only [List.length_drop, List.length_take]; rfl)) ?_; (with_reducible refine (impl_UserRecords.calls k (⟨#[97, 98, 44, 97, 32, 98, 44, 99, 32, 100, 44, 110, 10]⟩ : ByteArray) t183 t186 _ A1.out).mono ?_); rintro e w6 ⟨v184, rfl, ho0, hb⟩; refine ⟨_, rfl, ?_⟩; have n0_ := Aside0.mk (Kd.N_lower (Kd.N_mono (ok' := fun k_ => True) ho0 (fun k_ hk_ => trivial)) (below_size (by repeat (first | (with_reducible first | exact HB.out | apply below_alloc | apply pw_below_drewN | apply below_drew1) | exact HB.out)))); have n1_ := Aside0.mk (below_step (by repeat (first | (with_reducible first | exact HB.out | apply below_alloc | apply pw_below_drewN | apply below_drew1) | exact HB.out)) hb); clear HB; have HO185 := n0_; have HB := n1_; clear n0_ n1_; (try clear hb); (try clear hb2); (try clear hk); (try clear hi); (try clear ho0); obtain ⟨Ao7, co7, eo7⟩ := Kd.N_slice HO185.out; subst eo7; have p187 : 0 ≤ (0 : Int) := (by omega); have q187 : 0 < (t183.length : Int) := of_decide_eq_true (by first | (with_reducible assumption) | assumption); obtain ⟨ad187, A187_1, c187_1, A187_2, c187_2, e187, hx187_0, hx187_1, hx187_2, hx187_3, hl187_1, hi187_1, hl187_2, hi187_2⟩ := at_T24 (Kd.N_reads' HO185.out).2.2 0 p187 q187; cases e187; obtain ⟨ce187, hce187, hMe187, hcc187⟩ := Kd.N_get HO185.out z24 0 p187 (by first | exact q187 | exact of_decide_eq_true (by first | (with_reducible assumption) | assumption) | (have e_ := (Kd.N_reads' HO185.out).1; omega)); obtain ⟨ua187_1, uc187_1, ua187_2, uc187_2, rfl, ul187_1, ge187_1, ul187_2, ge187_2⟩ := k24_openF hMe187; have hv187_1 := hcc187 1 _ rfl; rw [add_field _ _ 1 (by omega)] at hv187_1; replace hv187_1 := Option.some.inj (hv187_1.symm.trans hx187_1); injection hv187_1 with hva_ hvn_ hvc_; rw [hva_] at ge187_1; rw [hvc_] at ul187_1; have HL187_1 := Aside0.mk (show Kd.V Kd.string 9 _ w.heap.size _ _ ((rd_T24 t183 0).f1) from Kd.V_mk ul187_1 ge187_1); clear hva_ hvn_ hvc_ ge187_1 ul187_1; have hv187_2 := hcc187 2 _ rfl; rw [add_field _ _ 2 (by omega)] at hv187_2; replace hv187_2 := Option.some.inj (hv187_2.symm.trans hx187_2); injection hv187_2 with hva_ hvn_ hvc_; rw [hva_] at ge187_2; rw [hvc_] at ul187_2; have HL187_2 := Aside0.mk (show Kd.V Kd.string 9 _ w.heap.size _ _ ((rd_T24 t183 0).f2) from Kd.V_mk ul187_2 ge187_2); clear hva_ hvn_ hvc_ ge187_2 ul187_2; clear hcc187 hce187; have qi187 : (0 < t183.length) = True := eq_true (by omega); (try rw [show ((0 : Int)).toNat = 0 from rfl] at hx187_0); (try rw [show 0 * 4 = 0 from rfl] at hx187_0); (try rw [Addr.add_zero'] at hx187_0); (try rw [show ((0 : Int)).toNat = 0 from rfl] at hx187_1); (try rw [show 0 * 4 = 0 from rfl] at hx187_1); (try rw [Addr.add_zero'] at hx187_1); (try rw [show ((0 : Int)).toNat = 0 from rfl] at hx187_2); (try rw [show 0 * 4 = 0 from rfl] at hx187_2); (try rw [Addr.add_zero'] at hx187_2); (try rw [show ((0 : Int)).toNat = 0 from rfl] at hx187_3); (try rw [show 0 * 4 = 0 from rfl] at hx187_3); (try rw [Addr.add_zero'] at hx187_3); have HR187_1 := Aside0.mk hi187_1; have HC187_1 := Aside0.mk hl187_1; clear hi187_1 hl187_1; have HR187_2 := Aside0.mk hi187_2; have HC187_2 := Aside0.mk hl187_2; clear hi187_2 hl187_2; replace p187 := eq_true p187; replace q187 := eq_true q187) | ((with_reducible refine gate_dst (N := 18) rfl ?_); (try (refine gate_guard (by rfl) ?_; dsimp only)); refine Kd.R_lit Kd.string _ 9 ?hg (N := 18) ?hd (xs := ([(⟨#[97]⟩ : ByteArray), (⟨#[98]⟩ : ByteArray)] : List ByteArray)) (inner := [.string (⟨#[97]⟩ : ByteArray), .string (⟨#[98]⟩ : ByteArray)]) (ok := fun _ => True) (okp := fun _ => True) ?hr ?hp (fun _ hk => hk) trivial (Below.refl _ _) (Nat.le_refl _) (by simp) ?_; (case hd => rfl); (case hg => rfl); (case hr => first | (go_simp; done) | (go_simp; rfl)); (case hp => exact (Reps.one (show Kd.M Kd.string _ _ _ (⟨#[97]⟩ : ByteArray) [.string (⟨#[97]⟩ : ByteArray)] from rfl) (Reps.one (show Kd.M Kd.string _ _ _ (⟨#[98]⟩ : ByteArray) [.string (⟨#[98]⟩ : ByteArray)] from rfl) (Reps.none _ _)))); intro v189 w8 ho9 hb hg_ hnew_; clear hg_ hnew_; (first | rw [← Ny188.out] at ho9 | (simp only [Int.reduceToNat] at ho9; rw [← Ny188.out] at ho9)); have n0_ := Aside0.mk (Kd.N_elder' (by (with_reducible repeat (first | apply Kd.N_alloc | apply Kd.N_drewN | apply Kd.N_drew)); exact HO185.out) (Kd.R_base ho9) hb); have n1_ := Aside0.mk (Kd.V_elder' (by (with_reducible repeat (first | apply Kd.V_alloc | apply Kd.V_drewN | apply Kd.V_drew)); exact HL187_1.out) (Kd.R_base ho9) hb); have n2_ := Aside0.mk (Kd.V_elder' (by (with_reducible repeat (first | apply Kd.V_alloc | apply Kd.V_drewN | apply Kd.V_drew)); exact HL187_2.out) (Kd.R_base ho9) hb); have n3_ := Aside0.mk (Kd.R_lower ho9 (below_size (by repeat (first | (with_reducible first | exact HB.out | apply below_alloc | apply pw_below_drewN | apply below_drew1) | exact HB.out)))); have n4_ := Aside0.mk (Kd.C_below (by repeat (first | (with_reducible exact HR187_1.out) | (with_reducible refine Kd.C_alloc ?_ _) | (with_reducible refine Kd.C_drewN ?_ _) | (with_reducible refine Kd.C_drew ?_) | exact HR187_1.out)) hb); have n5_ := Aside0.mk (Kd.C_below (by repeat (first | (with_reducible exact HR187_2.out) | (with_reducible refine Kd.C_alloc ?_ _) | (with_reducible refine Kd.C_drewN ?_ _) | (with_reducible refine Kd.C_drew ?_) | exact HR187_2.out)) hb); have n6_ := Aside0.mk (below_step (by repeat (first | (with_reducible first | exact HB.out | apply below_alloc | apply pw_below_drewN | apply below_drew1) | exact HB.out)) hb); clear HO185; clear HL187_1; clear HL187_2; clear HR187_1; clear HR187_2; clear HB; have HO185 := n0_; have HL187_1 := n1_; have HL187_2 := n2_; have HO190 := n3_; have HR187_1 := n4_; have HR187_2 := n5_; have HB := n6_; clear n0_ n1_ n2_ n3_ n4_ n5_ n6_; clear hb ho9) | ((with_reducible refine gate_dst (N := 19) rfl ?_); (try (refine gate_guard (by rfl) ?_; dsimp only)); refine Kd.R_lit Kd.string _ 9 ?hg (N := 19) ?hd (xs := ([(⟨#[99]⟩ : ByteArray), (⟨#[100]⟩ : ByteArray)] : List ByteArray)) (inner := [.string (⟨#[99]⟩ : ByteArray), .string (⟨#[100]⟩ : ByteArray)]) (ok := fun _ => True) (okp := fun _ => True) ?hr ?hp (fun _ hk => hk) trivial (Below.refl _ _) (Nat.le_refl _) (by simp) ?_; (case hd => rfl); (case hg => rfl); (case hr => first | (go_simp; done) | (go_simp; rfl)); (case hp => exact (Reps.one (show Kd.M Kd.string _ _ _ (⟨#[99]⟩ : ByteArray) [.string (⟨#[99]⟩ : ByteArray)] from rfl) (Reps.one (show Kd.M Kd.string _ _ _ (⟨#[100]⟩ : ByteArray) [.string (⟨#[100]⟩ : ByteArray)] from rfl) (Reps.none _ _)))); intro v192 w10 ho11 hb hg_ hnew_; clear hg_ hnew_; (first | rw [← Ny191.out] at ho11 | (simp only [Int.reduceToNat] at ho11; rw [← Ny191.out] at ho11)); have n0_ := Aside0.mk (Kd.N_elder' (by (with_reducible repeat (first | apply Kd.N_alloc | apply Kd.N_drewN | apply Kd.N_drew)); exact HO185.out) (Kd.R_base ho11) hb); have n1_ := Aside0.mk (Kd.V_elder' (by (with_reducible repeat (first | apply Kd.V_alloc | apply Kd.V_drewN | apply Kd.V_drew)); exact HL187_1.out) (Kd.R_base ho11) hb); have n2_ := Aside0.mk (Kd.V_elder' (by (with_reducible repeat (first | apply Kd.V_alloc | apply Kd.V_drewN | apply Kd.V_drew)); exact HL187_2.out) (Kd.R_base ho11) hb); have n3_ := Aside0.mk (Kd.R_elder' (by (with_reducible repeat (first | apply Kd.R_alloc | apply Kd.R_drewN | apply Kd.R_drew)); exact HO190.out) (Kd.R_base ho11) hb); have n4_ := Aside0.mk (Kd.R_lower (Kd.R_new' ho11 (Kd.R_lt (by (with_reducible repeat (first | apply Kd.R_alloc | apply Kd.R_drewN | apply Kd.R_drew)); exact HO190.out))) (below_size (by repeat (first | (with_reducible first | exact HB.out | apply below_alloc | apply pw_below_drewN | apply below_drew1) | exact HB.out)))); have n5_ := Aside0.mk (Kd.C_below (by repeat (first | (with_reducible exact HR187_1.out) | (with_reducible refine Kd.C_alloc ?_ _) | (with_reducible refine Kd.C_drewN ?_ _) | (with_reducible refine Kd.C_drew ?_) | exact HR187_1.out)) hb); have n6_ := Aside0.mk (Kd.C_below (by repeat (first | (with_reducible exact HR187_2.out) | (with_reducible refine Kd.C_alloc ?_ _) | (with_reducible refine Kd.C_drewN ?_ _) | (with_reducible refine Kd.C_drew ?_) | exact HR187_2.out)) hb); have n7_ := Aside0.mk (below_step (by repeat (first | (with_reducible first | exact HB.out | apply below_alloc | apply pw_below_drewN | apply below_drew1) | exact HB.out)) hb); clear HO185; clear HL187_1; clear HL187_2; clear HO190; clear HR187_1; clear HR187_2; clear HB; have HO185 := n0_; have HL187_1 := n1_; have HL187_2 := n2_; have HO190 := n3_; have HO193 := n4_; have HR187_1 := n5_; have HR187_2 := n6_; have HB := n7_; clear n0_ n1_ n2_ n3_ n4_ n5_ n6_ n7_; clear hb ho11; obtain ⟨Ao12, co12, eo12⟩ := Kd.R_slice HO193.out; subst eo12; obtain ⟨Ao13, co13, eo13⟩ := Kd.R_slice HO190.out; subst eo13) | (go_at_call 12; (with_reducible refine (laws_sameRecord.calls k ((rd_T24 t183 0).f0) _ _ ((rd_T24 t183 0).f1) _ _ ((rd_T24 t183 0).f2) ((rd_T24 t183 0).f3) (⟨#[97, 98]⟩ : ByteArray) _ _ y188 _ _ y191 (⟨#[110]⟩ : ByteArray) true t194 _ ?side1 ?side2 ?side3 ?side4 ?side5 ?side6 ?side7 ?side8 A5.out).mono ?_); (case side1 => repeat (first | exact (by repeat (first | (with_reducible exact HR187_1.out) | (with_reducible refine Kd.C_alloc ?_ _) | (with_reducible refine Kd.C_drewN ?_ _) | (with_reducible refine Kd.C_drew ?_) | exact HR187_1.out)) | (with_reducible refine Kd.C_alloc ?_ _) | (with_reducible refine Kd.C_drewN ?_ _) | (with_reducible refine Kd.C_drew ?_))); (case side2 => exact HC187_1.out); (case side3 => repeat (first | exact (by repeat (first | (with_reducible exact HR187_2.out) | (with_reducible refine Kd.C_alloc ?_ _) | (with_reducible refine Kd.C_drewN ?_ _) | (with_reducible refine Kd.C_drew ?_) | exact HR187_2.out)) | (with_reducible refine Kd.C_alloc ?_ _) | (with_reducible refine Kd.C_drewN ?_ _) | (with_reducible refine Kd.C_drew ?_))); (case side4 => exact HC187_2.out); (case side5 => repeat (first | exact (Kd.R_reads' HO190.out).2.2 | (with_reducible refine Kd.C_alloc ?_ _) | (with_reducible refine Kd.C_drewN ?_ _) | (with_reducible refine Kd.C_drew ?_))); (case side6 => exact (Kd.R_reads' HO190.out).2.1); (case side7 => repeat (first | exact (Kd.R_reads' HO193.out).2.2 | (with_reducible refine Kd.C_alloc ?_ _) | (with_reducible refine Kd.C_drewN ?_ _) | (with_reducible refine Kd.C_drew ?_))); (case side8 => exact (Kd.R_reads' HO193.out).2.1); rintro e w14 ⟨rfl, hb⟩; have n0_ := Aside0.mk (Kd.N_below (by (with_reducible repeat (first | apply Kd.N_alloc | apply Kd.N_drewN | apply Kd.N_drew)); exact HO185.out) hb); have n1_ := Aside0.mk (Kd.V_below (by (with_reducible repeat (first | apply Kd.V_alloc | apply Kd.V_drewN | apply Kd.V_drew)); exact HL187_1.out) hb); have n2_ := Aside0.mk (Kd.V_below (by (with_reducible repeat (first | apply Kd.V_alloc | apply Kd.V_drewN | apply Kd.V_drew)); exact HL187_2.out) hb); have n3_ := Aside0.mk (Kd.R_below (by (with_reducible repeat (first | apply Kd.R_alloc | apply Kd.R_drewN | apply Kd.R_drew)); exact HO190.out) hb); have n4_ := Aside0.mk (Kd.R_below (by (with_reducible repeat (first | apply Kd.R_alloc | apply Kd.R_drewN | apply Kd.R_drew)); exact HO193.out) hb); have n5_ := Aside0.mk (Kd.C_below (by repeat (first | (with_reducible exact HR187_1.out) | (with_reducible refine Kd.C_alloc ?_ _) | (with_reducible refine Kd.C_drewN ?_ _) | (with_reducible refine Kd.C_drew ?_) | exact HR187_1.out)) hb); have n6_ := Aside0.mk (Kd.C_below (by repeat (first | (with_reducible exact HR187_2.out) | (with_reducible refine Kd.C_alloc ?_ _) | (with_reducible refine Kd.C_drewN ?_ _) | (with_reducible refine Kd.C_drew ?_) | exact HR187_2.out)) hb); have n7_ := Aside0.mk (below_step (by repeat (first | (with_reducible first | exact HB.out | apply below_alloc | apply pw_below_drewN | apply below_drew1) | exact HB.out)) hb); clear HO185; clear HL187_1; clear HL187_2; clear HO190; clear HO193; clear HR187_1; clear HR187_2; clear HB; have HO185 := n0_; have HL187_1 := n1_; have HL187_2 := n2_; have HO190 := n3_; have HO193 := n4_; have HR187_1 := n5_; have HR187_2 := n6_; have HB := n7_; clear n0_ n1_ n2_ n3_ n4_ n5_ n6_ n7_; (try clear hb); (try clear hb2); (try clear hk); (try clear hi)))
        go_ret
        exact ⟨by first | rfl | (simp [errW_none, errW_some] <;> rfl) | (simp [*, errW_none, errW_some] <;> rfl), by repeat (first | (with_reducible first | exact HB.out | apply below_alloc | apply pw_below_drewN | apply below_drew1) | exact HB.out)⟩
      · rw [if_neg c4] at H
        exact absurd H (by simp)
    · rw [if_neg c3] at H
      have c3b0 : ((t183.length : Int) == 1) = false := beq_eq_false_iff_ne.mpr c3
      have c3b1 : ((t183.length : Int) != 1) = true := bne_iff_ne.mpr c3
      obtain rfl := Option.some.inj H
      go_enter Try.func6, Try.ntmps6
      go_wp2_with (first | ((with_reducible refine gate_callee (f := 9) rfl ?_); refine goesL_ (some 4) rfl rfl Try.func9 (by kernel_rfl) rfl #[.string (⟨#[97, 98, 44, 97, 32, 98, 44, 99, 32, 100, 44, 110, 10]⟩ : ByteArray)] rfl (by (try simp only [List.map_toArray, List.map_cons, List.map_nil]); first | done | rfl | (simp only [List.length_drop, List.length_take]; rfl)) ?_; (with_reducible refine (impl_UserRecords.calls k (⟨#[97, 98, 44, 97, 32, 98, 44, 99, 32, 100, 44, 110, 10]⟩ : ByteArray) t183 t186 _ A1.out).mono ?_); rintro e w15 ⟨v184, rfl, ho0, hb⟩; refine ⟨_, rfl, ?_⟩; have n0_ := Aside0.mk (Kd.N_lower (Kd.N_mono (ok' := fun k_ => True) ho0 (fun k_ hk_ => trivial)) (below_size (by repeat (first | (with_reducible first | exact HB.out | apply below_alloc | apply pw_below_drewN | apply below_drew1) | exact HB.out)))); have n1_ := Aside0.mk (below_step (by repeat (first | (with_reducible first | exact HB.out | apply below_alloc | apply pw_below_drewN | apply below_drew1) | exact HB.out)) hb); clear HB; have HO185 := n0_; have HB := n1_; clear n0_ n1_; (try clear hb); (try clear hb2); (try clear hk); (try clear hi); (try clear ho0); obtain ⟨Ao16, co16, eo16⟩ := Kd.N_slice HO185.out; subst eo16))
      go_ret
      exact ⟨by first | rfl | (simp [errW_none, errW_some] <;> rfl) | (simp [*, errW_none, errW_some] <;> rfl), by repeat (first | (with_reducible first | exact HB.out | apply below_alloc | apply pw_below_drewN | apply below_drew1) | exact HB.out)⟩
  · rw [if_neg c2] at H
    have c2b0 : (t186 == 0) = false := beq_eq_false_iff_ne.mpr c2
    have c2b1 : (t186 != 0) = true := bne_iff_ne.mpr c2
    obtain rfl := Option.some.inj H
    go_enter Try.func6, Try.ntmps6
    go_wp2_with (first | ((with_reducible refine gate_callee (f := 9) rfl ?_); refine goesL_ (some 4) rfl rfl Try.func9 (by kernel_rfl) rfl #[.string (⟨#[97, 98, 44, 97, 32, 98, 44, 99, 32, 100, 44, 110, 10]⟩ : ByteArray)] rfl (by (try simp only [List.map_toArray, List.map_cons, List.map_nil]); first | done | rfl | (simp only [List.length_drop, List.length_take]; rfl)) ?_; (with_reducible refine (impl_UserRecords.calls k (⟨#[97, 98, 44, 97, 32, 98, 44, 99, 32, 100, 44, 110, 10]⟩ : ByteArray) t183 t186 _ A1.out).mono ?_); rintro e w17 ⟨v184, rfl, ho0, hb⟩; refine ⟨_, rfl, ?_⟩; have n0_ := Aside0.mk (Kd.N_lower (Kd.N_mono (ok' := fun k_ => True) ho0 (fun k_ hk_ => trivial)) (below_size (by repeat (first | (with_reducible first | exact HB.out | apply below_alloc | apply pw_below_drewN | apply below_drew1) | exact HB.out)))); have n1_ := Aside0.mk (below_step (by repeat (first | (with_reducible first | exact HB.out | apply below_alloc | apply pw_below_drewN | apply below_drew1) | exact HB.out)) hb); clear HB; have HO185 := n0_; have HB := n1_; clear n0_ n1_; (try clear hb); (try clear hb2); (try clear hk); (try clear hi); (try clear ho0)))
    go_ret
    exact ⟨by first | rfl | (simp [errW_none, errW_some] <;> rfl) | (simp [*, errW_none, errW_some] <;> rfl), by repeat (first | (with_reducible first | exact HB.out | apply below_alloc | apply pw_below_drewN | apply below_drew1) | exact HB.out)⟩

/-! ### laws_joined: function 8 -/
def laws_joined.l0 : Nat → List ByteArray → ByteArray → ByteArray → Int → Int → Option (ByteArray)
  | 0, _, _, _, _, _ => none
  | k + 1, x0, x1, x5, x8, x9 => if x9 < x8 then (if x9 > 0 then (if x5.size + x1.size ≤ 9223372036854775807 then (if 0 ≤ x9 then (if x9 < (x0.length : Int) then (if (x5 ++ x1).size + (rdOf ByteArray.empty x0 x9).size ≤ 9223372036854775807 then (laws_joined.l0 k x0 x1 ((x5 ++ x1) ++ (rdOf ByteArray.empty x0 x9)) x8 (wrap64 (x9 + 1))) else (none)) else (none)) else (none)) else (none)) else (if 0 ≤ x9 then (if x9 < (x0.length : Int) then (if x5.size + (rdOf ByteArray.empty x0 x9).size ≤ 9223372036854775807 then (laws_joined.l0 k x0 x1 (x5 ++ (rdOf ByteArray.empty x0 x9)) x8 (wrap64 (x9 + 1))) else (none)) else (none)) else (none))) else (some x5)
def laws_joined.f (k : Nat) (l0 : List ByteArray) (a1 : ByteArray) : Option (ByteArray) := laws_joined.l0 k l0 a1 (⟨#[]⟩ : ByteArray) (l0.length : Int) 0
theorem laws_joined.mono_l : ∀ k, (∀ y0 y1 y2 y3 y4, LeO (laws_joined.l0 k y0 y1 y2 y3 y4) (laws_joined.l0 (k + 1) y0 y1 y2 y3 y4))
  | 0 => fun _ _ _ _ _ r h => by simp [laws_joined.l0] at h
  | k + 1 => by
    have ih0 := laws_joined.mono_l k
    · intro y0 y1 y2 y3 y4
      unfold laws_joined.l0
      repeat' first
      | (with_reducible exact ih0 _ _ _ _ _)
      | (with_reducible exact LeO.refl _)
      | (with_reducible exact LeO.none _)
      | (with_reducible refine LeO.ite ?_ ?_)
      | (with_reducible refine LeO.bind ?_ (fun _ => ?_))
      | exact ih0 _ _ _ _ _
      | exact LeO.none _
      | refine LeO.ite ?_ ?_
      | refine LeO.bind ?_ (fun _ => ?_)
theorem laws_joined.mono : ∀ a0 a1 k, LeO (laws_joined.f k a0 a1) (laws_joined.f (k + 1) a0 a1) := by
  intro a0 a1 k
  have ih0 := laws_joined.mono_l k
  unfold laws_joined.f
  repeat' first
      | (with_reducible exact ih0 _ _ _ _ _)
      | (with_reducible exact LeO.refl _)
      | (with_reducible exact LeO.none _)
      | (with_reducible refine LeO.ite ?_ ?_)
      | (with_reducible refine LeO.bind ?_ (fun _ => ?_))
      | exact ih0 _ _ _ _ _
      | exact LeO.none _
      | refine LeO.ite ?_ ?_
      | refine LeO.bind ?_ (fun _ => ?_)
set_option maxHeartbeats 8000000 in
set_option maxRecDepth 100000 in
theorem laws_joined.calls (k : Nat) (A0 : Option Addr) (c0 : Nat) (l0 : List ByteArray) (a1 : ByteArray) (r : ByteArray) (w : World) (hr0 : Kd.C Kd.string w A0 l0.length l0) (hc0 : l0.length ≤ c0) (h : laws_joined.f k l0 a1 = some r) :
    Calls Try.prog 8 #[.slice A0 l0.length c0, .string a1] w fun e w' => e = .returned (.string r) ∧ Drawn0 w w' := by
  have HR0 := Aside0.mk hr0
  have HC0 := Aside0.mk hc0
  clear hr0 hc0
  have H : (laws_joined.l0 k l0 a1 (⟨#[]⟩ : ByteArray) (l0.length : Int) 0) = some r := h
  clear h
  have H' := Aside0.mk H
  clear H
  go_enter Try.func8, Try.ntmps8
  go_wp2
  go_loopg [5, 9] k (fun kq v5 v9 w' => ∃ (x5_1 : ByteArray) (x9_1 : Int), v5 = .string x5_1 ∧ v9 = .int .i64 x9_1 ∧ Aside0 (laws_joined.l0 kq l0 a1 x5_1 (l0.length : Int) x9_1 = some r) ∧ Aside0 (kq ≤ k) ∧ Drawn0 w w')
  case atStart => exact ⟨((⟨#[]⟩ : ByteArray)), (0), (by first | rfl | (simp; done) | (simp [*]; done)), (by first | rfl | (simp; done) | (simp [*]; done)), H', ⟨Nat.le_refl _⟩, by repeat (first | exact Drawn0.refl _ | apply Drawn0.step)⟩
  case round =>
    clear H'
    try clear p2
    obtain ⟨x5_1, x9_1, rfl, rfl, HA, HK1, ⟨m1, rfl⟩⟩ := hrel
    cases gk with
    | zero => exact absurd HA.out (by simp [laws_joined.l0])
    | succ k1 =>
      have H := HA.out
      clear HA
      simp only [laws_joined.l0] at H
      by_cases c3 : x9_1 < (l0.length : Int)
      · rw [if_pos c3] at H
        have c3b0 : decide (x9_1 < (l0.length : Int)) = true := decide_eq_true c3
        clear c3
        by_cases c4 : x9_1 > 0
        · rw [if_pos c4] at H
          have c4b0 : decide (0 < x9_1) = true := decide_eq_true c4
          clear c4
          by_cases c5 : x5_1.size + a1.size ≤ 9223372036854775807
          · rw [if_pos c5] at H
            have c5b0 := eq_true c5
            have c5b1 : decide (x5_1.size + a1.size ≤ 9223372036854775807) = true := decide_eq_true c5
            try have c5b2 : (9223372036854775807 < x5_1.size + a1.size) = False := eq_false (Nat.not_lt.2 c5)
            by_cases c6 : 0 ≤ x9_1
            · rw [if_pos c6] at H
              have c6b0 : decide (0 ≤ x9_1) = true := decide_eq_true c6
              clear c6
              by_cases c7 : x9_1 < (l0.length : Int)
              · rw [if_pos c7] at H
                have c7b0 : decide (x9_1 < (l0.length : Int)) = true := decide_eq_true c7
                clear c7
                by_cases c8 : (x5_1 ++ a1).size + (rdOf ByteArray.empty l0 x9_1).size ≤ 9223372036854775807
                · rw [if_pos c8] at H
                  have c8b0 := eq_true c8
                  have c8b1 : decide ((x5_1 ++ a1).size + (rdOf ByteArray.empty l0 x9_1).size ≤ 9223372036854775807) = true := decide_eq_true c8
                  try have c8b2 : (9223372036854775807 < (x5_1 ++ a1).size + (rdOf ByteArray.empty l0 x9_1).size) = False := eq_false (Nat.not_lt.2 c8)
                  have H' := Aside0.mk H
                  clear H
                  have p195 : 0 ≤ (x9_1 : Int) := of_decide_eq_true (by first | (with_reducible assumption) | assumption)
                  have q195 : x9_1 < (l0.length : Int) := of_decide_eq_true (by first | (with_reducible assumption) | assumption)
                  obtain ⟨ad195, e195, hx195_0⟩ := Kd.at_string HR0.out x9_1 p195 q195
                  cases e195
                  replace p195 := eq_true p195
                  replace q195 := eq_true q195
                  go_wp2
                  go_roundg k1
                  case measure => have := HK1.out; omega
                  case rel => exact ⟨((x5_1 ++ a1) ++ (rdOf ByteArray.empty l0 x9_1)), (wrap64 (x9_1 + 1)), (by first | rfl | (simp; done) | (simp [*]; done)), (by first | rfl | (simp; done) | (simp [*]; done)), H', ⟨by have := HK1.out; omega⟩, by repeat (first | exact Drawn0.refl _ | apply Drawn0.step)⟩
                · rw [if_neg c8] at H
                  exact absurd H (by simp)
              · rw [if_neg c7] at H
                exact absurd H (by simp)
            · rw [if_neg c6] at H
              exact absurd H (by simp)
          · rw [if_neg c5] at H
            exact absurd H (by simp)
        · rw [if_neg c4] at H
          have c4b0 : decide (0 < x9_1) = false := decide_eq_false c4
          clear c4
          by_cases c9 : 0 ≤ x9_1
          · rw [if_pos c9] at H
            have c9b0 : decide (0 ≤ x9_1) = true := decide_eq_true c9
            clear c9
            by_cases c10 : x9_1 < (l0.length : Int)
            · rw [if_pos c10] at H
              have c10b0 : decide (x9_1 < (l0.length : Int)) = true := decide_eq_true c10
              clear c10
              by_cases c11 : x5_1.size + (rdOf ByteArray.empty l0 x9_1).size ≤ 9223372036854775807
              · rw [if_pos c11] at H
                have c11b0 := eq_true c11
                have c11b1 : decide (x5_1.size + (rdOf ByteArray.empty l0 x9_1).size ≤ 9223372036854775807) = true := decide_eq_true c11
                try have c11b2 : (9223372036854775807 < x5_1.size + (rdOf ByteArray.empty l0 x9_1).size) = False := eq_false (Nat.not_lt.2 c11)
                have H' := Aside0.mk H
                clear H
                have p196 : 0 ≤ (x9_1 : Int) := of_decide_eq_true (by first | (with_reducible assumption) | assumption)
                have q196 : x9_1 < (l0.length : Int) := of_decide_eq_true (by first | (with_reducible assumption) | assumption)
                obtain ⟨ad196, e196, hx196_0⟩ := Kd.at_string HR0.out x9_1 p196 q196
                cases e196
                replace p196 := eq_true p196
                replace q196 := eq_true q196
                go_wp2
                go_roundg k1
                case measure => have := HK1.out; omega
                case rel => exact ⟨(x5_1 ++ (rdOf ByteArray.empty l0 x9_1)), (wrap64 (x9_1 + 1)), (by first | rfl | (simp; done) | (simp [*]; done)), (by first | rfl | (simp; done) | (simp [*]; done)), H', ⟨by have := HK1.out; omega⟩, by repeat (first | exact Drawn0.refl _ | apply Drawn0.step)⟩
              · rw [if_neg c11] at H
                exact absurd H (by simp)
            · rw [if_neg c10] at H
              exact absurd H (by simp)
          · rw [if_neg c9] at H
            exact absurd H (by simp)
      · rw [if_neg c3] at H
        have c3b0 : decide (x9_1 < (l0.length : Int)) = false := decide_eq_false c3
        clear c3
        obtain rfl := Option.some.inj H
        go_wp2
        go_ret
        exact ⟨by first | rfl | (simp; done) | (simp [*]; done) | (simp [Own.isEmpty_bne]; done), by repeat (first | exact Drawn0.refl _ | apply Drawn0.step)⟩

/-! ### laws_line: function 7 -/
def laws_line.f (k : Nat) (a0_0 : ByteArray) (l0_1 : List ByteArray) (l0_2 : List ByteArray) (a0_3 : ByteArray) : Option (ByteArray) := if a0_0.size + 1 ≤ 9223372036854775807 then ((laws_joined.f k l0_1 (⟨#[32]⟩ : ByteArray)).bind fun t198 => (if (a0_0 ++ (⟨#[44]⟩ : ByteArray)).size + t198.size ≤ 9223372036854775807 then (if ((a0_0 ++ (⟨#[44]⟩ : ByteArray)) ++ t198).size + 1 ≤ 9223372036854775807 then ((laws_joined.f k l0_2 (⟨#[32]⟩ : ByteArray)).bind fun t199 => (if (((a0_0 ++ (⟨#[44]⟩ : ByteArray)) ++ t198) ++ (⟨#[44]⟩ : ByteArray)).size + t199.size ≤ 9223372036854775807 then (if ((((a0_0 ++ (⟨#[44]⟩ : ByteArray)) ++ t198) ++ (⟨#[44]⟩ : ByteArray)) ++ t199).size + 1 ≤ 9223372036854775807 then (if (((((a0_0 ++ (⟨#[44]⟩ : ByteArray)) ++ t198) ++ (⟨#[44]⟩ : ByteArray)) ++ t199) ++ (⟨#[44]⟩ : ByteArray)).size + a0_3.size ≤ 9223372036854775807 then (if ((((((a0_0 ++ (⟨#[44]⟩ : ByteArray)) ++ t198) ++ (⟨#[44]⟩ : ByteArray)) ++ t199) ++ (⟨#[44]⟩ : ByteArray)) ++ a0_3).size + 1 ≤ 9223372036854775807 then (some (((((((a0_0 ++ (⟨#[44]⟩ : ByteArray)) ++ t198) ++ (⟨#[44]⟩ : ByteArray)) ++ t199) ++ (⟨#[44]⟩ : ByteArray)) ++ a0_3) ++ (⟨#[10]⟩ : ByteArray))) else (none)) else (none)) else (none)) else (none))) else (none)) else (none))) else (none)
theorem laws_line.mono : ∀ a0 a1 a2 a3 k, LeO (laws_line.f k a0 a1 a2 a3) (laws_line.f (k + 1) a0 a1 a2 a3) := by
  intro a0 a1 a2 a3 k
  unfold laws_line.f
  repeat' first
      | (with_reducible exact laws_joined.mono _ _ _)
      | (with_reducible exact LeO.refl _)
      | (with_reducible exact LeO.none _)
      | (with_reducible refine LeO.ite ?_ ?_)
      | (with_reducible refine LeO.bind ?_ (fun _ => ?_))
      | exact laws_joined.mono _ _ _
      | exact LeO.none _
      | refine LeO.ite ?_ ?_
      | refine LeO.bind ?_ (fun _ => ?_)
set_option maxHeartbeats 8000000 in
set_option maxRecDepth 100000 in
theorem laws_line.calls (k : Nat) (a0_0 : ByteArray) (A0_1 : Option Addr) (c0_1 : Nat) (l0_1 : List ByteArray) (A0_2 : Option Addr) (c0_2 : Nat) (l0_2 : List ByteArray) (a0_3 : ByteArray) (r : ByteArray) (w : World) (hr0_1 : Kd.C Kd.string w A0_1 l0_1.length l0_1) (hc0_1 : l0_1.length ≤ c0_1) (hr0_2 : Kd.C Kd.string w A0_2 l0_2.length l0_2) (hc0_2 : l0_2.length ≤ c0_2) (h : laws_line.f k a0_0 l0_1 l0_2 a0_3 = some r) :
    Calls Try.prog 7 #[.agg #[.string a0_0, .slice A0_1 l0_1.length c0_1, .slice A0_2 l0_2.length c0_2, .string a0_3]] w fun e w' => e = .returned (.string r) ∧ Below w.heap.size w w' := by
  have hu24 := Try.underlying24
  have HR1 := Aside0.mk hr0_1
  have HC1 := Aside0.mk hc0_1
  have HR2 := Aside0.mk hr0_2
  have HC2 := Aside0.mk hc0_2
  clear hr0_1 hc0_1 hr0_2 hc0_2
  unfold laws_line.f at h
  by_cases c2 : a0_0.size + 1 ≤ 9223372036854775807
  · rw [if_pos c2] at h
    obtain ⟨t1, A1, h⟩ := Option.bind_eq_some_iff.mp h
    have A1 := Aside0.mk A1
    by_cases c3 : (a0_0 ++ (⟨#[44]⟩ : ByteArray)).size + t1.size ≤ 9223372036854775807
    · rw [if_pos c3] at h
      by_cases c4 : ((a0_0 ++ (⟨#[44]⟩ : ByteArray)) ++ t1).size + 1 ≤ 9223372036854775807
      · rw [if_pos c4] at h
        obtain ⟨t2, A2, h⟩ := Option.bind_eq_some_iff.mp h
        have A2 := Aside0.mk A2
        by_cases c5 : (((a0_0 ++ (⟨#[44]⟩ : ByteArray)) ++ t1) ++ (⟨#[44]⟩ : ByteArray)).size + t2.size ≤ 9223372036854775807
        · rw [if_pos c5] at h
          by_cases c6 : ((((a0_0 ++ (⟨#[44]⟩ : ByteArray)) ++ t1) ++ (⟨#[44]⟩ : ByteArray)) ++ t2).size + 1 ≤ 9223372036854775807
          · rw [if_pos c6] at h
            by_cases c7 : (((((a0_0 ++ (⟨#[44]⟩ : ByteArray)) ++ t1) ++ (⟨#[44]⟩ : ByteArray)) ++ t2) ++ (⟨#[44]⟩ : ByteArray)).size + a0_3.size ≤ 9223372036854775807
            · rw [if_pos c7] at h
              by_cases c8 : ((((((a0_0 ++ (⟨#[44]⟩ : ByteArray)) ++ t1) ++ (⟨#[44]⟩ : ByteArray)) ++ t2) ++ (⟨#[44]⟩ : ByteArray)) ++ a0_3).size + 1 ≤ 9223372036854775807
              · rw [if_pos c8] at h
                obtain rfl := Option.some.inj h
                clear h
                have c2b0 := eq_true c2
                have c2b1 := decide_eq_true c2
                have c2b2 : (9223372036854775807 < a0_0.size + 1) = False := eq_false (Nat.not_lt.2 c2)
                have c3b0 := eq_true c3
                have c3b1 := decide_eq_true c3
                have c3b2 : (9223372036854775807 < (a0_0 ++ (⟨#[44]⟩ : ByteArray)).size + t1.size) = False := eq_false (Nat.not_lt.2 c3)
                have c4b0 := eq_true c4
                have c4b1 := decide_eq_true c4
                have c4b2 : (9223372036854775807 < ((a0_0 ++ (⟨#[44]⟩ : ByteArray)) ++ t1).size + 1) = False := eq_false (Nat.not_lt.2 c4)
                have c5b0 := eq_true c5
                have c5b1 := decide_eq_true c5
                have c5b2 : (9223372036854775807 < (((a0_0 ++ (⟨#[44]⟩ : ByteArray)) ++ t1) ++ (⟨#[44]⟩ : ByteArray)).size + t2.size) = False := eq_false (Nat.not_lt.2 c5)
                have c6b0 := eq_true c6
                have c6b1 := decide_eq_true c6
                have c6b2 : (9223372036854775807 < ((((a0_0 ++ (⟨#[44]⟩ : ByteArray)) ++ t1) ++ (⟨#[44]⟩ : ByteArray)) ++ t2).size + 1) = False := eq_false (Nat.not_lt.2 c6)
                have c7b0 := eq_true c7
                have c7b1 := decide_eq_true c7
                have c7b2 : (9223372036854775807 < (((((a0_0 ++ (⟨#[44]⟩ : ByteArray)) ++ t1) ++ (⟨#[44]⟩ : ByteArray)) ++ t2) ++ (⟨#[44]⟩ : ByteArray)).size + a0_3.size) = False := eq_false (Nat.not_lt.2 c7)
                have c8b0 := eq_true c8
                have c8b1 := decide_eq_true c8
                have c8b2 : (9223372036854775807 < ((((((a0_0 ++ (⟨#[44]⟩ : ByteArray)) ++ t1) ++ (⟨#[44]⟩ : ByteArray)) ++ t2) ++ (⟨#[44]⟩ : ByteArray)) ++ a0_3).size + 1) = False := eq_false (Nat.not_lt.2 c8)
                have e44 : (⟨#[44]⟩ : ByteArray).size = 1 := rfl
                have n3 : a0_0.size + 1 + t1.size ≤ 9223372036854775807 := by have h_ := c3; simp only [ByteArray.size_append, e44] at h_; omega
                have n4 : a0_0.size + 1 + t1.size + 1 ≤ 9223372036854775807 := by have h_ := c4; simp only [ByteArray.size_append, e44] at h_; omega
                have n5 : a0_0.size + 1 + t1.size + 1 + t2.size ≤ 9223372036854775807 := by have h_ := c5; simp only [ByteArray.size_append, e44] at h_; omega
                have n6 : a0_0.size + 1 + t1.size + 1 + t2.size + 1 ≤ 9223372036854775807 := by have h_ := c6; simp only [ByteArray.size_append, e44] at h_; omega
                have n7 : a0_0.size + 1 + t1.size + 1 + t2.size + 1 + a0_3.size ≤ 9223372036854775807 := by have h_ := c7; simp only [ByteArray.size_append, e44] at h_; omega
                have n8 : a0_0.size + 1 + t1.size + 1 + t2.size + 1 + a0_3.size + 1 ≤ 9223372036854775807 := by have h_ := c8; simp only [ByteArray.size_append, e44] at h_; omega
                clear e44
                have n3b0 := eq_true n3
                have n3b1 := decide_eq_true n3
                have n3b2 : (9223372036854775807 < a0_0.size + 1 + t1.size) = False := eq_false (Nat.not_lt.2 n3)
                have n4b0 := eq_true n4
                have n4b1 := decide_eq_true n4
                have n4b2 : (9223372036854775807 < a0_0.size + 1 + t1.size + 1) = False := eq_false (Nat.not_lt.2 n4)
                have n5b0 := eq_true n5
                have n5b1 := decide_eq_true n5
                have n5b2 : (9223372036854775807 < a0_0.size + 1 + t1.size + 1 + t2.size) = False := eq_false (Nat.not_lt.2 n5)
                have n6b0 := eq_true n6
                have n6b1 := decide_eq_true n6
                have n6b2 : (9223372036854775807 < a0_0.size + 1 + t1.size + 1 + t2.size + 1) = False := eq_false (Nat.not_lt.2 n6)
                have n7b0 := eq_true n7
                have n7b1 := decide_eq_true n7
                have n7b2 : (9223372036854775807 < a0_0.size + 1 + t1.size + 1 + t2.size + 1 + a0_3.size) = False := eq_false (Nat.not_lt.2 n7)
                have n8b0 := eq_true n8
                have n8b1 := decide_eq_true n8
                have n8b2 : (9223372036854775807 < a0_0.size + 1 + t1.size + 1 + t2.size + 1 + a0_3.size + 1) = False := eq_false (Nat.not_lt.2 n8)
                go_enter Try.func7, Try.ntmps7
                go_wp2
                go_quiet (first | (with_reducible exact Calls.quiet_of ((laws_joined.calls k _ _ l0_1 (⟨#[32]⟩ : ByteArray) t1 _ (Kd.C_drewN (Kd.C_alloc HR1.out _) _) HC1.out A1.out).mono fun _ _ h => ⟨h.1, h.2.out⟩)) | (with_reducible exact Calls.quiet_of ((laws_joined.calls k _ _ l0_2 (⟨#[32]⟩ : ByteArray) t2 _ (Kd.C_drewN (Kd.C_alloc HR2.out _) _) HC2.out A2.out).mono fun _ _ h => ⟨h.1, h.2.out⟩)))
                go_wp2
                go_ret
                exact ⟨rfl, pw_below_drewN (below_alloc (Below.refl _ _) _) _⟩
              · rw [if_neg c8] at h; cases h
            · rw [if_neg c7] at h; cases h
          · rw [if_neg c6] at h; cases h
        · rw [if_neg c5] at h; cases h
      · rw [if_neg c4] at h; cases h
    · rw [if_neg c3] at h; cases h
  · rw [if_neg c2] at h; cases h

end Go.Proofs.Ytckdpckdabfkbab.PA
