-- Written by a program of ours out of the kit's print program.
import Derived.Test.YtckdpckdabfkbabDoorPCx0
namespace Go.Proofs.YtckdpckdabfkbabDoor.PC
open Go.RowKit Go.Proofs.YtckdpckdabfkbabDoorW.PrintWords Go.Proofs.YtckdpckdabfkbabDoorW.PrintLast Go.Proofs.YtckdpckdabfkbabDoorW.PrintMore
attribute [local go_sem] max2_int min2_int max_two min_two max_three min_three max_four min_four   -- for this text's walks alone
set_option linter.unusedVariables false
set_option linter.unusedSimpArgs false

/-! ### filter_SentenceSplitter_isFollower: function 53 -/
def filter_SentenceSplitter_isFollower.l0 : Nat → Int → List Int → Int → Int → Option (Bool)
  | 0, _, _, _, _ => none
  | k + 1, x1, x8, x9, x10 => if x10 < x9 then (if 0 ≤ x10 then (if x10 < (x8.length : Int) then (if x1 = (rd x8 x10) then (some true) else (filter_SentenceSplitter_isFollower.l0 k x1 x8 x9 (wrap64 (x10 + 1)))) else (none)) else (none)) else (some false)
def filter_SentenceSplitter_isFollower.f (k : Nat) (l0_0 : List Int) (l0_1 : List Int) (a0_2 : Bool) (a0_3 : Bool) (a0_4 : Int) (a1 : Int) : Option (Bool) := filter_SentenceSplitter_isFollower.l0 k a1 l0_1 (l0_1.length : Int) 0
theorem filter_SentenceSplitter_isFollower.mono_l : ∀ k, (∀ y0 y1 y2 y3, LeO (filter_SentenceSplitter_isFollower.l0 k y0 y1 y2 y3) (filter_SentenceSplitter_isFollower.l0 (k + 1) y0 y1 y2 y3))
  | 0 => fun _ _ _ _ r h => by simp [filter_SentenceSplitter_isFollower.l0] at h
  | k + 1 => by
    have ih0 := filter_SentenceSplitter_isFollower.mono_l k
    · intro y0 y1 y2 y3
      unfold filter_SentenceSplitter_isFollower.l0
      repeat' first
      | (with_reducible exact ih0 _ _ _ _)
      | (with_reducible exact LeO.refl _)
      | (with_reducible exact LeO.none _)
      | (with_reducible refine LeO.ite ?_ ?_)
      | (with_reducible refine LeO.bind ?_ (fun _ => ?_))
      | exact ih0 _ _ _ _
      | exact LeO.none _
      | refine LeO.ite ?_ ?_
      | refine LeO.bind ?_ (fun _ => ?_)
theorem filter_SentenceSplitter_isFollower.mono : ∀ a0 a1 a2 a3 a4 a5 k, LeO (filter_SentenceSplitter_isFollower.f k a0 a1 a2 a3 a4 a5) (filter_SentenceSplitter_isFollower.f (k + 1) a0 a1 a2 a3 a4 a5) := by
  intro a0 a1 a2 a3 a4 a5 k
  have ih0 := filter_SentenceSplitter_isFollower.mono_l k
  unfold filter_SentenceSplitter_isFollower.f
  repeat' first
      | (with_reducible exact ih0 _ _ _ _)
      | (with_reducible exact LeO.refl _)
      | (with_reducible exact LeO.none _)
      | (with_reducible refine LeO.ite ?_ ?_)
      | (with_reducible refine LeO.bind ?_ (fun _ => ?_))
      | exact ih0 _ _ _ _
      | exact LeO.none _
      | refine LeO.ite ?_ ?_
      | refine LeO.bind ?_ (fun _ => ?_)
set_option maxHeartbeats 8000000 in
set_option maxRecDepth 100000 in
theorem filter_SentenceSplitter_isFollower.calls (k : Nat) (A0_0 : Option Addr) (c0_0 : Nat) (l0_0 : List Int) (A0_1 : Option Addr) (c0_1 : Nat) (l0_1 : List Int) (a0_2 : Bool) (a0_3 : Bool) (a0_4 : Int) (a1 : Int) (r : Bool) (w : World) (hr0_0 : Kd.C (Kd.int .i32) w A0_0 l0_0.length l0_0) (hc0_0 : l0_0.length ≤ c0_0) (hr0_1 : Kd.C (Kd.int .i32) w A0_1 l0_1.length l0_1) (hc0_1 : l0_1.length ≤ c0_1) (h : filter_SentenceSplitter_isFollower.f k l0_0 l0_1 a0_2 a0_3 a0_4 a1 = some r) :
    Calls Tryd.prog 53 #[.agg #[.slice A0_0 l0_0.length c0_0, .slice A0_1 l0_1.length c0_1, .bool a0_2, .bool a0_3, .int .i64 a0_4], .int .i32 a1] w fun e w' => e = .returned (.bool r) ∧ Below w.heap.size w w' := by
  have hu81 := Tryd.underlying81
  have HR0_0 := Aside0.mk hr0_0
  have HC0_0 := Aside0.mk hc0_0
  clear hr0_0 hc0_0
  have HR0_1 := Aside0.mk hr0_1
  have HC0_1 := Aside0.mk hc0_1
  clear hr0_1 hc0_1
  have HB := Aside0.mk (Below.refl w.heap.size w)
  have H : (filter_SentenceSplitter_isFollower.l0 k a1 l0_1 (l0_1.length : Int) 0) = some r := h
  clear h
  have H' := Aside0.mk H
  clear H
  go_enter Tryd.func53, Tryd.ntmps53
  go_wp2_with (first | ((with_reducible refine gate_dst (N := 2) rfl ?_); refine box_event ?hg (N := 2) ?hd (cs := #[.slice A0_0 l0_0.length c0_0, .slice A0_1 l0_1.length c0_1, .bool a0_2, .bool a0_3, .int .i64 a0_4]) (t := 81) ?hr ?_; (case hd => rfl); (case hg => rfl); (case hr => first | (go_simp; done) | (go_simp; rfl)); intro gb136 hg w3 hbox hb; have n0_ := Aside0.mk (below_step (by repeat (first | (with_reducible first | exact HB.out | apply below_alloc | apply pw_below_drewN | apply below_drew1) | exact HB.out)) hb); have n1_ := Aside0.mk (hbox); have n2_ := Aside0.mk ((by rw [hg]; exact (below_size (by repeat (first | (with_reducible first | exact HB.out | apply below_alloc | apply pw_below_drewN | apply below_drew1) | exact HB.out))) : w.heap.size ≤ gb136)); have n3_ := Aside0.mk ((by rw [hg]; exact (below_size (by repeat (first | (with_reducible first | exact HB.out | apply below_alloc | apply pw_below_drewN | apply below_drew1) | exact HB.out))) : w.heap.size ≤ gb136)); clear HB; have HB := n0_; have BK136 := n1_; have GW136 := n2_; have GE136 := n3_; clear n0_ n1_ n2_ n3_; clear hb hbox hg; have hcz4_0 : w3.cell? ⟨gb136, 0, none⟩ = some (.slice A0_0 l0_0.length c0_0) := (blk_cell BK136.out 0).trans rfl; have hcz4_1 : w3.cell? ⟨gb136, 1, none⟩ = some (.slice A0_1 l0_1.length c0_1) := (blk_cell BK136.out 1).trans rfl; have hcz4_2 : w3.cell? ⟨gb136, 2, none⟩ = some (.bool a0_2) := (blk_cell BK136.out 2).trans rfl; have hcz4_3 : w3.cell? ⟨gb136, 3, none⟩ = some (.bool a0_3) := (blk_cell BK136.out 3).trans rfl; have hcz4_4 : w3.cell? ⟨gb136, 4, none⟩ = some (.int .i64 a0_4) := (blk_cell BK136.out 4).trans rfl; have hfz4_0 := blk_frozen BK136.out 0; have hfz4_1 := blk_frozen BK136.out 1; have hfz4_2 := blk_frozen BK136.out 2; have hfz4_3 := blk_frozen BK136.out 3; have hfz4_4 := blk_frozen BK136.out 4))
  go_loopg [10] k (fun kq v10 w' => ∃ (x10_1 : Int), v10 = .int .i64 x10_1 ∧ Aside0 (filter_SentenceSplitter_isFollower.l0 kq a1 l0_1 (l0_1.length : Int) x10_1 = some r) ∧ Aside0 (kq ≤ k) ∧ Aside0 (w'.heap[gb136]? = some (.cells #[(.slice A0_0 l0_0.length c0_0), (.slice A0_1 l0_1.length c0_1), .bool a0_2, .bool a0_3, .int .i64 a0_4] 81 (0, 0))) ∧ Aside0 (Below w.heap.size w w'))
  case atStart => exact ⟨(0), (by first | rfl | (simp; done) | (simp [*]; done)), H', ⟨Nat.le_refl _⟩, ⟨by (with_reducible repeat (first | refine blk_drewN ?_ _ | refine blk_drew ?_ | refine blk_alloc ?_ _)); exact BK136.out⟩, ⟨by repeat (first | (with_reducible first | exact HB.out | apply below_alloc | apply pw_below_drewN | apply below_drew1 | refine below_set ?_ GE136.out) | exact HB.out)⟩⟩
  case round =>
    clear H'
    try clear p2
    try clear hcz4_0
    try clear hcz4_1
    try clear hcz4_2
    try clear hcz4_3
    try clear hcz4_4
    try clear hfz4_0
    try clear hfz4_1
    try clear hfz4_2
    try clear hfz4_3
    try clear hfz4_4
    obtain ⟨x10_1, rfl, HA, HK1, BK136, HB⟩ := hrel
    cases gk with
    | zero => exact absurd HA.out (by simp [filter_SentenceSplitter_isFollower.l0])
    | succ k1 =>
      have H := HA.out
      clear HA
      simp only [filter_SentenceSplitter_isFollower.l0] at H
      by_cases c5 : x10_1 < (l0_1.length : Int)
      · rw [if_pos c5] at H
        have c5b0 : decide (x10_1 < (l0_1.length : Int)) = true := decide_eq_true c5
        clear c5
        by_cases c6 : 0 ≤ x10_1
        · rw [if_pos c6] at H
          have c6b0 : decide (0 ≤ x10_1) = true := decide_eq_true c6
          clear c6
          by_cases c7 : x10_1 < (l0_1.length : Int)
          · rw [if_pos c7] at H
            have c7b0 : decide (x10_1 < (l0_1.length : Int)) = true := decide_eq_true c7
            clear c7
            by_cases c8 : a1 = (rd l0_1 x10_1)
            · rw [if_pos c8] at H
              have c8b0 : (a1 == (rd l0_1 x10_1)) = true := beq_iff_eq.mpr c8
              have c8b1 : (a1 != (rd l0_1 x10_1)) = false := bne_eq_false_iff_eq.mpr c8
              clear c8
              obtain rfl := Option.some.inj H
              have p137 : 0 ≤ (x10_1 : Int) := of_decide_eq_true (by first | (with_reducible assumption) | assumption)
              have q137 : x10_1 < (l0_1.length : Int) := of_decide_eq_true (by first | (with_reducible assumption) | assumption)
              obtain ⟨ad137, e137, hx137_0⟩ := Kd.at_int HR0_1.out x10_1 p137 q137
              cases e137
              replace hx137_0 := (HB.out.cell (World.block_lt_of_cell? w _ hx137_0)).trans hx137_0
              replace p137 := eq_true p137
              replace q137 := eq_true q137
              go_wp2
              go_ret
              exact ⟨by first | rfl | (simp [errW_none, errW_some] <;> rfl) | (simp [*, errW_none, errW_some] <;> rfl), by repeat (first | (with_reducible first | exact HB.out | apply below_alloc | apply pw_below_drewN | apply below_drew1 | refine below_set ?_ GE136.out) | exact HB.out)⟩
            · rw [if_neg c8] at H
              have c8b0 : (a1 == (rd l0_1 x10_1)) = false := beq_eq_false_iff_ne.mpr c8
              have c8b1 : (a1 != (rd l0_1 x10_1)) = true := bne_iff_ne.mpr c8
              have H' := Aside0.mk H
              clear H
              have p137 : 0 ≤ (x10_1 : Int) := of_decide_eq_true (by first | (with_reducible assumption) | assumption)
              have q137 : x10_1 < (l0_1.length : Int) := of_decide_eq_true (by first | (with_reducible assumption) | assumption)
              obtain ⟨ad137, e137, hx137_0⟩ := Kd.at_int HR0_1.out x10_1 p137 q137
              cases e137
              replace hx137_0 := (HB.out.cell (World.block_lt_of_cell? w _ hx137_0)).trans hx137_0
              replace p137 := eq_true p137
              replace q137 := eq_true q137
              go_wp2
              go_roundg k1
              case measure => have := HK1.out; omega
              case rel => exact ⟨(wrap64 (x10_1 + 1)), (by first | rfl | (simp; done) | (simp [*]; done)), H', ⟨by have := HK1.out; omega⟩, ⟨by (with_reducible repeat (first | refine blk_drewN ?_ _ | refine blk_drew ?_ | refine blk_alloc ?_ _)); exact BK136.out⟩, ⟨by repeat (first | (with_reducible first | exact HB.out | apply below_alloc | apply pw_below_drewN | apply below_drew1 | refine below_set ?_ GE136.out) | exact HB.out)⟩⟩
          · rw [if_neg c7] at H
            exact absurd H (by simp)
        · rw [if_neg c6] at H
          exact absurd H (by simp)
      · rw [if_neg c5] at H
        have c5b0 : decide (x10_1 < (l0_1.length : Int)) = false := decide_eq_false c5
        clear c5
        obtain rfl := Option.some.inj H
        go_wp2
        go_ret
        exact ⟨by first | rfl | (simp [errW_none, errW_some] <;> rfl) | (simp [*, errW_none, errW_some] <;> rfl), by repeat (first | (with_reducible first | exact HB.out | apply below_alloc | apply pw_below_drewN | apply below_drew1 | refine below_set ?_ GE136.out) | exact HB.out)⟩

-- NOT PRINTED: function 37 (filter_SentenceSplitter_ScanSentences)

-- NOT PRINTED: function 20 (impl_Sentences)

/-! ### laws_same_string: function 35 -/
def laws_same_string.l0 : Nat → List ByteArray → List ByteArray → Int → Int → Option (Bool)
  | 0, _, _, _, _ => none
  | k + 1, x0, x1, x12, x13 => if x13 < x12 then (if 0 ≤ x13 then (if x13 < (x0.length : Int) then (if x13 < (x1.length : Int) then (if (rdOf ByteArray.empty x0 x13).toList = (rdOf ByteArray.empty x1 x13).toList then (laws_same_string.l0 k x0 x1 x12 (wrap64 (x13 + 1))) else (some false)) else (none)) else (none)) else (none)) else (some true)
def laws_same_string.f (k : Nat) (l0 : List ByteArray) (l1 : List ByteArray) : Option (Bool) := if (l0.length : Int) = (l1.length : Int) then (laws_same_string.l0 k l0 l1 (l0.length : Int) 0) else (some false)
theorem laws_same_string.mono_l : ∀ k, (∀ y0 y1 y2 y3, LeO (laws_same_string.l0 k y0 y1 y2 y3) (laws_same_string.l0 (k + 1) y0 y1 y2 y3))
  | 0 => fun _ _ _ _ r h => by simp [laws_same_string.l0] at h
  | k + 1 => by
    have ih0 := laws_same_string.mono_l k
    · intro y0 y1 y2 y3
      unfold laws_same_string.l0
      repeat' first
      | (with_reducible exact ih0 _ _ _ _)
      | (with_reducible exact LeO.refl _)
      | (with_reducible exact LeO.none _)
      | (with_reducible refine LeO.ite ?_ ?_)
      | (with_reducible refine LeO.bind ?_ (fun _ => ?_))
      | exact ih0 _ _ _ _
      | exact LeO.none _
      | refine LeO.ite ?_ ?_
      | refine LeO.bind ?_ (fun _ => ?_)
theorem laws_same_string.mono : ∀ a0 a1 k, LeO (laws_same_string.f k a0 a1) (laws_same_string.f (k + 1) a0 a1) := by
  intro a0 a1 k
  have ih0 := laws_same_string.mono_l k
  unfold laws_same_string.f
  repeat' first
      | (with_reducible exact ih0 _ _ _ _)
      | (with_reducible exact LeO.refl _)
      | (with_reducible exact LeO.none _)
      | (with_reducible refine LeO.ite ?_ ?_)
      | (with_reducible refine LeO.bind ?_ (fun _ => ?_))
      | exact ih0 _ _ _ _
      | exact LeO.none _
      | refine LeO.ite ?_ ?_
      | refine LeO.bind ?_ (fun _ => ?_)
set_option maxHeartbeats 8000000 in
set_option maxRecDepth 100000 in
theorem laws_same_string.calls (k : Nat) (A0 : Option Addr) (c0 : Nat) (l0 : List ByteArray) (A1 : Option Addr) (c1 : Nat) (l1 : List ByteArray) (r : Bool) (w : World) (hr0 : Kd.C Kd.string w A0 l0.length l0) (hc0 : l0.length ≤ c0) (hr1 : Kd.C Kd.string w A1 l1.length l1) (hc1 : l1.length ≤ c1) (h : laws_same_string.f k l0 l1 = some r) :
    Calls Tryd.prog 35 #[.slice A0 l0.length c0, .slice A1 l1.length c1] w fun e w' => e = .returned (.bool r) ∧ Drawn0 w w' := by
  have HR0 := Aside0.mk hr0
  have HC0 := Aside0.mk hc0
  clear hr0 hc0
  have HR1 := Aside0.mk hr1
  have HC1 := Aside0.mk hc1
  clear hr1 hc1
  have H : (if (l0.length : Int) = (l1.length : Int) then (laws_same_string.l0 k l0 l1 (l0.length : Int) 0) else (some false)) = some r := h
  clear h
  by_cases c3 : (l0.length : Int) = (l1.length : Int)
  · rw [if_pos c3] at H
    have c3b0 : ((l0.length : Int) == (l1.length : Int)) = true := beq_iff_eq.mpr c3
    have c3b1 : ((l0.length : Int) != (l1.length : Int)) = false := bne_eq_false_iff_eq.mpr c3
    have c3b2 : (l0.length == l1.length) = true := by first | simpa using c3 | (simp at c3 ⊢; omega)
    clear c3
    have H' := Aside0.mk H
    clear H
    go_enter Tryd.func35, Tryd.ntmps35
    go_wp2
    repeat (go_quiet (fail); try go_wp2)
    go_loopg [13] k (fun kq v13 w' => ∃ (x13_1 : Int), v13 = .int .i64 x13_1 ∧ Aside0 (laws_same_string.l0 kq l0 l1 (l0.length : Int) x13_1 = some r) ∧ Aside0 (kq ≤ k) ∧ Drawn0 w w')
    case atStart => exact ⟨(0), (by first | rfl | (simp; done) | (simp [*]; done)), H', ⟨Nat.le_refl _⟩, by repeat (first | exact Drawn0.refl _ | apply Drawn0.step)⟩
    case round =>
      clear H'
      try clear c1
      try clear p2
      try clear c3
      try clear c3b0
      try clear c3b1
      try clear c3b2
      obtain ⟨x13_1, rfl, HA, HK1, ⟨m1, rfl⟩⟩ := hrel
      cases gk with
      | zero => exact absurd HA.out (by simp [laws_same_string.l0])
      | succ k1 =>
        have H := HA.out
        clear HA
        simp only [laws_same_string.l0] at H
        by_cases c4 : x13_1 < (l0.length : Int)
        · rw [if_pos c4] at H
          have c4b0 : decide (x13_1 < (l0.length : Int)) = true := decide_eq_true c4
          clear c4
          by_cases c5 : 0 ≤ x13_1
          · rw [if_pos c5] at H
            have c5b0 : decide (0 ≤ x13_1) = true := decide_eq_true c5
            clear c5
            by_cases c6 : x13_1 < (l0.length : Int)
            · rw [if_pos c6] at H
              have c6b0 : decide (x13_1 < (l0.length : Int)) = true := decide_eq_true c6
              clear c6
              by_cases c7 : x13_1 < (l1.length : Int)
              · rw [if_pos c7] at H
                have c7b0 : decide (x13_1 < (l1.length : Int)) = true := decide_eq_true c7
                clear c7
                by_cases c8 : (rdOf ByteArray.empty l0 x13_1).toList = (rdOf ByteArray.empty l1 x13_1).toList
                · rw [if_pos c8] at H
                  have c8b0 : ((rdOf ByteArray.empty l0 x13_1).toList == (rdOf ByteArray.empty l1 x13_1).toList) = true := beq_iff_eq.mpr c8
                  have c8b1 : ((rdOf ByteArray.empty l0 x13_1).toList != (rdOf ByteArray.empty l1 x13_1).toList) = false := bne_eq_false_iff_eq.mpr c8
                  clear c8
                  have H' := Aside0.mk H
                  clear H
                  have p141 : 0 ≤ (x13_1 : Int) := of_decide_eq_true (by first | (with_reducible assumption) | assumption)
                  have q141 : x13_1 < (l0.length : Int) := of_decide_eq_true (by first | (with_reducible assumption) | assumption)
                  obtain ⟨ad141, e141, hx141_0⟩ := Kd.at_string HR0.out x13_1 p141 q141
                  cases e141
                  replace p141 := eq_true p141
                  replace q141 := eq_true q141
                  have p142 : 0 ≤ (x13_1 : Int) := of_decide_eq_true (by first | (with_reducible assumption) | assumption)
                  have q142 : x13_1 < (l1.length : Int) := of_decide_eq_true (by first | (with_reducible assumption) | assumption)
                  obtain ⟨ad142, e142, hx142_0⟩ := Kd.at_string HR1.out x13_1 p142 q142
                  cases e142
                  replace p142 := eq_true p142
                  replace q142 := eq_true q142
                  go_wp2
                  repeat (go_quiet (fail); try go_wp2)
                  go_roundg k1
                  case measure => have := HK1.out; omega
                  case rel => exact ⟨(wrap64 (x13_1 + 1)), (by first | rfl | (simp; done) | (simp [*]; done)), H', ⟨by have := HK1.out; omega⟩, by repeat (first | exact Drawn0.refl _ | apply Drawn0.step)⟩
                · rw [if_neg c8] at H
                  have c8b0 : ((rdOf ByteArray.empty l0 x13_1).toList == (rdOf ByteArray.empty l1 x13_1).toList) = false := beq_eq_false_iff_ne.mpr c8
                  have c8b1 : ((rdOf ByteArray.empty l0 x13_1).toList != (rdOf ByteArray.empty l1 x13_1).toList) = true := bne_iff_ne.mpr c8
                  obtain rfl := Option.some.inj H
                  have p141 : 0 ≤ (x13_1 : Int) := of_decide_eq_true (by first | (with_reducible assumption) | assumption)
                  have q141 : x13_1 < (l0.length : Int) := of_decide_eq_true (by first | (with_reducible assumption) | assumption)
                  obtain ⟨ad141, e141, hx141_0⟩ := Kd.at_string HR0.out x13_1 p141 q141
                  cases e141
                  replace p141 := eq_true p141
                  replace q141 := eq_true q141
                  have p142 : 0 ≤ (x13_1 : Int) := of_decide_eq_true (by first | (with_reducible assumption) | assumption)
                  have q142 : x13_1 < (l1.length : Int) := of_decide_eq_true (by first | (with_reducible assumption) | assumption)
                  obtain ⟨ad142, e142, hx142_0⟩ := Kd.at_string HR1.out x13_1 p142 q142
                  cases e142
                  replace p142 := eq_true p142
                  replace q142 := eq_true q142
                  go_wp2
                  repeat (go_quiet (fail); try go_wp2)
                  go_ret
                  exact ⟨by first | rfl | (simp; done) | (simp [*]; done) | (simp [Own.isEmpty_bne]; done), by repeat (first | exact Drawn0.refl _ | apply Drawn0.step)⟩
              · rw [if_neg c7] at H
                exact absurd H (by simp)
            · rw [if_neg c6] at H
              exact absurd H (by simp)
          · rw [if_neg c5] at H
            exact absurd H (by simp)
        · rw [if_neg c4] at H
          have c4b0 : decide (x13_1 < (l0.length : Int)) = false := decide_eq_false c4
          clear c4
          obtain rfl := Option.some.inj H
          go_wp2
          repeat (go_quiet (fail); try go_wp2)
          go_ret
          exact ⟨by first | rfl | (simp; done) | (simp [*]; done) | (simp [Own.isEmpty_bne]; done), by repeat (first | exact Drawn0.refl _ | apply Drawn0.step)⟩
  · rw [if_neg c3] at H
    have c3b0 : ((l0.length : Int) == (l1.length : Int)) = false := beq_eq_false_iff_ne.mpr c3
    have c3b1 : ((l0.length : Int) != (l1.length : Int)) = true := bne_iff_ne.mpr c3
    have c3b2 : (l0.length == l1.length) = false := by first | simpa using c3 | (simp at c3 ⊢; omega)
    obtain rfl := Option.some.inj H
    go_enter Tryd.func35, Tryd.ntmps35
    go_wp2
    repeat (go_quiet (fail); try go_wp2)
    go_ret
    exact ⟨by first | rfl | (simp; done) | (simp [*]; done) | (simp [Own.isEmpty_bne]; done), by repeat (first | exact Drawn0.refl _ | apply Drawn0.step)⟩

-- NOT PRINTED: function 17 (laws_parts)

/-! ### laws_joined: function 19 -/
def laws_joined.l0 : Nat → List ByteArray → ByteArray → ByteArray → Int → Int → Option (ByteArray)
  | 0, _, _, _, _, _ => none
  | k + 1, x0, x1, x5, x8, x9 => if x9 < x8 then (if x9 > 0 then (if x5.size + x1.size ≤ 9223372036854775807 then (if 0 ≤ x9 then (if x9 < (x0.length : Int) then (if (x5 ++ x1).size + (rdOf ByteArray.empty x0 x9).size ≤ 9223372036854775807 then (laws_joined.l0 k x0 x1 ((x5 ++ x1) ++ (rdOf ByteArray.empty x0 x9)) x8 (wrap64 (x9 + 1))) else (none)) else (none)) else (none)) else (none)) else (if 0 ≤ x9 then (if x9 < (x0.length : Int) then (if x5.size + (rdOf ByteArray.empty x0 x9).size ≤ 9223372036854775807 then (laws_joined.l0 k x0 x1 (x5 ++ (rdOf ByteArray.empty x0 x9)) x8 (wrap64 (x9 + 1))) else (none)) else (none)) else (none))) else (some x5)
def laws_joined.f (k : Nat) (l0 : List ByteArray) (a1 : ByteArray) : Option (ByteArray) := laws_joined.l0 k l0 a1 (⟨#[]⟩ : ByteArray) (l0.length : Int) 0
theorem laws_joined.mono_l : ∀ k, (∀ y0 y1 y2 y3 y4, LeO (laws_joined.l0 k y0 y1 y2 y3 y4) (laws_joined.l0 (k + 1) y0 y1 y2 y3 y4))
  | 0 => fun _ _ _ _ _ r h => by simp [laws_joined.l0] at h
  | k + 1 => by
    have ih0 := laws_joined.mono_l k
    · intro y0 y1 y2 y3 y4
      unfold laws_joined.l0
      repeat' first
      | (with_reducible exact ih0 _ _ _ _ _)
      | (with_reducible exact LeO.refl _)
      | (with_reducible exact LeO.none _)
      | (with_reducible refine LeO.ite ?_ ?_)
      | (with_reducible refine LeO.bind ?_ (fun _ => ?_))
      | exact ih0 _ _ _ _ _
      | exact LeO.none _
      | refine LeO.ite ?_ ?_
      | refine LeO.bind ?_ (fun _ => ?_)
theorem laws_joined.mono : ∀ a0 a1 k, LeO (laws_joined.f k a0 a1) (laws_joined.f (k + 1) a0 a1) := by
  intro a0 a1 k
  have ih0 := laws_joined.mono_l k
  unfold laws_joined.f
  repeat' first
      | (with_reducible exact ih0 _ _ _ _ _)
      | (with_reducible exact LeO.refl _)
      | (with_reducible exact LeO.none _)
      | (with_reducible refine LeO.ite ?_ ?_)
      | (with_reducible refine LeO.bind ?_ (fun _ => ?_))
      | exact ih0 _ _ _ _ _
      | exact LeO.none _
      | refine LeO.ite ?_ ?_
      | refine LeO.bind ?_ (fun _ => ?_)
set_option maxHeartbeats 8000000 in
set_option maxRecDepth 100000 in
theorem laws_joined.calls (k : Nat) (A0 : Option Addr) (c0 : Nat) (l0 : List ByteArray) (a1 : ByteArray) (r : ByteArray) (w : World) (hr0 : Kd.C Kd.string w A0 l0.length l0) (hc0 : l0.length ≤ c0) (h : laws_joined.f k l0 a1 = some r) :
    Calls Tryd.prog 19 #[.slice A0 l0.length c0, .string a1] w fun e w' => e = .returned (.string r) ∧ Drawn0 w w' := by
  have HR0 := Aside0.mk hr0
  have HC0 := Aside0.mk hc0
  clear hr0 hc0
  have H : (laws_joined.l0 k l0 a1 (⟨#[]⟩ : ByteArray) (l0.length : Int) 0) = some r := h
  clear h
  have H' := Aside0.mk H
  clear H
  go_enter Tryd.func19, Tryd.ntmps19
  go_wp2
  go_loopg [5, 9] k (fun kq v5 v9 w' => ∃ (x5_1 : ByteArray) (x9_1 : Int), v5 = .string x5_1 ∧ v9 = .int .i64 x9_1 ∧ Aside0 (laws_joined.l0 kq l0 a1 x5_1 (l0.length : Int) x9_1 = some r) ∧ Aside0 (kq ≤ k) ∧ Drawn0 w w')
  case atStart => exact ⟨((⟨#[]⟩ : ByteArray)), (0), (by first | rfl | (simp; done) | (simp [*]; done)), (by first | rfl | (simp; done) | (simp [*]; done)), H', ⟨Nat.le_refl _⟩, by repeat (first | exact Drawn0.refl _ | apply Drawn0.step)⟩
  case round =>
    clear H'
    try clear c1
    try clear p2
    obtain ⟨x5_1, x9_1, rfl, rfl, HA, HK1, ⟨m1, rfl⟩⟩ := hrel
    cases gk with
    | zero => exact absurd HA.out (by simp [laws_joined.l0])
    | succ k1 =>
      have H := HA.out
      clear HA
      simp only [laws_joined.l0] at H
      by_cases c3 : x9_1 < (l0.length : Int)
      · rw [if_pos c3] at H
        have c3b0 : decide (x9_1 < (l0.length : Int)) = true := decide_eq_true c3
        clear c3
        by_cases c4 : x9_1 > 0
        · rw [if_pos c4] at H
          have c4b0 : decide (0 < x9_1) = true := decide_eq_true c4
          clear c4
          by_cases c5 : x5_1.size + a1.size ≤ 9223372036854775807
          · rw [if_pos c5] at H
            have c5b0 := eq_true c5
            have c5b1 : decide (x5_1.size + a1.size ≤ 9223372036854775807) = true := decide_eq_true c5
            try have c5b2 : (9223372036854775807 < x5_1.size + a1.size) = False := eq_false (Nat.not_lt.2 c5)
            by_cases c6 : 0 ≤ x9_1
            · rw [if_pos c6] at H
              have c6b0 : decide (0 ≤ x9_1) = true := decide_eq_true c6
              clear c6
              by_cases c7 : x9_1 < (l0.length : Int)
              · rw [if_pos c7] at H
                have c7b0 : decide (x9_1 < (l0.length : Int)) = true := decide_eq_true c7
                clear c7
                by_cases c8 : (x5_1 ++ a1).size + (rdOf ByteArray.empty l0 x9_1).size ≤ 9223372036854775807
                · rw [if_pos c8] at H
                  have c8b0 := eq_true c8
                  have c8b1 : decide ((x5_1 ++ a1).size + (rdOf ByteArray.empty l0 x9_1).size ≤ 9223372036854775807) = true := decide_eq_true c8
                  try have c8b2 : (9223372036854775807 < (x5_1 ++ a1).size + (rdOf ByteArray.empty l0 x9_1).size) = False := eq_false (Nat.not_lt.2 c8)
                  have H' := Aside0.mk H
                  clear H
                  have p146 : 0 ≤ (x9_1 : Int) := of_decide_eq_true (by first | (with_reducible assumption) | assumption)
                  have q146 : x9_1 < (l0.length : Int) := of_decide_eq_true (by first | (with_reducible assumption) | assumption)
                  obtain ⟨ad146, e146, hx146_0⟩ := Kd.at_string HR0.out x9_1 p146 q146
                  cases e146
                  replace p146 := eq_true p146
                  replace q146 := eq_true q146
                  go_wp2
                  go_roundg k1
                  case measure => have := HK1.out; omega
                  case rel => exact ⟨((x5_1 ++ a1) ++ (rdOf ByteArray.empty l0 x9_1)), (wrap64 (x9_1 + 1)), (by first | rfl | (simp; done) | (simp [*]; done)), (by first | rfl | (simp; done) | (simp [*]; done)), H', ⟨by have := HK1.out; omega⟩, by repeat (first | exact Drawn0.refl _ | apply Drawn0.step)⟩
                · rw [if_neg c8] at H
                  exact absurd H (by simp)
              · rw [if_neg c7] at H
                exact absurd H (by simp)
            · rw [if_neg c6] at H
              exact absurd H (by simp)
          · rw [if_neg c5] at H
            exact absurd H (by simp)
        · rw [if_neg c4] at H
          have c4b0 : decide (0 < x9_1) = false := decide_eq_false c4
          clear c4
          by_cases c9 : 0 ≤ x9_1
          · rw [if_pos c9] at H
            have c9b0 : decide (0 ≤ x9_1) = true := decide_eq_true c9
            clear c9
            by_cases c10 : x9_1 < (l0.length : Int)
            · rw [if_pos c10] at H
              have c10b0 : decide (x9_1 < (l0.length : Int)) = true := decide_eq_true c10
              clear c10
              by_cases c11 : x5_1.size + (rdOf ByteArray.empty l0 x9_1).size ≤ 9223372036854775807
              · rw [if_pos c11] at H
                have c11b0 := eq_true c11
                have c11b1 : decide (x5_1.size + (rdOf ByteArray.empty l0 x9_1).size ≤ 9223372036854775807) = true := decide_eq_true c11
                try have c11b2 : (9223372036854775807 < x5_1.size + (rdOf ByteArray.empty l0 x9_1).size) = False := eq_false (Nat.not_lt.2 c11)
                have H' := Aside0.mk H
                clear H
                have p147 : 0 ≤ (x9_1 : Int) := of_decide_eq_true (by first | (with_reducible assumption) | assumption)
                have q147 : x9_1 < (l0.length : Int) := of_decide_eq_true (by first | (with_reducible assumption) | assumption)
                obtain ⟨ad147, e147, hx147_0⟩ := Kd.at_string HR0.out x9_1 p147 q147
                cases e147
                replace p147 := eq_true p147
                replace q147 := eq_true q147
                go_wp2
                go_roundg k1
                case measure => have := HK1.out; omega
                case rel => exact ⟨(x5_1 ++ (rdOf ByteArray.empty l0 x9_1)), (wrap64 (x9_1 + 1)), (by first | rfl | (simp; done) | (simp [*]; done)), (by first | rfl | (simp; done) | (simp [*]; done)), H', ⟨by have := HK1.out; omega⟩, by repeat (first | exact Drawn0.refl _ | apply Drawn0.step)⟩
              · rw [if_neg c11] at H
                exact absurd H (by simp)
            · rw [if_neg c10] at H
              exact absurd H (by simp)
          · rw [if_neg c9] at H
            exact absurd H (by simp)
      · rw [if_neg c3] at H
        have c3b0 : decide (x9_1 < (l0.length : Int)) = false := decide_eq_false c3
        clear c3
        obtain rfl := Option.some.inj H
        go_wp2
        go_ret
        exact ⟨by first | rfl | (simp; done) | (simp [*]; done) | (simp [Own.isEmpty_bne]; done), by repeat (first | exact Drawn0.refl _ | apply Drawn0.step)⟩

-- NOT PRINTED: function 5 (laws_FnSentencesSkip)

/-! ### slices_Clone_byte_byte: function 38 -/
def slices_Clone_byte_byte.f (l0 : List Int) : Option (List Int) := (some (([] : List Int) : List Int)).bind fun y152 => (if y152.length + l0.length < 140737488355328 then (some (y152 ++ l0)) else (none))
set_option maxHeartbeats 8000000 in
set_option maxRecDepth 100000 in
theorem slices_Clone_byte_byte.calls (A0 : Option Addr) (c0 : Nat) (l0 : List Int) (r : List Int) (w : World) (hr0 : Kd.C (Kd.int .u8) w A0 l0.length l0) (hc0 : l0.length ≤ c0) (h : slices_Clone_byte_byte.f l0 = some r) :
    Calls Tryd.prog 38 #[.slice A0 l0.length c0] w fun e w' => ∃ v0_ : Value, e = .returned (v0_) ∧ Kd.R (Kd.int .u8) 5 w' w.heap.size (fun _ => True) v0_ r ∧ Below w.heap.size w w' := by
  have hl := hr0.1
  cases A0 with
  | none =>
    have hl0 : l0 = [] := by
      cases l0 with
      | nil => rfl
      | cons a l => exact absurd (hr0.2.2 (by simp)) (by rintro ⟨_, h, _⟩; cases h)
    subst hl0
    obtain rfl : [] = r := by
      simp only [slices_Clone_byte_byte.f, Option.bind_some] at h
      rw [if_pos (by simp)] at h
      simpa using h
    have hnil := fun (n c : Nat) (w : World) => Lib.run_eql_slice_nil (P := Tryd.prog) w 22 5 none n c 0 0 Tryd.underlying22
    clear hl hr0 hc0 h
    go_enter Tryd.func38, Tryd.ntmps38
    go_wp2
    go_ret
    exact ⟨_, rfl, Kd.R_nil _ _ _ _ _, Below.refl _ _⟩
  | some a0 =>
    have hnil := fun (n c : Nat) (w : World) => Lib.run_eql_slice_nil (P := Tryd.prog) w 22 5 (some a0) n c 0 0 Tryd.underlying22
    clear hl
    have HR0 := Aside0.mk hr0
    have HC0 := Aside0.mk hc0
    clear hr0 hc0
    have HB := Aside0.mk (Below.refl w.heap.size w)
    have H : ((some (([] : List Int) : List Int)).bind fun y152 => (if y152.length + l0.length < 140737488355328 then (some (y152 ++ l0)) else (none))) = some r := h
    clear h
    obtain ⟨y152, hy152⟩ : ∃ y_ : List Int, y_ = (([] : List Int)) := ⟨_, rfl⟩
    replace H : (if y152.length + l0.length < 140737488355328 then (some (y152 ++ l0)) else (none)) = some r := by first | (rw [hy152]; with_reducible exact H) | (have H2_ := (Option.bind_some _ _).symm.trans H; rw [hy152]; with_reducible exact H2_) | (have H2_ := (Option.bind_some _ _).symm.trans H; with_reducible exact H2_) | with_reducible exact H | (rw [hy152]; exact H) | exact H
    have Ny152 := Aside0.mk hy152
    clear hy152
    by_cases c2 : y152.length + l0.length < 140737488355328
    · rw [if_pos c2] at H
      have LMc2 := Aside0.mk c2
      clear c2
      obtain ⟨y155, hy155⟩ : ∃ y_ : List Int, y_ = (y152 ++ l0) := ⟨_, rfl⟩
      replace H : (some y155) = some r := by first | (rw [hy155]; with_reducible exact H) | (have H2_ := (Option.bind_some _ _).symm.trans H; rw [hy155]; with_reducible exact H2_) | (have H2_ := (Option.bind_some _ _).symm.trans H; with_reducible exact H2_) | with_reducible exact H | (rw [hy155]; exact H) | exact H
      have Ny155 := Aside0.mk hy155
      clear hy155
      obtain rfl := Option.some.inj H
      go_enter Tryd.func38, Tryd.ntmps38
      go_wp2_with (first | ((with_reducible refine gate_dst (N := 5) rfl ?_); refine Kd.R_lit (Kd.int .u8) _ 5 ?hg (N := 5) ?hd (xs := ([] : List Int)) (inner := []) (ok := fun _ => True) (okp := fun _ => True) ?hr ?hp (fun _ hk => hk) trivial (Below.refl _ _) (Nat.le_refl _) (by simp) ?_; (case hd => rfl); (case hg => rfl); (case hr => first | (go_simp; done) | (go_simp; rfl)); (case hp => exact (Reps.none _ _)); intro v153 w3 ho4 hb hg_ hnew_; clear hg_ hnew_; (first | rw [← Ny152.out] at ho4 | (simp only [Int.reduceToNat] at ho4; rw [← Ny152.out] at ho4)); have n0_ := Aside0.mk (Kd.R_lower ho4 (below_size (by repeat (first | (with_reducible first | exact HB.out | apply below_alloc | apply pw_below_drewN | apply below_drew1) | exact HB.out)))); have n1_ := Aside0.mk (below_step (by repeat (first | (with_reducible first | exact HB.out | apply below_alloc | apply pw_below_drewN | apply below_drew1) | exact HB.out)) hb); clear HB; have HO154 := n0_; have HB := n1_; clear n0_ n1_; clear hb ho4) | ((with_reducible refine gate_builtin (b := .append) (xs := #[.tmp 5, .tmp 6]) rfl ?_); at_builtin; refine Kd.R_append_rows (Kd.int .u8) (w0 := w) w.heap.size rfl (.tmp 5) (.tmp 6) 22 5 (.int .u8 0) 1 rfl Tryd.underlying22 info5 rfl (by decide) (by omega) v153 y152 l0 _ _ _ (fun _ => True) (fun _ => False) rfl rfl ?aO ?aR (fun _ _ h => h) (fun _ h => h.elim) ?aF ?aB ?aS ?aL ?_; (case aR => repeat (first | exact (Kd.C_below HR0.out HB.out) | (with_reducible refine Kd.C_alloc ?_ _) | (with_reducible refine Kd.C_drewN ?_ _) | (with_reducible refine Kd.C_drew ?_))); (case aB => exact (by repeat (first | (with_reducible first | exact HB.out | apply below_alloc | apply pw_below_drewN | apply below_drew1) | exact HB.out))); (case aF => exact (fun _ _ => trivial)); (case aO => exact (by (with_reducible repeat (first | apply Kd.R_alloc | apply Kd.R_drewN | apply Kd.R_drew)); exact HO154.out)); (case aS => exact (below_size (by repeat (first | (with_reducible first | exact HB.out | apply below_alloc | apply pw_below_drewN | apply below_drew1) | exact HB.out)))); (case aL => have := LMc2.out; omega); intro v156 w5 ho hb hg hat; rw [← Ny155.out] at ho; have n0_ := Aside0.mk (hb); have n1_ := Aside0.mk (ho); clear HB; clear HO154; have HB := n0_; have HO157 := n1_; clear n0_ n1_; clear ho hb hg hat))
      go_ret
      exact ⟨_, by first | rfl | (simp [errW_none, errW_some] <;> rfl) | (simp [*, errW_none, errW_some] <;> rfl), by (with_reducible repeat (first | apply Kd.R_alloc | apply Kd.R_drewN | apply Kd.R_drew)); exact HO157.out, by repeat (first | (with_reducible first | exact HB.out | apply below_alloc | apply pw_below_drewN | apply below_drew1) | exact HB.out)⟩
    · rw [if_neg c2] at H
      exact absurd H (by simp)

  -- NOT PRINTED: function 21 (impl_Scan)


/-! ### laws_begins: function 22 -/
def laws_begins.f (a0 : ByteArray) (a1 : ByteArray) : Option (Bool) := if (a0.size : Int) ≥ (a1.size : Int) then (if 0 ≤ (a1.size : Int) then (if (a1.size : Int) ≤ (a0.size : Int) then (some ((a0.extract 0 ((a1.size : Int) : Int).toNat).toList == a1.toList)) else (none)) else (none)) else (some false)
set_option maxHeartbeats 8000000 in
set_option maxRecDepth 100000 in
theorem laws_begins.calls (a0 : ByteArray) (a1 : ByteArray) (r : Bool) (w : World) (h : laws_begins.f a0 a1 = some r) :
    Calls Tryd.prog 22 #[.string a0, .string a1] w fun e w' => e = .returned (.bool r) ∧ Drawn0 w w' := by
  have H : (if (a0.size : Int) ≥ (a1.size : Int) then (if 0 ≤ (a1.size : Int) then (if (a1.size : Int) ≤ (a0.size : Int) then (some ((a0.extract 0 ((a1.size : Int) : Int).toNat).toList == a1.toList)) else (none)) else (none)) else (some false)) = some r := h
  clear h
  by_cases c3 : (a0.size : Int) ≥ (a1.size : Int)
  · rw [if_pos c3] at H
    have c3b0 : decide ((a1.size : Int) ≤ (a0.size : Int)) = true := decide_eq_true c3
    have c3b1 : decide (a1.size ≤ a0.size) = true := decide_eq_true (Int.ofNat_le.mp c3)
    clear c3
    by_cases c4 : 0 ≤ (a1.size : Int)
    · rw [if_pos c4] at H
      have c4b0 := eq_true c4
      have c4b1 : decide (0 ≤ (a1.size : Int)) = true := decide_eq_true c4
      clear c4
      by_cases c5 : (a1.size : Int) ≤ (a0.size : Int)
      · rw [if_pos c5] at H
        have c5b0 := eq_true c5
        have c5b1 : decide ((a1.size : Int) ≤ (a0.size : Int)) = true := decide_eq_true c5
        clear c5
        obtain rfl := Option.some.inj H
        go_enter Tryd.func22, Tryd.ntmps22
        go_wp2
        go_ret
        exact ⟨by first | rfl | (simp; done) | (simp [*]; done) | (simp [Own.isEmpty_bne]; done), by repeat (first | exact Drawn0.refl _ | apply Drawn0.step)⟩
      · rw [if_neg c5] at H
        exact absurd H (by simp)
    · rw [if_neg c4] at H
      exact absurd H (by simp)
  · rw [if_neg c3] at H
    have c3b0 : decide ((a1.size : Int) ≤ (a0.size : Int)) = false := decide_eq_false c3
    have c3b1 : decide (a1.size ≤ a0.size) = false := decide_eq_false (fun h => c3 (Int.ofNat_le.mpr h))
    clear c3
    obtain rfl := Option.some.inj H
    go_enter Tryd.func22, Tryd.ntmps22
    go_wp2
    go_ret
    exact ⟨by first | rfl | (simp; done) | (simp [*]; done) | (simp [Own.isEmpty_bne]; done), by repeat (first | exact Drawn0.refl _ | apply Drawn0.step)⟩

-- NOT PRINTED: function 6 (laws_FnScanMore)

/-! ### utf8_word_byte: function 59 -/
def utf8_word_byte.f (l0 : List Int) : Option (Int) := if 0 < (l0.length : Int) then (if 1 < (l0.length : Int) then (if 2 < (l0.length : Int) then (if 3 < (l0.length : Int) then (if 4 < (l0.length : Int) then (if 5 < (l0.length : Int) then (if 6 < (l0.length : Int) then (if 7 < (l0.length : Int) then (some (Go.bits .or .u64 (Go.bits .or .u64 (Go.bits .or .u64 (Go.bits .or .u64 (Go.bits .or .u64 (Go.bits .or .u64 (Go.bits .or .u64 (IntKind.u64.wrap (rd l0 0)) (IntKind.u64.wrap ((IntKind.u64.wrap (rd l0 1)) * 256))) (IntKind.u64.wrap ((IntKind.u64.wrap (rd l0 2)) * 65536))) (IntKind.u64.wrap ((IntKind.u64.wrap (rd l0 3)) * 16777216))) (IntKind.u64.wrap ((IntKind.u64.wrap (rd l0 4)) * 4294967296))) (IntKind.u64.wrap ((IntKind.u64.wrap (rd l0 5)) * 1099511627776))) (IntKind.u64.wrap ((IntKind.u64.wrap (rd l0 6)) * 281474976710656))) (IntKind.u64.wrap ((IntKind.u64.wrap (rd l0 7)) * 72057594037927936)))) else (none)) else (none)) else (none)) else (none)) else (none)) else (none)) else (none)) else (none)
set_option maxHeartbeats 8000000 in
set_option maxRecDepth 100000 in
theorem utf8_word_byte.calls (A0 : Option Addr) (c0 : Nat) (l0 : List Int) (r : Int) (w : World) (hr0 : Kd.C (Kd.int .u8) w A0 l0.length l0) (hc0 : l0.length ≤ c0) (h : utf8_word_byte.f l0 = some r) :
    Calls Tryd.prog 59 #[.slice A0 l0.length c0] w fun e w' => e = .returned (.int .u64 r) ∧ Drawn0 w w' := by
  have HR0 := Aside0.mk hr0
  have HC0 := Aside0.mk hc0
  clear hr0 hc0
  have H : (if 0 < (l0.length : Int) then (if 1 < (l0.length : Int) then (if 2 < (l0.length : Int) then (if 3 < (l0.length : Int) then (if 4 < (l0.length : Int) then (if 5 < (l0.length : Int) then (if 6 < (l0.length : Int) then (if 7 < (l0.length : Int) then (some (Go.bits .or .u64 (Go.bits .or .u64 (Go.bits .or .u64 (Go.bits .or .u64 (Go.bits .or .u64 (Go.bits .or .u64 (Go.bits .or .u64 (IntKind.u64.wrap (rd l0 0)) (IntKind.u64.wrap ((IntKind.u64.wrap (rd l0 1)) * 256))) (IntKind.u64.wrap ((IntKind.u64.wrap (rd l0 2)) * 65536))) (IntKind.u64.wrap ((IntKind.u64.wrap (rd l0 3)) * 16777216))) (IntKind.u64.wrap ((IntKind.u64.wrap (rd l0 4)) * 4294967296))) (IntKind.u64.wrap ((IntKind.u64.wrap (rd l0 5)) * 1099511627776))) (IntKind.u64.wrap ((IntKind.u64.wrap (rd l0 6)) * 281474976710656))) (IntKind.u64.wrap ((IntKind.u64.wrap (rd l0 7)) * 72057594037927936)))) else (none)) else (none)) else (none)) else (none)) else (none)) else (none)) else (none)) else (none)) = some r := h
  clear h
  by_cases c2 : 0 < (l0.length : Int)
  · rw [if_pos c2] at H
    have c2b0 : decide (0 < (l0.length : Int)) = true := decide_eq_true c2
    have c2b1 : decide (0 < l0.length) = true := decide_eq_true (by omega)
    clear c2
    by_cases c3 : 1 < (l0.length : Int)
    · rw [if_pos c3] at H
      have c3b0 : decide (1 < (l0.length : Int)) = true := decide_eq_true c3
      have c3b1 : decide (1 < l0.length) = true := decide_eq_true (by omega)
      clear c3
      by_cases c4 : 2 < (l0.length : Int)
      · rw [if_pos c4] at H
        have c4b0 : decide (2 < (l0.length : Int)) = true := decide_eq_true c4
        have c4b1 : decide (2 < l0.length) = true := decide_eq_true (by omega)
        clear c4
        by_cases c5 : 3 < (l0.length : Int)
        · rw [if_pos c5] at H
          have c5b0 : decide (3 < (l0.length : Int)) = true := decide_eq_true c5
          have c5b1 : decide (3 < l0.length) = true := decide_eq_true (by omega)
          clear c5
          by_cases c6 : 4 < (l0.length : Int)
          · rw [if_pos c6] at H
            have c6b0 : decide (4 < (l0.length : Int)) = true := decide_eq_true c6
            have c6b1 : decide (4 < l0.length) = true := decide_eq_true (by omega)
            clear c6
            by_cases c7 : 5 < (l0.length : Int)
            · rw [if_pos c7] at H
              have c7b0 : decide (5 < (l0.length : Int)) = true := decide_eq_true c7
              have c7b1 : decide (5 < l0.length) = true := decide_eq_true (by omega)
              clear c7
              by_cases c8 : 6 < (l0.length : Int)
              · rw [if_pos c8] at H
                have c8b0 : decide (6 < (l0.length : Int)) = true := decide_eq_true c8
                have c8b1 : decide (6 < l0.length) = true := decide_eq_true (by omega)
                clear c8
                by_cases c9 : 7 < (l0.length : Int)
                · rw [if_pos c9] at H
                  have c9b0 : decide (7 < (l0.length : Int)) = true := decide_eq_true c9
                  have c9b1 : decide (7 < l0.length) = true := decide_eq_true (by omega)
                  clear c9
                  obtain rfl := Option.some.inj H
                  have p176 : 0 ≤ (0 : Int) := (by omega)
                  have q176 : 0 < (l0.length : Int) := of_decide_eq_true (by first | (with_reducible assumption) | assumption)
                  obtain ⟨ad176, e176, hx176_0⟩ := Kd.at_int HR0.out 0 p176 q176
                  cases e176
                  have qi176 : (0 < l0.length) = True := eq_true (by omega)
                  (try rw [show ((0 : Int)).toNat = 0 from rfl] at hx176_0)
                  (try rw [Addr.add_zero'] at hx176_0)
                  replace p176 := eq_true p176
                  replace q176 := eq_true q176
                  have p177 : 0 ≤ (1 : Int) := (by omega)
                  have q177 : 1 < (l0.length : Int) := of_decide_eq_true (by first | (with_reducible assumption) | assumption)
                  obtain ⟨ad177, e177, hx177_0⟩ := Kd.at_int HR0.out 1 p177 q177
                  obtain rfl : ad176 = ad177 := (by injection e177)
                  (try simp only [show (1 : Int).toNat = 1 from rfl, Nat.reduceMul, Nat.reduceEqDiff, Go.Addr.add, ↓reduceIte] at hx177_0)
                  have qi177 : (1 < l0.length) = True := eq_true (by omega)
                  (try rw [show ((1 : Int)).toNat = 1 from rfl] at hx177_0)
                  replace p177 := eq_true p177
                  replace q177 := eq_true q177
                  have p178 : 0 ≤ (2 : Int) := (by omega)
                  have q178 : 2 < (l0.length : Int) := of_decide_eq_true (by first | (with_reducible assumption) | assumption)
                  obtain ⟨ad178, e178, hx178_0⟩ := Kd.at_int HR0.out 2 p178 q178
                  obtain rfl : ad176 = ad178 := (by injection e178)
                  (try simp only [show (2 : Int).toNat = 2 from rfl, Nat.reduceMul, Nat.reduceEqDiff, Go.Addr.add, ↓reduceIte] at hx178_0)
                  have qi178 : (2 < l0.length) = True := eq_true (by omega)
                  (try rw [show ((2 : Int)).toNat = 2 from rfl] at hx178_0)
                  replace p178 := eq_true p178
                  replace q178 := eq_true q178
                  have p179 : 0 ≤ (3 : Int) := (by omega)
                  have q179 : 3 < (l0.length : Int) := of_decide_eq_true (by first | (with_reducible assumption) | assumption)
                  obtain ⟨ad179, e179, hx179_0⟩ := Kd.at_int HR0.out 3 p179 q179
                  obtain rfl : ad176 = ad179 := (by injection e179)
                  (try simp only [show (3 : Int).toNat = 3 from rfl, Nat.reduceMul, Nat.reduceEqDiff, Go.Addr.add, ↓reduceIte] at hx179_0)
                  have qi179 : (3 < l0.length) = True := eq_true (by omega)
                  (try rw [show ((3 : Int)).toNat = 3 from rfl] at hx179_0)
                  replace p179 := eq_true p179
                  replace q179 := eq_true q179
                  have p180 : 0 ≤ (4 : Int) := (by omega)
                  have q180 : 4 < (l0.length : Int) := of_decide_eq_true (by first | (with_reducible assumption) | assumption)
                  obtain ⟨ad180, e180, hx180_0⟩ := Kd.at_int HR0.out 4 p180 q180
                  obtain rfl : ad176 = ad180 := (by injection e180)
                  (try simp only [show (4 : Int).toNat = 4 from rfl, Nat.reduceMul, Nat.reduceEqDiff, Go.Addr.add, ↓reduceIte] at hx180_0)
                  have qi180 : (4 < l0.length) = True := eq_true (by omega)
                  (try rw [show ((4 : Int)).toNat = 4 from rfl] at hx180_0)
                  replace p180 := eq_true p180
                  replace q180 := eq_true q180
                  have p181 : 0 ≤ (5 : Int) := (by omega)
                  have q181 : 5 < (l0.length : Int) := of_decide_eq_true (by first | (with_reducible assumption) | assumption)
                  obtain ⟨ad181, e181, hx181_0⟩ := Kd.at_int HR0.out 5 p181 q181
                  obtain rfl : ad176 = ad181 := (by injection e181)
                  (try simp only [show (5 : Int).toNat = 5 from rfl, Nat.reduceMul, Nat.reduceEqDiff, Go.Addr.add, ↓reduceIte] at hx181_0)
                  have qi181 : (5 < l0.length) = True := eq_true (by omega)
                  (try rw [show ((5 : Int)).toNat = 5 from rfl] at hx181_0)
                  replace p181 := eq_true p181
                  replace q181 := eq_true q181
                  have p182 : 0 ≤ (6 : Int) := (by omega)
                  have q182 : 6 < (l0.length : Int) := of_decide_eq_true (by first | (with_reducible assumption) | assumption)
                  obtain ⟨ad182, e182, hx182_0⟩ := Kd.at_int HR0.out 6 p182 q182
                  obtain rfl : ad176 = ad182 := (by injection e182)
                  (try simp only [show (6 : Int).toNat = 6 from rfl, Nat.reduceMul, Nat.reduceEqDiff, Go.Addr.add, ↓reduceIte] at hx182_0)
                  have qi182 : (6 < l0.length) = True := eq_true (by omega)
                  (try rw [show ((6 : Int)).toNat = 6 from rfl] at hx182_0)
                  replace p182 := eq_true p182
                  replace q182 := eq_true q182
                  have p183 : 0 ≤ (7 : Int) := (by omega)
                  have q183 : 7 < (l0.length : Int) := of_decide_eq_true (by first | (with_reducible assumption) | assumption)
                  obtain ⟨ad183, e183, hx183_0⟩ := Kd.at_int HR0.out 7 p183 q183
                  obtain rfl : ad176 = ad183 := (by injection e183)
                  (try simp only [show (7 : Int).toNat = 7 from rfl, Nat.reduceMul, Nat.reduceEqDiff, Go.Addr.add, ↓reduceIte] at hx183_0)
                  have qi183 : (7 < l0.length) = True := eq_true (by omega)
                  (try rw [show ((7 : Int)).toNat = 7 from rfl] at hx183_0)
                  replace p183 := eq_true p183
                  replace q183 := eq_true q183
                  go_enter Tryd.func59, Tryd.ntmps59
                  go_wp2
                  repeat (go_quiet (fail); try go_wp2)
                  go_ret
                  exact ⟨by first | rfl | (simp; done) | (simp [*]; done) | (simp [Own.isEmpty_bne]; done), by repeat (first | exact Drawn0.refl _ | apply Drawn0.step)⟩
                · rw [if_neg c9] at H
                  exact absurd H (by simp)
              · rw [if_neg c8] at H
                exact absurd H (by simp)
            · rw [if_neg c7] at H
              exact absurd H (by simp)
          · rw [if_neg c6] at H
            exact absurd H (by simp)
        · rw [if_neg c5] at H
          exact absurd H (by simp)
      · rw [if_neg c4] at H
        exact absurd H (by simp)
    · rw [if_neg c3] at H
      exact absurd H (by simp)
  · rw [if_neg c2] at H
    exact absurd H (by simp)

-- NOT PRINTED: function 54 (utf8_Valid)

/-! ### spec_kPlainBytes: function 55 -/
def spec_kPlainBytes.f (l0 : List Int) : Option (Bool) := none
set_option maxHeartbeats 8000000 in
set_option maxRecDepth 100000 in
theorem spec_kPlainBytes.calls (A0 : Option Addr) (c0 : Nat) (l0 : List Int) (r : Bool) (w : World) (hr0 : Kd.C (Kd.int .u8) w A0 l0.length l0) (hc0 : l0.length ≤ c0) (h : spec_kPlainBytes.f l0 = some r) :
    Calls Tryd.prog 55 #[.slice A0 l0.length c0] w fun e w' => e = .returned (.bool r) ∧ Drawn0 w w' := by
  have HR0 := Aside0.mk hr0
  have HC0 := Aside0.mk hc0
  clear hr0 hc0
  have H : (none) = some r := h
  clear h
  exact absurd H (by simp)

-- NOT PRINTED: function 39 (spec_kOpen)

/-! ### utf8_RuneLen: function 40 -/
def utf8_RuneLen.j0 : Nat → Int → Bool → Option (Int)
  | 0, _, _ => none
  | k + 1, x0, x12 => if x12 = true then (some (-1)) else (if x0 ≤ 65535 then (some 3) else (if x0 ≤ 1114111 then (some 4) else (some (-1))))
def utf8_RuneLen.f (k : Nat) (a0 : Int) : Option (Int) := if a0 < 0 then (some (-1)) else (if a0 ≤ 127 then (some 1) else (if a0 ≤ 2047 then (some 2) else (if 55296 ≤ a0 then (utf8_RuneLen.j0 k a0 (decide (a0 ≤ 57343))) else (utf8_RuneLen.j0 k a0 false))))
theorem utf8_RuneLen.mono_l : ∀ k, (∀ y0 y1, LeO (utf8_RuneLen.j0 k y0 y1) (utf8_RuneLen.j0 (k + 1) y0 y1))
  | 0 => fun _ _ r h => by simp [utf8_RuneLen.j0] at h
  | k + 1 => by
    have ih0 := utf8_RuneLen.mono_l k
    · intro y0 y1
      unfold utf8_RuneLen.j0
      repeat' first
      | (with_reducible exact ih0 _ _)
      | (with_reducible exact LeO.refl _)
      | (with_reducible exact LeO.none _)
      | (with_reducible refine LeO.ite ?_ ?_)
      | (with_reducible refine LeO.bind ?_ (fun _ => ?_))
      | exact ih0 _ _
      | exact LeO.none _
      | refine LeO.ite ?_ ?_
      | refine LeO.bind ?_ (fun _ => ?_)
theorem utf8_RuneLen.mono : ∀ a0 k, LeO (utf8_RuneLen.f k a0) (utf8_RuneLen.f (k + 1) a0) := by
  intro a0 k
  have ih0 := utf8_RuneLen.mono_l k
  unfold utf8_RuneLen.f
  repeat' first
      | (with_reducible exact ih0 _ _)
      | (with_reducible exact LeO.refl _)
      | (with_reducible exact LeO.none _)
      | (with_reducible refine LeO.ite ?_ ?_)
      | (with_reducible refine LeO.bind ?_ (fun _ => ?_))
      | exact ih0 _ _
      | exact LeO.none _
      | refine LeO.ite ?_ ?_
      | refine LeO.bind ?_ (fun _ => ?_)
set_option maxHeartbeats 8000000 in
set_option maxRecDepth 100000 in
theorem utf8_RuneLen.calls (k : Nat) (a0 : Int) (r : Int) (w : World) (h : utf8_RuneLen.f k a0 = some r) :
    Calls Tryd.prog 40 #[.int .i32 a0] w fun e w' => e = .returned (.int .i64 r) ∧ Drawn0 w w' := by
  have H : (if a0 < 0 then (some (-1)) else (if a0 ≤ 127 then (some 1) else (if a0 ≤ 2047 then (some 2) else (if 55296 ≤ a0 then (utf8_RuneLen.j0 k a0 (decide (a0 ≤ 57343))) else (utf8_RuneLen.j0 k a0 false))))) = some r := h
  clear h
  by_cases c2 : a0 < 0
  · rw [if_pos c2] at H
    have c2b0 : decide (a0 < 0) = true := decide_eq_true c2
    clear c2
    obtain rfl := Option.some.inj H
    go_enter Tryd.func40, Tryd.ntmps40
    go_wp2
    go_ret
    exact ⟨by first | rfl | (simp; done) | (simp [*]; done) | (simp [Own.isEmpty_bne]; done), by repeat (first | exact Drawn0.refl _ | apply Drawn0.step)⟩
  · rw [if_neg c2] at H
    have c2b0 : decide (a0 < 0) = false := decide_eq_false c2
    clear c2
    by_cases c3 : a0 ≤ 127
    · rw [if_pos c3] at H
      have c3b0 : decide (a0 ≤ 127) = true := decide_eq_true c3
      clear c3
      obtain rfl := Option.some.inj H
      go_enter Tryd.func40, Tryd.ntmps40
      go_wp2
      go_ret
      exact ⟨by first | rfl | (simp; done) | (simp [*]; done) | (simp [Own.isEmpty_bne]; done), by repeat (first | exact Drawn0.refl _ | apply Drawn0.step)⟩
    · rw [if_neg c3] at H
      have c3b0 : decide (a0 ≤ 127) = false := decide_eq_false c3
      clear c3
      by_cases c4 : a0 ≤ 2047
      · rw [if_pos c4] at H
        have c4b0 : decide (a0 ≤ 2047) = true := decide_eq_true c4
        clear c4
        obtain rfl := Option.some.inj H
        go_enter Tryd.func40, Tryd.ntmps40
        go_wp2
        go_ret
        exact ⟨by first | rfl | (simp; done) | (simp [*]; done) | (simp [Own.isEmpty_bne]; done), by repeat (first | exact Drawn0.refl _ | apply Drawn0.step)⟩
      · rw [if_neg c4] at H
        have c4b0 : decide (a0 ≤ 2047) = false := decide_eq_false c4
        clear c4
        have HC5 := Aside0.mk H
        clear H
        go_enter Tryd.func40, Tryd.ntmps40
        go_upto_region 7 with (fail)
        go_cut [12] (fun v12 wc => ∃ (kq : Nat) (x12_4 : Bool), v12 = .bool x12_4 ∧ Aside0 (utf8_RuneLen.j0 kq a0 x12_4 = some r) ∧ Aside0 (kq ≤ k) ∧ Drawn0 w wc)
        case first =>
          have H := HC5.out
          clear HC5
          by_cases c6 : 55296 ≤ a0
          · rw [if_pos c6] at H
            have c6b0 : decide (55296 ≤ a0) = true := decide_eq_true c6
            clear c6
            (first | rw [c6b0] | (simp only [i64_w, i32_w]; rw [c6b0]) | skip)
            have H' := Aside0.mk H
            clear H
            go_wp2
            go_meet
            case rel => exact ⟨_, (decide (a0 ≤ 57343)), (by first | rfl | (simp; done) | (simp [*]; done)), H', ⟨by first | omega | exact Nat.le_refl _⟩, by repeat (first | exact Drawn0.refl _ | apply Drawn0.step)⟩
          · rw [if_neg c6] at H
            have c6b0 : decide (55296 ≤ a0) = false := decide_eq_false c6
            clear c6
            (first | rw [c6b0] | (simp only [i64_w, i32_w]; rw [c6b0]) | skip)
            have H' := Aside0.mk H
            clear H
            go_wp2
            go_meet
            case rel => exact ⟨_, (false), (by first | rfl | (simp; done) | (simp [*]; done)), H', ⟨by first | omega | exact Nat.le_refl _⟩, by repeat (first | exact Drawn0.refl _ | apply Drawn0.step)⟩
        case rest =>
          clear HC5
          try clear c2
          try clear c2b0
          try clear p2
          try clear c3
          try clear c3b0
          try clear c4
          try clear c4b0
          try clear c6
          try clear c6b0
          obtain ⟨kq, x12_4, rfl, HA, HJ4, ⟨mc4, rfl⟩⟩ := hcut
          cases kq with
          | zero => exact absurd HA.out (by simp [utf8_RuneLen.j0])
          | succ kj4 =>
            have H := HA.out
            clear HA
            simp only [utf8_RuneLen.j0] at H
            by_cases c7 : x12_4 = true
            · subst c7
              have H1 : (some (-1)) = some r := by rw [if_pos rfl] at H; exact H
              clear H
              have H := H1
              clear H1
              obtain rfl := Option.some.inj H
              go_wp2
              go_ret
              exact ⟨by first | rfl | (simp; done) | (simp [*]; done) | (simp [Own.isEmpty_bne]; done), by repeat (first | exact Drawn0.refl _ | apply Drawn0.step)⟩
            · replace c7 := Bool.eq_false_iff.mpr c7
              subst c7
              have H1 : (if a0 ≤ 65535 then (some 3) else (if a0 ≤ 1114111 then (some 4) else (some (-1)))) = some r := by rw [if_neg (show ¬ (false = true) by decide)] at H; exact H
              clear H
              have H := H1
              clear H1
              by_cases c8 : a0 ≤ 65535
              · rw [if_pos c8] at H
                have c8b0 : decide (a0 ≤ 65535) = true := decide_eq_true c8
                clear c8
                obtain rfl := Option.some.inj H
                go_wp2
                go_ret
                exact ⟨by first | rfl | (simp; done) | (simp [*]; done) | (simp [Own.isEmpty_bne]; done), by repeat (first | exact Drawn0.refl _ | apply Drawn0.step)⟩
              · rw [if_neg c8] at H
                have c8b0 : decide (a0 ≤ 65535) = false := decide_eq_false c8
                clear c8
                by_cases c9 : a0 ≤ 1114111
                · rw [if_pos c9] at H
                  have c9b0 : decide (a0 ≤ 1114111) = true := decide_eq_true c9
                  clear c9
                  obtain rfl := Option.some.inj H
                  go_wp2
                  go_ret
                  exact ⟨by first | rfl | (simp; done) | (simp [*]; done) | (simp [Own.isEmpty_bne]; done), by repeat (first | exact Drawn0.refl _ | apply Drawn0.step)⟩
                · rw [if_neg c9] at H
                  have c9b0 : decide (a0 ≤ 1114111) = false := decide_eq_false c9
                  clear c9
                  obtain rfl := Option.some.inj H
                  go_wp2
                  go_ret
                  exact ⟨by first | rfl | (simp; done) | (simp [*]; done) | (simp [Own.isEmpty_bne]; done), by repeat (first | exact Drawn0.refl _ | apply Drawn0.step)⟩

end Go.Proofs.YtckdpckdabfkbabDoor.PC
