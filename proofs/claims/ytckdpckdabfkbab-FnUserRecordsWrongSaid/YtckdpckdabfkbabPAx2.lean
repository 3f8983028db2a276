-- Written by a program of ours out of the kit's print program.
import Derived.Test.YtckdpckdabfkbabPAx0
import Derived.Test.YtckdpckdabfkbabPAx1
namespace Go.Proofs.Ytckdpckdabfkbab.PA
open Go.RowKit Go.Proofs.YtckdpckdabfkbabW.PrintWords Go.Proofs.YtckdpckdabfkbabW.PrintLast Go.Proofs.YtckdpckdabfkbabW.PrintMore
attribute [local go_sem] max2_int min2_int max_two min_two max_three min_three max_four min_four   -- for this text's walks alone
set_option linter.unusedVariables false
set_option linter.unusedSimpArgs false

/-! ### laws_plainRecords: function 5 -/
mutual
def laws_plainRecords.l0 : Nat → List (S24) → List (S24) → Int → Int → Option (Bool)
  | 0, _, _, _, _ => none
  | k + 1, x0, x6, x7, x8 => if x8 < x7 then (if 0 ≤ x8 then (if x8 < (x6.length : Int) then ((laws_plainWord.f k ((rd_T24 x6 x8).f0)).bind fun t107 => (if t107 = true then ((laws_plainWord.f k ((rd_T24 x6 x8).f3)).bind fun t108 => (if t108 = true then (if (((rd_T24 x6 x8).f1).length : Int) = (((rd_T24 x6 x8).f2).length : Int) then (if (((rd_T24 x6 x8).f1).length : Int) < 1 then (laws_plainRecords.j1 k x0 x6 x7 x8 true ((rd_T24 x6 x8).f0) ((rd_T24 x6 x8).f1) ((rd_T24 x6 x8).f2) ((rd_T24 x6 x8).f3)) else (laws_plainRecords.j1 k x0 x6 x7 x8 (decide ((((rd_T24 x6 x8).f1).length : Int) > 20)) ((rd_T24 x6 x8).f0) ((rd_T24 x6 x8).f1) ((rd_T24 x6 x8).f2) ((rd_T24 x6 x8).f3))) else (laws_plainRecords.j1 k x0 x6 x7 x8 true ((rd_T24 x6 x8).f0) ((rd_T24 x6 x8).f1) ((rd_T24 x6 x8).f2) ((rd_T24 x6 x8).f3))) else (laws_plainRecords.j1 k x0 x6 x7 x8 true ((rd_T24 x6 x8).f0) ((rd_T24 x6 x8).f1) ((rd_T24 x6 x8).f2) ((rd_T24 x6 x8).f3)))) else (laws_plainRecords.j1 k x0 x6 x7 x8 true ((rd_T24 x6 x8).f0) ((rd_T24 x6 x8).f1) ((rd_T24 x6 x8).f2) ((rd_T24 x6 x8).f3)))) else (none)) else (none)) else (some (decide ((x0.length : Int) ≤ 30)))
def laws_plainRecords.j1 : Nat → List (S24) → List (S24) → Int → Int → Bool → ByteArray → List ByteArray → List ByteArray → ByteArray → Option (Bool)
  | 0, _, _, _, _, _, _, _, _, _ => none
  | k + 1, x0, x6, x7, x8, x42, x107000, x107001, x107002, x107003 => if x42 = true then (some false) else (laws_plainRecords.l1 k x0 x6 x7 x8 (x107001.length : Int) 0 x107000 x107001 x107002 x107003)
def laws_plainRecords.l1 : Nat → List (S24) → List (S24) → Int → Int → Int → Int → ByteArray → List ByteArray → List ByteArray → ByteArray → Option (Bool)
  | 0, _, _, _, _, _, _, _, _, _, _ => none
  | k + 1, x0, x6, x7, x8, x45, x46, x107000, x107001, x107002, x107003 => if x46 < x45 then (if 0 ≤ x46 then (if x46 < (x107001.length : Int) then ((laws_plainWord.f k (rdOf ByteArray.empty x107001 x46)).bind fun t110 => (if t110 = true then (if x46 < (x107002.length : Int) then ((laws_plainWord.f k (rdOf ByteArray.empty x107002 x46)).bind fun t112 => (if t112 = true then (laws_plainRecords.l1 k x0 x6 x7 x8 x45 (wrap64 (x46 + 1)) x107000 x107001 x107002 x107003) else (some false))) else (none)) else (some false))) else (none)) else (none)) else (laws_plainRecords.l0 k x0 x6 x7 (wrap64 (x8 + 1)))
end
def laws_plainRecords.f (k : Nat) (l0 : List (S24)) : Option (Bool) := laws_plainRecords.l0 k l0 l0 (l0.length : Int) 0
theorem laws_plainRecords.mono_l : ∀ k, (∀ y0 y1 y2 y3, LeO (laws_plainRecords.l0 k y0 y1 y2 y3) (laws_plainRecords.l0 (k + 1) y0 y1 y2 y3)) ∧ (∀ y0 y1 y2 y3 y4 y5 y6 y7 y8, LeO (laws_plainRecords.j1 k y0 y1 y2 y3 y4 y5 y6 y7 y8) (laws_plainRecords.j1 (k + 1) y0 y1 y2 y3 y4 y5 y6 y7 y8)) ∧ (∀ y0 y1 y2 y3 y4 y5 y6 y7 y8 y9, LeO (laws_plainRecords.l1 k y0 y1 y2 y3 y4 y5 y6 y7 y8 y9) (laws_plainRecords.l1 (k + 1) y0 y1 y2 y3 y4 y5 y6 y7 y8 y9))
  | 0 => ⟨fun _ _ _ _ r h => by simp [laws_plainRecords.l0] at h, fun _ _ _ _ _ _ _ _ _ r h => by simp [laws_plainRecords.j1] at h, fun _ _ _ _ _ _ _ _ _ _ r h => by simp [laws_plainRecords.l1] at h⟩
  | k + 1 => by
    obtain ⟨ih0, ih1, ih2⟩ := laws_plainRecords.mono_l k
    refine ⟨?_, ?_, ?_⟩
    · intro y0 y1 y2 y3
      unfold laws_plainRecords.l0
      repeat' first
      | (with_reducible exact ih0 _ _ _ _)
      | (with_reducible exact ih1 _ _ _ _ _ _ _ _ _)
      | (with_reducible exact ih2 _ _ _ _ _ _ _ _ _ _)
      | (with_reducible exact laws_plainWord.mono _ _)
      | (with_reducible exact LeO.refl _)
      | (with_reducible exact LeO.none _)
      | (with_reducible refine LeO.ite ?_ ?_)
      | (with_reducible refine LeO.bind ?_ (fun _ => ?_))
      | exact ih0 _ _ _ _
      | exact ih1 _ _ _ _ _ _ _ _ _
      | exact ih2 _ _ _ _ _ _ _ _ _ _
      | exact laws_plainWord.mono _ _
      | exact LeO.none _
      | refine LeO.ite ?_ ?_
      | refine LeO.bind ?_ (fun _ => ?_)
    · intro y0 y1 y2 y3 y4 y5 y6 y7 y8
      unfold laws_plainRecords.j1
      repeat' first
      | (with_reducible exact ih0 _ _ _ _)
      | (with_reducible exact ih1 _ _ _ _ _ _ _ _ _)
      | (with_reducible exact ih2 _ _ _ _ _ _ _ _ _ _)
      | (with_reducible exact laws_plainWord.mono _ _)
      | (with_reducible exact LeO.refl _)
      | (with_reducible exact LeO.none _)
      | (with_reducible refine LeO.ite ?_ ?_)
      | (with_reducible refine LeO.bind ?_ (fun _ => ?_))
      | exact ih0 _ _ _ _
      | exact ih1 _ _ _ _ _ _ _ _ _
      | exact ih2 _ _ _ _ _ _ _ _ _ _
      | exact laws_plainWord.mono _ _
      | exact LeO.none _
      | refine LeO.ite ?_ ?_
      | refine LeO.bind ?_ (fun _ => ?_)
    · intro y0 y1 y2 y3 y4 y5 y6 y7 y8 y9
      unfold laws_plainRecords.l1
      repeat' first
      | (with_reducible exact ih0 _ _ _ _)
      | (with_reducible exact ih1 _ _ _ _ _ _ _ _ _)
      | (with_reducible exact ih2 _ _ _ _ _ _ _ _ _ _)
      | (with_reducible exact laws_plainWord.mono _ _)
      | (with_reducible exact LeO.refl _)
      | (with_reducible exact LeO.none _)
      | (with_reducible refine LeO.ite ?_ ?_)
      | (with_reducible refine LeO.bind ?_ (fun _ => ?_))
      | exact ih0 _ _ _ _
      | exact ih1 _ _ _ _ _ _ _ _ _
      | exact ih2 _ _ _ _ _ _ _ _ _ _
      | exact laws_plainWord.mono _ _
      | exact LeO.none _
      | refine LeO.ite ?_ ?_
      | refine LeO.bind ?_ (fun _ => ?_)
theorem laws_plainRecords.mono : ∀ a0 k, LeO (laws_plainRecords.f k a0) (laws_plainRecords.f (k + 1) a0) := by
  intro a0 k
  obtain ⟨ih0, ih1, ih2⟩ := laws_plainRecords.mono_l k
  unfold laws_plainRecords.f
  repeat' first
      | (with_reducible exact ih0 _ _ _ _)
      | (with_reducible exact ih1 _ _ _ _ _ _ _ _ _)
      | (with_reducible exact ih2 _ _ _ _ _ _ _ _ _ _)
      | (with_reducible exact laws_plainWord.mono _ _)
      | (with_reducible exact LeO.refl _)
      | (with_reducible exact LeO.none _)
      | (with_reducible refine LeO.ite ?_ ?_)
      | (with_reducible refine LeO.bind ?_ (fun _ => ?_))
      | exact ih0 _ _ _ _
      | exact ih1 _ _ _ _ _ _ _ _ _
      | exact ih2 _ _ _ _ _ _ _ _ _ _
      | exact laws_plainWord.mono _ _
      | exact LeO.none _
      | refine LeO.ite ?_ ?_
      | refine LeO.bind ?_ (fun _ => ?_)
set_option maxHeartbeats 8000000 in
set_option maxRecDepth 100000 in
theorem laws_plainRecords.calls (k : Nat) (A0 : Option Addr) (c0 : Nat) (l0 : List (S24)) (r : Bool) (w : World) (hr0 : Kd.C k24 w A0 l0.length l0) (hc0 : l0.length ≤ c0) (h : laws_plainRecords.f k l0 = some r) :
    Calls Try.prog 5 #[.slice A0 l0.length c0] w fun e w' => e = .returned (.bool r) ∧ Below w.heap.size w w' := by
  have hu24 := Try.underlying24
  have HR0 := Aside0.mk hr0
  have HC0 := Aside0.mk hc0
  clear hr0 hc0
  have HB := Aside0.mk (Below.refl w.heap.size w)
  have H : (laws_plainRecords.l0 k l0 l0 (l0.length : Int) 0) = some r := h
  clear h
  have H' := Aside0.mk H
  clear H
  go_enter Try.func5, Try.ntmps5
  go_wp2
  go_loopg [8] k (fun kq v8 w' => ∃ (x8_1 : Int), v8 = .int .i64 x8_1 ∧ Aside0 (laws_plainRecords.l0 kq l0 l0 (l0.length : Int) x8_1 = some r) ∧ Aside0 (kq ≤ k) ∧ Aside0 (Below w.heap.size w w'))
  case atStart => exact ⟨(0), (by first | rfl | (simp; done) | (simp [*]; done)), H', ⟨Nat.le_refl _⟩, ⟨by repeat (first | (with_reducible first | exact HB.out | apply below_alloc | apply pw_below_drewN | apply below_drew1) | exact HB.out)⟩⟩
  case round =>
    clear H'
    obtain ⟨x8_1, rfl, HA, HK1, HB⟩ := hrel
    cases gk with
    | zero => exact absurd HA.out (by simp [laws_plainRecords.l0])
    | succ k1 =>
      have H := HA.out
      clear HA
      simp only [laws_plainRecords.l0] at H
      by_cases c2 : x8_1 < (l0.length : Int)
      · rw [if_pos c2] at H
        have c2b0 : decide (x8_1 < (l0.length : Int)) = true := decide_eq_true c2
        clear c2
        by_cases c3 : 0 ≤ x8_1
        · rw [if_pos c3] at H
          have c3b0 : decide (0 ≤ x8_1) = true := decide_eq_true c3
          clear c3
          by_cases c4 : x8_1 < (l0.length : Int)
          · rw [if_pos c4] at H
            have c4b0 : decide (x8_1 < (l0.length : Int)) = true := decide_eq_true c4
            clear c4
            have HC5 := Aside0.mk H
            clear H
            have p105 : 0 ≤ (x8_1 : Int) := of_decide_eq_true (by first | (with_reducible assumption) | assumption)
            have q105 : x8_1 < (l0.length : Int) := of_decide_eq_true (by first | (with_reducible assumption) | assumption)
            obtain ⟨ad105, A105_1, c105_1, A105_2, c105_2, e105, hx105_0, hx105_1, hx105_2, hx105_3, hl105_1, hi105_1, hl105_2, hi105_2⟩ := at_T24 HR0.out x8_1 p105 q105
            cases e105
            replace hx105_0 := (HB.out.cell (World.block_lt_of_cell? w _ hx105_0)).trans hx105_0
            replace hx105_1 := (HB.out.cell (World.block_lt_of_cell? w _ hx105_1)).trans hx105_1
            replace hx105_2 := (HB.out.cell (World.block_lt_of_cell? w _ hx105_2)).trans hx105_2
            replace hx105_3 := (HB.out.cell (World.block_lt_of_cell? w _ hx105_3)).trans hx105_3
            have HR105_1 := Aside0.mk hi105_1
            have HC105_1 := Aside0.mk hl105_1
            clear hi105_1 hl105_1
            have HR105_2 := Aside0.mk hi105_2
            have HC105_2 := Aside0.mk hl105_2
            clear hi105_2 hl105_2
            replace p105 := eq_true p105
            replace q105 := eq_true q105
            go_upto_region 4 with (first | ((with_reducible refine gate_dst (N := 4) rfl ?_); (try (refine gate_guard (by rfl) ?_; dsimp only)); refine box_event ?hg (N := 4) ?hd (cs := #[.string (⟨#[]⟩ : ByteArray), .slice none 0 0, .slice none 0 0, .string (⟨#[]⟩ : ByteArray)]) (t := 24) ?hr ?_; (case hd => rfl); (case hg => rfl); (case hr => first | (go_simp; done) | (go_simp; rfl)); intro gb106 hg w6 hbox hb; have n0_ := Aside0.mk (below_step (by repeat (first | (with_reducible first | exact HB.out | apply below_alloc | apply pw_below_drewN | apply below_drew1) | exact HB.out)) hb); have n1_ := Aside0.mk (hbox); have n2_ := Aside0.mk ((by rw [hg]; exact (below_size (by repeat (first | (with_reducible first | exact HB.out | apply below_alloc | apply pw_below_drewN | apply below_drew1) | exact HB.out))) : w.heap.size ≤ gb106)); have n3_ := Aside0.mk ((by rw [hg]; exact (below_size (by repeat (first | (with_reducible first | exact HB.out | apply below_alloc | apply pw_below_drewN | apply below_drew1) | exact HB.out))) : w.heap.size ≤ gb106)); clear HB; have HB := n0_; have BK106 := n1_; have GW106 := n2_; have GE106 := n3_; clear n0_ n1_ n2_ n3_; clear hb hbox hg; have hcz7_0 : w6.cell? ⟨gb106, 0, none⟩ = some (.string (⟨#[]⟩ : ByteArray)) := (blk_cell BK106.out 0).trans rfl; have hcz7_1 : w6.cell? ⟨gb106, 1, none⟩ = some (.slice none 0 0) := (blk_cell BK106.out 1).trans rfl; have hcz7_2 : w6.cell? ⟨gb106, 2, none⟩ = some (.slice none 0 0) := (blk_cell BK106.out 2).trans rfl; have hcz7_3 : w6.cell? ⟨gb106, 3, none⟩ = some (.string (⟨#[]⟩ : ByteArray)) := (blk_cell BK106.out 3).trans rfl; have hfz7_0 := blk_frozen BK106.out 0; have hfz7_1 := blk_frozen BK106.out 1; have hfz7_2 := blk_frozen BK106.out 2; have hfz7_3 := blk_frozen BK106.out 3))
            (try simp only [Act.put, List.setIfInBounds_toArray, List.set_cons_zero, List.set_cons_succ])
            go_cut [42] (fun v42 wc => ∃ (kq : Nat) (x42_4 : Bool), v42 = .bool x42_4 ∧ Aside0 (laws_plainRecords.j1 kq l0 l0 (l0.length : Int) x8_1 x42_4 ((rd_T24 l0 x8_1).f0) ((rd_T24 l0 x8_1).f1) ((rd_T24 l0 x8_1).f2) ((rd_T24 l0 x8_1).f3) = some r) ∧ Aside0 (kq ≤ k1) ∧ Aside0 (wc.heap[gb106]? = some (.cells #[.string ((rd_T24 l0 x8_1).f0), (.slice A105_1 ((rd_T24 l0 x8_1).f1).length c105_1), (.slice A105_2 ((rd_T24 l0 x8_1).f2).length c105_2), .string ((rd_T24 l0 x8_1).f3)] 24 (0, 0))) ∧ Aside0 (Below w.heap.size w wc))
            case first =>
              have H := HC5.out
              clear HC5
              replace H := Option.bind_eq_some_iff.mp H
              obtain ⟨t107, A80, H⟩ := H
              replace H : (if t107 = true then ((laws_plainWord.f k1 ((rd_T24 l0 x8_1).f3)).bind fun t108 => (if t108 = true then (if (((rd_T24 l0 x8_1).f1).length : Int) = (((rd_T24 l0 x8_1).f2).length : Int) then (if (((rd_T24 l0 x8_1).f1).length : Int) < 1 then (laws_plainRecords.j1 k1 l0 l0 (l0.length : Int) x8_1 true ((rd_T24 l0 x8_1).f0) ((rd_T24 l0 x8_1).f1) ((rd_T24 l0 x8_1).f2) ((rd_T24 l0 x8_1).f3)) else (laws_plainRecords.j1 k1 l0 l0 (l0.length : Int) x8_1 (decide ((((rd_T24 l0 x8_1).f1).length : Int) > 20)) ((rd_T24 l0 x8_1).f0) ((rd_T24 l0 x8_1).f1) ((rd_T24 l0 x8_1).f2) ((rd_T24 l0 x8_1).f3))) else (laws_plainRecords.j1 k1 l0 l0 (l0.length : Int) x8_1 true ((rd_T24 l0 x8_1).f0) ((rd_T24 l0 x8_1).f1) ((rd_T24 l0 x8_1).f2) ((rd_T24 l0 x8_1).f3))) else (laws_plainRecords.j1 k1 l0 l0 (l0.length : Int) x8_1 true ((rd_T24 l0 x8_1).f0) ((rd_T24 l0 x8_1).f1) ((rd_T24 l0 x8_1).f2) ((rd_T24 l0 x8_1).f3)))) else (laws_plainRecords.j1 k1 l0 l0 (l0.length : Int) x8_1 true ((rd_T24 l0 x8_1).f0) ((rd_T24 l0 x8_1).f1) ((rd_T24 l0 x8_1).f2) ((rd_T24 l0 x8_1).f3))) = some r := H
              have A8 := Aside0.mk A80
              clear A80
              by_cases c9 : t107 = true
              · subst c9
                have H1 : ((laws_plainWord.f k1 ((rd_T24 l0 x8_1).f3)).bind fun t108 => (if t108 = true then (if (((rd_T24 l0 x8_1).f1).length : Int) = (((rd_T24 l0 x8_1).f2).length : Int) then (if (((rd_T24 l0 x8_1).f1).length : Int) < 1 then (laws_plainRecords.j1 k1 l0 l0 (l0.length : Int) x8_1 true ((rd_T24 l0 x8_1).f0) ((rd_T24 l0 x8_1).f1) ((rd_T24 l0 x8_1).f2) ((rd_T24 l0 x8_1).f3)) else (laws_plainRecords.j1 k1 l0 l0 (l0.length : Int) x8_1 (decide ((((rd_T24 l0 x8_1).f1).length : Int) > 20)) ((rd_T24 l0 x8_1).f0) ((rd_T24 l0 x8_1).f1) ((rd_T24 l0 x8_1).f2) ((rd_T24 l0 x8_1).f3))) else (laws_plainRecords.j1 k1 l0 l0 (l0.length : Int) x8_1 true ((rd_T24 l0 x8_1).f0) ((rd_T24 l0 x8_1).f1) ((rd_T24 l0 x8_1).f2) ((rd_T24 l0 x8_1).f3))) else (laws_plainRecords.j1 k1 l0 l0 (l0.length : Int) x8_1 true ((rd_T24 l0 x8_1).f0) ((rd_T24 l0 x8_1).f1) ((rd_T24 l0 x8_1).f2) ((rd_T24 l0 x8_1).f3)))) = some r := by rw [if_pos rfl] at H; exact H
                clear H
                have H := H1
                clear H1
                replace H := Option.bind_eq_some_iff.mp H
                obtain ⟨t108, A100, H⟩ := H
                replace H : (if t108 = true then (if (((rd_T24 l0 x8_1).f1).length : Int) = (((rd_T24 l0 x8_1).f2).length : Int) then (if (((rd_T24 l0 x8_1).f1).length : Int) < 1 then (laws_plainRecords.j1 k1 l0 l0 (l0.length : Int) x8_1 true ((rd_T24 l0 x8_1).f0) ((rd_T24 l0 x8_1).f1) ((rd_T24 l0 x8_1).f2) ((rd_T24 l0 x8_1).f3)) else (laws_plainRecords.j1 k1 l0 l0 (l0.length : Int) x8_1 (decide ((((rd_T24 l0 x8_1).f1).length : Int) > 20)) ((rd_T24 l0 x8_1).f0) ((rd_T24 l0 x8_1).f1) ((rd_T24 l0 x8_1).f2) ((rd_T24 l0 x8_1).f3))) else (laws_plainRecords.j1 k1 l0 l0 (l0.length : Int) x8_1 true ((rd_T24 l0 x8_1).f0) ((rd_T24 l0 x8_1).f1) ((rd_T24 l0 x8_1).f2) ((rd_T24 l0 x8_1).f3))) else (laws_plainRecords.j1 k1 l0 l0 (l0.length : Int) x8_1 true ((rd_T24 l0 x8_1).f0) ((rd_T24 l0 x8_1).f1) ((rd_T24 l0 x8_1).f2) ((rd_T24 l0 x8_1).f3))) = some r := H
                have A10 := Aside0.mk A100
                clear A100
                by_cases c11 : t108 = true
                · subst c11
                  have H1 : (if (((rd_T24 l0 x8_1).f1).length : Int) = (((rd_T24 l0 x8_1).f2).length : Int) then (if (((rd_T24 l0 x8_1).f1).length : Int) < 1 then (laws_plainRecords.j1 k1 l0 l0 (l0.length : Int) x8_1 true ((rd_T24 l0 x8_1).f0) ((rd_T24 l0 x8_1).f1) ((rd_T24 l0 x8_1).f2) ((rd_T24 l0 x8_1).f3)) else (laws_plainRecords.j1 k1 l0 l0 (l0.length : Int) x8_1 (decide ((((rd_T24 l0 x8_1).f1).length : Int) > 20)) ((rd_T24 l0 x8_1).f0) ((rd_T24 l0 x8_1).f1) ((rd_T24 l0 x8_1).f2) ((rd_T24 l0 x8_1).f3))) else (laws_plainRecords.j1 k1 l0 l0 (l0.length : Int) x8_1 true ((rd_T24 l0 x8_1).f0) ((rd_T24 l0 x8_1).f1) ((rd_T24 l0 x8_1).f2) ((rd_T24 l0 x8_1).f3))) = some r := by rw [if_pos rfl] at H; exact H
                  clear H
                  have H := H1
                  clear H1
                  by_cases c12 : (((rd_T24 l0 x8_1).f1).length : Int) = (((rd_T24 l0 x8_1).f2).length : Int)
                  · rw [if_pos c12] at H
                    have c12b0 : ((((rd_T24 l0 x8_1).f1).length : Int) == (((rd_T24 l0 x8_1).f2).length : Int)) = true := beq_iff_eq.mpr c12
                    have c12b1 : ((((rd_T24 l0 x8_1).f1).length : Int) != (((rd_T24 l0 x8_1).f2).length : Int)) = false := bne_eq_false_iff_eq.mpr c12
                    have c12b2 : (((rd_T24 l0 x8_1).f1).length == ((rd_T24 l0 x8_1).f2).length) = true := by first | simpa using c12 | (simp at c12 ⊢; omega)
                    clear c12
                    (first | rw [c12b0] | (simp only [i64_w, i32_w]; rw [c12b0]) | skip)
                    by_cases c13 : (((rd_T24 l0 x8_1).f1).length : Int) < 1
                    · rw [if_pos c13] at H
                      have c13b0 : decide ((((rd_T24 l0 x8_1).f1).length : Int) < 1) = true := decide_eq_true c13
                      have c13b1 : decide (((rd_T24 l0 x8_1).f1).length < 1) = true := decide_eq_true (by omega)
                      clear c13
                      have H' := Aside0.mk H
                      clear H
                      have hcz14_0 : w6.cell? ⟨gb106, 0, none⟩ = some (.string (⟨#[]⟩ : ByteArray)) := (blk_cell BK106.out 0).trans rfl
                      have hcz14_1 : w6.cell? ⟨gb106, 1, none⟩ = some (.slice none 0 0) := (blk_cell BK106.out 1).trans rfl
                      have hcz14_2 : w6.cell? ⟨gb106, 2, none⟩ = some (.slice none 0 0) := (blk_cell BK106.out 2).trans rfl
                      have hcz14_3 : w6.cell? ⟨gb106, 3, none⟩ = some (.string (⟨#[]⟩ : ByteArray)) := (blk_cell BK106.out 3).trans rfl
                      have hfz14_0 := blk_frozen BK106.out 0
                      have hfz14_1 := blk_frozen BK106.out 1
                      have hfz14_2 := blk_frozen BK106.out 2
                      have hfz14_3 := blk_frozen BK106.out 3
                      go_wp2_with (first | ((with_reducible refine gate_callee (f := 11) rfl ?_); refine goesL_ (some 14) rfl rfl Try.func11 (by kernel_rfl) rfl #[.string ((rd_T24 l0 x8_1).f0)] rfl (by (try simp only [List.map_toArray, List.map_cons, List.map_nil]); first | done | rfl | (simp only [List.length_drop, List.length_take]; rfl)) ?_; (with_reducible refine (laws_plainWord.calls k1 ((rd_T24 l0 x8_1).f0) true _ A8.out).mono ?_); rintro e w' ⟨rfl, ⟨nd, rfl⟩⟩; refine ⟨_, rfl, ?_⟩) | (go_at_call 11; (with_reducible refine (laws_plainWord.calls k1 ((rd_T24 l0 x8_1).f3) true _ A10.out).mono ?_); rintro e w' ⟨rfl, ⟨nd, rfl⟩⟩))
                      go_meet
                      case rel => exact ⟨_, (true), (by first | rfl | (simp; done) | (simp [*]; done)), H', ⟨by have := HK1.out; first | omega | exact Nat.le_refl _⟩, ⟨by (with_reducible repeat (first | refine blk_drewN ?_ _ | refine blk_drew ?_ | refine blk_alloc ?_ _)); refine blk_put (cs := #[.string ((rd_T24 l0 x8_1).f0), .slice A105_1 ((rd_T24 l0 x8_1).f1).length c105_1, .slice A105_2 ((rd_T24 l0 x8_1).f2).length c105_2, .string (⟨#[]⟩ : ByteArray)]) ?_ 3 _ rfl; (with_reducible repeat (first | refine blk_drewN ?_ _ | refine blk_drew ?_ | refine blk_alloc ?_ _)); refine blk_put (cs := #[.string ((rd_T24 l0 x8_1).f0), .slice A105_1 ((rd_T24 l0 x8_1).f1).length c105_1, .slice none 0 0, .string (⟨#[]⟩ : ByteArray)]) ?_ 2 _ rfl; (with_reducible repeat (first | refine blk_drewN ?_ _ | refine blk_drew ?_ | refine blk_alloc ?_ _)); refine blk_put (cs := #[.string ((rd_T24 l0 x8_1).f0), .slice none 0 0, .slice none 0 0, .string (⟨#[]⟩ : ByteArray)]) ?_ 1 _ rfl; (with_reducible repeat (first | refine blk_drewN ?_ _ | refine blk_drew ?_ | refine blk_alloc ?_ _)); refine blk_put (cs := #[.string (⟨#[]⟩ : ByteArray), .slice none 0 0, .slice none 0 0, .string (⟨#[]⟩ : ByteArray)]) ?_ 0 _ rfl; (with_reducible repeat (first | refine blk_drewN ?_ _ | refine blk_drew ?_ | refine blk_alloc ?_ _)); exact BK106.out⟩, ⟨by repeat (first | (with_reducible first | exact HB.out | apply below_alloc | apply pw_below_drewN | apply below_drew1 | refine below_set ?_ GE106.out) | exact HB.out)⟩⟩
                    · rw [if_neg c13] at H
                      have c13b0 : decide ((((rd_T24 l0 x8_1).f1).length : Int) < 1) = false := decide_eq_false c13
                      have c13b1 : decide (((rd_T24 l0 x8_1).f1).length < 1) = false := decide_eq_false (by omega)
                      clear c13
                      have H' := Aside0.mk H
                      clear H
                      have hcz15_0 : w6.cell? ⟨gb106, 0, none⟩ = some (.string (⟨#[]⟩ : ByteArray)) := (blk_cell BK106.out 0).trans rfl
                      have hcz15_1 : w6.cell? ⟨gb106, 1, none⟩ = some (.slice none 0 0) := (blk_cell BK106.out 1).trans rfl
                      have hcz15_2 : w6.cell? ⟨gb106, 2, none⟩ = some (.slice none 0 0) := (blk_cell BK106.out 2).trans rfl
                      have hcz15_3 : w6.cell? ⟨gb106, 3, none⟩ = some (.string (⟨#[]⟩ : ByteArray)) := (blk_cell BK106.out 3).trans rfl
                      have hfz15_0 := blk_frozen BK106.out 0
                      have hfz15_1 := blk_frozen BK106.out 1
                      have hfz15_2 := blk_frozen BK106.out 2
                      have hfz15_3 := blk_frozen BK106.out 3
                      go_wp2_with (first | ((with_reducible refine gate_callee (f := 11) rfl ?_); refine goesL_ (some 14) rfl rfl Try.func11 (by kernel_rfl) rfl #[.string ((rd_T24 l0 x8_1).f0)] rfl (by (try simp only [List.map_toArray, List.map_cons, List.map_nil]); first | done | rfl | (simp only [List.length_drop, List.length_take]; rfl)) ?_; (with_reducible refine (laws_plainWord.calls k1 ((rd_T24 l0 x8_1).f0) true _ A8.out).mono ?_); rintro e w' ⟨rfl, ⟨nd, rfl⟩⟩; refine ⟨_, rfl, ?_⟩) | (go_at_call 11; (with_reducible refine (laws_plainWord.calls k1 ((rd_T24 l0 x8_1).f3) true _ A10.out).mono ?_); rintro e w' ⟨rfl, ⟨nd, rfl⟩⟩))
                      go_meet
                      case rel => exact ⟨_, (decide ((((rd_T24 l0 x8_1).f1).length : Int) > 20)), (by first | rfl | (simp; done) | (simp [*]; done)), H', ⟨by have := HK1.out; first | omega | exact Nat.le_refl _⟩, ⟨by (with_reducible repeat (first | refine blk_drewN ?_ _ | refine blk_drew ?_ | refine blk_alloc ?_ _)); refine blk_put (cs := #[.string ((rd_T24 l0 x8_1).f0), .slice A105_1 ((rd_T24 l0 x8_1).f1).length c105_1, .slice A105_2 ((rd_T24 l0 x8_1).f2).length c105_2, .string (⟨#[]⟩ : ByteArray)]) ?_ 3 _ rfl; (with_reducible repeat (first | refine blk_drewN ?_ _ | refine blk_drew ?_ | refine blk_alloc ?_ _)); refine blk_put (cs := #[.string ((rd_T24 l0 x8_1).f0), .slice A105_1 ((rd_T24 l0 x8_1).f1).length c105_1, .slice none 0 0, .string (⟨#[]⟩ : ByteArray)]) ?_ 2 _ rfl; (with_reducible repeat (first | refine blk_drewN ?_ _ | refine blk_drew ?_ | refine blk_alloc ?_ _)); refine blk_put (cs := #[.string ((rd_T24 l0 x8_1).f0), .slice none 0 0, .slice none 0 0, .string (⟨#[]⟩ : ByteArray)]) ?_ 1 _ rfl; (with_reducible repeat (first | refine blk_drewN ?_ _ | refine blk_drew ?_ | refine blk_alloc ?_ _)); refine blk_put (cs := #[.string (⟨#[]⟩ : ByteArray), .slice none 0 0, .slice none 0 0, .string (⟨#[]⟩ : ByteArray)]) ?_ 0 _ rfl; (with_reducible repeat (first | refine blk_drewN ?_ _ | refine blk_drew ?_ | refine blk_alloc ?_ _)); exact BK106.out⟩, ⟨by repeat (first | (with_reducible first | exact HB.out | apply below_alloc | apply pw_below_drewN | apply below_drew1 | refine below_set ?_ GE106.out) | exact HB.out)⟩⟩
                  · rw [if_neg c12] at H
                    have c12b0 : ((((rd_T24 l0 x8_1).f1).length : Int) == (((rd_T24 l0 x8_1).f2).length : Int)) = false := beq_eq_false_iff_ne.mpr c12
                    have c12b1 : ((((rd_T24 l0 x8_1).f1).length : Int) != (((rd_T24 l0 x8_1).f2).length : Int)) = true := bne_iff_ne.mpr c12
                    have c12b2 : (((rd_T24 l0 x8_1).f1).length == ((rd_T24 l0 x8_1).f2).length) = false := by first | simpa using c12 | (simp at c12 ⊢; omega)
                    (first | rw [c12b0] | (simp only [i64_w, i32_w]; rw [c12b0]) | skip)
                    have H' := Aside0.mk H
                    clear H
                    have hcz16_0 : w6.cell? ⟨gb106, 0, none⟩ = some (.string (⟨#[]⟩ : ByteArray)) := (blk_cell BK106.out 0).trans rfl
                    have hcz16_1 : w6.cell? ⟨gb106, 1, none⟩ = some (.slice none 0 0) := (blk_cell BK106.out 1).trans rfl
                    have hcz16_2 : w6.cell? ⟨gb106, 2, none⟩ = some (.slice none 0 0) := (blk_cell BK106.out 2).trans rfl
                    have hcz16_3 : w6.cell? ⟨gb106, 3, none⟩ = some (.string (⟨#[]⟩ : ByteArray)) := (blk_cell BK106.out 3).trans rfl
                    have hfz16_0 := blk_frozen BK106.out 0
                    have hfz16_1 := blk_frozen BK106.out 1
                    have hfz16_2 := blk_frozen BK106.out 2
                    have hfz16_3 := blk_frozen BK106.out 3
                    go_wp2_with (first | ((with_reducible refine gate_callee (f := 11) rfl ?_); refine goesL_ (some 14) rfl rfl Try.func11 (by kernel_rfl) rfl #[.string ((rd_T24 l0 x8_1).f0)] rfl (by (try simp only [List.map_toArray, List.map_cons, List.map_nil]); first | done | rfl | (simp only [List.length_drop, List.length_take]; rfl)) ?_; (with_reducible refine (laws_plainWord.calls k1 ((rd_T24 l0 x8_1).f0) true _ A8.out).mono ?_); rintro e w' ⟨rfl, ⟨nd, rfl⟩⟩; refine ⟨_, rfl, ?_⟩) | (go_at_call 11; (with_reducible refine (laws_plainWord.calls k1 ((rd_T24 l0 x8_1).f3) true _ A10.out).mono ?_); rintro e w' ⟨rfl, ⟨nd, rfl⟩⟩))
                    go_meet
                    case rel => exact ⟨_, (true), (by first | rfl | (simp; done) | (simp [*]; done)), H', ⟨by have := HK1.out; first | omega | exact Nat.le_refl _⟩, ⟨by (with_reducible repeat (first | refine blk_drewN ?_ _ | refine blk_drew ?_ | refine blk_alloc ?_ _)); refine blk_put (cs := #[.string ((rd_T24 l0 x8_1).f0), .slice A105_1 ((rd_T24 l0 x8_1).f1).length c105_1, .slice A105_2 ((rd_T24 l0 x8_1).f2).length c105_2, .string (⟨#[]⟩ : ByteArray)]) ?_ 3 _ rfl; (with_reducible repeat (first | refine blk_drewN ?_ _ | refine blk_drew ?_ | refine blk_alloc ?_ _)); refine blk_put (cs := #[.string ((rd_T24 l0 x8_1).f0), .slice A105_1 ((rd_T24 l0 x8_1).f1).length c105_1, .slice none 0 0, .string (⟨#[]⟩ : ByteArray)]) ?_ 2 _ rfl; (with_reducible repeat (first | refine blk_drewN ?_ _ | refine blk_drew ?_ | refine blk_alloc ?_ _)); refine blk_put (cs := #[.string ((rd_T24 l0 x8_1).f0), .slice none 0 0, .slice none 0 0, .string (⟨#[]⟩ : ByteArray)]) ?_ 1 _ rfl; (with_reducible repeat (first | refine blk_drewN ?_ _ | refine blk_drew ?_ | refine blk_alloc ?_ _)); refine blk_put (cs := #[.string (⟨#[]⟩ : ByteArray), .slice none 0 0, .slice none 0 0, .string (⟨#[]⟩ : ByteArray)]) ?_ 0 _ rfl; (with_reducible repeat (first | refine blk_drewN ?_ _ | refine blk_drew ?_ | refine blk_alloc ?_ _)); exact BK106.out⟩, ⟨by repeat (first | (with_reducible first | exact HB.out | apply below_alloc | apply pw_below_drewN | apply below_drew1 | refine below_set ?_ GE106.out) | exact HB.out)⟩⟩
                · replace c11 := Bool.eq_false_iff.mpr c11
                  subst c11
                  have H1 : (laws_plainRecords.j1 k1 l0 l0 (l0.length : Int) x8_1 true ((rd_T24 l0 x8_1).f0) ((rd_T24 l0 x8_1).f1) ((rd_T24 l0 x8_1).f2) ((rd_T24 l0 x8_1).f3)) = some r := by rw [if_neg (show ¬ (false = true) by decide)] at H; exact H
                  clear H
                  have H := H1
                  clear H1
                  have H' := Aside0.mk H
                  clear H
                  have hcz17_0 : w6.cell? ⟨gb106, 0, none⟩ = some (.string (⟨#[]⟩ : ByteArray)) := (blk_cell BK106.out 0).trans rfl
                  have hcz17_1 : w6.cell? ⟨gb106, 1, none⟩ = some (.slice none 0 0) := (blk_cell BK106.out 1).trans rfl
                  have hcz17_2 : w6.cell? ⟨gb106, 2, none⟩ = some (.slice none 0 0) := (blk_cell BK106.out 2).trans rfl
                  have hcz17_3 : w6.cell? ⟨gb106, 3, none⟩ = some (.string (⟨#[]⟩ : ByteArray)) := (blk_cell BK106.out 3).trans rfl
                  have hfz17_0 := blk_frozen BK106.out 0
                  have hfz17_1 := blk_frozen BK106.out 1
                  have hfz17_2 := blk_frozen BK106.out 2
                  have hfz17_3 := blk_frozen BK106.out 3
                  go_wp2_with (first | ((with_reducible refine gate_callee (f := 11) rfl ?_); refine goesL_ (some 14) rfl rfl Try.func11 (by kernel_rfl) rfl #[.string ((rd_T24 l0 x8_1).f0)] rfl (by (try simp only [List.map_toArray, List.map_cons, List.map_nil]); first | done | rfl | (simp only [List.length_drop, List.length_take]; rfl)) ?_; (with_reducible refine (laws_plainWord.calls k1 ((rd_T24 l0 x8_1).f0) true _ A8.out).mono ?_); rintro e w' ⟨rfl, ⟨nd, rfl⟩⟩; refine ⟨_, rfl, ?_⟩) | (go_at_call 11; (with_reducible refine (laws_plainWord.calls k1 ((rd_T24 l0 x8_1).f3) false _ A10.out).mono ?_); rintro e w' ⟨rfl, ⟨nd, rfl⟩⟩))
                  go_meet
                  case rel => exact ⟨_, (true), (by first | rfl | (simp; done) | (simp [*]; done)), H', ⟨by have := HK1.out; first | omega | exact Nat.le_refl _⟩, ⟨by (with_reducible repeat (first | refine blk_drewN ?_ _ | refine blk_drew ?_ | refine blk_alloc ?_ _)); refine blk_put (cs := #[.string ((rd_T24 l0 x8_1).f0), .slice A105_1 ((rd_T24 l0 x8_1).f1).length c105_1, .slice A105_2 ((rd_T24 l0 x8_1).f2).length c105_2, .string (⟨#[]⟩ : ByteArray)]) ?_ 3 _ rfl; (with_reducible repeat (first | refine blk_drewN ?_ _ | refine blk_drew ?_ | refine blk_alloc ?_ _)); refine blk_put (cs := #[.string ((rd_T24 l0 x8_1).f0), .slice A105_1 ((rd_T24 l0 x8_1).f1).length c105_1, .slice none 0 0, .string (⟨#[]⟩ : ByteArray)]) ?_ 2 _ rfl; (with_reducible repeat (first | refine blk_drewN ?_ _ | refine blk_drew ?_ | refine blk_alloc ?_ _)); refine blk_put (cs := #[.string ((rd_T24 l0 x8_1).f0), .slice none 0 0, .slice none 0 0, .string (⟨#[]⟩ : ByteArray)]) ?_ 1 _ rfl; (with_reducible repeat (first | refine blk_drewN ?_ _ | refine blk_drew ?_ | refine blk_alloc ?_ _)); refine blk_put (cs := #[.string (⟨#[]⟩ : ByteArray), .slice none 0 0, .slice none 0 0, .string (⟨#[]⟩ : ByteArray)]) ?_ 0 _ rfl; (with_reducible repeat (first | refine blk_drewN ?_ _ | refine blk_drew ?_ | refine blk_alloc ?_ _)); exact BK106.out⟩, ⟨by repeat (first | (with_reducible first | exact HB.out | apply below_alloc | apply pw_below_drewN | apply below_drew1 | refine below_set ?_ GE106.out) | exact HB.out)⟩⟩
              · replace c9 := Bool.eq_false_iff.mpr c9
                subst c9
                have H1 : (laws_plainRecords.j1 k1 l0 l0 (l0.length : Int) x8_1 true ((rd_T24 l0 x8_1).f0) ((rd_T24 l0 x8_1).f1) ((rd_T24 l0 x8_1).f2) ((rd_T24 l0 x8_1).f3)) = some r := by rw [if_neg (show ¬ (false = true) by decide)] at H; exact H
                clear H
                have H := H1
                clear H1
                have H' := Aside0.mk H
                clear H
                have hcz18_0 : w6.cell? ⟨gb106, 0, none⟩ = some (.string (⟨#[]⟩ : ByteArray)) := (blk_cell BK106.out 0).trans rfl
                have hcz18_1 : w6.cell? ⟨gb106, 1, none⟩ = some (.slice none 0 0) := (blk_cell BK106.out 1).trans rfl
                have hcz18_2 : w6.cell? ⟨gb106, 2, none⟩ = some (.slice none 0 0) := (blk_cell BK106.out 2).trans rfl
                have hcz18_3 : w6.cell? ⟨gb106, 3, none⟩ = some (.string (⟨#[]⟩ : ByteArray)) := (blk_cell BK106.out 3).trans rfl
                have hfz18_0 := blk_frozen BK106.out 0
                have hfz18_1 := blk_frozen BK106.out 1
                have hfz18_2 := blk_frozen BK106.out 2
                have hfz18_3 := blk_frozen BK106.out 3
                go_wp2_with (first | ((with_reducible refine gate_callee (f := 11) rfl ?_); refine goesL_ (some 14) rfl rfl Try.func11 (by kernel_rfl) rfl #[.string ((rd_T24 l0 x8_1).f0)] rfl (by (try simp only [List.map_toArray, List.map_cons, List.map_nil]); first | done | rfl | (simp only [List.length_drop, List.length_take]; rfl)) ?_; (with_reducible refine (laws_plainWord.calls k1 ((rd_T24 l0 x8_1).f0) false _ A8.out).mono ?_); rintro e w' ⟨rfl, ⟨nd, rfl⟩⟩; refine ⟨_, rfl, ?_⟩))
                go_meet
                case rel => exact ⟨_, (true), (by first | rfl | (simp; done) | (simp [*]; done)), H', ⟨by have := HK1.out; first | omega | exact Nat.le_refl _⟩, ⟨by (with_reducible repeat (first | refine blk_drewN ?_ _ | refine blk_drew ?_ | refine blk_alloc ?_ _)); refine blk_put (cs := #[.string ((rd_T24 l0 x8_1).f0), .slice A105_1 ((rd_T24 l0 x8_1).f1).length c105_1, .slice A105_2 ((rd_T24 l0 x8_1).f2).length c105_2, .string (⟨#[]⟩ : ByteArray)]) ?_ 3 _ rfl; (with_reducible repeat (first | refine blk_drewN ?_ _ | refine blk_drew ?_ | refine blk_alloc ?_ _)); refine blk_put (cs := #[.string ((rd_T24 l0 x8_1).f0), .slice A105_1 ((rd_T24 l0 x8_1).f1).length c105_1, .slice none 0 0, .string (⟨#[]⟩ : ByteArray)]) ?_ 2 _ rfl; (with_reducible repeat (first | refine blk_drewN ?_ _ | refine blk_drew ?_ | refine blk_alloc ?_ _)); refine blk_put (cs := #[.string ((rd_T24 l0 x8_1).f0), .slice none 0 0, .slice none 0 0, .string (⟨#[]⟩ : ByteArray)]) ?_ 1 _ rfl; (with_reducible repeat (first | refine blk_drewN ?_ _ | refine blk_drew ?_ | refine blk_alloc ?_ _)); refine blk_put (cs := #[.string (⟨#[]⟩ : ByteArray), .slice none 0 0, .slice none 0 0, .string (⟨#[]⟩ : ByteArray)]) ?_ 0 _ rfl; (with_reducible repeat (first | refine blk_drewN ?_ _ | refine blk_drew ?_ | refine blk_alloc ?_ _)); exact BK106.out⟩, ⟨by repeat (first | (with_reducible first | exact HB.out | apply below_alloc | apply pw_below_drewN | apply below_drew1 | refine below_set ?_ GE106.out) | exact HB.out)⟩⟩
            case rest =>
              clear HC5
              try clear c1
              try clear p1
              try clear q1
              try clear hx1
              try clear c2
              try clear c2b0
              try clear p2
              try clear c3
              try clear c3b0
              try clear c4
              try clear c4b0
              try clear c5
              try clear c9
              try clear c10
              try clear p10
              try clear q10
              try clear hx10
              try clear c11
              try clear c12
              try clear c12b0
              try clear c12b1
              try clear c12b2
              try clear c13
              try clear c13b0
              try clear c13b1
              try clear hcz14_0
              try clear hcz14_1
              try clear hcz14_2
              try clear hcz14_3
              try clear hcz15_0
              try clear hcz15_1
              try clear hcz15_2
              try clear hcz15_3
              try clear hcz16_0
              try clear hcz16_1
              try clear hcz16_2
              try clear hcz16_3
              try clear hcz17_0
              try clear hcz17_1
              try clear hcz17_2
              try clear hcz17_3
              try clear hcz18_0
              try clear hcz18_1
              try clear hcz18_2
              try clear hcz18_3
              try clear hcz7_0
              try clear hcz7_1
              try clear hcz7_2
              try clear hcz7_3
              try clear hfz14_0
              try clear hfz14_1
              try clear hfz14_2
              try clear hfz14_3
              try clear hfz15_0
              try clear hfz15_1
              try clear hfz15_2
              try clear hfz15_3
              try clear hfz16_0
              try clear hfz16_1
              try clear hfz16_2
              try clear hfz16_3
              try clear hfz17_0
              try clear hfz17_1
              try clear hfz17_2
              try clear hfz17_3
              try clear hfz18_0
              try clear hfz18_1
              try clear hfz18_2
              try clear hfz18_3
              try clear hfz7_0
              try clear hfz7_1
              try clear hfz7_2
              try clear hfz7_3
              try clear hx105_0
              try clear hx105_1
              try clear hx105_2
              try clear hx105_3
              try clear p105
              try clear q105
              obtain ⟨kq, x42_4, rfl, HA, HJ4, BK106, HB⟩ := hcut
              cases kq with
              | zero => exact absurd HA.out (by simp [laws_plainRecords.j1])
              | succ kj4 =>
                have H := HA.out
                clear HA
                simp only [laws_plainRecords.j1] at H
                by_cases c19 : x42_4 = true
                · subst c19
                  have H1 : (some false) = some r := by rw [if_pos rfl] at H; exact H
                  clear H
                  have H := H1
                  clear H1
                  obtain rfl := Option.some.inj H
                  go_wp2
                  go_ret
                  exact ⟨by first | rfl | (simp [errW_none, errW_some] <;> rfl) | (simp [*, errW_none, errW_some] <;> rfl), by repeat (first | (with_reducible first | exact HB.out | apply below_alloc | apply pw_below_drewN | apply below_drew1 | refine below_set ?_ GE106.out) | exact HB.out)⟩
                · replace c19 := Bool.eq_false_iff.mpr c19
                  subst c19
                  have H1 : (laws_plainRecords.l1 kj4 l0 l0 (l0.length : Int) x8_1 (((rd_T24 l0 x8_1).f1).length : Int) 0 ((rd_T24 l0 x8_1).f0) ((rd_T24 l0 x8_1).f1) ((rd_T24 l0 x8_1).f2) ((rd_T24 l0 x8_1).f3)) = some r := by rw [if_neg (show ¬ (false = true) by decide)] at H; exact H
                  clear H
                  have H := H1
                  clear H1
                  have H' := Aside0.mk H
                  clear H
                  have hcz20_0 : wc.cell? ⟨gb106, 0, none⟩ = some (.string ((rd_T24 l0 x8_1).f0)) := (blk_cell BK106.out 0).trans rfl
                  have hcz20_1 : wc.cell? ⟨gb106, 1, none⟩ = some (.slice A105_1 ((rd_T24 l0 x8_1).f1).length c105_1) := (blk_cell BK106.out 1).trans rfl
                  have hcz20_2 : wc.cell? ⟨gb106, 2, none⟩ = some (.slice A105_2 ((rd_T24 l0 x8_1).f2).length c105_2) := (blk_cell BK106.out 2).trans rfl
                  have hcz20_3 : wc.cell? ⟨gb106, 3, none⟩ = some (.string ((rd_T24 l0 x8_1).f3)) := (blk_cell BK106.out 3).trans rfl
                  have hfz20_0 := blk_frozen BK106.out 0
                  have hfz20_1 := blk_frozen BK106.out 1
                  have hfz20_2 := blk_frozen BK106.out 2
                  have hfz20_3 := blk_frozen BK106.out 3
                  go_wp2
                  go_loopg [46] kj4 (fun kq v46 w' => ∃ (x46_3 : Int), v46 = .int .i64 x46_3 ∧ Aside0 (laws_plainRecords.l1 kq l0 l0 (l0.length : Int) x8_1 (((rd_T24 l0 x8_1).f1).length : Int) x46_3 ((rd_T24 l0 x8_1).f0) ((rd_T24 l0 x8_1).f1) ((rd_T24 l0 x8_1).f2) ((rd_T24 l0 x8_1).f3) = some r) ∧ Aside0 (kq ≤ kj4) ∧ Aside0 (w'.heap[gb106]? = some (.cells #[.string ((rd_T24 l0 x8_1).f0), (.slice A105_1 ((rd_T24 l0 x8_1).f1).length c105_1), (.slice A105_2 ((rd_T24 l0 x8_1).f2).length c105_2), .string ((rd_T24 l0 x8_1).f3)] 24 (0, 0))) ∧ Aside0 (Below w.heap.size w w'))
                  case atStart => exact ⟨(0), (by first | rfl | (simp; done) | (simp [*]; done)), H', ⟨Nat.le_refl _⟩, ⟨by (with_reducible repeat (first | refine blk_drewN ?_ _ | refine blk_drew ?_ | refine blk_alloc ?_ _)); exact BK106.out⟩, ⟨by repeat (first | (with_reducible first | exact HB.out | apply below_alloc | apply pw_below_drewN | apply below_drew1 | refine below_set ?_ GE106.out) | exact HB.out)⟩⟩
                  case round =>
                    clear H'
                    try clear c1
                    try clear p1
                    try clear q1
                    try clear hx1
                    try clear c2
                    try clear c2b0
                    try clear p2
                    try clear c3
                    try clear c3b0
                    try clear c4
                    try clear c4b0
                    try clear c5
                    try clear c9
                    try clear c10
                    try clear p10
                    try clear q10
                    try clear hx10
                    try clear c11
                    try clear c12
                    try clear c12b0
                    try clear c12b1
                    try clear c12b2
                    try clear c13
                    try clear c13b0
                    try clear c13b1
                    try clear c19
                    try clear hcz14_0
                    try clear hcz14_1
                    try clear hcz14_2
                    try clear hcz14_3
                    try clear hcz15_0
                    try clear hcz15_1
                    try clear hcz15_2
                    try clear hcz15_3
                    try clear hcz16_0
                    try clear hcz16_1
                    try clear hcz16_2
                    try clear hcz16_3
                    try clear hcz17_0
                    try clear hcz17_1
                    try clear hcz17_2
                    try clear hcz17_3
                    try clear hcz18_0
                    try clear hcz18_1
                    try clear hcz18_2
                    try clear hcz18_3
                    try clear hcz20_0
                    try clear hcz20_1
                    try clear hcz20_2
                    try clear hcz20_3
                    try clear hcz7_0
                    try clear hcz7_1
                    try clear hcz7_2
                    try clear hcz7_3
                    try clear hfz14_0
                    try clear hfz14_1
                    try clear hfz14_2
                    try clear hfz14_3
                    try clear hfz15_0
                    try clear hfz15_1
                    try clear hfz15_2
                    try clear hfz15_3
                    try clear hfz16_0
                    try clear hfz16_1
                    try clear hfz16_2
                    try clear hfz16_3
                    try clear hfz17_0
                    try clear hfz17_1
                    try clear hfz17_2
                    try clear hfz17_3
                    try clear hfz18_0
                    try clear hfz18_1
                    try clear hfz18_2
                    try clear hfz18_3
                    try clear hfz20_0
                    try clear hfz20_1
                    try clear hfz20_2
                    try clear hfz20_3
                    try clear hfz7_0
                    try clear hfz7_1
                    try clear hfz7_2
                    try clear hfz7_3
                    try clear hx105_0
                    try clear hx105_1
                    try clear hx105_2
                    try clear hx105_3
                    try clear p1
                    try clear p10
                    try clear p105
                    try clear p2
                    try clear q1
                    try clear q10
                    try clear q105
                    obtain ⟨x46_3, rfl, HA, HK3, BK106, HB⟩ := hrel
                    cases gk with
                    | zero => exact absurd HA.out (by simp [laws_plainRecords.l1])
                    | succ k3 =>
                      have H := HA.out
                      clear HA
                      simp only [laws_plainRecords.l1] at H
                      by_cases c21 : x46_3 < (((rd_T24 l0 x8_1).f1).length : Int)
                      · rw [if_pos c21] at H
                        have c21b0 : decide (x46_3 < (((rd_T24 l0 x8_1).f1).length : Int)) = true := decide_eq_true c21
                        clear c21
                        by_cases c22 : 0 ≤ x46_3
                        · rw [if_pos c22] at H
                          have c22b0 : decide (0 ≤ x46_3) = true := decide_eq_true c22
                          clear c22
                          by_cases c23 : x46_3 < (((rd_T24 l0 x8_1).f1).length : Int)
                          · rw [if_pos c23] at H
                            have c23b0 : decide (x46_3 < (((rd_T24 l0 x8_1).f1).length : Int)) = true := decide_eq_true c23
                            clear c23
                            replace H := Option.bind_eq_some_iff.mp H
                            obtain ⟨t110, A240, H⟩ := H
                            replace H : (if t110 = true then (if x46_3 < (((rd_T24 l0 x8_1).f2).length : Int) then ((laws_plainWord.f k3 (rdOf ByteArray.empty ((rd_T24 l0 x8_1).f2) x46_3)).bind fun t112 => (if t112 = true then (laws_plainRecords.l1 k3 l0 l0 (l0.length : Int) x8_1 (((rd_T24 l0 x8_1).f1).length : Int) (wrap64 (x46_3 + 1)) ((rd_T24 l0 x8_1).f0) ((rd_T24 l0 x8_1).f1) ((rd_T24 l0 x8_1).f2) ((rd_T24 l0 x8_1).f3)) else (some false))) else (none)) else (some false)) = some r := H
                            have A24 := Aside0.mk A240
                            clear A240
                            by_cases c25 : t110 = true
                            · subst c25
                              have H1 : (if x46_3 < (((rd_T24 l0 x8_1).f2).length : Int) then ((laws_plainWord.f k3 (rdOf ByteArray.empty ((rd_T24 l0 x8_1).f2) x46_3)).bind fun t112 => (if t112 = true then (laws_plainRecords.l1 k3 l0 l0 (l0.length : Int) x8_1 (((rd_T24 l0 x8_1).f1).length : Int) (wrap64 (x46_3 + 1)) ((rd_T24 l0 x8_1).f0) ((rd_T24 l0 x8_1).f1) ((rd_T24 l0 x8_1).f2) ((rd_T24 l0 x8_1).f3)) else (some false))) else (none)) = some r := by rw [if_pos rfl] at H; exact H
                              clear H
                              have H := H1
                              clear H1
                              by_cases c26 : x46_3 < (((rd_T24 l0 x8_1).f2).length : Int)
                              · rw [if_pos c26] at H
                                have c26b0 : decide (x46_3 < (((rd_T24 l0 x8_1).f2).length : Int)) = true := decide_eq_true c26
                                clear c26
                                replace H := Option.bind_eq_some_iff.mp H
                                obtain ⟨t112, A270, H⟩ := H
                                replace H : (if t112 = true then (laws_plainRecords.l1 k3 l0 l0 (l0.length : Int) x8_1 (((rd_T24 l0 x8_1).f1).length : Int) (wrap64 (x46_3 + 1)) ((rd_T24 l0 x8_1).f0) ((rd_T24 l0 x8_1).f1) ((rd_T24 l0 x8_1).f2) ((rd_T24 l0 x8_1).f3)) else (some false)) = some r := H
                                have A27 := Aside0.mk A270
                                clear A270
                                by_cases c28 : t112 = true
                                · subst c28
                                  have H1 : (laws_plainRecords.l1 k3 l0 l0 (l0.length : Int) x8_1 (((rd_T24 l0 x8_1).f1).length : Int) (wrap64 (x46_3 + 1)) ((rd_T24 l0 x8_1).f0) ((rd_T24 l0 x8_1).f1) ((rd_T24 l0 x8_1).f2) ((rd_T24 l0 x8_1).f3)) = some r := by rw [if_pos rfl] at H; exact H
                                  clear H
                                  have H := H1
                                  clear H1
                                  have H' := Aside0.mk H
                                  clear H
                                  have hcz29_0 : wr.cell? ⟨gb106, 0, none⟩ = some (.string ((rd_T24 l0 x8_1).f0)) := (blk_cell BK106.out 0).trans rfl
                                  have hcz29_1 : wr.cell? ⟨gb106, 1, none⟩ = some (.slice A105_1 ((rd_T24 l0 x8_1).f1).length c105_1) := (blk_cell BK106.out 1).trans rfl
                                  have hcz29_2 : wr.cell? ⟨gb106, 2, none⟩ = some (.slice A105_2 ((rd_T24 l0 x8_1).f2).length c105_2) := (blk_cell BK106.out 2).trans rfl
                                  have hcz29_3 : wr.cell? ⟨gb106, 3, none⟩ = some (.string ((rd_T24 l0 x8_1).f3)) := (blk_cell BK106.out 3).trans rfl
                                  have hfz29_0 := blk_frozen BK106.out 0
                                  have hfz29_1 := blk_frozen BK106.out 1
                                  have hfz29_2 := blk_frozen BK106.out 2
                                  have hfz29_3 := blk_frozen BK106.out 3
                                  have p109 : 0 ≤ (x46_3 : Int) := of_decide_eq_true (by first | (with_reducible assumption) | assumption)
                                  have q109 : x46_3 < (((rd_T24 l0 x8_1).f1).length : Int) := of_decide_eq_true (by first | (with_reducible assumption) | assumption)
                                  obtain ⟨ad109, e109, hx109_0⟩ := Kd.at_string HR105_1.out x46_3 p109 q109
                                  cases e109
                                  replace hx109_0 := (HB.out.cell (World.block_lt_of_cell? w _ hx109_0)).trans hx109_0
                                  replace p109 := eq_true p109
                                  replace q109 := eq_true q109
                                  go_wp2_with (first | ((with_reducible refine gate_callee (f := 11) rfl ?_); refine goesL_ (some 54) rfl rfl Try.func11 (by kernel_rfl) rfl #[.string (rdOf ByteArray.empty ((rd_T24 l0 x8_1).f1) x46_3)] rfl (by (try simp only [List.map_toArray, List.map_cons, List.map_nil]); first | done | rfl | (simp only [List.length_drop, List.length_take]; rfl)) ?_; (with_reducible refine (laws_plainWord.calls k3 (rdOf ByteArray.empty ((rd_T24 l0 x8_1).f1) x46_3) true _ A24.out).mono ?_); rintro e w' ⟨rfl, ⟨nd, rfl⟩⟩; refine ⟨_, rfl, ?_⟩; have p111 : 0 ≤ (x46_3 : Int) := of_decide_eq_true (by first | (with_reducible assumption) | assumption); have q111 : x46_3 < (((rd_T24 l0 x8_1).f2).length : Int) := of_decide_eq_true (by first | (with_reducible assumption) | assumption); obtain ⟨ad111, e111, hx111_0⟩ := Kd.at_string HR105_2.out x46_3 p111 q111; cases e111; replace hx111_0 := (HB.out.cell (World.block_lt_of_cell? w _ hx111_0)).trans hx111_0; replace p111 := eq_true p111; replace q111 := eq_true q111) | (go_at_call 11; (with_reducible refine (laws_plainWord.calls k3 (rdOf ByteArray.empty ((rd_T24 l0 x8_1).f2) x46_3) true _ A27.out).mono ?_); rintro e w' ⟨rfl, ⟨nd, rfl⟩⟩))
                                  go_roundg k3
                                  case measure => have := HK1.out; have := HJ4.out; have := HK3.out; omega
                                  case rel => exact ⟨(wrap64 (x46_3 + 1)), (by first | rfl | (simp; done) | (simp [*]; done)), H', ⟨by have := HK1.out; have := HJ4.out; have := HK3.out; omega⟩, ⟨by (with_reducible repeat (first | refine blk_drewN ?_ _ | refine blk_drew ?_ | refine blk_alloc ?_ _)); exact BK106.out⟩, ⟨by repeat (first | (with_reducible first | exact HB.out | apply below_alloc | apply pw_below_drewN | apply below_drew1 | refine below_set ?_ GE106.out) | exact HB.out)⟩⟩
                                · replace c28 := Bool.eq_false_iff.mpr c28
                                  subst c28
                                  have H1 : (some false) = some r := by rw [if_neg (show ¬ (false = true) by decide)] at H; exact H
                                  clear H
                                  have H := H1
                                  clear H1
                                  obtain rfl := Option.some.inj H
                                  have hcz30_0 : wr.cell? ⟨gb106, 0, none⟩ = some (.string ((rd_T24 l0 x8_1).f0)) := (blk_cell BK106.out 0).trans rfl
                                  have hcz30_1 : wr.cell? ⟨gb106, 1, none⟩ = some (.slice A105_1 ((rd_T24 l0 x8_1).f1).length c105_1) := (blk_cell BK106.out 1).trans rfl
                                  have hcz30_2 : wr.cell? ⟨gb106, 2, none⟩ = some (.slice A105_2 ((rd_T24 l0 x8_1).f2).length c105_2) := (blk_cell BK106.out 2).trans rfl
                                  have hcz30_3 : wr.cell? ⟨gb106, 3, none⟩ = some (.string ((rd_T24 l0 x8_1).f3)) := (blk_cell BK106.out 3).trans rfl
                                  have hfz30_0 := blk_frozen BK106.out 0
                                  have hfz30_1 := blk_frozen BK106.out 1
                                  have hfz30_2 := blk_frozen BK106.out 2
                                  have hfz30_3 := blk_frozen BK106.out 3
                                  have p109 : 0 ≤ (x46_3 : Int) := of_decide_eq_true (by first | (with_reducible assumption) | assumption)
                                  have q109 : x46_3 < (((rd_T24 l0 x8_1).f1).length : Int) := of_decide_eq_true (by first | (with_reducible assumption) | assumption)
                                  obtain ⟨ad109, e109, hx109_0⟩ := Kd.at_string HR105_1.out x46_3 p109 q109
                                  cases e109
                                  replace hx109_0 := (HB.out.cell (World.block_lt_of_cell? w _ hx109_0)).trans hx109_0
                                  replace p109 := eq_true p109
                                  replace q109 := eq_true q109
                                  go_wp2_with (first | ((with_reducible refine gate_callee (f := 11) rfl ?_); refine goesL_ (some 54) rfl rfl Try.func11 (by kernel_rfl) rfl #[.string (rdOf ByteArray.empty ((rd_T24 l0 x8_1).f1) x46_3)] rfl (by (try simp only [List.map_toArray, List.map_cons, List.map_nil]); first | done | rfl | (simp only [List.length_drop, List.length_take]; rfl)) ?_; (with_reducible refine (laws_plainWord.calls k3 (rdOf ByteArray.empty ((rd_T24 l0 x8_1).f1) x46_3) true _ A24.out).mono ?_); rintro e w' ⟨rfl, ⟨nd, rfl⟩⟩; refine ⟨_, rfl, ?_⟩; have p111 : 0 ≤ (x46_3 : Int) := of_decide_eq_true (by first | (with_reducible assumption) | assumption); have q111 : x46_3 < (((rd_T24 l0 x8_1).f2).length : Int) := of_decide_eq_true (by first | (with_reducible assumption) | assumption); obtain ⟨ad111, e111, hx111_0⟩ := Kd.at_string HR105_2.out x46_3 p111 q111; cases e111; replace hx111_0 := (HB.out.cell (World.block_lt_of_cell? w _ hx111_0)).trans hx111_0; replace p111 := eq_true p111; replace q111 := eq_true q111) | (go_at_call 11; (with_reducible refine (laws_plainWord.calls k3 (rdOf ByteArray.empty ((rd_T24 l0 x8_1).f2) x46_3) false _ A27.out).mono ?_); rintro e w' ⟨rfl, ⟨nd, rfl⟩⟩))
                                  go_ret
                                  exact ⟨by first | rfl | (simp [errW_none, errW_some] <;> rfl) | (simp [*, errW_none, errW_some] <;> rfl), by repeat (first | (with_reducible first | exact HB.out | apply below_alloc | apply pw_below_drewN | apply below_drew1 | refine below_set ?_ GE106.out) | exact HB.out)⟩
                              · rw [if_neg c26] at H
                                exact absurd H (by simp)
                            · replace c25 := Bool.eq_false_iff.mpr c25
                              subst c25
                              have H1 : (some false) = some r := by rw [if_neg (show ¬ (false = true) by decide)] at H; exact H
                              clear H
                              have H := H1
                              clear H1
                              obtain rfl := Option.some.inj H
                              have hcz31_0 : wr.cell? ⟨gb106, 0, none⟩ = some (.string ((rd_T24 l0 x8_1).f0)) := (blk_cell BK106.out 0).trans rfl
                              have hcz31_1 : wr.cell? ⟨gb106, 1, none⟩ = some (.slice A105_1 ((rd_T24 l0 x8_1).f1).length c105_1) := (blk_cell BK106.out 1).trans rfl
                              have hcz31_2 : wr.cell? ⟨gb106, 2, none⟩ = some (.slice A105_2 ((rd_T24 l0 x8_1).f2).length c105_2) := (blk_cell BK106.out 2).trans rfl
                              have hcz31_3 : wr.cell? ⟨gb106, 3, none⟩ = some (.string ((rd_T24 l0 x8_1).f3)) := (blk_cell BK106.out 3).trans rfl
                              have hfz31_0 := blk_frozen BK106.out 0
                              have hfz31_1 := blk_frozen BK106.out 1
                              have hfz31_2 := blk_frozen BK106.out 2
                              have hfz31_3 := blk_frozen BK106.out 3
                              have p109 : 0 ≤ (x46_3 : Int) := of_decide_eq_true (by first | (with_reducible assumption) | assumption)
                              have q109 : x46_3 < (((rd_T24 l0 x8_1).f1).length : Int) := of_decide_eq_true (by first | (with_reducible assumption) | assumption)
                              obtain ⟨ad109, e109, hx109_0⟩ := Kd.at_string HR105_1.out x46_3 p109 q109
                              cases e109
                              replace hx109_0 := (HB.out.cell (World.block_lt_of_cell? w _ hx109_0)).trans hx109_0
                              replace p109 := eq_true p109
                              replace q109 := eq_true q109
                              go_wp2_with (first | ((with_reducible refine gate_callee (f := 11) rfl ?_); refine goesL_ (some 54) rfl rfl Try.func11 (by kernel_rfl) rfl #[.string (rdOf ByteArray.empty ((rd_T24 l0 x8_1).f1) x46_3)] rfl (by (try simp only [List.map_toArray, List.map_cons, List.map_nil]); first | done | rfl | (simp only [List.length_drop, List.length_take]; rfl)) ?_; (with_reducible refine (laws_plainWord.calls k3 (rdOf ByteArray.empty ((rd_T24 l0 x8_1).f1) x46_3) false _ A24.out).mono ?_); rintro e w' ⟨rfl, ⟨nd, rfl⟩⟩; refine ⟨_, rfl, ?_⟩))
                              go_ret
                              exact ⟨by first | rfl | (simp [errW_none, errW_some] <;> rfl) | (simp [*, errW_none, errW_some] <;> rfl), by repeat (first | (with_reducible first | exact HB.out | apply below_alloc | apply pw_below_drewN | apply below_drew1 | refine below_set ?_ GE106.out) | exact HB.out)⟩
                          · rw [if_neg c23] at H
                            exact absurd H (by simp)
                        · rw [if_neg c22] at H
                          exact absurd H (by simp)
                      · rw [if_neg c21] at H
                        have c21b0 : decide (x46_3 < (((rd_T24 l0 x8_1).f1).length : Int)) = false := decide_eq_false c21
                        clear c21
                        have H' := Aside0.mk H
                        clear H
                        go_wp2
                        go_roundg k3
                        case measure => have := HK1.out; have := HJ4.out; have := HK3.out; omega
                        case rel => exact ⟨(wrap64 (x8_1 + 1)), (by first | rfl | (simp; done) | (simp [*]; done)), H', ⟨by have := HK1.out; have := HJ4.out; have := HK3.out; omega⟩, ⟨by repeat (first | (with_reducible first | exact HB.out | apply below_alloc | apply pw_below_drewN | apply below_drew1 | refine below_set ?_ GE106.out) | exact HB.out)⟩⟩
          · rw [if_neg c4] at H
            exact absurd H (by simp)
        · rw [if_neg c3] at H
          exact absurd H (by simp)
      · rw [if_neg c2] at H
        have c2b0 : decide (x8_1 < (l0.length : Int)) = false := decide_eq_false c2
        clear c2
        obtain rfl := Option.some.inj H
        go_wp2
        go_ret
        exact ⟨by first | rfl | (simp [errW_none, errW_some] <;> rfl) | (simp [*, errW_none, errW_some] <;> rfl), by repeat (first | (with_reducible first | exact HB.out | apply below_alloc | apply pw_below_drewN | apply below_drew1) | exact HB.out)⟩

/-! ### dict_zzIndex: function 19 -/
def dict_zzIndex.l0 : Nat → ByteArray → ByteArray → Int → Option (Int)
  | 0, _, _, _ => none
  | k + 1, x0, x1, x5 => if (wrap64 (x5 + (x1.size : Int))) ≤ (x0.size : Int) then (if 0 ≤ x5 then (if x5 ≤ (wrap64 (x5 + (x1.size : Int))) then (if (x0.extract (x5 : Int).toNat ((wrap64 (x5 + (x1.size : Int))) : Int).toNat).toList = x1.toList then (some x5) else (dict_zzIndex.l0 k x0 x1 (wrap64 (x5 + 1)))) else (none)) else (none)) else (some (-1))
def dict_zzIndex.f (k : Nat) (a0 : ByteArray) (a1 : ByteArray) : Option (Int) := dict_zzIndex.l0 k a0 a1 0
theorem dict_zzIndex.mono_l : ∀ k, (∀ y0 y1 y2, LeO (dict_zzIndex.l0 k y0 y1 y2) (dict_zzIndex.l0 (k + 1) y0 y1 y2))
  | 0 => fun _ _ _ r h => by simp [dict_zzIndex.l0] at h
  | k + 1 => by
    have ih0 := dict_zzIndex.mono_l k
    · intro y0 y1 y2
      unfold dict_zzIndex.l0
      repeat' first
      | (with_reducible exact ih0 _ _ _)
      | (with_reducible exact LeO.refl _)
      | (with_reducible exact LeO.none _)
      | (with_reducible refine LeO.ite ?_ ?_)
      | (with_reducible refine LeO.bind ?_ (fun _ => ?_))
      | exact ih0 _ _ _
      | exact LeO.none _
      | refine LeO.ite ?_ ?_
      | refine LeO.bind ?_ (fun _ => ?_)
theorem dict_zzIndex.mono : ∀ a0 a1 k, LeO (dict_zzIndex.f k a0 a1) (dict_zzIndex.f (k + 1) a0 a1) := by
  intro a0 a1 k
  have ih0 := dict_zzIndex.mono_l k
  unfold dict_zzIndex.f
  repeat' first
      | (with_reducible exact ih0 _ _ _)
      | (with_reducible exact LeO.refl _)
      | (with_reducible exact LeO.none _)
      | (with_reducible refine LeO.ite ?_ ?_)
      | (with_reducible refine LeO.bind ?_ (fun _ => ?_))
      | exact ih0 _ _ _
      | exact LeO.none _
      | refine LeO.ite ?_ ?_
      | refine LeO.bind ?_ (fun _ => ?_)
set_option maxHeartbeats 8000000 in
set_option maxRecDepth 100000 in
theorem dict_zzIndex.calls (k : Nat) (a0 : ByteArray) (a1 : ByteArray) (r : Int) (w : World) (h : dict_zzIndex.f k a0 a1 = some r) :
    Calls Try.prog 19 #[.string a0, .string a1] w fun e w' => e = .returned (.int .i64 r) ∧ Drawn0 w w' := by
  have H : (dict_zzIndex.l0 k a0 a1 0) = some r := h
  clear h
  have H' := Aside0.mk H
  clear H
  go_enter Try.func19, Try.ntmps19
  go_wp2
  go_loopg [5] k (fun kq v5 w' => ∃ (x5_1 : Int), v5 = .int .i64 x5_1 ∧ Aside0 (dict_zzIndex.l0 kq a0 a1 x5_1 = some r) ∧ Aside0 (kq ≤ k) ∧ Drawn0 w w')
  case atStart => exact ⟨(0), (by first | rfl | (simp; done) | (simp [*]; done)), H', ⟨Nat.le_refl _⟩, by repeat (first | exact Drawn0.refl _ | apply Drawn0.step)⟩
  case round =>
    clear H'
    try clear c1
    try clear p2
    obtain ⟨x5_1, rfl, HA, HK1, ⟨m1, rfl⟩⟩ := hrel
    cases gk with
    | zero => exact absurd HA.out (by simp [dict_zzIndex.l0])
    | succ k1 =>
      have H := HA.out
      clear HA
      simp only [dict_zzIndex.l0] at H
      by_cases c3 : (wrap64 (x5_1 + (a1.size : Int))) ≤ (a0.size : Int)
      · rw [if_pos c3] at H
        have c3b0 : decide ((wrap64 (x5_1 + (a1.size : Int))) ≤ (a0.size : Int)) = true := decide_eq_true c3
        clear c3
        by_cases c4 : 0 ≤ x5_1
        · rw [if_pos c4] at H
          have c4b0 := eq_true c4
          have c4b1 : decide (0 ≤ x5_1) = true := decide_eq_true c4
          clear c4
          by_cases c5 : x5_1 ≤ (wrap64 (x5_1 + (a1.size : Int)))
          · rw [if_pos c5] at H
            have c5b0 := eq_true c5
            have c5b1 : decide (x5_1 ≤ (wrap64 (x5_1 + (a1.size : Int)))) = true := decide_eq_true c5
            have c6b0 := eq_true (of_decide_eq_true (by first | (with_reducible assumption) | assumption) : (wrap64 (x5_1 + (a1.size : Int))) ≤ (a0.size : Int))
            by_cases c7 : (a0.extract (x5_1 : Int).toNat ((wrap64 (x5_1 + (a1.size : Int))) : Int).toNat).toList = a1.toList
            · rw [if_pos c7] at H
              have c7b0 : ((a0.extract (x5_1 : Int).toNat ((wrap64 (x5_1 + (a1.size : Int))) : Int).toNat).toList == a1.toList) = true := beq_iff_eq.mpr c7
              have c7b1 : ((a0.extract (x5_1 : Int).toNat ((wrap64 (x5_1 + (a1.size : Int))) : Int).toNat).toList != a1.toList) = false := bne_eq_false_iff_eq.mpr c7
              clear c7
              obtain rfl := Option.some.inj H
              go_wp2
              go_ret
              exact ⟨by first | rfl | (simp; done) | (simp [*]; done) | (simp [Own.isEmpty_bne]; done), by repeat (first | exact Drawn0.refl _ | apply Drawn0.step)⟩
            · rw [if_neg c7] at H
              have c7b0 : ((a0.extract (x5_1 : Int).toNat ((wrap64 (x5_1 + (a1.size : Int))) : Int).toNat).toList == a1.toList) = false := beq_eq_false_iff_ne.mpr c7
              have c7b1 : ((a0.extract (x5_1 : Int).toNat ((wrap64 (x5_1 + (a1.size : Int))) : Int).toNat).toList != a1.toList) = true := bne_iff_ne.mpr c7
              have H' := Aside0.mk H
              clear H
              go_wp2
              go_roundg k1
              case measure => have := HK1.out; omega
              case rel => exact ⟨(wrap64 (x5_1 + 1)), (by first | rfl | (simp; done) | (simp [*]; done)), H', ⟨by have := HK1.out; omega⟩, by repeat (first | exact Drawn0.refl _ | apply Drawn0.step)⟩
          · rw [if_neg c5] at H
            exact absurd H (by simp)
        · rw [if_neg c4] at H
          exact absurd H (by simp)
      · rw [if_neg c3] at H
        have c3b0 : decide ((wrap64 (x5_1 + (a1.size : Int))) ≤ (a0.size : Int)) = false := decide_eq_false c3
        clear c3
        obtain rfl := Option.some.inj H
        go_wp2
        go_ret
        exact ⟨by first | rfl | (simp; done) | (simp [*]; done) | (simp [Own.isEmpty_bne]; done), by repeat (first | exact Drawn0.refl _ | apply Drawn0.step)⟩

end Go.Proofs.Ytckdpckdabfkbab.PA
