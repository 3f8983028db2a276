-- Written by a program of ours out of the kit's print program.
import Derived.Test.YtckdpckdabfkbabPAx0
import Derived.Test.YtckdpckdabfkbabPAx3
namespace Go.Proofs.Ytckdpckdabfkbab.PA
open Go.RowKit Go.Proofs.YtckdpckdabfkbabW.PrintWords Go.Proofs.YtckdpckdabfkbabW.PrintLast Go.Proofs.YtckdpckdabfkbabW.PrintMore
attribute [local go_sem] max2_int min2_int max_two min_two max_three min_three max_four min_four   -- for this text's walks alone
set_option linter.unusedVariables false
set_option linter.unusedSimpArgs false

/-! ### dict_NewUserDicRecords: function 13 -/
mutual
def dict_NewUserDicRecords.l0 : Nat → List ByteArray → List ByteArray → Int → Int → Option ((List (S44)) × Bool)
  | 0, _, _, _, _ => none
  | k + 1, x4, x15, x16, x17 => if x17 < x16 then (if 0 ≤ x17 then (if x17 < (x15.length : Int) then (if (rdOf ByteArray.empty x15 x17).toList = ([] : List UInt8) then (dict_NewUserDicRecords.l0 k x4 x15 x16 (wrap64 (x17 + 1))) else ((dict_zzHasPrefix.f (rdOf ByteArray.empty x15 x17) (⟨#[35]⟩ : ByteArray)).bind fun t141 => (if t141 = true then (dict_NewUserDicRecords.l0 k x4 x15 x16 (wrap64 (x17 + 1))) else (if x4.length < 8796093022208 then (dict_NewUserDicRecords.l0 k (x4 ++ [rdOf ByteArray.empty x15 x17]) x15 x16 (wrap64 (x17 + 1))) else (none))))) else (none)) else (none)) else (if 0 ≤ (x4.length : Int) then (if ((x4.length : Int) : Int).toNat ≤ 3518437208883 then (dict_NewUserDicRecords.l1 k (([] : List (S44))) x4 (x4.length : Int) 0) else (none)) else (none))
def dict_NewUserDicRecords.l1 : Nat → List (S44) → List ByteArray → Int → Int → Option ((List (S44)) × Bool)
  | 0, _, _, _, _ => none
  | k + 1, x7, x35, x36, x37 => if x37 < x36 then (if 0 ≤ x37 then (if x37 < (x35.length : Int) then ((dict_zzSplit.f k (rdOf ByteArray.empty x35 x37) (⟨#[44]⟩ : ByteArray)).bind fun t149 => (if (t149.length : Int) = 4 then (if 1 < (t149.length : Int) then ((dict_zzSplit.f k (rdOf ByteArray.empty t149 1) (⟨#[32]⟩ : ByteArray)).bind fun t153 => (if 2 < (t149.length : Int) then ((dict_zzSplit.f k (rdOf ByteArray.empty t149 2) (⟨#[32]⟩ : ByteArray)).bind fun t157 => (if (t153.length : Int) = 0 then (some (([] : List (S44)), true)) else (if (t153.length : Int) = (t157.length : Int) then (if 0 < (t149.length : Int) then (if 3 < (t149.length : Int) then (if x7.length < 1759218604441 then (dict_NewUserDicRecords.l1 k (x7 ++ [(⟨rdOf ByteArray.empty t149 0, t153, t157, rdOf ByteArray.empty t149 3⟩ : S44)]) x35 x36 (wrap64 (x37 + 1))) else (none)) else (none)) else (none)) else (some (([] : List (S44)), true))))) else (none))) else (none)) else (some (([] : List (S44)), true)))) else (none)) else (none)) else (some (x7, false))
end
def dict_NewUserDicRecords.f (k : Nat) (a0 : ByteArray) : Option ((List (S44)) × Bool) := (dict_zzLines.f k a0).bind fun t137 => (dict_NewUserDicRecords.l0 k ([] : List ByteArray) t137 (t137.length : Int) 0)
theorem dict_NewUserDicRecords.mono_l : ∀ k, (∀ y0 y1 y2 y3, LeO (dict_NewUserDicRecords.l0 k y0 y1 y2 y3) (dict_NewUserDicRecords.l0 (k + 1) y0 y1 y2 y3)) ∧ (∀ y0 y1 y2 y3, LeO (dict_NewUserDicRecords.l1 k y0 y1 y2 y3) (dict_NewUserDicRecords.l1 (k + 1) y0 y1 y2 y3))
  | 0 => ⟨fun _ _ _ _ r h => by simp [dict_NewUserDicRecords.l0] at h, fun _ _ _ _ r h => by simp [dict_NewUserDicRecords.l1] at h⟩
  | k + 1 => by
    obtain ⟨ih0, ih1⟩ := dict_NewUserDicRecords.mono_l k
    refine ⟨?_, ?_⟩
    · intro y0 y1 y2 y3
      unfold dict_NewUserDicRecords.l0
      repeat' first
      | (with_reducible exact ih0 _ _ _ _)
      | (with_reducible exact ih1 _ _ _ _)
      | (with_reducible exact dict_zzLines.mono _ _)
      | (with_reducible exact dict_zzSplit.mono _ _ _)
      | (with_reducible exact LeO.refl _)
      | (with_reducible exact LeO.none _)
      | (with_reducible refine LeO.ite ?_ ?_)
      | (with_reducible refine LeO.bind ?_ (fun _ => ?_))
      | exact ih0 _ _ _ _
      | exact ih1 _ _ _ _
      | exact dict_zzLines.mono _ _
      | exact dict_zzSplit.mono _ _ _
      | exact LeO.none _
      | refine LeO.ite ?_ ?_
      | refine LeO.bind ?_ (fun _ => ?_)
    · intro y0 y1 y2 y3
      unfold dict_NewUserDicRecords.l1
      repeat' first
      | (with_reducible exact ih0 _ _ _ _)
      | (with_reducible exact ih1 _ _ _ _)
      | (with_reducible exact dict_zzLines.mono _ _)
      | (with_reducible exact dict_zzSplit.mono _ _ _)
      | (with_reducible exact LeO.refl _)
      | (with_reducible exact LeO.none _)
      | (with_reducible refine LeO.ite ?_ ?_)
      | (with_reducible refine LeO.bind ?_ (fun _ => ?_))
      | exact ih0 _ _ _ _
      | exact ih1 _ _ _ _
      | exact dict_zzLines.mono _ _
      | exact dict_zzSplit.mono _ _ _
      | exact LeO.none _
      | refine LeO.ite ?_ ?_
      | refine LeO.bind ?_ (fun _ => ?_)
theorem dict_NewUserDicRecords.mono : ∀ a0 k, LeO (dict_NewUserDicRecords.f k a0) (dict_NewUserDicRecords.f (k + 1) a0) := by
  intro a0 k
  obtain ⟨ih0, ih1⟩ := dict_NewUserDicRecords.mono_l k
  unfold dict_NewUserDicRecords.f
  repeat' first
      | (with_reducible exact ih0 _ _ _ _)
      | (with_reducible exact ih1 _ _ _ _)
      | (with_reducible exact dict_zzLines.mono _ _)
      | (with_reducible exact dict_zzSplit.mono _ _ _)
      | (with_reducible exact LeO.refl _)
      | (with_reducible exact LeO.none _)
      | (with_reducible refine LeO.ite ?_ ?_)
      | (with_reducible refine LeO.bind ?_ (fun _ => ?_))
      | exact ih0 _ _ _ _
      | exact ih1 _ _ _ _
      | exact dict_zzLines.mono _ _
      | exact dict_zzSplit.mono _ _ _
      | exact LeO.none _
      | refine LeO.ite ?_ ?_
      | refine LeO.bind ?_ (fun _ => ?_)
def dict_NewUserDicRecords.T19 : Bool × List (List Nat × List Nat) := (true, [([], []), ([0], [0]), ([1], [1]), ([], []), ([], []), ([], []), ([5], [5]), ([6], [6]), ([2, 3, 4, 7], [2, 3, 4, 7]), ([], []), ([9, 8, 0, 1, 2, 3, 4, 5, 6, 7, 8, 9], [8, 9])])
def dict_NewUserDicRecords.B19 : List Nat := [0, 1, 3, 0, 0, 0, 32, 96, 255, 0, 1023]
theorem dict_NewUserDicRecords.tab19 : rtab .any (opsOf Try.f13 19) = dict_NewUserDicRecords.T19 := by kernel_rfl
theorem dict_NewUserDicRecords.bits19 : waitsOk dict_NewUserDicRecords.T19.2 dict_NewUserDicRecords.B19 = true := by kernel_rfl
set_option maxHeartbeats 8000000 in
set_option maxRecDepth 100000 in
theorem dict_NewUserDicRecords.calls (k : Nat) (a0 : ByteArray) (r1 : List (S44)) (r2 : Bool) (w : World) (h : dict_NewUserDicRecords.f k a0 = some (r1, r2)) :
    Calls Try.prog 13 #[.string a0] w fun e w' => ∃ v0_ ev_ : Value, e = .returned (.tuple #[v0_, ev_]) ∧ Own.IsErr r2 ev_ ∧ Kd.S k44 44 w' w.heap.size (fun _ => True) v0_ r1 ∧ Below w.heap.size w w' := by
  have hu44 := Try.underlying44
  have HB := Aside0.mk (Below.refl w.heap.size w)
  have H : ((dict_zzLines.f k a0).bind fun t137 => (dict_NewUserDicRecords.l0 k ([] : List ByteArray) t137 (t137.length : Int) 0)) = some (r1, r2) := h
  clear h
  replace H := Option.bind_eq_some_iff.mp H
  obtain ⟨t137, A20, H⟩ := H
  replace H : (dict_NewUserDicRecords.l0 k ([] : List ByteArray) t137 (t137.length : Int) 0) = some (r1, r2) := H
  have A2 := Aside0.mk A20
  clear A20
  have H' := Aside0.mk H
  clear H
  go_enter Try.func13, Try.ntmps13
  go_wp2_with (first | ((go_at_call 18); go_in) | ((with_reducible refine gate_callee (f := 15) rfl ?_); refine goesL_ (some 15) rfl rfl Try.func15 (by kernel_rfl) rfl #[.string a0] rfl (by (try simp only [List.map_toArray, List.map_cons, List.map_nil]); first | done | rfl | (simp only [List.length_drop, List.length_take]; rfl)) ?_; (with_reducible refine (dict_zzLines.calls k a0 t137 _ A2.out).mono ?_); rintro e w3 ⟨v138, rfl, ho0, hb⟩; refine ⟨_, rfl, ?_⟩; have n0_ := Aside0.mk (Kd.R_lower ho0 (below_size (by repeat (first | (with_reducible first | exact HB.out | apply below_alloc | apply pw_below_drewN | apply below_drew1) | exact HB.out)))); have n1_ := Aside0.mk (below_step (by repeat (first | (with_reducible first | exact HB.out | apply below_alloc | apply pw_below_drewN | apply below_drew1) | exact HB.out)) hb); clear HB; have HO139 := n0_; have HB := n1_; clear n0_ n1_; (try clear hb); (try clear hb2); (try clear hk); (try clear hi); (try clear ho0); obtain ⟨Ao4, co4, eo4⟩ := Kd.R_slice HO139.out; subst eo4))
  go_loopg [4, 17] k (fun kq v4 v17 w' => ∃ (x4_1 : List ByteArray) (x17_1 : Int), v17 = .int .i64 x17_1 ∧ Aside0 (dict_NewUserDicRecords.l0 kq x4_1 t137 (t137.length : Int) x17_1 = some (r1, r2)) ∧ Aside0 (kq ≤ k) ∧ Aside0 (Kd.R Kd.string 9 w' w.heap.size (fun k_ => some k_ ≠ ((.slice Ao4 t137.length co4) : Value).ownBlock) v4 x4_1) ∧ Aside0 (Kd.R Kd.string 9 w' w.heap.size (fun k_ => some k_ ≠ (v4 : Value).ownBlock) (.slice Ao4 t137.length co4) t137) ∧ Aside0 (Below w.heap.size w w'))
  case atStart => exact ⟨(([] : List ByteArray)), (0), (by first | rfl | (simp; done) | (simp [*]; done)), H', ⟨Nat.le_refl _⟩, ⟨by first | exact Kd.R_nil _ _ _ _ _ | exact Kd.N_nil _ _ _ _ _ | exact Kd.V_nil _ _ _ _ _ | exact Kd.Q_nil _ _ _ _ _ | exact Kd.S_nil _ _ _ _ _⟩, ⟨by (with_reducible repeat (first | apply Kd.R_alloc | apply Kd.R_drewN | apply Kd.R_drew)); exact Kd.R_mono HO139.out (fun _ hk => (by simp [Value.ownBlock]))⟩, ⟨by repeat (first | (with_reducible first | exact HB.out | apply below_alloc | apply pw_below_drewN | apply below_drew1) | exact HB.out)⟩⟩
  case round =>
    clear H'
    try clear c1
    try clear p2
    obtain ⟨x4_1, x17_1, rfl, HA, HK1, HO_4, HO_15, HB⟩ := hrel
    cases gk with
    | zero => exact absurd HA.out (by simp [dict_NewUserDicRecords.l0])
    | succ k1 =>
      have H := HA.out
      clear HA
      simp only [dict_NewUserDicRecords.l0] at H
      by_cases c5 : x17_1 < (t137.length : Int)
      · rw [if_pos c5] at H
        have c5b0 : decide (x17_1 < (t137.length : Int)) = true := decide_eq_true c5
        clear c5
        by_cases c6 : 0 ≤ x17_1
        · rw [if_pos c6] at H
          have c6b0 : decide (0 ≤ x17_1) = true := decide_eq_true c6
          clear c6
          by_cases c7 : x17_1 < (t137.length : Int)
          · rw [if_pos c7] at H
            have c7b0 : decide (x17_1 < (t137.length : Int)) = true := decide_eq_true c7
            clear c7
            by_cases c8 : (rdOf ByteArray.empty t137 x17_1).toList = ([] : List UInt8)
            · rw [if_pos c8] at H
              have c8b0 : ((rdOf ByteArray.empty t137 x17_1).toList == ([] : List UInt8)) = true := beq_iff_eq.mpr c8
              have c8b1 : ((rdOf ByteArray.empty t137 x17_1).toList != ([] : List UInt8)) = false := bne_eq_false_iff_eq.mpr c8
              clear c8
              have H' := Aside0.mk H
              clear H
              have p140 : 0 ≤ (x17_1 : Int) := of_decide_eq_true (by first | (with_reducible assumption) | assumption)
              have q140 : x17_1 < (t137.length : Int) := of_decide_eq_true (by first | (with_reducible assumption) | assumption)
              obtain ⟨ad140, e140, hx140_0⟩ := Kd.at_string (Kd.R_reads' HO_15.out).2.2 x17_1 p140 q140
              cases e140
              replace p140 := eq_true p140
              replace q140 := eq_true q140
              go_wp2
              go_roundg k1
              case measure => have := HK1.out; omega
              case rel => exact ⟨(x4_1), (wrap64 (x17_1 + 1)), (by first | rfl | (simp; done) | (simp [*]; done)), H', ⟨by have := HK1.out; omega⟩, ⟨by (with_reducible repeat (first | apply Kd.R_alloc | apply Kd.R_drewN | apply Kd.R_drew)); exact HO_4.out⟩, ⟨by (with_reducible repeat (first | apply Kd.R_alloc | apply Kd.R_drewN | apply Kd.R_drew)); exact HO_15.out⟩, ⟨by repeat (first | (with_reducible first | exact HB.out | apply below_alloc | apply pw_below_drewN | apply below_drew1) | exact HB.out)⟩⟩
            · rw [if_neg c8] at H
              have c8b0 : ((rdOf ByteArray.empty t137 x17_1).toList == ([] : List UInt8)) = false := beq_eq_false_iff_ne.mpr c8
              have c8b1 : ((rdOf ByteArray.empty t137 x17_1).toList != ([] : List UInt8)) = true := bne_iff_ne.mpr c8
              replace H := Option.bind_eq_some_iff.mp H
              obtain ⟨t141, A90, H⟩ := H
              replace H : (if t141 = true then (dict_NewUserDicRecords.l0 k1 x4_1 t137 (t137.length : Int) (wrap64 (x17_1 + 1))) else (if x4_1.length < 8796093022208 then (dict_NewUserDicRecords.l0 k1 (x4_1 ++ [rdOf ByteArray.empty t137 x17_1]) t137 (t137.length : Int) (wrap64 (x17_1 + 1))) else (none))) = some (r1, r2) := H
              have A9 := Aside0.mk A90
              clear A90
              by_cases c10 : t141 = true
              · subst c10
                have H1 : (dict_NewUserDicRecords.l0 k1 x4_1 t137 (t137.length : Int) (wrap64 (x17_1 + 1))) = some (r1, r2) := by rw [if_pos rfl] at H; exact H
                clear H
                have H := H1
                clear H1
                have H' := Aside0.mk H
                clear H
                have p140 : 0 ≤ (x17_1 : Int) := of_decide_eq_true (by first | (with_reducible assumption) | assumption)
                have q140 : x17_1 < (t137.length : Int) := of_decide_eq_true (by first | (with_reducible assumption) | assumption)
                obtain ⟨ad140, e140, hx140_0⟩ := Kd.at_string (Kd.R_reads' HO_15.out).2.2 x17_1 p140 q140
                cases e140
                replace p140 := eq_true p140
                replace q140 := eq_true q140
                go_wp2_with (first | ((go_at_call 18); go_in) | (go_at_call 16; (with_reducible refine (dict_zzHasPrefix.calls (rdOf ByteArray.empty t137 x17_1) (⟨#[35]⟩ : ByteArray) true _ A9.out).mono ?_); rintro e w' ⟨rfl, ⟨nd, rfl⟩⟩))
                go_roundg k1
                case measure => have := HK1.out; omega
                case rel => exact ⟨(x4_1), (wrap64 (x17_1 + 1)), (by first | rfl | (simp; done) | (simp [*]; done)), H', ⟨by have := HK1.out; omega⟩, ⟨by (with_reducible repeat (first | apply Kd.R_alloc | apply Kd.R_drewN | apply Kd.R_drew)); exact HO_4.out⟩, ⟨by (with_reducible repeat (first | apply Kd.R_alloc | apply Kd.R_drewN | apply Kd.R_drew)); exact HO_15.out⟩, ⟨by repeat (first | (with_reducible first | exact HB.out | apply below_alloc | apply pw_below_drewN | apply below_drew1) | exact HB.out)⟩⟩
              · replace c10 := Bool.eq_false_iff.mpr c10
                subst c10
                have H1 : (if x4_1.length < 8796093022208 then (dict_NewUserDicRecords.l0 k1 (x4_1 ++ [rdOf ByteArray.empty t137 x17_1]) t137 (t137.length : Int) (wrap64 (x17_1 + 1))) else (none)) = some (r1, r2) := by rw [if_neg (show ¬ (false = true) by decide)] at H; exact H
                clear H
                have H := H1
                clear H1
                by_cases c11 : x4_1.length < 8796093022208
                · rw [if_pos c11] at H
                  have LMc11 := Aside0.mk c11
                  clear c11
                  obtain ⟨y142, hy142⟩ : ∃ y_ : List ByteArray, y_ = (x4_1 ++ [rdOf ByteArray.empty t137 x17_1]) := ⟨_, rfl⟩
                  replace H : (dict_NewUserDicRecords.l0 k1 y142 t137 (t137.length : Int) (wrap64 (x17_1 + 1))) = some (r1, r2) := by first | (rw [hy142]; with_reducible exact H) | (have H2_ := (Option.bind_some _ _).symm.trans H; rw [hy142]; with_reducible exact H2_) | (have H2_ := (Option.bind_some _ _).symm.trans H; with_reducible exact H2_) | with_reducible exact H | (rw [hy142]; exact H) | exact H
                  have Ny142 := Aside0.mk hy142
                  clear hy142
                  have H' := Aside0.mk H
                  clear H
                  have p140 : 0 ≤ (x17_1 : Int) := of_decide_eq_true (by first | (with_reducible assumption) | assumption)
                  have q140 : x17_1 < (t137.length : Int) := of_decide_eq_true (by first | (with_reducible assumption) | assumption)
                  obtain ⟨ad140, e140, hx140_0⟩ := Kd.at_string (Kd.R_reads' HO_15.out).2.2 x17_1 p140 q140
                  cases e140
                  replace p140 := eq_true p140
                  replace q140 := eq_true q140
                  go_wp2_with (first | ((go_at_call 18); go_in) | (go_at_call 16; (with_reducible refine (dict_zzHasPrefix.calls (rdOf ByteArray.empty t137 x17_1) (⟨#[35]⟩ : ByteArray) false _ A9.out).mono ?_); rintro e w' ⟨rfl, ⟨nd, rfl⟩⟩) | ((with_reducible refine gate_builtin (b := .append) (xs := #[.tmp 27, .tmp 29]) rfl ?_); (try (refine gate_guard (by rfl) ?_; dsimp only)); at_builtin; refine Kd.R_append Kd.string (w0 := w) w.heap.size rfl (.tmp 27) (.tmp 29) 22 9 (.string ⟨#[]⟩) 16 rfl Try.underlying22 info9 rfl (by decide) (by omega) u4 x4_1 (rdOf ByteArray.empty t137 x17_1) [.string (rdOf ByteArray.empty t137 x17_1)] (fun k_ => some k_ ≠ (.slice (some ad140) t137.length co4 : Value).ownBlock) (fun _ => False) rfl rfl ?aP (fun _ hk => hk.elim) ?aF ?aO ?aB ?aS ?aL ?_; (case aP => exact rfl); (case aB => exact (by repeat (first | (with_reducible first | exact HB.out | apply below_alloc | apply pw_below_drewN | apply below_drew1) | exact HB.out))); (case aF => exact (fun k_ hk => Kd.fresh' (Kd.R_lt (by (with_reducible repeat (first | apply Kd.R_alloc | apply Kd.R_drewN | apply Kd.R_drew)); exact HO_15.out)) k_ hk)); (case aO => exact (by (with_reducible repeat (first | apply Kd.R_alloc | apply Kd.R_drewN | apply Kd.R_drew)); exact HO_4.out)); (case aS => exact (below_size (by repeat (first | (with_reducible first | exact HB.out | apply below_alloc | apply pw_below_drewN | apply below_drew1) | exact HB.out)))); (case aL => have := LMc11.out; omega); intro v143 w12 ho hb hg hat; rw [← Ny142.out] at ho; have n0_ := Aside0.mk (Kd.R_after (ok := (fun _ => True)) (by (with_reducible repeat (first | apply Kd.R_alloc | apply Kd.R_drewN | apply Kd.R_drew)); exact Kd.R_mono HO_15.out (fun _ hk => ⟨trivial, hk⟩)) hg hat); have n1_ := Aside0.mk (hb); have n2_ := Aside0.mk (ho); clear HO_15; clear HB; clear HO_4; have HO_15 := n0_; have HB := n1_; have HO144 := n2_; clear n0_ n1_ n2_; clear ho hb hg hat))
                  go_roundg k1
                  case measure => have := HK1.out; omega
                  case rel => exact ⟨(y142), (wrap64 (x17_1 + 1)), (by first | rfl | (simp; done) | (simp [*]; done)), H', ⟨by have := HK1.out; omega⟩, ⟨by (with_reducible repeat (first | apply Kd.R_alloc | apply Kd.R_drewN | apply Kd.R_drew)); exact HO144.out⟩, ⟨by (with_reducible repeat (first | apply Kd.R_alloc | apply Kd.R_drewN | apply Kd.R_drew)); exact Kd.R_mono HO_15.out (fun _ hk => hk.2)⟩, ⟨by repeat (first | (with_reducible first | exact HB.out | apply below_alloc | apply pw_below_drewN | apply below_drew1) | exact HB.out)⟩⟩
                · rw [if_neg c11] at H
                  exact absurd H (by simp)
          · rw [if_neg c7] at H
            exact absurd H (by simp)
        · rw [if_neg c6] at H
          exact absurd H (by simp)
      · rw [if_neg c5] at H
        have c5b0 : decide (x17_1 < (t137.length : Int)) = false := decide_eq_false c5
        clear c5
        by_cases c13 : 0 ≤ (x4_1.length : Int)
        · rw [if_pos c13] at H
          have c13b0 := eq_true c13
          have c13b1 : decide (0 ≤ (x4_1.length : Int)) = true := decide_eq_true c13
          clear c13
          by_cases c14 : ((x4_1.length : Int) : Int).toNat ≤ 3518437208883
          · rw [if_pos c14] at H
            have c14b0 := eq_true c14
            have c14b1 : decide (((x4_1.length : Int) : Int).toNat ≤ 3518437208883) = true := decide_eq_true c14
            clear c14
            obtain ⟨y145, hy145⟩ : ∃ y_ : List (S44), y_ = (([] : List (S44))) := ⟨_, rfl⟩
            replace H : (dict_NewUserDicRecords.l1 k1 y145 x4_1 (x4_1.length : Int) 0) = some (r1, r2) := by first | (rw [hy145]; with_reducible exact H) | (have H2_ := (Option.bind_some _ _).symm.trans H; rw [hy145]; with_reducible exact H2_) | (have H2_ := (Option.bind_some _ _).symm.trans H; with_reducible exact H2_) | with_reducible exact H | (rw [hy145]; exact H) | exact H
            have Ny145 := Aside0.mk hy145
            clear hy145
            have H' := Aside0.mk H
            clear H
            obtain ⟨Ao15, co15, eo15⟩ := Kd.R_slice HO_4.out
            subst eo15
            go_wp2_with (first | ((go_at_call 18); go_in) | ((with_reducible refine gate_dst (N := 34) rfl ?_); (try (refine gate_guard (by rfl) ?_; dsimp only)); refine Own.S_make0 k44 _ 44 rfl (N := 34) rfl 38 _ _ rfl (x4_1.length : Int) rfl rfl Try.underlying38 (.agg #[(.string ⟨#[]⟩), (.slice none 0 0), (.slice none 0 0), (.string ⟨#[]⟩)]) 80 info44 rfl (by decide) (by omega) (ok := fun _ => True) (okp := fun _ => True) (fun _ hk => hk) trivial (of_decide_eq_true (by first | (with_reducible assumption) | assumption)) (Nat.le_trans (Nat.mul_le_mul_right _ (of_decide_eq_true (by first | (with_reducible assumption) | assumption) : (x4_1.length : Int).toNat ≤ 3518437208883)) (by omega)) (Below.refl _ _) (Nat.le_refl _) ?_; intro v146 w16 ho17 hb hg_ hnew_; clear hg_ hnew_; (first | rw [← Ny145.out] at ho17 | (simp only [Int.reduceToNat] at ho17; rw [← Ny145.out] at ho17)); have n0_ := Aside0.mk (Kd.R_below (by (with_reducible repeat (first | apply Kd.R_alloc | apply Kd.R_drewN | apply Kd.R_drew)); exact HO_4.out) hb); have n1_ := Aside0.mk (Kd.R_below (by (with_reducible repeat (first | apply Kd.R_alloc | apply Kd.R_drewN | apply Kd.R_drew)); exact HO_15.out) hb); have n2_ := Aside0.mk (Kd.S_lower (Kd.S_new' (Kd.S_new' ho17 (Kd.R_lt (by (with_reducible repeat (first | apply Kd.R_alloc | apply Kd.R_drewN | apply Kd.R_drew)); exact HO_4.out))) (Kd.R_lt (by (with_reducible repeat (first | apply Kd.R_alloc | apply Kd.R_drewN | apply Kd.R_drew)); exact HO_15.out))) (below_size (by repeat (first | (with_reducible first | exact HB.out | apply below_alloc | apply pw_below_drewN | apply below_drew1) | exact HB.out)))); have n3_ := Aside0.mk (below_step (by repeat (first | (with_reducible first | exact HB.out | apply below_alloc | apply pw_below_drewN | apply below_drew1) | exact HB.out)) hb); clear HO_4; clear HO_15; clear HB; have HO_4 := n0_; have HO_15 := n1_; have HO147 := n2_; have HB := n3_; clear n0_ n1_ n2_ n3_; clear hb ho17))
            go_loopg [7, 37] k1 (fun kq v7 v37 w' => ∃ (x7_2 : List (S44)) (x37_2 : Int), v37 = .int .i64 x37_2 ∧ Aside0 (dict_NewUserDicRecords.l1 kq x7_2 x4_1 (x4_1.length : Int) x37_2 = some (r1, r2)) ∧ Aside0 (kq ≤ k1) ∧ Aside0 (Kd.S k44 44 w' w.heap.size (fun k_ => some k_ ≠ ((.slice Ao15 x4_1.length co15) : Value).ownBlock) v7 x7_2) ∧ Aside0 (Kd.R Kd.string 9 w' w.heap.size (fun _ => True) (.slice Ao15 x4_1.length co15) x4_1) ∧ Aside0 (Below w.heap.size w w'))
            case atStart => exact ⟨(y145), (0), (by first | rfl | (simp; done) | (simp [*]; done)), H', ⟨Nat.le_refl _⟩, ⟨by (with_reducible repeat (first | apply Kd.S_alloc | apply Kd.S_drewN | apply Kd.S_drew)); exact Kd.S_mono HO147.out (fun _ hk => hk.1.2)⟩, ⟨by (with_reducible repeat (first | apply Kd.R_alloc | apply Kd.R_drewN | apply Kd.R_drew)); exact Kd.R_mono HO_4.out (fun _ hk => trivial)⟩, ⟨by repeat (first | (with_reducible first | exact HB.out | apply below_alloc | apply pw_below_drewN | apply below_drew1) | exact HB.out)⟩⟩
            case round =>
              clear H'
              try clear c1
              try clear p1
              try clear q1
              try clear hx1
              try clear p2
              try clear c5
              try clear c5b0
              try clear c6
              try clear c6b0
              try clear p6
              try clear c7
              try clear c7b0
              try clear c8
              try clear c8b0
              try clear c8b1
              try clear c10
              try clear c11
              try clear c13
              try clear c13b0
              try clear c13b1
              try clear c14
              try clear c14b0
              try clear c14b1
              try clear p14
              try clear q14
              try clear hx14
              try clear c15
              try clear hx140_0
              try clear p140
              try clear p2
              try clear q140
              obtain ⟨x7_2, x37_2, rfl, HA, HK2, HO_7, HO_35, HB⟩ := hrel
              cases gk with
              | zero => exact absurd HA.out (by simp [dict_NewUserDicRecords.l1])
              | succ k2 =>
                have H := HA.out
                clear HA
                simp only [dict_NewUserDicRecords.l1] at H
                by_cases c18 : x37_2 < (x4_1.length : Int)
                · rw [if_pos c18] at H
                  have c18b0 : decide (x37_2 < (x4_1.length : Int)) = true := decide_eq_true c18
                  clear c18
                  by_cases c19 : 0 ≤ x37_2
                  · rw [if_pos c19] at H
                    have c19b0 : decide (0 ≤ x37_2) = true := decide_eq_true c19
                    clear c19
                    by_cases c20 : x37_2 < (x4_1.length : Int)
                    · rw [if_pos c20] at H
                      have c20b0 : decide (x37_2 < (x4_1.length : Int)) = true := decide_eq_true c20
                      clear c20
                      replace H := Option.bind_eq_some_iff.mp H
                      obtain ⟨t149, A210, H⟩ := H
                      replace H : (if (t149.length : Int) = 4 then (if 1 < (t149.length : Int) then ((dict_zzSplit.f k2 (rdOf ByteArray.empty t149 1) (⟨#[32]⟩ : ByteArray)).bind fun t153 => (if 2 < (t149.length : Int) then ((dict_zzSplit.f k2 (rdOf ByteArray.empty t149 2) (⟨#[32]⟩ : ByteArray)).bind fun t157 => (if (t153.length : Int) = 0 then (some (([] : List (S44)), true)) else (if (t153.length : Int) = (t157.length : Int) then (if 0 < (t149.length : Int) then (if 3 < (t149.length : Int) then (if x7_2.length < 1759218604441 then (dict_NewUserDicRecords.l1 k2 (x7_2 ++ [(⟨rdOf ByteArray.empty t149 0, t153, t157, rdOf ByteArray.empty t149 3⟩ : S44)]) x4_1 (x4_1.length : Int) (wrap64 (x37_2 + 1))) else (none)) else (none)) else (none)) else (some (([] : List (S44)), true))))) else (none))) else (none)) else (some (([] : List (S44)), true))) = some (r1, r2) := H
                      have A21 := Aside0.mk A210
                      clear A210
                      by_cases c22 : (t149.length : Int) = 4
                      · rw [if_pos c22] at H
                        have c22b0 : ((t149.length : Int) == 4) = true := beq_iff_eq.mpr c22
                        have c22b1 : ((t149.length : Int) != 4) = false := bne_eq_false_iff_eq.mpr c22
                        clear c22
                        by_cases c23 : 1 < (t149.length : Int)
                        · rw [if_pos c23] at H
                          have c23b0 : decide (1 < (t149.length : Int)) = true := decide_eq_true c23
                          have c23b1 : decide (1 < t149.length) = true := decide_eq_true (by omega)
                          clear c23
                          replace H := Option.bind_eq_some_iff.mp H
                          obtain ⟨t153, A240, H⟩ := H
                          replace H : (if 2 < (t149.length : Int) then ((dict_zzSplit.f k2 (rdOf ByteArray.empty t149 2) (⟨#[32]⟩ : ByteArray)).bind fun t157 => (if (t153.length : Int) = 0 then (some (([] : List (S44)), true)) else (if (t153.length : Int) = (t157.length : Int) then (if 0 < (t149.length : Int) then (if 3 < (t149.length : Int) then (if x7_2.length < 1759218604441 then (dict_NewUserDicRecords.l1 k2 (x7_2 ++ [(⟨rdOf ByteArray.empty t149 0, t153, t157, rdOf ByteArray.empty t149 3⟩ : S44)]) x4_1 (x4_1.length : Int) (wrap64 (x37_2 + 1))) else (none)) else (none)) else (none)) else (some (([] : List (S44)), true))))) else (none)) = some (r1, r2) := H
                          have A24 := Aside0.mk A240
                          clear A240
                          by_cases c25 : 2 < (t149.length : Int)
                          · rw [if_pos c25] at H
                            have c25b0 : decide (2 < (t149.length : Int)) = true := decide_eq_true c25
                            have c25b1 : decide (2 < t149.length) = true := decide_eq_true (by omega)
                            clear c25
                            replace H := Option.bind_eq_some_iff.mp H
                            obtain ⟨t157, A260, H⟩ := H
                            replace H : (if (t153.length : Int) = 0 then (some (([] : List (S44)), true)) else (if (t153.length : Int) = (t157.length : Int) then (if 0 < (t149.length : Int) then (if 3 < (t149.length : Int) then (if x7_2.length < 1759218604441 then (dict_NewUserDicRecords.l1 k2 (x7_2 ++ [(⟨rdOf ByteArray.empty t149 0, t153, t157, rdOf ByteArray.empty t149 3⟩ : S44)]) x4_1 (x4_1.length : Int) (wrap64 (x37_2 + 1))) else (none)) else (none)) else (none)) else (some (([] : List (S44)), true)))) = some (r1, r2) := H
                            have A26 := Aside0.mk A260
                            clear A260
                            by_cases c27 : (t153.length : Int) = 0
                            · rw [if_pos c27] at H
                              have c27b0 : ((t153.length : Int) == 0) = true := beq_iff_eq.mpr c27
                              have c27b1 : ((t153.length : Int) != 0) = false := bne_eq_false_iff_eq.mpr c27
                              clear c27
                              simp only [Option.some.injEq, Prod.mk.injEq] at H
                              obtain ⟨rfl, rfl⟩ := H
                              have p148 : 0 ≤ (x37_2 : Int) := of_decide_eq_true (by first | (with_reducible assumption) | assumption)
                              have q148 : x37_2 < (x4_1.length : Int) := of_decide_eq_true (by first | (with_reducible assumption) | assumption)
                              obtain ⟨ad148, e148, hx148_0⟩ := Kd.at_string (Kd.R_reads' HO_35.out).2.2 x37_2 p148 q148
                              cases e148
                              replace p148 := eq_true p148
                              replace q148 := eq_true q148
                              go_wp2_with (first | ((go_at_call 18); go_in) | ((with_reducible refine gate_callee (f := 17) rfl ?_); refine goesL_ (some 42) rfl rfl Try.func17 (by kernel_rfl) rfl #[.string (rdOf ByteArray.empty x4_1 x37_2), .string (⟨#[44]⟩ : ByteArray)] rfl (by (try simp only [List.map_toArray, List.map_cons, List.map_nil]); first | done | rfl | (simp only [List.length_drop, List.length_take]; rfl)) ?_; (with_reducible refine (dict_zzSplit.calls k2 (rdOf ByteArray.empty x4_1 x37_2) (⟨#[44]⟩ : ByteArray) t149 _ A21.out).mono ?_); rintro e w28 ⟨v150, rfl, ho0, hb⟩; refine ⟨_, rfl, ?_⟩; have n0_ := Aside0.mk (Kd.S_elder' (by (with_reducible repeat (first | apply Kd.S_alloc | apply Kd.S_drewN | apply Kd.S_drew)); exact HO_7.out) (Kd.R_base ho0) hb); have n1_ := Aside0.mk (Kd.R_elder' (by (with_reducible repeat (first | apply Kd.R_alloc | apply Kd.R_drewN | apply Kd.R_drew)); exact HO_35.out) (Kd.R_base ho0) hb); have n2_ := Aside0.mk (Kd.R_lower (Kd.R_new' ho0 (Kd.R_lt (by (with_reducible repeat (first | apply Kd.R_alloc | apply Kd.R_drewN | apply Kd.R_drew)); exact HO_35.out))) (below_size (by repeat (first | (with_reducible first | exact HB.out | apply below_alloc | apply pw_below_drewN | apply below_drew1) | exact HB.out)))); have n3_ := Aside0.mk (below_step (by repeat (first | (with_reducible first | exact HB.out | apply below_alloc | apply pw_below_drewN | apply below_drew1) | exact HB.out)) hb); clear HO_7; clear HO_35; clear HB; have HO_7 := n0_; have HO_35 := n1_; have HO151 := n2_; have HB := n3_; clear n0_ n1_ n2_ n3_; (try clear hb); (try clear hb2); (try clear hk); (try clear hi); (try clear ho0); obtain ⟨Ao29, co29, eo29⟩ := Kd.R_slice HO151.out; subst eo29; have p152 : 0 ≤ (1 : Int) := (by omega); have q152 : 1 < (t149.length : Int) := of_decide_eq_true (by first | (with_reducible assumption) | assumption); obtain ⟨ad152, e152, hx152_0⟩ := Kd.at_string (Kd.R_reads' HO151.out).2.2 1 p152 q152; cases e152; (try simp only [show (1 : Int).toNat = 1 from rfl, Nat.reduceMul, Nat.reduceEqDiff, Go.Addr.add, ↓reduceIte] at hx152_0); have qi152 : (1 < t149.length) = True := eq_true (by omega); (try rw [show ((1 : Int)).toNat = 1 from rfl] at hx152_0); replace p152 := eq_true p152; replace q152 := eq_true q152) | ((with_reducible refine gate_callee (f := 17) rfl ?_); refine goesL_ (some 50) rfl rfl Try.func17 (by kernel_rfl) rfl #[.string (rdOf ByteArray.empty t149 1), .string (⟨#[32]⟩ : ByteArray)] rfl (by (try simp only [List.map_toArray, List.map_cons, List.map_nil]); first | done | rfl | (simp only [List.length_drop, List.length_take]; rfl)) ?_; (with_reducible refine (dict_zzSplit.calls k2 (rdOf ByteArray.empty t149 1) (⟨#[32]⟩ : ByteArray) t153 _ A24.out).mono ?_); rintro e w30 ⟨v154, rfl, ho0, hb⟩; refine ⟨_, rfl, ?_⟩; have n0_ := Aside0.mk (Kd.S_elder' (by (with_reducible repeat (first | apply Kd.S_alloc | apply Kd.S_drewN | apply Kd.S_drew)); exact HO_7.out) (Kd.R_base ho0) hb); have n1_ := Aside0.mk (Kd.R_elder' (by (with_reducible repeat (first | apply Kd.R_alloc | apply Kd.R_drewN | apply Kd.R_drew)); exact HO_35.out) (Kd.R_base ho0) hb); have n2_ := Aside0.mk (Kd.R_elder' (by (with_reducible repeat (first | apply Kd.R_alloc | apply Kd.R_drewN | apply Kd.R_drew)); exact HO151.out) (Kd.R_base ho0) hb); have n3_ := Aside0.mk (Kd.R_lower (Kd.R_new' (Kd.R_new' ho0 (Kd.R_lt (by (with_reducible repeat (first | apply Kd.R_alloc | apply Kd.R_drewN | apply Kd.R_drew)); exact HO_35.out))) (Kd.R_lt (by (with_reducible repeat (first | apply Kd.R_alloc | apply Kd.R_drewN | apply Kd.R_drew)); exact HO151.out))) (below_size (by repeat (first | (with_reducible first | exact HB.out | apply below_alloc | apply pw_below_drewN | apply below_drew1) | exact HB.out)))); have n4_ := Aside0.mk (below_step (by repeat (first | (with_reducible first | exact HB.out | apply below_alloc | apply pw_below_drewN | apply below_drew1) | exact HB.out)) hb); clear HO_7; clear HO_35; clear HO151; clear HB; have HO_7 := n0_; have HO_35 := n1_; have HO151 := n2_; have HO155 := n3_; have HB := n4_; clear n0_ n1_ n2_ n3_ n4_; (try clear hb); (try clear hb2); (try clear hk); (try clear hi); (try clear ho0); have p156 : 0 ≤ (2 : Int) := (by omega); have q156 : 2 < (t149.length : Int) := of_decide_eq_true (by first | (with_reducible assumption) | assumption); obtain ⟨ad156, e156, hx156_0⟩ := Kd.at_string (Kd.R_reads' HO151.out).2.2 2 p156 q156; obtain rfl : ad152 = ad156 := (by injection e156); (try simp only [show (2 : Int).toNat = 2 from rfl, Nat.reduceMul, Nat.reduceEqDiff, Go.Addr.add, ↓reduceIte] at hx156_0); have qi156 : (2 < t149.length) = True := eq_true (by omega); (try rw [show ((2 : Int)).toNat = 2 from rfl] at hx156_0); replace p156 := eq_true p156; replace q156 := eq_true q156) | ((with_reducible refine gate_callee (f := 17) rfl ?_); refine goesL_ (some 54) rfl rfl Try.func17 (by kernel_rfl) rfl #[.string (rdOf ByteArray.empty t149 2), .string (⟨#[32]⟩ : ByteArray)] rfl (by (try simp only [List.map_toArray, List.map_cons, List.map_nil]); first | done | rfl | (simp only [List.length_drop, List.length_take]; rfl)) ?_; (with_reducible refine (dict_zzSplit.calls k2 (rdOf ByteArray.empty t149 2) (⟨#[32]⟩ : ByteArray) t157 _ A26.out).mono ?_); rintro e w31 ⟨v158, rfl, ho0, hb⟩; refine ⟨_, rfl, ?_⟩; have n0_ := Aside0.mk (Kd.S_elder' (by (with_reducible repeat (first | apply Kd.S_alloc | apply Kd.S_drewN | apply Kd.S_drew)); exact HO_7.out) (Kd.R_base ho0) hb); have n1_ := Aside0.mk (Kd.R_elder' (by (with_reducible repeat (first | apply Kd.R_alloc | apply Kd.R_drewN | apply Kd.R_drew)); exact HO_35.out) (Kd.R_base ho0) hb); have n2_ := Aside0.mk (Kd.R_elder' (by (with_reducible repeat (first | apply Kd.R_alloc | apply Kd.R_drewN | apply Kd.R_drew)); exact HO151.out) (Kd.R_base ho0) hb); have n3_ := Aside0.mk (Kd.R_elder' (by (with_reducible repeat (first | apply Kd.R_alloc | apply Kd.R_drewN | apply Kd.R_drew)); exact HO155.out) (Kd.R_base ho0) hb); have n4_ := Aside0.mk (Kd.R_lower (Kd.R_new' (Kd.R_new' (Kd.R_new' ho0 (Kd.R_lt (by (with_reducible repeat (first | apply Kd.R_alloc | apply Kd.R_drewN | apply Kd.R_drew)); exact HO_35.out))) (Kd.R_lt (by (with_reducible repeat (first | apply Kd.R_alloc | apply Kd.R_drewN | apply Kd.R_drew)); exact HO151.out))) (Kd.R_lt (by (with_reducible repeat (first | apply Kd.R_alloc | apply Kd.R_drewN | apply Kd.R_drew)); exact HO155.out))) (below_size (by repeat (first | (with_reducible first | exact HB.out | apply below_alloc | apply pw_below_drewN | apply below_drew1) | exact HB.out)))); have n5_ := Aside0.mk (below_step (by repeat (first | (with_reducible first | exact HB.out | apply below_alloc | apply pw_below_drewN | apply below_drew1) | exact HB.out)) hb); clear HO_7; clear HO_35; clear HO151; clear HO155; clear HB; have HO_7 := n0_; have HO_35 := n1_; have HO151 := n2_; have HO155 := n3_; have HO159 := n4_; have HB := n5_; clear n0_ n1_ n2_ n3_ n4_ n5_; (try clear hb); (try clear hb2); (try clear hk); (try clear hi); (try clear ho0); obtain ⟨Ao32, co32, eo32⟩ := Kd.R_slice HO155.out; subst eo32))
                              go_ret2
                              exact ⟨_, _, by first | rfl | (simp [errW_none, errW_some] <;> rfl) | (simp [*, errW_none, errW_some] <;> rfl), by first | exact Own.isErr_nil | exact Own.isErr_some _ _ | assumption, by first | exact Kd.S_nil _ _ _ _ _ | exact Kd.N_nil _ _ _ _ _ | exact Kd.V_nil _ _ _ _ _ | exact Kd.Q_nil _ _ _ _ _ | exact Kd.R_nil _ _ _ _ _, by repeat (first | (with_reducible first | exact HB.out | apply below_alloc | apply pw_below_drewN | apply below_drew1) | exact HB.out)⟩
                            · rw [if_neg c27] at H
                              have c27b0 : ((t153.length : Int) == 0) = false := beq_eq_false_iff_ne.mpr c27
                              have c27b1 : ((t153.length : Int) != 0) = true := bne_iff_ne.mpr c27
                              have c27b2 : ¬ (t153 = []) := fun h_ => c27 (by rw [h_]; rfl)
                              by_cases c33 : (t153.length : Int) = (t157.length : Int)
                              · rw [if_pos c33] at H
                                have c33b0 : ((t153.length : Int) == (t157.length : Int)) = true := beq_iff_eq.mpr c33
                                have c33b1 : ((t153.length : Int) != (t157.length : Int)) = false := bne_eq_false_iff_eq.mpr c33
                                have c33b2 : (t153.length == t157.length) = true := by first | simpa using c33 | (simp at c33 ⊢; omega)
                                clear c33
                                by_cases c34 : 0 < (t149.length : Int)
                                · rw [if_pos c34] at H
                                  have c34b0 : decide (0 < (t149.length : Int)) = true := decide_eq_true c34
                                  have c34b1 : decide (0 < t149.length) = true := decide_eq_true (by omega)
                                  clear c34
                                  by_cases c35 : 3 < (t149.length : Int)
                                  · rw [if_pos c35] at H
                                    have c35b0 : decide (3 < (t149.length : Int)) = true := decide_eq_true c35
                                    have c35b1 : decide (3 < t149.length) = true := decide_eq_true (by omega)
                                    clear c35
                                    by_cases c36 : x7_2.length < 1759218604441
                                    · rw [if_pos c36] at H
                                      have LMc36 := Aside0.mk c36
                                      clear c36
                                      obtain ⟨y163, hy163⟩ : ∃ y_ : List (S44), y_ = (x7_2 ++ [(⟨rdOf ByteArray.empty t149 0, t153, t157, rdOf ByteArray.empty t149 3⟩ : S44)]) := ⟨_, rfl⟩
                                      replace H : (dict_NewUserDicRecords.l1 k2 y163 x4_1 (x4_1.length : Int) (wrap64 (x37_2 + 1))) = some (r1, r2) := by first | (rw [hy163]; with_reducible exact H) | (have H2_ := (Option.bind_some _ _).symm.trans H; rw [hy163]; with_reducible exact H2_) | (have H2_ := (Option.bind_some _ _).symm.trans H; with_reducible exact H2_) | with_reducible exact H | (rw [hy163]; exact H) | exact H
                                      have Ny163 := Aside0.mk hy163
                                      clear hy163
                                      have H' := Aside0.mk H
                                      clear H
                                      have p148 : 0 ≤ (x37_2 : Int) := of_decide_eq_true (by first | (with_reducible assumption) | assumption)
                                      have q148 : x37_2 < (x4_1.length : Int) := of_decide_eq_true (by first | (with_reducible assumption) | assumption)
                                      obtain ⟨ad148, e148, hx148_0⟩ := Kd.at_string (Kd.R_reads' HO_35.out).2.2 x37_2 p148 q148
                                      cases e148
                                      replace p148 := eq_true p148
                                      replace q148 := eq_true q148
                                      try go_wp2_with (first | ((go_at_call 18); go_in) | ((with_reducible refine gate_callee (f := 17) rfl ?_); refine goesL_ (some 42) rfl rfl Try.func17 (by kernel_rfl) rfl #[.string (rdOf ByteArray.empty x4_1 x37_2), .string (⟨#[44]⟩ : ByteArray)] rfl (by (try simp only [List.map_toArray, List.map_cons, List.map_nil]); first | done | rfl | (simp only [List.length_drop, List.length_take]; rfl)) ?_; (with_reducible refine (dict_zzSplit.calls k2 (rdOf ByteArray.empty x4_1 x37_2) (⟨#[44]⟩ : ByteArray) t149 _ A21.out).mono ?_); rintro e w37 ⟨v150, rfl, ho0, hb⟩; refine ⟨_, rfl, ?_⟩; have n0_ := Aside0.mk (Kd.S_elder' (by (with_reducible repeat (first | apply Kd.S_alloc | apply Kd.S_drewN | apply Kd.S_drew)); exact HO_7.out) (Kd.R_base ho0) hb); have n1_ := Aside0.mk (Kd.R_elder' (by (with_reducible repeat (first | apply Kd.R_alloc | apply Kd.R_drewN | apply Kd.R_drew)); exact HO_35.out) (Kd.R_base ho0) hb); have n2_ := Aside0.mk (Kd.R_lower (Kd.R_new' ho0 (Kd.R_lt (by (with_reducible repeat (first | apply Kd.R_alloc | apply Kd.R_drewN | apply Kd.R_drew)); exact HO_35.out))) (below_size (by repeat (first | (with_reducible first | exact HB.out | apply below_alloc | apply pw_below_drewN | apply below_drew1) | exact HB.out)))); have n3_ := Aside0.mk (below_step (by repeat (first | (with_reducible first | exact HB.out | apply below_alloc | apply pw_below_drewN | apply below_drew1) | exact HB.out)) hb); clear HO_7; clear HO_35; clear HB; have HO_7 := n0_; have HO_35 := n1_; have HO151 := n2_; have HB := n3_; clear n0_ n1_ n2_ n3_; (try clear hb); (try clear hb2); (try clear hk); (try clear hi); (try clear ho0); obtain ⟨Ao38, co38, eo38⟩ := Kd.R_slice HO151.out; subst eo38; have p152 : 0 ≤ (1 : Int) := (by omega); have q152 : 1 < (t149.length : Int) := of_decide_eq_true (by first | (with_reducible assumption) | assumption); obtain ⟨ad152, e152, hx152_0⟩ := Kd.at_string (Kd.R_reads' HO151.out).2.2 1 p152 q152; cases e152; (try simp only [show (1 : Int).toNat = 1 from rfl, Nat.reduceMul, Nat.reduceEqDiff, Go.Addr.add, ↓reduceIte] at hx152_0); have qi152 : (1 < t149.length) = True := eq_true (by omega); (try rw [show ((1 : Int)).toNat = 1 from rfl] at hx152_0); replace p152 := eq_true p152; replace q152 := eq_true q152) | ((with_reducible refine gate_callee (f := 17) rfl ?_); refine goesL_ (some 50) rfl rfl Try.func17 (by kernel_rfl) rfl #[.string (rdOf ByteArray.empty t149 1), .string (⟨#[32]⟩ : ByteArray)] rfl (by (try simp only [List.map_toArray, List.map_cons, List.map_nil]); first | done | rfl | (simp only [List.length_drop, List.length_take]; rfl)) ?_; (with_reducible refine (dict_zzSplit.calls k2 (rdOf ByteArray.empty t149 1) (⟨#[32]⟩ : ByteArray) t153 _ A24.out).mono ?_); rintro e w39 ⟨v154, rfl, ho0, hb⟩; refine ⟨_, rfl, ?_⟩; have n0_ := Aside0.mk (Kd.S_elder' (by (with_reducible repeat (first | apply Kd.S_alloc | apply Kd.S_drewN | apply Kd.S_drew)); exact HO_7.out) (Kd.R_base ho0) hb); have n1_ := Aside0.mk (Kd.R_elder' (by (with_reducible repeat (first | apply Kd.R_alloc | apply Kd.R_drewN | apply Kd.R_drew)); exact HO_35.out) (Kd.R_base ho0) hb); have n2_ := Aside0.mk (Kd.R_elder' (by (with_reducible repeat (first | apply Kd.R_alloc | apply Kd.R_drewN | apply Kd.R_drew)); exact HO151.out) (Kd.R_base ho0) hb); have n3_ := Aside0.mk (Kd.R_lower (Kd.R_new' (Kd.R_new' ho0 (Kd.R_lt (by (with_reducible repeat (first | apply Kd.R_alloc | apply Kd.R_drewN | apply Kd.R_drew)); exact HO_35.out))) (Kd.R_lt (by (with_reducible repeat (first | apply Kd.R_alloc | apply Kd.R_drewN | apply Kd.R_drew)); exact HO151.out))) (below_size (by repeat (first | (with_reducible first | exact HB.out | apply below_alloc | apply pw_below_drewN | apply below_drew1) | exact HB.out)))); have n4_ := Aside0.mk (below_step (by repeat (first | (with_reducible first | exact HB.out | apply below_alloc | apply pw_below_drewN | apply below_drew1) | exact HB.out)) hb); clear HO_7; clear HO_35; clear HO151; clear HB; have HO_7 := n0_; have HO_35 := n1_; have HO151 := n2_; have HO155 := n3_; have HB := n4_; clear n0_ n1_ n2_ n3_ n4_; (try clear hb); (try clear hb2); (try clear hk); (try clear hi); (try clear ho0); have p156 : 0 ≤ (2 : Int) := (by omega); have q156 : 2 < (t149.length : Int) := of_decide_eq_true (by first | (with_reducible assumption) | assumption); obtain ⟨ad156, e156, hx156_0⟩ := Kd.at_string (Kd.R_reads' HO151.out).2.2 2 p156 q156; obtain rfl : ad152 = ad156 := (by injection e156); (try simp only [show (2 : Int).toNat = 2 from rfl, Nat.reduceMul, Nat.reduceEqDiff, Go.Addr.add, ↓reduceIte] at hx156_0); have qi156 : (2 < t149.length) = True := eq_true (by omega); (try rw [show ((2 : Int)).toNat = 2 from rfl] at hx156_0); replace p156 := eq_true p156; replace q156 := eq_true q156) | ((with_reducible refine gate_callee (f := 17) rfl ?_); refine goesL_ (some 54) rfl rfl Try.func17 (by kernel_rfl) rfl #[.string (rdOf ByteArray.empty t149 2), .string (⟨#[32]⟩ : ByteArray)] rfl (by (try simp only [List.map_toArray, List.map_cons, List.map_nil]); first | done | rfl | (simp only [List.length_drop, List.length_take]; rfl)) ?_; (with_reducible refine (dict_zzSplit.calls k2 (rdOf ByteArray.empty t149 2) (⟨#[32]⟩ : ByteArray) t157 _ A26.out).mono ?_); rintro e w40 ⟨v158, rfl, ho0, hb⟩; refine ⟨_, rfl, ?_⟩; have n0_ := Aside0.mk (Kd.S_elder' (by (with_reducible repeat (first | apply Kd.S_alloc | apply Kd.S_drewN | apply Kd.S_drew)); exact HO_7.out) (Kd.R_base ho0) hb); have n1_ := Aside0.mk (Kd.R_elder' (by (with_reducible repeat (first | apply Kd.R_alloc | apply Kd.R_drewN | apply Kd.R_drew)); exact HO_35.out) (Kd.R_base ho0) hb); have n2_ := Aside0.mk (Kd.R_elder' (by (with_reducible repeat (first | apply Kd.R_alloc | apply Kd.R_drewN | apply Kd.R_drew)); exact HO151.out) (Kd.R_base ho0) hb); have n3_ := Aside0.mk (Kd.R_elder' (by (with_reducible repeat (first | apply Kd.R_alloc | apply Kd.R_drewN | apply Kd.R_drew)); exact HO155.out) (Kd.R_base ho0) hb); have n4_ := Aside0.mk (Kd.R_lower (Kd.R_new' (Kd.R_new' (Kd.R_new' ho0 (Kd.R_lt (by (with_reducible repeat (first | apply Kd.R_alloc | apply Kd.R_drewN | apply Kd.R_drew)); exact HO_35.out))) (Kd.R_lt (by (with_reducible repeat (first | apply Kd.R_alloc | apply Kd.R_drewN | apply Kd.R_drew)); exact HO151.out))) (Kd.R_lt (by (with_reducible repeat (first | apply Kd.R_alloc | apply Kd.R_drewN | apply Kd.R_drew)); exact HO155.out))) (below_size (by repeat (first | (with_reducible first | exact HB.out | apply below_alloc | apply pw_below_drewN | apply below_drew1) | exact HB.out)))); have n5_ := Aside0.mk (below_step (by repeat (first | (with_reducible first | exact HB.out | apply below_alloc | apply pw_below_drewN | apply below_drew1) | exact HB.out)) hb); clear HO_7; clear HO_35; clear HO151; clear HO155; clear HB; have HO_7 := n0_; have HO_35 := n1_; have HO151 := n2_; have HO155 := n3_; have HO159 := n4_; have HB := n5_; clear n0_ n1_ n2_ n3_ n4_ n5_; (try clear hb); (try clear hb2); (try clear hk); (try clear hi); (try clear ho0); obtain ⟨Ao41, co41, eo41⟩ := Kd.R_slice HO155.out; subst eo41; obtain ⟨Ao42, co42, eo42⟩ := Kd.R_slice HO159.out; subst eo42))
                                      have n0_ := Aside0.mk (Kd.S_drew HO_7.out)
                                      have n1_ := Aside0.mk (Kd.R_drew HO_35.out)
                                      have n2_ := Aside0.mk (Kd.R_drew HO151.out)
                                      have n3_ := Aside0.mk (Kd.R_drew HO155.out)
                                      have n4_ := Aside0.mk (Kd.R_drew HO159.out)
                                      have n5_ := Aside0.mk (below_drew1 HB.out)
                                      clear HO_7
                                      clear HO_35
                                      clear HO151
                                      clear HO155
                                      clear HO159
                                      clear HB
                                      have HO_7 := n0_
                                      have HO_35 := n1_
                                      have HO151 := n2_
                                      have HO155 := n3_
                                      have HO159 := n4_
                                      have HB := n5_
                                      clear n0_ n1_ n2_ n3_ n4_ n5_
                                      have p160 : 0 ≤ (0 : Int) := (by omega)
                                      have q160 : 0 < (t149.length : Int) := of_decide_eq_true (by first | (with_reducible assumption) | assumption)
                                      obtain ⟨ad160, e160, hx160_0⟩ := Kd.at_string (Kd.R_reads' HO151.out).2.2 0 p160 q160
                                      obtain rfl : ad152 = ad160 := (by injection e160)
                                      have qi160 : (0 < t149.length) = True := eq_true (by omega)
                                      (try rw [show ((0 : Int)).toNat = 0 from rfl] at hx160_0)
                                      (try rw [Addr.add_zero'] at hx160_0)
                                      replace p160 := eq_true p160
                                      replace q160 := eq_true q160
                                      have p161 : 0 ≤ (3 : Int) := (by omega)
                                      have q161 : 3 < (t149.length : Int) := of_decide_eq_true (by first | (with_reducible assumption) | assumption)
                                      obtain ⟨ad161, e161, hx161_0⟩ := Kd.at_string (Kd.R_reads' HO151.out).2.2 3 p161 q161
                                      obtain rfl : ad152 = ad161 := (by injection e161)
                                      (try simp only [show (3 : Int).toNat = 3 from rfl, Nat.reduceMul, Nat.reduceEqDiff, Go.Addr.add, ↓reduceIte] at hx161_0)
                                      have qi161 : (3 < t149.length) = True := eq_true (by omega)
                                      (try rw [show ((3 : Int)).toNat = 3 from rfl] at hx161_0)
                                      replace p161 := eq_true p161
                                      replace q161 := eq_true q161
                                      refine start_ (n := 11) (S := fun w' => w'.cell? ad152 = some (.string (rdOf ByteArray.empty t149 0)) ∧ w'.cell? ⟨ad152.block, ad152.off + 3, none⟩ = some (.string (rdOf ByteArray.empty t149 3))) (ds := []) #[false, false, false, false, false, false, false, false, false, false, false] (by kernel_rfl) rfl rfl ⟨hx160_0, hx161_0⟩ (fun hHeld => ?_); refine with_tabW dict_NewUserDicRecords.tab19 dict_NewUserDicRecords.bits19 (fun HT_ HW_ => ?_)
                                      generalize w40.drew = w43 at HO_7 HO_35 HO151 HO155 HO159 HB hx160_0 hx161_0 hHeld ⊢
                                      refine pure_ (i := 0) (N := some 66) (v := ?_) (a' := ?_) #[true, false, false, false, false, false, false, false, false, false, false] rfl rfl (any_of HT_.out (by kernel_rfl)) (fun _ _ _ h => h) (Or.inl ⟨by rfl, ?_⟩) ?_ ?_
                                      rotate_left
                                      · intro w'
                                        go_simp
                                        with_reducible rfl
                                      rotate_left
                                      · simp only [Act.put, List.setIfInBounds_toArray, List.set_cons_zero, List.set_cons_succ, i64_w, i32_w]
                                        rfl
                                      refine pure_ (i := 1) (N := some 67) (v := ?_) (a' := ?_) #[true, true, false, false, false, false, false, false, false, false, false] rfl rfl (any_of HT_.out (by kernel_rfl)) (fun _ _ _ h => h) (Or.inl ⟨by rfl, ?_⟩) ?_ ?_
                                      rotate_left
                                      · intro w'
                                        go_simp
                                        with_reducible rfl
                                      rotate_left
                                      · simp only [Act.put, List.setIfInBounds_toArray, List.set_cons_zero, List.set_cons_succ, i64_w, i32_w]
                                        rfl
                                      refine pure_ (i := 3) (N := some 69) (v := ?_) (a' := ?_) #[true, true, false, true, false, false, false, false, false, false, false] rfl rfl (any_of HT_.out (by kernel_rfl)) (fun _ _ _ h => h) (Or.inl ⟨by rfl, ?_⟩) ?_ ?_
                                      rotate_left
                                      · intro w'
                                        go_simp
                                        with_reducible rfl
                                      rotate_left
                                      · simp only [Act.put, List.setIfInBounds_toArray, List.set_cons_zero, List.set_cons_succ, i64_w, i32_w]
                                        rfl
                                      refine pure_ (i := 4) (N := some 70) (v := ?_) (a' := ?_) #[true, true, false, true, true, false, false, false, false, false, false] rfl rfl (any_of HT_.out (by kernel_rfl)) (fun _ _ _ h => h) (Or.inl ⟨by rfl, ?_⟩) ?_ ?_
                                      rotate_left
                                      · intro w'
                                        go_simp
                                        with_reducible rfl
                                      rotate_left
                                      · simp only [Act.put, List.setIfInBounds_toArray, List.set_cons_zero, List.set_cons_succ, i64_w, i32_w]
                                        rfl
                                      refine pure_ (i := 5) (N := some 71) (v := ?_) (a' := ?_) #[true, true, false, true, true, true, false, false, false, false, false] rfl rfl (any_of HT_.out (by kernel_rfl)) (fun _ _ _ h => h) (Or.inl ⟨by rfl, ?_⟩) ?_ ?_
                                      rotate_left
                                      · intro w'
                                        go_simp
                                        with_reducible rfl
                                      rotate_left
                                      · simp only [Act.put, List.setIfInBounds_toArray, List.set_cons_zero, List.set_cons_succ, i64_w, i32_w]
                                        rfl
                                      refine pure_ (i := 6) (N := some 72) (v := ?_) (a' := ?_) #[true, true, false, true, true, true, true, false, false, false, false] rfl rfl (any_of HT_.out (by kernel_rfl)) (fun _ _ _ h => h) (Or.inl ⟨by rfl, ?_⟩) ?_ ?_
                                      rotate_left
                                      · intro w'
                                        go_simp
                                        with_reducible rfl
                                      rotate_left
                                      · simp only [Act.put, List.setIfInBounds_toArray, List.set_cons_zero, List.set_cons_succ, i64_w, i32_w]
                                        rfl
                                      refine take_ (i := 2) (N := some 68) (v := ?_) (a' := ?_) #[true, true, true, true, true, true, true, false, false, false, false] rfl rfl (take_ofW HT_.out HW_.out (by kernel_rfl)) (fun _ _ _ h => h) (Or.inl ⟨by rfl, ?_⟩) hHeld ?_ ?_
                                      rotate_left
                                      · rintro w' ⟨s0, s1⟩
                                        go_simp
                                        with_reducible rfl
                                      rotate_left
                                      · simp only [Act.put, List.setIfInBounds_toArray, List.set_cons_zero, List.set_cons_succ, i64_w, i32_w]
                                        rfl
                                      refine take_ (i := 7) (N := some 73) (v := ?_) (a' := ?_) #[true, true, true, true, true, true, true, true, false, false, false] rfl rfl (take_ofW HT_.out HW_.out (by kernel_rfl)) (fun _ _ _ h => h) (Or.inl ⟨by rfl, ?_⟩) hHeld ?_ ?_
                                      rotate_left
                                      · rintro w' ⟨s0, s1⟩
                                        go_simp
                                        with_reducible rfl
                                      rotate_left
                                      · simp only [Act.put, List.setIfInBounds_toArray, List.set_cons_zero, List.set_cons_succ, i64_w, i32_w]
                                        rfl
                                      refine pure_ (i := 8) (N := some 74) (v := ?_) (a' := ?_) #[true, true, true, true, true, true, true, true, true, false, false] rfl rfl (any_of HT_.out (by kernel_rfl)) (fun _ _ _ h => h) (Or.inl ⟨by rfl, ?_⟩) ?_ ?_
                                      rotate_left
                                      · intro w'
                                        go_simp
                                        with_reducible rfl
                                      rotate_left
                                      · simp only [Act.put, List.setIfInBounds_toArray, List.set_cons_zero, List.set_cons_succ, i64_w, i32_w]
                                        rfl
                                      refine one_ (i := 9) (N := some 13) #[true, true, true, true, true, true, true, true, true, true, false] rfl rfl (one_of HT_.out (by kernel_rfl)) (by decide) (fun K hK => ?_)
                                      refine box_step ?hg (N := 13) ?hd (cs := #[.string (⟨#[]⟩ : ByteArray), .slice none 0 0, .slice none 0 0, .string (⟨#[]⟩ : ByteArray)]) (t := 44) ?hr ?_; (case hd => rfl); (case hg => rfl); (case hr => first | (go_simp; done) | (go_simp; rfl))
                                      intro gb162 hg w44 hbox hb
                                      have HS0_ := (hb.cell (World.block_lt_of_cell? _ _ (hHeld.1))).trans (hHeld.1)
                                      have HS1_ := (hb.cell (World.block_lt_of_cell? _ _ (hHeld.2))).trans (hHeld.2)
                                      have n0_ := Aside0.mk (Kd.S_below (Kd.S_elderB (by (with_reducible repeat (first | apply Kd.S_alloc | apply Kd.S_drewN | apply Kd.S_drew)); exact HO_7.out) gb162 (Nat.le_of_eq hg.symm)) hb)
                                      have n1_ := Aside0.mk (Kd.R_below (by (with_reducible repeat (first | apply Kd.R_alloc | apply Kd.R_drewN | apply Kd.R_drew)); exact HO_35.out) hb)
                                      have n2_ := Aside0.mk (Kd.R_below (by (with_reducible repeat (first | apply Kd.R_alloc | apply Kd.R_drewN | apply Kd.R_drew)); exact HO151.out) hb)
                                      have n3_ := Aside0.mk (Kd.R_below (by (with_reducible repeat (first | apply Kd.R_alloc | apply Kd.R_drewN | apply Kd.R_drew)); exact HO155.out) hb)
                                      have n4_ := Aside0.mk (Kd.R_below (by (with_reducible repeat (first | apply Kd.R_alloc | apply Kd.R_drewN | apply Kd.R_drew)); exact HO159.out) hb)
                                      have n5_ := Aside0.mk (below_step (by repeat (first | (with_reducible first | exact HB.out | apply below_alloc | apply pw_below_drewN | apply below_drew1) | exact HB.out)) hb)
                                      have n6_ := Aside0.mk (hbox)
                                      have n7_ := Aside0.mk ((by rw [hg]; exact (below_size (by repeat (first | (with_reducible first | exact HB.out | apply below_alloc | apply pw_below_drewN | apply below_drew1) | exact HB.out))) : w.heap.size ≤ gb162))
                                      have n8_ := Aside0.mk ((by rw [hg]; exact (below_size (by repeat (first | (with_reducible first | exact HB.out | apply below_alloc | apply pw_below_drewN | apply below_drew1) | exact HB.out))) : w.heap.size ≤ gb162))
                                      clear HO_7
                                      clear HO_35
                                      clear HO151
                                      clear HO155
                                      clear HO159
                                      clear HB
                                      have HO_7 := n0_
                                      have HO_35 := n1_
                                      have HO151 := n2_
                                      have HO155 := n3_
                                      have HO159 := n4_
                                      have HB := n5_
                                      have BK162 := n6_
                                      have GW162 := n7_
                                      have GE162 := n8_
                                      clear n0_ n1_ n2_ n3_ n4_ n5_ n6_ n7_ n8_
                                      clear hb hbox hg
                                      refine hK.out _ _ ⟨HS0_, HS1_⟩ (fun hHeld => ?_)
                                      clear hK K
                                      refine norm_ (a' := ?_) ?_ ?_
                                      rotate_left
                                      · show Act.put _ (some 13) _ = _
                                        simp only [Act.put, List.setIfInBounds_toArray, List.set_cons_zero, List.set_cons_succ, i64_w, i32_w]
                                        rfl
                                      refine one_ (i := 10) (N := none) #[true, true, true, true, true, true, true, true, true, true, true] rfl rfl (one_of HT_.out (by kernel_rfl)) (by decide) (fun K hK => ?_)
                                      have hs45 : w44.cell? ⟨gb162, 0, none⟩ = some (.string (⟨#[]⟩ : ByteArray)) := (blk_cell BK162.out 0).trans rfl
                                      have hfs45 := blk_frozen BK162.out 0
                                      have hs46 : w44.cell? ⟨gb162, 1, none⟩ = some (.slice none 0 0) := (blk_cell BK162.out 1).trans rfl
                                      have hfs46 := blk_frozen BK162.out 1
                                      have hs47 : w44.cell? ⟨gb162, 2, none⟩ = some (.slice none 0 0) := (blk_cell BK162.out 2).trans rfl
                                      have hfs47 := blk_frozen BK162.out 2
                                      have hs48 : w44.cell? ⟨gb162, 3, none⟩ = some (.string (⟨#[]⟩ : ByteArray)) := (blk_cell BK162.out 3).trans rfl
                                      have hfs48 := blk_frozen BK162.out 3
                                      refine skip_ (w1 := ?_) (by rfl) rfl ?_ ?_
                                      rotate_left
                                      · go_simp
                                        rfl
                                      refine hK.out _ _ ⟨((cell_far (p := ⟨gb162, _, none⟩) (by first | exact Kd.own_blk (Kd.R_ne HO151.out BK162.out (by decide)) | (rw [add_block]; exact Kd.own_blk (Kd.R_ne HO151.out BK162.out (by decide))) | (show (Addr.add _ _).block ≠ _; rw [add_block]; exact Kd.own_blk (Kd.R_ne HO151.out BK162.out (by decide))) | (dsimp only; exact Kd.own_blk (Kd.R_ne HO151.out BK162.out (by decide)))) _).trans (((cell_far (p := ⟨gb162, _, none⟩) (by first | exact Kd.own_blk (Kd.R_ne HO151.out BK162.out (by decide)) | (rw [add_block]; exact Kd.own_blk (Kd.R_ne HO151.out BK162.out (by decide))) | (show (Addr.add _ _).block ≠ _; rw [add_block]; exact Kd.own_blk (Kd.R_ne HO151.out BK162.out (by decide))) | (dsimp only; exact Kd.own_blk (Kd.R_ne HO151.out BK162.out (by decide)))) _).trans (((cell_far (p := ⟨gb162, _, none⟩) (by first | exact Kd.own_blk (Kd.R_ne HO151.out BK162.out (by decide)) | (rw [add_block]; exact Kd.own_blk (Kd.R_ne HO151.out BK162.out (by decide))) | (show (Addr.add _ _).block ≠ _; rw [add_block]; exact Kd.own_blk (Kd.R_ne HO151.out BK162.out (by decide))) | (dsimp only; exact Kd.own_blk (Kd.R_ne HO151.out BK162.out (by decide)))) _).trans (((cell_far (p := ⟨gb162, _, none⟩) (by first | exact Kd.own_blk (Kd.R_ne HO151.out BK162.out (by decide)) | (rw [add_block]; exact Kd.own_blk (Kd.R_ne HO151.out BK162.out (by decide))) | (show (Addr.add _ _).block ≠ _; rw [add_block]; exact Kd.own_blk (Kd.R_ne HO151.out BK162.out (by decide))) | (dsimp only; exact Kd.own_blk (Kd.R_ne HO151.out BK162.out (by decide)))) _).trans (hHeld.1)))))))), ((cell_far (p := ⟨gb162, _, none⟩) (by first | exact Kd.own_blk (Kd.R_ne HO151.out BK162.out (by decide)) | (rw [add_block]; exact Kd.own_blk (Kd.R_ne HO151.out BK162.out (by decide))) | (show (Addr.add _ _).block ≠ _; rw [add_block]; exact Kd.own_blk (Kd.R_ne HO151.out BK162.out (by decide))) | (dsimp only; exact Kd.own_blk (Kd.R_ne HO151.out BK162.out (by decide)))) _).trans (((cell_far (p := ⟨gb162, _, none⟩) (by first | exact Kd.own_blk (Kd.R_ne HO151.out BK162.out (by decide)) | (rw [add_block]; exact Kd.own_blk (Kd.R_ne HO151.out BK162.out (by decide))) | (show (Addr.add _ _).block ≠ _; rw [add_block]; exact Kd.own_blk (Kd.R_ne HO151.out BK162.out (by decide))) | (dsimp only; exact Kd.own_blk (Kd.R_ne HO151.out BK162.out (by decide)))) _).trans (((cell_far (p := ⟨gb162, _, none⟩) (by first | exact Kd.own_blk (Kd.R_ne HO151.out BK162.out (by decide)) | (rw [add_block]; exact Kd.own_blk (Kd.R_ne HO151.out BK162.out (by decide))) | (show (Addr.add _ _).block ≠ _; rw [add_block]; exact Kd.own_blk (Kd.R_ne HO151.out BK162.out (by decide))) | (dsimp only; exact Kd.own_blk (Kd.R_ne HO151.out BK162.out (by decide)))) _).trans (((cell_far (p := ⟨gb162, _, none⟩) (by first | exact Kd.own_blk (Kd.R_ne HO151.out BK162.out (by decide)) | (rw [add_block]; exact Kd.own_blk (Kd.R_ne HO151.out BK162.out (by decide))) | (show (Addr.add _ _).block ≠ _; rw [add_block]; exact Kd.own_blk (Kd.R_ne HO151.out BK162.out (by decide))) | (dsimp only; exact Kd.own_blk (Kd.R_ne HO151.out BK162.out (by decide)))) _).trans (hHeld.2))))))))⟩ (fun hHeld => ?_)
                                      clear hK K
                                      refine done_ (done_of HT_.out (by kernel_rfl)) ?_
                                      have n0_ : Aside0 (Kd.S k44 44 ((((w44.setCell ⟨gb162, 0, none⟩ (.string (rdOf ByteArray.empty t149 0))).setCell ⟨gb162, 1, none⟩ (.slice Ao41 t153.length co41)).setCell ⟨gb162, 2, none⟩ (.slice Ao42 t157.length co42)).setCell ⟨gb162, 3, none⟩ (.string (rdOf ByteArray.empty t149 3))) w.heap.size (fun k_ => some k_ ≠ (.slice (some ad148) x4_1.length co15 : Value).ownBlock ∧ some k_ ≠ (.slice (some ad152) t149.length co38 : Value).ownBlock ∧ some k_ ≠ (.slice Ao41 t153.length co41 : Value).ownBlock ∧ some k_ ≠ (.slice Ao42 t157.length co42 : Value).ownBlock ∧ k_ ≠ gb162) u7 x7_2) := ⟨by (with_reducible repeat (first | apply Kd.S_alloc | apply Kd.S_drewN | apply Kd.S_drew)); exact Kd.S_mono (Kd.S_far (p := ⟨gb162, 3, none⟩) (Kd.S_far (p := ⟨gb162, 2, none⟩) (Kd.S_far (p := ⟨gb162, 1, none⟩) (Kd.S_far (p := ⟨gb162, 0, none⟩) (Kd.S_mono HO_7.out (fun k_ hk => (⟨hk, hk.2⟩ : _ ∧ k_ ≠ gb162))) (fun _ hk => hk.2) (.string (rdOf ByteArray.empty t149 0))) (fun _ hk => hk.2) (.slice Ao41 t153.length co41)) (fun _ hk => hk.2) (.slice Ao42 t157.length co42)) (fun _ hk => hk.2) (.string (rdOf ByteArray.empty t149 3))) (fun _ hk => ⟨hk.1.1.1.1.1, ⟨hk.1.1.1.1.2, ⟨hk.1.1.1.2, ⟨hk.1.1.2, hk.1.2⟩⟩⟩⟩)⟩
                                      have n1_ : Aside0 (Kd.R Kd.string 9 ((((w44.setCell ⟨gb162, 0, none⟩ (.string (rdOf ByteArray.empty t149 0))).setCell ⟨gb162, 1, none⟩ (.slice Ao41 t153.length co41)).setCell ⟨gb162, 2, none⟩ (.slice Ao42 t157.length co42)).setCell ⟨gb162, 3, none⟩ (.string (rdOf ByteArray.empty t149 3))) w.heap.size (fun k_ => some k_ ≠ (.slice (some ad152) t149.length co38 : Value).ownBlock ∧ some k_ ≠ (.slice Ao41 t153.length co41 : Value).ownBlock ∧ some k_ ≠ (.slice Ao42 t157.length co42 : Value).ownBlock) (.slice (some ad148) x4_1.length co15) x4_1) := ⟨by (with_reducible repeat (first | apply Kd.R_alloc | apply Kd.R_drewN | apply Kd.R_drew)); exact Kd.R_mono (Kd.R_far (p := ⟨gb162, 3, none⟩) (Kd.R_far (p := ⟨gb162, 2, none⟩) (Kd.R_far (p := ⟨gb162, 1, none⟩) (Kd.R_far (p := ⟨gb162, 0, none⟩) (Kd.R_types HO_35.out BK162.out (by decide)) (fun _ hk => hk.2) (.string (rdOf ByteArray.empty t149 0))) (fun _ hk => hk.2) (.slice Ao41 t153.length co41)) (fun _ hk => hk.2) (.slice Ao42 t157.length co42)) (fun _ hk => hk.2) (.string (rdOf ByteArray.empty t149 3))) (fun _ hk => ⟨hk.1.1.1.2, ⟨hk.1.1.2, hk.1.2⟩⟩)⟩
                                      have n2_ : Aside0 (Kd.R Kd.string 9 ((((w44.setCell ⟨gb162, 0, none⟩ (.string (rdOf ByteArray.empty t149 0))).setCell ⟨gb162, 1, none⟩ (.slice Ao41 t153.length co41)).setCell ⟨gb162, 2, none⟩ (.slice Ao42 t157.length co42)).setCell ⟨gb162, 3, none⟩ (.string (rdOf ByteArray.empty t149 3))) w.heap.size (fun k_ => some k_ ≠ (.slice (some ad148) x4_1.length co15 : Value).ownBlock ∧ some k_ ≠ (.slice Ao41 t153.length co41 : Value).ownBlock ∧ some k_ ≠ (.slice Ao42 t157.length co42 : Value).ownBlock) (.slice (some ad152) t149.length co38) t149) := ⟨by (with_reducible repeat (first | apply Kd.R_alloc | apply Kd.R_drewN | apply Kd.R_drew)); exact Kd.R_mono (Kd.R_far (p := ⟨gb162, 3, none⟩) (Kd.R_far (p := ⟨gb162, 2, none⟩) (Kd.R_far (p := ⟨gb162, 1, none⟩) (Kd.R_far (p := ⟨gb162, 0, none⟩) (Kd.R_types HO151.out BK162.out (by decide)) (fun _ hk => hk.2) (.string (rdOf ByteArray.empty t149 0))) (fun _ hk => hk.2) (.slice Ao41 t153.length co41)) (fun _ hk => hk.2) (.slice Ao42 t157.length co42)) (fun _ hk => hk.2) (.string (rdOf ByteArray.empty t149 3))) (fun _ hk => ⟨hk.1.1.1.2, ⟨hk.1.1.2, hk.1.2⟩⟩)⟩
                                      have n3_ : Aside0 (Kd.R Kd.string 9 ((((w44.setCell ⟨gb162, 0, none⟩ (.string (rdOf ByteArray.empty t149 0))).setCell ⟨gb162, 1, none⟩ (.slice Ao41 t153.length co41)).setCell ⟨gb162, 2, none⟩ (.slice Ao42 t157.length co42)).setCell ⟨gb162, 3, none⟩ (.string (rdOf ByteArray.empty t149 3))) w.heap.size (fun k_ => some k_ ≠ (.slice (some ad148) x4_1.length co15 : Value).ownBlock ∧ some k_ ≠ (.slice (some ad152) t149.length co38 : Value).ownBlock ∧ some k_ ≠ (.slice Ao42 t157.length co42 : Value).ownBlock) (.slice Ao41 t153.length co41) t153) := ⟨by (with_reducible repeat (first | apply Kd.R_alloc | apply Kd.R_drewN | apply Kd.R_drew)); exact Kd.R_mono (Kd.R_far (p := ⟨gb162, 3, none⟩) (Kd.R_far (p := ⟨gb162, 2, none⟩) (Kd.R_far (p := ⟨gb162, 1, none⟩) (Kd.R_far (p := ⟨gb162, 0, none⟩) (Kd.R_types HO155.out BK162.out (by decide)) (fun _ hk => hk.2) (.string (rdOf ByteArray.empty t149 0))) (fun _ hk => hk.2) (.slice Ao41 t153.length co41)) (fun _ hk => hk.2) (.slice Ao42 t157.length co42)) (fun _ hk => hk.2) (.string (rdOf ByteArray.empty t149 3))) (fun _ hk => ⟨hk.1.1.1.2, ⟨hk.1.1.2, hk.1.2⟩⟩)⟩
                                      have n4_ : Aside0 (Kd.R Kd.string 9 ((((w44.setCell ⟨gb162, 0, none⟩ (.string (rdOf ByteArray.empty t149 0))).setCell ⟨gb162, 1, none⟩ (.slice Ao41 t153.length co41)).setCell ⟨gb162, 2, none⟩ (.slice Ao42 t157.length co42)).setCell ⟨gb162, 3, none⟩ (.string (rdOf ByteArray.empty t149 3))) w.heap.size (fun k_ => some k_ ≠ (.slice (some ad148) x4_1.length co15 : Value).ownBlock ∧ some k_ ≠ (.slice (some ad152) t149.length co38 : Value).ownBlock ∧ some k_ ≠ (.slice Ao41 t153.length co41 : Value).ownBlock) (.slice Ao42 t157.length co42) t157) := ⟨by (with_reducible repeat (first | apply Kd.R_alloc | apply Kd.R_drewN | apply Kd.R_drew)); exact Kd.R_mono (Kd.R_far (p := ⟨gb162, 3, none⟩) (Kd.R_far (p := ⟨gb162, 2, none⟩) (Kd.R_far (p := ⟨gb162, 1, none⟩) (Kd.R_far (p := ⟨gb162, 0, none⟩) (Kd.R_types HO159.out BK162.out (by decide)) (fun _ hk => hk.2) (.string (rdOf ByteArray.empty t149 0))) (fun _ hk => hk.2) (.slice Ao41 t153.length co41)) (fun _ hk => hk.2) (.slice Ao42 t157.length co42)) (fun _ hk => hk.2) (.string (rdOf ByteArray.empty t149 3))) (fun _ hk => ⟨hk.1.1.1.2, ⟨hk.1.1.2, hk.1.2⟩⟩)⟩
                                      have n5_ : Aside0 (((((w44.setCell ⟨gb162, 0, none⟩ (.string (rdOf ByteArray.empty t149 0))).setCell ⟨gb162, 1, none⟩ (.slice Ao41 t153.length co41)).setCell ⟨gb162, 2, none⟩ (.slice Ao42 t157.length co42)).setCell ⟨gb162, 3, none⟩ (.string (rdOf ByteArray.empty t149 3))).heap[gb162]? = some (.cells #[.string (rdOf ByteArray.empty t149 0), .slice Ao41 t153.length co41, .slice Ao42 t157.length co42, .string (rdOf ByteArray.empty t149 3)] 44 (0, 0))) := ⟨by (with_reducible repeat (first | refine blk_drewN ?_ _ | refine blk_drew ?_ | refine blk_alloc ?_ _)); refine blk_put (cs := #[.string (rdOf ByteArray.empty t149 0), .slice Ao41 t153.length co41, .slice Ao42 t157.length co42, .string (⟨#[]⟩ : ByteArray)]) ?_ 3 _ rfl; (with_reducible repeat (first | refine blk_drewN ?_ _ | refine blk_drew ?_ | refine blk_alloc ?_ _)); refine blk_put (cs := #[.string (rdOf ByteArray.empty t149 0), .slice Ao41 t153.length co41, .slice none 0 0, .string (⟨#[]⟩ : ByteArray)]) ?_ 2 _ rfl; (with_reducible repeat (first | refine blk_drewN ?_ _ | refine blk_drew ?_ | refine blk_alloc ?_ _)); refine blk_put (cs := #[.string (rdOf ByteArray.empty t149 0), .slice none 0 0, .slice none 0 0, .string (⟨#[]⟩ : ByteArray)]) ?_ 1 _ rfl; (with_reducible repeat (first | refine blk_drewN ?_ _ | refine blk_drew ?_ | refine blk_alloc ?_ _)); refine blk_put (cs := #[.string (⟨#[]⟩ : ByteArray), .slice none 0 0, .slice none 0 0, .string (⟨#[]⟩ : ByteArray)]) ?_ 0 _ rfl; (with_reducible repeat (first | refine blk_drewN ?_ _ | refine blk_drew ?_ | refine blk_alloc ?_ _)); exact BK162.out⟩
                                      have n6_ : Aside0 (Below w.heap.size w ((((w44.setCell ⟨gb162, 0, none⟩ (.string (rdOf ByteArray.empty t149 0))).setCell ⟨gb162, 1, none⟩ (.slice Ao41 t153.length co41)).setCell ⟨gb162, 2, none⟩ (.slice Ao42 t157.length co42)).setCell ⟨gb162, 3, none⟩ (.string (rdOf ByteArray.empty t149 3)))) := ⟨by repeat (first | (with_reducible first | exact HB.out | apply below_alloc | apply pw_below_drewN | apply below_drew1 | refine below_set ?_ GE162.out) | exact HB.out)⟩
                                      (try clear HO_7)
                                      (try clear HO_35)
                                      (try clear HO151)
                                      (try clear HO155)
                                      (try clear HO159)
                                      (try clear BK162)
                                      (try clear HB)
                                      generalize ((((w44.setCell ⟨gb162, 0, none⟩ (.string (rdOf ByteArray.empty t149 0))).setCell ⟨gb162, 1, none⟩ (.slice Ao41 t153.length co41)).setCell ⟨gb162, 2, none⟩ (.slice Ao42 t157.length co42)).setCell ⟨gb162, 3, none⟩ (.string (rdOf ByteArray.empty t149 3))) = w49 at n0_ n1_ n2_ n3_ n4_ n5_ n6_ ⊢
                                      have HO_7 := n0_
                                      have HO_35 := n1_
                                      have HO151 := n2_
                                      have HO155 := n3_
                                      have HO159 := n4_
                                      have BK162 := n5_
                                      have HB := n6_
                                      clear n0_ n1_ n2_ n3_ n4_ n5_ n6_
                                      have hcz50_0 : w49.cell? ⟨gb162, 0, none⟩ = some (.string (rdOf ByteArray.empty t149 0)) := (blk_cell BK162.out 0).trans rfl
                                      have hcz50_1 : w49.cell? ⟨gb162, 1, none⟩ = some (.slice Ao41 t153.length co41) := (blk_cell BK162.out 1).trans rfl
                                      have hcz50_2 : w49.cell? ⟨gb162, 2, none⟩ = some (.slice Ao42 t157.length co42) := (blk_cell BK162.out 2).trans rfl
                                      have hcz50_3 : w49.cell? ⟨gb162, 3, none⟩ = some (.string (rdOf ByteArray.empty t149 3)) := (blk_cell BK162.out 3).trans rfl
                                      have hfz50_0 := blk_frozen BK162.out 0
                                      have hfz50_1 := blk_frozen BK162.out 1
                                      have hfz50_2 := blk_frozen BK162.out 2
                                      have hfz50_3 := blk_frozen BK162.out 3
                                      try go_wp2_with (first | ((go_at_call 18); go_in) | ((with_reducible refine gate_builtin (b := .append) (xs := #[.tmp 75, .tmp 77]) rfl ?_); (try (refine gate_guard (by rfl) ?_; dsimp only)); at_builtin; refine Kd.S_append k44 (w0 := w) w.heap.size rfl (.tmp 75) (.tmp 77) 38 44 (.agg #[(.string ⟨#[]⟩), (.slice none 0 0), (.slice none 0 0), (.string ⟨#[]⟩)]) 80 rfl Try.underlying38 info44 rfl (by decide) (by omega) u7 x7_2 (⟨rdOf ByteArray.empty t149 0, t153, t157, rdOf ByteArray.empty t149 3⟩ : S44) [.string (rdOf ByteArray.empty t149 0), .slice Ao41 t153.length co41, .slice Ao42 t157.length co42, .string (rdOf ByteArray.empty t149 3)] (fun k_ => some k_ ≠ (.slice (some ad148) x4_1.length co15 : Value).ownBlock ∧ some k_ ≠ (.slice (some ad152) t149.length co38 : Value).ownBlock ∧ k_ ≠ gb162) (fun k_ => some k_ = (.slice Ao41 t153.length co41 : Value).ownBlock ∨ some k_ = (.slice Ao42 t157.length co42 : Value).ownBlock) rfl rfl ?aP (fun k_ hk_ => hk_.elim (fun h_ => ((Kd.R_mono (ok' := fun k_ => ((fun k_ => some k_ ≠ (.slice (some ad148) x4_1.length co15 : Value).ownBlock ∧ some k_ ≠ (.slice (some ad152) t149.length co38 : Value).ownBlock ∧ k_ ≠ gb162)) k_ ∧ some k_ ≠ (u7 : Value).ownBlock) (Kd.R_types (Kd.R_apart' (HO155.out) (Kd.S_typed HO_7.out) (by decide)) BK162.out (by decide)) (fun k_ hk => ⟨⟨hk.1.1.1, ⟨hk.1.1.2.1, hk.2⟩⟩, hk.1.2⟩))).1 k_ h_.symm) (fun h_ => ((Kd.R_mono (ok' := fun k_ => ((fun k_ => some k_ ≠ (.slice (some ad148) x4_1.length co15 : Value).ownBlock ∧ some k_ ≠ (.slice (some ad152) t149.length co38 : Value).ownBlock ∧ k_ ≠ gb162)) k_ ∧ some k_ ≠ (u7 : Value).ownBlock) (Kd.R_types (Kd.R_apart' (HO159.out) (Kd.S_typed HO_7.out) (by decide)) BK162.out (by decide)) (fun k_ hk => ⟨⟨hk.1.1.1, ⟨hk.1.1.2.1, hk.2⟩⟩, hk.1.2⟩))).1 k_ h_.symm)) ?aF ?aO ?aB ?aS ?aL ?_; (case aP => exact k44_mkM _ _ _ (⟨rdOf ByteArray.empty t149 0, t153, t157, rdOf ByteArray.empty t149 3⟩ : S44) (Kd.R_mono (Kd.R_tight rfl (Kd.R_mono (ok' := fun k_ => ((fun k_ => some k_ ≠ (.slice (some ad148) x4_1.length co15 : Value).ownBlock ∧ some k_ ≠ (.slice (some ad152) t149.length co38 : Value).ownBlock ∧ k_ ≠ gb162)) k_ ∧ some k_ ≠ (u7 : Value).ownBlock) (Kd.R_types (Kd.R_apart' (HO155.out) (Kd.S_typed HO_7.out) (by decide)) BK162.out (by decide)) (fun k_ hk => ⟨⟨hk.1.1.1, ⟨hk.1.1.2.1, hk.2⟩⟩, hk.1.2⟩))) (fun _ h_ => Or.inl h_)) (Kd.R_mono (Kd.R_tight rfl (Kd.R_mono (ok' := fun k_ => ((fun k_ => some k_ ≠ (.slice (some ad148) x4_1.length co15 : Value).ownBlock ∧ some k_ ≠ (.slice (some ad152) t149.length co38 : Value).ownBlock ∧ k_ ≠ gb162)) k_ ∧ some k_ ≠ (u7 : Value).ownBlock) (Kd.R_types (Kd.R_apart' (HO159.out) (Kd.S_typed HO_7.out) (by decide)) BK162.out (by decide)) (fun k_ hk => ⟨⟨hk.1.1.1, ⟨hk.1.1.2.1, hk.2⟩⟩, hk.1.2⟩))) (fun _ h_ => Or.inr (h_)))); (case aB => exact (by repeat (first | (with_reducible first | exact HB.out | apply below_alloc | apply pw_below_drewN | apply below_drew1 | refine below_set ?_ GE162.out) | exact HB.out))); (case aF => exact (fun k_ hk => ⟨Kd.fresh' (Kd.R_lt (by (with_reducible repeat (first | apply Kd.R_alloc | apply Kd.R_drewN | apply Kd.R_drew)); exact HO_35.out)) k_ hk, Kd.fresh' (Kd.R_lt (by (with_reducible repeat (first | apply Kd.R_alloc | apply Kd.R_drewN | apply Kd.R_drew)); exact HO151.out)) k_ hk, Kd.freshB (g := gb162) (o := .cells #[.string (rdOf ByteArray.empty t149 0), .slice Ao41 t153.length co41, .slice Ao42 t157.length co42, .string (rdOf ByteArray.empty t149 3)] 44 (0, 0)) (by (with_reducible repeat (first | refine blk_drewN ?_ _ | refine blk_drew ?_ | refine blk_alloc ?_ _)); exact BK162.out) k_ hk⟩)); (case aO => exact (by (with_reducible repeat (first | apply Kd.S_alloc | apply Kd.S_drewN | apply Kd.S_drew)); exact Kd.S_mono HO_7.out (fun k_ hk => ⟨⟨hk.1, ⟨hk.2.1, hk.2.2.2.2⟩⟩, fun e_ => e_.elim (fun h_ => hk.2.2.1 h_) (fun h_ => hk.2.2.2.1 h_)⟩))); (case aS => exact (below_size (by repeat (first | (with_reducible first | exact HB.out | apply below_alloc | apply pw_below_drewN | apply below_drew1 | refine below_set ?_ GE162.out) | exact HB.out)))); (case aL => have := LMc36.out; omega); intro v164 w51 ho hb hg hat; rw [← Ny163.out] at ho; have n0_ := Aside0.mk (Kd.R_over' (by (with_reducible repeat (first | apply Kd.R_alloc | apply Kd.R_drewN | apply Kd.R_drew)); exact HO_35.out) (Kd.S_typed (by (with_reducible repeat (first | apply Kd.S_alloc | apply Kd.S_drewN | apply Kd.S_drew)); exact HO_7.out)) (by decide) hg); have n1_ := Aside0.mk (Kd.R_over' (by (with_reducible repeat (first | apply Kd.R_alloc | apply Kd.R_drewN | apply Kd.R_drew)); exact HO151.out) (Kd.S_typed (by (with_reducible repeat (first | apply Kd.S_alloc | apply Kd.S_drewN | apply Kd.S_drew)); exact HO_7.out)) (by decide) hg); have n2_ := Aside0.mk (blk_grown (g := gb162) (o := .cells #[.string (rdOf ByteArray.empty t149 0), .slice Ao41 t153.length co41, .slice Ao42 t157.length co42, .string (rdOf ByteArray.empty t149 3)] 44 (0, 0)) (by (with_reducible repeat (first | refine blk_drewN ?_ _ | refine blk_drew ?_ | refine blk_alloc ?_ _)); exact BK162.out) hg (Kd.S_away HO_7.out (fun _ hk => hk.2.2.2.2))); have n3_ := Aside0.mk (hb); have n4_ := Aside0.mk (ho); clear HO_35; clear HO151; clear BK162; clear HB; clear HO_7; clear HO155; clear HO159; have HO_35 := n0_; have HO151 := n1_; have BK162 := n2_; have HB := n3_; have HO165 := n4_; clear n0_ n1_ n2_ n3_ n4_; clear ho hb hg hat))
                                      go_roundg k2
                                      case measure => have := HK1.out; have := HK2.out; omega
                                      case rel => exact ⟨(y163), (wrap64 (x37_2 + 1)), (by first | rfl | (simp; done) | (simp [*]; done)), H', ⟨by have := HK1.out; have := HK2.out; omega⟩, ⟨by (with_reducible repeat (first | apply Kd.S_alloc | apply Kd.S_drewN | apply Kd.S_drew)); exact Kd.S_mono HO165.out (fun _ hk => hk.1)⟩, ⟨by (with_reducible repeat (first | apply Kd.R_alloc | apply Kd.R_drewN | apply Kd.R_drew)); exact Kd.R_mono HO_35.out (fun _ hk => trivial)⟩, ⟨by repeat (first | (with_reducible first | exact HB.out | apply below_alloc | apply pw_below_drewN | apply below_drew1 | refine below_set ?_ GE162.out) | exact HB.out)⟩⟩
                                    · rw [if_neg c36] at H
                                      exact absurd H (by simp)
                                  · rw [if_neg c35] at H
                                    exact absurd H (by simp)
                                · rw [if_neg c34] at H
                                  exact absurd H (by simp)
                              · rw [if_neg c33] at H
                                have c33b0 : ((t153.length : Int) == (t157.length : Int)) = false := beq_eq_false_iff_ne.mpr c33
                                have c33b1 : ((t153.length : Int) != (t157.length : Int)) = true := bne_iff_ne.mpr c33
                                have c33b2 : (t153.length == t157.length) = false := by first | simpa using c33 | (simp at c33 ⊢; omega)
                                simp only [Option.some.injEq, Prod.mk.injEq] at H
                                obtain ⟨rfl, rfl⟩ := H
                                have p148 : 0 ≤ (x37_2 : Int) := of_decide_eq_true (by first | (with_reducible assumption) | assumption)
                                have q148 : x37_2 < (x4_1.length : Int) := of_decide_eq_true (by first | (with_reducible assumption) | assumption)
                                obtain ⟨ad148, e148, hx148_0⟩ := Kd.at_string (Kd.R_reads' HO_35.out).2.2 x37_2 p148 q148
                                cases e148
                                replace p148 := eq_true p148
                                replace q148 := eq_true q148
                                go_wp2_with (first | ((go_at_call 18); go_in) | ((with_reducible refine gate_callee (f := 17) rfl ?_); refine goesL_ (some 42) rfl rfl Try.func17 (by kernel_rfl) rfl #[.string (rdOf ByteArray.empty x4_1 x37_2), .string (⟨#[44]⟩ : ByteArray)] rfl (by (try simp only [List.map_toArray, List.map_cons, List.map_nil]); first | done | rfl | (simp only [List.length_drop, List.length_take]; rfl)) ?_; (with_reducible refine (dict_zzSplit.calls k2 (rdOf ByteArray.empty x4_1 x37_2) (⟨#[44]⟩ : ByteArray) t149 _ A21.out).mono ?_); rintro e w52 ⟨v150, rfl, ho0, hb⟩; refine ⟨_, rfl, ?_⟩; have n0_ := Aside0.mk (Kd.S_elder' (by (with_reducible repeat (first | apply Kd.S_alloc | apply Kd.S_drewN | apply Kd.S_drew)); exact HO_7.out) (Kd.R_base ho0) hb); have n1_ := Aside0.mk (Kd.R_elder' (by (with_reducible repeat (first | apply Kd.R_alloc | apply Kd.R_drewN | apply Kd.R_drew)); exact HO_35.out) (Kd.R_base ho0) hb); have n2_ := Aside0.mk (Kd.R_lower (Kd.R_new' ho0 (Kd.R_lt (by (with_reducible repeat (first | apply Kd.R_alloc | apply Kd.R_drewN | apply Kd.R_drew)); exact HO_35.out))) (below_size (by repeat (first | (with_reducible first | exact HB.out | apply below_alloc | apply pw_below_drewN | apply below_drew1) | exact HB.out)))); have n3_ := Aside0.mk (below_step (by repeat (first | (with_reducible first | exact HB.out | apply below_alloc | apply pw_below_drewN | apply below_drew1) | exact HB.out)) hb); clear HO_7; clear HO_35; clear HB; have HO_7 := n0_; have HO_35 := n1_; have HO151 := n2_; have HB := n3_; clear n0_ n1_ n2_ n3_; (try clear hb); (try clear hb2); (try clear hk); (try clear hi); (try clear ho0); obtain ⟨Ao53, co53, eo53⟩ := Kd.R_slice HO151.out; subst eo53; have p152 : 0 ≤ (1 : Int) := (by omega); have q152 : 1 < (t149.length : Int) := of_decide_eq_true (by first | (with_reducible assumption) | assumption); obtain ⟨ad152, e152, hx152_0⟩ := Kd.at_string (Kd.R_reads' HO151.out).2.2 1 p152 q152; cases e152; (try simp only [show (1 : Int).toNat = 1 from rfl, Nat.reduceMul, Nat.reduceEqDiff, Go.Addr.add, ↓reduceIte] at hx152_0); have qi152 : (1 < t149.length) = True := eq_true (by omega); (try rw [show ((1 : Int)).toNat = 1 from rfl] at hx152_0); replace p152 := eq_true p152; replace q152 := eq_true q152) | ((with_reducible refine gate_callee (f := 17) rfl ?_); refine goesL_ (some 50) rfl rfl Try.func17 (by kernel_rfl) rfl #[.string (rdOf ByteArray.empty t149 1), .string (⟨#[32]⟩ : ByteArray)] rfl (by (try simp only [List.map_toArray, List.map_cons, List.map_nil]); first | done | rfl | (simp only [List.length_drop, List.length_take]; rfl)) ?_; (with_reducible refine (dict_zzSplit.calls k2 (rdOf ByteArray.empty t149 1) (⟨#[32]⟩ : ByteArray) t153 _ A24.out).mono ?_); rintro e w54 ⟨v154, rfl, ho0, hb⟩; refine ⟨_, rfl, ?_⟩; have n0_ := Aside0.mk (Kd.S_elder' (by (with_reducible repeat (first | apply Kd.S_alloc | apply Kd.S_drewN | apply Kd.S_drew)); exact HO_7.out) (Kd.R_base ho0) hb); have n1_ := Aside0.mk (Kd.R_elder' (by (with_reducible repeat (first | apply Kd.R_alloc | apply Kd.R_drewN | apply Kd.R_drew)); exact HO_35.out) (Kd.R_base ho0) hb); have n2_ := Aside0.mk (Kd.R_elder' (by (with_reducible repeat (first | apply Kd.R_alloc | apply Kd.R_drewN | apply Kd.R_drew)); exact HO151.out) (Kd.R_base ho0) hb); have n3_ := Aside0.mk (Kd.R_lower (Kd.R_new' (Kd.R_new' ho0 (Kd.R_lt (by (with_reducible repeat (first | apply Kd.R_alloc | apply Kd.R_drewN | apply Kd.R_drew)); exact HO_35.out))) (Kd.R_lt (by (with_reducible repeat (first | apply Kd.R_alloc | apply Kd.R_drewN | apply Kd.R_drew)); exact HO151.out))) (below_size (by repeat (first | (with_reducible first | exact HB.out | apply below_alloc | apply pw_below_drewN | apply below_drew1) | exact HB.out)))); have n4_ := Aside0.mk (below_step (by repeat (first | (with_reducible first | exact HB.out | apply below_alloc | apply pw_below_drewN | apply below_drew1) | exact HB.out)) hb); clear HO_7; clear HO_35; clear HO151; clear HB; have HO_7 := n0_; have HO_35 := n1_; have HO151 := n2_; have HO155 := n3_; have HB := n4_; clear n0_ n1_ n2_ n3_ n4_; (try clear hb); (try clear hb2); (try clear hk); (try clear hi); (try clear ho0); have p156 : 0 ≤ (2 : Int) := (by omega); have q156 : 2 < (t149.length : Int) := of_decide_eq_true (by first | (with_reducible assumption) | assumption); obtain ⟨ad156, e156, hx156_0⟩ := Kd.at_string (Kd.R_reads' HO151.out).2.2 2 p156 q156; obtain rfl : ad152 = ad156 := (by injection e156); (try simp only [show (2 : Int).toNat = 2 from rfl, Nat.reduceMul, Nat.reduceEqDiff, Go.Addr.add, ↓reduceIte] at hx156_0); have qi156 : (2 < t149.length) = True := eq_true (by omega); (try rw [show ((2 : Int)).toNat = 2 from rfl] at hx156_0); replace p156 := eq_true p156; replace q156 := eq_true q156) | ((with_reducible refine gate_callee (f := 17) rfl ?_); refine goesL_ (some 54) rfl rfl Try.func17 (by kernel_rfl) rfl #[.string (rdOf ByteArray.empty t149 2), .string (⟨#[32]⟩ : ByteArray)] rfl (by (try simp only [List.map_toArray, List.map_cons, List.map_nil]); first | done | rfl | (simp only [List.length_drop, List.length_take]; rfl)) ?_; (with_reducible refine (dict_zzSplit.calls k2 (rdOf ByteArray.empty t149 2) (⟨#[32]⟩ : ByteArray) t157 _ A26.out).mono ?_); rintro e w55 ⟨v158, rfl, ho0, hb⟩; refine ⟨_, rfl, ?_⟩; have n0_ := Aside0.mk (Kd.S_elder' (by (with_reducible repeat (first | apply Kd.S_alloc | apply Kd.S_drewN | apply Kd.S_drew)); exact HO_7.out) (Kd.R_base ho0) hb); have n1_ := Aside0.mk (Kd.R_elder' (by (with_reducible repeat (first | apply Kd.R_alloc | apply Kd.R_drewN | apply Kd.R_drew)); exact HO_35.out) (Kd.R_base ho0) hb); have n2_ := Aside0.mk (Kd.R_elder' (by (with_reducible repeat (first | apply Kd.R_alloc | apply Kd.R_drewN | apply Kd.R_drew)); exact HO151.out) (Kd.R_base ho0) hb); have n3_ := Aside0.mk (Kd.R_elder' (by (with_reducible repeat (first | apply Kd.R_alloc | apply Kd.R_drewN | apply Kd.R_drew)); exact HO155.out) (Kd.R_base ho0) hb); have n4_ := Aside0.mk (Kd.R_lower (Kd.R_new' (Kd.R_new' (Kd.R_new' ho0 (Kd.R_lt (by (with_reducible repeat (first | apply Kd.R_alloc | apply Kd.R_drewN | apply Kd.R_drew)); exact HO_35.out))) (Kd.R_lt (by (with_reducible repeat (first | apply Kd.R_alloc | apply Kd.R_drewN | apply Kd.R_drew)); exact HO151.out))) (Kd.R_lt (by (with_reducible repeat (first | apply Kd.R_alloc | apply Kd.R_drewN | apply Kd.R_drew)); exact HO155.out))) (below_size (by repeat (first | (with_reducible first | exact HB.out | apply below_alloc | apply pw_below_drewN | apply below_drew1) | exact HB.out)))); have n5_ := Aside0.mk (below_step (by repeat (first | (with_reducible first | exact HB.out | apply below_alloc | apply pw_below_drewN | apply below_drew1) | exact HB.out)) hb); clear HO_7; clear HO_35; clear HO151; clear HO155; clear HB; have HO_7 := n0_; have HO_35 := n1_; have HO151 := n2_; have HO155 := n3_; have HO159 := n4_; have HB := n5_; clear n0_ n1_ n2_ n3_ n4_ n5_; (try clear hb); (try clear hb2); (try clear hk); (try clear hi); (try clear ho0); obtain ⟨Ao56, co56, eo56⟩ := Kd.R_slice HO155.out; subst eo56; obtain ⟨Ao57, co57, eo57⟩ := Kd.R_slice HO159.out; subst eo57))
                                go_ret2
                                exact ⟨_, _, by first | rfl | (simp [errW_none, errW_some] <;> rfl) | (simp [*, errW_none, errW_some] <;> rfl), by first | exact Own.isErr_nil | exact Own.isErr_some _ _ | assumption, by first | exact Kd.S_nil _ _ _ _ _ | exact Kd.N_nil _ _ _ _ _ | exact Kd.V_nil _ _ _ _ _ | exact Kd.Q_nil _ _ _ _ _ | exact Kd.R_nil _ _ _ _ _, by repeat (first | (with_reducible first | exact HB.out | apply below_alloc | apply pw_below_drewN | apply below_drew1) | exact HB.out)⟩
                          · rw [if_neg c25] at H
                            exact absurd H (by simp)
                        · rw [if_neg c23] at H
                          exact absurd H (by simp)
                      · rw [if_neg c22] at H
                        have c22b0 : ((t149.length : Int) == 4) = false := beq_eq_false_iff_ne.mpr c22
                        have c22b1 : ((t149.length : Int) != 4) = true := bne_iff_ne.mpr c22
                        simp only [Option.some.injEq, Prod.mk.injEq] at H
                        obtain ⟨rfl, rfl⟩ := H
                        have p148 : 0 ≤ (x37_2 : Int) := of_decide_eq_true (by first | (with_reducible assumption) | assumption)
                        have q148 : x37_2 < (x4_1.length : Int) := of_decide_eq_true (by first | (with_reducible assumption) | assumption)
                        obtain ⟨ad148, e148, hx148_0⟩ := Kd.at_string (Kd.R_reads' HO_35.out).2.2 x37_2 p148 q148
                        cases e148
                        replace p148 := eq_true p148
                        replace q148 := eq_true q148
                        go_wp2_with (first | ((go_at_call 18); go_in) | ((with_reducible refine gate_callee (f := 17) rfl ?_); refine goesL_ (some 42) rfl rfl Try.func17 (by kernel_rfl) rfl #[.string (rdOf ByteArray.empty x4_1 x37_2), .string (⟨#[44]⟩ : ByteArray)] rfl (by (try simp only [List.map_toArray, List.map_cons, List.map_nil]); first | done | rfl | (simp only [List.length_drop, List.length_take]; rfl)) ?_; (with_reducible refine (dict_zzSplit.calls k2 (rdOf ByteArray.empty x4_1 x37_2) (⟨#[44]⟩ : ByteArray) t149 _ A21.out).mono ?_); rintro e w58 ⟨v150, rfl, ho0, hb⟩; refine ⟨_, rfl, ?_⟩; have n0_ := Aside0.mk (Kd.S_elder' (by (with_reducible repeat (first | apply Kd.S_alloc | apply Kd.S_drewN | apply Kd.S_drew)); exact HO_7.out) (Kd.R_base ho0) hb); have n1_ := Aside0.mk (Kd.R_elder' (by (with_reducible repeat (first | apply Kd.R_alloc | apply Kd.R_drewN | apply Kd.R_drew)); exact HO_35.out) (Kd.R_base ho0) hb); have n2_ := Aside0.mk (Kd.R_lower (Kd.R_new' ho0 (Kd.R_lt (by (with_reducible repeat (first | apply Kd.R_alloc | apply Kd.R_drewN | apply Kd.R_drew)); exact HO_35.out))) (below_size (by repeat (first | (with_reducible first | exact HB.out | apply below_alloc | apply pw_below_drewN | apply below_drew1) | exact HB.out)))); have n3_ := Aside0.mk (below_step (by repeat (first | (with_reducible first | exact HB.out | apply below_alloc | apply pw_below_drewN | apply below_drew1) | exact HB.out)) hb); clear HO_7; clear HO_35; clear HB; have HO_7 := n0_; have HO_35 := n1_; have HO151 := n2_; have HB := n3_; clear n0_ n1_ n2_ n3_; (try clear hb); (try clear hb2); (try clear hk); (try clear hi); (try clear ho0); obtain ⟨Ao59, co59, eo59⟩ := Kd.R_slice HO151.out; subst eo59))
                        go_ret2
                        exact ⟨_, _, by first | rfl | (simp [errW_none, errW_some] <;> rfl) | (simp [*, errW_none, errW_some] <;> rfl), by first | exact Own.isErr_nil | exact Own.isErr_some _ _ | assumption, by first | exact Kd.S_nil _ _ _ _ _ | exact Kd.N_nil _ _ _ _ _ | exact Kd.V_nil _ _ _ _ _ | exact Kd.Q_nil _ _ _ _ _ | exact Kd.R_nil _ _ _ _ _, by repeat (first | (with_reducible first | exact HB.out | apply below_alloc | apply pw_below_drewN | apply below_drew1) | exact HB.out)⟩
                    · rw [if_neg c20] at H
                      exact absurd H (by simp)
                  · rw [if_neg c19] at H
                    exact absurd H (by simp)
                · rw [if_neg c18] at H
                  have c18b0 : decide (x37_2 < (x4_1.length : Int)) = false := decide_eq_false c18
                  clear c18
                  simp only [Option.some.injEq, Prod.mk.injEq] at H
                  obtain ⟨rfl, rfl⟩ := H
                  go_wp2
                  go_ret2
                  exact ⟨_, _, by first | rfl | (simp [errW_none, errW_some] <;> rfl) | (simp [*, errW_none, errW_some] <;> rfl), by first | exact Own.isErr_nil | exact Own.isErr_some _ _ | assumption, by (with_reducible repeat (first | apply Kd.S_alloc | apply Kd.S_drewN | apply Kd.S_drew)); exact Kd.S_mono HO_7.out (fun _ hk => trivial), by repeat (first | (with_reducible first | exact HB.out | apply below_alloc | apply pw_below_drewN | apply below_drew1) | exact HB.out)⟩
          · rw [if_neg c14] at H
            exact absurd H (by simp)
        · rw [if_neg c13] at H
          exact absurd H (by simp)

/-! ### impl_UserRecords: function 9 -/
def impl_UserRecords.l0 : Nat → List (S24) → List (S44) → Int → Int → Option ((List (S24)) × Int)
  | 0, _, _, _, _ => none
  | k + 1, x6, x16, x17, x18 => if x18 < x17 then (if 0 ≤ x18 then (if x18 < (x16.length : Int) then (if x6.length < 1759218604441 then (impl_UserRecords.l0 k (x6 ++ [(⟨(rd_T44 x16 x18).f0, (rd_T44 x16 x18).f1, (rd_T44 x16 x18).f2, (rd_T44 x16 x18).f3⟩ : S24)]) x16 x17 (wrap64 (x18 + 1))) else (none)) else (none)) else (none)) else (some (x6, 0))
def impl_UserRecords.f (k : Nat) (a0 : ByteArray) : Option ((List (S24)) × Int) := (dict_NewUserDicRecords.f k a0).bind fun bt166 => (if bt166.2 = true then (some (([] : List (S24)), 1)) else (impl_UserRecords.l0 k ([] : List (S24)) bt166.1 (bt166.1.length : Int) 0))
theorem impl_UserRecords.mono_l : ∀ k, (∀ y0 y1 y2 y3, LeO (impl_UserRecords.l0 k y0 y1 y2 y3) (impl_UserRecords.l0 (k + 1) y0 y1 y2 y3))
  | 0 => fun _ _ _ _ r h => by simp [impl_UserRecords.l0] at h
  | k + 1 => by
    have ih0 := impl_UserRecords.mono_l k
    · intro y0 y1 y2 y3
      unfold impl_UserRecords.l0
      repeat' first
      | (with_reducible exact ih0 _ _ _ _)
      | (with_reducible exact dict_NewUserDicRecords.mono _ _)
      | (with_reducible exact LeO.refl _)
      | (with_reducible exact LeO.none _)
      | (with_reducible refine LeO.ite ?_ ?_)
      | (with_reducible refine LeO.bind ?_ (fun _ => ?_))
      | exact ih0 _ _ _ _
      | exact dict_NewUserDicRecords.mono _ _
      | exact LeO.none _
      | refine LeO.ite ?_ ?_
      | refine LeO.bind ?_ (fun _ => ?_)
theorem impl_UserRecords.mono : ∀ a0 k, LeO (impl_UserRecords.f k a0) (impl_UserRecords.f (k + 1) a0) := by
  intro a0 k
  have ih0 := impl_UserRecords.mono_l k
  unfold impl_UserRecords.f
  repeat' first
      | (with_reducible exact ih0 _ _ _ _)
      | (with_reducible exact dict_NewUserDicRecords.mono _ _)
      | (with_reducible exact LeO.refl _)
      | (with_reducible exact LeO.none _)
      | (with_reducible refine LeO.ite ?_ ?_)
      | (with_reducible refine LeO.bind ?_ (fun _ => ?_))
      | exact ih0 _ _ _ _
      | exact dict_NewUserDicRecords.mono _ _
      | exact LeO.none _
      | refine LeO.ite ?_ ?_
      | refine LeO.bind ?_ (fun _ => ?_)
set_option maxHeartbeats 8000000 in
set_option maxRecDepth 100000 in
theorem impl_UserRecords.calls (k : Nat) (a0 : ByteArray) (r1 : List (S24)) (r2 : Int) (w : World) (h : impl_UserRecords.f k a0 = some (r1, r2)) :
    Calls Try.prog 9 #[.string a0] w fun e w' => ∃ v0_ : Value, e = .returned (.tuple #[v0_, .int .i64 r2]) ∧ Kd.N k24 24 w' w.heap.size (fun k_ => (w.heap.size ≤ k_)) v0_ r1 ∧ Below w.heap.size w w' := by
  have hu44 := Try.underlying44
  have hu24 := Try.underlying24
  have HB := Aside0.mk (Below.refl w.heap.size w)
  have H : ((dict_NewUserDicRecords.f k a0).bind fun bt166 => (if bt166.2 = true then (some (([] : List (S24)), 1)) else (impl_UserRecords.l0 k ([] : List (S24)) bt166.1 (bt166.1.length : Int) 0))) = some (r1, r2) := h
  clear h
  replace H := Option.bind_eq_some_iff.mp H
  obtain ⟨⟨t166, t167⟩, A20, H⟩ := H
  replace H : (if t167 = true then (some (([] : List (S24)), 1)) else (impl_UserRecords.l0 k ([] : List (S24)) t166 (t166.length : Int) 0)) = some (r1, r2) := H
  have A2 := Aside0.mk A20
  clear A20
  by_cases c3 : t167 = true
  · subst c3
    have H1 : (some (([] : List (S24)), 1)) = some (r1, r2) := by rw [if_pos rfl] at H; exact H
    clear H
    have H := H1
    clear H1
    simp only [Option.some.injEq, Prod.mk.injEq] at H
    obtain ⟨rfl, rfl⟩ := H
    go_enter Try.func9, Try.ntmps9
    go_wp2_with (first | ((with_reducible refine gate_callee (f := 13) rfl ?_); refine goesL_ (some 11) rfl rfl Try.func13 (by kernel_rfl) rfl #[.string a0] rfl (by (try simp only [List.map_toArray, List.map_cons, List.map_nil]); first | done | rfl | (simp only [List.length_drop, List.length_take]; rfl)) ?_; (with_reducible refine (dict_NewUserDicRecords.calls k a0 t166 true _ A2.out).mono ?_); rintro e w4 ⟨v168, ev_w4, rfl, he_w4, ho0, hb⟩; (first | (obtain rfl := Own.isErr_false he_w4) | (obtain ⟨et_w4, ex_w4, rfl⟩ := Own.isErr_true he_w4) | skip); refine ⟨_, rfl, ?_⟩; have n0_ := Aside0.mk (Kd.N_lower (Kd.N_mono (ok' := fun k_ => (w.heap.size ≤ k_)) (Kd.S_N (Kd.S_bound ho0)) (fun k_ hk_ => (Nat.le_trans (below_size (by repeat (first | (with_reducible first | exact HB.out | apply below_alloc | apply pw_below_drewN | apply below_drew1) | exact HB.out))) hk_.2.1))) (below_size (by repeat (first | (with_reducible first | exact HB.out | apply below_alloc | apply pw_below_drewN | apply below_drew1) | exact HB.out)))); have n1_ := Aside0.mk (below_step (by repeat (first | (with_reducible first | exact HB.out | apply below_alloc | apply pw_below_drewN | apply below_drew1) | exact HB.out)) hb); clear HB; have HO169 := n0_; have HB := n1_; clear n0_ n1_; (try clear hb); (try clear hb2); (try clear hk); (try clear hi); (try clear ho0)))
    go_ret2
    exact ⟨_, by first | rfl | (simp [errW_none, errW_some] <;> rfl) | (simp [*, errW_none, errW_some] <;> rfl), by first | exact Kd.S_nil _ _ _ _ _ | exact Kd.N_nil _ _ _ _ _ | exact Kd.V_nil _ _ _ _ _ | exact Kd.Q_nil _ _ _ _ _ | exact Kd.R_nil _ _ _ _ _, by repeat (first | (with_reducible first | exact HB.out | apply below_alloc | apply pw_below_drewN | apply below_drew1) | exact HB.out)⟩
  · replace c3 := Bool.eq_false_iff.mpr c3
    subst c3
    have H1 : (impl_UserRecords.l0 k ([] : List (S24)) t166 (t166.length : Int) 0) = some (r1, r2) := by rw [if_neg (show ¬ (false = true) by decide)] at H; exact H
    clear H
    have H := H1
    clear H1
    have H' := Aside0.mk H
    clear H
    go_enter Try.func9, Try.ntmps9
    go_wp2_with (first | ((with_reducible refine gate_callee (f := 13) rfl ?_); refine goesL_ (some 11) rfl rfl Try.func13 (by kernel_rfl) rfl #[.string a0] rfl (by (try simp only [List.map_toArray, List.map_cons, List.map_nil]); first | done | rfl | (simp only [List.length_drop, List.length_take]; rfl)) ?_; (with_reducible refine (dict_NewUserDicRecords.calls k a0 t166 false _ A2.out).mono ?_); rintro e w5 ⟨v168, ev_w5, rfl, he_w5, ho0, hb⟩; (first | (obtain rfl := Own.isErr_false he_w5) | (obtain ⟨et_w5, ex_w5, rfl⟩ := Own.isErr_true he_w5) | skip); refine ⟨_, rfl, ?_⟩; have n0_ := Aside0.mk (Kd.N_lower (Kd.N_mono (ok' := fun k_ => (w.heap.size ≤ k_)) (Kd.S_N (Kd.S_bound ho0)) (fun k_ hk_ => (Nat.le_trans (below_size (by repeat (first | (with_reducible first | exact HB.out | apply below_alloc | apply pw_below_drewN | apply below_drew1) | exact HB.out))) hk_.2.1))) (below_size (by repeat (first | (with_reducible first | exact HB.out | apply below_alloc | apply pw_below_drewN | apply below_drew1) | exact HB.out)))); have n1_ := Aside0.mk (below_step (by repeat (first | (with_reducible first | exact HB.out | apply below_alloc | apply pw_below_drewN | apply below_drew1) | exact HB.out)) hb); clear HB; have HO169 := n0_; have HB := n1_; clear n0_ n1_; (try clear hb); (try clear hb2); (try clear hk); (try clear hi); (try clear ho0); obtain ⟨Ao6, co6, eo6⟩ := Kd.N_slice HO169.out; subst eo6))
    go_loopg [6, 18] k (fun kq v6 v18 w' => ∃ (x6_1 : List (S24)) (x18_1 : Int), v18 = .int .i64 x18_1 ∧ Aside0 (impl_UserRecords.l0 kq x6_1 t166 (t166.length : Int) x18_1 = some (r1, r2)) ∧ Aside0 (kq ≤ k) ∧ Aside0 (Kd.N k24 24 w' w.heap.size (fun k_ => (w.heap.size ≤ k_) ∧ some k_ ≠ ((.slice Ao6 t166.length co6) : Value).ownBlock) v6 x6_1) ∧ Aside0 (Kd.N k44 44 w' w.heap.size (fun k_ => (w.heap.size ≤ k_) ∧ some k_ ≠ (v6 : Value).ownBlock) (.slice Ao6 t166.length co6) t166) ∧ Aside0 (Below w.heap.size w w'))
    case atStart => exact ⟨(([] : List (S24))), (0), (by first | rfl | (simp; done) | (simp [*]; done)), H', ⟨Nat.le_refl _⟩, ⟨by first | exact Kd.S_nil _ _ _ _ _ | exact Kd.N_nil _ _ _ _ _ | exact Kd.V_nil _ _ _ _ _ | exact Kd.Q_nil _ _ _ _ _ | exact Kd.R_nil _ _ _ _ _⟩, ⟨by (with_reducible repeat (first | apply Kd.N_alloc | apply Kd.N_drewN | apply Kd.N_drew)); exact Kd.N_mono HO169.out (fun _ hk => ⟨hk, (by simp [Value.ownBlock])⟩)⟩, ⟨by repeat (first | (with_reducible first | exact HB.out | apply below_alloc | apply pw_below_drewN | apply below_drew1) | exact HB.out)⟩⟩
    case round =>
      clear H'
      try clear c1
      try clear p2
      try clear c3
      obtain ⟨x6_1, x18_1, rfl, HA, HK1, HO_6, HO_16, HB⟩ := hrel
      cases gk with
      | zero => exact absurd HA.out (by simp [impl_UserRecords.l0])
      | succ k1 =>
        have H := HA.out
        clear HA
        simp only [impl_UserRecords.l0] at H
        by_cases c7 : x18_1 < (t166.length : Int)
        · rw [if_pos c7] at H
          have c7b0 : decide (x18_1 < (t166.length : Int)) = true := decide_eq_true c7
          clear c7
          by_cases c8 : 0 ≤ x18_1
          · rw [if_pos c8] at H
            have c8b0 : decide (0 ≤ x18_1) = true := decide_eq_true c8
            clear c8
            by_cases c9 : x18_1 < (t166.length : Int)
            · rw [if_pos c9] at H
              have c9b0 : decide (x18_1 < (t166.length : Int)) = true := decide_eq_true c9
              clear c9
              by_cases c10 : x6_1.length < 1759218604441
              · rw [if_pos c10] at H
                have LMc10 := Aside0.mk c10
                clear c10
                obtain ⟨y172, hy172⟩ : ∃ y_ : List (S24), y_ = (x6_1 ++ [(⟨(rd_T44 t166 x18_1).f0, (rd_T44 t166 x18_1).f1, (rd_T44 t166 x18_1).f2, (rd_T44 t166 x18_1).f3⟩ : S24)]) := ⟨_, rfl⟩
                replace H : (impl_UserRecords.l0 k1 y172 t166 (t166.length : Int) (wrap64 (x18_1 + 1))) = some (r1, r2) := by first | (rw [hy172]; with_reducible exact H) | (have H2_ := (Option.bind_some _ _).symm.trans H; rw [hy172]; with_reducible exact H2_) | (have H2_ := (Option.bind_some _ _).symm.trans H; with_reducible exact H2_) | with_reducible exact H | (rw [hy172]; exact H) | exact H
                have Ny172 := Aside0.mk hy172
                clear hy172
                have H' := Aside0.mk H
                clear H
                have p170 : 0 ≤ (x18_1 : Int) := of_decide_eq_true (by first | (with_reducible assumption) | assumption)
                have q170 : x18_1 < (t166.length : Int) := of_decide_eq_true (by first | (with_reducible assumption) | assumption)
                obtain ⟨ad170, A170_1, c170_1, A170_2, c170_2, e170, hx170_0, hx170_1, hx170_2, hx170_3, hl170_1, hi170_1, hl170_2, hi170_2⟩ := at_T44 (Kd.N_reads' HO_16.out).2.2 x18_1 p170 q170
                cases e170
                obtain ⟨ce170, hce170, hMe170, hcc170⟩ := Kd.N_get HO_16.out z44 x18_1 p170 (by first | exact q170 | exact of_decide_eq_true (by first | (with_reducible assumption) | assumption) | (have e_ := (Kd.N_reads' HO_16.out).1; omega))
                obtain ⟨ua170_1, uc170_1, ua170_2, uc170_2, rfl, ul170_1, ge170_1, ul170_2, ge170_2⟩ := k44_openF hMe170
                have hv170_1 := hcc170 1 _ rfl
                rw [add_field _ _ 1 (by omega)] at hv170_1
                replace hv170_1 := Option.some.inj (hv170_1.symm.trans hx170_1)
                injection hv170_1 with hva_ hvn_ hvc_
                rw [hva_] at ge170_1
                rw [hvc_] at ul170_1
                have HL170_1 := Aside0.mk (show Kd.V Kd.string 9 _ w.heap.size _ _ ((rd_T44 t166 x18_1).f1) from Kd.V_mk ul170_1 ge170_1)
                clear hva_ hvn_ hvc_ ge170_1 ul170_1
                have hv170_2 := hcc170 2 _ rfl
                rw [add_field _ _ 2 (by omega)] at hv170_2
                replace hv170_2 := Option.some.inj (hv170_2.symm.trans hx170_2)
                injection hv170_2 with hva_ hvn_ hvc_
                rw [hva_] at ge170_2
                rw [hvc_] at ul170_2
                have HL170_2 := Aside0.mk (show Kd.V Kd.string 9 _ w.heap.size _ _ ((rd_T44 t166 x18_1).f2) from Kd.V_mk ul170_2 ge170_2)
                clear hva_ hvn_ hvc_ ge170_2 ul170_2
                clear hcc170 hce170
                have HR170_1 := Aside0.mk hi170_1
                have HC170_1 := Aside0.mk hl170_1
                clear hi170_1 hl170_1
                have HR170_2 := Aside0.mk hi170_2
                have HC170_2 := Aside0.mk hl170_2
                clear hi170_2 hl170_2
                replace p170 := eq_true p170
                replace q170 := eq_true q170
                go_wp2_with (first | ((with_reducible refine gate_dst (N := 8) rfl ?_); refine box_event ?hg (N := 8) ?hd (cs := #[.string (⟨#[]⟩ : ByteArray), .slice none 0 0, .slice none 0 0, .string (⟨#[]⟩ : ByteArray)]) (t := 44) ?hr ?_; (case hd => rfl); (case hg => rfl); (case hr => first | (go_simp; done) | (go_simp; rfl)); intro gb171 hg w11 hbox hb; have n0_ := Aside0.mk (Kd.N_below (Kd.N_elderB (by (with_reducible repeat (first | apply Kd.N_alloc | apply Kd.N_drewN | apply Kd.N_drew)); exact HO_6.out) gb171 (Nat.le_of_eq hg.symm)) hb); have n1_ := Aside0.mk (Kd.N_below (Kd.N_elderB (by (with_reducible repeat (first | apply Kd.N_alloc | apply Kd.N_drewN | apply Kd.N_drew)); exact HO_16.out) gb171 (Nat.le_of_eq hg.symm)) hb); have n2_ := Aside0.mk (Kd.V_below (Kd.V_elderB (by (with_reducible repeat (first | apply Kd.V_alloc | apply Kd.V_drewN | apply Kd.V_drew)); exact HL170_1.out) gb171 (Nat.le_of_eq hg.symm)) hb); have n3_ := Aside0.mk (Kd.V_below (Kd.V_elderB (by (with_reducible repeat (first | apply Kd.V_alloc | apply Kd.V_drewN | apply Kd.V_drew)); exact HL170_2.out) gb171 (Nat.le_of_eq hg.symm)) hb); have n4_ := Aside0.mk (Kd.C_below (by repeat (first | (with_reducible exact HR170_1.out) | (with_reducible refine Kd.C_alloc ?_ _) | (with_reducible refine Kd.C_drewN ?_ _) | (with_reducible refine Kd.C_drew ?_) | exact HR170_1.out)) hb); have n5_ := Aside0.mk (Kd.C_below (by repeat (first | (with_reducible exact HR170_2.out) | (with_reducible refine Kd.C_alloc ?_ _) | (with_reducible refine Kd.C_drewN ?_ _) | (with_reducible refine Kd.C_drew ?_) | exact HR170_2.out)) hb); have n6_ := Aside0.mk (below_step (by repeat (first | (with_reducible first | exact HB.out | apply below_alloc | apply pw_below_drewN | apply below_drew1) | exact HB.out)) hb); have n7_ := Aside0.mk (hbox); have n8_ := Aside0.mk ((by rw [hg]; exact (below_size (by repeat (first | (with_reducible first | exact HB.out | apply below_alloc | apply pw_below_drewN | apply below_drew1) | exact HB.out))) : w.heap.size ≤ gb171)); have n9_ := Aside0.mk ((by rw [hg]; exact (below_size (by repeat (first | (with_reducible first | exact HB.out | apply below_alloc | apply pw_below_drewN | apply below_drew1) | exact HB.out))) : w.heap.size ≤ gb171)); clear HO_6; clear HO_16; clear HL170_1; clear HL170_2; clear HR170_1; clear HR170_2; clear HB; have HO_6 := n0_; have HO_16 := n1_; have HL170_1 := n2_; have HL170_2 := n3_; have HR170_1 := n4_; have HR170_2 := n5_; have HB := n6_; have BK171 := n7_; have GW171 := n8_; have GE171 := n9_; clear n0_ n1_ n2_ n3_ n4_ n5_ n6_ n7_ n8_ n9_; clear hb hbox hg; have hcz12_0 : w11.cell? ⟨gb171, 0, none⟩ = some (.string (⟨#[]⟩ : ByteArray)) := (blk_cell BK171.out 0).trans rfl; have hcz12_1 : w11.cell? ⟨gb171, 1, none⟩ = some (.slice none 0 0) := (blk_cell BK171.out 1).trans rfl; have hcz12_2 : w11.cell? ⟨gb171, 2, none⟩ = some (.slice none 0 0) := (blk_cell BK171.out 2).trans rfl; have hcz12_3 : w11.cell? ⟨gb171, 3, none⟩ = some (.string (⟨#[]⟩ : ByteArray)) := (blk_cell BK171.out 3).trans rfl; have hfz12_0 := blk_frozen BK171.out 0; have hfz12_1 := blk_frozen BK171.out 1; have hfz12_2 := blk_frozen BK171.out 2; have hfz12_3 := blk_frozen BK171.out 3) | ((with_reducible refine gate_store (t := 44) (p := 8) rfl ?_); refine store_event (t := 44) (p := 8) (v := ?vo_w13) (w1 := ((((w11.setCell ⟨gb171, 0, none⟩ (.string ((rd_T44 t166 x18_1).f0))).setCell ⟨gb171, 1, none⟩ (.slice A170_1 ((rd_T44 t166 x18_1).f1).length c170_1)).setCell ⟨gb171, 2, none⟩ (.slice A170_2 ((rd_T44 t166 x18_1).f2).length c170_2)).setCell ⟨gb171, 3, none⟩ (.string ((rd_T44 t166 x18_1).f3)))) ?hg ?ho ?hn ?hr ?_; (case ho => rfl); (case hg => rfl); (case hn => rfl); (case hr => first | (go_simp; done) | (go_simp; rfl)); intro w13 hw; have n0_ : Aside0 (Kd.N k24 24 w13 w.heap.size (fun k_ => (w.heap.size ≤ k_) ∧ some k_ ≠ (.slice (some ad170) t166.length co6 : Value).ownBlock ∧ k_ ≠ gb171) u6 x6_1) := ⟨(by rw [hw]; exact (by (with_reducible repeat (first | apply Kd.N_alloc | apply Kd.N_drewN | apply Kd.N_drew)); exact Kd.N_mono (Kd.N_far (p := ⟨gb171, 3, none⟩) (Kd.N_far (p := ⟨gb171, 2, none⟩) (Kd.N_far (p := ⟨gb171, 1, none⟩) (Kd.N_far (p := ⟨gb171, 0, none⟩) (Kd.N_mono HO_6.out (fun k_ hk => (⟨hk, hk.2⟩ : _ ∧ k_ ≠ gb171))) (fun _ hk => hk.2) (.string ((rd_T44 t166 x18_1).f0))) (fun _ hk => hk.2) (.slice A170_1 ((rd_T44 t166 x18_1).f1).length c170_1)) (fun _ hk => hk.2) (.slice A170_2 ((rd_T44 t166 x18_1).f2).length c170_2)) (fun _ hk => hk.2) (.string ((rd_T44 t166 x18_1).f3))) (fun _ hk => ⟨hk.1.1.1, ⟨hk.1.1.2, hk.1.2⟩⟩)))⟩; have n1_ : Aside0 (Kd.N k44 44 w13 w.heap.size (fun k_ => (w.heap.size ≤ k_) ∧ some k_ ≠ (u6 : Value).ownBlock ∧ k_ ≠ gb171) (.slice (some ad170) t166.length co6) t166) := ⟨(by rw [hw]; exact (by (with_reducible repeat (first | apply Kd.N_alloc | apply Kd.N_drewN | apply Kd.N_drew)); exact Kd.N_mono (Kd.N_far (p := ⟨gb171, 3, none⟩) (Kd.N_far (p := ⟨gb171, 2, none⟩) (Kd.N_far (p := ⟨gb171, 1, none⟩) (Kd.N_far (p := ⟨gb171, 0, none⟩) (Kd.N_mono HO_16.out (fun k_ hk => (⟨hk, hk.2⟩ : _ ∧ k_ ≠ gb171))) (fun _ hk => hk.2) (.string ((rd_T44 t166 x18_1).f0))) (fun _ hk => hk.2) (.slice A170_1 ((rd_T44 t166 x18_1).f1).length c170_1)) (fun _ hk => hk.2) (.slice A170_2 ((rd_T44 t166 x18_1).f2).length c170_2)) (fun _ hk => hk.2) (.string ((rd_T44 t166 x18_1).f3))) (fun _ hk => ⟨hk.1.1.1, ⟨hk.1.1.2, hk.1.2⟩⟩)))⟩; have n2_ : Aside0 (Kd.V Kd.string 9 w13 w.heap.size (fun k_ => (w.heap.size ≤ k_) ∧ some k_ ≠ (u6 : Value).ownBlock ∧ some k_ ≠ (.slice (some ad170) t166.length co6 : Value).ownBlock ∧ k_ ≠ gb171) (.slice A170_1 ((rd_T44 t166 x18_1).f1).length c170_1) ((rd_T44 t166 x18_1).f1)) := ⟨(by rw [hw]; exact (by (with_reducible repeat (first | apply Kd.V_alloc | apply Kd.V_drewN | apply Kd.V_drew)); exact Kd.V_mono (Kd.V_far (p := ⟨gb171, 3, none⟩) (Kd.V_far (p := ⟨gb171, 2, none⟩) (Kd.V_far (p := ⟨gb171, 1, none⟩) (Kd.V_far (p := ⟨gb171, 0, none⟩) (Kd.V_mono HL170_1.out (fun k_ hk => (⟨hk, hk.2⟩ : _ ∧ k_ ≠ gb171))) (fun _ hk => hk.2) (.string ((rd_T44 t166 x18_1).f0))) (fun _ hk => hk.2) (.slice A170_1 ((rd_T44 t166 x18_1).f1).length c170_1)) (fun _ hk => hk.2) (.slice A170_2 ((rd_T44 t166 x18_1).f2).length c170_2)) (fun _ hk => hk.2) (.string ((rd_T44 t166 x18_1).f3))) (fun _ hk => ⟨hk.1.1.1.1, ⟨hk.1.1.1.2, ⟨hk.1.1.2, hk.1.2⟩⟩⟩)))⟩; have n3_ : Aside0 (Kd.V Kd.string 9 w13 w.heap.size (fun k_ => (w.heap.size ≤ k_) ∧ some k_ ≠ (u6 : Value).ownBlock ∧ some k_ ≠ (.slice (some ad170) t166.length co6 : Value).ownBlock ∧ k_ ≠ gb171) (.slice A170_2 ((rd_T44 t166 x18_1).f2).length c170_2) ((rd_T44 t166 x18_1).f2)) := ⟨(by rw [hw]; exact (by (with_reducible repeat (first | apply Kd.V_alloc | apply Kd.V_drewN | apply Kd.V_drew)); exact Kd.V_mono (Kd.V_far (p := ⟨gb171, 3, none⟩) (Kd.V_far (p := ⟨gb171, 2, none⟩) (Kd.V_far (p := ⟨gb171, 1, none⟩) (Kd.V_far (p := ⟨gb171, 0, none⟩) (Kd.V_mono HL170_2.out (fun k_ hk => (⟨hk, hk.2⟩ : _ ∧ k_ ≠ gb171))) (fun _ hk => hk.2) (.string ((rd_T44 t166 x18_1).f0))) (fun _ hk => hk.2) (.slice A170_1 ((rd_T44 t166 x18_1).f1).length c170_1)) (fun _ hk => hk.2) (.slice A170_2 ((rd_T44 t166 x18_1).f2).length c170_2)) (fun _ hk => hk.2) (.string ((rd_T44 t166 x18_1).f3))) (fun _ hk => ⟨hk.1.1.1.1, ⟨hk.1.1.1.2, ⟨hk.1.1.2, hk.1.2⟩⟩⟩)))⟩; have n4_ : Aside0 (w13.heap[gb171]? = some (.cells #[.string ((rd_T44 t166 x18_1).f0), .slice A170_1 ((rd_T44 t166 x18_1).f1).length c170_1, .slice A170_2 ((rd_T44 t166 x18_1).f2).length c170_2, .string ((rd_T44 t166 x18_1).f3)] 44 (0, 0))) := ⟨(by rw [hw]; exact (by (with_reducible repeat (first | refine blk_drewN ?_ _ | refine blk_drew ?_ | refine blk_alloc ?_ _)); refine blk_put (cs := #[.string ((rd_T44 t166 x18_1).f0), .slice A170_1 ((rd_T44 t166 x18_1).f1).length c170_1, .slice A170_2 ((rd_T44 t166 x18_1).f2).length c170_2, .string (⟨#[]⟩ : ByteArray)]) ?_ 3 _ rfl; (with_reducible repeat (first | refine blk_drewN ?_ _ | refine blk_drew ?_ | refine blk_alloc ?_ _)); refine blk_put (cs := #[.string ((rd_T44 t166 x18_1).f0), .slice A170_1 ((rd_T44 t166 x18_1).f1).length c170_1, .slice none 0 0, .string (⟨#[]⟩ : ByteArray)]) ?_ 2 _ rfl; (with_reducible repeat (first | refine blk_drewN ?_ _ | refine blk_drew ?_ | refine blk_alloc ?_ _)); refine blk_put (cs := #[.string ((rd_T44 t166 x18_1).f0), .slice none 0 0, .slice none 0 0, .string (⟨#[]⟩ : ByteArray)]) ?_ 1 _ rfl; (with_reducible repeat (first | refine blk_drewN ?_ _ | refine blk_drew ?_ | refine blk_alloc ?_ _)); refine blk_put (cs := #[.string (⟨#[]⟩ : ByteArray), .slice none 0 0, .slice none 0 0, .string (⟨#[]⟩ : ByteArray)]) ?_ 0 _ rfl; (with_reducible repeat (first | refine blk_drewN ?_ _ | refine blk_drew ?_ | refine blk_alloc ?_ _)); exact BK171.out))⟩; have n5_ : Aside0 (Below w.heap.size w w13) := ⟨(by rw [hw]; exact (by repeat (first | (with_reducible first | exact HB.out | apply below_alloc | apply pw_below_drewN | apply below_drew1 | refine below_set ?_ GE171.out) | exact HB.out)))⟩; clear hw; clear HO_6; clear HO_16; clear HL170_1; clear HL170_2; clear BK171; clear HB; have HO_6 := n0_; have HO_16 := n1_; have HL170_1 := n2_; have HL170_2 := n3_; have BK171 := n4_; have HB := n5_; clear n0_ n1_ n2_ n3_ n4_ n5_; have hcz14_0 : w13.cell? ⟨gb171, 0, none⟩ = some (.string ((rd_T44 t166 x18_1).f0)) := (blk_cell BK171.out 0).trans rfl; have hcz14_1 : w13.cell? ⟨gb171, 1, none⟩ = some (.slice A170_1 ((rd_T44 t166 x18_1).f1).length c170_1) := (blk_cell BK171.out 1).trans rfl; have hcz14_2 : w13.cell? ⟨gb171, 2, none⟩ = some (.slice A170_2 ((rd_T44 t166 x18_1).f2).length c170_2) := (blk_cell BK171.out 2).trans rfl; have hcz14_3 : w13.cell? ⟨gb171, 3, none⟩ = some (.string ((rd_T44 t166 x18_1).f3)) := (blk_cell BK171.out 3).trans rfl; have hfz14_0 := blk_frozen BK171.out 0; have hfz14_1 := blk_frozen BK171.out 1; have hfz14_2 := blk_frozen BK171.out 2; have hfz14_3 := blk_frozen BK171.out 3) | ((with_reducible refine gate_builtin (b := .append) (xs := #[.tmp 22, .tmp 32]) rfl ?_); at_builtin; refine Kd.N_append k24 (w0 := w) w.heap.size rfl (.tmp 22) (.tmp 32) 27 24 (.agg #[(.string ⟨#[]⟩), (.slice none 0 0), (.slice none 0 0), (.string ⟨#[]⟩)]) 80 rfl Try.underlying27 info24 rfl (by decide) (by omega) u6 x6_1 (⟨(rd_T44 t166 x18_1).f0, (rd_T44 t166 x18_1).f1, (rd_T44 t166 x18_1).f2, (rd_T44 t166 x18_1).f3⟩ : S24) [.string ((rd_T44 t166 x18_1).f0), .slice A170_1 ((rd_T44 t166 x18_1).f1).length c170_1, .slice A170_2 ((rd_T44 t166 x18_1).f2).length c170_2, .string ((rd_T44 t166 x18_1).f3)] (fun k_ => (w.heap.size ≤ k_) ∧ some k_ ≠ (.slice (some ad170) t166.length co6 : Value).ownBlock ∧ k_ ≠ gb171) (fun k_ => ((fun k_ => (w.heap.size ≤ k_) ∧ some k_ ≠ (.slice (some ad170) t166.length co6 : Value).ownBlock ∧ k_ ≠ gb171)) k_ ∧ some k_ ≠ (u6 : Value).ownBlock) rfl rfl ?aP (fun _ hk => hk) ?aF ?aO ?aB ?aS ?aL ?_; (case aP => exact (k24_mkF _ _ (⟨(rd_T44 t166 x18_1).f0, (rd_T44 t166 x18_1).f1, (rd_T44 t166 x18_1).f2, (rd_T44 t166 x18_1).f3⟩ : S24) (Kd.V_reads' (Kd.V_mono (ok' := (fun k_ => ((fun k_ => (w.heap.size ≤ k_) ∧ some k_ ≠ (.slice (some ad170) t166.length co6 : Value).ownBlock ∧ k_ ≠ gb171)) k_ ∧ some k_ ≠ (u6 : Value).ownBlock)) (HL170_1.out) (fun k_ hk => ⟨⟨hk.1, ⟨hk.2.2.1, hk.2.2.2⟩⟩, hk.2.1⟩))).2.1 (Kd.V_F (Kd.V_mono (ok' := (fun k_ => ((fun k_ => (w.heap.size ≤ k_) ∧ some k_ ≠ (.slice (some ad170) t166.length co6 : Value).ownBlock ∧ k_ ≠ gb171)) k_ ∧ some k_ ≠ (u6 : Value).ownBlock)) (HL170_1.out) (fun k_ hk => ⟨⟨hk.1, ⟨hk.2.2.1, hk.2.2.2⟩⟩, hk.2.1⟩))) (Kd.V_reads' (Kd.V_mono (ok' := (fun k_ => ((fun k_ => (w.heap.size ≤ k_) ∧ some k_ ≠ (.slice (some ad170) t166.length co6 : Value).ownBlock ∧ k_ ≠ gb171)) k_ ∧ some k_ ≠ (u6 : Value).ownBlock)) (HL170_2.out) (fun k_ hk => ⟨⟨hk.1, ⟨hk.2.2.1, hk.2.2.2⟩⟩, hk.2.1⟩))).2.1 (Kd.V_F (Kd.V_mono (ok' := (fun k_ => ((fun k_ => (w.heap.size ≤ k_) ∧ some k_ ≠ (.slice (some ad170) t166.length co6 : Value).ownBlock ∧ k_ ≠ gb171)) k_ ∧ some k_ ≠ (u6 : Value).ownBlock)) (HL170_2.out) (fun k_ hk => ⟨⟨hk.1, ⟨hk.2.2.1, hk.2.2.2⟩⟩, hk.2.1⟩))))); (case aB => exact (by repeat (first | (with_reducible first | exact HB.out | apply below_alloc | apply pw_below_drewN | apply below_drew1 | refine below_set ?_ GE171.out) | exact HB.out))); (case aF => exact (fun k_ hk => ⟨(Nat.le_trans (below_size (by repeat (first | (with_reducible first | exact HB.out | apply below_alloc | apply pw_below_drewN | apply below_drew1 | refine below_set ?_ GE171.out) | exact HB.out))) hk), Kd.fresh' (Kd.N_lt (by (with_reducible repeat (first | apply Kd.N_alloc | apply Kd.N_drewN | apply Kd.N_drew)); exact HO_16.out)) k_ hk, Kd.freshB (g := gb171) (o := .cells #[.string ((rd_T44 t166 x18_1).f0), .slice A170_1 ((rd_T44 t166 x18_1).f1).length c170_1, .slice A170_2 ((rd_T44 t166 x18_1).f2).length c170_2, .string ((rd_T44 t166 x18_1).f3)] 44 (0, 0)) (by (with_reducible repeat (first | refine blk_drewN ?_ _ | refine blk_drew ?_ | refine blk_alloc ?_ _)); exact BK171.out) k_ hk⟩)); (case aO => exact (by (with_reducible repeat (first | apply Kd.N_alloc | apply Kd.N_drewN | apply Kd.N_drew)); exact HO_6.out)); (case aS => exact (below_size (by repeat (first | (with_reducible first | exact HB.out | apply below_alloc | apply pw_below_drewN | apply below_drew1 | refine below_set ?_ GE171.out) | exact HB.out)))); (case aL => have := LMc10.out; omega); intro v173 w15 ho hb hg hat; rw [← Ny172.out] at ho; have n0_ := Aside0.mk (Kd.N_afterv (ok := (fun k_ => (w.heap.size ≤ k_) ∧ k_ ≠ gb171)) (by (with_reducible repeat (first | apply Kd.N_alloc | apply Kd.N_drewN | apply Kd.N_drew)); exact Kd.N_mono HO_16.out (fun _ hk => ⟨⟨hk.1, hk.2.2⟩, hk.2.1⟩)) hg hat); have n1_ := Aside0.mk (Kd.V_afterv (ok := (fun k_ => (w.heap.size ≤ k_) ∧ some k_ ≠ (.slice (some ad170) t166.length co6 : Value).ownBlock ∧ k_ ≠ gb171)) (by (with_reducible repeat (first | apply Kd.V_alloc | apply Kd.V_drewN | apply Kd.V_drew)); exact Kd.V_mono HL170_1.out (fun _ hk => ⟨⟨hk.1, ⟨hk.2.2.1, hk.2.2.2⟩⟩, hk.2.1⟩)) hg hat); have n2_ := Aside0.mk (Kd.V_afterv (ok := (fun k_ => (w.heap.size ≤ k_) ∧ some k_ ≠ (.slice (some ad170) t166.length co6 : Value).ownBlock ∧ k_ ≠ gb171)) (by (with_reducible repeat (first | apply Kd.V_alloc | apply Kd.V_drewN | apply Kd.V_drew)); exact Kd.V_mono HL170_2.out (fun _ hk => ⟨⟨hk.1, ⟨hk.2.2.1, hk.2.2.2⟩⟩, hk.2.1⟩)) hg hat); have n3_ := Aside0.mk (blk_grown (g := gb171) (o := .cells #[.string ((rd_T44 t166 x18_1).f0), .slice A170_1 ((rd_T44 t166 x18_1).f1).length c170_1, .slice A170_2 ((rd_T44 t166 x18_1).f2).length c170_2, .string ((rd_T44 t166 x18_1).f3)] 44 (0, 0)) (by (with_reducible repeat (first | refine blk_drewN ?_ _ | refine blk_drew ?_ | refine blk_alloc ?_ _)); exact BK171.out) hg (Kd.N_ne HO_6.out BK171.out (by decide))); have n4_ := Aside0.mk (hb); have n5_ := Aside0.mk (ho); clear HO_16; clear HL170_1; clear HL170_2; clear BK171; clear HB; clear HO_6; have HO_16 := n0_; have HL170_1 := n1_; have HL170_2 := n2_; have BK171 := n3_; have HB := n4_; have HO174 := n5_; clear n0_ n1_ n2_ n3_ n4_ n5_; clear ho hb hg hat))
                go_roundg k1
                case measure => have := HK1.out; omega
                case rel => exact ⟨(y172), (wrap64 (x18_1 + 1)), (by first | rfl | (simp; done) | (simp [*]; done)), H', ⟨by have := HK1.out; omega⟩, ⟨by (with_reducible repeat (first | apply Kd.N_alloc | apply Kd.N_drewN | apply Kd.N_drew)); exact Kd.N_mono HO174.out (fun _ hk => ⟨hk.1, hk.2.1⟩)⟩, ⟨by (with_reducible repeat (first | apply Kd.N_alloc | apply Kd.N_drewN | apply Kd.N_drew)); exact Kd.N_mono HO_16.out (fun _ hk => ⟨hk.1.1, hk.2⟩)⟩, ⟨by repeat (first | (with_reducible first | exact HB.out | apply below_alloc | apply pw_below_drewN | apply below_drew1 | refine below_set ?_ GE171.out) | exact HB.out)⟩⟩
              · rw [if_neg c10] at H
                exact absurd H (by simp)
            · rw [if_neg c9] at H
              exact absurd H (by simp)
          · rw [if_neg c8] at H
            exact absurd H (by simp)
        · rw [if_neg c7] at H
          have c7b0 : decide (x18_1 < (t166.length : Int)) = false := decide_eq_false c7
          clear c7
          simp only [Option.some.injEq, Prod.mk.injEq] at H
          obtain ⟨rfl, rfl⟩ := H
          go_wp2
          go_ret2
          exact ⟨_, by first | rfl | (simp [errW_none, errW_some] <;> rfl) | (simp [*, errW_none, errW_some] <;> rfl), by (with_reducible repeat (first | apply Kd.N_alloc | apply Kd.N_drewN | apply Kd.N_drew)); exact Kd.N_mono HO_6.out (fun _ hk => hk.1), by repeat (first | (with_reducible first | exact HB.out | apply below_alloc | apply pw_below_drewN | apply below_drew1) | exact HB.out)⟩

end Go.Proofs.Ytckdpckdabfkbab.PA
