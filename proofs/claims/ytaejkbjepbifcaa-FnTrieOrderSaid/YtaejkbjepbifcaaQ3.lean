/- The walks over tries and what they compute: part 3 of several, put together by a program. -/
import Derived.Test.YtaejkbjepbifcaaQ0
import Derived.Test.YtaejkbjepbifcaaQ1
import Derived.Test.YtaejkbjepbifcaaQ2
namespace Go.Proofs.Ytaejkbjepbifcaa.PB
open Go.RowKit Go.Proofs.YtaejkbjepbifcaaW.PrintWords Go.Proofs.YtaejkbjepbifcaaW.PrintLast Go.Proofs.YtaejkbjepbifcaaW.PrintMore
attribute [local go_sem] max2_int min2_int max_two min_two max_three min_three max_four min_four   -- for this text's walks alone
set_option linter.unusedVariables false
set_option linter.unusedSimpArgs false

/-! ### spec_Half: function 31 -/
def spec_Half.l0 : Nat → ByteArray → Bool → List ByteArray → Int → Int → Option (Bool)
 | 0, _, _, _, _, _ => none
 | k + 1, x1, x5, x8, x9, x10 => if x10 < x9 then (if 0 ≤ x10 then (if x10 < (x8.length : Int) then (if (rdOf ByteArray.empty x8 x10).toList = x1.toList then (if x1.toList = ([] : List UInt8) then (if x5 = true then (spec_Half.l0 k x1 true x8 x9 (wrap64 (x10 + 1))) else ((spec_dBegins.f (rdOf ByteArray.empty x8 x10) x1).bind fun t144 => (spec_Half.l0 k x1 t144 x8 x9 (wrap64 (x10 + 1))))) else (some false)) else (if x5 = true then (spec_Half.l0 k x1 true x8 x9 (wrap64 (x10 + 1))) else ((spec_dBegins.f (rdOf ByteArray.empty x8 x10) x1).bind fun t145 => (spec_Half.l0 k x1 t145 x8 x9 (wrap64 (x10 + 1)))))) else (none)) else (none)) else (some x5)
def spec_Half.f (k : Nat) (l0 : List ByteArray) (a1 : ByteArray) : Option (Bool) := spec_Half.l0 k a1 false l0 (l0.length : Int) 0
theorem spec_Half.mono_l : ∀ k, (∀ y0 y1 y2 y3 y4, LeO (spec_Half.l0 k y0 y1 y2 y3 y4) (spec_Half.l0 (k + 1) y0 y1 y2 y3 y4))
 | 0 => fun _ _ _ _ _ r h => by simp [spec_Half.l0] at h
 | k + 1 => by
  have ih0 := spec_Half.mono_l k
  ·intro y0 y1 y2 y3 y4
   unfold spec_Half.l0
   repeat' first
   | (with_reducible exact ih0 _ _ _ _ _)
   | (with_reducible exact LeO.refl _)
   | (with_reducible exact LeO.none _)
   | (with_reducible refine LeO.ite ?_ ?_)
   | (with_reducible refine LeO.bind ?_ (fun _ => ?_))
   | exact ih0 _ _ _ _ _
   | exact LeO.none _
   | refine LeO.ite ?_ ?_
   | refine LeO.bind ?_ (fun _ => ?_)
theorem spec_Half.mono : ∀ a0 a1 k, LeO (spec_Half.f k a0 a1) (spec_Half.f (k + 1) a0 a1) := by
 intro a0 a1 k
 have ih0 := spec_Half.mono_l k
 unfold spec_Half.f
 repeat' first
   | (with_reducible exact ih0 _ _ _ _ _)
   | (with_reducible exact LeO.refl _)
   | (with_reducible exact LeO.none _)
   | (with_reducible refine LeO.ite ?_ ?_)
   | (with_reducible refine LeO.bind ?_ (fun _ => ?_))
   | exact ih0 _ _ _ _ _
   | exact LeO.none _
   | refine LeO.ite ?_ ?_
   | refine LeO.bind ?_ (fun _ => ?_)
set_option maxHeartbeats 8000000 in
set_option maxRecDepth 100000 in
theorem spec_Half.calls (k : Nat) (A0 : Option Addr) (c0 : Nat) (l0 : List ByteArray) (a1 : ByteArray) (r : Bool) (w : World) (hr0 : Kd.C Kd.string w A0 l0.length l0) (hc0 : l0.length ≤ c0) (h : spec_Half.f k l0 a1 = some r) :
  Calls Try.prog 31 #[.slice A0 l0.length c0, .string a1] w fun e w' => e = .returned (.bool r) ∧ Drawn0 w w' := by
 have HR0 := Aside0.mk hr0
 have HC0 := Aside0.mk hc0
 clear hr0 hc0
 have H : (spec_Half.l0 k a1 false l0 (l0.length : Int) 0) = some r := h
 clear h
 have H' := Aside0.mk H
 clear H
 go_enter Try.func31, Try.ntmps31
 go_wp2
 go_loopg [5, 10] k (fun kq v5 v10 w' => ∃ (x5_1 : Bool) (x10_1 : Int), v5 = .bool x5_1 ∧ v10 = .int .i64 x10_1 ∧ Aside0 (spec_Half.l0 kq a1 x5_1 l0 (l0.length : Int) x10_1 = some r) ∧ Aside0 (kq ≤ k) ∧ Drawn0 w w')
 case atStart => exact ⟨(false), (0), (by first | rfl | (simp; done) | (simp [*]; done)), (by first | rfl | (simp; done) | (simp [*]; done)), H', ⟨Nat.le_refl _⟩, by repeat (first | exact Drawn0.refl _ | apply Drawn0.step)⟩
 case round =>
  clear H'
  try clear p2
  obtain ⟨x5_1, x10_1, rfl, rfl, HA, HK1, ⟨m1, rfl⟩⟩ := hrel
  cases gk with
  | zero => exact absurd HA.out (by simp [spec_Half.l0])
  | succ k1 =>
   have H := HA.out
   clear HA
   simp only [spec_Half.l0] at H
   by_cases c3 : x10_1 < (l0.length : Int)
   ·rw [if_pos c3] at H
    have c3b0 : decide (x10_1 < (l0.length : Int)) = true := decide_eq_true c3
    clear c3
    by_cases c4 : 0 ≤ x10_1
    ·rw [if_pos c4] at H
     have c4b0 : decide (0 ≤ x10_1) = true := decide_eq_true c4
     clear c4
     by_cases c5 : x10_1 < (l0.length : Int)
     ·rw [if_pos c5] at H
      have c5b0 : decide (x10_1 < (l0.length : Int)) = true := decide_eq_true c5
      clear c5
      by_cases c6 : (rdOf ByteArray.empty l0 x10_1).toList = a1.toList
      ·rw [if_pos c6] at H
       have c6b0 : ((rdOf ByteArray.empty l0 x10_1).toList == a1.toList) = true := beq_iff_eq.mpr c6
       have c6b1 : ((rdOf ByteArray.empty l0 x10_1).toList != a1.toList) = false := bne_eq_false_iff_eq.mpr c6
       clear c6
       by_cases c7 : a1.toList = ([] : List UInt8)
       ·rw [if_pos c7] at H
        have c7b0 : (a1.toList == ([] : List UInt8)) = true := beq_iff_eq.mpr c7
        have c7b1 : (a1.toList != ([] : List UInt8)) = false := bne_eq_false_iff_eq.mpr c7
        clear c7
        by_cases c8 : x5_1 = true
        ·subst c8
         have H1 : (spec_Half.l0 k1 a1 true l0 (l0.length : Int) (wrap64 (x10_1 + 1))) = some r := by rw [if_pos rfl] at H; exact H
         clear H
         have H := H1
         clear H1
         have H' := Aside0.mk H
         clear H
         have p143 : 0 ≤ (x10_1 : Int) := of_decide_eq_true (by first | (with_reducible assumption) | assumption)
         have q143 : x10_1 < (l0.length : Int) := of_decide_eq_true (by first | (with_reducible assumption) | assumption)
         obtain ⟨ad143, e143, hx143_0⟩ := Kd.at_string HR0.out x10_1 p143 q143
         cases e143
         replace p143 := eq_true p143
         replace q143 := eq_true q143
         go_wp2
         go_roundg k1
         case measure => have := HK1.out; omega
         case rel => exact ⟨(true), (wrap64 (x10_1 + 1)), (by first | rfl | (simp; done) | (simp [*]; done)), (by first | rfl | (simp; done) | (simp [*]; done)), H', ⟨by have := HK1.out; omega⟩, by repeat (first | exact Drawn0.refl _ | apply Drawn0.step)⟩
        ·replace c8 := Bool.eq_false_iff.mpr c8
         subst c8
         have H1 : ((spec_dBegins.f (rdOf ByteArray.empty l0 x10_1) a1).bind fun t144 => (spec_Half.l0 k1 a1 t144 l0 (l0.length : Int) (wrap64 (x10_1 + 1)))) = some r := by rw [if_neg (show ¬ (false = true) by decide)] at H; exact H
         clear H
         have H := H1
         clear H1
         replace H := Option.bind_eq_some_iff.mp H
         obtain ⟨t144, A90, H⟩ := H
         replace H : (spec_Half.l0 k1 a1 t144 l0 (l0.length : Int) (wrap64 (x10_1 + 1))) = some r := H
         have A9 := Aside0.mk A90
         clear A90
         have H' := Aside0.mk H
         clear H
         have p143 : 0 ≤ (x10_1 : Int) := of_decide_eq_true (by first | (with_reducible assumption) | assumption)
         have q143 : x10_1 < (l0.length : Int) := of_decide_eq_true (by first | (with_reducible assumption) | assumption)
         obtain ⟨ad143, e143, hx143_0⟩ := Kd.at_string HR0.out x10_1 p143 q143
         cases e143
         replace p143 := eq_true p143
         replace q143 := eq_true q143
         go_wp2_with (first | (go_at_call 51; (with_reducible refine (spec_dBegins.calls (rdOf ByteArray.empty l0 x10_1) a1 t144 _ A9.out).mono ?_); rintro e w' ⟨rfl, ⟨nd, rfl⟩⟩))
         go_roundg k1
         case measure => have := HK1.out; omega
         case rel => exact ⟨(t144), (wrap64 (x10_1 + 1)), (by first | rfl | (simp; done) | (simp [*]; done)), (by first | rfl | (simp; done) | (simp [*]; done)), H', ⟨by have := HK1.out; omega⟩, by repeat (first | exact Drawn0.refl _ | apply Drawn0.step)⟩
       ·rw [if_neg c7] at H
        have c7b0 : (a1.toList == ([] : List UInt8)) = false := beq_eq_false_iff_ne.mpr c7
        have c7b1 : (a1.toList != ([] : List UInt8)) = true := bne_iff_ne.mpr c7
        obtain rfl := Option.some.inj H
        have p143 : 0 ≤ (x10_1 : Int) := of_decide_eq_true (by first | (with_reducible assumption) | assumption)
        have q143 : x10_1 < (l0.length : Int) := of_decide_eq_true (by first | (with_reducible assumption) | assumption)
        obtain ⟨ad143, e143, hx143_0⟩ := Kd.at_string HR0.out x10_1 p143 q143
        cases e143
        replace p143 := eq_true p143
        replace q143 := eq_true q143
        go_wp2
        go_ret
        exact ⟨by first | rfl | (simp; done) | (simp [*]; done) | (simp [Own.isEmpty_bne]; done), by repeat (first | exact Drawn0.refl _ | apply Drawn0.step)⟩
      ·rw [if_neg c6] at H
       have c6b0 : ((rdOf ByteArray.empty l0 x10_1).toList == a1.toList) = false := beq_eq_false_iff_ne.mpr c6
       have c6b1 : ((rdOf ByteArray.empty l0 x10_1).toList != a1.toList) = true := bne_iff_ne.mpr c6
       by_cases c10 : x5_1 = true
       ·subst c10
        have H1 : (spec_Half.l0 k1 a1 true l0 (l0.length : Int) (wrap64 (x10_1 + 1))) = some r := by rw [if_pos rfl] at H; exact H
        clear H
        have H := H1
        clear H1
        have H' := Aside0.mk H
        clear H
        have p143 : 0 ≤ (x10_1 : Int) := of_decide_eq_true (by first | (with_reducible assumption) | assumption)
        have q143 : x10_1 < (l0.length : Int) := of_decide_eq_true (by first | (with_reducible assumption) | assumption)
        obtain ⟨ad143, e143, hx143_0⟩ := Kd.at_string HR0.out x10_1 p143 q143
        cases e143
        replace p143 := eq_true p143
        replace q143 := eq_true q143
        go_wp2
        go_roundg k1
        case measure => have := HK1.out; omega
        case rel => exact ⟨(true), (wrap64 (x10_1 + 1)), (by first | rfl | (simp; done) | (simp [*]; done)), (by first | rfl | (simp; done) | (simp [*]; done)), H', ⟨by have := HK1.out; omega⟩, by repeat (first | exact Drawn0.refl _ | apply Drawn0.step)⟩
       ·replace c10 := Bool.eq_false_iff.mpr c10
        subst c10
        have H1 : ((spec_dBegins.f (rdOf ByteArray.empty l0 x10_1) a1).bind fun t145 => (spec_Half.l0 k1 a1 t145 l0 (l0.length : Int) (wrap64 (x10_1 + 1)))) = some r := by rw [if_neg (show ¬ (false = true) by decide)] at H; exact H
        clear H
        have H := H1
        clear H1
        replace H := Option.bind_eq_some_iff.mp H
        obtain ⟨t145, A110, H⟩ := H
        replace H : (spec_Half.l0 k1 a1 t145 l0 (l0.length : Int) (wrap64 (x10_1 + 1))) = some r := H
        have A11 := Aside0.mk A110
        clear A110
        have H' := Aside0.mk H
        clear H
        have p143 : 0 ≤ (x10_1 : Int) := of_decide_eq_true (by first | (with_reducible assumption) | assumption)
        have q143 : x10_1 < (l0.length : Int) := of_decide_eq_true (by first | (with_reducible assumption) | assumption)
        obtain ⟨ad143, e143, hx143_0⟩ := Kd.at_string HR0.out x10_1 p143 q143
        cases e143
        replace p143 := eq_true p143
        replace q143 := eq_true q143
        go_wp2_with (first | (go_at_call 51; (with_reducible refine (spec_dBegins.calls (rdOf ByteArray.empty l0 x10_1) a1 t145 _ A11.out).mono ?_); rintro e w' ⟨rfl, ⟨nd, rfl⟩⟩))
        go_roundg k1
        case measure => have := HK1.out; omega
        case rel => exact ⟨(t145), (wrap64 (x10_1 + 1)), (by first | rfl | (simp; done) | (simp [*]; done)), (by first | rfl | (simp; done) | (simp [*]; done)), H', ⟨by have := HK1.out; omega⟩, by repeat (first | exact Drawn0.refl _ | apply Drawn0.step)⟩
     ·rw [if_neg c5] at H
      exact absurd H (by simp)
    ·rw [if_neg c4] at H
     exact absurd H (by simp)
   ·rw [if_neg c3] at H
    have c3b0 : decide (x10_1 < (l0.length : Int)) = false := decide_eq_false c3
    clear c3
    obtain rfl := Option.some.inj H
    go_wp2
    go_ret
    exact ⟨by first | rfl | (simp; done) | (simp [*]; done) | (simp [Own.isEmpty_bne]; done), by repeat (first | exact Drawn0.refl _ | apply Drawn0.step)⟩

/-! ### laws_sameTries: function 20 -/
mutual
def laws_sameTries.j0 : Nat → List (S34) → List (S34) → List ByteArray → List ByteArray → Bool → Option (Bool)
 | 0, _, _, _, _, _ => none
 | k + 1, x0, x1, x2, x3, x21 => if x21 = true then (some false) else (laws_sameTries.l0 k x0 x1 x2 x3 (x0.length : Int) 0)
def laws_sameTries.l0 : Nat → List (S34) → List (S34) → List ByteArray → List ByteArray → Int → Int → Option (Bool)
 | 0, _, _, _, _, _, _ => none
 | k + 1, x0, x1, x2, x3, x23, x24 => if x24 < x23 then (if 0 ≤ x24 then (if x24 < (x0.length : Int) then (if x24 < (x1.length : Int) then (if x24 < (x3.length : Int) then ((spec_Half.f k x2 (rdOf ByteArray.empty x3 x24)).bind fun t149 => ((laws_sameTrie.f k ((rd_T34 x0 x24).f0.f0) ((rd_T34 x0 x24).f0.f1) ((rd_T34 x0 x24).f1.f0) ((rd_T34 x0 x24).f1.f1) ((rd_T34 x0 x24).f2) ((rd_T34 x0 x24).f3) ((rd_T34 x1 x24).f0.f0) ((rd_T34 x1 x24).f0.f1) ((rd_T34 x1 x24).f1.f0) ((rd_T34 x1 x24).f1.f1) ((rd_T34 x1 x24).f2) ((rd_T34 x1 x24).f3) t149).bind fun t150 => (if t150 = true then (laws_sameTries.l0 k x0 x1 x2 x3 x23 (wrap64 (x24 + 1))) else (some false)))) else (none)) else (none)) else (none)) else (none)) else (some true)
end
def laws_sameTries.f (k : Nat) (l0 : List (S34)) (l1 : List (S34)) (l2 : List ByteArray) (l3 : List ByteArray) : Option (Bool) := if (l0.length : Int) = (l1.length : Int) then (laws_sameTries.j0 k l0 l1 l2 l3 ((l0.length : Int) != (l3.length : Int))) else (laws_sameTries.j0 k l0 l1 l2 l3 true)
theorem laws_sameTries.mono_l : ∀ k, (∀ y0 y1 y2 y3 y4, LeO (laws_sameTries.j0 k y0 y1 y2 y3 y4) (laws_sameTries.j0 (k + 1) y0 y1 y2 y3 y4)) ∧ (∀ y0 y1 y2 y3 y4 y5, LeO (laws_sameTries.l0 k y0 y1 y2 y3 y4 y5) (laws_sameTries.l0 (k + 1) y0 y1 y2 y3 y4 y5))
 | 0 => ⟨fun _ _ _ _ _ r h => by simp [laws_sameTries.j0] at h, fun _ _ _ _ _ _ r h => by simp [laws_sameTries.l0] at h⟩
 | k + 1 => by
  obtain ⟨ih0, ih1⟩ := laws_sameTries.mono_l k
  refine ⟨?_, ?_⟩
  ·intro y0 y1 y2 y3 y4
   unfold laws_sameTries.j0
   repeat' first
   | (with_reducible exact ih0 _ _ _ _ _)
   | (with_reducible exact ih1 _ _ _ _ _ _)
   | (with_reducible exact laws_sameTrie.mono _ _ _ _ _ _ _ _ _ _ _ _ _ _)
   | (with_reducible exact spec_Half.mono _ _ _)
   | (with_reducible exact LeO.refl _)
   | (with_reducible exact LeO.none _)
   | (with_reducible refine LeO.ite ?_ ?_)
   | (with_reducible refine LeO.bind ?_ (fun _ => ?_))
   | exact ih0 _ _ _ _ _
   | exact ih1 _ _ _ _ _ _
   | exact laws_sameTrie.mono _ _ _ _ _ _ _ _ _ _ _ _ _ _
   | exact spec_Half.mono _ _ _
   | exact LeO.none _
   | refine LeO.ite ?_ ?_
   | refine LeO.bind ?_ (fun _ => ?_)
  ·intro y0 y1 y2 y3 y4 y5
   unfold laws_sameTries.l0
   repeat' first
   | (with_reducible exact ih0 _ _ _ _ _)
   | (with_reducible exact ih1 _ _ _ _ _ _)
   | (with_reducible exact laws_sameTrie.mono _ _ _ _ _ _ _ _ _ _ _ _ _ _)
   | (with_reducible exact spec_Half.mono _ _ _)
   | (with_reducible exact LeO.refl _)
   | (with_reducible exact LeO.none _)
   | (with_reducible refine LeO.ite ?_ ?_)
   | (with_reducible refine LeO.bind ?_ (fun _ => ?_))
   | exact ih0 _ _ _ _ _
   | exact ih1 _ _ _ _ _ _
   | exact laws_sameTrie.mono _ _ _ _ _ _ _ _ _ _ _ _ _ _
   | exact spec_Half.mono _ _ _
   | exact LeO.none _
   | refine LeO.ite ?_ ?_
   | refine LeO.bind ?_ (fun _ => ?_)
theorem laws_sameTries.mono : ∀ a0 a1 a2 a3 k, LeO (laws_sameTries.f k a0 a1 a2 a3) (laws_sameTries.f (k + 1) a0 a1 a2 a3) := by
 intro a0 a1 a2 a3 k
 obtain ⟨ih0, ih1⟩ := laws_sameTries.mono_l k
 unfold laws_sameTries.f
 repeat' first
   | (with_reducible exact ih0 _ _ _ _ _)
   | (with_reducible exact ih1 _ _ _ _ _ _)
   | (with_reducible exact laws_sameTrie.mono _ _ _ _ _ _ _ _ _ _ _ _ _ _)
   | (with_reducible exact spec_Half.mono _ _ _)
   | (with_reducible exact LeO.refl _)
   | (with_reducible exact LeO.none _)
   | (with_reducible refine LeO.ite ?_ ?_)
   | (with_reducible refine LeO.bind ?_ (fun _ => ?_))
   | exact ih0 _ _ _ _ _
   | exact ih1 _ _ _ _ _ _
   | exact laws_sameTrie.mono _ _ _ _ _ _ _ _ _ _ _ _ _ _
   | exact spec_Half.mono _ _ _
   | exact LeO.none _
   | refine LeO.ite ?_ ?_
   | refine LeO.bind ?_ (fun _ => ?_)
def laws_sameTries.T6 : Bool × List (List Nat × List Nat) := (true, [([], []), ([], []), ([0, 1], [0, 1]), ([2], [2]), ([], []), ([], []), ([4, 5], [4, 5]), ([6], [6]), ([], []), ([], []), ([], []), ([9, 10], [9, 10]), ([11], [11]), ([8, 12], [8, 12]), ([3, 7, 13, 13], [3, 7, 13]), ([14], [14])])
def laws_sameTries.B6 : List Nat := [0, 0, 3, 7, 0, 0, 48, 112, 0, 0, 0, 1536, 3584, 7936, 16383, 32767]
theorem laws_sameTries.tab6 : rtab .any (opsOf Try.f20 6) = laws_sameTries.T6 := by kernel_rfl
theorem laws_sameTries.bits6 : waitsOk laws_sameTries.T6.2 laws_sameTries.B6 = true := by kernel_rfl
set_option maxHeartbeats 8000000 in
set_option maxRecDepth 100000 in
theorem laws_sameTries.calls (k : Nat) (A0 : Option Addr) (c0 : Nat) (l0 : List (S34)) (A1 : Option Addr) (c1 : Nat) (l1 : List (S34)) (A2 : Option Addr) (c2 : Nat) (l2 : List ByteArray) (A3 : Option Addr) (c3 : Nat) (l3 : List ByteArray) (r : Bool) (w : World) (hr0 : Kd.C k34 w A0 l0.length l0) (hc0 : l0.length ≤ c0) (hr1 : Kd.C k34 w A1 l1.length l1) (hc1 : l1.length ≤ c1) (hr2 : Kd.C Kd.string w A2 l2.length l2) (hc2 : l2.length ≤ c2) (hr3 : Kd.C Kd.string w A3 l3.length l3) (hc3 : l3.length ≤ c3) (h : laws_sameTries.f k l0 l1 l2 l3 = some r) :
  Calls Try.prog 20 #[.slice A0 l0.length c0, .slice A1 l1.length c1, .slice A2 l2.length c2, .slice A3 l3.length c3] w fun e w' => e = .returned (.bool r) ∧ Below w.heap.size w w' := by
 have hu34 := Try.underlying34
 have HR0 := Aside0.mk hr0
 have HC0 := Aside0.mk hc0
 clear hr0 hc0
 have HR1 := Aside0.mk hr1
 have HC1 := Aside0.mk hc1
 clear hr1 hc1
 have HR2 := Aside0.mk hr2
 have HC2 := Aside0.mk hc2
 clear hr2 hc2
 have HR3 := Aside0.mk hr3
 have HC3 := Aside0.mk hc3
 clear hr3 hc3
 have HB := Aside0.mk (Below.refl w.heap.size w)
 have H : (if (l0.length : Int) = (l1.length : Int) then (laws_sameTries.j0 k l0 l1 l2 l3 ((l0.length : Int) != (l3.length : Int))) else (laws_sameTries.j0 k l0 l1 l2 l3 true)) = some r := h
 clear h
 have HC5 := Aside0.mk H
 clear H
 go_enter Try.func20, Try.ntmps20
 go_upto_region 1 with (fail)
 go_cut [21] (fun v21 wc => ∃ (kq : Nat) (x21_4 : Bool), v21 = .bool x21_4 ∧ Aside0 (laws_sameTries.j0 kq l0 l1 l2 l3 x21_4 = some r) ∧ Aside0 (kq ≤ k) ∧ Aside0 (Below w.heap.size w wc))
 case first =>
  have H := HC5.out
  clear HC5
  by_cases c6 : (l0.length : Int) = (l1.length : Int)
  ·rw [if_pos c6] at H
   have c6b0 : ((l0.length : Int) == (l1.length : Int)) = true := beq_iff_eq.mpr c6
   have c6b1 : ((l0.length : Int) != (l1.length : Int)) = false := bne_eq_false_iff_eq.mpr c6
   have c6b2 : (l0.length == l1.length) = true := by first | simpa using c6 | (simp at c6 ⊢; omega)
   clear c6
   (first | rw [c6b0] | (simp only [i64_w, i32_w]; rw [c6b0]) | skip)
   have H' := Aside0.mk H
   clear H
   go_wp2
   go_meet
   case rel => exact ⟨_, (((l0.length : Int) != (l3.length : Int))), (by first | rfl | (simp; done) | (simp [*]; done)), H', ⟨by first | omega | exact Nat.le_refl _⟩, ⟨by repeat (first | (with_reducible first | exact HB.out | apply below_alloc | apply pw_below_drewN | apply below_drew1) | exact HB.out)⟩⟩
  ·rw [if_neg c6] at H
   have c6b0 : ((l0.length : Int) == (l1.length : Int)) = false := beq_eq_false_iff_ne.mpr c6
   have c6b1 : ((l0.length : Int) != (l1.length : Int)) = true := bne_iff_ne.mpr c6
   have c6b2 : (l0.length == l1.length) = false := by first | simpa using c6 | (simp at c6 ⊢; omega)
   (first | rw [c6b0] | (simp only [i64_w, i32_w]; rw [c6b0]) | skip)
   have H' := Aside0.mk H
   clear H
   go_wp2
   go_meet
   case rel => exact ⟨_, (true), (by first | rfl | (simp; done) | (simp [*]; done)), H', ⟨by first | omega | exact Nat.le_refl _⟩, ⟨by repeat (first | (with_reducible first | exact HB.out | apply below_alloc | apply pw_below_drewN | apply below_drew1) | exact HB.out)⟩⟩
 case rest =>
  clear HC5
  try clear c1
  try clear c2
  try clear p2
  try clear c3
  try clear c6
  try clear c6b0
  try clear c6b1
  try clear c6b2
  obtain ⟨kq, x21_4, rfl, HA, HJ4, HB⟩ := hcut
  cases kq with
  | zero => exact absurd HA.out (by simp [laws_sameTries.j0])
  | succ kj4 =>
   have H := HA.out
   clear HA
   simp only [laws_sameTries.j0] at H
   by_cases c7 : x21_4 = true
   ·subst c7
    have H1 : (some false) = some r := by rw [if_pos rfl] at H; exact H
    clear H
    have H := H1
    clear H1
    obtain rfl := Option.some.inj H
    go_wp2
    go_ret
    exact ⟨by first | rfl | (simp [errW_none, errW_some] <;> rfl) | (simp [*, errW_none, errW_some] <;> rfl), by repeat (first | (with_reducible first | exact HB.out | apply below_alloc | apply pw_below_drewN | apply below_drew1) | exact HB.out)⟩
   ·replace c7 := Bool.eq_false_iff.mpr c7
    subst c7
    have H1 : (laws_sameTries.l0 kj4 l0 l1 l2 l3 (l0.length : Int) 0) = some r := by rw [if_neg (show ¬ (false = true) by decide)] at H; exact H
    clear H
    have H := H1
    clear H1
    have H' := Aside0.mk H
    clear H
    go_wp2
    go_loopg [24] kj4 (fun kq v24 w' => ∃ (x24_2 : Int), v24 = .int .i64 x24_2 ∧ Aside0 (laws_sameTries.l0 kq l0 l1 l2 l3 (l0.length : Int) x24_2 = some r) ∧ Aside0 (kq ≤ kj4) ∧ Aside0 (Below w.heap.size w w'))
    case atStart => exact ⟨(0), (by first | rfl | (simp; done) | (simp [*]; done)), H', ⟨Nat.le_refl _⟩, ⟨by repeat (first | (with_reducible first | exact HB.out | apply below_alloc | apply pw_below_drewN | apply below_drew1) | exact HB.out)⟩⟩
    case round =>
     clear H'
     try clear c1
     try clear c2
     try clear p2
     try clear c3
     try clear c6
     try clear c6b0
     try clear c6b1
     try clear c6b2
     try clear c7
     try clear p2
     obtain ⟨x24_2, rfl, HA, HK2, HB⟩ := hrel
     cases gk with
     | zero => exact absurd HA.out (by simp [laws_sameTries.l0])
     | succ k2 =>
      have H := HA.out
      clear HA
      simp only [laws_sameTries.l0] at H
      by_cases c8 : x24_2 < (l0.length : Int)
      ·rw [if_pos c8] at H
       have c8b0 : decide (x24_2 < (l0.length : Int)) = true := decide_eq_true c8
       clear c8
       by_cases c9 : 0 ≤ x24_2
       ·rw [if_pos c9] at H
        have c9b0 : decide (0 ≤ x24_2) = true := decide_eq_true c9
        clear c9
        by_cases c10 : x24_2 < (l0.length : Int)
        ·rw [if_pos c10] at H
         have c10b0 : decide (x24_2 < (l0.length : Int)) = true := decide_eq_true c10
         clear c10
         by_cases c11 : x24_2 < (l1.length : Int)
         ·rw [if_pos c11] at H
          have c11b0 : decide (x24_2 < (l1.length : Int)) = true := decide_eq_true c11
          clear c11
          by_cases c12 : x24_2 < (l3.length : Int)
          ·rw [if_pos c12] at H
           have c12b0 : decide (x24_2 < (l3.length : Int)) = true := decide_eq_true c12
           clear c12
           replace H := Option.bind_eq_some_iff.mp H
           obtain ⟨t149, A130, H⟩ := H
           replace H : ((laws_sameTrie.f k2 ((rd_T34 l0 x24_2).f0.f0) ((rd_T34 l0 x24_2).f0.f1) ((rd_T34 l0 x24_2).f1.f0) ((rd_T34 l0 x24_2).f1.f1) ((rd_T34 l0 x24_2).f2) ((rd_T34 l0 x24_2).f3) ((rd_T34 l1 x24_2).f0.f0) ((rd_T34 l1 x24_2).f0.f1) ((rd_T34 l1 x24_2).f1.f0) ((rd_T34 l1 x24_2).f1.f1) ((rd_T34 l1 x24_2).f2) ((rd_T34 l1 x24_2).f3) t149).bind fun t150 => (if t150 = true then (laws_sameTries.l0 k2 l0 l1 l2 l3 (l0.length : Int) (wrap64 (x24_2 + 1))) else (some false))) = some r := H
           have A13 := Aside0.mk A130
           clear A130
           replace H := Option.bind_eq_some_iff.mp H
           obtain ⟨t150, A140, H⟩ := H
           replace H : (if t150 = true then (laws_sameTries.l0 k2 l0 l1 l2 l3 (l0.length : Int) (wrap64 (x24_2 + 1))) else (some false)) = some r := H
           have A14 := Aside0.mk A140
           clear A140
           by_cases c15 : t150 = true
           ·subst c15
            have H1 : (laws_sameTries.l0 k2 l0 l1 l2 l3 (l0.length : Int) (wrap64 (x24_2 + 1))) = some r := by rw [if_pos rfl] at H; exact H
            clear H
            have H := H1
            clear H1
            have H' := Aside0.mk H
            clear H
            try go_wp2
            have n0_ := Aside0.mk (below_drew1 HB.out)
            clear HB
            have HB := n0_
            clear n0_
            have p146 : 0 ≤ (x24_2 : Int) := of_decide_eq_true (by first | (with_reducible assumption) | assumption)
            have q146 : x24_2 < (l0.length : Int) := of_decide_eq_true (by first | (with_reducible assumption) | assumption)
            obtain ⟨ad146, A146_4, c146_4, A146_5, c146_5, e146, hx146_0, hx146_1, hx146_2, hx146_3, hx146_4, hx146_5, hl146_4, hi146_4, hl146_5, hi146_5⟩ := at_T34 HR0.out x24_2 p146 q146
            have hw146_5 := hx146_5
            have hw146_4 := hx146_4
            have hw146_3 := hx146_3
            have hw146_2 := hx146_2
            have hw146_1 := hx146_1
            have hw146_0 := hx146_0
            cases e146
            replace hx146_0 := (HB.out.cell (World.block_lt_of_cell? w _ hx146_0)).trans hx146_0
            replace hx146_1 := (HB.out.cell (World.block_lt_of_cell? w _ hx146_1)).trans hx146_1
            replace hx146_2 := (HB.out.cell (World.block_lt_of_cell? w _ hx146_2)).trans hx146_2
            replace hx146_3 := (HB.out.cell (World.block_lt_of_cell? w _ hx146_3)).trans hx146_3
            replace hx146_4 := (HB.out.cell (World.block_lt_of_cell? w _ hx146_4)).trans hx146_4
            replace hx146_5 := (HB.out.cell (World.block_lt_of_cell? w _ hx146_5)).trans hx146_5
            have HR146_4 := Aside0.mk hi146_4
            have HC146_4 := Aside0.mk hl146_4
            clear hi146_4 hl146_4
            have HR146_5 := Aside0.mk hi146_5
            have HC146_5 := Aside0.mk hl146_5
            clear hi146_5 hl146_5
            replace p146 := eq_true p146
            replace q146 := eq_true q146
            have p147 : 0 ≤ (x24_2 : Int) := of_decide_eq_true (by first | (with_reducible assumption) | assumption)
            have q147 : x24_2 < (l1.length : Int) := of_decide_eq_true (by first | (with_reducible assumption) | assumption)
            obtain ⟨ad147, A147_4, c147_4, A147_5, c147_5, e147, hx147_0, hx147_1, hx147_2, hx147_3, hx147_4, hx147_5, hl147_4, hi147_4, hl147_5, hi147_5⟩ := at_T34 HR1.out x24_2 p147 q147
            have hw147_5 := hx147_5
            have hw147_4 := hx147_4
            have hw147_3 := hx147_3
            have hw147_2 := hx147_2
            have hw147_1 := hx147_1
            have hw147_0 := hx147_0
            cases e147
            replace hx147_0 := (HB.out.cell (World.block_lt_of_cell? w _ hx147_0)).trans hx147_0
            replace hx147_1 := (HB.out.cell (World.block_lt_of_cell? w _ hx147_1)).trans hx147_1
            replace hx147_2 := (HB.out.cell (World.block_lt_of_cell? w _ hx147_2)).trans hx147_2
            replace hx147_3 := (HB.out.cell (World.block_lt_of_cell? w _ hx147_3)).trans hx147_3
            replace hx147_4 := (HB.out.cell (World.block_lt_of_cell? w _ hx147_4)).trans hx147_4
            replace hx147_5 := (HB.out.cell (World.block_lt_of_cell? w _ hx147_5)).trans hx147_5
            have HR147_4 := Aside0.mk hi147_4
            have HC147_4 := Aside0.mk hl147_4
            clear hi147_4 hl147_4
            have HR147_5 := Aside0.mk hi147_5
            have HC147_5 := Aside0.mk hl147_5
            clear hi147_5 hl147_5
            replace p147 := eq_true p147
            replace q147 := eq_true q147
            have p148 : 0 ≤ (x24_2 : Int) := of_decide_eq_true (by first | (with_reducible assumption) | assumption)
            have q148 : x24_2 < (l3.length : Int) := of_decide_eq_true (by first | (with_reducible assumption) | assumption)
            obtain ⟨ad148, e148, hx148_0⟩ := Kd.at_string HR3.out x24_2 p148 q148
            have hw148_0 := hx148_0
            cases e148
            replace hx148_0 := (HB.out.cell (World.block_lt_of_cell? w _ hx148_0)).trans hx148_0
            replace p148 := eq_true p148
            replace q148 := eq_true q148
            refine start_ (n := 16) (S := fun w' => w'.cell? (ad146.add ((x24_2).toNat * 6)) = some (.int .i64 ((rd_T34 l0 x24_2).f0.f0)) ∧ w'.cell? ⟨(ad146.add ((x24_2).toNat * 6)).block, (ad146.add ((x24_2).toNat * 6)).off + 1, none⟩ = some (.bool ((rd_T34 l0 x24_2).f0.f1)) ∧ w'.cell? ⟨(ad146.add ((x24_2).toNat * 6)).block, (ad146.add ((x24_2).toNat * 6)).off + 2, none⟩ = some (.int .i64 ((rd_T34 l0 x24_2).f1.f0)) ∧ w'.cell? ⟨(ad146.add ((x24_2).toNat * 6)).block, (ad146.add ((x24_2).toNat * 6)).off + 3, none⟩ = some (.bool ((rd_T34 l0 x24_2).f1.f1)) ∧ w'.cell? ⟨(ad146.add ((x24_2).toNat * 6)).block, (ad146.add ((x24_2).toNat * 6)).off + 4, none⟩ = some (.slice A146_4 ((rd_T34 l0 x24_2).f2).length c146_4) ∧ w'.cell? ⟨(ad146.add ((x24_2).toNat * 6)).block, (ad146.add ((x24_2).toNat * 6)).off + 5, none⟩ = some (.slice A146_5 ((rd_T34 l0 x24_2).f3).length c146_5) ∧ w'.cell? (ad147.add ((x24_2).toNat * 6)) = some (.int .i64 ((rd_T34 l1 x24_2).f0.f0)) ∧ w'.cell? ⟨(ad147.add ((x24_2).toNat * 6)).block, (ad147.add ((x24_2).toNat * 6)).off + 1, none⟩ = some (.bool ((rd_T34 l1 x24_2).f0.f1)) ∧ w'.cell? ⟨(ad147.add ((x24_2).toNat * 6)).block, (ad147.add ((x24_2).toNat * 6)).off + 2, none⟩ = some (.int .i64 ((rd_T34 l1 x24_2).f1.f0)) ∧ w'.cell? ⟨(ad147.add ((x24_2).toNat * 6)).block, (ad147.add ((x24_2).toNat * 6)).off + 3, none⟩ = some (.bool ((rd_T34 l1 x24_2).f1.f1)) ∧ w'.cell? ⟨(ad147.add ((x24_2).toNat * 6)).block, (ad147.add ((x24_2).toNat * 6)).off + 4, none⟩ = some (.slice A147_4 ((rd_T34 l1 x24_2).f2).length c147_4) ∧ w'.cell? ⟨(ad147.add ((x24_2).toNat * 6)).block, (ad147.add ((x24_2).toNat * 6)).off + 5, none⟩ = some (.slice A147_5 ((rd_T34 l1 x24_2).f3).length c147_5) ∧ w'.cell? (ad148.add (x24_2).toNat) = some (.string (rdOf ByteArray.empty l3 x24_2))) (ds := []) #[false, false, false, false, false, false, false, false, false, false, false, false, false, false, false, false] (by kernel_rfl) rfl rfl ⟨((HB.out.cell (World.block_lt_of_cell? w _ hw146_0)).trans hw146_0), ((HB.out.cell (World.block_lt_of_cell? w _ hw146_1)).trans hw146_1), ((HB.out.cell (World.block_lt_of_cell? w _ hw146_2)).trans hw146_2), ((HB.out.cell (World.block_lt_of_cell? w _ hw146_3)).trans hw146_3), ((HB.out.cell (World.block_lt_of_cell? w _ hw146_4)).trans hw146_4), ((HB.out.cell (World.block_lt_of_cell? w _ hw146_5)).trans hw146_5), ((HB.out.cell (World.block_lt_of_cell? w _ hw147_0)).trans hw147_0), ((HB.out.cell (World.block_lt_of_cell? w _ hw147_1)).trans hw147_1), ((HB.out.cell (World.block_lt_of_cell? w _ hw147_2)).trans hw147_2), ((HB.out.cell (World.block_lt_of_cell? w _ hw147_3)).trans hw147_3), ((HB.out.cell (World.block_lt_of_cell? w _ hw147_4)).trans hw147_4), ((HB.out.cell (World.block_lt_of_cell? w _ hw147_5)).trans hw147_5), ((HB.out.cell (World.block_lt_of_cell? w _ hw148_0)).trans hw148_0)⟩ (fun hHeld => ?_); refine with_tabW laws_sameTries.tab6 laws_sameTries.bits6 (fun HT_ HW_ => ?_)
            generalize wr.drew = w16 at HB HR146_4 HR146_5 HR147_4 HR147_5 hx146_0 hx146_1 hx146_2 hx146_3 hx146_4 hx146_5 hx147_0 hx147_1 hx147_2 hx147_3 hx147_4 hx147_5 hx148_0 hHeld ⊢
            refine pure_ (i := 0) (N := some 27) (v := ?_) (a' := ?_) #[true, false, false, false, false, false, false, false, false, false, false, false, false, false, false, false] rfl rfl (any_of HT_.out (by kernel_rfl)) (fun _ _ _ h => h) (Or.inl ⟨by rfl, ?_⟩) ?_ ?_
            rotate_left
            ·intro w'
             go_simp
             with_reducible rfl
            rotate_left
            ·simp only [Act.put, List.setIfInBounds_toArray, List.set_cons_zero, List.set_cons_succ, i64_w, i32_w]
             rfl
            refine pure_ (i := 1) (N := some 28) (v := ?_) (a' := ?_) #[true, true, false, false, false, false, false, false, false, false, false, false, false, false, false, false] rfl rfl (any_of HT_.out (by kernel_rfl)) (fun _ _ _ h => h) (Or.inl ⟨by rfl, ?_⟩) ?_ ?_
            rotate_left
            ·intro w'
             go_simp
             with_reducible rfl
            rotate_left
            ·simp only [Act.put, List.setIfInBounds_toArray, List.set_cons_zero, List.set_cons_succ, i64_w, i32_w]
             rfl
            refine pure_ (i := 2) (N := some 29) (v := ?_) (a' := ?_) #[true, true, true, false, false, false, false, false, false, false, false, false, false, false, false, false] rfl rfl (any_of HT_.out (by kernel_rfl)) (fun _ _ _ h => h) (Or.inl ⟨by rfl, ?_⟩) ?_ ?_
            rotate_left
            ·intro w'
             go_simp
             with_reducible rfl
            rotate_left
            ·simp only [Act.put, List.setIfInBounds_toArray, List.set_cons_zero, List.set_cons_succ, i64_w, i32_w]
             rfl
            refine pure_ (i := 4) (N := some 31) (v := ?_) (a' := ?_) #[true, true, true, false, true, false, false, false, false, false, false, false, false, false, false, false] rfl rfl (any_of HT_.out (by kernel_rfl)) (fun _ _ _ h => h) (Or.inl ⟨by rfl, ?_⟩) ?_ ?_
            rotate_left
            ·intro w'
             go_simp
             with_reducible rfl
            rotate_left
            ·simp only [Act.put, List.setIfInBounds_toArray, List.set_cons_zero, List.set_cons_succ, i64_w, i32_w]
             rfl
            refine pure_ (i := 5) (N := some 32) (v := ?_) (a' := ?_) #[true, true, true, false, true, true, false, false, false, false, false, false, false, false, false, false] rfl rfl (any_of HT_.out (by kernel_rfl)) (fun _ _ _ h => h) (Or.inl ⟨by rfl, ?_⟩) ?_ ?_
            rotate_left
            ·intro w'
             go_simp
             with_reducible rfl
            rotate_left
            ·simp only [Act.put, List.setIfInBounds_toArray, List.set_cons_zero, List.set_cons_succ, i64_w, i32_w]
             rfl
            refine pure_ (i := 6) (N := some 33) (v := ?_) (a' := ?_) #[true, true, true, false, true, true, true, false, false, false, false, false, false, false, false, false] rfl rfl (any_of HT_.out (by kernel_rfl)) (fun _ _ _ h => h) (Or.inl ⟨by rfl, ?_⟩) ?_ ?_
            rotate_left
            ·intro w'
             go_simp
             with_reducible rfl
            rotate_left
            ·simp only [Act.put, List.setIfInBounds_toArray, List.set_cons_zero, List.set_cons_succ, i64_w, i32_w]
             rfl
            refine pure_ (i := 8) (N := some 35) (v := ?_) (a' := ?_) #[true, true, true, false, true, true, true, false, true, false, false, false, false, false, false, false] rfl rfl (any_of HT_.out (by kernel_rfl)) (fun _ _ _ h => h) (Or.inl ⟨by rfl, ?_⟩) ?_ ?_
            rotate_left
            ·intro w'
             go_simp
             with_reducible rfl
            rotate_left
            ·simp only [Act.put, List.setIfInBounds_toArray, List.set_cons_zero, List.set_cons_succ, i64_w, i32_w]
             rfl
            refine pure_ (i := 9) (N := some 36) (v := ?_) (a' := ?_) #[true, true, true, false, true, true, true, false, true, true, false, false, false, false, false, false] rfl rfl (any_of HT_.out (by kernel_rfl)) (fun _ _ _ h => h) (Or.inl ⟨by rfl, ?_⟩) ?_ ?_
            rotate_left
            ·intro w'
             go_simp
             with_reducible rfl
            rotate_left
            ·simp only [Act.put, List.setIfInBounds_toArray, List.set_cons_zero, List.set_cons_succ, i64_w, i32_w]
             rfl
            refine pure_ (i := 10) (N := some 37) (v := ?_) (a' := ?_) #[true, true, true, false, true, true, true, false, true, true, true, false, false, false, false, false] rfl rfl (any_of HT_.out (by kernel_rfl)) (fun _ _ _ h => h) (Or.inl ⟨by rfl, ?_⟩) ?_ ?_
            rotate_left
            ·intro w'
             go_simp
             with_reducible rfl
            rotate_left
            ·simp only [Act.put, List.setIfInBounds_toArray, List.set_cons_zero, List.set_cons_succ, i64_w, i32_w]
             rfl
            refine pure_ (i := 11) (N := some 38) (v := ?_) (a' := ?_) #[true, true, true, false, true, true, true, false, true, true, true, true, false, false, false, false] rfl rfl (any_of HT_.out (by kernel_rfl)) (fun _ _ _ h => h) (Or.inl ⟨by rfl, ?_⟩) ?_ ?_
            rotate_left
            ·intro w'
             go_simp
             with_reducible rfl
            rotate_left
            ·simp only [Act.put, List.setIfInBounds_toArray, List.set_cons_zero, List.set_cons_succ, i64_w, i32_w]
             rfl
            refine take_ (i := 3) (N := some 30) (v := ?_) (a' := ?_) #[true, true, true, true, true, true, true, false, true, true, true, true, false, false, false, false] rfl rfl (take_ofW HT_.out HW_.out (by kernel_rfl)) (fun _ _ _ h => h) (Or.inl ⟨by rfl, ?_⟩) hHeld ?_ ?_
            rotate_left
            ·rintro w' ⟨s0, s1, s2, s3, s4, s5, s6, s7, s8, s9, s10, s11, s12⟩
             go_simp
             with_reducible rfl
            rotate_left
            ·simp only [Act.put, List.setIfInBounds_toArray, List.set_cons_zero, List.set_cons_succ, i64_w, i32_w]
             rfl
            refine take_ (i := 7) (N := some 34) (v := ?_) (a' := ?_) #[true, true, true, true, true, true, true, true, true, true, true, true, false, false, false, false] rfl rfl (take_ofW HT_.out HW_.out (by kernel_rfl)) (fun _ _ _ h => h) (Or.inl ⟨by rfl, ?_⟩) hHeld ?_ ?_
            rotate_left
            ·rintro w' ⟨s0, s1, s2, s3, s4, s5, s6, s7, s8, s9, s10, s11, s12⟩
             go_simp
             with_reducible rfl
            rotate_left
            ·simp only [Act.put, List.setIfInBounds_toArray, List.set_cons_zero, List.set_cons_succ, i64_w, i32_w]
             rfl
            refine take_ (i := 12) (N := some 39) (v := ?_) (a' := ?_) #[true, true, true, true, true, true, true, true, true, true, true, true, true, false, false, false] rfl rfl (take_ofW HT_.out HW_.out (by kernel_rfl)) (fun _ _ _ h => h) (Or.inl ⟨by rfl, ?_⟩) hHeld ?_ ?_
            rotate_left
            ·rintro w' ⟨s0, s1, s2, s3, s4, s5, s6, s7, s8, s9, s10, s11, s12⟩
             go_simp
             with_reducible rfl
            rotate_left
            ·simp only [Act.put, List.setIfInBounds_toArray, List.set_cons_zero, List.set_cons_succ, i64_w, i32_w]
             rfl
            refine one_ (i := 13) (N := some 40) #[true, true, true, true, true, true, true, true, true, true, true, true, true, true, false, false] rfl rfl (one_of HT_.out (by kernel_rfl)) (by decide) (fun K hK => ?_)
            refine goes_ Try.func31 (by kernel_rfl) rfl #[.slice A2 l2.length c2, .string (rdOf ByteArray.empty l3 x24_2)] (by rfl) rfl rfl (by (try simp only [List.map_toArray, List.map_cons, List.map_nil]); first | done | rfl | (simp only [List.length_drop, List.length_take]; rfl)) ?_
            with_reducible refine (spec_Half.calls k2 _ _ l2 (rdOf ByteArray.empty l3 x24_2) t149 _ ?side1 ?side2 A13.out).mono ?_
            (case side1 => repeat (first | exact (Kd.C_below HR2.out HB.out) | (with_reducible refine Kd.C_alloc ?_ _) | (with_reducible refine Kd.C_drewN ?_ _) | (with_reducible refine Kd.C_drew ?_)))
            (case side2 => exact HC2.out)
            rintro e w' ⟨rfl, ⟨nd, rfl⟩⟩
            refine ⟨_, rfl, ?_⟩
            refine hK.out _ _ ⟨((HB.out.cell (World.block_lt_of_cell? w _ hw146_0)).trans hw146_0), ((HB.out.cell (World.block_lt_of_cell? w _ hw146_1)).trans hw146_1), ((HB.out.cell (World.block_lt_of_cell? w _ hw146_2)).trans hw146_2), ((HB.out.cell (World.block_lt_of_cell? w _ hw146_3)).trans hw146_3), ((HB.out.cell (World.block_lt_of_cell? w _ hw146_4)).trans hw146_4), ((HB.out.cell (World.block_lt_of_cell? w _ hw146_5)).trans hw146_5), ((HB.out.cell (World.block_lt_of_cell? w _ hw147_0)).trans hw147_0), ((HB.out.cell (World.block_lt_of_cell? w _ hw147_1)).trans hw147_1), ((HB.out.cell (World.block_lt_of_cell? w _ hw147_2)).trans hw147_2), ((HB.out.cell (World.block_lt_of_cell? w _ hw147_3)).trans hw147_3), ((HB.out.cell (World.block_lt_of_cell? w _ hw147_4)).trans hw147_4), ((HB.out.cell (World.block_lt_of_cell? w _ hw147_5)).trans hw147_5), ((HB.out.cell (World.block_lt_of_cell? w _ hw148_0)).trans hw148_0)⟩ (fun hHeld => ?_)
            clear hK K
            refine norm_ (a' := ?_) ?_ ?_
            rotate_left
            ·show Act.put _ (some 40) _ = _
             simp only [Act.put, List.setIfInBounds_toArray, List.set_cons_zero, List.set_cons_succ, i64_w, i32_w]
             rfl
            refine one_ (i := 14) (N := some 41) #[true, true, true, true, true, true, true, true, true, true, true, true, true, true, true, false] rfl rfl (one_of HT_.out (by kernel_rfl)) (by decide) (fun K hK => ?_)
            refine goes_ Try.func30 (by kernel_rfl) rfl #[.agg #[.int .i64 ((rd_T34 l0 x24_2).f0.f0), .bool ((rd_T34 l0 x24_2).f0.f1), .int .i64 ((rd_T34 l0 x24_2).f1.f0), .bool ((rd_T34 l0 x24_2).f1.f1), .slice A146_4 ((rd_T34 l0 x24_2).f2).length c146_4, .slice A146_5 ((rd_T34 l0 x24_2).f3).length c146_5], .agg #[.int .i64 ((rd_T34 l1 x24_2).f0.f0), .bool ((rd_T34 l1 x24_2).f0.f1), .int .i64 ((rd_T34 l1 x24_2).f1.f0), .bool ((rd_T34 l1 x24_2).f1.f1), .slice A147_4 ((rd_T34 l1 x24_2).f2).length c147_4, .slice A147_5 ((rd_T34 l1 x24_2).f3).length c147_5], .bool t149] (by rfl) rfl rfl (by (try simp only [List.map_toArray, List.map_cons, List.map_nil]); first | done | rfl | (simp only [List.length_drop, List.length_take]; rfl)) ?_
            with_reducible refine (laws_sameTrie.calls k2 ((rd_T34 l0 x24_2).f0.f0) ((rd_T34 l0 x24_2).f0.f1) ((rd_T34 l0 x24_2).f1.f0) ((rd_T34 l0 x24_2).f1.f1) _ _ ((rd_T34 l0 x24_2).f2) _ _ ((rd_T34 l0 x24_2).f3) ((rd_T34 l1 x24_2).f0.f0) ((rd_T34 l1 x24_2).f0.f1) ((rd_T34 l1 x24_2).f1.f0) ((rd_T34 l1 x24_2).f1.f1) _ _ ((rd_T34 l1 x24_2).f2) _ _ ((rd_T34 l1 x24_2).f3) t149 true _ ?side1 ?side2 ?side3 ?side4 ?side5 ?side6 ?side7 ?side8 A14.out).mono ?_
            (case side1 => repeat (first | exact (Kd.C_below HR146_4.out (by repeat (first | (with_reducible first | exact HB.out | apply below_alloc | apply pw_below_drewN | apply below_drew1) | exact HB.out))) | (with_reducible refine Kd.C_alloc ?_ _) | (with_reducible refine Kd.C_drewN ?_ _) | (with_reducible refine Kd.C_drew ?_)))
            (case side2 => exact HC146_4.out)
            (case side3 => repeat (first | exact (Kd.C_below HR146_5.out (by repeat (first | (with_reducible first | exact HB.out | apply below_alloc | apply pw_below_drewN | apply below_drew1) | exact HB.out))) | (with_reducible refine Kd.C_alloc ?_ _) | (with_reducible refine Kd.C_drewN ?_ _) | (with_reducible refine Kd.C_drew ?_)))
            (case side4 => exact HC146_5.out)
            (case side5 => repeat (first | exact (Kd.C_below HR147_4.out (by repeat (first | (with_reducible first | exact HB.out | apply below_alloc | apply pw_below_drewN | apply below_drew1) | exact HB.out))) | (with_reducible refine Kd.C_alloc ?_ _) | (with_reducible refine Kd.C_drewN ?_ _) | (with_reducible refine Kd.C_drew ?_)))
            (case side6 => exact HC147_4.out)
            (case side7 => repeat (first | exact (Kd.C_below HR147_5.out (by repeat (first | (with_reducible first | exact HB.out | apply below_alloc | apply pw_below_drewN | apply below_drew1) | exact HB.out))) | (with_reducible refine Kd.C_alloc ?_ _) | (with_reducible refine Kd.C_drewN ?_ _) | (with_reducible refine Kd.C_drew ?_)))
            (case side8 => exact HC147_5.out)
            rintro e w17 ⟨rfl, hb⟩
            refine ⟨_, rfl, ?_⟩
            have n0_ := Aside0.mk (below_step (by repeat (first | (with_reducible first | exact HB.out | apply below_alloc | apply pw_below_drewN | apply below_drew1) | exact HB.out)) hb)
            clear HB
            have HB := n0_
            clear n0_
            (try clear hb)
            (try clear hb2)
            (try clear hk)
            (try clear hi)
            refine hK.out _ _ ⟨((HB.out.cell (World.block_lt_of_cell? w _ hw146_0)).trans hw146_0), ((HB.out.cell (World.block_lt_of_cell? w _ hw146_1)).trans hw146_1), ((HB.out.cell (World.block_lt_of_cell? w _ hw146_2)).trans hw146_2), ((HB.out.cell (World.block_lt_of_cell? w _ hw146_3)).trans hw146_3), ((HB.out.cell (World.block_lt_of_cell? w _ hw146_4)).trans hw146_4), ((HB.out.cell (World.block_lt_of_cell? w _ hw146_5)).trans hw146_5), ((HB.out.cell (World.block_lt_of_cell? w _ hw147_0)).trans hw147_0), ((HB.out.cell (World.block_lt_of_cell? w _ hw147_1)).trans hw147_1), ((HB.out.cell (World.block_lt_of_cell? w _ hw147_2)).trans hw147_2), ((HB.out.cell (World.block_lt_of_cell? w _ hw147_3)).trans hw147_3), ((HB.out.cell (World.block_lt_of_cell? w _ hw147_4)).trans hw147_4), ((HB.out.cell (World.block_lt_of_cell? w _ hw147_5)).trans hw147_5), ((HB.out.cell (World.block_lt_of_cell? w _ hw148_0)).trans hw148_0)⟩ (fun hHeld => ?_)
            clear hK K
            refine norm_ (a' := ?_) ?_ ?_
            rotate_left
            ·show Act.put _ (some 41) _ = _
             simp only [Act.put, List.setIfInBounds_toArray, List.set_cons_zero, List.set_cons_succ, i64_w, i32_w]
             rfl
            refine pure_ (i := 15) (N := some 42) (v := ?_) (a' := ?_) #[true, true, true, true, true, true, true, true, true, true, true, true, true, true, true, true] rfl rfl (any_of HT_.out (by kernel_rfl)) (fun _ _ _ h => h) (Or.inl ⟨by rfl, ?_⟩) ?_ ?_
            rotate_left
            ·intro w'
             go_simp
             with_reducible rfl
            rotate_left
            ·simp only [Act.put, List.setIfInBounds_toArray, List.set_cons_zero, List.set_cons_succ, i64_w, i32_w]
             rfl
            refine done_ (done_of HT_.out (by kernel_rfl)) ?_
            try go_wp2
            go_roundg k2
            case measure => have := HJ4.out; have := HK2.out; omega
            case rel => exact ⟨(wrap64 (x24_2 + 1)), (by first | rfl | (simp; done) | (simp [*]; done)), H', ⟨by have := HJ4.out; have := HK2.out; omega⟩, ⟨by repeat (first | (with_reducible first | exact HB.out | apply below_alloc | apply pw_below_drewN | apply below_drew1) | exact HB.out)⟩⟩
           ·replace c15 := Bool.eq_false_iff.mpr c15
            subst c15
            have H1 : (some false) = some r := by rw [if_neg (show ¬ (false = true) by decide)] at H; exact H
            clear H
            have H := H1
            clear H1
            obtain rfl := Option.some.inj H
            try go_wp2
            have n0_ := Aside0.mk (below_drew1 HB.out)
            clear HB
            have HB := n0_
            clear n0_
            have p146 : 0 ≤ (x24_2 : Int) := of_decide_eq_true (by first | (with_reducible assumption) | assumption)
            have q146 : x24_2 < (l0.length : Int) := of_decide_eq_true (by first | (with_reducible assumption) | assumption)
            obtain ⟨ad146, A146_4, c146_4, A146_5, c146_5, e146, hx146_0, hx146_1, hx146_2, hx146_3, hx146_4, hx146_5, hl146_4, hi146_4, hl146_5, hi146_5⟩ := at_T34 HR0.out x24_2 p146 q146
            have hw146_5 := hx146_5
            have hw146_4 := hx146_4
            have hw146_3 := hx146_3
            have hw146_2 := hx146_2
            have hw146_1 := hx146_1
            have hw146_0 := hx146_0
            cases e146
            replace hx146_0 := (HB.out.cell (World.block_lt_of_cell? w _ hx146_0)).trans hx146_0
            replace hx146_1 := (HB.out.cell (World.block_lt_of_cell? w _ hx146_1)).trans hx146_1
            replace hx146_2 := (HB.out.cell (World.block_lt_of_cell? w _ hx146_2)).trans hx146_2
            replace hx146_3 := (HB.out.cell (World.block_lt_of_cell? w _ hx146_3)).trans hx146_3
            replace hx146_4 := (HB.out.cell (World.block_lt_of_cell? w _ hx146_4)).trans hx146_4
            replace hx146_5 := (HB.out.cell (World.block_lt_of_cell? w _ hx146_5)).trans hx146_5
            have HR146_4 := Aside0.mk hi146_4
            have HC146_4 := Aside0.mk hl146_4
            clear hi146_4 hl146_4
            have HR146_5 := Aside0.mk hi146_5
            have HC146_5 := Aside0.mk hl146_5
            clear hi146_5 hl146_5
            replace p146 := eq_true p146
            replace q146 := eq_true q146
            have p147 : 0 ≤ (x24_2 : Int) := of_decide_eq_true (by first | (with_reducible assumption) | assumption)
            have q147 : x24_2 < (l1.length : Int) := of_decide_eq_true (by first | (with_reducible assumption) | assumption)
            obtain ⟨ad147, A147_4, c147_4, A147_5, c147_5, e147, hx147_0, hx147_1, hx147_2, hx147_3, hx147_4, hx147_5, hl147_4, hi147_4, hl147_5, hi147_5⟩ := at_T34 HR1.out x24_2 p147 q147
            have hw147_5 := hx147_5
            have hw147_4 := hx147_4
            have hw147_3 := hx147_3
            have hw147_2 := hx147_2
            have hw147_1 := hx147_1
            have hw147_0 := hx147_0
            cases e147
            replace hx147_0 := (HB.out.cell (World.block_lt_of_cell? w _ hx147_0)).trans hx147_0
            replace hx147_1 := (HB.out.cell (World.block_lt_of_cell? w _ hx147_1)).trans hx147_1
            replace hx147_2 := (HB.out.cell (World.block_lt_of_cell? w _ hx147_2)).trans hx147_2
            replace hx147_3 := (HB.out.cell (World.block_lt_of_cell? w _ hx147_3)).trans hx147_3
            replace hx147_4 := (HB.out.cell (World.block_lt_of_cell? w _ hx147_4)).trans hx147_4
            replace hx147_5 := (HB.out.cell (World.block_lt_of_cell? w _ hx147_5)).trans hx147_5
            have HR147_4 := Aside0.mk hi147_4
            have HC147_4 := Aside0.mk hl147_4
            clear hi147_4 hl147_4
            have HR147_5 := Aside0.mk hi147_5
            have HC147_5 := Aside0.mk hl147_5
            clear hi147_5 hl147_5
            replace p147 := eq_true p147
            replace q147 := eq_true q147
            have p148 : 0 ≤ (x24_2 : Int) := of_decide_eq_true (by first | (with_reducible assumption) | assumption)
            have q148 : x24_2 < (l3.length : Int) := of_decide_eq_true (by first | (with_reducible assumption) | assumption)
            obtain ⟨ad148, e148, hx148_0⟩ := Kd.at_string HR3.out x24_2 p148 q148
            have hw148_0 := hx148_0
            cases e148
            replace hx148_0 := (HB.out.cell (World.block_lt_of_cell? w _ hx148_0)).trans hx148_0
            replace p148 := eq_true p148
            replace q148 := eq_true q148
            refine start_ (n := 16) (S := fun w' => w'.cell? (ad146.add ((x24_2).toNat * 6)) = some (.int .i64 ((rd_T34 l0 x24_2).f0.f0)) ∧ w'.cell? ⟨(ad146.add ((x24_2).toNat * 6)).block, (ad146.add ((x24_2).toNat * 6)).off + 1, none⟩ = some (.bool ((rd_T34 l0 x24_2).f0.f1)) ∧ w'.cell? ⟨(ad146.add ((x24_2).toNat * 6)).block, (ad146.add ((x24_2).toNat * 6)).off + 2, none⟩ = some (.int .i64 ((rd_T34 l0 x24_2).f1.f0)) ∧ w'.cell? ⟨(ad146.add ((x24_2).toNat * 6)).block, (ad146.add ((x24_2).toNat * 6)).off + 3, none⟩ = some (.bool ((rd_T34 l0 x24_2).f1.f1)) ∧ w'.cell? ⟨(ad146.add ((x24_2).toNat * 6)).block, (ad146.add ((x24_2).toNat * 6)).off + 4, none⟩ = some (.slice A146_4 ((rd_T34 l0 x24_2).f2).length c146_4) ∧ w'.cell? ⟨(ad146.add ((x24_2).toNat * 6)).block, (ad146.add ((x24_2).toNat * 6)).off + 5, none⟩ = some (.slice A146_5 ((rd_T34 l0 x24_2).f3).length c146_5) ∧ w'.cell? (ad147.add ((x24_2).toNat * 6)) = some (.int .i64 ((rd_T34 l1 x24_2).f0.f0)) ∧ w'.cell? ⟨(ad147.add ((x24_2).toNat * 6)).block, (ad147.add ((x24_2).toNat * 6)).off + 1, none⟩ = some (.bool ((rd_T34 l1 x24_2).f0.f1)) ∧ w'.cell? ⟨(ad147.add ((x24_2).toNat * 6)).block, (ad147.add ((x24_2).toNat * 6)).off + 2, none⟩ = some (.int .i64 ((rd_T34 l1 x24_2).f1.f0)) ∧ w'.cell? ⟨(ad147.add ((x24_2).toNat * 6)).block, (ad147.add ((x24_2).toNat * 6)).off + 3, none⟩ = some (.bool ((rd_T34 l1 x24_2).f1.f1)) ∧ w'.cell? ⟨(ad147.add ((x24_2).toNat * 6)).block, (ad147.add ((x24_2).toNat * 6)).off + 4, none⟩ = some (.slice A147_4 ((rd_T34 l1 x24_2).f2).length c147_4) ∧ w'.cell? ⟨(ad147.add ((x24_2).toNat * 6)).block, (ad147.add ((x24_2).toNat * 6)).off + 5, none⟩ = some (.slice A147_5 ((rd_T34 l1 x24_2).f3).length c147_5) ∧ w'.cell? (ad148.add (x24_2).toNat) = some (.string (rdOf ByteArray.empty l3 x24_2))) (ds := []) #[false, false, false, false, false, false, false, false, false, false, false, false, false, false, false, false] (by kernel_rfl) rfl rfl ⟨((HB.out.cell (World.block_lt_of_cell? w _ hw146_0)).trans hw146_0), ((HB.out.cell (World.block_lt_of_cell? w _ hw146_1)).trans hw146_1), ((HB.out.cell (World.block_lt_of_cell? w _ hw146_2)).trans hw146_2), ((HB.out.cell (World.block_lt_of_cell? w _ hw146_3)).trans hw146_3), ((HB.out.cell (World.block_lt_of_cell? w _ hw146_4)).trans hw146_4), ((HB.out.cell (World.block_lt_of_cell? w _ hw146_5)).trans hw146_5), ((HB.out.cell (World.block_lt_of_cell? w _ hw147_0)).trans hw147_0), ((HB.out.cell (World.block_lt_of_cell? w _ hw147_1)).trans hw147_1), ((HB.out.cell (World.block_lt_of_cell? w _ hw147_2)).trans hw147_2), ((HB.out.cell (World.block_lt_of_cell? w _ hw147_3)).trans hw147_3), ((HB.out.cell (World.block_lt_of_cell? w _ hw147_4)).trans hw147_4), ((HB.out.cell (World.block_lt_of_cell? w _ hw147_5)).trans hw147_5), ((HB.out.cell (World.block_lt_of_cell? w _ hw148_0)).trans hw148_0)⟩ (fun hHeld => ?_); refine with_tabW laws_sameTries.tab6 laws_sameTries.bits6 (fun HT_ HW_ => ?_)
            generalize wr.drew = w18 at HB HR146_4 HR146_5 HR147_4 HR147_5 hx146_0 hx146_1 hx146_2 hx146_3 hx146_4 hx146_5 hx147_0 hx147_1 hx147_2 hx147_3 hx147_4 hx147_5 hx148_0 hHeld ⊢
            refine pure_ (i := 0) (N := some 27) (v := ?_) (a' := ?_) #[true, false, false, false, false, false, false, false, false, false, false, false, false, false, false, false] rfl rfl (any_of HT_.out (by kernel_rfl)) (fun _ _ _ h => h) (Or.inl ⟨by rfl, ?_⟩) ?_ ?_
            rotate_left
            ·intro w'
             go_simp
             with_reducible rfl
            rotate_left
            ·simp only [Act.put, List.setIfInBounds_toArray, List.set_cons_zero, List.set_cons_succ, i64_w, i32_w]
             rfl
            refine pure_ (i := 1) (N := some 28) (v := ?_) (a' := ?_) #[true, true, false, false, false, false, false, false, false, false, false, false, false, false, false, false] rfl rfl (any_of HT_.out (by kernel_rfl)) (fun _ _ _ h => h) (Or.inl ⟨by rfl, ?_⟩) ?_ ?_
            rotate_left
            ·intro w'
             go_simp
             with_reducible rfl
            rotate_left
            ·simp only [Act.put, List.setIfInBounds_toArray, List.set_cons_zero, List.set_cons_succ, i64_w, i32_w]
             rfl
            refine pure_ (i := 2) (N := some 29) (v := ?_) (a' := ?_) #[true, true, true, false, false, false, false, false, false, false, false, false, false, false, false, false] rfl rfl (any_of HT_.out (by kernel_rfl)) (fun _ _ _ h => h) (Or.inl ⟨by rfl, ?_⟩) ?_ ?_
            rotate_left
            ·intro w'
             go_simp
             with_reducible rfl
            rotate_left
            ·simp only [Act.put, List.setIfInBounds_toArray, List.set_cons_zero, List.set_cons_succ, i64_w, i32_w]
             rfl
            refine pure_ (i := 4) (N := some 31) (v := ?_) (a' := ?_) #[true, true, true, false, true, false, false, false, false, false, false, false, false, false, false, false] rfl rfl (any_of HT_.out (by kernel_rfl)) (fun _ _ _ h => h) (Or.inl ⟨by rfl, ?_⟩) ?_ ?_
            rotate_left
            ·intro w'
             go_simp
             with_reducible rfl
            rotate_left
            ·simp only [Act.put, List.setIfInBounds_toArray, List.set_cons_zero, List.set_cons_succ, i64_w, i32_w]
             rfl
            refine pure_ (i := 5) (N := some 32) (v := ?_) (a' := ?_) #[true, true, true, false, true, true, false, false, false, false, false, false, false, false, false, false] rfl rfl (any_of HT_.out (by kernel_rfl)) (fun _ _ _ h => h) (Or.inl ⟨by rfl, ?_⟩) ?_ ?_
            rotate_left
            ·intro w'
             go_simp
             with_reducible rfl
            rotate_left
            ·simp only [Act.put, List.setIfInBounds_toArray, List.set_cons_zero, List.set_cons_succ, i64_w, i32_w]
             rfl
            refine pure_ (i := 6) (N := some 33) (v := ?_) (a' := ?_) #[true, true, true, false, true, true, true, false, false, false, false, false, false, false, false, false] rfl rfl (any_of HT_.out (by kernel_rfl)) (fun _ _ _ h => h) (Or.inl ⟨by rfl, ?_⟩) ?_ ?_
            rotate_left
            ·intro w'
             go_simp
             with_reducible rfl
            rotate_left
            ·simp only [Act.put, List.setIfInBounds_toArray, List.set_cons_zero, List.set_cons_succ, i64_w, i32_w]
             rfl
            refine pure_ (i := 8) (N := some 35) (v := ?_) (a' := ?_) #[true, true, true, false, true, true, true, false, true, false, false, false, false, false, false, false] rfl rfl (any_of HT_.out (by kernel_rfl)) (fun _ _ _ h => h) (Or.inl ⟨by rfl, ?_⟩) ?_ ?_
            rotate_left
            ·intro w'
             go_simp
             with_reducible rfl
            rotate_left
            ·simp only [Act.put, List.setIfInBounds_toArray, List.set_cons_zero, List.set_cons_succ, i64_w, i32_w]
             rfl
            refine pure_ (i := 9) (N := some 36) (v := ?_) (a' := ?_) #[true, true, true, false, true, true, true, false, true, true, false, false, false, false, false, false] rfl rfl (any_of HT_.out (by kernel_rfl)) (fun _ _ _ h => h) (Or.inl ⟨by rfl, ?_⟩) ?_ ?_
            rotate_left
            ·intro w'
             go_simp
             with_reducible rfl
            rotate_left
            ·simp only [Act.put, List.setIfInBounds_toArray, List.set_cons_zero, List.set_cons_succ, i64_w, i32_w]
             rfl
            refine pure_ (i := 10) (N := some 37) (v := ?_) (a' := ?_) #[true, true, true, false, true, true, true, false, true, true, true, false, false, false, false, false] rfl rfl (any_of HT_.out (by kernel_rfl)) (fun _ _ _ h => h) (Or.inl ⟨by rfl, ?_⟩) ?_ ?_
            rotate_left
            ·intro w'
             go_simp
             with_reducible rfl
            rotate_left
            ·simp only [Act.put, List.setIfInBounds_toArray, List.set_cons_zero, List.set_cons_succ, i64_w, i32_w]
             rfl
            refine pure_ (i := 11) (N := some 38) (v := ?_) (a' := ?_) #[true, true, true, false, true, true, true, false, true, true, true, true, false, false, false, false] rfl rfl (any_of HT_.out (by kernel_rfl)) (fun _ _ _ h => h) (Or.inl ⟨by rfl, ?_⟩) ?_ ?_
            rotate_left
            ·intro w'
             go_simp
             with_reducible rfl
            rotate_left
            ·simp only [Act.put, List.setIfInBounds_toArray, List.set_cons_zero, List.set_cons_succ, i64_w, i32_w]
             rfl
            refine take_ (i := 3) (N := some 30) (v := ?_) (a' := ?_) #[true, true, true, true, true, true, true, false, true, true, true, true, false, false, false, false] rfl rfl (take_ofW HT_.out HW_.out (by kernel_rfl)) (fun _ _ _ h => h) (Or.inl ⟨by rfl, ?_⟩) hHeld ?_ ?_
            rotate_left
            ·rintro w' ⟨s0, s1, s2, s3, s4, s5, s6, s7, s8, s9, s10, s11, s12⟩
             go_simp
             with_reducible rfl
            rotate_left
            ·simp only [Act.put, List.setIfInBounds_toArray, List.set_cons_zero, List.set_cons_succ, i64_w, i32_w]
             rfl
            refine take_ (i := 7) (N := some 34) (v := ?_) (a' := ?_) #[true, true, true, true, true, true, true, true, true, true, true, true, false, false, false, false] rfl rfl (take_ofW HT_.out HW_.out (by kernel_rfl)) (fun _ _ _ h => h) (Or.inl ⟨by rfl, ?_⟩) hHeld ?_ ?_
            rotate_left
            ·rintro w' ⟨s0, s1, s2, s3, s4, s5, s6, s7, s8, s9, s10, s11, s12⟩
             go_simp
             with_reducible rfl
            rotate_left
            ·simp only [Act.put, List.setIfInBounds_toArray, List.set_cons_zero, List.set_cons_succ, i64_w, i32_w]
             rfl
            refine take_ (i := 12) (N := some 39) (v := ?_) (a' := ?_) #[true, true, true, true, true, true, true, true, true, true, true, true, true, false, false, false] rfl rfl (take_ofW HT_.out HW_.out (by kernel_rfl)) (fun _ _ _ h => h) (Or.inl ⟨by rfl, ?_⟩) hHeld ?_ ?_
            rotate_left
            ·rintro w' ⟨s0, s1, s2, s3, s4, s5, s6, s7, s8, s9, s10, s11, s12⟩
             go_simp
             with_reducible rfl
            rotate_left
            ·simp only [Act.put, List.setIfInBounds_toArray, List.set_cons_zero, List.set_cons_succ, i64_w, i32_w]
             rfl
            refine one_ (i := 13) (N := some 40) #[true, true, true, true, true, true, true, true, true, true, true, true, true, true, false, false] rfl rfl (one_of HT_.out (by kernel_rfl)) (by decide) (fun K hK => ?_)
            refine goes_ Try.func31 (by kernel_rfl) rfl #[.slice A2 l2.length c2, .string (rdOf ByteArray.empty l3 x24_2)] (by rfl) rfl rfl (by (try simp only [List.map_toArray, List.map_cons, List.map_nil]); first | done | rfl | (simp only [List.length_drop, List.length_take]; rfl)) ?_
            with_reducible refine (spec_Half.calls k2 _ _ l2 (rdOf ByteArray.empty l3 x24_2) t149 _ ?side1 ?side2 A13.out).mono ?_
            (case side1 => repeat (first | exact (Kd.C_below HR2.out HB.out) | (with_reducible refine Kd.C_alloc ?_ _) | (with_reducible refine Kd.C_drewN ?_ _) | (with_reducible refine Kd.C_drew ?_)))
            (case side2 => exact HC2.out)
            rintro e w' ⟨rfl, ⟨nd, rfl⟩⟩
            refine ⟨_, rfl, ?_⟩
            refine hK.out _ _ ⟨((HB.out.cell (World.block_lt_of_cell? w _ hw146_0)).trans hw146_0), ((HB.out.cell (World.block_lt_of_cell? w _ hw146_1)).trans hw146_1), ((HB.out.cell (World.block_lt_of_cell? w _ hw146_2)).trans hw146_2), ((HB.out.cell (World.block_lt_of_cell? w _ hw146_3)).trans hw146_3), ((HB.out.cell (World.block_lt_of_cell? w _ hw146_4)).trans hw146_4), ((HB.out.cell (World.block_lt_of_cell? w _ hw146_5)).trans hw146_5), ((HB.out.cell (World.block_lt_of_cell? w _ hw147_0)).trans hw147_0), ((HB.out.cell (World.block_lt_of_cell? w _ hw147_1)).trans hw147_1), ((HB.out.cell (World.block_lt_of_cell? w _ hw147_2)).trans hw147_2), ((HB.out.cell (World.block_lt_of_cell? w _ hw147_3)).trans hw147_3), ((HB.out.cell (World.block_lt_of_cell? w _ hw147_4)).trans hw147_4), ((HB.out.cell (World.block_lt_of_cell? w _ hw147_5)).trans hw147_5), ((HB.out.cell (World.block_lt_of_cell? w _ hw148_0)).trans hw148_0)⟩ (fun hHeld => ?_)
            clear hK K
            refine norm_ (a' := ?_) ?_ ?_
            rotate_left
            ·show Act.put _ (some 40) _ = _
             simp only [Act.put, List.setIfInBounds_toArray, List.set_cons_zero, List.set_cons_succ, i64_w, i32_w]
             rfl
            refine one_ (i := 14) (N := some 41) #[true, true, true, true, true, true, true, true, true, true, true, true, true, true, true, false] rfl rfl (one_of HT_.out (by kernel_rfl)) (by decide) (fun K hK => ?_)
            refine goes_ Try.func30 (by kernel_rfl) rfl #[.agg #[.int .i64 ((rd_T34 l0 x24_2).f0.f0), .bool ((rd_T34 l0 x24_2).f0.f1), .int .i64 ((rd_T34 l0 x24_2).f1.f0), .bool ((rd_T34 l0 x24_2).f1.f1), .slice A146_4 ((rd_T34 l0 x24_2).f2).length c146_4, .slice A146_5 ((rd_T34 l0 x24_2).f3).length c146_5], .agg #[.int .i64 ((rd_T34 l1 x24_2).f0.f0), .bool ((rd_T34 l1 x24_2).f0.f1), .int .i64 ((rd_T34 l1 x24_2).f1.f0), .bool ((rd_T34 l1 x24_2).f1.f1), .slice A147_4 ((rd_T34 l1 x24_2).f2).length c147_4, .slice A147_5 ((rd_T34 l1 x24_2).f3).length c147_5], .bool t149] (by rfl) rfl rfl (by (try simp only [List.map_toArray, List.map_cons, List.map_nil]); first | done | rfl | (simp only [List.length_drop, List.length_take]; rfl)) ?_
            with_reducible refine (laws_sameTrie.calls k2 ((rd_T34 l0 x24_2).f0.f0) ((rd_T34 l0 x24_2).f0.f1) ((rd_T34 l0 x24_2).f1.f0) ((rd_T34 l0 x24_2).f1.f1) _ _ ((rd_T34 l0 x24_2).f2) _ _ ((rd_T34 l0 x24_2).f3) ((rd_T34 l1 x24_2).f0.f0) ((rd_T34 l1 x24_2).f0.f1) ((rd_T34 l1 x24_2).f1.f0) ((rd_T34 l1 x24_2).f1.f1) _ _ ((rd_T34 l1 x24_2).f2) _ _ ((rd_T34 l1 x24_2).f3) t149 false _ ?side1 ?side2 ?side3 ?side4 ?side5 ?side6 ?side7 ?side8 A14.out).mono ?_
            (case side1 => repeat (first | exact (Kd.C_below HR146_4.out (by repeat (first | (with_reducible first | exact HB.out | apply below_alloc | apply pw_below_drewN | apply below_drew1) | exact HB.out))) | (with_reducible refine Kd.C_alloc ?_ _) | (with_reducible refine Kd.C_drewN ?_ _) | (with_reducible refine Kd.C_drew ?_)))
            (case side2 => exact HC146_4.out)
            (case side3 => repeat (first | exact (Kd.C_below HR146_5.out (by repeat (first | (with_reducible first | exact HB.out | apply below_alloc | apply pw_below_drewN | apply below_drew1) | exact HB.out))) | (with_reducible refine Kd.C_alloc ?_ _) | (with_reducible refine Kd.C_drewN ?_ _) | (with_reducible refine Kd.C_drew ?_)))
            (case side4 => exact HC146_5.out)
            (case side5 => repeat (first | exact (Kd.C_below HR147_4.out (by repeat (first | (with_reducible first | exact HB.out | apply below_alloc | apply pw_below_drewN | apply below_drew1) | exact HB.out))) | (with_reducible refine Kd.C_alloc ?_ _) | (with_reducible refine Kd.C_drewN ?_ _) | (with_reducible refine Kd.C_drew ?_)))
            (case side6 => exact HC147_4.out)
            (case side7 => repeat (first | exact (Kd.C_below HR147_5.out (by repeat (first | (with_reducible first | exact HB.out | apply below_alloc | apply pw_below_drewN | apply below_drew1) | exact HB.out))) | (with_reducible refine Kd.C_alloc ?_ _) | (with_reducible refine Kd.C_drewN ?_ _) | (with_reducible refine Kd.C_drew ?_)))
            (case side8 => exact HC147_5.out)
            rintro e w19 ⟨rfl, hb⟩
            refine ⟨_, rfl, ?_⟩
            have n0_ := Aside0.mk (below_step (by repeat (first | (with_reducible first | exact HB.out | apply below_alloc | apply pw_below_drewN | apply below_drew1) | exact HB.out)) hb)
            clear HB
            have HB := n0_
            clear n0_
            (try clear hb)
            (try clear hb2)
            (try clear hk)
            (try clear hi)
            refine hK.out _ _ ⟨((HB.out.cell (World.block_lt_of_cell? w _ hw146_0)).trans hw146_0), ((HB.out.cell (World.block_lt_of_cell? w _ hw146_1)).trans hw146_1), ((HB.out.cell (World.block_lt_of_cell? w _ hw146_2)).trans hw146_2), ((HB.out.cell (World.block_lt_of_cell? w _ hw146_3)).trans hw146_3), ((HB.out.cell (World.block_lt_of_cell? w _ hw146_4)).trans hw146_4), ((HB.out.cell (World.block_lt_of_cell? w _ hw146_5)).trans hw146_5), ((HB.out.cell (World.block_lt_of_cell? w _ hw147_0)).trans hw147_0), ((HB.out.cell (World.block_lt_of_cell? w _ hw147_1)).trans hw147_1), ((HB.out.cell (World.block_lt_of_cell? w _ hw147_2)).trans hw147_2), ((HB.out.cell (World.block_lt_of_cell? w _ hw147_3)).trans hw147_3), ((HB.out.cell (World.block_lt_of_cell? w _ hw147_4)).trans hw147_4), ((HB.out.cell (World.block_lt_of_cell? w _ hw147_5)).trans hw147_5), ((HB.out.cell (World.block_lt_of_cell? w _ hw148_0)).trans hw148_0)⟩ (fun hHeld => ?_)
            clear hK K
            refine norm_ (a' := ?_) ?_ ?_
            rotate_left
            ·show Act.put _ (some 41) _ = _
             simp only [Act.put, List.setIfInBounds_toArray, List.set_cons_zero, List.set_cons_succ, i64_w, i32_w]
             rfl
            refine pure_ (i := 15) (N := some 42) (v := ?_) (a' := ?_) #[true, true, true, true, true, true, true, true, true, true, true, true, true, true, true, true] rfl rfl (any_of HT_.out (by kernel_rfl)) (fun _ _ _ h => h) (Or.inl ⟨by rfl, ?_⟩) ?_ ?_
            rotate_left
            ·intro w'
             go_simp
             with_reducible rfl
            rotate_left
            ·simp only [Act.put, List.setIfInBounds_toArray, List.set_cons_zero, List.set_cons_succ, i64_w, i32_w]
             rfl
            refine done_ (done_of HT_.out (by kernel_rfl)) ?_
            try go_wp2
            go_ret
            exact ⟨by first | rfl | (simp [errW_none, errW_some] <;> rfl) | (simp [*, errW_none, errW_some] <;> rfl), by repeat (first | (with_reducible first | exact HB.out | apply below_alloc | apply pw_below_drewN | apply below_drew1) | exact HB.out)⟩
          ·rw [if_neg c12] at H
           exact absurd H (by simp)
         ·rw [if_neg c11] at H
          exact absurd H (by simp)
        ·rw [if_neg c10] at H
         exact absurd H (by simp)
       ·rw [if_neg c9] at H
        exact absurd H (by simp)
      ·rw [if_neg c8] at H
       have c8b0 : decide (x24_2 < (l0.length : Int)) = false := decide_eq_false c8
       clear c8
       obtain rfl := Option.some.inj H
       go_wp2
       go_ret
       exact ⟨by first | rfl | (simp [errW_none, errW_some] <;> rfl) | (simp [*, errW_none, errW_some] <;> rfl), by repeat (first | (with_reducible first | exact HB.out | apply below_alloc | apply pw_below_drewN | apply below_drew1) | exact HB.out)⟩

end Go.Proofs.Ytaejkbjepbifcaa.PB
namespace Go.Proofs.Ytaejkbjepbifcaa.Da
open Go.RowKit Go.Proofs.YtaejkbjepbifcaaW.PrintWords
set_option linter.unusedVariables false
set_option linter.unusedSimpArgs false
/-- The numbers 1, 2 .. -/
def ones (n : Nat) : List Int := (List.range n).map (fun q : Nat => (q : Int) + 1)
theorem ones_len (n : Nat) : (ones n).length = n := by unfold ones; simp
theorem ones_at {n q : Nat} (h : q < n) : (ones n).getD q 0 = (q : Int) + 1 := by
  unfold ones
  rw [List.getD_eq_getElem?_getD, List.getElem?_map, List.getElem?_range h]; rfl
/-- The identifiers so far. -/
structure IdS (W w : World) (bb n i : Nat) : Prop where
  kp : Kp W w (fun _ => False)
  ge : W.heap.size ≤ bb
  ar : ∃ cur, w.heap[bb]? = some (.cells cur 3 (0, 0)) ∧ cur.size = n ∧ ∀ q, q < i → cur[q]? = some (.int .i64 ((q : Int) + 1))
theorem IdS.facts {W w : World} {bb n i : Nat} (h : IdS W w bb n i) (hi : i < n) : (∃ v, w.cell? ⟨bb, i, none⟩ = some v) ∧ w.frozen? ⟨bb, i, none⟩ = false := by
  obtain ⟨cur, h1, h2, h3⟩ := h.ar
  constructor
  · unfold World.cell?; simp [h1, h2, hi]
  · unfold World.frozen?; simp [h1]
theorem IdS.put {W w : World} {bb n i : Nat} (h : IdS W w bb n i) (hi : i < n) : IdS W (w.setCell ⟨bb, i, none⟩ (.int .i64 ((i : Int) + 1))) bb n (i + 1) := by
  obtain ⟨cur, h1, h2, h3⟩ := h.ar
  refine ⟨h.kp.setNew _ _ h.ge, h.ge, _, setCell_heap h1, by simpa using h2, fun q hq => ?_⟩
  rw [Array.getElem?_setIfInBounds]
  by_cases e : i = q
  · subst e; rw [if_pos rfl, if_pos (by omega)]
  · rw [if_neg e]; exact h3 q (by omega)
theorem IdS.row {W w : World} {bb n : Nat} (h : IdS W w bb n n) (hn : n ≤ 1000000) : Kd.C (Kd.int .i64) w (some ⟨bb, 0, none⟩) (ones n).length (ones n) ∧ bb < w.heap.size := by
  obtain ⟨cur, h1, h2, h3⟩ := h.ar
  refine ⟨⟨rfl, by rw [ones_len]; omega, fun _ => ⟨_, rfl, fun j p hj => ⟨[.int .i64 p], rfl, rfl, fun i u hu => ?_⟩⟩⟩, (Array.getElem?_eq_some_iff.1 h1).1⟩
  have hjn : j < n := by have := (List.getElem?_eq_some_iff.1 hj).1; rw [ones_len] at this; exact this
  have hp : p = (j : Int) + 1 := by
    have := ones_at hjn
    rw [List.getD_eq_getElem?_getD, hj] at this
    exact this
  cases i with
  | succ i => simp at hu
  | zero =>
    simp at hu
    subst hu
    have e1 : (Kd.int .i64).sz = 1 := rfl
    rw [e1, Nat.mul_one, Nat.add_zero, add_at0, Nat.zero_add]
    unfold World.cell?
    simp [h1, h3 j hjn, hp]
end Go.Proofs.Ytaejkbjepbifcaa.Da
namespace Go.Proofs.Ytaejkbjepbifcaa.Da
open Go.RowKit Go.Proofs.YtaejkbjepbifcaaW.PrintWords Go.Proofs.Ytaejkbjepbifcaa.Plain
set_option linter.unusedVariables false
set_option linter.unusedSimpArgs false
theorem begins_some (a b : ByteArray) : ∃ r, PB.spec_dBegins.f a b = some r := by
  unfold PB.spec_dBegins.f
  by_cases h : (a.size : Int) ≥ (b.size : Int)
  · rw [if_pos h, if_pos (by omega), if_pos h]; exact ⟨_, rfl⟩
  · rw [if_neg h]; exact ⟨_, rfl⟩
theorem half_key (l : List ByteArray) (s : ByteArray) (hl : l.length ≤ 4611686018427387904) : ∀ d i (b : Bool), i + d = l.length → ∃ r, Ev (fun k => PB.spec_Half.l0 k s b l (l.length : Int) (i : Int)) r
  | 0, i, b, h => ⟨_, Ev.step (fun k => by rw [PB.spec_Half.l0]) (evn (by omega) (Ev.now _))⟩
  | d + 1, i, b, h => by
    obtain ⟨rt, ht⟩ := half_key l s hl d (i + 1) true (by omega)
    obtain ⟨rb, hb⟩ := begins_some (rdOf ByteArray.empty l (i : Int)) s
    obtain ⟨r2, h2⟩ := half_key l s hl d (i + 1) rb (by omega)
    have go : ∃ r, Ev (fun k => if b = true then PB.spec_Half.l0 k s true l (l.length : Int) (wrap64 ((i : Int) + 1)) else (PB.spec_dBegins.f (rdOf ByteArray.empty l (i : Int)) s).bind fun t144 => PB.spec_Half.l0 k s t144 l (l.length : Int) (wrap64 ((i : Int) + 1))) r := by
      rw [wrap_up i (by omega), hb]
      by_cases e : b = true
      · exact ⟨rt, evp e ht⟩
      · exact ⟨r2, evn e h2⟩
    obtain ⟨rg, hg⟩ := go
    by_cases e1 : (rdOf ByteArray.empty l (i : Int)).toList = s.toList
    · by_cases e2 : s.toList = []
      · exact ⟨rg, Ev.step (fun k => by rw [PB.spec_Half.l0]) (evp (by omega) (evp (by omega) (evp (by omega) (evp e1 (evp e2 hg)))))⟩
      · exact ⟨false, Ev.step (fun k => by rw [PB.spec_Half.l0]) (evp (by omega) (evp (by omega) (evp (by omega) (evp e1 (evn e2 (Ev.now false))))))⟩
    · exact ⟨rg, Ev.step (fun k => by rw [PB.spec_Half.l0]) (evp (by omega) (evp (by omega) (evp (by omega) (evn e1 hg))))⟩
theorem half_ev (l : List ByteArray) (s : ByteArray) (hl : l.length ≤ 4611686018427387904) : ∃ r, Ev (fun k => PB.spec_Half.f k l s) r := half_key l s hl l.length 0 false (by omega)
theorem found_refl (a : Int) (b : Bool) : PB.laws_sameFound.f a b a b = some true := by
  unfold PB.laws_sameFound.f
  cases b <;> simp
theorem trie_refl (a : PB.S34) (h : Bool) (h2 : a.f2.length ≤ 4611686018427387904) (h3 : a.f3.length ≤ 4611686018427387904) : Ev (fun k => PB.laws_sameTrie.f k a.f0.f0 a.f0.f1 a.f1.f0 a.f1.f1 a.f2 a.f3 a.f0.f0 a.f0.f1 a.f1.f0 a.f1.f1 a.f2 a.f3 h) true := by
  have e2 := same_ev a.f2 h2
  have e3 := same_ev a.f3 h3
  unfold PB.laws_sameTrie.f
  cases h with
  | true =>
    refine evp rfl ?_
    rw [found_refl]
    exact Ev.bind (Ev.now true) (evp rfl (Ev.bind e2 (evp rfl (Ev.bind e3 (Ev.now true)))))
  | false =>
    refine evn (by simp) ?_
    rw [found_refl, found_refl]
    exact Ev.bind (Ev.now true) (evp rfl (Ev.bind (Ev.now true) (evp rfl (Ev.bind e2 (evp rfl (Ev.bind e3 (Ev.now true)))))))
theorem rd_ans (l : List PB.S34) (i : Nat) : PB.rd_T34 l (i : Int) = l.getD i PB.z34 := by unfold PB.rd_T34; rw [Int.toNat_natCast]
theorem tries_key (l : List PB.S34) (ks ts : List ByteArray) (hl : l.length = ts.length) (hk : ks.length ≤ 4611686018427387904) (h : ts.length ≤ 4611686018427387904) (hs : ∀ a ∈ l, a.f2.length ≤ 4611686018427387904 ∧ a.f3.length ≤ 4611686018427387904) : ∀ d i, i + d = l.length → Ev (fun k => PB.laws_sameTries.l0 k l l ks ts (l.length : Int) (i : Int)) true
  | 0, i, hi => Ev.step (fun k => by rw [PB.laws_sameTries.l0]) (evn (by omega) (Ev.now true))
  | d + 1, i, hi => by
    have ih := tries_key l ks ts hl hk h hs d (i + 1) (by omega)
    obtain ⟨rh, hh⟩ := half_ev ks (rdOf ByteArray.empty ts (i : Int)) hk
    have ha := hs _ (getD_mem PB.z34 (show i < l.length by omega))
    have ht := trie_refl (l.getD i PB.z34) rh ha.1 ha.2
    refine Ev.step (fun k => by rw [PB.laws_sameTries.l0]) (evp (by omega) (evp (by omega) (evp (by omega) (evp (by omega) (evp (by omega) ?_)))))
    refine Ev.bind hh ?_
    rw [rd_ans]
    exact Ev.bind ht (evp rfl (by rw [wrap_up i (by omega)]; exact ih))
theorem tries_ev (l : List PB.S34) (ks ts : List ByteArray) (hl : l.length = ts.length) (hk : ks.length ≤ 4611686018427387904) (h : ts.length ≤ 4611686018427387904) (hs : ∀ a ∈ l, a.f2.length ≤ 4611686018427387904 ∧ a.f3.length ≤ 4611686018427387904) : ∃ k, PB.laws_sameTries.f k l l ks ts = some true := by
  have := tries_key l ks ts hl hk h hs l.length 0 (by omega)
  have e : ((l.length : Int) != (ts.length : Int)) = false := by rw [hl]; simp
  have h2 : Ev (fun k => PB.laws_sameTries.f k l l ks ts) true := by
    unfold PB.laws_sameTries.f
    refine evp rfl ?_
    rw [e]
    rw [show ((0 : Nat) : Int) = 0 from rfl] at this
    exact Ev.step (fun k => by rw [PB.laws_sameTries.j0]) (evn (by simp) this)
  exact h2.rounds
theorem ans_small (L : Keys) {ts : List ByteArray} (h : ∀ t ∈ ts, Cln t ∧ t.size ≤ 1000000000) : ∀ a ∈ ts.map (ans L), a.f2.length ≤ 4611686018427387904 ∧ a.f3.length ≤ 4611686018427387904 := by
  intro a ha
  obtain ⟨t, ht, rfl⟩ := List.mem_map.1 ha
  have h1 := hitsS_len L (bs t) (bs t).length
  have h2 := (h t ht).2
  rw [bs_len] at h1
  show (hitsS L (bs t) (bs t).length).length ≤ _ ∧ (hitsS L (bs t) (bs t).length).length ≤ _
  rw [bs_len]
  omega
/-- The answers as a list that is read. -/
def AskL (W w' : World) (L : Keys) (ts : List ByteArray) (e : Ending) : Prop := ∃ (A : Option Addr) (n : Nat) (l : List PB.S34), e = .returned (.tuple #[.slice A l.length n, .int .i64 0]) ∧ Aside0 (l = ts.map (ans L)) ∧ Aside0 (Kd.C PB.k34 w' A l.length l) ∧ Aside0 (l.length ≤ n) ∧ Below W.heap.size W w'
theorem askl_of {W w' : World} {L : Keys} {ts : List ByteArray} {e : Ending} (h : AskE W w' L ts e) : AskL W w' L ts e := by
  obtain ⟨ov, rfl, hR, hB⟩ := h
  obtain ⟨A, n, rfl, l1, g1⟩ := Kd.R_reads hR
  exact ⟨A, n, _, rfl, ⟨rfl⟩, ⟨g1⟩, ⟨l1⟩, hB⟩
theorem trie_any (W : World) (A0 A1 A2 : Option Addr) (c0 c1 c2 k : Nat) (ss ts : List ByteArray) (ds : List Int) (n : Nat) (hn : n = ds.length) (hr0 : Kd.C Kd.string W A0 ss.length ss) (hc0 : ss.length ≤ c0) (hr1 : Kd.C (Kd.int .i64) W A1 ds.length ds) (hc1 : ds.length ≤ c1) (hr2 : Kd.C Kd.string W A2 ts.length ts) (hs : PB.slices_IsSorted_string_string.f k ss = some true) (K : KeysOk ss ds) (hI : InsOk ts) :
    Calls Try.prog 17 #[.slice A0 ss.length c0, .slice A1 n c1, .slice A2 ts.length c2] W fun e w' => AskL W w' (keysAll ss ds) ts e := by
  subst hn
  exact (trie_calls W A0 A1 A2 c0 c1 c2 k ss ts ds hr0 hc0 hr1 hc1 hr2 hs K hI).mono (fun _ _ h => askl_of h)
end Go.Proofs.Ytaejkbjepbifcaa.Da
