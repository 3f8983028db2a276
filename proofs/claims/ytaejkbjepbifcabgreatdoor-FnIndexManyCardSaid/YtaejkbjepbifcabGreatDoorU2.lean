/- The walks over tries and what they compute: part 2 of several, put together by a program. -/
import Derived.Test.YtaejkbjepbifcabGreatDoorU0
import Derived.RowKit
import Derived.Test.YtaejkbjepbifcabGreatDoorKOwn
import Derived.Test.YtaejkbjepbifcabGreatDoorProg
import Derived.Test.YtaejkbjepbifcabGreatDoorKPlain
import Derived.Maps.GroupsBeside
import Derived.Maps.AppendAt
import Derived.Maps.Views
import Derived.Maps.Keyed
import Derived.WalkArith
import Derived.Lib.ConvBytes
import Derived.Deep.QuietTactic
import Derived.BigQuiet
import Derived.StillTailTactics
import Derived.Deep.CutBlock
import Derived.Deep.DeepCutAuto
import Derived.Outline
import Derived.Laws.CopyRow
import Derived.Laws.MakeOwn
import Derived.Deep.LoopGhost
namespace Go.Proofs.YtaejkbjepbifcabGreatDoor.PB
open Go.RowKit Go.Proofs.YtaejkbjepbifcabGreatDoorW.PrintWords Go.Proofs.YtaejkbjepbifcabGreatDoorW.PrintLast Go.Proofs.YtaejkbjepbifcabGreatDoorW.PrintMore
attribute [local go_sem] max2_int min2_int max_two min_two max_three min_three max_four min_four   -- for this text's walks alone
set_option linter.unusedVariables false
set_option linter.unusedSimpArgs false

end Go.Proofs.YtaejkbjepbifcabGreatDoor.PB
namespace Go.Proofs.YtaejkbjepbifcabGreatDoor.PB
open Go.RowKit Go.Proofs.YtaejkbjepbifcabGreatDoorW.PrintWords Go.Proofs.YtaejkbjepbifcabGreatDoorW.PrintLast Go.Proofs.YtaejkbjepbifcabGreatDoorW.PrintMore
attribute [local go_sem] max2_int min2_int max_two min_two max_three min_three max_four min_four   -- for this text's walks alone
set_option linter.unusedVariables false
set_option linter.unusedSimpArgs false

/-! ### laws_places: function 17 -/
def laws_places.l0 : Nat → List ByteArray → ByteArray → List Int → Int → Int → Option (List Int)
 | 0, _, _, _, _, _ => none
 | k + 1, x0, x1, x5, x8, x9 => if x9 < x8 then (if 0 ≤ x9 then (if x9 < (x0.length : Int) then (if (rdOf ByteArray.empty x0 x9).toList = x1.toList then (if x5.length < 17592186044416 then (laws_places.l0 k x0 x1 (x5 ++ [x9]) x8 (wrap64 (x9 + 1))) else (none)) else (laws_places.l0 k x0 x1 x5 x8 (wrap64 (x9 + 1)))) else (none)) else (none)) else (some x5)
def laws_places.f (k : Nat) (l0 : List ByteArray) (a1 : ByteArray) : Option (List Int) := laws_places.l0 k l0 a1 ([] : List Int) (l0.length : Int) 0
set_option maxHeartbeats 8000000 in
set_option maxRecDepth 100000 in
theorem laws_places.calls (k : Nat) (A0 : Option Addr) (c0 : Nat) (l0 : List ByteArray) (a1 : ByteArray) (r : List Int) (w : World) (hr0 : Kd.C Kd.string w A0 l0.length l0) (hc0 : l0.length ≤ c0) (h : laws_places.f k l0 a1 = some r) :
  Calls Tryz.prog 17 #[.slice A0 l0.length c0, .string a1] w fun e w' => ∃ v0_ : Value, e = .returned (v0_) ∧ Kd.R (Kd.int .i64) 3 w' w.heap.size (fun _ => True) v0_ r ∧ Below w.heap.size w w' := by
 have HR0 := Aside0.mk hr0
 have HC0 := Aside0.mk hc0
 clear hr0 hc0
 have HB := Aside0.mk (Below.refl w.heap.size w)
 have H : (laws_places.l0 k l0 a1 ([] : List Int) (l0.length : Int) 0) = some r := h
 clear h
 have H' := Aside0.mk H
 clear H
 go_enter Tryz.func17, Tryz.ntmps17
 go_wp2
 go_loopg [5, 9] k (fun kq v5 v9 w' => ∃ (x5_1 : List Int) (x9_1 : Int), v9 = .int .i64 x9_1 ∧ Aside0 (laws_places.l0 kq l0 a1 x5_1 (l0.length : Int) x9_1 = some r) ∧ Aside0 (kq ≤ k) ∧ Aside0 (Kd.R (Kd.int .i64) 3 w' w.heap.size (fun _ => True) v5 x5_1) ∧ Aside0 (Below w.heap.size w w'))
 case atStart => exact ⟨(([] : List Int)), (0), (by first | rfl | (simp; done) | (simp [*]; done)), H', ⟨Nat.le_refl _⟩, ⟨by first | exact Kd.R_nil _ _ _ _ _ | exact Kd.N_nil _ _ _ _ _ | exact Kd.V_nil _ _ _ _ _ | exact Kd.Q_nil _ _ _ _ _ | exact Kd.S_nil _ _ _ _ _⟩, ⟨by repeat (first | (with_reducible first | exact HB.out | apply below_alloc | apply pw_below_drewN | apply below_drew1) | exact HB.out)⟩⟩
 case round =>
  clear H'
  try clear c1
  try clear p2
  obtain ⟨x5_1, x9_1, rfl, HA, HK1, HO_5, HB⟩ := hrel
  cases gk with
  | zero => exact absurd HA.out (by simp [laws_places.l0])
  | succ k1 =>
   have H := HA.out
   clear HA
   simp only [laws_places.l0] at H
   by_cases c3 : x9_1 < (l0.length : Int)
   ·rw [if_pos c3] at H
    have c3b0 : decide (x9_1 < (l0.length : Int)) = true := decide_eq_true c3
    clear c3
    by_cases c4 : 0 ≤ x9_1
    ·rw [if_pos c4] at H
     have c4b0 : decide (0 ≤ x9_1) = true := decide_eq_true c4
     clear c4
     by_cases c5 : x9_1 < (l0.length : Int)
     ·rw [if_pos c5] at H
      have c5b0 : decide (x9_1 < (l0.length : Int)) = true := decide_eq_true c5
      clear c5
      by_cases c6 : (rdOf ByteArray.empty l0 x9_1).toList = a1.toList
      ·rw [if_pos c6] at H
       have c6b0 : ((rdOf ByteArray.empty l0 x9_1).toList == a1.toList) = true := beq_iff_eq.mpr c6
       have c6b1 : ((rdOf ByteArray.empty l0 x9_1).toList != a1.toList) = false := bne_eq_false_iff_eq.mpr c6
       clear c6
       by_cases c7 : x5_1.length < 17592186044416
       ·rw [if_pos c7] at H
        have LMc7 := Aside0.mk c7
        clear c7
        obtain ⟨y153, hy153⟩ : ∃ y_ : List Int, y_ = (x5_1 ++ [x9_1]) := ⟨_, rfl⟩
        replace H : (laws_places.l0 k1 l0 a1 y153 (l0.length : Int) (wrap64 (x9_1 + 1))) = some r := by first | (rw [hy153]; with_reducible exact H) | (have H2_ := (Option.bind_some _ _).symm.trans H; rw [hy153]; with_reducible exact H2_) | (have H2_ := (Option.bind_some _ _).symm.trans H; with_reducible exact H2_) | with_reducible exact H | (rw [hy153]; exact H) | exact H
        have Ny153 := Aside0.mk hy153
        clear hy153
        have H' := Aside0.mk H
        clear H
        have p152 : 0 ≤ (x9_1 : Int) := of_decide_eq_true (by first | (with_reducible assumption) | assumption)
        have q152 : x9_1 < (l0.length : Int) := of_decide_eq_true (by first | (with_reducible assumption) | assumption)
        obtain ⟨ad152, e152, hx152_0⟩ := Kd.at_string HR0.out x9_1 p152 q152
        cases e152
        replace hx152_0 := (HB.out.cell (World.block_lt_of_cell? w _ hx152_0)).trans hx152_0
        replace p152 := eq_true p152
        replace q152 := eq_true q152
        go_wp2_with (first | ((with_reducible refine gate_builtin (b := .append) (xs := #[.tmp 18, .tmp 20]) rfl ?_); at_builtin; refine Kd.R_append (Kd.int .i64) (w0 := w) w.heap.size rfl (.tmp 18) (.tmp 20) 38 3 (.int .i64 0) 8 rfl Tryz.underlying38 info3 rfl (by decide) (by omega) u5 x5_1 x9_1 [.int .i64 x9_1] (fun _ => True) (fun _ => False) rfl rfl ?aP (fun _ hk => hk.elim) ?aF ?aO ?aB ?aS ?aL ?_; (case aP => exact rfl); (case aB => exact (by repeat (first | (with_reducible first | exact HB.out | apply below_alloc | apply pw_below_drewN | apply below_drew1) | exact HB.out))); (case aF => exact (fun _ _ => trivial)); (case aO => exact (by (with_reducible repeat (first | apply Kd.R_alloc | apply Kd.R_drewN | apply Kd.R_drew)); exact HO_5.out)); (case aS => exact (below_size (by repeat (first | (with_reducible first | exact HB.out | apply below_alloc | apply pw_below_drewN | apply below_drew1) | exact HB.out)))); (case aL => have := LMc7.out; omega); intro v154 w8 ho hb hg hat; rw [← Ny153.out] at ho; have n0_ := Aside0.mk (hb); have n1_ := Aside0.mk (ho); clear HB; clear HO_5; have HB := n0_; have HO155 := n1_; clear n0_ n1_; clear ho hb hg hat))
        go_roundg k1
        case measure => have := HK1.out; omega
        case rel => exact ⟨(y153), (wrap64 (x9_1 + 1)), (by first | rfl | (simp; done) | (simp [*]; done)), H', ⟨by have := HK1.out; omega⟩, ⟨by (with_reducible repeat (first | apply Kd.R_alloc | apply Kd.R_drewN | apply Kd.R_drew)); exact HO155.out⟩, ⟨by repeat (first | (with_reducible first | exact HB.out | apply below_alloc | apply pw_below_drewN | apply below_drew1) | exact HB.out)⟩⟩
       ·rw [if_neg c7] at H
        exact absurd H (by simp)
      ·rw [if_neg c6] at H
       have c6b0 : ((rdOf ByteArray.empty l0 x9_1).toList == a1.toList) = false := beq_eq_false_iff_ne.mpr c6
       have c6b1 : ((rdOf ByteArray.empty l0 x9_1).toList != a1.toList) = true := bne_iff_ne.mpr c6
       have H' := Aside0.mk H
       clear H
       have p152 : 0 ≤ (x9_1 : Int) := of_decide_eq_true (by first | (with_reducible assumption) | assumption)
       have q152 : x9_1 < (l0.length : Int) := of_decide_eq_true (by first | (with_reducible assumption) | assumption)
       obtain ⟨ad152, e152, hx152_0⟩ := Kd.at_string HR0.out x9_1 p152 q152
       cases e152
       replace hx152_0 := (HB.out.cell (World.block_lt_of_cell? w _ hx152_0)).trans hx152_0
       replace p152 := eq_true p152
       replace q152 := eq_true q152
       go_wp2
       go_roundg k1
       case measure => have := HK1.out; omega
       case rel => exact ⟨(x5_1), (wrap64 (x9_1 + 1)), (by first | rfl | (simp; done) | (simp [*]; done)), H', ⟨by have := HK1.out; omega⟩, ⟨by (with_reducible repeat (first | apply Kd.R_alloc | apply Kd.R_drewN | apply Kd.R_drew)); exact HO_5.out⟩, ⟨by repeat (first | (with_reducible first | exact HB.out | apply below_alloc | apply pw_below_drewN | apply below_drew1) | exact HB.out)⟩⟩
     ·rw [if_neg c5] at H
      exact absurd H (by simp)
    ·rw [if_neg c4] at H
     exact absurd H (by simp)
   ·rw [if_neg c3] at H
    have c3b0 : decide (x9_1 < (l0.length : Int)) = false := decide_eq_false c3
    clear c3
    obtain rfl := Option.some.inj H
    go_wp2
    go_ret
    exact ⟨_, by first | rfl | (simp [errW_none, errW_some] <;> rfl) | (simp [*, errW_none, errW_some] <;> rfl), by (with_reducible repeat (first | apply Kd.R_alloc | apply Kd.R_drewN | apply Kd.R_drew)); exact HO_5.out, by repeat (first | (with_reducible first | exact HB.out | apply below_alloc | apply pw_below_drewN | apply below_drew1) | exact HB.out)⟩

end Go.Proofs.YtaejkbjepbifcabGreatDoor.PB
namespace Go.Proofs.YtaejkbjepbifcabGreatDoor.Da
set_option linter.unusedVariables false
set_option linter.unusedSimpArgs false
structure DA where
  n : Nat
  B : Nat → Int
  C : Nat → Int
def upd (f : Nat → Int) (i : Nat) (x : Int) : Nat → Int := fun j => if j = i then x else f j
theorem upd_same (f : Nat → Int) (i : Nat) (x : Int) : upd f i x i = x := if_pos rfl
theorem upd_ne {f : Nat → Int} {i : Nat} {x : Int} {j : Nat} (h : j ≠ i) : upd f i x j = f j := if_neg h
structure Ring (s : DA) (h l : Nat) : Prop where
  h1 : 1 ≤ h
  hl : h ≤ l
  ln : l < s.n
  root : s.C 0 = -(h : Int)
  fh : s.C h < 0
  fl : s.C l < 0
  lo : ∀ j, 1 ≤ j → j < h → 0 ≤ s.C j
  hi : ∀ j, l < j → j < s.n → 0 ≤ s.C j
  nx : ∀ i, 1 ≤ i → i < s.n → s.C i < 0 → i ≠ l → ∃ x, i < x ∧ x < s.n ∧ s.C i = -(x : Int) ∧ s.C x < 0 ∧ s.B x = -(i : Int) ∧ ∀ j, i < j → j < x → 0 ≤ s.C j
  pv : ∀ i, 1 ≤ i → i < s.n → s.C i < 0 → i ≠ h → ∃ x, 1 ≤ x ∧ x < i ∧ s.B i = -(x : Int) ∧ s.C x = -(i : Int)
  wc : s.C l = -(h : Int)
  wb : s.B h = -(l : Int)
namespace Ring
variable {s : DA} {h l : Nat}
theorem le_l (r : Ring s h l) {i : Nat} (h2 : i < s.n) (hf : s.C i < 0) : i ≤ l := by
  rcases Nat.lt_or_ge l i with h | h
  · have := r.hi i h h2; omega
  · exact h
theorem ge_h (r : Ring s h l) {i : Nat} (h1 : 1 ≤ i) (hf : s.C i < 0) : h ≤ i := by
  rcases Nat.lt_or_ge i h with h | h
  · have := r.lo i h1 h; omega
  · exact h
end Ring
def DA.init (n : Nat) : DA := ⟨n, fun i => if i = 0 then 1 else if i = 1 then -((n : Int) - 1) else -((i : Int) - 1), fun i => if i = 0 then -1 else if i = n - 1 then -1 else -((i : Int) + 1)⟩
theorem ring_init (n : Nat) (hn : 3 ≤ n) : Ring (DA.init n) 1 (n - 1) := by
  refine ⟨by omega, by omega, by simp [DA.init]; omega, rfl, ?_, ?_, fun j _ _ => by omega, fun j h1 h2 => by simp [DA.init] at h2; omega, ?_, ?_, ?_, ?_⟩
  · simp only [DA.init]; rw [if_neg (by omega)]; split <;> omega
  · simp only [DA.init]; rw [if_neg (by omega), if_pos trivial]; omega
  · intro i h1 h2 hf hl
    simp only [DA.init] at h2 ⊢
    refine ⟨i + 1, by omega, by omega, ?_, ?_, ?_, fun j _ _ => by omega⟩
    · rw [if_neg (by omega), if_neg (by omega)]; omega
    · rw [if_neg (by omega)]; split <;> omega
    · rw [if_neg (by omega), if_neg (by omega)]; omega
  · intro i h1 h2 hf hh
    simp only [DA.init] at h2 ⊢
    refine ⟨i - 1, by omega, by omega, ?_, ?_⟩
    · rw [if_neg (by omega), if_neg (by omega)]; omega
    · rw [if_neg (by omega), if_neg (by omega)]; omega
  · simp only [DA.init]; rw [if_neg (by omega), if_pos trivial]; rfl
  · simp only [DA.init]; rw [if_neg (by omega), if_pos trivial]; omega
def DA.grow (s : DA) (h l : Nat) : DA :=
  ⟨2 * s.n, upd (upd (fun i => if i < s.n then s.B i else -((i : Int) - 1)) s.n (-(l : Int))) h (-(2 * (s.n : Int) - 1)), upd (upd (fun i => if i < s.n then s.C i else -((i : Int) + 1)) l (-(s.n : Int))) (2 * s.n - 1) (-(h : Int))⟩
theorem grow_C {s : DA} {h l : Nat} (r : Ring s h l) (hn : 3 ≤ s.n) {i : Nat} : (s.grow h l).C i = if i = 2 * s.n - 1 then -(h : Int) else if i = l then -(s.n : Int) else if i < s.n then s.C i else -((i : Int) + 1) := rfl
theorem grow_B {s : DA} {h l : Nat} {i : Nat} : (s.grow h l).B i = if i = h then -(2 * (s.n : Int) - 1) else if i = s.n then -(l : Int) else if i < s.n then s.B i else -((i : Int) - 1) := rfl
theorem ring_grow {s : DA} {h l : Nat} (r : Ring s h l) (hn : 3 ≤ s.n) : Ring (s.grow h l) h (2 * s.n - 1) := by
  have a1 := r.h1
  have a2 := r.hl
  have a3 := r.ln
  have en : (s.grow h l).n = 2 * s.n := rfl
  refine ⟨r.h1, by omega, by rw [en]; omega, ?_, ?_, ?_, ?_, ?_, ?_, ?_, ?_, ?_⟩
  · rw [grow_C r hn, if_neg (by omega), if_neg (by omega), if_pos (by omega)]; exact r.root
  · rw [grow_C r hn]
    have := r.fh
    split
    · omega
    · split
      · omega
      · rw [if_pos (by omega)]; exact r.fh
  · rw [grow_C r hn, if_pos rfl]; omega
  · intro j h1 h2
    rw [grow_C r hn, if_neg (by omega), if_neg (by omega), if_pos (by omega)]
    exact r.lo j h1 h2
  · intro j h1 h2; rw [en] at h2; omega
  · intro i h1 h2 hf hl2
    rw [en] at h2
    rw [grow_C r hn, if_neg hl2] at hf
    by_cases hi : i = l
    · subst hi
      refine ⟨s.n, by omega, by rw [en]; omega, ?_, ?_, ?_, ?_⟩
      · rw [grow_C r hn, if_neg (by omega), if_pos rfl]
      · rw [grow_C r hn]; split
        · omega
        · rw [if_neg (by omega), if_neg (by omega)]; omega
      · rw [grow_B, if_neg (by omega), if_pos rfl]
      · intro j h3 h4
        rw [grow_C r hn, if_neg (by omega), if_neg (by omega), if_pos (by omega)]
        exact r.hi j h3 h4
    · rw [if_neg hi] at hf
      by_cases hin : i < s.n
      · rw [if_pos hin] at hf
        obtain ⟨x, x1, x2, x3, x4, x5, x6⟩ := r.nx i h1 hin hf hi
        refine ⟨x, x1, by rw [en]; omega, ?_, ?_, ?_, ?_⟩
        · rw [grow_C r hn, if_neg (by omega), if_neg hi, if_pos hin]; exact x3
        · rw [grow_C r hn, if_neg (by omega)]; split
          · omega
          · first | exact x4 | (rw [if_pos x2]; exact x4)
        · have : x ≠ h := by have := r.ge_h h1 hf; omega
          rw [grow_B, if_neg this, if_neg (by omega), if_pos x2]; exact x5
        · intro j h3 h4
          have hjl : j ≠ l := by rintro rfl; have := x6 j h3 h4; have := r.fl; omega
          rw [grow_C r hn, if_neg (by omega), if_neg hjl, if_pos (by omega)]; exact x6 j h3 h4
      · refine ⟨i + 1, by omega, by rw [en]; omega, ?_, ?_, ?_, fun j _ _ => by omega⟩
        · rw [grow_C r hn, if_neg hl2, if_neg hi, if_neg hin]; omega
        · rw [grow_C r hn]; split
          · omega
          · rw [if_neg (by omega), if_neg (by omega)]; omega
        · rw [grow_B, if_neg (by omega), if_neg (by omega), if_neg (by omega)]; omega
  · intro i h1 h2 hf hh
    rw [en] at h2
    by_cases hin : i < s.n
    · have hf2 : s.C i < 0 := by
        rw [grow_C r hn, if_neg (by omega)] at hf
        by_cases hi : i = l
        · rw [hi]; exact r.fl
        · rw [if_neg hi, if_pos hin] at hf; exact hf
      obtain ⟨x, x1, x2, x3, x4⟩ := r.pv i h1 hin hf2 hh
      have hxl : x ≠ l := by have := r.le_l hin hf2; omega
      refine ⟨x, x1, x2, ?_, ?_⟩
      · rw [grow_B, if_neg hh, if_neg (by omega), if_pos hin]; exact x3
      · rw [grow_C r hn, if_neg (by omega), if_neg hxl, if_pos (by omega)]; exact x4
    · by_cases hi : i = s.n
      · subst hi
        refine ⟨l, by omega, by omega, ?_, ?_⟩
        · rw [grow_B, if_neg hh, if_pos rfl]
        · rw [grow_C r hn, if_neg (by omega), if_pos rfl]
      · refine ⟨i - 1, by omega, by omega, ?_, ?_⟩
        · rw [grow_B, if_neg hh, if_neg hi, if_neg hin]; omega
        · rw [grow_C r hn, if_neg (by omega), if_neg (by omega), if_neg (by omega)]; omega
  · rw [grow_C r hn, if_pos rfl]
  · rw [grow_B, if_pos rfl]; omega
def DA.take (s : DA) (q y x : Nat) (c : Int) : DA :=
  ⟨s.n, upd s.B x (s.B q), upd (upd (if s.C 0 = -(q : Int) then upd s.C 0 (s.C q) else s.C) y (s.C q)) q c⟩
theorem take_C {s : DA} {q y x : Nat} {c : Int} {i : Nat} : (s.take q y x c).C i = if i = q then c else if i = y then s.C q else if i = 0 ∧ s.C 0 = -(q : Int) then s.C q else s.C i := by
  simp only [DA.take, upd]
  split
  · rfl
  · split
    · rfl
    · by_cases h : s.C 0 = -(q : Int)
      · rw [if_pos h]
        show (if i = 0 then s.C q else s.C i) = _
        by_cases h0 : i = 0
        · rw [if_pos h0, if_pos ⟨h0, h⟩]
        · rw [if_neg h0, if_neg (by simp [h0])]
      · rw [if_neg h, if_neg (by simp [h])]
theorem take_B {s : DA} {q y x : Nat} {c : Int} {i : Nat} : (s.take q y x c).B i = if i = x then s.B q else s.B i := rfl
theorem ring_take {s : DA} {h l q : Nat} (r : Ring s h l) (q1 : 1 ≤ q) (q2 : q < s.n) (hf : s.C q < 0) (hne : s.B q ≠ s.C q) (c : Int) (hc : 0 ≤ c) :
    ∃ y x : Nat, s.B q = -(y : Int) ∧ s.C q = -(x : Int) ∧ 1 ≤ y ∧ y < s.n ∧ 1 ≤ x ∧ x < s.n ∧ y ≠ q ∧ x ≠ q ∧ s.C y < 0 ∧ s.C x < 0 ∧ ∃ h' l' : Nat, Ring (s.take q y x c) h' l' := by
  have a1 := r.h1
  have a2 := r.hl
  have a3 := r.ln
  have hlq := r.le_l q2 hf
  have hhq := r.ge_h q1 hf
  have rt := r.root
  have wc := r.wc
  have wb := r.wb
  have fl := r.fl
  have fh := r.fh
  by_cases e1 : q = h
  · subst e1
    have e2 : q ≠ l := by rintro rfl; rw [wb, wc] at hne; exact hne rfl
    obtain ⟨x, x1, x2, x3, x4, x5, x6⟩ := r.nx q q1 q2 hf e2
    have hxl : x ≠ l := by rintro rfl; rw [wb, x3] at hne; exact hne rfl
    have hxle := r.le_l x2 x4
    have hr0 : s.C 0 = -(q : Int) := rt
    refine ⟨l, x, wb, x3, by omega, a3, by omega, x2, by omega, by omega, fl, x4, x, l, ?_⟩
    have tc := @take_C s q l x c
    have tb := @take_B s q l x c
    refine ⟨by omega, hxle, a3, ?_, ?_, ?_, ?_, ?_, ?_, ?_, ?_, ?_⟩
    · rw [tc, if_neg (by omega), if_neg (by omega), if_pos ⟨rfl, hr0⟩]; exact x3
    · rw [tc, if_neg (by omega), if_neg hxl, if_neg (by omega)]; exact x4
    · rw [tc, if_neg (by omega), if_pos rfl]; exact hf
    · intro j j1 j2
      rw [tc]
      by_cases hj : j = q
      · rw [if_pos hj]; exact hc
      · rw [if_neg hj, if_neg (by omega), if_neg (by omega)]
        rcases Nat.lt_or_ge j q with hlt | hge
        · exact r.lo j j1 hlt
        · exact x6 j (by omega) j2
    · intro j j1 j2
      have j2' : j < s.n := j2
      rw [tc, if_neg (by omega), if_neg (by omega), if_neg (by omega)]; exact r.hi j j1 j2'
    · intro i i1 i2 hfi hil
      have i2' : i < s.n := i2
      rw [tc] at hfi
      have hiq : i ≠ q := by rintro rfl; rw [if_pos rfl] at hfi; omega
      rw [if_neg hiq, if_neg hil, if_neg (by omega)] at hfi
      obtain ⟨z, z1, z2, z3, z4, z5, z6⟩ := r.nx i i1 i2' hfi hil
      have hiq2 : q < i := by have := r.ge_h i1 hfi; omega
      refine ⟨z, z1, z2, ?_, ?_, ?_, ?_⟩
      · rw [tc, if_neg hiq, if_neg hil, if_neg (by omega)]; exact z3
      · rw [tc, if_neg (by omega)]; split
        · exact hf
        · rw [if_neg (by omega)]; exact z4
      · rw [tb, if_neg ?_]
        · exact z5
        · rintro rfl; rw [x5] at z5; omega
      · intro j j1 j2
        rw [tc, if_neg (by omega)]
        have : j ≠ l := by rintro rfl; have := z6 j j1 j2; omega
        rw [if_neg this, if_neg (by omega)]; exact z6 j j1 j2
    · intro i i1 i2 hfi hix
      have i2' : i < s.n := i2
      rw [tc] at hfi
      have hiq : i ≠ q := by rintro rfl; rw [if_pos rfl] at hfi; omega
      have hfi2 : s.C i < 0 := by
        rw [if_neg hiq] at hfi
        by_cases hil : i = l
        · rw [hil]; exact fl
        · rw [if_neg hil, if_neg (by omega)] at hfi; exact hfi
      obtain ⟨z, z1, z2, z3, z4⟩ := r.pv i i1 i2' hfi2 hiq
      have hzq : z ≠ q := by rintro rfl; rw [x3] at z4; omega
      refine ⟨z, z1, z2, ?_, ?_⟩
      · rw [tb, if_neg hix]; exact z3
      · have hzl : z ≠ l := by have := r.le_l i2' hfi2; omega
        rw [tc, if_neg hzq, if_neg hzl, if_neg (by omega)]; exact z4
    · rw [tc, if_neg (by omega), if_pos rfl]; exact x3
    · rw [tb, if_pos rfl]; exact wb
  · have hnr : ¬ s.C 0 = -(q : Int) := by rw [rt]; omega
    obtain ⟨y, y1, y2, y3, y4⟩ := r.pv q q1 q2 hf e1
    have fy : s.C y < 0 := by omega
    have hyh := r.ge_h y1 fy
    by_cases e2 : q = l
    · subst e2
      have hyh2 : y ≠ h := by rintro rfl; rw [y3, wc] at hne; exact hne rfl
      refine ⟨y, h, y3, wc, y1, by omega, by omega, by omega, by omega, by omega, fy, fh, h, y, ?_⟩
      have tc := @take_C s q y h c
      have tb := @take_B s q y h c
      refine ⟨a1, hyh, show y < s.n by omega, ?_, ?_, ?_, ?_, ?_, ?_, ?_, ?_, ?_⟩
      · rw [tc, if_neg (by omega), if_neg (by omega), if_neg (by simp [hnr])]; exact rt
      · rw [tc, if_neg (by omega), if_neg (fun e => hyh2 e.symm), if_neg (by omega)]; exact fh
      · rw [tc, if_neg (by omega), if_pos rfl]; exact hf
      · intro j j1 j2
        rw [tc, if_neg (by omega), if_neg (by omega), if_neg (by omega)]; exact r.lo j j1 j2
      · intro j j1 j2
        have j2' : j < s.n := j2
        rw [tc]
        by_cases hj : j = q
        · rw [if_pos hj]; exact hc
        · rw [if_neg hj, if_neg (by omega), if_neg (by omega)]
          rcases Nat.lt_or_ge q j with hlt | hge
          · exact r.hi j hlt j2'
          · obtain ⟨z, z1, z2, z3, z4, z5, z6⟩ := r.nx y y1 (by omega) fy (by omega)
            rw [y4] at z3
            exact z6 j j1 (by omega)
      · intro i i1 i2 hfi hiy
        have i2' : i < s.n := i2
        rw [tc] at hfi
        have hiq : i ≠ q := by rintro rfl; rw [if_pos rfl] at hfi; omega
        rw [if_neg hiq, if_neg hiy, if_neg (by omega)] at hfi
        obtain ⟨z, z1, z2, z3, z4, z5, z6⟩ := r.nx i i1 i2' hfi hiq
        have hzq : z ≠ q := by rintro rfl; rw [y3] at z5; omega
        refine ⟨z, z1, z2, ?_, ?_, ?_, ?_⟩
        · rw [tc, if_neg hiq, if_neg hiy, if_neg (by omega)]; exact z3
        · rw [tc, if_neg hzq]; split
          · exact hf
          · rw [if_neg (by omega)]; exact z4
        · have : z ≠ h := by have := r.ge_h i1 hfi; omega
          rw [tb, if_neg this]; exact z5
        · intro j j1 j2
          have hjq : j ≠ q := by rintro rfl; have := z6 j j1 j2; omega
          have hjy : j ≠ y := by rintro rfl; have := z6 j j1 j2; omega
          rw [tc, if_neg hjq, if_neg hjy, if_neg (by omega)]; exact z6 j j1 j2
      · intro i i1 i2 hfi hih
        have i2' : i < s.n := i2
        rw [tc] at hfi
        have hiq : i ≠ q := by rintro rfl; rw [if_pos rfl] at hfi; omega
        have hfi2 : s.C i < 0 := by
          rw [if_neg hiq] at hfi
          by_cases hiy : i = y
          · rw [hiy]; exact fy
          · rw [if_neg hiy, if_neg (by omega)] at hfi; exact hfi
        obtain ⟨z, z1, z2, z3, z4⟩ := r.pv i i1 i2' hfi2 hih
        have hle := r.le_l i2' hfi2
        refine ⟨z, z1, z2, ?_, ?_⟩
        · rw [tb, if_neg hih]; exact z3
        · have hzy : z ≠ y := by rintro rfl; rw [y4] at z4; omega
          rw [tc, if_neg (by omega), if_neg hzy, if_neg (by omega)]; exact z4
      · rw [tc, if_neg (by omega), if_pos rfl]; exact wc
      · rw [tb, if_pos rfl]; exact y3
    · obtain ⟨x, x1, x2, x3, x4, x5, x6⟩ := r.nx q q1 q2 hf e2
      have hxle := r.le_l x2 x4
      refine ⟨y, x, y3, x3, y1, by omega, by omega, x2, by omega, by omega, fy, x4, h, l, ?_⟩
      have tc := @take_C s q y x c
      have tb := @take_B s q y x c
      refine ⟨a1, a2, a3, ?_, ?_, ?_, ?_, ?_, ?_, ?_, ?_, ?_⟩
      · rw [tc, if_neg (by omega), if_neg (by omega), if_neg (by simp [hnr])]; exact rt
      · rw [tc, if_neg (fun e => e1 e.symm)]; split
        · exact hf
        · rw [if_neg (by omega)]; exact fh
      · rw [tc, if_neg (fun e => e2 e.symm), if_neg (by omega), if_neg (by omega)]; exact fl
      · intro j j1 j2
        rw [tc, if_neg (by omega), if_neg (by omega), if_neg (by omega)]; exact r.lo j j1 j2
      · intro j j1 j2
        have j2' : j < s.n := j2
        rw [tc, if_neg (by omega), if_neg (by omega), if_neg (by omega)]; exact r.hi j j1 j2'
      · intro i i1 i2 hfi hil
        have i2' : i < s.n := i2
        rw [tc] at hfi
        have hiq : i ≠ q := by rintro rfl; rw [if_pos rfl] at hfi; omega
        by_cases hiy : i = y
        · subst hiy
          refine ⟨x, by omega, x2, ?_, ?_, ?_, ?_⟩
          · rw [tc, if_neg hiq, if_pos rfl]; exact x3
          · rw [tc, if_neg (by omega), if_neg (by omega), if_neg (by omega)]; exact x4
          · rw [tb, if_pos rfl]; exact y3
          · intro j j1 j2
            rw [tc]
            by_cases hjq : j = q
            · rw [if_pos hjq]; exact hc
            · rw [if_neg hjq, if_neg (by omega), if_neg (by omega)]
              rcases Nat.lt_or_ge q j with hlt | hge
              · exact x6 j hlt j2
              · obtain ⟨z, z1, z2, z3, z4, z5, z6⟩ := r.nx i y1 (by omega) fy (by omega)
                rw [y4] at z3
                exact z6 j j1 (by omega)
        · rw [if_neg hiq, if_neg hiy, if_neg (by omega)] at hfi
          obtain ⟨z, z1, z2, z3, z4, z5, z6⟩ := r.nx i i1 i2' hfi hil
          have hzq : z ≠ q := by rintro rfl; rw [y3] at z5; omega
          refine ⟨z, z1, z2, ?_, ?_, ?_, ?_⟩
          · rw [tc, if_neg hiq, if_neg hiy, if_neg (by omega)]; exact z3
          · rw [tc, if_neg hzq]; split
            · exact hf
            · rw [if_neg (by omega)]; exact z4
          · have : z ≠ x := by rintro rfl; rw [x5] at z5; omega
            rw [tb, if_neg this]; exact z5
          · intro j j1 j2
            have hjq : j ≠ q := by rintro rfl; have := z6 j j1 j2; omega
            have hjy : j ≠ y := by rintro rfl; have := z6 j j1 j2; omega
            rw [tc, if_neg hjq, if_neg hjy, if_neg (by omega)]; exact z6 j j1 j2
      · intro i i1 i2 hfi hih
        have i2' : i < s.n := i2
        rw [tc] at hfi
        have hiq : i ≠ q := by rintro rfl; rw [if_pos rfl] at hfi; omega
        have hfi2 : s.C i < 0 := by
          rw [if_neg hiq] at hfi
          by_cases hiy : i = y
          · rw [hiy]; exact fy
          · rw [if_neg hiy, if_neg (by omega)] at hfi; exact hfi
        by_cases hix : i = x
        · subst hix
          refine ⟨y, y1, by omega, ?_, ?_⟩
          · rw [tb, if_pos rfl]; exact y3
          · rw [tc, if_neg (by omega), if_pos rfl]; exact x3
        · obtain ⟨z, z1, z2, z3, z4⟩ := r.pv i i1 i2' hfi2 hih
          have hzq : z ≠ q := by rintro rfl; rw [x3] at z4; omega
          have hzy : z ≠ y := by rintro rfl; rw [y4] at z4; omega
          refine ⟨z, z1, z2, ?_, ?_⟩
          · rw [tb, if_neg hix]; exact z3
          · rw [tc, if_neg hzq, if_neg hzy, if_neg (by omega)]; exact z4
      · rw [tc, if_neg (fun e => e2 e.symm), if_neg (by omega), if_neg (by omega)]; exact wc
      · have : h ≠ x := by omega
        rw [tb, if_neg this]; exact wb
end Go.Proofs.YtaejkbjepbifcabGreatDoor.Da
namespace Go.Proofs.YtaejkbjepbifcabGreatDoor.Da
set_option linter.unusedVariables false
set_option linter.unusedSimpArgs false
def DA.used (s : DA) (i : Nat) : Prop := 1 ≤ i ∧ i < s.n ∧ 0 ≤ s.C i
def DA.at_ (s : DA) (q : Int) (p : Nat) : Prop := q < (s.n : Int) ∧ s.C q.toNat = (p : Int)
instance (s : DA) (q : Int) (p : Nat) : Decidable (s.at_ q p) := by unfold DA.at_; infer_instance
def DA.step (s : DA) (p : Nat) (c : Int) : Option Nat := if s.at_ (s.B p + c) p then some (s.B p + c).toNat else none
def DA.run (s : DA) : Nat → List Int → Option Nat
  | p, [] => some p
  | p, c :: w => match s.step p c with
    | none => none
    | some q => s.run q w
def DA.term (s : DA) (q : Nat) : Option Int := if s.at_ (s.B q) q ∧ s.B (s.B q).toNat ≤ 0 then some (-(s.B (s.B q).toNat)) else none
abbrev Keys := List (List Int × Int)
def subk (c : Int) : List Int × Int → Option (List Int × Int)
  | ([], _) => none
  | (d :: t, v) => if d = c then some (t, v) else none
def sub (L : Keys) (c : Int) : Keys := L.filterMap (subk c)
def here (L : Keys) : Option Int := (L.find? (fun k => k.1.isEmpty)).map (·.2)
def subw (L : Keys) : List Int → Keys
  | [] => L
  | c :: w => subw (sub L c) w
def Okc (c : Int) : Prop := 1 ≤ c ∧ c ≤ 255
def Okw (w : List Int) : Prop := ∀ c ∈ w, Okc c
def Okk (L : Keys) : Prop := ∀ k ∈ L, Okw k.1
theorem Okk.sub {L : Keys} (h : Okk L) (c : Int) : Okk (sub L c) := by
  intro k hk
  obtain ⟨a, ha, hs⟩ := List.mem_filterMap.1 hk
  obtain ⟨w, v⟩ := a
  cases w with
  | nil => cases hs
  | cons d t =>
    simp only [subk] at hs
    split at hs
    · cases hs
      intro x hx
      exact h _ ha x (List.mem_cons_of_mem _ hx)
    · cases hs
theorem Okk.subw {L : Keys} (h : Okk L) (w : List Int) : Okk (subw L w) := by
  induction w generalizing L with
  | nil => exact h
  | cons c w ih => exact ih (h.sub c)
def Told (s : DA) (p : Nat) (L : Keys) (w : List Int) : Prop :=
  match s.run p w with
  | none => subw L w = []
  | some q => subw L w ≠ [] ∧ s.term q = here (subw L w) ∧ 1 ≤ s.B q
def Good (s : DA) (p : Nat) (L : Keys) : Prop := ∀ w, Okw w → Told s p L w
theorem good_mk {s : DA} {p : Nat} {L : Keys} (h0 : L ≠ []) (ht : s.term p = here L) (hb : 1 ≤ s.B p) (h : ∀ c, Okc c → match s.step p c with | none => sub L c = [] | some q => Good s q (sub L c)) : Good s p L := by
  intro w hw
  cases w with
  | nil => exact ⟨h0, ht, hb⟩
  | cons c w =>
    have hc := h c (hw c List.mem_cons_self)
    have hw2 : Okw w := fun x hx => hw x (List.mem_cons_of_mem _ hx)
    unfold Told
    simp only [DA.run]
    cases hs : s.step p c with
    | none =>
      rw [hs] at hc
      have hc : sub L c = [] := hc
      show subw (sub L c) w = []
      rw [hc]
      clear hc hs hw hw2
      induction w with
      | nil => rfl
      | cons d w ih => exact ih
    | some q =>
      rw [hs] at hc
      exact hc w hw2
theorem good_step {s : DA} {p q : Nat} {L : Keys} (g : Good s p L) {c : Int} (hc : Okc c) (hs : s.step p c = some q) : Good s q (sub L c) := by
  intro w hw
  have h := g (c :: w) (fun x hx => by rcases List.mem_cons.1 hx with rfl | hx; exact hc; exact hw x hx)
  unfold Told at h ⊢
  simp only [DA.run, hs] at h
  exact h
theorem sub_ne {L : Keys} {c : Int} {t : List Int} {v : Int} (h : (c :: t, v) ∈ L) : sub L c ≠ [] := by
  intro e
  have : (t, v) ∈ sub L c := List.mem_filterMap.2 ⟨_, h, by simp [subk]⟩
  rw [e] at this
  cases this
theorem good_child {s : DA} {p : Nat} {L : Keys} (g : Good s p L) (hk : Okk L) : ∃ q : Int, 1 ≤ q ∧ s.at_ q p := by
  have h := g [] (fun _ h => by cases h)
  obtain ⟨h0, ht, hb⟩ := h
  have h0 : L ≠ [] := h0
  have ht : s.term p = here L := ht
  obtain ⟨k, hkm⟩ := List.exists_mem_of_ne_nil _ h0
  obtain ⟨w, v⟩ := k
  cases w with
  | nil =>
    have : here L ≠ none := by
      intro e
      simp only [here, Option.map_eq_none_iff, List.find?_eq_none] at e
      exact e _ hkm rfl
    rw [← ht] at this
    unfold DA.term at this
    split at this
    · rename_i h; exact ⟨_, hb, h.1⟩
    · exact absurd rfl this
  | cons c t =>
    have hc := hk _ hkm c List.mem_cons_self
    have h1 := g [c] (fun x hx => by rcases List.mem_cons.1 hx with rfl | hx; exact hc; cases hx)
    unfold Told at h1
    simp only [DA.run] at h1
    cases hs : s.step p c with
    | none => rw [hs] at h1; exact absurd h1 (sub_ne hkm)
    | some q =>
      unfold DA.step at hs
      split at hs
      · rename_i h; exact ⟨_, by have := hc.1; omega, h⟩
      · cases hs
structure Fr (s s' : DA) (p : Nat) : Prop where
  n : s.n ≤ s'.n
  c : ∀ i, s.used i → s'.C i = s.C i
  b : ∀ i, i = 0 ∨ s.used i → i ≠ p → s'.B i = s.B i
  new : ∀ i, s'.used i → ¬ s.used i → s'.C i = (p : Int) ∨ ∃ r : Nat, s'.C i = (r : Int) ∧ s'.used r ∧ ¬ s.used r
theorem Fr.up {s s' : DA} {p i : Nat} (f : Fr s s' p) (h : s.used i) : s'.used i := ⟨h.1, Nat.lt_of_lt_of_le h.2.1 f.n, by rw [f.c i h]; exact h.2.2⟩
def DA.bare (s : DA) (p : Nat) : Prop := ∀ i, s.used i → s.C i ≠ (p : Int)
def DA.leaf (s : DA) (p : Nat) : Prop := p = 0 ∨ (s.used p ∧ ∃ (r : Nat) (c : Int), 1 ≤ c ∧ s.C p = (r : Int) ∧ s.B r + c = (p : Int))
theorem at_keep {s s' : DA} {p r : Nat} (f : Fr s s' p) (hr : s.used r) (hrp : r ≠ p) (q : Int) (hq : 1 ≤ q) : s'.at_ q r ↔ s.at_ q r := by
  obtain ⟨k, rfl⟩ := Int.eq_ofNat_of_zero_le (by omega : 0 ≤ q)
  simp only [DA.at_, Int.toNat_natCast]
  constructor
  · rintro ⟨h1, h2⟩
    have hu : s'.used k := ⟨by omega, by omega, by omega⟩
    by_cases hs : s.used k
    · rw [f.c k hs] at h2
      exact ⟨by have := hs.2.1; omega, h2⟩
    · rcases f.new k hu hs with h | ⟨r', h, h3, h4⟩
      · rw [h2] at h; exact absurd (by omega) hrp
      · rw [h2] at h
        have : r = r' := by omega
        rw [← this] at h4
        exact absurd hr h4
  · rintro ⟨h1, h2⟩
    have hu : s.used k := ⟨by omega, by omega, by omega⟩
    exact ⟨by have := f.n; omega, by rw [f.c k hu]; exact h2⟩
theorem step_keep {s s' : DA} {p r : Nat} (f : Fr s s' p) (hr : s.used r) (hrp : r ≠ p) (hb : 1 ≤ s.B r) (c : Int) (hc : 1 ≤ c) : s'.step r c = s.step r c := by
  unfold DA.step
  rw [f.b r (Or.inr hr) hrp]
  by_cases h : s.at_ (s.B r + c) r
  · rw [if_pos h, if_pos ((at_keep f hr hrp _ (by omega)).2 h)]
  · rw [if_neg h, if_neg (fun e => h ((at_keep f hr hrp _ (by omega)).1 e))]
theorem term_keep {s s' : DA} {p r : Nat} (f : Fr s s' p) (hr : s.used r) (hrp : r ≠ p) (hb : 1 ≤ s.B r) (hp : s.leaf p) : s'.term r = s.term r := by
  unfold DA.term
  rw [f.b r (Or.inr hr) hrp]
  have hk := at_keep f hr hrp _ hb
  by_cases h : s.at_ (s.B r) r
  · have hB : s'.B (s.B r).toNat = s.B (s.B r).toNat := by
      have h1 := h.1
      have h2 := h.2
      have hu : s.used (s.B r).toNat := ⟨by omega, by omega, by omega⟩
      refine f.b _ (Or.inr hu) ?_
      intro e
      rcases hp with h0 | ⟨_, r', c, c1, e1, e2⟩
      · omega
      · rw [← e, h2] at e1
        have : r' = r := by omega
        rw [this] at e2
        omega
    have h' := hk.2 h
    simp only [h, h', true_and, hB]
  · have h' : ¬ s'.at_ (s.B r) r := fun e => h (hk.1 e)
    simp only [h, h', false_and, if_false]
theorem good_keep {s s' : DA} {p q : Nat} {L : Keys} (g : Good s q L) (hk : Okk L) (f : Fr s s' p) (hq : s.used q) (ho : s.bare p) (hp : s.leaf p) : Good s' q L := by
  intro w
  induction w generalizing q L with
  | nil =>
    intro hw
    obtain ⟨h0, ht, hb⟩ := g [] (fun _ h => by cases h)
    have hqp : q ≠ p := by
      rintro rfl
      obtain ⟨k, k1, k2, k3⟩ := good_child g hk
      exact ho k.toNat ⟨by omega, by omega, by omega⟩ k3
    exact ⟨h0, (term_keep f hq hqp hb hp).trans ht, by rw [f.b q (Or.inr hq) hqp]; exact hb⟩
  | cons c w ih =>
    intro hw
    obtain ⟨h0, ht, hb⟩ := g [] (fun _ h => by cases h)
    have hqp : q ≠ p := by
      rintro rfl
      obtain ⟨k, k1, k2, k3⟩ := good_child g hk
      exact ho k.toNat ⟨by omega, by omega, by omega⟩ k3
    have hc := hw c List.mem_cons_self
    have hs := step_keep f hq hqp hb c hc.1
    have h := g (c :: w) hw
    unfold Told at h ⊢
    simp only [DA.run] at h ⊢
    rw [hs]
    cases he : s.step q c with
    | none => rw [he] at h; exact h
    | some r =>
      have hr : s.used r := by
        unfold DA.step at he
        split at he
        · rename_i h
          cases he
          have h1 := h.1
          have h2 := h.2
          have hb1 : 1 ≤ s.B q := hb
          have hc1 := hc.1
          exact ⟨by omega, by omega, by omega⟩
        · cases he
      exact ih (good_step g hc he) (hk.sub c) hr (fun x hx => hw x (List.mem_cons_of_mem _ hx))
end Go.Proofs.YtaejkbjepbifcabGreatDoor.Da
namespace Go.Proofs.YtaejkbjepbifcabGreatDoor.Da
set_option linter.unusedVariables false
set_option linter.unusedSimpArgs false
def DA.par (s : DA) : Prop := ∀ i, s.used i → s.C i = 0 ∨ ∃ r : Nat, s.C i = (r : Int) ∧ s.used r
structure Bd (s : DA) (U : Nat) : Prop where
  u : ∀ i, s.used i → i ≤ U
  n : s.n ≤ 2 * U + 60000
  lo : 51200 ≤ s.n
structure Mk (s s1 : DA) (p : Nat) (b : Nat) (chars : List Int) : Prop where
  b1 : 1 ≤ b
  bp : s1.B p = (b : Int)
  nn : s.n ≤ s1.n
  cc : ∀ i, s.used i → s1.C i = s.C i
  bb : ∀ i, i = 0 ∨ s.used i → i ≠ p → s1.B i = s.B i
  mm : ∀ ch ∈ chars, s1.used (b + ch.toNat) ∧ s1.C (b + ch.toNat) = (p : Int) ∧ ¬ s.used (b + ch.toNat)
  only : ∀ i, s1.used i → ¬ s.used i → s1.C i = (p : Int) ∧ ∃ ch ∈ chars, i = b + ch.toNat
theorem Mk.up {s s1 : DA} {p b : Nat} {chars : List Int} (m : Mk s s1 p b chars) {i : Nat} (h : s.used i) : s1.used i := ⟨h.1, Nat.lt_of_lt_of_le h.2.1 m.nn, by rw [m.cc i h]; exact h.2.2⟩
def head1 : List Int → Int
  | [] => 0
  | c :: _ => c
def Chs (L : Keys) (chars : List Int) : Prop := ∀ c, c ∈ chars ↔ ∃ k ∈ L, head1 k.1 = c
structure Jn (s1 : DA) (p b : Nat) (chars : List Int) (L : Keys) (k : Nat) (t : DA) : Prop where
  nn : s1.n ≤ t.n
  cc : ∀ i, s1.used i → t.C i = s1.C i
  bb : ∀ i, i = 0 ∨ s1.used i → (∀ ch ∈ chars, i ≠ b + ch.toNat) → t.B i = s1.B i
  new : ∀ i, t.used i → ¬ s1.used i → ∃ r : Nat, t.C i = (r : Int) ∧ ((∃ ch ∈ chars, r = b + ch.toNat) ∨ (t.used r ∧ ¬ s1.used r))
  dn : ∀ j ch, j < k → chars[j]? = some ch → if ch = 0 then (∃ v, here L = some v ∧ t.B b = -v) else Good t (b + ch.toNat) (sub L ch)
  td : ∀ j ch, k ≤ j → chars[j]? = some ch → ch ≠ 0 → t.bare (b + ch.toNat)
theorem Jn.up {s1 t : DA} {p b k : Nat} {chars : List Int} {L : Keys} (j : Jn s1 p b chars L k t) {i : Nat} (h : s1.used i) : t.used i := ⟨h.1, Nat.lt_of_lt_of_le h.2.1 j.nn, by rw [j.cc i h]; exact h.2.2⟩
theorem Jn.start {s s1 : DA} {p b : Nat} {chars : List Int} {L : Keys} (m : Mk s s1 p b chars) (hp : p = 0 ∨ s.used p) (hpar : s.par) : Jn s1 p b chars L 0 s1 := by
  refine ⟨Nat.le_refl _, fun _ _ => rfl, fun _ _ _ => rfl, fun i h1 h2 => absurd h1 h2, fun j ch h => absurd h (Nat.not_lt_zero _), fun j ch _ hj h0 i hu e => ?_⟩
  have hm := m.mm ch (List.mem_of_getElem? hj)
  by_cases hs : s.used i
  · rw [m.cc i hs] at e
    rcases hpar i hs with h | ⟨r, h, hr⟩
    · have := hm.1.1; omega
    · have : r = b + ch.toNat := by omega
      rw [this] at hr
      exact hm.2.2 hr
  · obtain ⟨h1, _⟩ := m.only i hu hs
    have h2 : p = b + ch.toNat := by omega
    rcases hp with h | h
    · have := hm.1.1; omega
    · rw [h2] at h; exact hm.2.2 h
theorem Jn.child {s s1 t t' : DA} {p b k : Nat} {chars : List Int} {L : Keys} (m : Mk s s1 p b chars) (hp : p = 0 ∨ s.used p) (hL : Okk L) (hnd : chars.Nodup) (j : Jn s1 p b chars L k t) {ch : Int} (hk : chars[k]? = some ch) (h0 : 1 ≤ ch) (h00 : ∀ c ∈ chars, 0 ≤ c)
    (f : Fr t t' (b + ch.toNat)) (g : Good t' (b + ch.toNat) (sub L ch)) : Jn s1 p b chars L (k + 1) t' := by
  have hmem := List.mem_of_getElem? hk
  have hm := m.mm ch hmem
  have hbare := j.td k ch (Nat.le_refl _) hk (by omega)
  have hB : t.B p = (b : Int) := by
    rw [j.bb p (by rcases hp with h | h; exact Or.inl h; exact Or.inr (m.up h)) ?_]
    · exact m.bp
    · intro c hc e
      have := m.mm c hc
      rcases hp with h | h
      · have := this.1.1; omega
      · rw [e] at h; exact this.2.2 h
  have hleaf : t.leaf (b + ch.toNat) := Or.inr ⟨j.up hm.1, p, ch, h0, by rw [j.cc _ hm.1]; exact hm.2.1, by rw [hB]; omega⟩
  refine ⟨Nat.le_trans j.nn f.n, fun i hi => by rw [f.c i (j.up hi), j.cc i hi], fun i hi hc => ?_, fun i hi hn => ?_, fun jj c hj hc => ?_, fun jj c hj hc hc0 i hi e => ?_⟩
  · rw [f.b i (by rcases hi with h | h; exact Or.inl h; exact Or.inr (j.up h)) (hc ch hmem), j.bb i hi hc]
  · by_cases ht : t.used i
    · obtain ⟨r, e, h⟩ := j.new i ht hn
      rw [f.c i ht]
      rcases h with h | ⟨h1, h2⟩
      · exact ⟨r, e, Or.inl h⟩
      · exact ⟨r, e, Or.inr ⟨f.up h1, h2⟩⟩
    · rcases f.new i hi ht with h | ⟨r, h1, h2, h3⟩
      · exact ⟨_, h, Or.inl ⟨ch, hmem, rfl⟩⟩
      · exact ⟨r, h1, Or.inr ⟨h2, fun h => h3 (j.up h)⟩⟩
  · by_cases hjk : jj = k
    · subst hjk
      rw [hk] at hc
      cases hc
      rw [if_neg (by omega)]
      exact g
    · have hd := j.dn jj c (by omega) hc
      have hcm := List.mem_of_getElem? hc
      have hmc := m.mm c hcm
      by_cases h : c = 0
      · rw [if_pos h] at hd ⊢
        obtain ⟨v, hv, hb⟩ := hd
        refine ⟨v, hv, ?_⟩
        subst h
        rw [f.b b (Or.inr (j.up (by simpa using hmc.1))) (by omega)]
        exact hb
      · rw [if_neg h] at hd ⊢
        exact good_keep hd (hL.sub c) f (j.up hmc.1) hbare hleaf
  · have hcm := List.mem_of_getElem? hc
    have hmc := m.mm c hcm
    have hne : c ≠ ch := by
      rintro rfl
      have h1 := (List.getElem?_eq_some_iff.1 hc)
      have h2 := (List.getElem?_eq_some_iff.1 hk)
      obtain ⟨a1, a2⟩ := h1
      obtain ⟨b1, b2⟩ := h2
      have := (List.getElem_inj hnd (h₀ := a1) (h₁ := b1)).1 (by rw [a2, b2])
      omega
    have hc0' := h00 c hcm
    by_cases ht : t.used i
    · rw [f.c i ht] at e
      exact j.td jj c (by omega) hc hc0 i ht e
    · rcases f.new i hi ht with h | ⟨r, h1, h2, h3⟩
      · rw [h] at e
        omega
      · rw [h1] at e
        have : r = b + c.toNat := by omega
        rw [this] at h3
        exact h3 (j.up hmc.1)
theorem Jn.fin {s s1 t : DA} {p b : Nat} {chars : List Int} {L : Keys} (m : Mk s s1 p b chars) (hnd : chars.Nodup) (h00 : ∀ c ∈ chars, 0 ≤ c) (j : Jn s1 p b chars L 0 t) (hk : chars[0]? = some 0) {v : Int} (hv : here L = some v) : Jn s1 p b chars L 1 ⟨t.n, upd t.B b (-v), t.C⟩ := by
  have hmem := List.mem_of_getElem? hk
  refine ⟨j.nn, j.cc, fun i hi hc => ?_, j.new, fun jj c hj hc => ?_, fun jj c hj hc hc0 => j.td jj c (Nat.zero_le _) hc hc0⟩
  · have : i ≠ b := by have := hc 0 hmem; simpa using this
    show upd t.B b (-v) i = _
    rw [upd_ne this]
    exact j.bb i hi hc
  · obtain rfl : jj = 0 := by omega
    rw [hk] at hc
    cases hc
    rw [if_pos rfl]
    exact ⟨v, hv, upd_same _ _ _⟩
theorem below_iff {s s1 t : DA} {p b k : Nat} {chars : List Int} {L : Keys} (m : Mk s s1 p b chars) (hp : p = 0 ∨ s.used p) (hbare : s.bare p) (j : Jn s1 p b chars L k t) (h00 : ∀ c ∈ chars, 0 ≤ c) (c : Int) (hc : 0 ≤ c) : t.at_ ((b : Int) + c) p ↔ c ∈ chars := by
  have e : ((b : Int) + c).toNat = b + c.toNat := by omega
  constructor
  · rintro ⟨h1, h2⟩
    rw [e] at h2
    have hb1 := m.b1
    have hu : t.used (b + c.toNat) := ⟨by omega, by omega, by omega⟩
    by_cases hs1 : s1.used (b + c.toNat)
    · rw [j.cc _ hs1] at h2
      by_cases hs : s.used (b + c.toNat)
      · rw [m.cc _ hs] at h2
        exact absurd h2 (hbare _ hs)
      · obtain ⟨_, ch, hch, he⟩ := m.only _ hs1 hs
        have := h00 ch hch
        have : ch = c := by omega
        rw [← this]; exact hch
    · obtain ⟨r, e2, h⟩ := j.new _ hu hs1
      have hrp : r = p := by omega
      exfalso
      rcases h with ⟨ch, hch, he⟩ | ⟨h3, h4⟩
      · have hm := m.mm ch hch
        rcases hp with h | h
        · have := hm.1.1; omega
        · rw [← hrp, he] at h; exact hm.2.2 h
      · rcases hp with h | h
        · have := h3.1; omega
        · rw [hrp] at h4; exact h4 (m.up h)
  · intro h
    have hm := m.mm c h
    refine ⟨?_, ?_⟩
    · have := (j.up hm.1).2.1; omega
    · rw [e, j.cc _ hm.1]; exact hm.2.1
theorem here_none {L : Keys} (h : ∀ k ∈ L, k.1 ≠ []) : here L = none := by
  simp only [here, Option.map_eq_none_iff, List.find?_eq_none]
  intro k hk e
  exact h k hk (List.isEmpty_iff.1 e)
theorem sub_none {L : Keys} {c : Int} (h : ∀ k ∈ L, head1 k.1 ≠ c) : sub L c = [] := by
  apply List.filterMap_eq_nil_iff.2
  intro k hk
  obtain ⟨w, v⟩ := k
  cases w with
  | nil => rfl
  | cons d t =>
    have : d ≠ c := h _ hk
    simp only [subk]
    rw [if_neg this]
theorem Jn.all {s s1 t : DA} {p b : Nat} {chars : List Int} {L : Keys} (m : Mk s s1 p b chars) (hp : p = 0 ∨ s.used p) (hbare : s.bare p) (h00 : ∀ c ∈ chars, 0 ≤ c) (hL : Okk L) (hne : L ≠ []) (hch : Chs L chars) (hv : ∀ k ∈ L, 0 ≤ k.2) (j : Jn s1 p b chars L chars.length t) :
    Fr s t p ∧ Good t p L := by
  have hkid : ∀ ch ∈ chars, p ≠ b + ch.toNat := by
    intro ch hc e
    have hm := m.mm ch hc
    rcases hp with h | h
    · have := hm.1.1; omega
    · rw [e] at h; exact hm.2.2 h
  have hB : t.B p = (b : Int) := by
    rw [j.bb p (by rcases hp with h | h; exact Or.inl h; exact Or.inr (m.up h)) hkid]
    exact m.bp
  have hb1 := m.b1
  constructor
  · refine ⟨Nat.le_trans m.nn j.nn, fun i hi => by rw [j.cc i (m.up hi), m.cc i hi], fun i hi hip => ?_, fun i hi hn => ?_⟩
    · rw [j.bb i (by rcases hi with h | h; exact Or.inl h; exact Or.inr (m.up h)) ?_, m.bb i hi hip]
      intro ch hc e
      have hm := m.mm ch hc
      rcases hi with h | h
      · have := hm.1.1; omega
      · rw [e] at h; exact hm.2.2 h
    · by_cases hs1 : s1.used i
      · rw [j.cc i hs1]
        exact Or.inl (m.only i hs1 hn).1
      · obtain ⟨r, e, h⟩ := j.new i hi hs1
        rcases h with ⟨ch, hc, rfl⟩ | ⟨h1, h2⟩
        · have hm := m.mm ch hc
          exact Or.inr ⟨_, e, j.up hm.1, hm.2.2⟩
        · exact Or.inr ⟨r, e, h1, fun h => h2 (m.up h)⟩
  · have hit : ∀ c, 0 ≤ c → (t.at_ ((b : Int) + c) p ↔ c ∈ chars) := fun c hc => below_iff m hp hbare j h00 c hc
    refine good_mk hne ?_ (by rw [hB]; omega) (fun c hc => ?_)
    · have h0 := hit 0 (by omega)
      rw [Int.add_zero] at h0
      unfold DA.term
      rw [hB]
      by_cases hz : (0 : Int) ∈ chars
      · obtain ⟨jj, hj⟩ := List.getElem?_of_mem hz
        have hjl := (List.getElem?_eq_some_iff.1 hj).1
        have hd := j.dn jj 0 hjl hj
        rw [if_pos rfl] at hd
        obtain ⟨v, hv1, hv2⟩ := hd
        have hv0 : 0 ≤ v := by
          simp only [here, Option.map_eq_some_iff] at hv1
          obtain ⟨k, hk, rfl⟩ := hv1
          exact hv k (List.mem_of_find?_eq_some hk)
        rw [Int.toNat_natCast, hv2, if_pos ⟨h0.2 hz, by omega⟩, hv1]
        congr 1
        omega
      · rw [if_neg (fun h => hz (h0.1 h.1)), here_none]
        intro k hk e
        exact hz ((hch 0).2 ⟨k, hk, by rw [e]; rfl⟩)
    · have h1 := hit c (by have := hc.1; omega)
      unfold DA.step
      rw [hB]
      by_cases hz : c ∈ chars
      · rw [if_pos (h1.2 hz)]
        obtain ⟨jj, hj⟩ := List.getElem?_of_mem hz
        have hjl := (List.getElem?_eq_some_iff.1 hj).1
        have hd := j.dn jj c hjl hj
        rw [if_neg (by have := hc.1; omega)] at hd
        have e : ((b : Int) + c).toNat = b + c.toNat := by have := hc.1; omega
        show Good t ((b : Int) + c).toNat (sub L c)
        rw [e]
        exact hd
      · rw [if_neg (fun h => hz (h1.1 h))]
        exact sub_none (fun k hk e => hz ((hch c).2 ⟨k, hk, e⟩))
end Go.Proofs.YtaejkbjepbifcabGreatDoor.Da
namespace Go.Proofs.YtaejkbjepbifcabGreatDoor.Da
set_option linter.unusedVariables false
set_option linter.unusedSimpArgs false
def le : List Int → List Int → Prop
  | [], _ => True
  | _ :: _, [] => False
  | a :: x, b :: y => a < b ∨ (a = b ∧ le x y)
def Asc (L : Keys) : Prop := L.Pairwise (fun a b => le a.1 b.1)
theorem le_head {x y : List Int} (h : le x y) (hy : ∀ c ∈ y, 1 ≤ c) (hx : ∀ c ∈ x, 1 ≤ c) : head1 x ≤ head1 y := by
  cases x with
  | nil =>
    cases y with
    | nil => exact Int.le_refl _
    | cons b y => have := hy b List.mem_cons_self; simp only [head1]; omega
  | cons a x =>
    cases y with
    | nil => exact h.elim
    | cons b y => simp only [head1]; rcases h with h | h <;> omega
theorem Asc.sub {L : Keys} (h : Asc L) (c : Int) : Asc (sub L c) := by
  unfold Asc Da.sub at *
  rw [List.pairwise_filterMap]
  refine h.imp ?_
  intro a b hab a' ha b' hb
  obtain ⟨wa, va⟩ := a
  obtain ⟨wb, vb⟩ := b
  cases wa with
  | nil => cases ha
  | cons d t =>
    cases wb with
    | nil => cases hb
    | cons e u =>
      simp only [subk] at ha hb
      split at ha
      · split at hb
        · cases ha; cases hb
          rename_i h1 h2
          rcases hab with h | ⟨_, h⟩
          · omega
          · exact h
        · cases hb
      · cases ha
def push (l : List Int) (c : Int) : List Int := if l.getLast? = some c then l else l ++ [c]
def letters (L : Keys) : List Int := L.foldl (fun l k => push l (head1 k.1)) []
theorem letters_snoc (L : Keys) (k : List Int × Int) : letters (L ++ [k]) = push (letters L) (head1 k.1) := by simp [letters]
theorem push_mem (l : List Int) (c x : Int) : x ∈ push l c ↔ x ∈ l ∨ x = c := by
  unfold push
  split
  · rename_i h
    constructor
    · exact Or.inl
    · rintro (h1 | rfl)
      · exact h1
      · exact List.mem_of_getLast? h
  · simp
theorem chs_letters (L : Keys) : Chs L (letters L) := by
  have key : ∀ (n : Nat) (L : Keys), L.length = n → Chs L (letters L) := by
    intro n
    induction n with
    | zero => intro L h; rw [List.length_eq_zero_iff.1 h]; intro c; simp [letters]
    | succ n ih =>
      intro L h
      obtain ⟨M, k, rfl⟩ : ∃ M k, L = M ++ [k] := ⟨L.dropLast, L.getLast (by intro e; rw [e] at h; simp at h), (List.dropLast_concat_getLast _).symm⟩
      have hM : M.length = n := by simpa using h
      intro c
      rw [letters_snoc, push_mem, ih M hM c]
      constructor
      · rintro (⟨k', hk, e⟩ | rfl)
        · exact ⟨k', List.mem_append_left _ hk, e⟩
        · exact ⟨k, List.mem_append_right _ List.mem_cons_self, rfl⟩
      · rintro ⟨k', hk, e⟩
        rcases List.mem_append.1 hk with hk | hk
        · exact Or.inl ⟨k', hk, e⟩
        · rw [List.mem_singleton.1 hk] at e; exact Or.inr e.symm
  exact key _ L rfl
theorem asc_letters {L : Keys} (h : Asc L) (hk : Okk L) : (letters L).Pairwise (· < ·) := by
  have key : ∀ (n : Nat) (L : Keys), L.length = n → Asc L → Okk L → (letters L).Pairwise (· < ·) := by
    intro n
    induction n with
    | zero => intro L h _ _; rw [List.length_eq_zero_iff.1 h]; simp [letters]
    | succ n ih =>
      intro L h ha hk
      obtain ⟨M, k, rfl⟩ : ∃ M k, L = M ++ [k] := ⟨L.dropLast, L.getLast (by intro e; rw [e] at h; simp at h), (List.dropLast_concat_getLast _).symm⟩
      have hM : M.length = n := by simpa using h
      obtain ⟨a1, a2, a3⟩ := List.pairwise_append.1 ha
      have hb := ih M hM a1 (fun x hx => hk x (List.mem_append_left _ hx))
      rw [letters_snoc]
      unfold push
      split
      · exact hb
      · rename_i hne
        rw [List.pairwise_append]
        refine ⟨hb, by simp, fun x hx y hy => ?_⟩
        rw [List.mem_singleton.1 hy]
        have hle : ∀ z ∈ letters M, z ≤ head1 k.1 := by
          intro z hz
          obtain ⟨k', hk', e⟩ := (chs_letters M z).1 hz
          rw [← e]
          exact le_head (a3 k' hk' k List.mem_cons_self) (fun c hc => (hk k (List.mem_append_right _ List.mem_cons_self) c hc).1) (fun c hc => (hk k' (List.mem_append_left _ hk') c hc).1)
        have h1 := hle x hx
        by_cases e : x = head1 k.1
        · exfalso
          -- x is the greatest, so the last one
          obtain ⟨i, hi, e2⟩ := List.getElem_of_mem hx
          have hl : (letters M).getLast? = some ((letters M)[(letters M).length - 1]'(by omega)) := by
            rw [List.getLast?_eq_getElem?, List.getElem?_eq_getElem (by omega)]
          have hlast := hle _ (List.getElem_mem (show (letters M).length - 1 < (letters M).length by omega))
          by_cases hi2 : i = (letters M).length - 1
          · subst hi2
            apply hne
            rw [hl, e2, e]
          · have := List.pairwise_iff_getElem.1 hb i ((letters M).length - 1) hi (by omega) (by omega)
            rw [e2] at this
            omega
        · omega
  exact key _ L rfl h hk
theorem letters_ne {L : Keys} (h : L ≠ []) : 0 < (letters L).length := by
  obtain ⟨k, hk⟩ := List.exists_mem_of_ne_nil _ h
  have := (chs_letters L (head1 k.1)).2 ⟨k, hk, rfl⟩
  exact List.length_pos_of_mem this
theorem letters_bd {L : Keys} (hk : Okk L) : ∀ c ∈ letters L, 0 ≤ c ∧ c ≤ 255 := by
  intro c hc
  obtain ⟨k, hk', rfl⟩ := (chs_letters L c).1 hc
  obtain ⟨w, v⟩ := k
  cases w with
  | nil => simp [head1]
  | cons d t => have := hk _ hk' d List.mem_cons_self; simp only [head1]; unfold Okc at this; omega
theorem asc_len {l : List Int} (h : l.Pairwise (· < ·)) (hb : ∀ c ∈ l, 0 ≤ c ∧ c ≤ 255) : l.length ≤ 256 := by
  have key : ∀ (l : List Int) (a : Int), l.Pairwise (· < ·) → (∀ c ∈ l, a ≤ c ∧ c ≤ 255) → a ≤ 256 → (l.length : Int) ≤ 256 - a := by
    intro l
    induction l with
    | nil => intro a _ _ h; simp; omega
    | cons x l ih =>
      intro a hp hb ha
      have hx := hb x List.mem_cons_self
      obtain ⟨h1, h2⟩ := List.pairwise_cons.1 hp
      have := ih (x + 1) h2 (fun c hc => ⟨by have := h1 c hc; omega, (hb c (List.mem_cons_of_mem _ hc)).2⟩) (by omega)
      simp only [List.length_cons]
      omega
  have := key l 0 h hb (by omega)
  omega
theorem here_first {L : Keys} (h : Asc L) (k : List Int × Int) (M : Keys) (hL : L = k :: M) (h0 : (0 : Int) ∈ letters L) (hk : Okk L) : k.1 = [] := by
  obtain ⟨k', hk', e⟩ := (chs_letters L 0).1 h0
  have e1 : k'.1 = [] := by
    obtain ⟨w, v⟩ := k'
    cases w with
    | nil => rfl
    | cons d t =>
      have := hk _ hk' d List.mem_cons_self
      simp only [head1] at e
      unfold Okc at this
      omega
  subst hL
  rcases List.mem_cons.1 hk' with rfl | hm
  · exact e1
  · have := (List.pairwise_cons.1 h).1 k' hm
    rw [e1] at this
    obtain ⟨w, v⟩ := k
    cases w with
    | nil => rfl
    | cons d t => exact this.elim
def tot (L : Keys) : Nat := (L.map (fun k => k.1.length)).sum
def lenAt1 (c : Int) (k : List Int × Int) : Nat := match k.1 with
  | [] => 0
  | d :: t => if d = c then t.length + 1 else 0
def lenAt (L : Keys) (c : Int) : Nat := (L.map (lenAt1 c)).sum
theorem tot_sub (L : Keys) (c : Int) : tot (sub L c) + (sub L c).length = lenAt L c := by
  induction L with
  | nil => rfl
  | cons k L ih =>
    obtain ⟨w, v⟩ := k
    simp only [lenAt, List.map_cons, List.sum_cons] at ih ⊢
    cases w with
    | nil =>
      have e : sub (([], v) :: L) c = sub L c := rfl
      rw [e]
      simp only [lenAt1]
      omega
    | cons d t =>
      by_cases h : d = c
      · have e : sub ((d :: t, v) :: L) c = (t, v) :: sub L c := by
          unfold sub
          rw [List.filterMap_cons_some (b := (t, v))]
          simp [subk, h]
        rw [e]
        simp only [tot, List.map_cons, List.sum_cons, List.length_cons, lenAt1, h, if_true] at ih ⊢
        omega
      · have e : sub ((d :: t, v) :: L) c = sub L c := by
          unfold sub
          rw [List.filterMap_cons_none]
          simp [subk, h]
        rw [e]
        simp only [lenAt1, h, if_false]
        omega
theorem one_at (cs : List Int) (h : cs.Nodup) (k : List Int × Int) : (cs.map (fun c => lenAt1 c k)).sum ≤ k.1.length := by
  obtain ⟨w, v⟩ := k
  cases w with
  | nil =>
    induction cs with
    | nil => simp
    | cons c cs ih =>
      have := ih (List.nodup_cons.1 h).2
      simp only [List.map_cons, List.sum_cons, lenAt1] at this ⊢
      omega
  | cons d t =>
    induction cs with
    | nil => simp
    | cons c cs ih =>
      obtain ⟨h1, h2⟩ := List.nodup_cons.1 h
      simp only [List.map_cons, List.sum_cons]
      by_cases e : d = c
      · have hz : (cs.map (fun c => lenAt1 c (d :: t, v))).sum = 0 := by
          clear ih h h2
          induction cs with
          | nil => rfl
          | cons c' cs ih =>
            have hne : d ≠ c' := by rintro rfl; exact h1 (by rw [← e]; exact List.mem_cons_self)
            have := ih (fun hm => h1 (List.mem_cons_of_mem _ hm))
            simp only [List.map_cons, List.sum_cons, lenAt1, hne, if_false] at this ⊢
            omega
        rw [hz]
        simp only [lenAt1, e, if_true, List.length_cons]
        omega
      · have := ih h2
        simp only [lenAt1, e, if_false] at this ⊢
        omega
theorem all_at (cs : List Int) (h : cs.Nodup) (L : Keys) : (cs.map (fun c => lenAt L c)).sum ≤ tot L := by
  induction L with
  | nil =>
    clear h
    induction cs with
    | nil => simp
    | cons c cs ih =>
      simp only [List.map_cons, List.sum_cons, lenAt, List.map_nil, List.sum_nil, tot] at ih ⊢
      omega
  | cons k L ih =>
    have h1 := one_at cs h k
    have e : (cs.map (fun c => lenAt (k :: L) c)).sum = (cs.map (fun c => lenAt1 c k)).sum + (cs.map (fun c => lenAt L c)).sum := by
      clear ih h h1
      induction cs with
      | nil => rfl
      | cons c cs ih =>
        simp only [List.map_cons, List.sum_cons, lenAt] at ih ⊢
        omega
    rw [e]
    simp only [tot, List.map_cons, List.sum_cons] at ih ⊢
    omega
def adds (L : Keys) (cs : List Int) : Nat := (cs.map (fun c => 1 + tot (sub L c))).sum
theorem adds_le (cs : List Int) (h : cs.Nodup) (L : Keys) (hne : ∀ c ∈ cs, sub L c ≠ []) : adds L cs ≤ tot L := by
  refine Nat.le_trans ?_ (all_at cs h L)
  unfold adds
  clear h
  induction cs with
  | nil => simp
  | cons c cs ih =>
    have := ih (fun d hd => hne d (List.mem_cons_of_mem _ hd))
    have h1 := tot_sub L c
    have h2 := List.length_pos_iff.2 (hne c List.mem_cons_self)
    simp only [List.map_cons, List.sum_cons] at this ⊢
    omega
end Go.Proofs.YtaejkbjepbifcabGreatDoor.Da
namespace Go.Proofs.YtaejkbjepbifcabGreatDoor.Da
open Go.RowKit Go.Proofs.YtaejkbjepbifcabGreatDoorW.PrintWords
set_option linter.unusedVariables false
set_option linter.unusedSimpArgs false
def Env (w w' : World) : Prop := w'.os = w.os ∧ w'.tape = w.tape ∧ w'.output = w.output
theorem Env.trans {a b c : World} (h : Env a b) (k : Env b c) : Env a c := ⟨k.1.trans h.1, k.2.1.trans h.2.1, k.2.2.trans h.2.2⟩
structure Kp (w w' : World) (S : Nat → Prop) : Prop where
  size : w.heap.size ≤ w'.heap.size
  old : ∀ i, i < w.heap.size → ¬ S i → w'.heap[i]? = w.heap[i]?
  env : Env w w'
theorem Kp.self (w : World) (S : Nat → Prop) : Kp w w S := ⟨Nat.le_refl _, fun _ _ _ => rfl, rfl, rfl, rfl⟩
theorem Kp.mono {w w' : World} {S T : Nat → Prop} (h : Kp w w' S) (hS : ∀ i, i < w.heap.size → S i → T i) : Kp w w' T := ⟨h.1, fun i hi hn => h.2 i hi (fun e => hn (hS i hi e)), h.3⟩
theorem Kp.trans {a b c : World} {S T : Nat → Prop} (h : Kp a b S) (k : Kp b c T) : Kp a c (fun i => S i ∨ T i) :=
  ⟨Nat.le_trans h.1 k.1, fun i hi hn => by rw [k.2 i (Nat.lt_of_lt_of_le hi h.1) (fun e => hn (Or.inr e)), h.2 i hi (fun e => hn (Or.inl e))], h.3.trans k.3⟩
theorem Kp.drewN {w w' : World} {S : Nat → Prop} (h : Kp w w' S) (q : Nat) : Kp w (w'.drewN q) S := ⟨h.1, h.2, h.3⟩
theorem Kp.drew {w w' : World} {S : Nat → Prop} (h : Kp w w' S) : Kp w w'.drew S := ⟨h.1, h.2, h.3⟩
theorem Kp.below {w W : World} {S : Nat → Prop} (h : Below w.heap.size w W) : Kp w W S := ⟨h.size, fun i hi _ => h.block i hi, h.os, h.tape, h.output⟩
theorem size_setCell (w : World) (p : Addr) (v : Value) : (w.setCell p v).heap.size = w.heap.size := by simp [World.setCell]
theorem Kp.setCell {w w' : World} {S : Nat → Prop} (h : Kp w w' S) (p : Addr) (v : Value) (hp : S p.block) : Kp w (w'.setCell p v) S :=
  ⟨by rw [size_setCell]; exact h.1, fun i hi hn => by rw [← h.2 i hi hn]; exact Below.heap_setCell _ _ _ _ (fun e => hn (e ▸ hp)), h.3⟩
structure Arr (W : World) (g : Nat) (s : DA) : Prop where
  ar : ∃ cells, W.heap[g]? = some (.cells cells 109 (0, 0)) ∧ cells.size = s.n * 2 ∧ ∀ i, i < s.n → cells[i * 2]? = some (.int .i32 (s.B i)) ∧ cells[i * 2 + 1]? = some (.int .i32 (s.C i))
  i32 : ∀ i, i < s.n → -2147483647 ≤ s.B i ∧ s.B i ≤ 2147483647 ∧ -2147483647 ≤ s.C i ∧ s.C i ≤ 2147483647
  big : s.n ≤ 1073741824
structure Mem (W : World) (x g : Nat) (s : DA) : Prop extends Arr W g s where
  bx : W.heap[x]? = some (.cells #[.slice (some ⟨g, 0, none⟩) s.n s.n] 50 (0, 0))
  ne : x ≠ g
theorem Arr.lt {W : World} {g : Nat} {s : DA} (m : Arr W g s) : g < W.heap.size := by
  obtain ⟨cells, h, _⟩ := m.ar
  exact (Array.getElem?_eq_some_iff.1 h).1
theorem Mem.xlt {W : World} {x g : Nat} {s : DA} (m : Mem W x g s) : x < W.heap.size := (Array.getElem?_eq_some_iff.1 m.bx).1
theorem Arr.base {W : World} {g : Nat} {s : DA} (m : Arr W g s) (i : Nat) (hi : i < s.n) : W.cell? ⟨g, i * 2, none⟩ = some (.int .i32 (s.B i)) := by
  obtain ⟨cells, h, _, hc⟩ := m.ar
  unfold World.cell?; simp [h, (hc i hi).1]
theorem Arr.chk {W : World} {g : Nat} {s : DA} (m : Arr W g s) (i : Nat) (hi : i < s.n) : W.cell? ⟨g, i * 2 + 1, none⟩ = some (.int .i32 (s.C i)) := by
  obtain ⟨cells, h, _, hc⟩ := m.ar
  unfold World.cell?; simp [h, (hc i hi).2]
theorem Arr.froz {W : World} {g : Nat} {s : DA} (m : Arr W g s) (i : Nat) : W.frozen? ⟨g, i, none⟩ = false := by
  obtain ⟨cells, h, _⟩ := m.ar
  unfold World.frozen?; simp [h]
theorem Mem.box {W : World} {x g : Nat} {s : DA} (m : Mem W x g s) : W.cell? ⟨x, 0, none⟩ = some (.slice (some ⟨g, 0, none⟩) s.n s.n) := by
  unfold World.cell?; simp [m.bx]
theorem Mem.bfroz {W : World} {x g : Nat} {s : DA} (m : Mem W x g s) : W.frozen? ⟨x, 0, none⟩ = false := by
  unfold World.frozen?; simp [m.bx]
theorem Arr.step {W W' : World} {g : Nat} {s : DA} (m : Arr W g s) (h : W'.heap[g]? = W.heap[g]?) : Arr W' g s := ⟨by rw [h]; exact m.ar, m.i32, m.big⟩
theorem Mem.step {W W' : World} {x g : Nat} {s : DA} (m : Mem W x g s) (h : W'.heap[g]? = W.heap[g]?) (hx : W'.heap[x]? = W.heap[x]?) : Mem W' x g s := ⟨m.toArr.step h, by rw [hx]; exact m.bx, m.ne⟩
theorem Mem.drewN {W : World} {x g : Nat} {s : DA} (m : Mem W x g s) (q : Nat) : Mem (W.drewN q) x g s := m.step rfl rfl
theorem Mem.drew {W : World} {x g : Nat} {s : DA} (m : Mem W x g s) : Mem W.drew x g s := m.step rfl rfl
theorem setCell_heap {W : World} {g i : Nat} {v : Value} {cells : Array Value} {t : TypeId} {z : Nat × Nat} (h : W.heap[g]? = some (.cells cells t z)) : (W.setCell ⟨g, i, none⟩ v).heap[g]? = some (.cells (cells.setIfInBounds i v) t z) := by
  simp only [World.setCell, Array.getElem?_modify, if_true, h, Option.map_some]
  rfl
theorem Arr.putB {W : World} {g : Nat} {s : DA} (m : Arr W g s) (i : Nat) (hi : i < s.n) (v : Int) (h1 : -2147483647 ≤ v) (h2 : v ≤ 2147483647) : Arr (W.setCell ⟨g, i * 2, none⟩ (.int .i32 v)) g ⟨s.n, upd s.B i v, s.C⟩ := by
  obtain ⟨cells, h, hs, hc⟩ := m.ar
  refine ⟨⟨_, setCell_heap h, by simpa using hs, fun j hj => ?_⟩, fun j hj => ?_, m.big⟩
  · have hj' : j < s.n := hj
    show _ = some (Value.int .i32 (upd s.B i v j)) ∧ _ = some (Value.int .i32 (s.C j))
    constructor
    · rw [Array.getElem?_setIfInBounds]
      by_cases e : j = i
      · subst e; rw [if_pos rfl, if_pos (by omega), upd_same]
      · rw [if_neg (by omega), upd_ne e]; exact (hc j hj').1
    · rw [Array.getElem?_setIfInBounds, if_neg (by omega)]; exact (hc j hj').2
  · have := m.i32 j hj
    show _ ≤ upd s.B i v j ∧ upd s.B i v j ≤ _ ∧ _
    unfold upd
    by_cases e : j = i
    · rw [if_pos e]; exact ⟨h1, h2, this.2.2⟩
    · rw [if_neg e]; exact this
theorem Arr.putC {W : World} {g : Nat} {s : DA} (m : Arr W g s) (i : Nat) (hi : i < s.n) (v : Int) (h1 : -2147483647 ≤ v) (h2 : v ≤ 2147483647) : Arr (W.setCell ⟨g, i * 2 + 1, none⟩ (.int .i32 v)) g ⟨s.n, s.B, upd s.C i v⟩ := by
  obtain ⟨cells, h, hs, hc⟩ := m.ar
  refine ⟨⟨_, setCell_heap h, by simpa using hs, fun j hj => ?_⟩, fun j hj => ?_, m.big⟩
  · have hj' : j < s.n := hj
    show _ = some (Value.int .i32 (s.B j)) ∧ _ = some (Value.int .i32 (upd s.C i v j))
    constructor
    · rw [Array.getElem?_setIfInBounds, if_neg (by omega)]; exact (hc j hj').1
    · rw [Array.getElem?_setIfInBounds]
      by_cases e : j = i
      · subst e; rw [if_pos rfl, if_pos (by omega), upd_same]
      · rw [if_neg (by omega), upd_ne e]; exact (hc j hj').2
  · have := m.i32 j hj
    show _ ∧ _ ∧ _ ≤ upd s.C i v j ∧ upd s.C i v j ≤ _
    unfold upd
    by_cases e : j = i
    · rw [if_pos e]; exact ⟨this.1, this.2.1, h1, h2⟩
    · rw [if_neg e]; exact this
theorem Mem.putB {W : World} {x g : Nat} {s : DA} (m : Mem W x g s) (i : Nat) (hi : i < s.n) (v : Int) (h1 : -2147483647 ≤ v) (h2 : v ≤ 2147483647) : Mem (W.setCell ⟨g, i * 2, none⟩ (.int .i32 v)) x g ⟨s.n, upd s.B i v, s.C⟩ :=
  ⟨m.toArr.putB i hi v h1 h2, by rw [Below.heap_setCell _ _ _ _ m.ne]; exact m.bx, m.ne⟩
theorem Mem.putC {W : World} {x g : Nat} {s : DA} (m : Mem W x g s) (i : Nat) (hi : i < s.n) (v : Int) (h1 : -2147483647 ≤ v) (h2 : v ≤ 2147483647) : Mem (W.setCell ⟨g, i * 2 + 1, none⟩ (.int .i32 v)) x g ⟨s.n, s.B, upd s.C i v⟩ :=
  ⟨m.toArr.putC i hi v h1 h2, by rw [Below.heap_setCell _ _ _ _ m.ne]; exact m.bx, m.ne⟩
theorem Arr.ext {W : World} {g : Nat} {s t : DA} (m : Arr W g s) (hn : t.n = s.n) (h : ∀ i, i < s.n → t.B i = s.B i ∧ t.C i = s.C i) : Arr W g t := by
  obtain ⟨cells, c1, c2, c3⟩ := m.ar
  refine ⟨⟨cells, c1, by rw [hn]; exact c2, fun i hi => ?_⟩, fun i hi => ?_, by rw [hn]; exact m.big⟩
  · rw [hn] at hi
    rw [(h i hi).1, (h i hi).2]; exact c3 i hi
  · rw [hn] at hi
    rw [(h i hi).1, (h i hi).2]; exact m.i32 i hi
theorem Mem.ext {W : World} {x g : Nat} {s t : DA} (m : Mem W x g s) (hn : t.n = s.n) (h : ∀ i, i < s.n → t.B i = s.B i ∧ t.C i = s.C i) : Mem W x g t := ⟨m.toArr.ext hn h, by rw [hn]; exact m.bx, m.ne⟩
theorem Kp.setNew {w w' : World} {S : Nat → Prop} (h : Kp w w' S) (p : Addr) (v : Value) (hp : w.heap.size ≤ p.block) : Kp w (w'.setCell p v) S :=
  ⟨by rw [size_setCell]; exact h.1, fun i hi hn => by rw [← h.2 i hi hn]; exact Below.heap_setCell _ _ _ _ (by omega), h.3⟩
theorem Kp.then {w w' w2 : World} {S : Nat → Prop} (h : Kp w w' S) (hb : Below w'.heap.size w' w2) : Kp w w2 S :=
  ⟨Nat.le_trans h.1 hb.size, fun i hi hn => (hb.block i (Nat.lt_of_lt_of_le hi h.1)).trans (h.2 i hi hn), h.3.trans ⟨hb.os, hb.tape, hb.output⟩⟩
theorem Kp.alloc {w w' : World} {S : Nat → Prop} (h : Kp w w' S) (o : Obj) : Kp w (w'.alloc o) S := h.then (below_alloc (Below.refl _ _) o)
theorem setRow_size (w : World) (g : Nat) (r : Array Value) : (w.setRow g r).heap.size = w.heap.size := by simp [World.setRow]
theorem setRow_other (w : World) (g k : Nat) (r : Array Value) (h : k ≠ g) : (w.setRow g r).heap[k]? = w.heap[k]? := by
  simp only [World.setRow, Array.getElem?_modify]
  rw [if_neg (fun e => h e.symm)]
theorem Kp.setRow {w w' : World} {S : Nat → Prop} (h : Kp w w' S) (g : Nat) (r : Array Value) (hp : w.heap.size ≤ g) : Kp w (w'.setRow g r) S :=
  ⟨by rw [setRow_size]; exact h.1, fun i hi hn => by rw [← h.2 i hi hn]; exact setRow_other _ _ _ _ (by omega), h.3⟩
theorem Mem.far {W W' : World} {x g : Nat} {s : DA} (m : Mem W x g s) {S : Nat → Prop} (h : Kp W W' S) (h1 : ¬ S x) (h2 : ¬ S g) : Mem W' x g s := m.step (h.old g m.toArr.lt h2) (h.old x m.xlt h1)
theorem Mem.move {W : World} {x g g2 : Nat} {s t : DA} (m : Mem W x g s) (a : Arr W g2 t) (hne : x ≠ g2) : Mem (W.setCell ⟨x, 0, none⟩ (.slice (some ⟨g2, 0, none⟩) t.n t.n)) x g2 t :=
  ⟨a.step (Below.heap_setCell _ _ _ _ hne.symm), by rw [setCell_heap m.bx]; rfl, hne⟩
end Go.Proofs.YtaejkbjepbifcabGreatDoor.Da
namespace Go.Proofs.YtaejkbjepbifcabGreatDoor.Da
set_option linter.unusedVariables false
set_option linter.unusedSimpArgs false
structure Same (s s' : DA) : Prop where
  n : s.n ≤ s'.n
  c : ∀ i, s.used i → s'.C i = s.C i
  b : ∀ i, i = 0 ∨ s.used i → s'.B i = s.B i
  new : ∀ i, s'.used i → s.used i
theorem Same.refl (s : DA) : Same s s := ⟨Nat.le_refl _, fun _ _ => rfl, fun _ _ => rfl, fun _ h => h⟩
theorem Same.up {s s' : DA} (f : Same s s') {i : Nat} (h : s.used i) : s'.used i := ⟨h.1, Nat.lt_of_lt_of_le h.2.1 f.n, by rw [f.c i h]; exact h.2.2⟩
theorem Same.trans {a b c : DA} (f : Same a b) (g : Same b c) : Same a c :=
  ⟨Nat.le_trans f.n g.n, fun i h => by rw [g.c i (f.up h), f.c i h], fun i h => by rw [g.b i (h.imp id f.up), f.b i h], fun i h => f.new i (g.new i h)⟩
structure Take (s s' : DA) (q : Nat) (c : Int) : Prop where
  n : s.n ≤ s'.n
  cc : ∀ i, s.used i → s'.C i = s.C i
  bb : ∀ i, i = 0 ∨ s.used i → s'.B i = s.B i
  qq : s'.used q ∧ s'.C q = c
  new : ∀ i, s'.used i → s.used i ∨ i = q
theorem Same.take {a b c : DA} {q : Nat} {x : Int} (f : Same a b) (g : Take b c q x) : Take a c q x :=
  ⟨Nat.le_trans f.n g.n, fun i h => by rw [g.cc i (f.up h), f.c i h], fun i h => by rw [g.bb i (h.imp id f.up), f.b i h], g.qq, fun i h => (g.new i h).imp (f.new i) id⟩
theorem free_not {s : DA} {q : Nat} (h : s.C q < 0) : ¬ s.used q := fun u => by have := u.2.2; omega
theorem same_grow {s : DA} {h l : Nat} (r : Ring s h l) (hn : 3 ≤ s.n) : Same s (s.grow h l) := by
  have a1 := r.h1
  have a2 := r.hl
  have a3 := r.ln
  refine ⟨by show s.n ≤ 2 * s.n; omega, fun i hu => ?_, fun i hu => ?_, fun i hu => ?_⟩
  · have hil : i ≠ l := by rintro rfl; exact free_not r.fl hu
    have := hu.2.1
    rw [grow_C r hn, if_neg (by omega), if_neg hil, if_pos this]
  · have hih : i ≠ h := by
      rintro rfl
      rcases hu with h0 | hu
      · omega
      · exact free_not r.fh hu
    have : i < s.n := by rcases hu with h0 | hu; omega; exact hu.2.1
    rw [grow_B, if_neg hih, if_neg (by omega), if_pos this]
  · obtain ⟨u1, u2, u3⟩ := hu
    rw [grow_C r hn] at u3
    by_cases e1 : i = 2 * s.n - 1
    · rw [if_pos e1] at u3; omega
    · rw [if_neg e1] at u3
      by_cases e2 : i = l
      · rw [if_pos e2] at u3; omega
      · rw [if_neg e2] at u3
        by_cases e3 : i < s.n
        · rw [if_pos e3] at u3; exact ⟨u1, e3, u3⟩
        · rw [if_neg e3] at u3; omega
theorem grow_ne {s : DA} {h l q : Nat} (r : Ring s h l) (hn : 3 ≤ s.n) (q1 : 1 ≤ q) (q2 : q < s.n) (hf : s.C q < 0) : (s.grow h l).C q < 0 ∧ (s.grow h l).B q ≠ (s.grow h l).C q := by
  have R := ring_grow r hn
  have a1 := r.h1
  have a2 := r.hl
  have a3 := r.ln
  have hf2 : (s.grow h l).C q < 0 := by
    rw [grow_C r hn, if_neg (by omega)]
    by_cases e : q = l
    · rw [if_pos e]; omega
    · rw [if_neg e, if_pos q2]; exact hf
  refine ⟨hf2, ?_⟩
  have en : (s.grow h l).n = 2 * s.n := rfl
  obtain ⟨x, x1, x2, x3, x4, x5, x6⟩ := R.nx q q1 (by rw [en]; omega) hf2 (by omega)
  by_cases e : q = h
  · subst e
    rw [R.wb, x3]
    intro e2
    have hx : x = 2 * s.n - 1 := by omega
    have h1 := x6 s.n q2 (by omega)
    have h2 : (s.grow q l).C s.n < 0 := by
      rw [grow_C r hn, if_neg (by omega), if_neg (by omega), if_neg (by omega)]; omega
    omega
  · obtain ⟨y, y1, y2, y3, _⟩ := R.pv q q1 (by rw [en]; omega) hf2 e
    rw [y3, x3]
    omega
theorem take_take {s : DA} {q y x : Nat} {c : Int} (q1 : 1 ≤ q) (q2 : q < s.n) (hf : s.C q < 0) (hc : 0 ≤ c) (fy : s.C y < 0) (fx : s.C x < 0) (y1 : 1 ≤ y) (x1 : 1 ≤ x) (yq : y ≠ q) : Take s (s.take q y x c) q c := by
  refine ⟨Nat.le_refl _, fun i hu => ?_, fun i hu => ?_, ⟨⟨q1, q2, ?_⟩, ?_⟩, fun i hu => ?_⟩
  · have h1 : i ≠ q := by rintro rfl; exact free_not hf hu
    have h2 : i ≠ y := by rintro rfl; exact free_not fy hu
    rw [take_C, if_neg h1, if_neg h2, if_neg (by have := hu.1; omega)]
  · have h1 : i ≠ x := by
      rintro rfl
      rcases hu with h | h
      · omega
      · exact free_not fx h
    rw [take_B, if_neg h1]
  · rw [take_C, if_pos rfl]; exact hc
  · rw [take_C, if_pos rfl]
  · obtain ⟨u1, u2, u3⟩ := hu
    by_cases h1 : i = q
    · exact Or.inr h1
    · rw [take_C, if_neg h1] at u3
      by_cases h2 : i = y
      · rw [if_pos h2] at u3; omega
      · rw [if_neg h2, if_neg (by omega)] at u3
        exact Or.inl ⟨u1, u2, u3⟩
theorem two_left {s : DA} {h l q : Nat} (r : Ring s h l) (q1 : 1 ≤ q) (q2 : q < s.n) (hf : s.C q < 0) (he : s.B q = s.C q) (U : Nat) (hU : ∀ i, s.used i → i ≤ U) : s.n ≤ U + 4 := by
  have key : ∀ i, 1 ≤ i → i < s.n → s.C i < 0 → i = h ∨ i = l := by
    intro i i1 i2 hi
    by_cases e1 : q = h
    · subst e1
      by_cases e2 : q = l
      · have := r.le_l i2 hi; have := r.ge_h i1 hi; omega
      · obtain ⟨x, x1, x2, x3, x4, x5, x6⟩ := r.nx q q1 q2 hf e2
        rw [r.wb, x3] at he
        have hx : x = l := by omega
        subst hx
        have h1 := r.le_l i2 hi
        have h2 := r.ge_h i1 hi
        by_cases h3 : i = q
        · exact Or.inl h3
        · by_cases h4 : i = x
          · exact Or.inr h4
          · have := x6 i (by omega) (by omega); omega
    · obtain ⟨y, y1, y2, y3, y4⟩ := r.pv q q1 q2 hf e1
      by_cases e2 : q = l
      · subst e2
        rw [r.wc, y3] at he
        have hy : y = h := by omega
        subst hy
        have fy : s.C y < 0 := r.fh
        obtain ⟨x, x1, x2, x3, x4, x5, x6⟩ := r.nx y y1 (by omega) fy (by omega)
        rw [y4] at x3
        have hx : x = q := by omega
        subst hx
        have h1 := r.le_l i2 hi
        have h2 := r.ge_h i1 hi
        by_cases h3 : i = y
        · exact Or.inl h3
        · by_cases h4 : i = x
          · exact Or.inr h4
          · have := x6 i (by omega) (by omega); omega
      · obtain ⟨x, x1, x2, x3, x4, x5, x6⟩ := r.nx q q1 q2 hf e2
        rw [y3, x3] at he
        omega
  rcases Nat.lt_or_ge (U + 4) s.n with hlt | hge
  · exfalso
    have f : ∀ i, U < i → 1 ≤ i → i < s.n → s.C i < 0 := by
      intro i h1 h2 h3
      by_cases h : s.C i < 0
      · exact h
      · have := hU i ⟨h2, h3, by omega⟩; omega
    have k1 := key (U + 1) (by omega) (by omega) (f _ (by omega) (by omega) (by omega))
    have k2 := key (U + 2) (by omega) (by omega) (f _ (by omega) (by omega) (by omega))
    have k3 := key (U + 3) (by omega) (by omega) (f _ (by omega) (by omega) (by omega))
    omega
  · exact hge
end Go.Proofs.YtaejkbjepbifcabGreatDoor.Da
namespace Go.Proofs.YtaejkbjepbifcabGreatDoor.Da
open Go.RowKit Go.Proofs.YtaejkbjepbifcabGreatDoorW.PrintWords
set_option linter.unusedVariables false
set_option linter.unusedSimpArgs false
def Row (W : World) (cb : Nat) (chars : List Int) : Prop := ∃ cs t, W.heap[cb]? = some (.cells cs t (0, 0)) ∧ ∀ j, j < chars.length → cs[j]? = some (.int .u8 (chars.getD j 0))
theorem Row.step {W W' : World} {cb : Nat} {chars : List Int} (h : Row W cb chars) (e : W'.heap[cb]? = W.heap[cb]?) : Row W' cb chars := by
  obtain ⟨cs, t, h1, h2⟩ := h; exact ⟨cs, t, e.trans h1, h2⟩
theorem Row.lt {W : World} {cb : Nat} {chars : List Int} (h : Row W cb chars) : cb < W.heap.size := by
  obtain ⟨cs, t, h1, h2⟩ := h; exact (Array.getElem?_eq_some_iff.1 h1).1
theorem Row.cell {W : World} {cb : Nat} {chars : List Int} (h : Row W cb chars) (j : Nat) (hj : j < chars.length) : W.cell? ⟨cb, j, none⟩ = some (.int .u8 (chars.getD j 0)) := by
  obtain ⟨cs, t, h1, h2⟩ := h
  unfold World.cell?; simp [h1, h2 j hj]
structure Seek (W W' : World) (x g : Nat) (s : DA) (U h f : Nat) (g' : Nat) (s' : DA) (l' : Nat) : Prop where
  same : Same s s'
  mem : Mem W' x g' s'
  ring : Ring s' h l'
  gg : g' = g ∨ W.heap.size ≤ g'
  kp : Kp W W' (fun k => k = x ∨ k = g)
  n : s'.n ≤ 2 * U + 60000
  lo : 51200 ≤ s'.n
  u : ∀ i, s'.used i → i ≤ U
  fr : f = 0 ∨ (1 ≤ f ∧ f < s'.n ∧ s'.C f < 0)
  fu : f ≤ U
theorem last_end {s : DA} {h l U : Nat} (r : Ring s h l) (hu : ∀ i, s.used i → i ≤ U) (hl : l ≤ U) : s.n ≤ U + 1 := by
  have a1 := r.h1
  have a2 := r.hl
  have a3 := r.ln
  rcases Nat.lt_or_ge (U + 1) s.n with h | h
  · have := r.hi (U + 1) (by omega) h
    have := hu (U + 1) ⟨by omega, h, this⟩
    omega
  · exact h
theorem next_free {s : DA} {h l U f : Nat} (r : Ring s h l) (hu : ∀ i, s.used i → i ≤ U) (hf : f = 0 ∨ (1 ≤ f ∧ f < s.n ∧ s.C f < 0 ∧ f ≠ l)) (hfu : f ≤ U) :
    ∃ f2 : Nat, s.C f = -(f2 : Int) ∧ f < f2 ∧ f2 < s.n ∧ s.C f2 < 0 ∧ f2 ≤ U + 1 := by
  have a1 := r.h1
  have a2 := r.hl
  have a3 := r.ln
  rcases hf with rfl | ⟨f1, f2, f3, f4⟩
  · refine ⟨h, r.root, a1, by omega, r.fh, ?_⟩
    rcases Nat.lt_or_ge (U + 1) h with hh | hh
    · have := r.lo (U + 1) (by omega) hh
      have := hu (U + 1) ⟨by omega, by omega, this⟩
      omega
    · exact hh
  · obtain ⟨z, z1, z2, z3, z4, z5, z6⟩ := r.nx f f1 f2 f3 f4
    refine ⟨z, z3, z1, z2, z4, ?_⟩
    rcases Nat.lt_or_ge (U + 1) z with hh | hh
    · have := z6 (U + 1) (by omega) hh
      have := hu (U + 1) ⟨by omega, by omega, this⟩
      omega
    · exact hh
structure MkP (s s' : DA) (p b : Nat) (done : List Int) : Prop where
  bp : s'.B p = (b : Int)
  nn : s.n ≤ s'.n
  cc : ∀ i, s.used i → s'.C i = s.C i
  bb : ∀ i, i = 0 ∨ s.used i → i ≠ p → s'.B i = s.B i
  mm : ∀ ch ∈ done, s'.used (b + ch.toNat) ∧ s'.C (b + ch.toNat) = (p : Int) ∧ ¬ s.used (b + ch.toNat)
  only : ∀ i, s'.used i → ¬ s.used i → s'.C i = (p : Int) ∧ ∃ ch ∈ done, i = b + ch.toNat
theorem MkP.up {s s' : DA} {p b : Nat} {d : List Int} (m : MkP s s' p b d) {i : Nat} (h : s.used i) : s'.used i := ⟨h.1, Nat.lt_of_lt_of_le h.2.1 m.nn, by rw [m.cc i h]; exact h.2.2⟩
theorem MkP.same {s s1 s2 : DA} {p b : Nat} {d : List Int} (hp : p = 0 ∨ s.used p) (m : MkP s s1 p b d) (f : Same s1 s2) : MkP s s2 p b d := by
  refine ⟨by rw [f.b p (hp.imp id m.up)]; exact m.bp, Nat.le_trans m.nn f.n, fun i h => by rw [f.c i (m.up h), m.cc i h], fun i h hn => by rw [f.b i (h.imp id m.up), m.bb i h hn], fun ch hc => ?_, fun i h hn => ?_⟩
  · obtain ⟨h1, h2, h3⟩ := m.mm ch hc
    exact ⟨f.up h1, by rw [f.c _ h1]; exact h2, h3⟩
  · have := f.new i h
    rw [f.c i this]
    exact m.only i this hn
theorem MkP.take {s s1 s2 : DA} {p b : Nat} {d : List Int} {ch : Int} (hp : p = 0 ∨ s.used p) (m : MkP s s1 p b d) (f : Take s1 s2 (b + ch.toNat) (p : Int)) (hn : ¬ s.used (b + ch.toNat)) : MkP s s2 p b (d ++ [ch]) := by
  have up2 : ∀ i, s1.used i → s2.used i := fun i h => ⟨h.1, Nat.lt_of_lt_of_le h.2.1 f.n, by rw [f.cc i h]; exact h.2.2⟩
  refine ⟨by rw [f.bb p (hp.imp id m.up)]; exact m.bp, Nat.le_trans m.nn f.n, fun i h => by rw [f.cc i (m.up h), m.cc i h], fun i h hne => by rw [f.bb i (h.imp id m.up), m.bb i h hne], fun c hc => ?_, fun i h hne => ?_⟩
  · rcases List.mem_append.1 hc with hc | hc
    · obtain ⟨h1, h2, h3⟩ := m.mm c hc
      exact ⟨up2 _ h1, by rw [f.cc _ h1]; exact h2, h3⟩
    · rw [List.mem_singleton.1 hc]
      exact ⟨f.qq.1, f.qq.2, hn⟩
  · rcases f.new i h with h1 | h1
    · obtain ⟨h2, c, hc, e⟩ := m.only i h1 hne
      exact ⟨by rw [f.cc i h1]; exact h2, c, List.mem_append_left _ hc, e⟩
    · rw [h1]
      exact ⟨f.qq.2, ch, List.mem_append_right _ List.mem_cons_self, rfl⟩
theorem MkP.fin {s s1 : DA} {p b : Nat} {d : List Int} (m : MkP s s1 p b d) (hb : 1 ≤ b) : Mk s s1 p b d := ⟨hb, m.bp, m.nn, m.cc, m.bb, m.mm, m.only⟩
theorem MkP.root {s s' : DA} (f : Same s s') (hb : s.B 0 = 1) : MkP s s' 0 1 [] := by
  refine ⟨by rw [f.b 0 (Or.inl rfl), hb]; rfl, f.n, f.c, fun i h _ => f.b i h, fun ch h => (by cases h), fun i h hn => absurd (f.new i h) hn⟩
theorem MkP.base {s s' : DA} {p b : Nat} (f : Same s s') (hp : s.used p) : MkP s ⟨s'.n, upd s'.B p b, s'.C⟩ p b [] := by
  refine ⟨upd_same _ _ _, f.n, f.c, fun i h hn => by show upd s'.B p b i = _; rw [upd_ne hn]; exact f.b i h, fun ch h => (by cases h), fun i h hn => absurd (f.new i h) hn⟩
theorem ring_setB {s : DA} {h l p : Nat} (r : Ring s h l) (b : Int) (hp : 0 ≤ s.C p) : Ring ⟨s.n, upd s.B p b, s.C⟩ h l := by
  have key : ∀ i, s.C i < 0 → upd s.B p b i = s.B i := fun i hi => upd_ne (by rintro rfl; omega)
  refine ⟨r.h1, r.hl, r.ln, r.root, r.fh, r.fl, r.lo, r.hi, fun i i1 i2 hi hn => ?_, fun i i1 i2 hi hn => ?_, r.wc, by show upd s.B p b h = _; rw [key h r.fh]; exact r.wb⟩
  · obtain ⟨z, z1, z2, z3, z4, z5, z6⟩ := r.nx i i1 i2 hi hn
    exact ⟨z, z1, z2, z3, z4, by show upd s.B p b z = _; rw [key z z4]; exact z5, z6⟩
  · obtain ⟨z, z1, z2, z3, z4⟩ := r.pv i i1 i2 hi hn
    exact ⟨z, z1, z2, by show upd s.B p b i = _; rw [key i hi]; exact z3, z4⟩
end Go.Proofs.YtaejkbjepbifcabGreatDoor.Da
namespace Go.Proofs.YtaejkbjepbifcabGreatDoor.Da
open Go.RowKit Go.Maps Go.ChangeShapes Go.Proofs.YtaejkbjepbifcabGreatDoorW.PrintWords
set_option linter.unusedVariables false
set_option linter.unusedSimpArgs false
theorem key_u8 : Keyed Tryz.prog 5 := int_keyed Tryz.underlying5
theorem zero_ints (w : World) : (zeroValue 38).run Tryz.prog w = .ok (.slice none 0 0) w := by kernel_rfl
theorem info_int : (Tryz.prog.info? 3).map (fun i => (i.zero, i.size, i.bytes)) = some (some (.int .i64 0), 1, 8) := by kernel_rfl
theorem info_u8 : (Tryz.prog.info? 5).map (fun i => (i.zero, i.size, i.bytes)) = some (some (.int .u8 0), 1, 1) := by kernel_rfl
def gd (zs : List Int) : DataW Unit := if zs = [] then .nil else .slice (lits .i64 zs) []
def grp (P : List (Int × Int)) (c : Int) : List Int := if c = 0 then [] else (P.filter (fun p => p.1 == c)).map (·.2)
theorem grp_same (P : List (Int × Int)) (c z : Int) (h : c ≠ 0) : grp (P ++ [(c, z)]) c = grp P c ++ [z] := by simp [grp, h]
theorem grp_zero (P : List (Int × Int)) : grp P 0 = [] := by simp [grp]
theorem grp_other (P : List (Int × Int)) (c d z : Int) (h : d ≠ c) : grp (P ++ [(d, z)]) c = grp P c := by
  have : (d == c) = false := by rw [beq_eq_false_iff_ne]; exact h
  simp [grp, List.filter_append, this]
def GD (P : List (Int × Int)) (D : DataW Unit) : Prop := IsMap D ∧ ∀ c, 0 ≤ c → c ≤ 255 → D.atKey (.int .u8 c) .nil = gd (grp P c)
abbrev OG (w : World) (bm n : Nat) (D : DataW Unit) : Prop := w.ownsGroups Tryz.prog 5 (bm + 1) 3 .i64 bm n D
abbrev OI (w : World) (bm : Nat) (v : Value) (zs : List Int) : Prop := w.ownsInts (bm + 1) 3 .i64 v zs
theorem og_up {w : World} {bm n m : Nat} {D : DataW Unit} (h : OG w bm n D) (hm : n ≤ m) : OG w bm m D := by
  obtain ⟨es, clock, hb, F, hs, hD, hbb, hlen, hap⟩ := h
  exact ⟨es, clock, hb, F, Nat.le_trans hs hm, hD, hbb, fun x hx zs ho => Nat.le_trans (hlen x hx zs ho) hm, hap⟩
theorem lits_inj {a b : List Int} (h : lits (H := Unit) .i64 a = lits .i64 b) : a = b := by
  unfold lits at h
  exact (List.map_inj_right (fun x y hxy => by cases hxy; rfl)).1 h
theorem grp_eq {w : World} {bm : Nat} {D : DataW Unit} {P : List (Int × Int)} {c : Int} {v : Value} {zs : List Int} (g : GD P D) (h1 : 0 ≤ c) (h2 : c ≤ 255) (hat : D.atKey (.int .u8 c) .nil = rowDatum .i64 v zs) (hoi : OI w bm v zs) : zs = grp P c := by
  have h := (g.2 c h1 h2).symm.trans hat
  unfold gd at h
  rcases hoi.datum (H := Unit) with ⟨e, rfl⟩ | e
  · rw [e] at h
    split at h
    · rename_i h0; exact h0.symm
    · cases h
  · rw [e] at h
    split at h
    · cases h
    · injection h with h _
      exact (lits_inj h).symm
theorem gd_put {w : World} {bm : Nat} {D : DataW Unit} {P : List (Int × Int)} {c z : Int} {v : Value} {zs : List Int} (g : GD P D) (h0 : c ≠ 0) (hz : zs = grp P c) (hoi : OI w bm v (zs ++ [z])) : GD (P ++ [(c, z)]) (D.put (.int .u8 c) (rowDatum .i64 v (zs ++ [z]))) := by
  refine ⟨g.1.put _ _, fun d h1 h2 => ?_⟩
  by_cases e : d = c
  · subst e
    rw [atKey_put_same g.1 (by simp [WideAt.IsKeyLit]), hoi.datum_pos (by simp), grp_same _ _ _ h0, ← hz]
    unfold gd
    rw [if_neg (by simp)]
  · rw [atKey_put_other (by intro h; injection h with _ h; exact e h), g.2 d h1 h2, grp_other _ _ _ _ (fun h => e h.symm)]
theorem gd_zero {D : DataW Unit} {P : List (Int × Int)} {z : Int} (g : GD P D) : GD (P ++ [(0, z)]) D := ⟨g.1, fun d h1 h2 => by
  rw [g.2 d h1 h2]
  by_cases e : d = 0
  · rw [e, grp_zero, grp_zero]
  · rw [grp_other _ _ _ _ (by omega)]⟩
structure L1 (W w : World) (bm n : Nat) (P : List (Int × Int)) (D : DataW Unit) (cv : Value) (l : List Int) : Prop where
  kp : Kp W w (fun _ => False)
  bge : W.heap.size ≤ bm
  lt : bm < w.heap.size
  og : OG w bm n D
  gdt : GD P D
  ch : w.ownsRow (bm + 1) 5 1 cv l.length (l.map (Value.int .u8))
  sh : w.Shuns bm (fun g => cv.ownBlock = some g)
theorem kp_grown {W w w' : World} {row : Option Nat} (k : Kp W w (fun _ => False)) (g : w.grownBy w' row) (h : ∀ j, row = some j → W.heap.size ≤ j) : Kp W w' (fun _ => False) :=
  ⟨Nat.le_trans k.size g.size, fun i hi hn => by
    rw [g.block i (Nat.lt_of_lt_of_le hi k.size) (fun e => by have := h i e.symm; omega), k.old i hi hn], k.env.trans ⟨g.os, g.tape, g.output⟩⟩
theorem L1.alloc {W w : World} {bm n : Nat} {P : List (Int × Int)} {D : DataW Unit} {cv : Value} {l : List Int} (h : L1 W w bm n P D cv l) (o : Obj) : L1 W (w.alloc o) bm n P D cv l := by
  have g := World.grownBy_alloc w o none
  refine ⟨h.kp.alloc o, h.bge, by rw [Own.size_alloc]; have := h.lt; omega, h.og.kept g (by simp) (h.og.rowsAbove (fun j e => by cases e)), h.gdt, h.ch.alloc o, h.sh.kept g h.lt (by simp)⟩
theorem L1.push {W w w' : World} {bm n : Nat} {P : List (Int × Int)} {D : DataW Unit} {cv cv' : Value} {l : List Int} {c : Int} (h : L1 W w bm n P D cv l) (hown : w'.ownsRow (bm + 1) 5 1 cv' (l.length + 1) (l.map (Value.int .u8) ++ [.int .u8 c])) (hg : w.grownBy w' cv.ownBlock)
    (hl : cv'.ownBlock = cv.ownBlock ∨ ∃ g, cv'.ownBlock = some g ∧ w.heap.size ≤ g) : L1 W w' bm n P D cv' (l ++ [c]) := by
  have hb : ∀ j, cv.ownBlock = some j → bm + 1 ≤ j := fun j e => (h.ch.lt j e).1
  have hne : some bm ≠ cv.ownBlock := fun e => by have := hb bm e.symm; omega
  have og := h.og.kept hg hne (h.sh.rowsOff (fun j e => e))
  have sh := h.sh.kept hg h.lt hne
  refine ⟨kp_grown h.kp hg (fun j e => by have := hb j e; have := h.bge; omega), h.bge, Nat.lt_of_lt_of_le h.lt hg.size, og, h.gdt, by simpa using hown, ?_⟩
  rcases hl with e | ⟨g, e, hge⟩
  · rw [e]; exact sh
  · have s0 := h.sh.reno (No' := fun g => cv'.ownBlock = some g) h.og (fun j hj => Or.inr (by rw [e] at hj; cases hj; exact hge))
    exact s0.kept hg h.lt hne
theorem L1.store {W w w1 w2 : World} {bm n : Nat} {P : List (Int × Int)} {D D' : DataW Unit} {cv u : Value} {l zs : List Int} {c z : Int} (h : L1 W w bm n P D cv l) (hoi : OI w bm u zs) (hu : ∀ No : Nat → Prop, w.Shuns bm No → ∀ g, u.ownBlock = some g → ¬ No g) (hg : w.grownBy w1 u.ownBlock)
    (og : OG w2 bm (n + 1) D') (gd : GD (P ++ [(c, z)]) D') (hg2 : w1.grownBy w2 (some bm)) (sh : w2.Shuns bm (fun g => cv.ownBlock = some g)) : L1 W w2 bm (n + 1) (P ++ [(c, z)]) D' cv l := by
  have hb : ∀ j, u.ownBlock = some j → bm + 1 ≤ j := fun j e => (hoi.1.lt j e).1
  have c1 := h.ch.kept hg (by
    cases e : cv.ownBlock with
    | none => exact Or.inl rfl
    | some j => exact Or.inr (fun e2 => hu _ h.sh j e2.symm e))
  refine ⟨kp_grown (kp_grown h.kp hg (fun j e => by have := hb j e; have := h.bge; omega)) hg2 (fun j e => by cases e; exact h.bge), h.bge, Nat.lt_of_lt_of_le (Nat.lt_of_lt_of_le h.lt hg.size) hg2.size, og, gd, c1.kept hg2 ?_, sh⟩
  cases e : cv.ownBlock with
  | none => exact Or.inl rfl
  | some j => exact Or.inr (fun e2 => by cases e2; have := (h.ch.lt bm e).1; omega)
theorem L1.zero {W w : World} {bm n : Nat} {P : List (Int × Int)} {D : DataW Unit} {cv : Value} {l : List Int} (h : L1 W w bm n P D cv l) (z : Int) : L1 W w bm (n + 1) (P ++ [(0, z)]) D cv l := ⟨h.kp, h.bge, h.lt, og_up h.og (Nat.le_succ _), gd_zero h.gdt, h.ch, h.sh⟩
theorem og_kp {w w' : World} {bm n x g : Nat} {D : DataW Unit} (h : OG w bm n D) (k : Kp w w' (fun i => i = x ∨ i = g)) (hx : x < bm) (hg : g < bm) (hlt : bm < w.heap.size) : OG w' bm n D := by
  have hgs : g < w'.heap.size := by have := k.size; omega
  obtain ⟨og, hog⟩ : ∃ o, w.heap[g]? = some o := ⟨_, Array.getElem?_eq_getElem (by omega)⟩
  let m : World := { w' with heap := w'.heap.setIfInBounds g og }
  have g1 : w.grownBy m (some x) := by
    refine ⟨k.env.1, k.env.2.1, k.env.2.2, ?_, fun i hi hne => ?_⟩
    · show _ ≤ (w'.heap.setIfInBounds g og).size
      rw [Array.size_setIfInBounds]; exact k.size
    · show (w'.heap.setIfInBounds g og)[i]? = _
      rw [Array.getElem?_setIfInBounds]
      by_cases e : g = i
      · rw [if_pos e, if_pos hgs, ← e, hog]
      · rw [if_neg e]
        exact k.old i hi (by rintro (h | h); exact hne (by rw [h]); exact e h.symm)
  have g2 : m.grownBy w' (some g) := by
    refine ⟨rfl, rfl, rfl, ?_, fun i hi hne => ?_⟩
    · show (w'.heap.setIfInBounds g og).size ≤ _
      rw [Array.size_setIfInBounds]; exact Nat.le_refl _
    · show _ = (w'.heap.setIfInBounds g og)[i]?
      rw [Array.getElem?_setIfInBounds, if_neg (fun e => hne (by rw [e]))]
  have h1 := h.kept g1 (by intro e; cases e; omega) (h.rowsAbove (fun j e => by cases e; omega))
  exact h1.kept g2 (by intro e; cases e; omega) (h1.rowsAbove (fun j e => by cases e; omega))
theorem L1.below {W w w' : World} {bm n : Nat} {P : List (Int × Int)} {D : DataW Unit} {cv : Value} {l : List Int} (h : L1 W w bm n P D cv l) (b : Below w.heap.size w w') : L1 W w' bm n P D cv l := by
  have g : w.grownBy w' none := ⟨b.os, b.tape, b.output, b.size, fun i hi _ => b.block i hi⟩
  exact ⟨h.kp.then b, h.bge, Nat.lt_of_lt_of_le h.lt b.size, h.og.kept g (by simp) (h.og.rowsAbove (fun j e => by cases e)), h.gdt, h.ch.kept g (by cases cv.ownBlock <;> simp), h.sh.kept g h.lt (by simp)⟩
theorem below_bytes (W : World) (e : TypeId) (D : ByteArray) : Below W.heap.size W (Lib.bytesWorld W e D) := by
  refine ⟨?_, ?_, ?_, by rw [Lib.bytesWorld_size]; omega, fun i hi => Lib.bytesWorld_at_old W e D i hi⟩ <;>
    (unfold Lib.bytesWorld World.freeze; first | rfl | (simp; rfl) | simp)
def bs (t : ByteArray) : List Int := t.data.toList.map (fun b => (b.toNat : Int))
theorem bs_len (t : ByteArray) : (bs t).length = t.size := by simp [bs]
theorem head_at (t : ByteArray) (i : Nat) (h : i < t.size) : head1 ((bs t).drop i) = ((t.data.toList.getD i 0).toNat : Int) := by
  have h' : i < (bs t).length := by rw [bs_len]; exact h
  rw [List.drop_eq_getElem_cons h']
  have h2 : i < t.data.toList.length := by simp [bs] at h'; simpa using h'
  simp only [head1, bs, List.getElem_map]
  rw [List.getD_eq_getElem?_getD, List.getElem?_eq_getElem h2]; rfl
theorem head_end (t : ByteArray) (i : Nat) (h : t.size ≤ i) : head1 ((bs t).drop i) = 0 := by
  rw [List.drop_eq_nil_of_le (by rw [bs_len]; exact h)]; rfl
end Go.Proofs.YtaejkbjepbifcabGreatDoor.Da
namespace Go.Proofs.YtaejkbjepbifcabGreatDoor.Da
open Go.RowKit Go.Proofs.YtaejkbjepbifcabGreatDoorW.PrintWords
set_option linter.unusedVariables false
set_option linter.unusedSimpArgs false
set_option maxHeartbeats 8000000 in
set_option maxRecDepth 100000 in
theorem setCheck_room (W : World) (x g q y z : Nat) (s : DA) (c : Int) (m : Mem W x g s) (q1 : 1 ≤ q) (q2 : q < s.n) (hne : s.B q ≠ s.C q) (hy : s.B q = -(y : Int)) (hz : s.C q = -(z : Int)) (y2 : y < s.n) (z2 : z < s.n) (yq : y ≠ q) (zq : z ≠ q) (y1 : 1 ≤ y) (c1 : 0 ≤ c) (c2 : c ≤ 2147483647) :
    Calls Tryz.prog 102 #[.pointer (some ⟨x, 0, none⟩), .int .i64 (q : Int), .int .i64 c] W fun e w' => e = .returned (.tuple #[]) ∧ Mem w' x g (s.take q y z c) ∧ Kp W w' (fun k => k = g) := by
  have M := Aside0.mk m
  have K : Aside0 (Kp W W (fun k => k = g)) := ⟨Kp.self _ _⟩
  have big := m.big
  have qz : (q : Int) < (s.n : Int) := by omega
  have bx := m.box
  have hb := m.base q q2
  have hc := m.chk q q2
  have hr := m.chk 0 (by omega)
  rw [Nat.zero_mul, Nat.zero_add] at hr
  have hcmp : (s.B q == s.C q) = false := by rw [beq_eq_false_iff_ne]; exact hne
  rw [hy, hz] at hcmp
  rw [hy] at hb
  rw [hz] at hc
  have HY := Aside0.mk hy
  have HZ := Aside0.mk hz
  obtain ⟨r0, hr0⟩ : ∃ r0, s.C 0 = r0 := ⟨_, rfl⟩
  have ir := m.i32 0 (by omega)
  rw [hr0] at hr ir
  have HR0 := Aside0.mk hr0
  have q0 : q ≠ 0 := by omega
  clear m hy hz hne hr0
  go_enter Tryz.func102, Tryz.ntmps102
  go_wp2_with fail
  go_quiet (fail)
  cases h0 : (-(q : Int) == r0) with
  | true =>
    go_upto_region 5 with fail
    have HT := Aside0.mk h0
    clear h0
    have M_ := Aside0.mk (M.out.drewN nq)
    have K_ := Aside0.mk (K.out.drewN nq)
    obtain ⟨Wa, h_⟩ : ∃ w_, w_ = W.drewN nq := ⟨_, rfl⟩
    rw [← h_] at M_ K_ ⊢
    clear h_ M K
    have M := M_
    have K := K_
    clear M_ K_
    clear hcmp hr bx hb hc
    have bx : Wa.cell? ⟨x, 0, none⟩ = some (.slice (some ⟨g, 0, none⟩) s.n s.n) := M.out.box
    have hb : Wa.cell? ⟨g, q * 2, none⟩ = some (.int .i32 (-(y : Int))) := (M.out.base q q2).trans (congrArg (fun v => some (Value.int .i32 v)) (HY.out))
    have hc : Wa.cell? ⟨g, q * 2 + 1, none⟩ = some (.int .i32 (-(z : Int))) := (M.out.chk q q2).trans (congrArg (fun v => some (Value.int .i32 v)) (HZ.out))
    go_still_tail 10, (by kernel_rfl)
    change wpList _ _ _ _ _ Wa.drew
    clear bx hb hc
    have M_ := Aside0.mk (M.out.drew)
    have K_ := Aside0.mk (K.out.drew)
    obtain ⟨D1, h_⟩ : ∃ w_, w_ = Wa.drew := ⟨_, rfl⟩
    rw [← h_] at M_ K_ ⊢
    clear h_ M K
    have M := M_
    have K := K_
    clear M_ K_
    have bx : D1.cell? ⟨x, 0, none⟩ = some (.slice (some ⟨g, 0, none⟩) s.n s.n) := M.out.box
    have hb : D1.cell? ⟨g, q * 2, none⟩ = some (.int .i32 (-(y : Int))) := (M.out.base q q2).trans (congrArg (fun v => some (Value.int .i32 v)) (HY.out))
    have hc : D1.cell? ⟨g, q * 2 + 1, none⟩ = some (.int .i32 (-(z : Int))) := (M.out.chk q q2).trans (congrArg (fun v => some (Value.int .i32 v)) (HZ.out))
    have tf : D1.frozen? ⟨g, 1, none⟩ = false := M.out.froz _
    have tc := M.out.chk 0 (show 0 < s.n by omega)
    rw [Nat.zero_mul, Nat.zero_add] at tc
    go_upto_region 6 with fail
    have M_ := Aside0.mk ((by have h := M.out.putC 0 (show 0 < s.n by omega) (-(z : Int)) (by omega) (by omega); rw [Nat.zero_mul, Nat.zero_add] at h; exact h))
    have K_ := Aside0.mk (K.out.setCell ⟨g, 1, none⟩ (.int .i32 (-(z : Int))) (show g = g from rfl))
    obtain ⟨E1, h_⟩ : ∃ w_, w_ = D1.setCell ⟨g, 1, none⟩ (.int .i32 (-(z : Int))) := ⟨_, rfl⟩
    rw [← h_] at M_ K_ ⊢
    clear h_ M K
    have M := M_
    have K := K_
    clear M_ K_
    clear bx hb hc tf tc
    have bx : E1.cell? ⟨x, 0, none⟩ = some (.slice (some ⟨g, 0, none⟩) s.n s.n) := M.out.box
    have hb : E1.cell? ⟨g, q * 2, none⟩ = some (.int .i32 (-(y : Int))) := (M.out.base q q2).trans (congrArg (fun v => some (Value.int .i32 v)) (HY.out))
    have hc : E1.cell? ⟨g, q * 2 + 1, none⟩ = some (.int .i32 (-(z : Int))) := (M.out.chk q q2).trans (congrArg (fun v => some (Value.int .i32 v)) ((upd_ne q0).trans HZ.out))
    go_still_tail 11, (by kernel_rfl)
    change wpList _ _ _ _ _ E1.drew
    clear bx hb hc
    have M_ := Aside0.mk (M.out.drew)
    have K_ := Aside0.mk (K.out.drew)
    obtain ⟨D2, h_⟩ : ∃ w_, w_ = E1.drew := ⟨_, rfl⟩
    rw [← h_] at M_ K_ ⊢
    clear h_ M K
    have M := M_
    have K := K_
    clear M_ K_
    have bx : D2.cell? ⟨x, 0, none⟩ = some (.slice (some ⟨g, 0, none⟩) s.n s.n) := M.out.box
    have hb : D2.cell? ⟨g, q * 2, none⟩ = some (.int .i32 (-(y : Int))) := (M.out.base q q2).trans (congrArg (fun v => some (Value.int .i32 v)) (HY.out))
    have hc : D2.cell? ⟨g, q * 2 + 1, none⟩ = some (.int .i32 (-(z : Int))) := (M.out.chk q q2).trans (congrArg (fun v => some (Value.int .i32 v)) ((upd_ne q0).trans HZ.out))
    have tf : D2.frozen? ⟨g, z * 2, none⟩ = false := M.out.froz _
    have tc := M.out.base z (show z < s.n by omega)
    go_upto_region 7 with fail
    have M_ := Aside0.mk (M.out.putB z (show z < s.n by omega) (-(y : Int)) (by omega) (by omega))
    have K_ := Aside0.mk (K.out.setCell ⟨g, z * 2, none⟩ (.int .i32 (-(y : Int))) (show g = g from rfl))
    obtain ⟨E2, h_⟩ : ∃ w_, w_ = D2.setCell ⟨g, z * 2, none⟩ (.int .i32 (-(y : Int))) := ⟨_, rfl⟩
    rw [← h_] at M_ K_ ⊢
    clear h_ M K
    have M := M_
    have K := K_
    clear M_ K_
    clear bx hb hc tf tc
    have bx : E2.cell? ⟨x, 0, none⟩ = some (.slice (some ⟨g, 0, none⟩) s.n s.n) := M.out.box
    have hb : E2.cell? ⟨g, q * 2, none⟩ = some (.int .i32 (-(y : Int))) := (M.out.base q q2).trans (congrArg (fun v => some (Value.int .i32 v)) ((upd_ne zq.symm).trans (HY.out)))
    have hc : E2.cell? ⟨g, q * 2 + 1, none⟩ = some (.int .i32 (-(z : Int))) := (M.out.chk q q2).trans (congrArg (fun v => some (Value.int .i32 v)) ((upd_ne q0).trans HZ.out))
    go_still_tail 11, (by kernel_rfl)
    change wpList _ _ _ _ _ E2.drew
    clear bx hb hc
    have M_ := Aside0.mk (M.out.drew)
    have K_ := Aside0.mk (K.out.drew)
    obtain ⟨D3, h_⟩ : ∃ w_, w_ = E2.drew := ⟨_, rfl⟩
    rw [← h_] at M_ K_ ⊢
    clear h_ M K
    have M := M_
    have K := K_
    clear M_ K_
    have bx : D3.cell? ⟨x, 0, none⟩ = some (.slice (some ⟨g, 0, none⟩) s.n s.n) := M.out.box
    have hb : D3.cell? ⟨g, q * 2, none⟩ = some (.int .i32 (-(y : Int))) := (M.out.base q q2).trans (congrArg (fun v => some (Value.int .i32 v)) ((upd_ne zq.symm).trans (HY.out)))
    have hc : D3.cell? ⟨g, q * 2 + 1, none⟩ = some (.int .i32 (-(z : Int))) := (M.out.chk q q2).trans (congrArg (fun v => some (Value.int .i32 v)) ((upd_ne q0).trans HZ.out))
    have tf : D3.frozen? ⟨g, y * 2 + 1, none⟩ = false := M.out.froz _
    have tc := M.out.chk y (show y < s.n by omega)
    go_upto_region 8 with fail
    have M_ := Aside0.mk (M.out.putC y (show y < s.n by omega) (-(z : Int)) (by omega) (by omega))
    have K_ := Aside0.mk (K.out.setCell ⟨g, y * 2 + 1, none⟩ (.int .i32 (-(z : Int))) (show g = g from rfl))
    obtain ⟨E3, h_⟩ : ∃ w_, w_ = D3.setCell ⟨g, y * 2 + 1, none⟩ (.int .i32 (-(z : Int))) := ⟨_, rfl⟩
    rw [← h_] at M_ K_ ⊢
    clear h_ M K
    have M := M_
    have K := K_
    clear M_ K_
    clear bx hb hc tf tc
    have bx : E3.cell? ⟨x, 0, none⟩ = some (.slice (some ⟨g, 0, none⟩) s.n s.n) := M.out.box
    have hb : E3.cell? ⟨g, q * 2, none⟩ = some (.int .i32 (-(y : Int))) := (M.out.base q q2).trans (congrArg (fun v => some (Value.int .i32 v)) ((upd_ne zq.symm).trans (HY.out)))
    have hc : E3.cell? ⟨g, q * 2 + 1, none⟩ = some (.int .i32 (-(z : Int))) := (M.out.chk q q2).trans (congrArg (fun v => some (Value.int .i32 v)) ((upd_ne yq.symm).trans ((upd_ne q0).trans HZ.out)))
    have tf : E3.frozen? ⟨g, q * 2 + 1, none⟩ = false := M.out.froz _
    have tc := M.out.chk q (show q < s.n by omega)
    go_wp2_with fail
    go_end0
    have e_ := M.out.putC q q2 c (by omega) c2
    unfold DA.take
    rw [HY.out, HZ.out, if_pos (by rw [HR0.out]; exact (beq_iff_eq.1 HT.out).symm)]
    exact ⟨rfl, e_, K.out.setCell ⟨g, q * 2 + 1, none⟩ (.int .i32 c) (show g = g from rfl)⟩
  | false =>
    go_upto_region 6 with fail
    have HT := Aside0.mk h0
    clear h0
    have M_ := Aside0.mk (M.out.drewN nq)
    have K_ := Aside0.mk (K.out.drewN nq)
    obtain ⟨Wa, h_⟩ : ∃ w_, w_ = W.drewN nq := ⟨_, rfl⟩
    rw [← h_] at M_ K_ ⊢
    clear h_ M K
    have M := M_
    have K := K_
    clear M_ K_
    clear hcmp hr bx hb hc
    have bx : Wa.cell? ⟨x, 0, none⟩ = some (.slice (some ⟨g, 0, none⟩) s.n s.n) := M.out.box
    have hb : Wa.cell? ⟨g, q * 2, none⟩ = some (.int .i32 (-(y : Int))) := (M.out.base q q2).trans (congrArg (fun v => some (Value.int .i32 v)) (HY.out))
    have hc : Wa.cell? ⟨g, q * 2 + 1, none⟩ = some (.int .i32 (-(z : Int))) := (M.out.chk q q2).trans (congrArg (fun v => some (Value.int .i32 v)) (HZ.out))
    go_still_tail 11, (by kernel_rfl)
    change wpList _ _ _ _ _ Wa.drew
    clear bx hb hc
    have M_ := Aside0.mk (M.out.drew)
    have K_ := Aside0.mk (K.out.drew)
    obtain ⟨D2, h_⟩ : ∃ w_, w_ = Wa.drew := ⟨_, rfl⟩
    rw [← h_] at M_ K_ ⊢
    clear h_ M K
    have M := M_
    have K := K_
    clear M_ K_
    have bx : D2.cell? ⟨x, 0, none⟩ = some (.slice (some ⟨g, 0, none⟩) s.n s.n) := M.out.box
    have hb : D2.cell? ⟨g, q * 2, none⟩ = some (.int .i32 (-(y : Int))) := (M.out.base q q2).trans (congrArg (fun v => some (Value.int .i32 v)) (HY.out))
    have hc : D2.cell? ⟨g, q * 2 + 1, none⟩ = some (.int .i32 (-(z : Int))) := (M.out.chk q q2).trans (congrArg (fun v => some (Value.int .i32 v)) (HZ.out))
    have tf : D2.frozen? ⟨g, z * 2, none⟩ = false := M.out.froz _
    have tc := M.out.base z (show z < s.n by omega)
    go_upto_region 7 with fail
    have M_ := Aside0.mk (M.out.putB z (show z < s.n by omega) (-(y : Int)) (by omega) (by omega))
    have K_ := Aside0.mk (K.out.setCell ⟨g, z * 2, none⟩ (.int .i32 (-(y : Int))) (show g = g from rfl))
    obtain ⟨E2, h_⟩ : ∃ w_, w_ = D2.setCell ⟨g, z * 2, none⟩ (.int .i32 (-(y : Int))) := ⟨_, rfl⟩
    rw [← h_] at M_ K_ ⊢
    clear h_ M K
    have M := M_
    have K := K_
    clear M_ K_
    clear bx hb hc tf tc
    have bx : E2.cell? ⟨x, 0, none⟩ = some (.slice (some ⟨g, 0, none⟩) s.n s.n) := M.out.box
    have hb : E2.cell? ⟨g, q * 2, none⟩ = some (.int .i32 (-(y : Int))) := (M.out.base q q2).trans (congrArg (fun v => some (Value.int .i32 v)) ((upd_ne zq.symm).trans (HY.out)))
    have hc : E2.cell? ⟨g, q * 2 + 1, none⟩ = some (.int .i32 (-(z : Int))) := (M.out.chk q q2).trans (congrArg (fun v => some (Value.int .i32 v)) (HZ.out))
    go_still_tail 11, (by kernel_rfl)
    change wpList _ _ _ _ _ E2.drew
    clear bx hb hc
    have M_ := Aside0.mk (M.out.drew)
    have K_ := Aside0.mk (K.out.drew)
    obtain ⟨D3, h_⟩ : ∃ w_, w_ = E2.drew := ⟨_, rfl⟩
    rw [← h_] at M_ K_ ⊢
    clear h_ M K
    have M := M_
    have K := K_
    clear M_ K_
    have bx : D3.cell? ⟨x, 0, none⟩ = some (.slice (some ⟨g, 0, none⟩) s.n s.n) := M.out.box
    have hb : D3.cell? ⟨g, q * 2, none⟩ = some (.int .i32 (-(y : Int))) := (M.out.base q q2).trans (congrArg (fun v => some (Value.int .i32 v)) ((upd_ne zq.symm).trans (HY.out)))
    have hc : D3.cell? ⟨g, q * 2 + 1, none⟩ = some (.int .i32 (-(z : Int))) := (M.out.chk q q2).trans (congrArg (fun v => some (Value.int .i32 v)) (HZ.out))
    have tf : D3.frozen? ⟨g, y * 2 + 1, none⟩ = false := M.out.froz _
    have tc := M.out.chk y (show y < s.n by omega)
    go_upto_region 8 with fail
    have M_ := Aside0.mk (M.out.putC y (show y < s.n by omega) (-(z : Int)) (by omega) (by omega))
    have K_ := Aside0.mk (K.out.setCell ⟨g, y * 2 + 1, none⟩ (.int .i32 (-(z : Int))) (show g = g from rfl))
    obtain ⟨E3, h_⟩ : ∃ w_, w_ = D3.setCell ⟨g, y * 2 + 1, none⟩ (.int .i32 (-(z : Int))) := ⟨_, rfl⟩
    rw [← h_] at M_ K_ ⊢
    clear h_ M K
    have M := M_
    have K := K_
    clear M_ K_
    clear bx hb hc tf tc
    have bx : E3.cell? ⟨x, 0, none⟩ = some (.slice (some ⟨g, 0, none⟩) s.n s.n) := M.out.box
    have hb : E3.cell? ⟨g, q * 2, none⟩ = some (.int .i32 (-(y : Int))) := (M.out.base q q2).trans (congrArg (fun v => some (Value.int .i32 v)) ((upd_ne zq.symm).trans (HY.out)))
    have hc : E3.cell? ⟨g, q * 2 + 1, none⟩ = some (.int .i32 (-(z : Int))) := (M.out.chk q q2).trans (congrArg (fun v => some (Value.int .i32 v)) ((upd_ne yq.symm).trans (HZ.out)))
    have tf : E3.frozen? ⟨g, q * 2 + 1, none⟩ = false := M.out.froz _
    have tc := M.out.chk q (show q < s.n by omega)
    go_wp2_with fail
    go_end0
    have e_ := M.out.putC q q2 c (by omega) c2
    unfold DA.take
    rw [HY.out, HZ.out, if_neg (by rw [HR0.out]; exact fun h => (beq_eq_false_iff_ne.1 HT.out) h.symm)]
    exact ⟨rfl, e_, K.out.setCell ⟨g, q * 2 + 1, none⟩ (.int .i32 c) (show g = g from rfl)⟩
end Go.Proofs.YtaejkbjepbifcabGreatDoor.Da
namespace Go.Proofs.YtaejkbjepbifcabGreatDoor.Da
open Go.RowKit Go.Proofs.YtaejkbjepbifcabGreatDoorW.PrintWords
set_option linter.unusedVariables false
set_option linter.unusedSimpArgs false
theorem pair_info : (Tryz.prog.info? 109).map (fun i => (i.zero, i.size, i.bytes)) = some (some (.agg #[.int .i32 0, .int .i32 0]), 2, 8) := by kernel_rfl
abbrev zeros (n : Nat) : Obj := .cells (madeCells #[.int .i32 0, .int .i32 0] (n * 2)) 109 (0, 0)
theorem make_run (W : World) (n : Nat) (hn : n ≤ 1073741824) : (Instr.makeSlice 50 (.int .i64 (n : Int)) (.int .i64 (n : Int))).run Tryz.prog W = .ok (.slice (some ⟨W.heap.size, 0, none⟩) n n) (W.alloc (zeros n)) := by
  obtain ⟨i, hi, hz⟩ := Option.map_eq_some_iff.1 pair_info
  simp only [Prod.mk.injEq] at hz
  obtain ⟨h1, h2, h3⟩ := hz
  have := run_make (P := Tryz.prog) W 50 109 i _ Tryz.underlying50 hi h1 .i64 .i64 (n : Int) (n : Int) (by omega) (by omega) (by rw [h3]; omega) (by omega)
  rw [this, h2]
  rfl
theorem madeCells_at (n i : Nat) (hi : i < n) : (madeCells #[.int .i32 0, .int .i32 0] n)[i]? = some (Value.int .i32 0) := by
  simp only [madeCells, Array.getElem?_map, Array.getElem?_range, hi, if_true, Option.map_some]
  have : i % 2 = 0 ∨ i % 2 = 1 := by omega
  rcases this with h | h <;> simp [h]
theorem arr_new (W : World) (n : Nat) (hn : n ≤ 1073741824) : Arr (W.alloc (zeros n)) W.heap.size ⟨n, fun _ => 0, fun _ => 0⟩ := by
  refine ⟨⟨_, blk_new W _, by rw [size_madeCells], fun i hi => ?_⟩, fun i _ => by show (-2147483647 : Int) ≤ 0 ∧ (0 : Int) ≤ 2147483647 ∧ (-2147483647 : Int) ≤ 0 ∧ (0 : Int) ≤ 2147483647; omega, hn⟩
  have hi' : i < n := hi
  exact ⟨madeCells_at _ _ (by omega), madeCells_at _ _ (by omega)⟩
theorem pair_size : (Tryz.prog.info? 109).map (·.size) = some 2 := by kernel_rfl
theorem run_copy_pairs {P : Program} (w : World) (dT sT ty elem : TypeId) (g dLen dCap k : Nat) (a : Addr) (sLen sCap : Nat) (cur : Array Value) (t : TypeId) (cs : List Value)
    (hu : P.underlying dT = some (.slice elem)) (hs : (P.info? elem).map (·.size) = some 2)
    (hg : w.heap[g]? = some (.cells cur t (0, 0))) (hk : Nat.min sLen dLen = k) (hn : cs.length = k * 2)
    (hsrc : ∀ j v, cs[j]? = some v → w.cell? (a.add j) = some v) (hfit : cs.length ≤ cur.size) (h1 : ∀ v ∈ cs, v.oneCell' = true) :
    (Builtin.copy_ #[dT, sT] ty #[.slice (some ⟨g, 0, none⟩) dLen dCap, .slice (some a) sLen sCap]).run P w =
      .ok (goInt k) (w.setRow g (cs ++ cur.toList.drop cs.length).toArray) := by
  have hl := run_loadCells_list (P := P) w a cs hsrc
  have hst := run_storeCells_at P g 0 t cs 0 cur w hg (by simpa using hfit) h1
  simp only [Nat.zero_add, List.take_zero, List.nil_append] at hst
  cases hq : P.info? elem with
  | none => simp [hq] at hs
  | some i =>
    have hi : i.size = 2 := by simpa [hq] using hs
    have hk2 : min sLen dLen = k := hk
    have hl2 : (loadCells a (k * 2)).run P w = .ok cs.toArray w := by rw [← hn]; exact hl
    simp [Builtin.copy_, run_underlying hu, Builtin.lenOf, Builtin.firstCells, sizeOf, typeInfo, hq, hi, hk2, hl2, hst]
def DA.over (s t : DA) (k : Nat) : DA := ⟨t.n, fun i => if i < k then s.B i else t.B i, fun i => if i < k then s.C i else t.C i⟩
theorem arr_copy (W : World) (g g2 k a b ca cb : Nat) (s t : DA) (m : Arr W g s) (m2 : Arr W g2 t) (h1 : k ≤ s.n) (h2 : k ≤ t.n) (hk : Nat.min b a = k) :
    ∃ row, (∀ ty, (Builtin.copy_ #[50, 50] ty #[.slice (some ⟨g2, 0, none⟩) a ca, .slice (some ⟨g, 0, none⟩) b cb]).run Tryz.prog W = .ok (.int .i64 (k : Int)) (W.setRow g2 row)) ∧ Arr (W.setRow g2 row) g2 (s.over t k) := by
  obtain ⟨cells, c1, c2, c3⟩ := m.ar
  obtain ⟨cur, d1, d2, d3⟩ := m2.ar
  have hlen : (cells.toList.take (k * 2)).length = k * 2 := by rw [List.length_take]; simp; omega
  have hone : ∀ v ∈ cells.toList.take (k * 2), v.oneCell' = true := by
    intro v hv
    obtain ⟨j, hj, rfl⟩ := List.getElem_of_mem hv
    rw [hlen] at hj
    rw [List.getElem_take, Array.getElem_toList]
    have := c3 (j / 2) (by omega)
    have he : j = j / 2 * 2 ∨ j = j / 2 * 2 + 1 := by omega
    rcases he with e | e
    · have h3 := (Array.getElem?_eq_some_iff.1 this.1).2
      have : cells[j]'(by omega) = .int .i32 (s.B (j / 2)) := by rw [← h3]; congr 1
      rw [this]; rfl
    · have h3 := (Array.getElem?_eq_some_iff.1 this.2).2
      have : cells[j]'(by omega) = .int .i32 (s.C (j / 2)) := by rw [← h3]; congr 1
      rw [this]; rfl
  refine ⟨_, fun ty => run_copy_pairs (P := Tryz.prog) W 50 50 ty 109 g2 a ca k ⟨g, 0, none⟩ b cb cur _ (cells.toList.take (k * 2)) Tryz.underlying50 pair_size d1 hk hlen (fun j v hj => ?_) (by rw [hlen]; omega) hone, ?_⟩
  · rw [List.getElem?_take] at hj
    split at hj
    · have : (⟨g, 0, none⟩ : Addr).add j = ⟨g, j, none⟩ := by unfold Addr.add; by_cases h : j = 0 <;> simp [h]
      rw [this]
      unfold World.cell?
      rw [Array.getElem?_toList] at hj
      simp [c1, hj]
    · cases hj
  · refine ⟨⟨_, setRow_heap W g2 cur _ _ _ d1, ?_, fun i hi => ?_⟩, fun i hi => ?_, m2.big⟩
    · simp only [List.size_toArray, List.length_append, hlen, List.length_drop, Array.length_toList, d2]
      show _ = t.n * 2
      omega
    · have hi' : i < t.n := hi
      show _ = some (Value.int .i32 (if i < k then s.B i else t.B i)) ∧ _ = some (Value.int .i32 (if i < k then s.C i else t.C i))
      simp only [List.getElem?_toArray, List.getElem?_append, hlen]
      by_cases hik : i < k
      · have hA : i * 2 < k * 2 := by omega
        have hB : i * 2 + 1 < k * 2 := by omega
        simp only [hik, hA, hB, if_true, List.getElem?_take, Array.getElem?_toList]
        exact c3 i (by omega)
      · have hA : ¬ i * 2 < k * 2 := by omega
        have hB : ¬ i * 2 + 1 < k * 2 := by omega
        simp only [hik, hA, hB, if_false, List.getElem?_drop]
        rw [show k * 2 + (i * 2 - k * 2) = i * 2 by omega, show k * 2 + (i * 2 + 1 - k * 2) = i * 2 + 1 by omega, Array.getElem?_toList, Array.getElem?_toList]
        exact d3 i hi'
    · have hi' : i < t.n := hi
      show _ ≤ (if i < k then s.B i else t.B i) ∧ (if i < k then s.B i else t.B i) ≤ _ ∧ _ ≤ (if i < k then s.C i else t.C i) ∧ (if i < k then s.C i else t.C i) ≤ _
      by_cases hik : i < k
      · simp only [if_pos hik]; exact m.i32 i (by omega)
      · simp only [if_neg hik]; exact m2.i32 i hi'
end Go.Proofs.YtaejkbjepbifcabGreatDoor.Da
namespace Go.Proofs.YtaejkbjepbifcabGreatDoor.Da
open Go.RowKit Go.Proofs.YtaejkbjepbifcabGreatDoorW.PrintWords
set_option linter.unusedVariables false
set_option linter.unusedSimpArgs false
def Exp (W : World) (x : Nat) (s' : DA) (e : Ending) (w' : World) : Prop := e = .returned (.tuple #[]) ∧ ∃ g', W.heap.size ≤ g' ∧ Mem w' x g' s' ∧ Kp W w' (fun k => k = x)
set_option maxHeartbeats 8000000 in
set_option maxRecDepth 100000 in
theorem expand_calls (W : World) (x g : Nat) (s : DA) (h l : Nat) (m : Mem W x g s) (r : Ring s h l) (hn : 3 ≤ s.n) (h2 : 2 * s.n ≤ 1073741824) :
    Calls Tryz.prog 100 #[.pointer (some ⟨x, 0, none⟩)] W fun e w' => Exp W x (s.grow h l) e w' := by
  have M := Aside0.mk m
  have R := Aside0.mk r
  have bx := m.box
  have hn2 : (s.n : Int) ≤ 536870912 := by omega
  have n0 : (0 : Int) ≤ (s.n : Int) := by omega
  have hmk : ∀ w : World, (Instr.makeSlice 50 (.int .i64 ((s.n : Int) * 2)) (.int .i64 ((s.n : Int) * 2))).run Tryz.prog w = .ok (.slice (some ⟨w.heap.size, 0, none⟩) (s.n * 2) (s.n * 2)) (w.alloc (zeros (s.n * 2))) := fun w => by
    have := make_run w (s.n * 2) (by omega)
    rwa [show ((s.n * 2 : Nat) : Int) = (s.n : Int) * 2 by omega] at this
  clear m r
  go_enter Tryz.func100, Tryz.ntmps100
  go_upto_region 4 with fail
  obtain ⟨y, hy⟩ : ∃ y, W.heap.size = y := ⟨_, rfl⟩
  obtain ⟨W2, hW2⟩ : ∃ W2, W2 = (W.alloc (.cells #[.slice (some ⟨y + 1, 0, none⟩) (s.n * 2) (s.n * 2)] 50)).alloc (zeros (s.n * 2)) := ⟨_, rfl⟩
  rw [hy, ← hW2]
  have K : Aside0 (Kp W W2 (fun _ => False)) := ⟨by rw [hW2]; exact ((Kp.self W _).alloc _).alloc _⟩
  have M2 : Aside0 (Mem W2 y (y + 1) ⟨s.n * 2, fun _ => 0, fun _ => 0⟩) := ⟨by
    have e1 : (W.alloc (.cells #[.slice (some ⟨y + 1, 0, none⟩) (s.n * 2) (s.n * 2)] 50)).heap.size = y + 1 := by rw [Own.size_alloc, hy]
    have a := arr_new (W.alloc (.cells #[.slice (some ⟨y + 1, 0, none⟩) (s.n * 2) (s.n * 2)] 50)) (s.n * 2) (by omega)
    rw [e1, ← hW2] at a
    refine ⟨a, ?_, by omega⟩
    rw [hW2, ← hy]
    exact ((below_alloc (Below.refl _ _) _).block _ (by rw [Own.size_alloc]; omega)).trans (blk_new W _)⟩
  have M1 := Aside0.mk (M.out.far K.out id id)
  have hgl : g < y := by rw [← hy]; exact M.out.toArr.lt
  have hxl : x < y := by rw [← hy]; exact M.out.xlt
  have HY := Aside0.mk hy
  clear hW2 hy bx M hmk
  have b1 := M1.out.box
  have b2 := M2.out.box
  go_still_tail 6, (by kernel_rfl)
  change wpList _ _ _ _ _ W2.drew
  clear b1 b2
  have K_ := Aside0.mk K.out.drew
  have M1_ := Aside0.mk M1.out.drew
  have M2_ := Aside0.mk M2.out.drew
  obtain ⟨W3, hW3⟩ : ∃ W3, W3 = W2.drew := ⟨_, rfl⟩
  rw [← hW3] at K_ M1_ M2_ ⊢
  clear hW3 K M1 M2
  obtain ⟨row, hcp, ha⟩ := arr_copy W3 g (y + 1) s.n (s.n * 2) s.n (s.n * 2) s.n _ _ M1_.out.toArr M2_.out.toArr (Nat.le_refl _) (show s.n ≤ s.n * 2 by omega) (Nat.min_eq_left (by omega))
  obtain ⟨W4, hW4⟩ : ∃ W4, W4 = W3.setRow (y + 1) row := ⟨_, rfl⟩
  rw [← hW4] at hcp ha
  have K : Aside0 (Kp W W4 (fun _ => False)) := ⟨by rw [hW4]; exact K_.out.setRow _ _ (by have := HY.out; omega)⟩
  have M1 : Aside0 (Mem W4 x g s) := ⟨M1_.out.step (by rw [hW4]; exact setRow_other _ _ _ _ (by omega)) (by rw [hW4]; exact setRow_other _ _ _ _ (by omega))⟩
  have M2 : Aside0 (Mem W4 y (y + 1) (s.over ⟨s.n * 2, fun _ => 0, fun _ => 0⟩ s.n)) := ⟨ha, by rw [hW4, setRow_other _ _ _ _ (by omega)]; exact M2_.out.bx, by omega⟩
  have hcp3 := hcp 3
  clear hW4 ha hcp K_ M1_ M2_
  go_wp2_with fail
  go_loopg [5] s.n (fun kq y5 w' => ∃ i : Nat, y5 = .int .i64 i ∧ Aside0 (s.n ≤ i ∧ i + kq = s.n * 2) ∧ Aside0 (Mem w' y (y + 1) ⟨s.n * 2, fun j => if j < s.n then s.B j else if j < i then -((j : Int) - 1) else 0, fun j => if j < s.n then s.C j else if j < i then -((j : Int) + 1) else 0⟩) ∧ Aside0 (Mem w' x g s) ∧ Aside0 (Kp W w' (fun _ => False)))
  case atStart => exact ⟨s.n, rfl, ⟨by omega⟩, ⟨M2.out.ext rfl (fun i hi => by
    show (if i < s.n then s.B i else if i < s.n then -((i : Int) - 1) else 0) = (if i < s.n then s.B i else 0) ∧ (if i < s.n then s.C i else if i < s.n then -((i : Int) + 1) else 0) = (if i < s.n then s.C i else 0)
    by_cases h : i < s.n <;> simp [h])⟩, M1, K⟩
  case round =>
    clear hcp3 K M1 M2
    obtain ⟨i, rfl, HI, M2, M1, K⟩ := hrel
    obtain ⟨i1, i2⟩ := HI.out
    by_cases hi : i < s.n * 2
    · have hiz : (i : Int) < (s.n : Int) * 2 := by omega
      have b2 := M2.out.box
      have c1 := M2.out.base i hi
      have c2 := M2.out.chk i hi
      have f1 := M2.out.froz (i * 2)
      have f2 := M2.out.froz (i * 2 + 1)
      cases gk with
      | zero => omega
      | succ kz =>
      go_wp2_with fail
      go_roundg kz
      case measure => omega
      case rel => exact ⟨i + 1, congrArg (Value.int .i64) (by omega), ⟨by omega⟩, ⟨((M2.out.putB i hi (-((i : Int) - 1)) (by omega) (by omega)).putC i hi (-((i : Int) + 1)) (by omega) (by omega)).ext rfl (fun j hj => by
        show (if j < s.n then s.B j else if j < i + 1 then -((j : Int) - 1) else 0) = upd (fun j => if j < s.n then s.B j else if j < i then -((j : Int) - 1) else 0) i (-((i : Int) - 1)) j ∧ (if j < s.n then s.C j else if j < i + 1 then -((j : Int) + 1) else 0) = upd (fun j => if j < s.n then s.C j else if j < i then -((j : Int) + 1) else 0) i (-((i : Int) + 1)) j
        simp only [upd]
        by_cases e : j = i
        · subst e; rw [if_neg (by omega), if_pos (by omega), if_pos rfl, if_neg (by omega), if_pos (by omega), if_pos rfl]; exact ⟨rfl, rfl⟩
        · rw [if_neg e, if_neg e]
          by_cases h1 : j < s.n
          · simp [h1]
          · by_cases h2 : j < i
            · rw [if_neg h1, if_neg h1, if_neg h1, if_neg h1, if_pos h2, if_pos h2, if_pos (by omega), if_pos (by omega)]; exact ⟨rfl, rfl⟩
            · rw [if_neg h1, if_neg h1, if_neg h1, if_neg h1, if_neg h2, if_neg h2, if_neg (by omega), if_neg (by omega)]; exact ⟨rfl, rfl⟩)⟩, ⟨(M1.out.step (Below.heap_setCell _ _ _ _ (by show g ≠ y + 1; omega)) (Below.heap_setCell _ _ _ _ (by show x ≠ y + 1; omega))).step (Below.heap_setCell _ _ _ _ (by show g ≠ y + 1; omega)) (Below.heap_setCell _ _ _ _ (by show x ≠ y + 1; omega))⟩, ⟨(K.out.setNew _ _ (by have := HY.out; show W.heap.size ≤ y + 1; omega)).setNew _ _ (by have := HY.out; show W.heap.size ≤ y + 1; omega)⟩⟩
    · have hiz : ¬ (i : Int) < (s.n : Int) * 2 := by omega
      obtain rfl : i = s.n * 2 := by omega
      have r1 := R.out.h1
      have r2 := R.out.hl
      have r3 := R.out.ln
      have b1 := M1.out.box
      have b2 := M2.out.box
      have cr := M1.out.chk 0 (by omega)
      rw [Nat.zero_mul, Nat.zero_add, R.out.root] at cr
      have eb : (if h < s.n then s.B h else if h < s.n * 2 then -((h : Int) - 1) else 0) = -(l : Int) := by rw [if_pos (by omega)]; exact R.out.wb
      have cb : wr.cell? ⟨y + 1, h * 2, none⟩ = some (.int .i32 (-(l : Int))) := (M2.out.base h (show h < s.n * 2 by omega)).trans (congrArg (fun v => some (Value.int .i32 v)) eb)
      have t1 := M2.out.base s.n (show s.n < s.n * 2 by omega)
      have t2 := M2.out.chk l (show l < s.n * 2 by omega)
      have t3 := M2.out.chk (s.n * 2 - 1) (show s.n * 2 - 1 < s.n * 2 by omega)
      have f1 := M2.out.froz (s.n * 2)
      have f2 := M2.out.froz (h * 2)
      have f3 := M2.out.froz (l * 2 + 1)
      have f4 := M2.out.froz ((s.n * 2 - 1) * 2 + 1)
      have f5 := M1.out.bfroz
      have hh0 : (0 : Int) ≤ (h : Int) := by omega
      have hh1 : (h : Int) < (s.n : Int) * 2 := by omega
      have ll0 : (0 : Int) ≤ (l : Int) := by omega
      have ll1 : (l : Int) < (s.n : Int) * 2 := by omega
      clear eb
      go_wp2_with fail
      go_end0
      have hgy : g ≠ y + 1 := by omega
      have hxy : x ≠ y + 1 := by omega
      have hWy : W.heap.size ≤ y + 1 := by have := HY.out; omega
      have A := (((M2.out.toArr.putB s.n (show s.n < s.n * 2 by omega) (-(l : Int)) (by omega) (by omega)).putB h (show h < s.n * 2 by omega) (-((s.n : Int) * 2 - 1)) (by omega) (by omega)).putC l (show l < s.n * 2 by omega) (-(s.n : Int)) (by omega) (by omega)).putC (s.n * 2 - 1) (show s.n * 2 - 1 < s.n * 2 by omega) (-(h : Int)) (by omega) (by omega)
      have X := (((M1.out.step (Below.heap_setCell _ ⟨y + 1, s.n * 2, none⟩ (.int .i32 (-(l : Int))) _ hgy) (Below.heap_setCell _ _ _ _ hxy)).step (Below.heap_setCell _ ⟨y + 1, h * 2, none⟩ (.int .i32 (-((s.n : Int) * 2 - 1))) _ hgy) (Below.heap_setCell _ _ _ _ hxy)).step (Below.heap_setCell _ ⟨y + 1, l * 2 + 1, none⟩ (.int .i32 (-(s.n : Int))) _ hgy) (Below.heap_setCell _ _ _ _ hxy)).step (Below.heap_setCell _ ⟨y + 1, (s.n * 2 - 1) * 2 + 1, none⟩ (.int .i32 (-(h : Int))) _ hgy) (Below.heap_setCell _ _ _ _ hxy)
      refine ⟨rfl, y + 1, hWy, (X.move A hxy).ext (Nat.mul_comm _ _) (fun j hj => ?_), ?_⟩
      · have e2 : 2 * s.n - 1 = s.n * 2 - 1 := by omega
        have e3 : -(2 * (s.n : Int) - 1) = -((s.n : Int) * 2 - 1) := by omega
        have hj' : j < s.n * 2 := hj
        show upd (upd (fun i => if i < s.n then s.B i else -((i : Int) - 1)) s.n (-(l : Int))) h (-(2 * (s.n : Int) - 1)) j = upd (upd (fun j => if j < s.n then s.B j else if j < s.n * 2 then -((j : Int) - 1) else 0) s.n (-(l : Int))) h (-((s.n : Int) * 2 - 1)) j ∧ upd (upd (fun i => if i < s.n then s.C i else -((i : Int) + 1)) l (-(s.n : Int))) (2 * s.n - 1) (-(h : Int)) j = upd (upd (fun j => if j < s.n then s.C j else if j < s.n * 2 then -((j : Int) + 1) else 0) l (-(s.n : Int))) (s.n * 2 - 1) (-(h : Int)) j
        rw [e2, e3]
        simp only [upd, hj', if_true, and_self]
      · exact ((((((K.out.mono (T := fun k => k = x) (fun _ _ h => h.elim)).setNew _ _ hWy).setNew _ _ hWy).setNew _ _ hWy).setNew _ _ hWy)).setCell ⟨x, 0, none⟩ _ (show x = x from rfl)
end Go.Proofs.YtaejkbjepbifcabGreatDoor.Da
namespace Go.Proofs.YtaejkbjepbifcabGreatDoor.Da
open Go.RowKit Go.Proofs.YtaejkbjepbifcabGreatDoorW.PrintWords
set_option linter.unusedVariables false
set_option linter.unusedSimpArgs false
def ChkF (W : World) (x q : Nat) (s : DA) (c : Int) (e : Ending) (w' : World) : Prop := e = .returned (.tuple #[]) ∧ ∃ g y z : Nat, W.heap.size ≤ g ∧ s.B q = -(y : Int) ∧ s.C q = -(z : Int) ∧ Mem w' x g (s.take q y z c) ∧ Kp W w' (fun k => k = x)
set_option maxHeartbeats 8000000 in
set_option maxRecDepth 100000 in
theorem setCheck_full (W : World) (x g0 q : Nat) (s0 : DA) (h l : Nat) (c : Int) (m : Mem W x g0 s0) (r : Ring s0 h l) (hn : 3 ≤ s0.n) (hbig : 2 * s0.n ≤ 1073741824) (q1 : 1 ≤ q) (q20 : q < s0.n) (hf : s0.C q < 0) (heq : s0.B q = s0.C q) (c1 : 0 ≤ c) (c2 : c ≤ 2147483647) :
    Calls Tryz.prog 102 #[.pointer (some ⟨x, 0, none⟩), .int .i64 (q : Int), .int .i64 c] W fun e w' => ChkF W x q (s0.grow h l) c e w' := by
  have bx := m.box
  have hb := m.base q q20
  have hc := m.chk q q20
  have qz : (q : Int) < (s0.n : Int) := by omega
  have big0 : (s0.n : Int) ≤ 1073741824 := by omega
  have hcmp : (s0.B q == s0.C q) = true := by rw [beq_iff_eq]; exact heq
  have ib := m.i32 q q20
  obtain ⟨hf2, hne⟩ := grow_ne r hn q1 q20 hf
  obtain ⟨y, z, hy, hz, y1, y2, z1, z2, yq, zq, fy, fz, -⟩ := ring_take (ring_grow r hn) q1 (show q < 2 * s0.n by omega) hf2 hne c c1
  have HE := Aside0.mk (expand_calls W x g0 s0 h l m r hn hbig)
  have HS : Aside0 (∀ nq, Calls Tryz.prog 100 #[.pointer (some ⟨x, 0, none⟩)] (W.drewN nq) fun e w' => Exp (W.drewN nq) x (s0.grow h l) e w') := ⟨fun nq => expand_calls _ x g0 s0 h l (m.drewN nq) r hn hbig⟩
  clear m r hf heq HE
  go_enter Tryz.func102, Tryz.ntmps102
  go_wp2_with fail
  go_quiet (fail)
  go_upto_region 2 with (go_at_call 100; (with_reducible refine (HS.out _).mono ?_); rintro _ Wg ⟨rfl, g, hg, m, k⟩)
  clear bx hb hc hcmp ib qz big0 HS
  obtain ⟨s, hs⟩ : ∃ s, s = s0.grow h l := ⟨_, rfl⟩
  rw [← hs] at hy hz y2 z2 fy fz m hne hf2
  have q2 : q < s.n := by rw [hs]; show q < 2 * s0.n; omega
  have HSS := Aside0.mk hs
  clear hs
  have M := Aside0.mk m
  have K : Aside0 (Kp W Wg (fun k => k = x ∨ k = g)) := ⟨⟨k.1, fun i hi hn => k.2 i hi (fun e => hn (Or.inl e)), k.3⟩⟩
  have HG : Aside0 (W.heap.size ≤ g) := ⟨hg⟩
  have big := m.big
  have qz : (q : Int) < (s.n : Int) := by omega
  have bx := m.box
  have hb := m.base q q2
  have hc := m.chk q q2
  have hr := m.chk 0 (by omega)
  rw [Nat.zero_mul, Nat.zero_add] at hr
  rw [hy] at hb
  rw [hz] at hc
  have HY := Aside0.mk hy
  have HZ := Aside0.mk hz
  obtain ⟨r0, hr0⟩ : ∃ r0, s.C 0 = r0 := ⟨_, rfl⟩
  have ir := m.i32 0 (by omega)
  rw [hr0] at hr ir
  have HR0 := Aside0.mk hr0
  have q0 : q ≠ 0 := by omega
  clear m hy hz hne hr0 k hg hf2 fy fz
  cases h0 : (-(q : Int) == r0) with
  | true =>
    go_upto_region 5 with fail
    have HT := Aside0.mk h0
    clear h0
    clear hr bx hb hc
    have bx : Wg.cell? ⟨x, 0, none⟩ = some (.slice (some ⟨g, 0, none⟩) s.n s.n) := M.out.box
    have hb : Wg.cell? ⟨g, q * 2, none⟩ = some (.int .i32 (-(y : Int))) := (M.out.base q q2).trans (congrArg (fun v => some (Value.int .i32 v)) (HY.out))
    have hc : Wg.cell? ⟨g, q * 2 + 1, none⟩ = some (.int .i32 (-(z : Int))) := (M.out.chk q q2).trans (congrArg (fun v => some (Value.int .i32 v)) (HZ.out))
    go_still_tail 10, (by kernel_rfl)
    change wpList _ _ _ _ _ Wg.drew
    clear bx hb hc
    have M_ := Aside0.mk (M.out.drew)
    have K_ := Aside0.mk (K.out.drew)
    obtain ⟨D1, h_⟩ : ∃ w_, w_ = Wg.drew := ⟨_, rfl⟩
    rw [← h_] at M_ K_ ⊢
    clear h_ M K
    have M := M_
    have K := K_
    clear M_ K_
    have bx : D1.cell? ⟨x, 0, none⟩ = some (.slice (some ⟨g, 0, none⟩) s.n s.n) := M.out.box
    have hb : D1.cell? ⟨g, q * 2, none⟩ = some (.int .i32 (-(y : Int))) := (M.out.base q q2).trans (congrArg (fun v => some (Value.int .i32 v)) (HY.out))
    have hc : D1.cell? ⟨g, q * 2 + 1, none⟩ = some (.int .i32 (-(z : Int))) := (M.out.chk q q2).trans (congrArg (fun v => some (Value.int .i32 v)) (HZ.out))
    have tf : D1.frozen? ⟨g, 1, none⟩ = false := M.out.froz _
    have tc := M.out.chk 0 (show 0 < s.n by omega)
    rw [Nat.zero_mul, Nat.zero_add] at tc
    go_upto_region 6 with fail
    have M_ := Aside0.mk ((by have h := M.out.putC 0 (show 0 < s.n by omega) (-(z : Int)) (by omega) (by omega); rw [Nat.zero_mul, Nat.zero_add] at h; exact h))
    have K_ := Aside0.mk (K.out.setCell ⟨g, 1, none⟩ (.int .i32 (-(z : Int))) (Or.inr rfl))
    obtain ⟨E1, h_⟩ : ∃ w_, w_ = D1.setCell ⟨g, 1, none⟩ (.int .i32 (-(z : Int))) := ⟨_, rfl⟩
    rw [← h_] at M_ K_ ⊢
    clear h_ M K
    have M := M_
    have K := K_
    clear M_ K_
    clear bx hb hc tf tc
    have bx : E1.cell? ⟨x, 0, none⟩ = some (.slice (some ⟨g, 0, none⟩) s.n s.n) := M.out.box
    have hb : E1.cell? ⟨g, q * 2, none⟩ = some (.int .i32 (-(y : Int))) := (M.out.base q q2).trans (congrArg (fun v => some (Value.int .i32 v)) (HY.out))
    have hc : E1.cell? ⟨g, q * 2 + 1, none⟩ = some (.int .i32 (-(z : Int))) := (M.out.chk q q2).trans (congrArg (fun v => some (Value.int .i32 v)) ((upd_ne q0).trans HZ.out))
    go_still_tail 11, (by kernel_rfl)
    change wpList _ _ _ _ _ E1.drew
    clear bx hb hc
    have M_ := Aside0.mk (M.out.drew)
    have K_ := Aside0.mk (K.out.drew)
    obtain ⟨D2, h_⟩ : ∃ w_, w_ = E1.drew := ⟨_, rfl⟩
    rw [← h_] at M_ K_ ⊢
    clear h_ M K
    have M := M_
    have K := K_
    clear M_ K_
    have bx : D2.cell? ⟨x, 0, none⟩ = some (.slice (some ⟨g, 0, none⟩) s.n s.n) := M.out.box
    have hb : D2.cell? ⟨g, q * 2, none⟩ = some (.int .i32 (-(y : Int))) := (M.out.base q q2).trans (congrArg (fun v => some (Value.int .i32 v)) (HY.out))
    have hc : D2.cell? ⟨g, q * 2 + 1, none⟩ = some (.int .i32 (-(z : Int))) := (M.out.chk q q2).trans (congrArg (fun v => some (Value.int .i32 v)) ((upd_ne q0).trans HZ.out))
    have tf : D2.frozen? ⟨g, z * 2, none⟩ = false := M.out.froz _
    have tc := M.out.base z (show z < s.n by omega)
    go_upto_region 7 with fail
    have M_ := Aside0.mk (M.out.putB z (show z < s.n by omega) (-(y : Int)) (by omega) (by omega))
    have K_ := Aside0.mk (K.out.setCell ⟨g, z * 2, none⟩ (.int .i32 (-(y : Int))) (Or.inr rfl))
    obtain ⟨E2, h_⟩ : ∃ w_, w_ = D2.setCell ⟨g, z * 2, none⟩ (.int .i32 (-(y : Int))) := ⟨_, rfl⟩
    rw [← h_] at M_ K_ ⊢
    clear h_ M K
    have M := M_
    have K := K_
    clear M_ K_
    clear bx hb hc tf tc
    have bx : E2.cell? ⟨x, 0, none⟩ = some (.slice (some ⟨g, 0, none⟩) s.n s.n) := M.out.box
    have hb : E2.cell? ⟨g, q * 2, none⟩ = some (.int .i32 (-(y : Int))) := (M.out.base q q2).trans (congrArg (fun v => some (Value.int .i32 v)) ((upd_ne zq.symm).trans (HY.out)))
    have hc : E2.cell? ⟨g, q * 2 + 1, none⟩ = some (.int .i32 (-(z : Int))) := (M.out.chk q q2).trans (congrArg (fun v => some (Value.int .i32 v)) ((upd_ne q0).trans HZ.out))
    go_still_tail 11, (by kernel_rfl)
    change wpList _ _ _ _ _ E2.drew
    clear bx hb hc
    have M_ := Aside0.mk (M.out.drew)
    have K_ := Aside0.mk (K.out.drew)
    obtain ⟨D3, h_⟩ : ∃ w_, w_ = E2.drew := ⟨_, rfl⟩
    rw [← h_] at M_ K_ ⊢
    clear h_ M K
    have M := M_
    have K := K_
    clear M_ K_
    have bx : D3.cell? ⟨x, 0, none⟩ = some (.slice (some ⟨g, 0, none⟩) s.n s.n) := M.out.box
    have hb : D3.cell? ⟨g, q * 2, none⟩ = some (.int .i32 (-(y : Int))) := (M.out.base q q2).trans (congrArg (fun v => some (Value.int .i32 v)) ((upd_ne zq.symm).trans (HY.out)))
    have hc : D3.cell? ⟨g, q * 2 + 1, none⟩ = some (.int .i32 (-(z : Int))) := (M.out.chk q q2).trans (congrArg (fun v => some (Value.int .i32 v)) ((upd_ne q0).trans HZ.out))
    have tf : D3.frozen? ⟨g, y * 2 + 1, none⟩ = false := M.out.froz _
    have tc := M.out.chk y (show y < s.n by omega)
    go_upto_region 8 with fail
    have M_ := Aside0.mk (M.out.putC y (show y < s.n by omega) (-(z : Int)) (by omega) (by omega))
    have K_ := Aside0.mk (K.out.setCell ⟨g, y * 2 + 1, none⟩ (.int .i32 (-(z : Int))) (Or.inr rfl))
    obtain ⟨E3, h_⟩ : ∃ w_, w_ = D3.setCell ⟨g, y * 2 + 1, none⟩ (.int .i32 (-(z : Int))) := ⟨_, rfl⟩
    rw [← h_] at M_ K_ ⊢
    clear h_ M K
    have M := M_
    have K := K_
    clear M_ K_
    clear bx hb hc tf tc
    have bx : E3.cell? ⟨x, 0, none⟩ = some (.slice (some ⟨g, 0, none⟩) s.n s.n) := M.out.box
    have hb : E3.cell? ⟨g, q * 2, none⟩ = some (.int .i32 (-(y : Int))) := (M.out.base q q2).trans (congrArg (fun v => some (Value.int .i32 v)) ((upd_ne zq.symm).trans (HY.out)))
    have hc : E3.cell? ⟨g, q * 2 + 1, none⟩ = some (.int .i32 (-(z : Int))) := (M.out.chk q q2).trans (congrArg (fun v => some (Value.int .i32 v)) ((upd_ne yq.symm).trans ((upd_ne q0).trans HZ.out)))
    have tf : E3.frozen? ⟨g, q * 2 + 1, none⟩ = false := M.out.froz _
    have tc := M.out.chk q (show q < s.n by omega)
    go_wp2_with fail
    go_end0
    rw [← HSS.out]
    have e_ := M.out.putC q q2 c (by omega) c2
    have hk := K.out.setCell ⟨g, q * 2 + 1, none⟩ (.int .i32 c) (Or.inr rfl)
    refine ⟨rfl, g, y, z, HG.out, HY.out, HZ.out, ?_, ⟨hk.1, fun i hi hn => hk.2 i hi (fun e => e.elim hn (fun e => by have := HG.out; omega)), hk.3⟩⟩
    unfold DA.take
    rw [HY.out, HZ.out, if_pos (by rw [HR0.out]; exact (beq_iff_eq.1 HT.out).symm)]
    exact e_
  | false =>
    go_upto_region 6 with fail
    have HT := Aside0.mk h0
    clear h0
    clear hr bx hb hc
    have bx : Wg.cell? ⟨x, 0, none⟩ = some (.slice (some ⟨g, 0, none⟩) s.n s.n) := M.out.box
    have hb : Wg.cell? ⟨g, q * 2, none⟩ = some (.int .i32 (-(y : Int))) := (M.out.base q q2).trans (congrArg (fun v => some (Value.int .i32 v)) (HY.out))
    have hc : Wg.cell? ⟨g, q * 2 + 1, none⟩ = some (.int .i32 (-(z : Int))) := (M.out.chk q q2).trans (congrArg (fun v => some (Value.int .i32 v)) (HZ.out))
    go_still_tail 11, (by kernel_rfl)
    change wpList _ _ _ _ _ Wg.drew
    clear bx hb hc
    have M_ := Aside0.mk (M.out.drew)
    have K_ := Aside0.mk (K.out.drew)
    obtain ⟨D2, h_⟩ : ∃ w_, w_ = Wg.drew := ⟨_, rfl⟩
    rw [← h_] at M_ K_ ⊢
    clear h_ M K
    have M := M_
    have K := K_
    clear M_ K_
    have bx : D2.cell? ⟨x, 0, none⟩ = some (.slice (some ⟨g, 0, none⟩) s.n s.n) := M.out.box
    have hb : D2.cell? ⟨g, q * 2, none⟩ = some (.int .i32 (-(y : Int))) := (M.out.base q q2).trans (congrArg (fun v => some (Value.int .i32 v)) (HY.out))
    have hc : D2.cell? ⟨g, q * 2 + 1, none⟩ = some (.int .i32 (-(z : Int))) := (M.out.chk q q2).trans (congrArg (fun v => some (Value.int .i32 v)) (HZ.out))
    have tf : D2.frozen? ⟨g, z * 2, none⟩ = false := M.out.froz _
    have tc := M.out.base z (show z < s.n by omega)
    go_upto_region 7 with fail
    have M_ := Aside0.mk (M.out.putB z (show z < s.n by omega) (-(y : Int)) (by omega) (by omega))
    have K_ := Aside0.mk (K.out.setCell ⟨g, z * 2, none⟩ (.int .i32 (-(y : Int))) (Or.inr rfl))
    obtain ⟨E2, h_⟩ : ∃ w_, w_ = D2.setCell ⟨g, z * 2, none⟩ (.int .i32 (-(y : Int))) := ⟨_, rfl⟩
    rw [← h_] at M_ K_ ⊢
    clear h_ M K
    have M := M_
    have K := K_
    clear M_ K_
    clear bx hb hc tf tc
    have bx : E2.cell? ⟨x, 0, none⟩ = some (.slice (some ⟨g, 0, none⟩) s.n s.n) := M.out.box
    have hb : E2.cell? ⟨g, q * 2, none⟩ = some (.int .i32 (-(y : Int))) := (M.out.base q q2).trans (congrArg (fun v => some (Value.int .i32 v)) ((upd_ne zq.symm).trans (HY.out)))
    have hc : E2.cell? ⟨g, q * 2 + 1, none⟩ = some (.int .i32 (-(z : Int))) := (M.out.chk q q2).trans (congrArg (fun v => some (Value.int .i32 v)) (HZ.out))
    go_still_tail 11, (by kernel_rfl)
    change wpList _ _ _ _ _ E2.drew
    clear bx hb hc
    have M_ := Aside0.mk (M.out.drew)
    have K_ := Aside0.mk (K.out.drew)
    obtain ⟨D3, h_⟩ : ∃ w_, w_ = E2.drew := ⟨_, rfl⟩
    rw [← h_] at M_ K_ ⊢
    clear h_ M K
    have M := M_
    have K := K_
    clear M_ K_
    have bx : D3.cell? ⟨x, 0, none⟩ = some (.slice (some ⟨g, 0, none⟩) s.n s.n) := M.out.box
    have hb : D3.cell? ⟨g, q * 2, none⟩ = some (.int .i32 (-(y : Int))) := (M.out.base q q2).trans (congrArg (fun v => some (Value.int .i32 v)) ((upd_ne zq.symm).trans (HY.out)))
    have hc : D3.cell? ⟨g, q * 2 + 1, none⟩ = some (.int .i32 (-(z : Int))) := (M.out.chk q q2).trans (congrArg (fun v => some (Value.int .i32 v)) (HZ.out))
    have tf : D3.frozen? ⟨g, y * 2 + 1, none⟩ = false := M.out.froz _
    have tc := M.out.chk y (show y < s.n by omega)
    go_upto_region 8 with fail
    have M_ := Aside0.mk (M.out.putC y (show y < s.n by omega) (-(z : Int)) (by omega) (by omega))
    have K_ := Aside0.mk (K.out.setCell ⟨g, y * 2 + 1, none⟩ (.int .i32 (-(z : Int))) (Or.inr rfl))
    obtain ⟨E3, h_⟩ : ∃ w_, w_ = D3.setCell ⟨g, y * 2 + 1, none⟩ (.int .i32 (-(z : Int))) := ⟨_, rfl⟩
    rw [← h_] at M_ K_ ⊢
    clear h_ M K
    have M := M_
    have K := K_
    clear M_ K_
    clear bx hb hc tf tc
    have bx : E3.cell? ⟨x, 0, none⟩ = some (.slice (some ⟨g, 0, none⟩) s.n s.n) := M.out.box
    have hb : E3.cell? ⟨g, q * 2, none⟩ = some (.int .i32 (-(y : Int))) := (M.out.base q q2).trans (congrArg (fun v => some (Value.int .i32 v)) ((upd_ne zq.symm).trans (HY.out)))
    have hc : E3.cell? ⟨g, q * 2 + 1, none⟩ = some (.int .i32 (-(z : Int))) := (M.out.chk q q2).trans (congrArg (fun v => some (Value.int .i32 v)) ((upd_ne yq.symm).trans (HZ.out)))
    have tf : E3.frozen? ⟨g, q * 2 + 1, none⟩ = false := M.out.froz _
    have tc := M.out.chk q (show q < s.n by omega)
    go_wp2_with fail
    go_end0
    rw [← HSS.out]
    have e_ := M.out.putC q q2 c (by omega) c2
    have hk := K.out.setCell ⟨g, q * 2 + 1, none⟩ (.int .i32 c) (Or.inr rfl)
    refine ⟨rfl, g, y, z, HG.out, HY.out, HZ.out, ?_, ⟨hk.1, fun i hi hn => hk.2 i hi (fun e => e.elim hn (fun e => by have := HG.out; omega)), hk.3⟩⟩
    unfold DA.take
    rw [HY.out, HZ.out, if_neg (by rw [HR0.out]; exact fun h => (beq_eq_false_iff_ne.1 HT.out) h.symm)]
    exact e_
def Chk (W : World) (x g : Nat) (s : DA) (q : Nat) (c : Int) (e : Ending) (w' : World) : Prop :=
  e = .returned (.tuple #[]) ∧ ∃ g' s', (g' = g ∨ W.heap.size ≤ g') ∧ Mem w' x g' s' ∧ Kp W w' (fun k => k = x ∨ k = g) ∧ Take s s' q c ∧ (∃ h' l', Ring s' h' l') ∧ (s'.n = s.n ∨ (s'.n = 2 * s.n ∧ s.B q = s.C q))
theorem setCheck_calls (W : World) (x g q : Nat) (s : DA) (h l : Nat) (c : Int) (m : Mem W x g s) (r : Ring s h l) (hn : 3 ≤ s.n) (hbig : 2 * s.n ≤ 1073741824) (q1 : 1 ≤ q) (q2 : q < s.n) (hf : s.C q < 0) (c1 : 0 ≤ c) (c2 : c ≤ 2147483647) :
    Calls Tryz.prog 102 #[.pointer (some ⟨x, 0, none⟩), .int .i64 (q : Int), .int .i64 c] W fun e w' => Chk W x g s q c e w' := by
  by_cases he : s.B q = s.C q
  · refine (setCheck_full W x g q s h l c m r hn hbig q1 q2 hf he c1 c2).mono ?_
    rintro e w' ⟨rfl, g', y, z, hg, hy, hz, hm, hk⟩
    obtain ⟨hf2, hne⟩ := grow_ne r hn q1 q2 hf
    obtain ⟨y', z', hy', hz', y1, y2, z1, z2, yq, zq, fy, fz, hr⟩ := ring_take (ring_grow r hn) q1 (show q < 2 * s.n by omega) hf2 hne c c1
    obtain rfl : y = y' := by omega
    obtain rfl : z = z' := by omega
    exact ⟨rfl, g', _, Or.inr hg, hm, hk.mono (fun _ _ h => Or.inl h), (same_grow r hn).take (take_take q1 (show q < 2 * s.n by omega) hf2 c1 fy fz y1 z1 yq), hr, Or.inr ⟨rfl, he⟩⟩
  · obtain ⟨y, z, hy, hz, y1, y2, z1, z2, yq, zq, fy, fz, hr⟩ := ring_take r q1 q2 hf he c c1
    refine (setCheck_room W x g q y z s c m q1 q2 he hy hz y2 z2 yq zq y1 c1 c2).mono ?_
    rintro e w' ⟨rfl, hm, hk⟩
    exact ⟨rfl, g, _, Or.inl rfl, hm, hk.mono (fun _ _ h => Or.inr h), take_take q1 q2 hf c1 fy fz y1 z1 yq, hr, Or.inl rfl⟩
end Go.Proofs.YtaejkbjepbifcabGreatDoor.Da
namespace Go.Proofs.YtaejkbjepbifcabGreatDoor.Da
open Go.RowKit Go.Proofs.YtaejkbjepbifcabGreatDoorW.PrintWords
set_option linter.unusedVariables false
set_option linter.unusedSimpArgs false
set_option maxHeartbeats 8000000 in
set_option maxRecDepth 100000 in
theorem setBase_root (W : World) (x : Nat) (b : Int) :
    Calls Tryz.prog 101 #[.pointer (some ⟨x, 0, none⟩), .int .i64 0, .int .i64 b] W fun e w' => e = .returned (.tuple #[]) ∧ w' = W := by
  go_enter Tryz.func101, Tryz.ntmps101
  go_wp2_with fail
  exact bodyPost_ret (v := .tuple #[]) (by simp [results, Tryz.results101, go_sem]) rfl ⟨rfl, rfl⟩
set_option maxHeartbeats 8000000 in
set_option maxRecDepth 100000 in
theorem setBase_used (W : World) (x g p : Nat) (s : DA) (b : Int) (m : Mem W x g s) (hp : s.used p) (b1 : 0 ≤ b) (b2 : b ≤ 2147483647) :
    Calls Tryz.prog 101 #[.pointer (some ⟨x, 0, none⟩), .int .i64 (p : Int), .int .i64 b] W fun e w' => e = .returned (.tuple #[]) ∧ Mem w' x g ⟨s.n, upd s.B p b, s.C⟩ ∧ Kp W w' (fun k => k = g) := by
  have M := Aside0.mk m
  have bx := m.box
  have hb := m.base p hp.2.1
  have hc := m.chk p hp.2.1
  have fr := m.froz (p * 2)
  have pz : (p : Int) < (s.n : Int) := by have := hp.2.1; omega
  have hp0 : ((p : Int) == 0) = false := by rw [beq_eq_false_iff_ne]; have := hp.1; omega
  obtain ⟨cp, hcp⟩ : ∃ cp, s.C p = cp := ⟨_, rfl⟩
  have hc0 : ¬ cp < 0 := by have := hp.2.2; omega
  rw [hcp] at hc
  have p2 := hp.2.1
  have big := m.big
  clear m hp hcp
  go_enter Tryz.func101, Tryz.ntmps101
  go_wp2_with fail
  go_end0
  exact ⟨rfl, M.out.putB p p2 b (by omega) b2, (Kp.self W _).setCell ⟨g, p * 2, none⟩ _ (show g = g from rfl)⟩
end Go.Proofs.YtaejkbjepbifcabGreatDoor.Da
