-- Written by a program of ours out of the kit's print program.
import Derived.Test.YtckdpckdabfkbabPAx0
import Derived.Test.YtckdpckdabfkbabPAx2
namespace Go.Proofs.Ytckdpckdabfkbab.PA
open Go.RowKit Go.Proofs.YtckdpckdabfkbabW.PrintWords Go.Proofs.YtckdpckdabfkbabW.PrintLast Go.Proofs.YtckdpckdabfkbabW.PrintMore
attribute [local go_sem] max2_int min2_int max_two min_two max_three min_three max_four min_four   -- for this text's walks alone
set_option linter.unusedVariables false
set_option linter.unusedSimpArgs false

/-! ### dict_zzLines: function 15 -/
/-- A line without a return at its end. -/
def dict_zzLines.trim (s : ByteArray) : ByteArray := if 0 < s.size ∧ bt s ((s.size : Int) - 1) = 13 then s.extract 0 (s.size - 1) else s
def dict_zzLines.l0 : Nat → ByteArray → List ByteArray → Option (List ByteArray)
  | 0, _, _ => none
  | k + 1, x0, x3 => if x0.size = 0 then some x3 else (dict_zzIndex.f k x0 (⟨#[10]⟩ : ByteArray)).bind fun t => if t < 0 then (if x3.length < 8796093022208 then dict_zzLines.l0 k ⟨#[]⟩ (x3 ++ [dict_zzLines.trim x0]) else none) else if t < (x0.size : Int) then (if x3.length < 8796093022208 then dict_zzLines.l0 k (x0.extract (t + 1).toNat x0.size) (x3 ++ [dict_zzLines.trim (x0.extract 0 t.toNat)]) else none) else none
def dict_zzLines.f (k : Nat) (a0 : ByteArray) : Option (List ByteArray) := if a0.size ≤ 140737488355328 then dict_zzLines.l0 k a0 [] else none
theorem dict_zzLines.mono_l : ∀ k, (∀ y0 y1, LeO (dict_zzLines.l0 k y0 y1) (dict_zzLines.l0 (k + 1) y0 y1))
  | 0 => fun _ _ r h => by simp [dict_zzLines.l0] at h
  | k + 1 => by
    have ih0 := dict_zzLines.mono_l k
    intro y0 y1
    unfold dict_zzLines.l0
    repeat' first
      | (with_reducible exact ih0 _ _)
      | (with_reducible exact dict_zzIndex.mono _ _ _)
      | (with_reducible exact LeO.refl _)
      | (with_reducible exact LeO.none _)
      | (with_reducible refine LeO.ite ?_ ?_)
      | (with_reducible refine LeO.bind ?_ (fun _ => ?_))
theorem dict_zzLines.mono : ∀ a0 k, LeO (dict_zzLines.f k a0) (dict_zzLines.f (k + 1) a0) := by
  intro a0 k
  unfold dict_zzLines.f
  exact LeO.ite (dict_zzLines.mono_l k _ _) (LeO.none _)
theorem dict_zzLines.ext_size (s : ByteArray) (a b : Nat) (h : b ≤ s.size) : (s.extract a b).size = b - a := by
  rw [ByteArray.size_extract]; omega
theorem dict_zzLines.last (s : ByteArray) (h : s.size - 1 < s.size) : bt s ((s.size : Int) - 1) = ((s[s.size - 1]'h).toNat : Int) := by
  have := bt_at s ((s.size : Int) - 1) (by omega)
  rw [← this]
  have e : ((s.size : Int) - 1).toNat = s.size - 1 := by omega
  simp only [e]
set_option maxHeartbeats 8000000 in
set_option maxRecDepth 100000 in
theorem dict_zzLines.calls (k : Nat) (a0 : ByteArray) (r : List ByteArray) (w : World) (h : dict_zzLines.f k a0 = some r) :
    Calls Try.prog 15 #[.string a0] w fun e w' => ∃ v0_ : Value, e = .returned (v0_) ∧ Kd.R Kd.string 9 w' w.heap.size (fun _ => True) v0_ r ∧ Below w.heap.size w w' := by
  have HB := Aside0.mk (Below.refl w.heap.size w)
  have hsz : a0.size ≤ 140737488355328 := by
    unfold dict_zzLines.f at h
    by_cases hc : a0.size ≤ 140737488355328
    · exact hc
    · rw [if_neg hc] at h; cases h
  have H' : Aside0 (dict_zzLines.l0 k a0 [] = some r) := ⟨by unfold dict_zzLines.f at h; rw [if_pos hsz] at h; exact h⟩
  have HSZ := Aside0.mk hsz
  clear h hsz
  go_enter Try.func15, Try.ntmps15
  go_wp2_with fail
  go_loopg [0, 3] k (fun kq v0 v3 w' => ∃ (x0_1 : ByteArray) (x3_1 : List ByteArray), v0 = .string x0_1 ∧ Aside0 (x0_1.size ≤ 140737488355328) ∧ Aside0 (dict_zzLines.l0 kq x0_1 x3_1 = some r) ∧ Aside0 (kq ≤ k) ∧ Aside0 (Kd.R Kd.string 9 w' w.heap.size (fun _ => True) v3 x3_1) ∧ Aside0 (Below w.heap.size w w'))
  case atStart => exact ⟨a0, [], rfl, HSZ, H', ⟨Nat.le_refl _⟩, ⟨Kd.R_nil _ _ _ _ _⟩, HB⟩
  case round =>
    clear H' HSZ
    obtain ⟨x0_1, x3_1, rfl, HSZ, HA, HK1, HO_3, HB⟩ := hrel
    cases gk with
    | zero => exact absurd HA.out (by simp [dict_zzLines.l0])
    | succ k1 =>
      have H := HA.out
      clear HA
      simp only [dict_zzLines.l0] at H
      by_cases c0 : x0_1.size = 0
      · rw [if_pos c0] at H
        obtain rfl := Option.some.inj H
        have c0b : decide (0 < (x0_1.size : Int)) = false := decide_eq_false (by omega)
        have c0c : decide (0 < x0_1.size) = false := decide_eq_false (by omega)
        clear c0 H
        go_wp2
        go_ret
        exact ⟨_, rfl, HO_3.out, HB.out⟩
      · rw [if_neg c0] at H
        have c0b : decide (0 < (x0_1.size : Int)) = true := decide_eq_true (by omega)
        have c0c : decide (0 < x0_1.size) = true := decide_eq_true (by omega)
        have C0 := Aside0.mk c0
        clear c0
        obtain ⟨t, AI, H⟩ := Option.bind_eq_some_iff.mp H
        have AI := Aside0.mk AI
        by_cases ct : t < 0
        · rw [if_pos ct] at H
          have ctb : decide (0 ≤ t) = false := decide_eq_false (by omega)
          by_cases cl : x3_1.length < 8796093022208
          · rw [if_pos cl] at H
            have HNX := Aside0.mk H
            have CL := Aside0.mk cl
            have CT := Aside0.mk ct
            clear H cl ct
            go_upto_region 8 with (go_at_call 19; refine (dict_zzIndex.calls k1 x0_1 ⟨#[10]⟩ t _ AI.out).mono ?_; rintro e wi ⟨rfl, hd⟩; obtain ⟨ni, rfl⟩ := hd)
            have HLS := HSZ
            have HNS : Aside0 ((⟨#[]⟩ : ByteArray).size ≤ 140737488355328) := ⟨by decide⟩
            clear c0b c0c AI
            by_cases cz : x0_1.size = 0
            · have HT : Aside0 (dict_zzLines.trim x0_1 = x0_1) := ⟨by unfold dict_zzLines.trim; rw [if_neg (by omega)]⟩
              have czb : decide (0 < (x0_1.size : Int)) = false := decide_eq_false (by omega)
              have czc : decide (0 < x0_1.size) = false := decide_eq_false (by omega)
              clear cz
              go_wp2_with (first | ((with_reducible refine gate_builtin (b := .append) (xs := #[.tmp 37, .tmp 39]) rfl ?_); at_builtin; refine Kd.R_append Kd.string (w0 := w) w.heap.size rfl (.tmp 37) (.tmp 39) 22 9 (.string ⟨#[]⟩) 16 rfl Try.underlying22 info9 rfl (by decide) (by omega) u3 x3_1 (x0_1) [.string (x0_1)] (fun _ => True) (fun _ => False) rfl rfl ?aP (fun _ hk => hk.elim) ?aF ?aO ?aB ?aS ?aL ?_; (case aP => exact rfl); (case aB => exact (by repeat (first | (with_reducible first | exact HB.out | apply below_alloc | apply pw_below_drewN | apply below_drew1) | exact HB.out))); (case aF => exact (fun _ _ => trivial)); (case aO => exact (by (with_reducible repeat (first | apply Kd.R_alloc | apply Kd.R_drewN | apply Kd.R_drew)); exact HO_3.out)); (case aS => exact (below_size (by repeat (first | (with_reducible first | exact HB.out | apply below_alloc | apply pw_below_drewN | apply below_drew1) | exact HB.out)))); (case aL => have := CL.out; omega); intro v110 w11 ho hb hg hat; have n0_ := Aside0.mk hb; have n1_ := Aside0.mk ho; clear HB; clear HO_3; have HB := n0_; have HO_3 := n1_; clear n0_ n1_; clear ho hb hg hat))
              go_roundg k1
              case measure => have := HK1.out; omega
              case rel => exact ⟨⟨#[]⟩, x3_1 ++ [x0_1], rfl, HNS, ⟨by rw [HT.out] at HNX; exact HNX.out⟩, ⟨by have := HK1.out; omega⟩, HO_3, HB⟩
            · have czb : decide (0 < (x0_1.size : Int)) = true := decide_eq_true (by omega)
              have czc : decide (0 < x0_1.size) = true := decide_eq_true (by omega)
              have hp : 0 ≤ (x0_1.size : Int) - 1 := by omega
              have hq := HLS.out
              by_cases cr : bt x0_1 ((x0_1.size : Int) - 1) = 13
              · have HT : Aside0 (dict_zzLines.trim x0_1 = x0_1.extract 0 (x0_1.size - 1)) := ⟨by unfold dict_zzLines.trim; rw [if_pos ⟨by omega, cr⟩]⟩
                have crb : ∀ h : x0_1.size - 1 < x0_1.size, ((((x0_1[x0_1.size - 1]'h).toNat : Nat) : Int) == 13) = true := fun h => by rw [← dict_zzLines.last x0_1 h]; exact beq_iff_eq.2 cr
                have CZ := Aside0.mk cz
                clear cr cz
                go_wp2_with (first | ((with_reducible refine gate_builtin (b := .append) (xs := #[.tmp 37, .tmp 39]) rfl ?_); at_builtin; refine Kd.R_append Kd.string (w0 := w) w.heap.size rfl (.tmp 37) (.tmp 39) 22 9 (.string ⟨#[]⟩) 16 rfl Try.underlying22 info9 rfl (by decide) (by omega) u3 x3_1 (x0_1.extract 0 (x0_1.size - 1)) [.string (x0_1.extract 0 (x0_1.size - 1))] (fun _ => True) (fun _ => False) rfl rfl ?aP (fun _ hk => hk.elim) ?aF ?aO ?aB ?aS ?aL ?_; (case aP => exact rfl); (case aB => exact (by repeat (first | (with_reducible first | exact HB.out | apply below_alloc | apply pw_below_drewN | apply below_drew1) | exact HB.out))); (case aF => exact (fun _ _ => trivial)); (case aO => exact (by (with_reducible repeat (first | apply Kd.R_alloc | apply Kd.R_drewN | apply Kd.R_drew)); exact HO_3.out)); (case aS => exact (below_size (by repeat (first | (with_reducible first | exact HB.out | apply below_alloc | apply pw_below_drewN | apply below_drew1) | exact HB.out)))); (case aL => have := CL.out; omega); intro v110 w11 ho hb hg hat; have n0_ := Aside0.mk hb; have n1_ := Aside0.mk ho; clear HB; clear HO_3; have HB := n0_; have HO_3 := n1_; clear n0_ n1_; clear ho hb hg hat))
                go_roundg k1
                case measure => have := HK1.out; omega
                case rel => exact ⟨⟨#[]⟩, x3_1 ++ [x0_1.extract 0 (x0_1.size - 1)], rfl, HNS, ⟨by rw [HT.out] at HNX; exact HNX.out⟩, ⟨by have := HK1.out; omega⟩, HO_3, HB⟩
              · have HT : Aside0 (dict_zzLines.trim x0_1 = x0_1) := ⟨by unfold dict_zzLines.trim; rw [if_neg (by intro h; exact cr h.2)]⟩
                have crb : ∀ h : x0_1.size - 1 < x0_1.size, ((((x0_1[x0_1.size - 1]'h).toNat : Nat) : Int) == 13) = false := fun h => by rw [← dict_zzLines.last x0_1 h]; exact beq_eq_false_iff_ne.2 cr
                have CZ := Aside0.mk cz
                clear cr cz
                go_wp2_with (first | ((with_reducible refine gate_builtin (b := .append) (xs := #[.tmp 37, .tmp 39]) rfl ?_); at_builtin; refine Kd.R_append Kd.string (w0 := w) w.heap.size rfl (.tmp 37) (.tmp 39) 22 9 (.string ⟨#[]⟩) 16 rfl Try.underlying22 info9 rfl (by decide) (by omega) u3 x3_1 (x0_1) [.string (x0_1)] (fun _ => True) (fun _ => False) rfl rfl ?aP (fun _ hk => hk.elim) ?aF ?aO ?aB ?aS ?aL ?_; (case aP => exact rfl); (case aB => exact (by repeat (first | (with_reducible first | exact HB.out | apply below_alloc | apply pw_below_drewN | apply below_drew1) | exact HB.out))); (case aF => exact (fun _ _ => trivial)); (case aO => exact (by (with_reducible repeat (first | apply Kd.R_alloc | apply Kd.R_drewN | apply Kd.R_drew)); exact HO_3.out)); (case aS => exact (below_size (by repeat (first | (with_reducible first | exact HB.out | apply below_alloc | apply pw_below_drewN | apply below_drew1) | exact HB.out)))); (case aL => have := CL.out; omega); intro v110 w11 ho hb hg hat; have n0_ := Aside0.mk hb; have n1_ := Aside0.mk ho; clear HB; clear HO_3; have HB := n0_; have HO_3 := n1_; clear n0_ n1_; clear ho hb hg hat))
                go_roundg k1
                case measure => have := HK1.out; omega
                case rel => exact ⟨⟨#[]⟩, x3_1 ++ [x0_1], rfl, HNS, ⟨by rw [HT.out] at HNX; exact HNX.out⟩, ⟨by have := HK1.out; omega⟩, HO_3, HB⟩
          · rw [if_neg cl] at H
            cases H
        · rw [if_neg ct] at H
          by_cases cs : t < (x0_1.size : Int)
          · rw [if_pos cs] at H
            by_cases cl : x3_1.length < 8796093022208
            · rw [if_pos cl] at H
              have ctb : decide (0 ≤ t) = true := decide_eq_true (by omega)
              have ct0 : 0 ≤ t := by omega
              have ct1 : t + 1 ≤ (x0_1.size : Int) := by omega
              have ct2 : (x0_1.size : Int) ≤ 140737488355328 := by have := HSZ.out; omega
              have HNX := Aside0.mk H
              have CL := Aside0.mk cl
              clear H cl ct
              go_upto_region 6 with (go_at_call 19; refine (dict_zzIndex.calls k1 x0_1 ⟨#[10]⟩ t _ AI.out).mono ?_; rintro e wi ⟨rfl, hd⟩; obtain ⟨ni, rfl⟩ := hd)
              go_quiet (fail)
              have HLS : Aside0 ((x0_1.extract 0 t.toNat).size ≤ 140737488355328) := ⟨by rw [dict_zzLines.ext_size _ _ _ (by omega)]; omega⟩
              have HNS : Aside0 ((x0_1.extract (t + 1).toNat x0_1.size).size ≤ 140737488355328) := ⟨by rw [dict_zzLines.ext_size _ _ _ (by omega)]; omega⟩
              clear c0b c0c C0 AI ct0 ct1 ct2 ctb HSZ cs
              generalize x0_1.extract 0 t.toNat = L at *
              generalize x0_1.extract (t + 1).toNat x0_1.size = X at *
              by_cases cz : L.size = 0
              · have HT : Aside0 (dict_zzLines.trim L = L) := ⟨by unfold dict_zzLines.trim; rw [if_neg (by omega)]⟩
                have czb : decide (0 < (L.size : Int)) = false := decide_eq_false (by omega)
                have czc : decide (0 < L.size) = false := decide_eq_false (by omega)
                clear cz
                go_wp2_with (first | ((with_reducible refine gate_builtin (b := .append) (xs := #[.tmp 37, .tmp 39]) rfl ?_); at_builtin; refine Kd.R_append Kd.string (w0 := w) w.heap.size rfl (.tmp 37) (.tmp 39) 22 9 (.string ⟨#[]⟩) 16 rfl Try.underlying22 info9 rfl (by decide) (by omega) u3 x3_1 (L) [.string (L)] (fun _ => True) (fun _ => False) rfl rfl ?aP (fun _ hk => hk.elim) ?aF ?aO ?aB ?aS ?aL ?_; (case aP => exact rfl); (case aB => exact (by repeat (first | (with_reducible first | exact HB.out | apply below_alloc | apply pw_below_drewN | apply below_drew1) | exact HB.out))); (case aF => exact (fun _ _ => trivial)); (case aO => exact (by (with_reducible repeat (first | apply Kd.R_alloc | apply Kd.R_drewN | apply Kd.R_drew)); exact HO_3.out)); (case aS => exact (below_size (by repeat (first | (with_reducible first | exact HB.out | apply below_alloc | apply pw_below_drewN | apply below_drew1) | exact HB.out)))); (case aL => have := CL.out; omega); intro v110 w11 ho hb hg hat; have n0_ := Aside0.mk hb; have n1_ := Aside0.mk ho; clear HB; clear HO_3; have HB := n0_; have HO_3 := n1_; clear n0_ n1_; clear ho hb hg hat))
                go_roundg k1
                case measure => have := HK1.out; omega
                case rel => exact ⟨X, x3_1 ++ [L], rfl, HNS, ⟨by rw [HT.out] at HNX; exact HNX.out⟩, ⟨by have := HK1.out; omega⟩, HO_3, HB⟩
              · have czb : decide (0 < (L.size : Int)) = true := decide_eq_true (by omega)
                have czc : decide (0 < L.size) = true := decide_eq_true (by omega)
                have hp : 0 ≤ (L.size : Int) - 1 := by omega
                have hq := HLS.out
                by_cases cr : bt L ((L.size : Int) - 1) = 13
                · have HT : Aside0 (dict_zzLines.trim L = L.extract 0 (L.size - 1)) := ⟨by unfold dict_zzLines.trim; rw [if_pos ⟨by omega, cr⟩]⟩
                  have crb : ∀ h : L.size - 1 < L.size, ((((L[L.size - 1]'h).toNat : Nat) : Int) == 13) = true := fun h => by rw [← dict_zzLines.last L h]; exact beq_iff_eq.2 cr
                  have CZ := Aside0.mk cz
                  clear cr cz
                  go_wp2_with (first | ((with_reducible refine gate_builtin (b := .append) (xs := #[.tmp 37, .tmp 39]) rfl ?_); at_builtin; refine Kd.R_append Kd.string (w0 := w) w.heap.size rfl (.tmp 37) (.tmp 39) 22 9 (.string ⟨#[]⟩) 16 rfl Try.underlying22 info9 rfl (by decide) (by omega) u3 x3_1 (L.extract 0 (L.size - 1)) [.string (L.extract 0 (L.size - 1))] (fun _ => True) (fun _ => False) rfl rfl ?aP (fun _ hk => hk.elim) ?aF ?aO ?aB ?aS ?aL ?_; (case aP => exact rfl); (case aB => exact (by repeat (first | (with_reducible first | exact HB.out | apply below_alloc | apply pw_below_drewN | apply below_drew1) | exact HB.out))); (case aF => exact (fun _ _ => trivial)); (case aO => exact (by (with_reducible repeat (first | apply Kd.R_alloc | apply Kd.R_drewN | apply Kd.R_drew)); exact HO_3.out)); (case aS => exact (below_size (by repeat (first | (with_reducible first | exact HB.out | apply below_alloc | apply pw_below_drewN | apply below_drew1) | exact HB.out)))); (case aL => have := CL.out; omega); intro v110 w11 ho hb hg hat; have n0_ := Aside0.mk hb; have n1_ := Aside0.mk ho; clear HB; clear HO_3; have HB := n0_; have HO_3 := n1_; clear n0_ n1_; clear ho hb hg hat))
                  go_roundg k1
                  case measure => have := HK1.out; omega
                  case rel => exact ⟨X, x3_1 ++ [L.extract 0 (L.size - 1)], rfl, HNS, ⟨by rw [HT.out] at HNX; exact HNX.out⟩, ⟨by have := HK1.out; omega⟩, HO_3, HB⟩
                · have HT : Aside0 (dict_zzLines.trim L = L) := ⟨by unfold dict_zzLines.trim; rw [if_neg (by intro h; exact cr h.2)]⟩
                  have crb : ∀ h : L.size - 1 < L.size, ((((L[L.size - 1]'h).toNat : Nat) : Int) == 13) = false := fun h => by rw [← dict_zzLines.last L h]; exact beq_eq_false_iff_ne.2 cr
                  have CZ := Aside0.mk cz
                  clear cr cz
                  go_wp2_with (first | ((with_reducible refine gate_builtin (b := .append) (xs := #[.tmp 37, .tmp 39]) rfl ?_); at_builtin; refine Kd.R_append Kd.string (w0 := w) w.heap.size rfl (.tmp 37) (.tmp 39) 22 9 (.string ⟨#[]⟩) 16 rfl Try.underlying22 info9 rfl (by decide) (by omega) u3 x3_1 (L) [.string (L)] (fun _ => True) (fun _ => False) rfl rfl ?aP (fun _ hk => hk.elim) ?aF ?aO ?aB ?aS ?aL ?_; (case aP => exact rfl); (case aB => exact (by repeat (first | (with_reducible first | exact HB.out | apply below_alloc | apply pw_below_drewN | apply below_drew1) | exact HB.out))); (case aF => exact (fun _ _ => trivial)); (case aO => exact (by (with_reducible repeat (first | apply Kd.R_alloc | apply Kd.R_drewN | apply Kd.R_drew)); exact HO_3.out)); (case aS => exact (below_size (by repeat (first | (with_reducible first | exact HB.out | apply below_alloc | apply pw_below_drewN | apply below_drew1) | exact HB.out)))); (case aL => have := CL.out; omega); intro v110 w11 ho hb hg hat; have n0_ := Aside0.mk hb; have n1_ := Aside0.mk ho; clear HB; clear HO_3; have HB := n0_; have HO_3 := n1_; clear n0_ n1_; clear ho hb hg hat))
                  go_roundg k1
                  case measure => have := HK1.out; omega
                  case rel => exact ⟨X, x3_1 ++ [L], rfl, HNS, ⟨by rw [HT.out] at HNX; exact HNX.out⟩, ⟨by have := HK1.out; omega⟩, HO_3, HB⟩
            · rw [if_neg cl] at H
              cases H
          · rw [if_neg cs] at H
            cases H

/-! ### dict_zzHasPrefix: function 16 -/
def dict_zzHasPrefix.f (a0 : ByteArray) (a1 : ByteArray) : Option (Bool) := if (a0.size : Int) ≥ (a1.size : Int) then (if 0 ≤ (a1.size : Int) then (if (a1.size : Int) ≤ (a0.size : Int) then (some ((a0.extract 0 ((a1.size : Int) : Int).toNat).toList == a1.toList)) else (none)) else (none)) else (some false)
set_option maxHeartbeats 8000000 in
set_option maxRecDepth 100000 in
theorem dict_zzHasPrefix.calls (a0 : ByteArray) (a1 : ByteArray) (r : Bool) (w : World) (h : dict_zzHasPrefix.f a0 a1 = some r) :
    Calls Try.prog 16 #[.string a0, .string a1] w fun e w' => e = .returned (.bool r) ∧ Drawn0 w w' := by
  have H : (if (a0.size : Int) ≥ (a1.size : Int) then (if 0 ≤ (a1.size : Int) then (if (a1.size : Int) ≤ (a0.size : Int) then (some ((a0.extract 0 ((a1.size : Int) : Int).toNat).toList == a1.toList)) else (none)) else (none)) else (some false)) = some r := h
  clear h
  by_cases c3 : (a0.size : Int) ≥ (a1.size : Int)
  · rw [if_pos c3] at H
    have c3b0 : decide ((a1.size : Int) ≤ (a0.size : Int)) = true := decide_eq_true c3
    have c3b1 : decide (a1.size ≤ a0.size) = true := decide_eq_true (Int.ofNat_le.mp c3)
    clear c3
    by_cases c4 : 0 ≤ (a1.size : Int)
    · rw [if_pos c4] at H
      have c4b0 := eq_true c4
      have c4b1 : decide (0 ≤ (a1.size : Int)) = true := decide_eq_true c4
      clear c4
      by_cases c5 : (a1.size : Int) ≤ (a0.size : Int)
      · rw [if_pos c5] at H
        have c5b0 := eq_true c5
        have c5b1 : decide ((a1.size : Int) ≤ (a0.size : Int)) = true := decide_eq_true c5
        clear c5
        obtain rfl := Option.some.inj H
        go_enter Try.func16, Try.ntmps16
        go_wp2
        go_ret
        exact ⟨by first | rfl | (simp; done) | (simp [*]; done) | (simp [Own.isEmpty_bne]; done), by repeat (first | exact Drawn0.refl _ | apply Drawn0.step)⟩
      · rw [if_neg c5] at H
        exact absurd H (by simp)
    · rw [if_neg c4] at H
      exact absurd H (by simp)
  · rw [if_neg c3] at H
    have c3b0 : decide ((a1.size : Int) ≤ (a0.size : Int)) = false := decide_eq_false c3
    have c3b1 : decide (a1.size ≤ a0.size) = false := decide_eq_false (fun h => c3 (Int.ofNat_le.mpr h))
    clear c3
    obtain rfl := Option.some.inj H
    go_enter Try.func16, Try.ntmps16
    go_wp2
    go_ret
    exact ⟨by first | rfl | (simp; done) | (simp [*]; done) | (simp [Own.isEmpty_bne]; done), by repeat (first | exact Drawn0.refl _ | apply Drawn0.step)⟩

/-! ### dict_zzSplit: function 17 -/
def dict_zzSplit.l1 : Nat → ByteArray → ByteArray → List ByteArray → Option (List ByteArray)
  | 0, _, _, _ => none
  | k + 1, x0, x1, x5 => (dict_zzIndex.f k x0 x1).bind fun t129 => (if t129 < 0 then (if x5.length < 8796093022208 then (some (x5 ++ [x0])) else (none)) else (if 0 ≤ t129 then (if t129 ≤ (x0.size : Int) then (if x5.length < 8796093022208 then (if 0 ≤ (wrap64 (t129 + (x1.size : Int))) then (if (wrap64 (t129 + (x1.size : Int))) ≤ (x0.size : Int) then (dict_zzSplit.l1 k (x0.extract ((wrap64 (t129 + (x1.size : Int))) : Int).toNat x0.size) x1 (x5 ++ [x0.extract 0 (t129 : Int).toNat])) else (none)) else (none)) else (none)) else (none)) else (none)))
def dict_zzSplit.f (k : Nat) (a0 : ByteArray) (a1 : ByteArray) : Option (List ByteArray) := if (a1.size : Int) = 0 then (none) else (dict_zzSplit.l1 k a0 a1 ([] : List ByteArray))
theorem dict_zzSplit.mono_l : ∀ k, (∀ y0 y1 y2, LeO (dict_zzSplit.l1 k y0 y1 y2) (dict_zzSplit.l1 (k + 1) y0 y1 y2))
  | 0 => fun _ _ _ r h => by simp [dict_zzSplit.l1] at h
  | k + 1 => by
    have ih0 := dict_zzSplit.mono_l k
    · intro y0 y1 y2
      unfold dict_zzSplit.l1
      repeat' first
      | (with_reducible exact ih0 _ _ _)
      | (with_reducible exact dict_zzIndex.mono _ _ _)
      | (with_reducible exact LeO.refl _)
      | (with_reducible exact LeO.none _)
      | (with_reducible refine LeO.ite ?_ ?_)
      | (with_reducible refine LeO.bind ?_ (fun _ => ?_))
      | exact ih0 _ _ _
      | exact dict_zzIndex.mono _ _ _
      | exact LeO.none _
      | refine LeO.ite ?_ ?_
      | refine LeO.bind ?_ (fun _ => ?_)
theorem dict_zzSplit.mono : ∀ a0 a1 k, LeO (dict_zzSplit.f k a0 a1) (dict_zzSplit.f (k + 1) a0 a1) := by
  intro a0 a1 k
  have ih0 := dict_zzSplit.mono_l k
  unfold dict_zzSplit.f
  repeat' first
      | (with_reducible exact ih0 _ _ _)
      | (with_reducible exact dict_zzIndex.mono _ _ _)
      | (with_reducible exact LeO.refl _)
      | (with_reducible exact LeO.none _)
      | (with_reducible refine LeO.ite ?_ ?_)
      | (with_reducible refine LeO.bind ?_ (fun _ => ?_))
      | exact ih0 _ _ _
      | exact dict_zzIndex.mono _ _ _
      | exact LeO.none _
      | refine LeO.ite ?_ ?_
      | refine LeO.bind ?_ (fun _ => ?_)
set_option maxHeartbeats 8000000 in
set_option maxRecDepth 100000 in
theorem dict_zzSplit.calls (k : Nat) (a0 : ByteArray) (a1 : ByteArray) (r : List ByteArray) (w : World) (h : dict_zzSplit.f k a0 a1 = some r) :
    Calls Try.prog 17 #[.string a0, .string a1] w fun e w' => ∃ v0_ : Value, e = .returned (v0_) ∧ Kd.R Kd.string 9 w' w.heap.size (fun _ => True) v0_ r ∧ Below w.heap.size w w' := by
  have HB := Aside0.mk (Below.refl w.heap.size w)
  have H : (if (a1.size : Int) = 0 then (none) else (dict_zzSplit.l1 k a0 a1 ([] : List ByteArray))) = some r := h
  clear h
  by_cases c3 : (a1.size : Int) = 0
  · rw [if_pos c3] at H
    exact absurd H (by simp)
  · rw [if_neg c3] at H
    have c3b0 : ((a1.size : Int) == 0) = false := beq_eq_false_iff_ne.mpr c3
    have c3b1 : ((a1.size : Int) != 0) = true := bne_iff_ne.mpr c3
    have H' := Aside0.mk H
    clear H
    go_enter Try.func17, Try.ntmps17
    go_wp2
    go_loopg [0, 5] k (fun kq v0 v5 w' => ∃ (x0_1 : ByteArray) (x5_1 : List ByteArray), v0 = .string x0_1 ∧ Aside0 (dict_zzSplit.l1 kq x0_1 a1 x5_1 = some r) ∧ Aside0 (kq ≤ k) ∧ Aside0 (Kd.R Kd.string 9 w' w.heap.size (fun _ => True) v5 x5_1) ∧ Aside0 (Below w.heap.size w w'))
    case atStart => exact ⟨(a0), (([] : List ByteArray)), (by first | rfl | (simp; done) | (simp [*]; done)), H', ⟨Nat.le_refl _⟩, ⟨by first | exact Kd.R_nil _ _ _ _ _ | exact Kd.N_nil _ _ _ _ _ | exact Kd.V_nil _ _ _ _ _ | exact Kd.Q_nil _ _ _ _ _ | exact Kd.S_nil _ _ _ _ _⟩, ⟨by repeat (first | (with_reducible first | exact HB.out | apply below_alloc | apply pw_below_drewN | apply below_drew1) | exact HB.out)⟩⟩
    case round =>
      clear H'
      try clear c1
      try clear p2
      try clear c3
      try clear c3b0
      try clear c3b1
      obtain ⟨x0_1, x5_1, rfl, HA, HK1, HO_5, HB⟩ := hrel
      cases gk with
      | zero => exact absurd HA.out (by simp [dict_zzSplit.l1])
      | succ k1 =>
        have H := HA.out
        clear HA
        simp only [dict_zzSplit.l1] at H
        replace H := Option.bind_eq_some_iff.mp H
        obtain ⟨t129, A40, H⟩ := H
        replace H : (if t129 < 0 then (if x5_1.length < 8796093022208 then (some (x5_1 ++ [x0_1])) else (none)) else (if 0 ≤ t129 then (if t129 ≤ (x0_1.size : Int) then (if x5_1.length < 8796093022208 then (if 0 ≤ (wrap64 (t129 + (a1.size : Int))) then (if (wrap64 (t129 + (a1.size : Int))) ≤ (x0_1.size : Int) then (dict_zzSplit.l1 k1 (x0_1.extract ((wrap64 (t129 + (a1.size : Int))) : Int).toNat x0_1.size) a1 (x5_1 ++ [x0_1.extract 0 (t129 : Int).toNat])) else (none)) else (none)) else (none)) else (none)) else (none))) = some r := H
        have A4 := Aside0.mk A40
        clear A40
        by_cases c5 : t129 < 0
        · rw [if_pos c5] at H
          have c5b0 : decide (t129 < 0) = true := decide_eq_true c5
          clear c5
          by_cases c6 : x5_1.length < 8796093022208
          · rw [if_pos c6] at H
            have LMc6 := Aside0.mk c6
            clear c6
            obtain ⟨y130, hy130⟩ : ∃ y_ : List ByteArray, y_ = (x5_1 ++ [x0_1]) := ⟨_, rfl⟩
            replace H : (some y130) = some r := by first | (rw [hy130]; with_reducible exact H) | (have H2_ := (Option.bind_some _ _).symm.trans H; rw [hy130]; with_reducible exact H2_) | (have H2_ := (Option.bind_some _ _).symm.trans H; with_reducible exact H2_) | with_reducible exact H | (rw [hy130]; exact H) | exact H
            have Ny130 := Aside0.mk hy130
            clear hy130
            obtain rfl := Option.some.inj H
            go_wp2_with (first | ((with_reducible refine gate_callee (f := 19) rfl ?_); refine goesL_ (some 39) rfl rfl Try.func19 (by kernel_rfl) rfl #[.string x0_1, .string a1] rfl (by (try simp only [List.map_toArray, List.map_cons, List.map_nil]); first | done | rfl | (simp only [List.length_drop, List.length_take]; rfl)) ?_; (with_reducible refine (dict_zzIndex.calls k1 x0_1 a1 t129 _ A4.out).mono ?_); rintro e w' ⟨rfl, ⟨nd, rfl⟩⟩; refine ⟨_, rfl, ?_⟩) | ((with_reducible refine gate_builtin (b := .append) (xs := #[.tmp 42, .tmp 44]) rfl ?_); at_builtin; refine Kd.R_append Kd.string (w0 := w) w.heap.size rfl (.tmp 42) (.tmp 44) 22 9 (.string ⟨#[]⟩) 16 rfl Try.underlying22 info9 rfl (by decide) (by omega) u5 x5_1 x0_1 [.string x0_1] (fun _ => True) (fun _ => False) rfl rfl ?aP (fun _ hk => hk.elim) ?aF ?aO ?aB ?aS ?aL ?_; (case aP => exact rfl); (case aB => exact (by repeat (first | (with_reducible first | exact HB.out | apply below_alloc | apply pw_below_drewN | apply below_drew1) | exact HB.out))); (case aF => exact (fun _ _ => trivial)); (case aO => exact (by (with_reducible repeat (first | apply Kd.R_alloc | apply Kd.R_drewN | apply Kd.R_drew)); exact HO_5.out)); (case aS => exact (below_size (by repeat (first | (with_reducible first | exact HB.out | apply below_alloc | apply pw_below_drewN | apply below_drew1) | exact HB.out)))); (case aL => have := LMc6.out; omega); intro v131 w7 ho hb hg hat; rw [← Ny130.out] at ho; have n0_ := Aside0.mk (hb); have n1_ := Aside0.mk (ho); clear HB; clear HO_5; have HB := n0_; have HO132 := n1_; clear n0_ n1_; clear ho hb hg hat))
            go_ret
            exact ⟨_, by first | rfl | (simp [errW_none, errW_some] <;> rfl) | (simp [*, errW_none, errW_some] <;> rfl), by (with_reducible repeat (first | apply Kd.R_alloc | apply Kd.R_drewN | apply Kd.R_drew)); exact HO132.out, by repeat (first | (with_reducible first | exact HB.out | apply below_alloc | apply pw_below_drewN | apply below_drew1) | exact HB.out)⟩
          · rw [if_neg c6] at H
            exact absurd H (by simp)
        · rw [if_neg c5] at H
          have c5b0 : decide (t129 < 0) = false := decide_eq_false c5
          clear c5
          by_cases c8 : 0 ≤ t129
          · rw [if_pos c8] at H
            have c8b0 := eq_true c8
            have c8b1 : decide (0 ≤ t129) = true := decide_eq_true c8
            clear c8
            by_cases c9 : t129 ≤ (x0_1.size : Int)
            · rw [if_pos c9] at H
              have c9b0 := eq_true c9
              have c9b1 : decide (t129 ≤ (x0_1.size : Int)) = true := decide_eq_true c9
              clear c9
              by_cases c10 : x5_1.length < 8796093022208
              · rw [if_pos c10] at H
                have LMc10 := Aside0.mk c10
                clear c10
                obtain ⟨y133, hy133⟩ : ∃ y_ : List ByteArray, y_ = (x5_1 ++ [x0_1.extract 0 (t129 : Int).toNat]) := ⟨_, rfl⟩
                replace H : (if 0 ≤ (wrap64 (t129 + (a1.size : Int))) then (if (wrap64 (t129 + (a1.size : Int))) ≤ (x0_1.size : Int) then (dict_zzSplit.l1 k1 (x0_1.extract ((wrap64 (t129 + (a1.size : Int))) : Int).toNat x0_1.size) a1 y133) else (none)) else (none)) = some r := by first | (rw [hy133]; with_reducible exact H) | (have H2_ := (Option.bind_some _ _).symm.trans H; rw [hy133]; with_reducible exact H2_) | (have H2_ := (Option.bind_some _ _).symm.trans H; with_reducible exact H2_) | with_reducible exact H | (rw [hy133]; exact H) | exact H
                have Ny133 := Aside0.mk hy133
                clear hy133
                obtain ⟨ji11, hji11⟩ : ∃ j_ : Int, (wrap64 (t129 + (a1.size : Int))) = j_ := ⟨_, rfl⟩
                replace H : (if 0 ≤ (ji11) then (if (ji11) ≤ (x0_1.size : Int) then (dict_zzSplit.l1 k1 (x0_1.extract ((ji11) : Int).toNat x0_1.size) a1 y133) else (none)) else (none)) = some r := by first | (rw [hji11] at H; exact H) | (simp only [hji11] at H ⊢; exact H)
                (try rw [hji11] at A4)
                have hji11w : (IntKind.i64.wrap (t129 + (a1.size : Int))) = ji11 := (i64_w _).trans hji11
                by_cases c12 : 0 ≤ (ji11)
                · rw [if_pos c12] at H
                  have c12b0 := eq_true c12
                  have c12b1 : decide (0 ≤ (ji11)) = true := decide_eq_true c12
                  clear c12
                  by_cases c13 : (ji11) ≤ (x0_1.size : Int)
                  · rw [if_pos c13] at H
                    have c13b0 := eq_true c13
                    have c13b1 : decide ((ji11) ≤ (x0_1.size : Int)) = true := decide_eq_true c13
                    clear c13
                    have H' := Aside0.mk H
                    clear H
                    go_wp2_with (first | ((with_reducible refine gate_callee (f := 19) rfl ?_); refine goesL_ (some 39) rfl rfl Try.func19 (by kernel_rfl) rfl #[.string x0_1, .string a1] rfl (by (try simp only [List.map_toArray, List.map_cons, List.map_nil]); first | done | rfl | (simp only [List.length_drop, List.length_take]; rfl)) ?_; (with_reducible refine (dict_zzIndex.calls k1 x0_1 a1 t129 _ A4.out).mono ?_); rintro e w' ⟨rfl, ⟨nd, rfl⟩⟩; refine ⟨_, rfl, ?_⟩) | ((with_reducible refine gate_builtin (b := .append) (xs := #[.tmp 46, .tmp 50]) rfl ?_); at_builtin; refine Kd.R_append Kd.string (w0 := w) w.heap.size rfl (.tmp 46) (.tmp 50) 22 9 (.string ⟨#[]⟩) 16 rfl Try.underlying22 info9 rfl (by decide) (by omega) u5 x5_1 (x0_1.extract 0 (t129 : Int).toNat) [.string (x0_1.extract 0 (t129 : Int).toNat)] (fun _ => True) (fun _ => False) rfl rfl ?aP (fun _ hk => hk.elim) ?aF ?aO ?aB ?aS ?aL ?_; (case aP => exact rfl); (case aB => exact (by repeat (first | (with_reducible first | exact HB.out | apply below_alloc | apply pw_below_drewN | apply below_drew1) | exact HB.out))); (case aF => exact (fun _ _ => trivial)); (case aO => exact (by (with_reducible repeat (first | apply Kd.R_alloc | apply Kd.R_drewN | apply Kd.R_drew)); exact HO_5.out)); (case aS => exact (below_size (by repeat (first | (with_reducible first | exact HB.out | apply below_alloc | apply pw_below_drewN | apply below_drew1) | exact HB.out)))); (case aL => have := LMc10.out; omega); intro v134 w14 ho hb hg hat; rw [← Ny133.out] at ho; have n0_ := Aside0.mk (hb); have n1_ := Aside0.mk (ho); clear HB; clear HO_5; have HB := n0_; have HO135 := n1_; clear n0_ n1_; clear ho hb hg hat))
                    go_roundg k1
                    case measure => have := HK1.out; omega
                    case rel => exact ⟨(x0_1.extract ((ji11) : Int).toNat x0_1.size), (y133), (by first | rfl | (simp; done) | (simp only [← hji11] <;> (first | rfl | simp)) | (simp [*]; done)), H', ⟨by have := HK1.out; omega⟩, ⟨by (with_reducible repeat (first | apply Kd.R_alloc | apply Kd.R_drewN | apply Kd.R_drew)); exact HO135.out⟩, ⟨by repeat (first | (with_reducible first | exact HB.out | apply below_alloc | apply pw_below_drewN | apply below_drew1) | exact HB.out)⟩⟩
                  · rw [if_neg c13] at H
                    exact absurd H (by simp)
                · rw [if_neg c12] at H
                  exact absurd H (by simp)
              · rw [if_neg c10] at H
                exact absurd H (by simp)
            · rw [if_neg c9] at H
              exact absurd H (by simp)
          · rw [if_neg c8] at H
            exact absurd H (by simp)

-- NOT PRINTED: function 18 (errors_New)

end Go.Proofs.Ytckdpckdabfkbab.PA
