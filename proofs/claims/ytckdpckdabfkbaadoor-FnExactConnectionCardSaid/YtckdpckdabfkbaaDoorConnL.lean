/- costsOne: the law's own probe. -/
import Derived.Test.YtckdpckdabfkbaaDoorConnP
namespace Go.Proofs.YtckdpckdabfkbaaDoor.Num
open Go.RowKit Go.Proofs.YtckdpckdabfkbaaDoorW.PrintWords Go.Proofs.YtckdpckdabfkbaaDoor.Plain Go.Proofs.YtckdpckdabfkbaaDoor.PA
set_option linter.unusedVariables false
set_option linter.unusedSimpArgs false

theorem C_one (w : World) (m : Int) (e : TypeId) (fr : Nat × Nat) : (Kd.int .i64).C (w.alloc (.cells #[.int .i64 m] e fr)) (some ⟨w.heap.size, 0, none⟩) [m].length [m] := by
  refine ⟨rfl, by simp, fun _ => ⟨_, rfl, fun j p hj => ?_⟩⟩
  match j with
  | 0 =>
    simp only [List.getElem?_cons_zero, Option.some.injEq] at hj
    subst hj
    refine ⟨[.int .i64 m], rfl, rfl, fun i u hu => ?_⟩
    have e1 : (Kd.int .i64).sz = 1 := rfl
    rw [Nat.zero_mul, Nat.zero_add]
    have : (⟨w.heap.size, 0, none⟩ : Addr).add i = ⟨w.heap.size, i, none⟩ := by unfold Addr.add; by_cases h : i = 0 <;> simp [h]
    rw [this, Own.alloc_cell]
    simpa using hu
  | j + 1 => simp at hj
set_option maxHeartbeats 4000000 in
set_option maxRecDepth 100000 in
theorem costs_calls (w : World) (hs : Snt w) : Calls Tryd.prog 7 #[] w fun e w' => e = .returned (.bool true) ∧ Below w.heap.size w w' := by
  have HS := Aside0.mk hs
  clear hs
  go_enter Tryd.func7, Tryd.ntmps7
  go_wp2_with fail
  have M1 := connOk_calls (w.alloc (.cells #[.int .i64 (-4)] 3)) (sntAlloc HS.out _) 1 1 (some ⟨w.heap.size, 0, none⟩) 1 [-4] 0 0 (C_one w (-4) _ _) (by decide) (by decide) (by decide) (by decide) (by decide) (by decide) (by decide) (by decide) (by decide)
  have e4 : (w16 [-4])[1 * 0 + 0]'(by decide) = -4 := by decide +kernel
  rw [e4] at M1
  have HM1 := Aside0.mk M1
  clear M1 e4
  with_reducible refine Calls.mono HM1.out ?_
  rintro _ W1 ⟨A1, c1, rfl, hc1, hC1, hB⟩
  have hB1 : Below w.heap.size w W1 := (below_alloc (Below.refl _ _) _).trans (hB.mono (by rw [Own.size_alloc]; omega))
  have HB1 := Aside0.mk hB1
  clear hC1 hB hB1 hc1 HM1
  go_wp2_with fail
  go_ret
  exact ⟨rfl, HB1.out⟩
theorem same_ev (l : List Int) (hl : l.length ≤ 1000000) : Ev (fun k => laws_same_byte.f k l l) true := by
  have loop : ∀ (d i : Nat), l.length - i = d → i ≤ l.length → Ev (fun k => laws_same_byte.l0 k l l (l.length : Int) (i : Int)) true := by
    intro d
    induction d with
    | zero =>
      intro i hd hi
      refine Ev.step (f := fun _ => some true) (fun k => by simp only [laws_same_byte.l0]; rw [if_neg (by omega)]) (Ev.now _)
    | succ d ih =>
      intro i hd hi
      have h1 := ih (i + 1) (by omega) (by omega)
      have e1 : wrap64 ((i : Int) + 1) = ((i + 1 : Nat) : Int) := by rw [wrap_ok (by omega) (by omega)]; omega
      refine Ev.step (fun k => ?_) h1
      simp only [laws_same_byte.l0]
      rw [if_pos (by omega), if_pos (by omega), if_pos (by omega), if_pos (by omega), if_pos trivial, e1]
  have := loop l.length 0 rfl (by omega)
  simpa [laws_same_byte.f] using this
theorem same_calls (w : World) (A0 A1 : Option Addr) (c0 c1 n : Nat) (l : List Int) (hn : l.length = n) (h0 : Kd.C (Kd.int .u8) w A0 n l) (hc0 : n ≤ c0) (h1 : Kd.C (Kd.int .u8) w A1 n l) (hc1 : n ≤ c1) (hl : l.length ≤ 1000000) :
    Calls Tryd.prog 10 #[.slice A0 n c0, .slice A1 n c1] w fun e w' => e = .returned (.bool true) ∧ Drawn0 w w' := by
  subst hn
  obtain ⟨k, hk⟩ := same_ev l hl
  exact laws_same_byte.calls k A0 c0 l A1 c1 l true w h0 hc0 h1 hc1 (hk k (Nat.le_refl _))
end Go.Proofs.YtckdpckdabfkbaaDoor.Num
