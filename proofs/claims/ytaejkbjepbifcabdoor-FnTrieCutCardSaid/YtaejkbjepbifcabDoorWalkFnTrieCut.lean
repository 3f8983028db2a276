/- laws.FnTrieCut: the walk. -/
import Derived.Test.YtaejkbjepbifcabDoorJ2
import Derived.Test.YtaejkbjepbifcabDoorJ4
import Derived.Test.YtaejkbjepbifcabDoorJ3
namespace Go.Proofs.YtaejkbjepbifcabDoor.Da
open Go.RowKit Go.Proofs.YtaejkbjepbifcabDoorW.PrintWords Go.Proofs.YtaejkbjepbifcabDoor.Plain
set_option linter.unusedVariables false
set_option linter.unusedSimpArgs false
theorem cut_short {L : Keys} {data : List Int} {k : Nat} (h : Num.Told L data) (hk : k < data.length) : ∃ l : Nat, ((data.take k).length < 8 ∨ (Num.valb ((data.take k).take 8) = l ∧ l ≤ 1073741824 ∧ (data.take k).length < 8 + 8 * l)) ∧ (data.take k).length ≤ 100000000000 ∧ ∀ x ∈ data.take k, 0 ≤ x ∧ x < 256 := by
  obtain ⟨s, he, hsm, hG, h0⟩ := h
  have hl : data.length = 8 + 8 * s.n := by rw [he]; exact Num.wrtD_len s s.n
  have hb := hsm.2
  have hkl : (data.take k).length = k := by rw [List.length_take]; omega
  refine ⟨s.n, ?_, by omega, fun x hx => Num.wrtD_bytes s s.n x (by rw [← he]; exact List.mem_of_mem_take hx)⟩
  by_cases h8 : k < 8
  · exact .inl (by omega)
  · refine .inr ⟨?_, hb, by omega⟩
    rw [List.take_take, Nat.min_eq_left (by omega), he]
    exact Num.wrtD_head s s.n hb
theorem told_len {L : Keys} {data : List Int} (h : Num.Told L data) : 8 ≤ data.length ∧ data.length ≤ 100000000000 := by
  obtain ⟨s, he, hsm, hG, h0⟩ := h
  have hl : data.length = 8 + 8 * s.n := by rw [he]; exact Num.wrtD_len s s.n
  have hb := hsm.2
  omega
set_option maxHeartbeats 16000000 in
set_option maxRecDepth 100000 in
theorem walk_cut (A0 : Option Addr) (c0 : Nat) (a0 : (List ByteArray)) (A1 : Option Addr) (c1 : Nat) (a1 : (List Int)) (a2 : Int) (w : World) (hL : laidMet Tryd.prog Rows.fnTrieCutRow.laid w) (hr0 : Kd.C Kd.string w A0 a0.length a0) (hc0 : a0.length ≤ c0) (hg0 : a0.length * 16 ≤ 140737488351232 ∧ ∀ y0 ∈ a0, y0.size ≤ 140737488351232) (hr1 : Kd.C (Kd.int .i64) w A1 a1.length a1) (hc1 : a1.length ≤ c1) (hg1 : a1.length * 8 ≤ 140737488351232 ∧ ∀ y0 ∈ a1, (Lit.int .i64 y0).wf = true) (hg2 : (Lit.int .i64 a2).wf = true) :
    Calls Tryd.prog 4 #[.slice A0 a0.length c0, .slice A1 a1.length c1, .int .i64 a2] w fun e w' => e = .returned (.bool true) ∧ Below w.heap.size w w' := by
  have HSN := Aside0.mk (Num.snt_of_laid hL)
  have HR0 := Aside0.mk hr0
  have HR1 := Aside0.mk hr1
  have hl0 : a0.length ≤ 8796093021952 := by omega
  have hl1 : a1.length ≤ 17592186043904 := by omega
  obtain ⟨r1, h1, p1⟩ := zf_ev a0 (by omega)
  obtain ⟨k1, h1⟩ := h1.rounds
  have H1 := Aside0.mk h1
  have P1 := Aside0.mk p1
  clear hL hr0 hr1 h1 p1 hg0 hg1 hg2
  cases r1 with
  | false =>
    go_enter Tryd.func4, Tryd.ntmps4
    go_wp2_with (first | (go_at_call 5; (with_reducible refine Calls.mono (PB.laws_zzFits3.calls k1 A0 c0 a0 _ _ (Kd.C_below HR0.out (by repeat (first | (with_reducible first | exact Below.refl _ _ | apply below_alloc | apply pw_below_drewN | apply below_drew1) | exact HBz.out | exact HBy.out | exact HBx.out | exact HBw.out | exact HBv.out | exact HBu.out | exact HBt.out | exact HBs.out))) hc0 H1.out) ?_); rintro e_ w_ ⟨rfl, ⟨qk1, rfl⟩⟩) | (go_at_call 6; refine (PB.laws_few.calls k2 _ 1 [a0] _ _ (new_one _ _ rfl A0 c0 _ a0 rfl (Kd.C_below HR0.out (by repeat (first | (with_reducible first | exact Below.refl _ _ | apply below_alloc | apply pw_below_drewN | apply below_drew1) | exact HBz.out | exact HBy.out | exact HBx.out | exact HBw.out | exact HBv.out | exact HBu.out | exact HBt.out | exact HBs.out))) hc0) (by simp) H2.out).mono ?_; rintro e_ w_ ⟨rfl, ⟨q2, rfl⟩⟩) | (go_at_call 7; refine (PB.laws_ordered.calls k3 A0 c0 a0 _ _ _ (Kd.C_below HR0.out (by repeat (first | (with_reducible first | exact Below.refl _ _ | apply below_alloc | apply pw_below_drewN | apply below_drew1) | exact HBz.out | exact HBy.out | exact HBx.out | exact HBw.out | exact HBv.out | exact HBu.out | exact HBt.out | exact HBs.out))) hc0 H3.out).mono ?_; rintro e_ w3 ⟨rfl, hb_⟩; have HBs := Aside0.mk (below_step (w := w) (by repeat (first | (with_reducible first | exact Below.refl _ _ | apply below_alloc | apply pw_below_drewN | apply below_drew1) | exact HBz.out | exact HBy.out | exact HBx.out | exact HBw.out | exact HBv.out | exact HBu.out | exact HBt.out | exact HBs.out)) hb_); clear hb_) | (go_at_call 8; refine (PB.laws_goodIDs.calls k4 A1 c1 a1 _ _ _ (Kd.C_below HR1.out (by repeat (first | (with_reducible first | exact Below.refl _ _ | apply below_alloc | apply pw_below_drewN | apply below_drew1) | exact HBz.out | exact HBy.out | exact HBx.out | exact HBw.out | exact HBv.out | exact HBu.out | exact HBt.out | exact HBs.out))) hc1 H4.out).mono ?_; rintro e_ w_ ⟨rfl, ⟨q4, rfl⟩⟩) | (go_at_call 10; refine (builds_calls _).mono ?_; rintro e_ w6 ⟨rfl, hb_⟩; have HBz := Aside0.mk (below_step (w := w) (by repeat (first | (with_reducible first | exact Below.refl _ _ | apply below_alloc | apply pw_below_drewN | apply below_drew1) | exact HBz.out | exact HBy.out | exact HBx.out | exact HBw.out | exact HBv.out | exact HBu.out | exact HBt.out | exact HBs.out)) hb_); clear hb_))
    go_ret
    exact ⟨rfl, (by repeat (first | (with_reducible first | exact Below.refl _ _ | apply below_alloc | apply pw_below_drewN | apply below_drew1) | exact HBz.out | exact HBy.out | exact HBx.out | exact HBw.out | exact HBv.out | exact HBu.out | exact HBt.out | exact HBs.out))⟩
  | true =>
    by_cases g1 : a1.length > 2147483647
    · have g1z : (a1.length : Int) > 2147483647 := by omega
      go_enter Tryd.func4, Tryd.ntmps4
      go_wp2_with (first | (go_at_call 5; (with_reducible refine Calls.mono (PB.laws_zzFits3.calls k1 A0 c0 a0 _ _ (Kd.C_below HR0.out (by repeat (first | (with_reducible first | exact Below.refl _ _ | apply below_alloc | apply pw_below_drewN | apply below_drew1) | exact HBz.out | exact HBy.out | exact HBx.out | exact HBw.out | exact HBv.out | exact HBu.out | exact HBt.out | exact HBs.out))) hc0 H1.out) ?_); rintro e_ w_ ⟨rfl, ⟨qk1, rfl⟩⟩) | (go_at_call 6; refine (PB.laws_few.calls k2 _ 1 [a0] _ _ (new_one _ _ rfl A0 c0 _ a0 rfl (Kd.C_below HR0.out (by repeat (first | (with_reducible first | exact Below.refl _ _ | apply below_alloc | apply pw_below_drewN | apply below_drew1) | exact HBz.out | exact HBy.out | exact HBx.out | exact HBw.out | exact HBv.out | exact HBu.out | exact HBt.out | exact HBs.out))) hc0) (by simp) H2.out).mono ?_; rintro e_ w_ ⟨rfl, ⟨q2, rfl⟩⟩) | (go_at_call 7; refine (PB.laws_ordered.calls k3 A0 c0 a0 _ _ _ (Kd.C_below HR0.out (by repeat (first | (with_reducible first | exact Below.refl _ _ | apply below_alloc | apply pw_below_drewN | apply below_drew1) | exact HBz.out | exact HBy.out | exact HBx.out | exact HBw.out | exact HBv.out | exact HBu.out | exact HBt.out | exact HBs.out))) hc0 H3.out).mono ?_; rintro e_ w3 ⟨rfl, hb_⟩; have HBs := Aside0.mk (below_step (w := w) (by repeat (first | (with_reducible first | exact Below.refl _ _ | apply below_alloc | apply pw_below_drewN | apply below_drew1) | exact HBz.out | exact HBy.out | exact HBx.out | exact HBw.out | exact HBv.out | exact HBu.out | exact HBt.out | exact HBs.out)) hb_); clear hb_) | (go_at_call 8; refine (PB.laws_goodIDs.calls k4 A1 c1 a1 _ _ _ (Kd.C_below HR1.out (by repeat (first | (with_reducible first | exact Below.refl _ _ | apply below_alloc | apply pw_below_drewN | apply below_drew1) | exact HBz.out | exact HBy.out | exact HBx.out | exact HBw.out | exact HBv.out | exact HBu.out | exact HBt.out | exact HBs.out))) hc1 H4.out).mono ?_; rintro e_ w_ ⟨rfl, ⟨q4, rfl⟩⟩) | (go_at_call 10; refine (builds_calls _).mono ?_; rintro e_ w6 ⟨rfl, hb_⟩; have HBz := Aside0.mk (below_step (w := w) (by repeat (first | (with_reducible first | exact Below.refl _ _ | apply below_alloc | apply pw_below_drewN | apply below_drew1) | exact HBz.out | exact HBy.out | exact HBx.out | exact HBw.out | exact HBv.out | exact HBu.out | exact HBt.out | exact HBs.out)) hb_); clear hb_))
      go_ret
      exact ⟨rfl, (by repeat (first | (with_reducible first | exact Below.refl _ _ | apply below_alloc | apply pw_below_drewN | apply below_drew1) | exact HBz.out | exact HBy.out | exact HBx.out | exact HBw.out | exact HBv.out | exact HBu.out | exact HBt.out | exact HBs.out))⟩
    · have g1z : ¬ (a1.length : Int) > 2147483647 := by omega
      have HF := Aside0.mk (P1.out rfl)
      have hn1 := HF.out.1
      have h2 := few_ev1 a0 HF.out
      obtain ⟨k2, h2⟩ := h2.rounds
      obtain ⟨r3, h3, p3⟩ := ord_ev a0 false HF.out
      obtain ⟨k3, h3⟩ := h3.rounds
      obtain ⟨r4, h4, p4⟩ := ids_ev a1 (a0.length : Int) (by omega)
      obtain ⟨k4, h4⟩ := h4.rounds
      have H3 := Aside0.mk h3
      have H4 := Aside0.mk h4
      have P3 := Aside0.mk p3
      have P4 := Aside0.mk p4
      clear h3 h4 p3 p4
      by_cases hw : wt a0 ≤ 4000
      · rw [decide_eq_true hw] at h2
        have H2 := Aside0.mk h2
        clear h2
        cases r3 with
        | false =>
          go_enter Tryd.func4, Tryd.ntmps4
          go_wp2_with (first | (go_at_call 5; (with_reducible refine Calls.mono (PB.laws_zzFits3.calls k1 A0 c0 a0 _ _ (Kd.C_below HR0.out (by repeat (first | (with_reducible first | exact Below.refl _ _ | apply below_alloc | apply pw_below_drewN | apply below_drew1) | exact HBz.out | exact HBy.out | exact HBx.out | exact HBw.out | exact HBv.out | exact HBu.out | exact HBt.out | exact HBs.out))) hc0 H1.out) ?_); rintro e_ w_ ⟨rfl, ⟨qk1, rfl⟩⟩) | (go_at_call 6; refine (PB.laws_few.calls k2 _ 1 [a0] _ _ (new_one _ _ rfl A0 c0 _ a0 rfl (Kd.C_below HR0.out (by repeat (first | (with_reducible first | exact Below.refl _ _ | apply below_alloc | apply pw_below_drewN | apply below_drew1) | exact HBz.out | exact HBy.out | exact HBx.out | exact HBw.out | exact HBv.out | exact HBu.out | exact HBt.out | exact HBs.out))) hc0) (by simp) H2.out).mono ?_; rintro e_ w_ ⟨rfl, ⟨q2, rfl⟩⟩) | (go_at_call 7; refine (PB.laws_ordered.calls k3 A0 c0 a0 _ _ _ (Kd.C_below HR0.out (by repeat (first | (with_reducible first | exact Below.refl _ _ | apply below_alloc | apply pw_below_drewN | apply below_drew1) | exact HBz.out | exact HBy.out | exact HBx.out | exact HBw.out | exact HBv.out | exact HBu.out | exact HBt.out | exact HBs.out))) hc0 H3.out).mono ?_; rintro e_ w3 ⟨rfl, hb_⟩; have HBs := Aside0.mk (below_step (w := w) (by repeat (first | (with_reducible first | exact Below.refl _ _ | apply below_alloc | apply pw_below_drewN | apply below_drew1) | exact HBz.out | exact HBy.out | exact HBx.out | exact HBw.out | exact HBv.out | exact HBu.out | exact HBt.out | exact HBs.out)) hb_); clear hb_) | (go_at_call 8; refine (PB.laws_goodIDs.calls k4 A1 c1 a1 _ _ _ (Kd.C_below HR1.out (by repeat (first | (with_reducible first | exact Below.refl _ _ | apply below_alloc | apply pw_below_drewN | apply below_drew1) | exact HBz.out | exact HBy.out | exact HBx.out | exact HBw.out | exact HBv.out | exact HBu.out | exact HBt.out | exact HBs.out))) hc1 H4.out).mono ?_; rintro e_ w_ ⟨rfl, ⟨q4, rfl⟩⟩) | (go_at_call 10; refine (builds_calls _).mono ?_; rintro e_ w6 ⟨rfl, hb_⟩; have HBz := Aside0.mk (below_step (w := w) (by repeat (first | (with_reducible first | exact Below.refl _ _ | apply below_alloc | apply pw_below_drewN | apply below_drew1) | exact HBz.out | exact HBy.out | exact HBx.out | exact HBw.out | exact HBv.out | exact HBu.out | exact HBt.out | exact HBs.out)) hb_); clear hb_))
          go_ret
          exact ⟨rfl, (by repeat (first | (with_reducible first | exact Below.refl _ _ | apply below_alloc | apply pw_below_drewN | apply below_drew1) | exact HBz.out | exact HBy.out | exact HBx.out | exact HBw.out | exact HBv.out | exact HBu.out | exact HBt.out | exact HBs.out))⟩
        | true =>
          cases r4 with
          | false =>
            go_enter Tryd.func4, Tryd.ntmps4
            go_wp2_with (first | (go_at_call 5; (with_reducible refine Calls.mono (PB.laws_zzFits3.calls k1 A0 c0 a0 _ _ (Kd.C_below HR0.out (by repeat (first | (with_reducible first | exact Below.refl _ _ | apply below_alloc | apply pw_below_drewN | apply below_drew1) | exact HBz.out | exact HBy.out | exact HBx.out | exact HBw.out | exact HBv.out | exact HBu.out | exact HBt.out | exact HBs.out))) hc0 H1.out) ?_); rintro e_ w_ ⟨rfl, ⟨qk1, rfl⟩⟩) | (go_at_call 6; refine (PB.laws_few.calls k2 _ 1 [a0] _ _ (new_one _ _ rfl A0 c0 _ a0 rfl (Kd.C_below HR0.out (by repeat (first | (with_reducible first | exact Below.refl _ _ | apply below_alloc | apply pw_below_drewN | apply below_drew1) | exact HBz.out | exact HBy.out | exact HBx.out | exact HBw.out | exact HBv.out | exact HBu.out | exact HBt.out | exact HBs.out))) hc0) (by simp) H2.out).mono ?_; rintro e_ w_ ⟨rfl, ⟨q2, rfl⟩⟩) | (go_at_call 7; refine (PB.laws_ordered.calls k3 A0 c0 a0 _ _ _ (Kd.C_below HR0.out (by repeat (first | (with_reducible first | exact Below.refl _ _ | apply below_alloc | apply pw_below_drewN | apply below_drew1) | exact HBz.out | exact HBy.out | exact HBx.out | exact HBw.out | exact HBv.out | exact HBu.out | exact HBt.out | exact HBs.out))) hc0 H3.out).mono ?_; rintro e_ w3 ⟨rfl, hb_⟩; have HBs := Aside0.mk (below_step (w := w) (by repeat (first | (with_reducible first | exact Below.refl _ _ | apply below_alloc | apply pw_below_drewN | apply below_drew1) | exact HBz.out | exact HBy.out | exact HBx.out | exact HBw.out | exact HBv.out | exact HBu.out | exact HBt.out | exact HBs.out)) hb_); clear hb_) | (go_at_call 8; refine (PB.laws_goodIDs.calls k4 A1 c1 a1 _ _ _ (Kd.C_below HR1.out (by repeat (first | (with_reducible first | exact Below.refl _ _ | apply below_alloc | apply pw_below_drewN | apply below_drew1) | exact HBz.out | exact HBy.out | exact HBx.out | exact HBw.out | exact HBv.out | exact HBu.out | exact HBt.out | exact HBs.out))) hc1 H4.out).mono ?_; rintro e_ w_ ⟨rfl, ⟨q4, rfl⟩⟩) | (go_at_call 10; refine (builds_calls _).mono ?_; rintro e_ w6 ⟨rfl, hb_⟩; have HBz := Aside0.mk (below_step (w := w) (by repeat (first | (with_reducible first | exact Below.refl _ _ | apply below_alloc | apply pw_below_drewN | apply below_drew1) | exact HBz.out | exact HBy.out | exact HBx.out | exact HBw.out | exact HBv.out | exact HBu.out | exact HBt.out | exact HBs.out)) hb_); clear hb_))
            go_ret
            exact ⟨rfl, (by repeat (first | (with_reducible first | exact Below.refl _ _ | apply below_alloc | apply pw_below_drewN | apply below_drew1) | exact HBz.out | exact HBy.out | exact HBx.out | exact HBw.out | exact HBv.out | exact HBu.out | exact HBt.out | exact HBs.out))⟩
          | true =>
            have ho := P3.out rfl
            have hi := P4.out rfl
            have hK : KeysOk a0 a1 := keys_ok hw ho (by have := hi.1; omega) hi.2
            obtain ⟨kS, hS⟩ := sorted_ev a0 ho.pos (by omega) ho.up
            have HK := Aside0.mk hK
            have HS := Aside0.mk hS
            clear ho hi hK hS
            go_enter Tryd.func4, Tryd.ntmps4
            go_wp2_with (first | (go_at_call 5; (with_reducible refine Calls.mono (PB.laws_zzFits3.calls k1 A0 c0 a0 _ _ (Kd.C_below HR0.out (by repeat (first | (with_reducible first | exact Below.refl _ _ | apply below_alloc | apply pw_below_drewN | apply below_drew1) | exact HBz.out | exact HBy.out | exact HBx.out | exact HBw.out | exact HBv.out | exact HBu.out | exact HBt.out | exact HBs.out))) hc0 H1.out) ?_); rintro e_ w_ ⟨rfl, ⟨qk1, rfl⟩⟩) | (go_at_call 6; refine (PB.laws_few.calls k2 _ 1 [a0] _ _ (new_one _ _ rfl A0 c0 _ a0 rfl (Kd.C_below HR0.out (by repeat (first | (with_reducible first | exact Below.refl _ _ | apply below_alloc | apply pw_below_drewN | apply below_drew1) | exact HBz.out | exact HBy.out | exact HBx.out | exact HBw.out | exact HBv.out | exact HBu.out | exact HBt.out | exact HBs.out))) hc0) (by simp) H2.out).mono ?_; rintro e_ w_ ⟨rfl, ⟨q2, rfl⟩⟩) | (go_at_call 7; refine (PB.laws_ordered.calls k3 A0 c0 a0 _ _ _ (Kd.C_below HR0.out (by repeat (first | (with_reducible first | exact Below.refl _ _ | apply below_alloc | apply pw_below_drewN | apply below_drew1) | exact HBz.out | exact HBy.out | exact HBx.out | exact HBw.out | exact HBv.out | exact HBu.out | exact HBt.out | exact HBs.out))) hc0 H3.out).mono ?_; rintro e_ w3 ⟨rfl, hb_⟩; have HBs := Aside0.mk (below_step (w := w) (by repeat (first | (with_reducible first | exact Below.refl _ _ | apply below_alloc | apply pw_below_drewN | apply below_drew1) | exact HBz.out | exact HBy.out | exact HBx.out | exact HBw.out | exact HBv.out | exact HBu.out | exact HBt.out | exact HBs.out)) hb_); clear hb_) | (go_at_call 8; refine (PB.laws_goodIDs.calls k4 A1 c1 a1 _ _ _ (Kd.C_below HR1.out (by repeat (first | (with_reducible first | exact Below.refl _ _ | apply below_alloc | apply pw_below_drewN | apply below_drew1) | exact HBz.out | exact HBy.out | exact HBx.out | exact HBw.out | exact HBv.out | exact HBu.out | exact HBt.out | exact HBs.out))) hc1 H4.out).mono ?_; rintro e_ w_ ⟨rfl, ⟨q4, rfl⟩⟩) | (go_at_call 10; refine (builds_calls _).mono ?_; rintro e_ w6 ⟨rfl, hb_⟩; have HBz := Aside0.mk (below_step (w := w) (by repeat (first | (with_reducible first | exact Below.refl _ _ | apply below_alloc | apply pw_below_drewN | apply below_drew1) | exact HBz.out | exact HBy.out | exact HBx.out | exact HBw.out | exact HBv.out | exact HBu.out | exact HBt.out | exact HBs.out)) hb_); clear hb_) | fail)
            with_reducible refine Calls.mono (Num.trieBytes_calls _ A0 A1 c0 c1 kS a0 a1 (Kd.C_below HR0.out (by repeat (first | (with_reducible first | exact Below.refl _ _ | apply below_alloc | apply pw_below_drewN | apply below_drew1) | exact HBz.out | exact HBy.out | exact HBx.out | exact HBw.out | exact HBv.out | exact HBu.out | exact HBt.out | exact HBs.out))) hc0 (Kd.C_below HR1.out (by repeat (first | (with_reducible first | exact Below.refl _ _ | apply below_alloc | apply pw_below_drewN | apply below_drew1) | exact HBz.out | exact HBy.out | exact HBx.out | exact HBw.out | exact HBv.out | exact HBu.out | exact HBt.out | exact HBs.out))) hc1 HS.out HK.out) ?_
            rintro e_ w7 ⟨Ab, cb, data, rfl, HTD, HCD, HLD, hb_⟩
            have HBt := Aside0.mk (below_step (w := w) (by repeat (first | (with_reducible first | exact Below.refl _ _ | apply below_alloc | apply pw_below_drewN | apply below_drew1) | exact HBz.out | exact HBy.out | exact HBx.out | exact HBw.out | exact HBv.out | exact HBu.out | exact HBt.out | exact HBs.out)) hb_)
            clear hb_
            have hd8 := (told_len HTD.out).1
            have hdm := (told_len HTD.out).2
            have hdz : ((data.length : Int) == 0) = false := by rw [beq_eq_false_iff_ne]; omega
            by_cases c1 : a2 < 0
            · go_wp2_with (first | (go_at_call 10; refine (builds_calls _).mono ?_; rintro e_ w6 ⟨rfl, hb_⟩; have HBz := Aside0.mk (below_step (w := w) (by repeat (first | (with_reducible first | exact Below.refl _ _ | apply below_alloc | apply pw_below_drewN | apply below_drew1) | exact HBz.out | exact HBy.out | exact HBx.out | exact HBw.out | exact HBv.out | exact HBu.out | exact HBt.out | exact HBs.out)) hb_); clear hb_) | fail)
              go_ret
              exact ⟨rfl, (by repeat (first | (with_reducible first | exact Below.refl _ _ | apply below_alloc | apply pw_below_drewN | apply below_drew1) | exact HBz.out | exact HBy.out | exact HBx.out | exact HBw.out | exact HBv.out | exact HBu.out | exact HBt.out | exact HBs.out))⟩

            · by_cases c2 : a2 ≥ (data.length : Int)
              · go_wp2_with (first | (go_at_call 10; refine (builds_calls _).mono ?_; rintro e_ w6 ⟨rfl, hb_⟩; have HBz := Aside0.mk (below_step (w := w) (by repeat (first | (with_reducible first | exact Below.refl _ _ | apply below_alloc | apply pw_below_drewN | apply below_drew1) | exact HBz.out | exact HBy.out | exact HBx.out | exact HBw.out | exact HBv.out | exact HBu.out | exact HBt.out | exact HBs.out)) hb_); clear hb_) | fail)
                go_ret
                exact ⟨rfl, (by repeat (first | (with_reducible first | exact Below.refl _ _ | apply below_alloc | apply pw_below_drewN | apply below_drew1) | exact HBz.out | exact HBy.out | exact HBx.out | exact HBw.out | exact HBv.out | exact HBu.out | exact HBt.out | exact HBs.out))⟩

              · obtain ⟨k, rfl⟩ := Int.eq_ofNat_of_zero_le (show 0 ≤ a2 by omega)
                have hk : k < data.length := by omega
                have hkl : (data.take k).length = k := by rw [List.length_take]; omega
                obtain ⟨l, e1, e2, e3⟩ := cut_short HTD.out hk
                have hld := HLD.out
                have MR := fun (x : Obj) (Ai : Option Addr) (n ci : Nat) => Num.trieRead_short (w7.alloc x) Ab Ai cb ci n l (data.take k) (Num.sntAlloc (Num.Snt.below HSN.out HBt.out) x) (Kd.C_take (Kd.C_alloc HCD.out x) (by omega)) (by omega) e3 e2 e1
                rw [hkl] at MR
                have HMR := Aside0.mk MR
                have p1 : (0 : Int) ≤ k := by omega
                have p2 : (k : Int) ≤ data.length := by omega
                have p3 : (data.length : Int) ≤ cb := by omega
                have p4 : (k : Int) ≤ cb := by omega
                clear MR hkl e1 e2 e3
                go_wp2_with fail
                with_reducible refine Calls.mono (HMR.out _ _ _ _) ?_
                rintro e_ w8 ⟨rfl, hb_⟩
                have HBu := Aside0.mk (below_step (w := w) (by repeat (first | (with_reducible first | exact Below.refl _ _ | apply below_alloc | apply pw_below_drewN | apply below_drew1) | exact HBz.out | exact HBy.out | exact HBx.out | exact HBw.out | exact HBv.out | exact HBu.out | exact HBt.out | exact HBs.out)) hb_)
                clear hb_
                clear HMR
                go_wp2_with (first | (go_at_call 10; refine (builds_calls _).mono ?_; rintro e_ w6 ⟨rfl, hb_⟩; have HBz := Aside0.mk (below_step (w := w) (by repeat (first | (with_reducible first | exact Below.refl _ _ | apply below_alloc | apply pw_below_drewN | apply below_drew1) | exact HBz.out | exact HBy.out | exact HBx.out | exact HBw.out | exact HBv.out | exact HBu.out | exact HBt.out | exact HBs.out)) hb_); clear hb_) | fail)
                go_ret
                exact ⟨rfl, (by repeat (first | (with_reducible first | exact Below.refl _ _ | apply below_alloc | apply pw_below_drewN | apply below_drew1) | exact HBz.out | exact HBy.out | exact HBx.out | exact HBw.out | exact HBv.out | exact HBu.out | exact HBt.out | exact HBs.out))⟩
      · rw [decide_eq_false hw] at h2
        have H2 := Aside0.mk h2
        clear h2
        go_enter Tryd.func4, Tryd.ntmps4
        go_wp2_with (first | (go_at_call 5; (with_reducible refine Calls.mono (PB.laws_zzFits3.calls k1 A0 c0 a0 _ _ (Kd.C_below HR0.out (by repeat (first | (with_reducible first | exact Below.refl _ _ | apply below_alloc | apply pw_below_drewN | apply below_drew1) | exact HBz.out | exact HBy.out | exact HBx.out | exact HBw.out | exact HBv.out | exact HBu.out | exact HBt.out | exact HBs.out))) hc0 H1.out) ?_); rintro e_ w_ ⟨rfl, ⟨qk1, rfl⟩⟩) | (go_at_call 6; refine (PB.laws_few.calls k2 _ 1 [a0] _ _ (new_one _ _ rfl A0 c0 _ a0 rfl (Kd.C_below HR0.out (by repeat (first | (with_reducible first | exact Below.refl _ _ | apply below_alloc | apply pw_below_drewN | apply below_drew1) | exact HBz.out | exact HBy.out | exact HBx.out | exact HBw.out | exact HBv.out | exact HBu.out | exact HBt.out | exact HBs.out))) hc0) (by simp) H2.out).mono ?_; rintro e_ w_ ⟨rfl, ⟨q2, rfl⟩⟩) | (go_at_call 7; refine (PB.laws_ordered.calls k3 A0 c0 a0 _ _ _ (Kd.C_below HR0.out (by repeat (first | (with_reducible first | exact Below.refl _ _ | apply below_alloc | apply pw_below_drewN | apply below_drew1) | exact HBz.out | exact HBy.out | exact HBx.out | exact HBw.out | exact HBv.out | exact HBu.out | exact HBt.out | exact HBs.out))) hc0 H3.out).mono ?_; rintro e_ w3 ⟨rfl, hb_⟩; have HBs := Aside0.mk (below_step (w := w) (by repeat (first | (with_reducible first | exact Below.refl _ _ | apply below_alloc | apply pw_below_drewN | apply below_drew1) | exact HBz.out | exact HBy.out | exact HBx.out | exact HBw.out | exact HBv.out | exact HBu.out | exact HBt.out | exact HBs.out)) hb_); clear hb_) | (go_at_call 8; refine (PB.laws_goodIDs.calls k4 A1 c1 a1 _ _ _ (Kd.C_below HR1.out (by repeat (first | (with_reducible first | exact Below.refl _ _ | apply below_alloc | apply pw_below_drewN | apply below_drew1) | exact HBz.out | exact HBy.out | exact HBx.out | exact HBw.out | exact HBv.out | exact HBu.out | exact HBt.out | exact HBs.out))) hc1 H4.out).mono ?_; rintro e_ w_ ⟨rfl, ⟨q4, rfl⟩⟩) | (go_at_call 10; refine (builds_calls _).mono ?_; rintro e_ w6 ⟨rfl, hb_⟩; have HBz := Aside0.mk (below_step (w := w) (by repeat (first | (with_reducible first | exact Below.refl _ _ | apply below_alloc | apply pw_below_drewN | apply below_drew1) | exact HBz.out | exact HBy.out | exact HBx.out | exact HBw.out | exact HBv.out | exact HBu.out | exact HBt.out | exact HBs.out)) hb_); clear hb_))
        go_ret
        exact ⟨rfl, (by repeat (first | (with_reducible first | exact Below.refl _ _ | apply below_alloc | apply pw_below_drewN | apply below_drew1) | exact HBz.out | exact HBy.out | exact HBx.out | exact HBw.out | exact HBv.out | exact HBu.out | exact HBt.out | exact HBs.out))⟩
end Go.Proofs.YtaejkbjepbifcabDoor.Da
