/- laws.FnIndexCalls: the walk. -/
import Derived.Test.YtaejkbjepbifcaaU2
import Derived.Test.YtaejkbjepbifcaaU3
namespace Go.Proofs.Ytaejkbjepbifcaa.Da
open Go.RowKit Go.Proofs.YtaejkbjepbifcaaW.PrintWords Go.Proofs.Ytaejkbjepbifcaa.Plain
set_option linter.unusedVariables false
set_option linter.unusedSimpArgs false
theorem lists_at {w : World} {A : Option Addr} {n : Nat} {xs : List (List Int)} (h : Kd.C (Kd.slice 3 (Kd.int .i64)) w A n xs) (i : Nat) (hi : i < n) : ∃ ad A0 c0, A = some ad ∧ w.cell? (ad.add i) = some (.slice A0 (xs.getD i []).length c0) ∧ (xs.getD i []).length ≤ c0 ∧ Kd.C (Kd.int .i64) w A0 (xs.getD i []).length (xs.getD i []) := by
  obtain ⟨ad, c, e, _, hK, hc0⟩ := Kd.C_get h ([] : List Int) (i : Int) (by omega) (by omega)
  have hc : ∀ j u, c[j]? = some u → w.cell? (ad.add ((i : Int).toNat * 1 + j)) = some u := hc0
  obtain ⟨A0, c0, rfl, l0, g0⟩ := hK
  rw [Int.toNat_natCast] at *
  exact ⟨ad, A0, c0, e, by have hq := hc 0 _ rfl; rwa [Nat.mul_one, Nat.add_zero] at hq, l0, g0⟩
/-- The calls as they are listed. -/
structure LwS (W w : World) (v : Value) (xs : List PB.S39) : Prop where
  below : Below W.heap.size W w
  r : Kd.R PB.k39 39 w W.heap.size (fun _ => True) v xs
theorem callsAt_take (f : Int → Int) (l : List (Int × Int)) (i : Nat) (x : Int × Int) (hx : l[i]? = some x) : callsAt f (l.take (i + 1)) = callsAt f (l.take i) ++ (run x.1 (f x.1)).map (fun d => (⟨d, x.2⟩ : PB.S39)) := by
  rw [List.take_add_one, hx]
  exact callsAt_snoc f _ x
theorem calls_len (f : Int → Int) (hf : ∀ k, 0 ≤ f k ∧ f k ≤ ((4000 : Nat) : Int)) (l : List (Int × Int)) (hl : l.length ≤ 4000) (i : Nat) (x : Int × Int) (j : Nat) : (callsAt f (l.take i) ++ ((run x.1 (f x.1)).take j).map (fun d => (⟨d, x.2⟩ : PB.S39))).length ≤ 100000000 := by
  have h1 := callsAt_len f 4000 hf (l.take i)
  have h2 := (hf x.1).2
  have h3 : (l.take i).length ≤ 4000 := by rw [List.length_take]; omega
  have h4 := Nat.mul_le_mul_right (4000 + 1) h3
  rw [List.length_append, List.length_map, List.length_take, run_len]
  omega
set_option maxHeartbeats 16000000 in
set_option maxRecDepth 100000 in
theorem walk_ixcalls (A0 : Option Addr) (c0 : Nat) (a0 : (List ByteArray)) (a1 : ByteArray) (w : World) (hr0 : Kd.C Kd.string w A0 a0.length a0) (hc0 : a0.length ≤ c0) (hg0 : a0.length * 16 ≤ 140737488351232 ∧ ∀ y0 ∈ a0, y0.size ≤ 140737488351232) (hg1 : a1.size ≤ 140737488351232) :
    Calls Try.prog 8 #[.slice A0 a0.length c0, .string a1] w fun e w' => e = .returned (.bool true) ∧ Below w.heap.size w w' := by
  have HR0 := Aside0.mk hr0
  have hl0 : a0.length ≤ 8796093021952 := by omega
  obtain ⟨r1, h1, p1⟩ := zf_ev a0 (by omega)
  obtain ⟨k1, h1⟩ := h1.rounds
  have H1 := Aside0.mk h1
  have P1 := Aside0.mk p1
  clear hr0 h1 p1 hg0
  cases r1 with
  | false =>
    go_enter Try.func8, Try.ntmps8
    go_wp2_with (first | (go_at_call 9; refine (PB.laws_zzFits3.calls k1 A0 c0 a0 _ _ (Kd.C_below HR0.out (by repeat (first | (with_reducible first | exact Below.refl _ _ | apply below_alloc | apply pw_below_drewN | apply below_drew1) | exact HBz.out | exact HBy.out | exact HBx.out | exact HBw.out | exact HBv.out | exact HBu.out | exact HBt.out | exact HBs.out))) hc0 H1.out).mono ?_; rintro e_ w_ ⟨rfl, ⟨q1, rfl⟩⟩) | (go_at_call 10; refine (PB.laws_few.calls k2 _ 2 [a0, [a1]] _ _ (new_two _ _ (size_at _ _ _ rfl) A0 _ c0 1 _ 1 a0 [a1] rfl rfl (Kd.C_below HR0.out (by repeat (first | (with_reducible first | exact Below.refl _ _ | apply below_alloc | apply pw_below_drewN | apply below_drew1) | exact HBz.out | exact HBy.out | exact HBx.out | exact HBw.out | exact HBv.out | exact HBu.out | exact HBt.out | exact HBs.out))) hc0 (new1 _ _ rfl [a1] _ _ rfl (by simp)) (by simp)) (by simp) H2.out).mono ?_; rintro e_ w_ ⟨rfl, ⟨q2, rfl⟩⟩) | (go_at_call 11; refine (PB.laws_ordered.calls k3 A0 c0 a0 _ _ _ (Kd.C_below HR0.out (by repeat (first | (with_reducible first | exact Below.refl _ _ | apply below_alloc | apply pw_below_drewN | apply below_drew1) | exact HBz.out | exact HBy.out | exact HBx.out | exact HBw.out | exact HBv.out | exact HBu.out | exact HBt.out | exact HBs.out))) hc0 H3.out).mono ?_; rintro e_ w3 ⟨rfl, hb_⟩; have HBs := Aside0.mk (below_step (w := w) (by repeat (first | (with_reducible first | exact Below.refl _ _ | apply below_alloc | apply pw_below_drewN | apply below_drew1) | exact HBz.out | exact HBy.out | exact HBx.out | exact HBw.out | exact HBv.out | exact HBu.out | exact HBt.out | exact HBs.out)) hb_); clear hb_) | (go_at_call 13; refine (PB.laws_clean.calls k5 _ 1 [a1] _ _ (new1 _ _ rfl [a1] _ _ rfl (by simp)) (by simp) H5.out).mono ?_; rintro e_ w_ ⟨rfl, ⟨q5, rfl⟩⟩) | (go_at_call 23; refine (indexes_calls _).mono ?_; rintro e_ w6 ⟨rfl, hb_⟩; have HBz := Aside0.mk (below_step (w := w) (by repeat (first | (with_reducible first | exact Below.refl _ _ | apply below_alloc | apply pw_below_drewN | apply below_drew1) | exact HBz.out | exact HBy.out | exact HBx.out | exact HBw.out | exact HBv.out | exact HBu.out | exact HBt.out | exact HBs.out)) hb_); clear hb_))
    go_ret
    exact ⟨rfl, (by repeat (first | (with_reducible first | exact Below.refl _ _ | apply below_alloc | apply pw_below_drewN | apply below_drew1) | exact HBz.out | exact HBy.out | exact HBx.out | exact HBw.out | exact HBv.out | exact HBu.out | exact HBt.out | exact HBs.out))⟩
  | true =>
    have hf := P1.out rfl
    have HF := Aside0.mk hf
    have hn1 := hf.1
    clear hf
    by_cases g2 : a1.size > 2147483647
    · have g2z : (a1.size : Int) > 2147483647 := by omega
      go_enter Try.func8, Try.ntmps8
      go_wp2_with (first | (go_at_call 9; refine (PB.laws_zzFits3.calls k1 A0 c0 a0 _ _ (Kd.C_below HR0.out (by repeat (first | (with_reducible first | exact Below.refl _ _ | apply below_alloc | apply pw_below_drewN | apply below_drew1) | exact HBz.out | exact HBy.out | exact HBx.out | exact HBw.out | exact HBv.out | exact HBu.out | exact HBt.out | exact HBs.out))) hc0 H1.out).mono ?_; rintro e_ w_ ⟨rfl, ⟨q1, rfl⟩⟩) | (go_at_call 10; refine (PB.laws_few.calls k2 _ 2 [a0, [a1]] _ _ (new_two _ _ (size_at _ _ _ rfl) A0 _ c0 1 _ 1 a0 [a1] rfl rfl (Kd.C_below HR0.out (by repeat (first | (with_reducible first | exact Below.refl _ _ | apply below_alloc | apply pw_below_drewN | apply below_drew1) | exact HBz.out | exact HBy.out | exact HBx.out | exact HBw.out | exact HBv.out | exact HBu.out | exact HBt.out | exact HBs.out))) hc0 (new1 _ _ rfl [a1] _ _ rfl (by simp)) (by simp)) (by simp) H2.out).mono ?_; rintro e_ w_ ⟨rfl, ⟨q2, rfl⟩⟩) | (go_at_call 11; refine (PB.laws_ordered.calls k3 A0 c0 a0 _ _ _ (Kd.C_below HR0.out (by repeat (first | (with_reducible first | exact Below.refl _ _ | apply below_alloc | apply pw_below_drewN | apply below_drew1) | exact HBz.out | exact HBy.out | exact HBx.out | exact HBw.out | exact HBv.out | exact HBu.out | exact HBt.out | exact HBs.out))) hc0 H3.out).mono ?_; rintro e_ w3 ⟨rfl, hb_⟩; have HBs := Aside0.mk (below_step (w := w) (by repeat (first | (with_reducible first | exact Below.refl _ _ | apply below_alloc | apply pw_below_drewN | apply below_drew1) | exact HBz.out | exact HBy.out | exact HBx.out | exact HBw.out | exact HBv.out | exact HBu.out | exact HBt.out | exact HBs.out)) hb_); clear hb_) | (go_at_call 13; refine (PB.laws_clean.calls k5 _ 1 [a1] _ _ (new1 _ _ rfl [a1] _ _ rfl (by simp)) (by simp) H5.out).mono ?_; rintro e_ w_ ⟨rfl, ⟨q5, rfl⟩⟩) | (go_at_call 23; refine (indexes_calls _).mono ?_; rintro e_ w6 ⟨rfl, hb_⟩; have HBz := Aside0.mk (below_step (w := w) (by repeat (first | (with_reducible first | exact Below.refl _ _ | apply below_alloc | apply pw_below_drewN | apply below_drew1) | exact HBz.out | exact HBy.out | exact HBx.out | exact HBw.out | exact HBv.out | exact HBu.out | exact HBt.out | exact HBs.out)) hb_); clear hb_))
      go_ret
      exact ⟨rfl, (by repeat (first | (with_reducible first | exact Below.refl _ _ | apply below_alloc | apply pw_below_drewN | apply below_drew1) | exact HBz.out | exact HBy.out | exact HBx.out | exact HBw.out | exact HBv.out | exact HBu.out | exact HBt.out | exact HBs.out))⟩
    · have g2z : ¬ (a1.size : Int) > 2147483647 := by omega
      have hfs : Fits [a1] := ⟨by simp, fun t ht => by rw [List.mem_singleton.1 ht]; omega⟩
      have h2 := few_ev2 a0 [a1] HF.out hfs
      obtain ⟨k2, h2⟩ := h2.rounds
      obtain ⟨r3, h3, p3⟩ := ord_ev a0 false HF.out
      obtain ⟨k3, h3⟩ := h3.rounds
      obtain ⟨r5, h5, p5⟩ := clean_ev [a1] hfs
      obtain ⟨k5, h5⟩ := h5.rounds
      have H3 := Aside0.mk h3
      have H5 := Aside0.mk h5
      have P3 := Aside0.mk p3
      have P5 := Aside0.mk p5
      clear h3 h5 p3 p5
      by_cases hw : wt a0 + wt [a1] ≤ 4000
      · rw [decide_eq_true hw] at h2
        have H2 := Aside0.mk h2
        clear h2
        cases r3 with
        | false =>
          go_enter Try.func8, Try.ntmps8
          go_wp2_with (first | (go_at_call 9; refine (PB.laws_zzFits3.calls k1 A0 c0 a0 _ _ (Kd.C_below HR0.out (by repeat (first | (with_reducible first | exact Below.refl _ _ | apply below_alloc | apply pw_below_drewN | apply below_drew1) | exact HBz.out | exact HBy.out | exact HBx.out | exact HBw.out | exact HBv.out | exact HBu.out | exact HBt.out | exact HBs.out))) hc0 H1.out).mono ?_; rintro e_ w_ ⟨rfl, ⟨q1, rfl⟩⟩) | (go_at_call 10; refine (PB.laws_few.calls k2 _ 2 [a0, [a1]] _ _ (new_two _ _ (size_at _ _ _ rfl) A0 _ c0 1 _ 1 a0 [a1] rfl rfl (Kd.C_below HR0.out (by repeat (first | (with_reducible first | exact Below.refl _ _ | apply below_alloc | apply pw_below_drewN | apply below_drew1) | exact HBz.out | exact HBy.out | exact HBx.out | exact HBw.out | exact HBv.out | exact HBu.out | exact HBt.out | exact HBs.out))) hc0 (new1 _ _ rfl [a1] _ _ rfl (by simp)) (by simp)) (by simp) H2.out).mono ?_; rintro e_ w_ ⟨rfl, ⟨q2, rfl⟩⟩) | (go_at_call 11; refine (PB.laws_ordered.calls k3 A0 c0 a0 _ _ _ (Kd.C_below HR0.out (by repeat (first | (with_reducible first | exact Below.refl _ _ | apply below_alloc | apply pw_below_drewN | apply below_drew1) | exact HBz.out | exact HBy.out | exact HBx.out | exact HBw.out | exact HBv.out | exact HBu.out | exact HBt.out | exact HBs.out))) hc0 H3.out).mono ?_; rintro e_ w3 ⟨rfl, hb_⟩; have HBs := Aside0.mk (below_step (w := w) (by repeat (first | (with_reducible first | exact Below.refl _ _ | apply below_alloc | apply pw_below_drewN | apply below_drew1) | exact HBz.out | exact HBy.out | exact HBx.out | exact HBw.out | exact HBv.out | exact HBu.out | exact HBt.out | exact HBs.out)) hb_); clear hb_) | (go_at_call 13; refine (PB.laws_clean.calls k5 _ 1 [a1] _ _ (new1 _ _ rfl [a1] _ _ rfl (by simp)) (by simp) H5.out).mono ?_; rintro e_ w_ ⟨rfl, ⟨q5, rfl⟩⟩) | (go_at_call 23; refine (indexes_calls _).mono ?_; rintro e_ w6 ⟨rfl, hb_⟩; have HBz := Aside0.mk (below_step (w := w) (by repeat (first | (with_reducible first | exact Below.refl _ _ | apply below_alloc | apply pw_below_drewN | apply below_drew1) | exact HBz.out | exact HBy.out | exact HBx.out | exact HBw.out | exact HBv.out | exact HBu.out | exact HBt.out | exact HBs.out)) hb_); clear hb_))
          go_ret
          exact ⟨rfl, (by repeat (first | (with_reducible first | exact Below.refl _ _ | apply below_alloc | apply pw_below_drewN | apply below_drew1) | exact HBz.out | exact HBy.out | exact HBx.out | exact HBw.out | exact HBv.out | exact HBu.out | exact HBt.out | exact HBs.out))⟩
        | true =>
          cases r5 with
          | false =>
            go_enter Try.func8, Try.ntmps8
            go_wp2_with (first | (go_at_call 9; refine (PB.laws_zzFits3.calls k1 A0 c0 a0 _ _ (Kd.C_below HR0.out (by repeat (first | (with_reducible first | exact Below.refl _ _ | apply below_alloc | apply pw_below_drewN | apply below_drew1) | exact HBz.out | exact HBy.out | exact HBx.out | exact HBw.out | exact HBv.out | exact HBu.out | exact HBt.out | exact HBs.out))) hc0 H1.out).mono ?_; rintro e_ w_ ⟨rfl, ⟨q1, rfl⟩⟩) | (go_at_call 10; refine (PB.laws_few.calls k2 _ 2 [a0, [a1]] _ _ (new_two _ _ (size_at _ _ _ rfl) A0 _ c0 1 _ 1 a0 [a1] rfl rfl (Kd.C_below HR0.out (by repeat (first | (with_reducible first | exact Below.refl _ _ | apply below_alloc | apply pw_below_drewN | apply below_drew1) | exact HBz.out | exact HBy.out | exact HBx.out | exact HBw.out | exact HBv.out | exact HBu.out | exact HBt.out | exact HBs.out))) hc0 (new1 _ _ rfl [a1] _ _ rfl (by simp)) (by simp)) (by simp) H2.out).mono ?_; rintro e_ w_ ⟨rfl, ⟨q2, rfl⟩⟩) | (go_at_call 11; refine (PB.laws_ordered.calls k3 A0 c0 a0 _ _ _ (Kd.C_below HR0.out (by repeat (first | (with_reducible first | exact Below.refl _ _ | apply below_alloc | apply pw_below_drewN | apply below_drew1) | exact HBz.out | exact HBy.out | exact HBx.out | exact HBw.out | exact HBv.out | exact HBu.out | exact HBt.out | exact HBs.out))) hc0 H3.out).mono ?_; rintro e_ w3 ⟨rfl, hb_⟩; have HBs := Aside0.mk (below_step (w := w) (by repeat (first | (with_reducible first | exact Below.refl _ _ | apply below_alloc | apply pw_below_drewN | apply below_drew1) | exact HBz.out | exact HBy.out | exact HBx.out | exact HBw.out | exact HBv.out | exact HBu.out | exact HBt.out | exact HBs.out)) hb_); clear hb_) | (go_at_call 13; refine (PB.laws_clean.calls k5 _ 1 [a1] _ _ (new1 _ _ rfl [a1] _ _ rfl (by simp)) (by simp) H5.out).mono ?_; rintro e_ w_ ⟨rfl, ⟨q5, rfl⟩⟩) | (go_at_call 23; refine (indexes_calls _).mono ?_; rintro e_ w6 ⟨rfl, hb_⟩; have HBz := Aside0.mk (below_step (w := w) (by repeat (first | (with_reducible first | exact Below.refl _ _ | apply below_alloc | apply pw_below_drewN | apply below_drew1) | exact HBz.out | exact HBy.out | exact HBx.out | exact HBw.out | exact HBv.out | exact HBu.out | exact HBt.out | exact HBs.out)) hb_); clear hb_))
            go_ret
            exact ⟨rfl, (by repeat (first | (with_reducible first | exact Below.refl _ _ | apply below_alloc | apply pw_below_drewN | apply below_drew1) | exact HBz.out | exact HBy.out | exact HBx.out | exact HBw.out | exact HBv.out | exact HBu.out | exact HBt.out | exact HBs.out))⟩
          | true =>
            have ho := P3.out rfl
            have hcl := P5.out rfl a1 List.mem_cons_self
            have hw1 : wt a0 ≤ 4000 := by omega
            have hs2 : a1.size ≤ 4000 := by have := wt_mem (l := [a1]) List.mem_cons_self; omega
            obtain ⟨kS, kS2, hW⟩ := words_ok hw1 ho
            have HFB := Aside0.mk hW.fb
            have HW := Aside0.mk hW
            have HC2 : Aside0 (Cln a1 ∧ a1.size ≤ 4000) := ⟨⟨hcl, hs2⟩⟩
            obtain ⟨HH, hHH⟩ : ∃ HH, hitsN (ixL a0) a1 = HH := ⟨_, rfl⟩
            obtain ⟨f, hfe⟩ : ∃ f, ixF a0 = f := ⟨_, rfl⟩
            obtain ⟨a, ha⟩ : ∃ a, ians (ixL a0) (ixF a0) a1 = a := ⟨_, rfl⟩
            have e1 : a.f1 = HH.map (·.2) := by rw [← ha, ← hHH]; rfl
            have e2 : a.f2 = HH.map (fun h => run h.1 (f h.1)) := by rw [← ha, ← hHH, ← hfe]; rfl
            have e3 : a.f3 = callsAt f HH := by rw [← ha, ← hHH, ← hfe]; rfl
            rw [hfe] at HFB
            have hHl : HH.length ≤ 4000 := by rw [← hHH]; unfold hitsN; have := hits_len (ixL a0) (bs a1) (bs a1).length; rw [bs_len] at this ⊢; omega
            have n1 : a.f1.length = HH.length := by rw [e1, List.length_map]
            have n2 : a.f2.length = HH.length := by rw [e2, List.length_map]
            have hne : ((a.f1.length : Int) != (a.f2.length : Int)) = false := by rw [n1, n2]; simp
            have h3l : a.f3.length ≤ 100000000 := by
              have := calls_len f HFB.out HH hHl HH.length (0, 0) 0
              rw [List.take_length, ← e3] at this
              simpa using this
            obtain ⟨kh, hh⟩ := (same_ev a.f3 (by omega)).rounds
            have HAE := Aside0.mk ha
            have E1 := Aside0.mk e1
            have E2 := Aside0.mk e2
            have E3 := Aside0.mk e3
            have N1 := Aside0.mk n1
            have N2 := Aside0.mk n2
            have HH0 := Aside0.mk hh
            clear ho hcl hW hHH hfe ha e1 e2 e3 n1 n2 hh
            go_enter Try.func8, Try.ntmps8
            go_upto_region 6 with (first | (go_at_call 9; refine (PB.laws_zzFits3.calls k1 A0 c0 a0 _ _ (Kd.C_below HR0.out (by repeat (first | (with_reducible first | exact Below.refl _ _ | apply below_alloc | apply pw_below_drewN | apply below_drew1) | exact HBz.out | exact HBy.out | exact HBx.out | exact HBw.out | exact HBv.out | exact HBu.out | exact HBt.out | exact HBs.out))) hc0 H1.out).mono ?_; rintro e_ w_ ⟨rfl, ⟨q1, rfl⟩⟩) | (go_at_call 10; refine (PB.laws_few.calls k2 _ 2 [a0, [a1]] _ _ (new_two _ _ (size_at _ _ _ rfl) A0 _ c0 1 _ 1 a0 [a1] rfl rfl (Kd.C_below HR0.out (by repeat (first | (with_reducible first | exact Below.refl _ _ | apply below_alloc | apply pw_below_drewN | apply below_drew1) | exact HBz.out | exact HBy.out | exact HBx.out | exact HBw.out | exact HBv.out | exact HBu.out | exact HBt.out | exact HBs.out))) hc0 (new1 _ _ rfl [a1] _ _ rfl (by simp)) (by simp)) (by simp) H2.out).mono ?_; rintro e_ w_ ⟨rfl, ⟨q2, rfl⟩⟩) | (go_at_call 11; refine (PB.laws_ordered.calls k3 A0 c0 a0 _ _ _ (Kd.C_below HR0.out (by repeat (first | (with_reducible first | exact Below.refl _ _ | apply below_alloc | apply pw_below_drewN | apply below_drew1) | exact HBz.out | exact HBy.out | exact HBx.out | exact HBw.out | exact HBv.out | exact HBu.out | exact HBt.out | exact HBs.out))) hc0 H3.out).mono ?_; rintro e_ w3 ⟨rfl, hb_⟩; have HBs := Aside0.mk (below_step (w := w) (by repeat (first | (with_reducible first | exact Below.refl _ _ | apply below_alloc | apply pw_below_drewN | apply below_drew1) | exact HBz.out | exact HBy.out | exact HBx.out | exact HBw.out | exact HBv.out | exact HBu.out | exact HBt.out | exact HBs.out)) hb_); clear hb_) | (go_at_call 13; refine (PB.laws_clean.calls k5 _ 1 [a1] _ _ (new1 _ _ rfl [a1] _ _ rfl (by simp)) (by simp) H5.out).mono ?_; rintro e_ w_ ⟨rfl, ⟨q5, rfl⟩⟩) | (go_at_call 24; refine (lindex_calls _ A0 c0 kS kS2 a0 a1 a HAE.out (Kd.C_below HR0.out (by repeat (first | (with_reducible first | exact Below.refl _ _ | apply below_alloc | apply pw_below_drewN | apply below_drew1) | exact HBz.out | exact HBy.out | exact HBx.out | exact HBw.out | exact HBv.out | exact HBu.out | exact HBt.out | exact HBs.out))) hc0 HW.out HC2.out).mono ?_; rintro e_ w7 ⟨B0, B1, B2, B3, d0, d1, d2, d3, rfl, hrows, hb_⟩; have HRW := Aside0.mk hrows; have HBt := Aside0.mk (below_step (w := w) (by repeat (first | (with_reducible first | exact Below.refl _ _ | apply below_alloc | apply pw_below_drewN | apply below_drew1) | exact HBz.out | exact HBy.out | exact HBx.out | exact HBw.out | exact HBv.out | exact HBu.out | exact HBt.out | exact HBs.out)) hb_); clear hb_; clear hrows))
            obtain ⟨w8, hw8, bx, hb8⟩ : ∃ w8, w8 = w7.alloc (.cells #[.slice B0 a.f0.length d0, .slice B1 a.f1.length d1, .slice B2 a.f2.length d2, .slice B3 a.f3.length d3] 55) ∧ w8.heap[w7.heap.size]? = some (.cells #[.slice B0 a.f0.length d0, .slice B1 a.f1.length d1, .slice B2 a.f2.length d2, .slice B3 a.f3.length d3] 55 (0, 0)) ∧ Below w7.heap.size w7 w8 := ⟨_, rfl, blk_new _ _, below_alloc (Below.refl _ _) _⟩
            rw [← hw8]
            obtain ⟨xb, hxb⟩ : ∃ xb, w7.heap.size = xb := ⟨_, rfl⟩
            have hC1 := Kd.C_below (row_reads HRW.out.r1).2 hb8
            have hC2 := Kd.C_below (row_reads HRW.out.r2).2 hb8
            have hC3 := Kd.C_below (row_reads HRW.out.r3).2 hb8
            have hL3 := (row_reads HRW.out.r3).1
            rw [hxb] at bx ⊢
            have HBX := Aside0.mk bx
            have HC1 := Aside0.mk hC1
            have HCC2 := Aside0.mk hC2
            have HC3 := Aside0.mk hC3
            have HL3 := Aside0.mk hL3
            have HBq : Aside0 (Below w.heap.size w w8) := ⟨below_step HBt.out hb8⟩
            have x1 : w8.cell? ⟨xb, 1, none⟩ = some (.slice B1 a.f1.length d1) := by unfold World.cell?; simp [bx]
            have x2 : w8.cell? ⟨xb, 2, none⟩ = some (.slice B2 a.f2.length d2) := by unfold World.cell?; simp [bx]
            have HS0 : Aside0 (LwS w8 w8 (.slice none 0 0) (callsAt f (HH.take 0))) := ⟨⟨Below.refl _ _, Kd.R_nil _ _ _ _ _⟩⟩
            have hfb4 : a.f1.length ≤ 4000 := by have := N1.out; omega
            clear hw8 bx hb8 hxb hC1 hC2 hC3 hL3 HBt HRW
            go_wp2_with fail
            go_loopg [7, 8, 10, 57] a.f1.length (fun kq v7 v8 v10 v57 w' => ∃ (i : Nat), v57 = .int .i64 (i : Int) ∧ Aside0 (i + kq = a.f1.length) ∧ Aside0 (LwS w8 w' v7 (callsAt f (HH.take i))))
            case atStart => exact ⟨0, rfl, ⟨by omega⟩, HS0⟩
            case round =>
              clear HS0 x1 x2
              obtain ⟨i, rfl, HI, HS⟩ := hrel
              have hi := HI.out
              have hbx := (HS.out.below.block xb (Array.getElem?_eq_some_iff.1 HBX.out).1).trans HBX.out
              by_cases hil : i < a.f1.length
              · have hiz : (i : Int) < (a.f1.length : Int) := by omega
                have x1 : wr.cell? ⟨xb, 1, none⟩ = some (.slice B1 a.f1.length d1) := by unfold World.cell?; simp [hbx]
                have x2 : wr.cell? ⟨xb, 2, none⟩ = some (.slice B2 a.f2.length d2) := by unfold World.cell?; simp [hbx]
                obtain ⟨x, hx⟩ : ∃ x, HH[i]? = some x := ⟨_, List.getElem?_eq_getElem (by have := N1.out; omega)⟩
                obtain ⟨ad2, Ar, cr, rfl, hq2, hql, hqr⟩ := lists_at HCC2.out i (by have := N1.out; have := N2.out; omega)
                have hg2 : a.f2.getD i [] = run x.1 (f x.1) := by rw [E2.out, List.getD_eq_getElem?_getD, List.getElem?_map, hx]; rfl
                rw [hg2] at hq2 hql hqr
                have hk2 := (World.cell?_of_block (w := w8) (HS.out.below.block _ (cell_lt hq2))).trans hq2
                obtain ⟨ad1, rfl, hq1⟩ := int_cell HC1.out i hil
                have hg1 : a.f1.getD i 0 = x.2 := by rw [E1.out, List.getD_eq_getElem?_getD, List.getElem?_map, hx]; rfl
                rw [hg1] at hq1
                have HQ1 := Aside0.mk hq1
                have HQR := Aside0.mk hqr
                have HCT := Aside0.mk (callsAt_take f HH i x hx)
                have hil2 : i < a.f2.length := by have := N1.out; have := N2.out; omega
                have hil2z : (i : Int) < (a.f2.length : Int) := by omega
                have HS1 : Aside0 (LwS w8 wr u7 (callsAt f (HH.take i) ++ ((run x.1 (f x.1)).take 0).map (fun d => (⟨d, x.2⟩ : PB.S39)))) := ⟨by simpa using HS.out⟩
                have hrb : (run x.1 (f x.1)).length ≤ 4001 := by rw [run_len]; have := (HFB.out x.1).2; omega
                clear hq1 hq2 hqr hql hx hg1 hg2 hbx
                cases gk with
                | zero => omega
                | succ kz =>
                go_wp2_with fail
                go_loopg [7, 10, 66] (run x.1 (f x.1)).length (fun kq v7 v10 v66 w' => ∃ (j : Nat), v66 = .int .i64 (j : Int) ∧ Aside0 (j + kq = (run x.1 (f x.1)).length) ∧ Aside0 (LwS w8 w' v7 (callsAt f (HH.take i) ++ ((run x.1 (f x.1)).take j).map (fun d => (⟨d, x.2⟩ : PB.S39)))))
                case atStart => exact ⟨0, rfl, ⟨by omega⟩, HS1⟩
                case round =>
                  clear HS1 x1 x2 hk2
                  obtain ⟨j, rfl, HJ, HT⟩ := hrel
                  have hj := HJ.out
                  by_cases hjl : j < (run x.1 (f x.1)).length
                  · have hjz : (j : Int) < ((run x.1 (f x.1)).length : Int) := by omega
                    have hbx := (HT.out.below.block xb (Array.getElem?_eq_some_iff.1 HBX.out).1).trans HBX.out
                    have x1 : wr.cell? ⟨xb, 1, none⟩ = some (.slice (some ad1) a.f1.length d1) := by unfold World.cell?; simp [hbx]
                    obtain ⟨adr, rfl, hqj⟩ := int_cell HQR.out j hjl
                    have hkj := (World.cell?_of_block (w := w8) (HT.out.below.block _ (cell_lt hqj))).trans hqj
                    have hk1 := (World.cell?_of_block (w := w8) (HT.out.below.block _ (cell_lt HQ1.out))).trans HQ1.out
                    obtain ⟨dv, hdv⟩ : ∃ dv, (run x.1 (f x.1)).getD j 0 = dv := ⟨_, rfl⟩
                    rw [hdv] at hkj
                    have hsn : ((run x.1 (f x.1)).take (j + 1)).map (fun d => (⟨d, x.2⟩ : PB.S39)) = ((run x.1 (f x.1)).take j).map (fun d => (⟨d, x.2⟩ : PB.S39)) ++ [⟨dv, x.2⟩] := by
                      rw [List.take_add_one, List.getElem?_eq_getElem hjl, List.map_append, ← hdv, List.getD_eq_getElem?_getD, List.getElem?_eq_getElem hjl]; rfl
                    have HSN := Aside0.mk hsn
                    have hcl := calls_len f HFB.out HH hHl i x j
                    obtain ⟨xs, hxs⟩ : ∃ xs, callsAt f (HH.take i) ++ ((run x.1 (f x.1)).take j).map (fun d => (⟨d, x.2⟩ : PB.S39)) = xs := ⟨_, rfl⟩
                    rw [hxs] at hcl HT
                    have HXS := Aside0.mk hxs
                    clear hbx hqj hdv hsn hxs
                    cases gk with
                    | zero => omega
                    | succ kj =>
                    go_wp2_with (first | ((with_reducible refine gate_builtin (b := .append) (xs := #[.tmp 70, .tmp 78]) rfl ?_); at_builtin; refine Kd.R_append PB.k39 (w0 := w8) w8.heap.size rfl (.tmp 70) (.tmp 78) 32 39 (.agg #[.int .i64 0, .int .i64 0]) 16 rfl Try.underlying32 PB.info39 rfl (by decide) (by omega) u7 xs (⟨dv, x.2⟩ : PB.S39) [.int .i64 dv, .int .i64 x.2] (fun _ => True) (fun _ => False) rfl rfl (PB.k39_mkM _ _ _ _) (fun _ hk => hk.elim) (fun _ _ => trivial) HT.out.r HT.out.below HT.out.below.size (by omega) ?_; intro va wa ho hb hg hat; have HT2 : Aside0 (LwS w8 wa va (xs ++ [⟨dv, x.2⟩])) := ⟨⟨hb, ho⟩⟩; clear ho hb hg hat))
                    go_roundg kj
                    case measure => omega
                    case rel => exact ⟨j + 1, congrArg (Value.int .i64) (by omega), ⟨by omega⟩, ⟨by rw [HSN.out, ← List.append_assoc, HXS.out]; exact HT2.out⟩⟩
                  · have hjz : ¬ (j : Int) < ((run x.1 (f x.1)).length : Int) := by omega
                    have hje : j = (run x.1 (f x.1)).length := by omega
                    have hT := HT.out
                    rw [hje, List.take_length, ← HCT.out] at hT
                    have HT3 := Aside0.mk hT
                    clear hT hje
                    go_wp2_with fail
                    go_roundg kz
                    case measure => omega
                    case rel => exact ⟨i + 1, congrArg (Value.int .i64) (by omega), ⟨by omega⟩, HT3⟩
              · have hiz : ¬ (i : Int) < (a.f1.length : Int) := by omega
                have hie : i = HH.length := by have := N1.out; omega
                have hT := HS.out
                rw [hie, List.take_length, ← E3.out] at hT
                obtain ⟨Av, cv, rfl, lv, gv⟩ := Kd.R_reads hT.r
                have x3 : wr.cell? ⟨xb, 3, none⟩ = some (.slice B3 a.f3.length d3) := by unfold World.cell?; simp [hbx]
                have HGV := Aside0.mk gv
                have HBu := Aside0.mk (below_step HBq.out hT.below)
                have HC3r := Aside0.mk (Kd.C_below HC3.out hT.below)
                clear hT gv hbx hie HBq
                go_wp2_with (first | (go_at_call 16; (with_reducible refine Calls.mono (PB.impl_Hit.calls kh B3 d3 a.f3 Av cv a.f3 true _ HC3r.out HL3.out HGV.out lv HH0.out) ?_); rintro e_ w_ ⟨rfl, ⟨q8, rfl⟩⟩) | (go_at_call 23; refine (indexes_calls _).mono ?_; rintro e_ w6 ⟨rfl, hb_⟩; have HBz := Aside0.mk (below_step (w := w) (by repeat (first | (with_reducible first | exact Below.refl _ _ | apply below_alloc | apply pw_below_drewN | apply below_drew1) | exact HBz.out | exact HBy.out | exact HBx.out | exact HBw.out | exact HBv.out | exact HBu.out | exact HBt.out | exact HBs.out)) hb_); clear hb_))
                go_ret
                exact ⟨rfl, (by repeat (first | (with_reducible first | exact Below.refl _ _ | apply below_alloc | apply pw_below_drewN | apply below_drew1) | exact HBz.out | exact HBy.out | exact HBx.out | exact HBw.out | exact HBv.out | exact HBu.out | exact HBt.out | exact HBs.out))⟩
      · rw [decide_eq_false hw] at h2
        have H2 := Aside0.mk h2
        clear h2
        go_enter Try.func8, Try.ntmps8
        go_wp2_with (first | (go_at_call 9; refine (PB.laws_zzFits3.calls k1 A0 c0 a0 _ _ (Kd.C_below HR0.out (by repeat (first | (with_reducible first | exact Below.refl _ _ | apply below_alloc | apply pw_below_drewN | apply below_drew1) | exact HBz.out | exact HBy.out | exact HBx.out | exact HBw.out | exact HBv.out | exact HBu.out | exact HBt.out | exact HBs.out))) hc0 H1.out).mono ?_; rintro e_ w_ ⟨rfl, ⟨q1, rfl⟩⟩) | (go_at_call 10; refine (PB.laws_few.calls k2 _ 2 [a0, [a1]] _ _ (new_two _ _ (size_at _ _ _ rfl) A0 _ c0 1 _ 1 a0 [a1] rfl rfl (Kd.C_below HR0.out (by repeat (first | (with_reducible first | exact Below.refl _ _ | apply below_alloc | apply pw_below_drewN | apply below_drew1) | exact HBz.out | exact HBy.out | exact HBx.out | exact HBw.out | exact HBv.out | exact HBu.out | exact HBt.out | exact HBs.out))) hc0 (new1 _ _ rfl [a1] _ _ rfl (by simp)) (by simp)) (by simp) H2.out).mono ?_; rintro e_ w_ ⟨rfl, ⟨q2, rfl⟩⟩) | (go_at_call 11; refine (PB.laws_ordered.calls k3 A0 c0 a0 _ _ _ (Kd.C_below HR0.out (by repeat (first | (with_reducible first | exact Below.refl _ _ | apply below_alloc | apply pw_below_drewN | apply below_drew1) | exact HBz.out | exact HBy.out | exact HBx.out | exact HBw.out | exact HBv.out | exact HBu.out | exact HBt.out | exact HBs.out))) hc0 H3.out).mono ?_; rintro e_ w3 ⟨rfl, hb_⟩; have HBs := Aside0.mk (below_step (w := w) (by repeat (first | (with_reducible first | exact Below.refl _ _ | apply below_alloc | apply pw_below_drewN | apply below_drew1) | exact HBz.out | exact HBy.out | exact HBx.out | exact HBw.out | exact HBv.out | exact HBu.out | exact HBt.out | exact HBs.out)) hb_); clear hb_) | (go_at_call 13; refine (PB.laws_clean.calls k5 _ 1 [a1] _ _ (new1 _ _ rfl [a1] _ _ rfl (by simp)) (by simp) H5.out).mono ?_; rintro e_ w_ ⟨rfl, ⟨q5, rfl⟩⟩) | (go_at_call 23; refine (indexes_calls _).mono ?_; rintro e_ w6 ⟨rfl, hb_⟩; have HBz := Aside0.mk (below_step (w := w) (by repeat (first | (with_reducible first | exact Below.refl _ _ | apply below_alloc | apply pw_below_drewN | apply below_drew1) | exact HBz.out | exact HBy.out | exact HBx.out | exact HBw.out | exact HBv.out | exact HBu.out | exact HBt.out | exact HBs.out)) hb_); clear hb_))
        go_ret
        exact ⟨rfl, (by repeat (first | (with_reducible first | exact Below.refl _ _ | apply below_alloc | apply pw_below_drewN | apply below_drew1) | exact HBz.out | exact HBy.out | exact HBx.out | exact HBw.out | exact HBv.out | exact HBu.out | exact HBt.out | exact HBs.out))⟩
end Go.Proofs.Ytaejkbjepbifcaa.Da
