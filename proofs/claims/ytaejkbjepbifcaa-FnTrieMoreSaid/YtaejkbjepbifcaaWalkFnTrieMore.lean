/- laws.FnTrieMore: the walk. -/
import Derived.Test.YtaejkbjepbifcaaG2
namespace Go.Proofs.Ytaejkbjepbifcaa.Da
open Go.RowKit Go.Proofs.YtaejkbjepbifcaaW.PrintWords Go.Proofs.Ytaejkbjepbifcaa.Plain
set_option linter.unusedVariables false
set_option linter.unusedSimpArgs false
theorem take_app {a b : List Int} {n : Nat} (h : n ≤ a.length) : (a ++ b).take n = a.take n := by rw [List.take_append_of_le_length h]
theorem hits_app (L : Keys) (a b : List Int) : ∀ n, n ≤ a.length → hitsTo L (a ++ b) n = hitsTo L a n
  | 0, _ => rfl
  | n + 1, h => by
    have ih := hits_app L a b n (by omega)
    have e : hitAt L (a ++ b) n = hitAt L a n := by unfold hitAt; rw [take_app (by omega)]
    simp only [hitsTo]
    rw [ih, e]
theorem hits_rest (L : Keys) (w : List Int) (a : Nat) : ∀ d, ∃ R, hitsTo L w (a + d) = hitsTo L w a ++ R ∧ ∀ h ∈ R, (a : Int) < h.2
  | 0 => ⟨[], by simp, fun h hh => by cases hh⟩
  | d + 1 => by
    obtain ⟨R, h1, h2⟩ := hits_rest L w a d
    rw [show a + (d + 1) = (a + d) + 1 by omega]
    cases hv : hitAt L w (a + d) with
    | none => exact ⟨R, by rw [hits_none hv, h1], h2⟩
    | some v =>
      refine ⟨R ++ [(v, ((a + d : Nat) : Int) + 1)], by rw [hits_some hv, h1, List.append_assoc], fun h hh => ?_⟩
      rcases List.mem_append.1 hh with hh | hh
      · exact h2 h hh
      · rw [List.mem_singleton.1 hh]
        show (a : Int) < ((a + d : Nat) : Int) + 1
        omega
theorem bs_app (s t : ByteArray) : bs (s ++ t) = bs s ++ bs t := by
  unfold bs
  rw [app_data, List.map_append]
theorem more_hits (L : Keys) (s t : ByteArray) : ∃ R, hitsS L (bs (s ++ t)) (bs (s ++ t)).length = hitsS L (bs s) (bs s).length ++ R ∧ ∀ h ∈ R, (s.size : Int) < h.f1 := by
  obtain ⟨R, h1, h2⟩ := hits_rest L (bs (s ++ t)) (bs s).length (bs t).length
  have e : (bs (s ++ t)).length = (bs s).length + (bs t).length := by rw [bs_app, List.length_append]
  refine ⟨R.map (fun h => ⟨h.1, h.2⟩), ?_, fun h hh => ?_⟩
  · unfold hitsS
    rw [e, h1, List.map_append, bs_app, hits_app L _ _ _ (Nat.le_refl _)]
  · obtain ⟨x, hx, rfl⟩ := List.mem_map.1 hh
    have := h2 x hx
    rw [bs_len] at this
    exact this
theorem cln_app {s t : ByteArray} (h1 : Cln s) (h2 : Cln t) : Cln (s ++ t) := by
  unfold Cln
  rw [bs_app]
  intro c hc
  rcases List.mem_append.1 hc with h | h
  · exact h1 c h
  · exact h2 c h
/-- What laws.trie hands back, the hits under a name. -/
def TrL (W w' : World) (L : Keys) (s : ByteArray) (e : Ending) : Prop := ∃ (A4 : Option Addr) (c4 : Nat) (A5 : Option Addr) (c5 : Nat) (X : List PB.S39) (u0 : Int) (u1 : Bool) (u2 : Int) (u3 : Bool), e = .returned (.tuple #[.agg #[.int .i64 u0, .bool u1, .int .i64 u2, .bool u3, .slice A4 X.length c4, .slice A5 X.length c5], .bool true]) ∧ Aside0 (X = hitsS L (bs s) (bs s).length) ∧ Aside0 (X.length ≤ c4 ∧ Kd.C PB.k39 w' A4 X.length X) ∧ Aside0 (X ≠ [] → ∃ g, A4 = some ⟨g, 0, none⟩) ∧ Below W.heap.size W w'
theorem ltrie_any (W : World) (A0 A1 : Option Addr) (c0 c1 k : Nat) (ss : List ByteArray) (s : ByteArray) (ds : List Int) (hr0 : Kd.C Kd.string W A0 ss.length ss) (hc0 : ss.length ≤ c0) (hr1 : Kd.C (Kd.int .i64) W A1 ds.length ds) (hc1 : ds.length ≤ c1) (hs : PB.slices_IsSorted_string_string.f k ss = some true) (K : KeysOk ss ds) (hI : Cln s ∧ s.size ≤ 1000000000) :
    Calls Try.prog 15 #[.slice A0 ss.length c0, .slice A1 ds.length c1, .string s] W fun e w' => TrL W w' (keysAll ss ds) s e := by
  refine (ltrie_calls W A0 A1 c0 c1 k ss s ds hr0 hc0 hr1 hc1 hs K hI).mono ?_
  rintro e w' ⟨A4, c4, A5, c5, rfl, h4, h5, hb⟩
  exact ⟨A4, c4, A5, c5, _, _, _, _, _, rfl, ⟨rfl⟩, ⟨row_reads h4⟩, ⟨fun hne => by obtain ⟨g, c, e, _⟩ := own_head h4 hne; cases e; exact ⟨g, rfl⟩⟩, hb⟩
theorem hit_at {w : World} {A : Option Addr} {Y : List PB.S39} {n i g : Nat} (h : Kd.C PB.k39 w A Y.length Y) (hg : A = some ⟨g, 0, none⟩) (hi : n + i < Y.length) : ∃ p, Y[n + i]? = some p ∧ w.cell? ⟨g, n * 2 + i * 2, none⟩ = some (.int .i64 p.f0) ∧ w.cell? ⟨g, n * 2 + i * 2 + 1, none⟩ = some (.int .i64 p.f1) := by
  subst hg
  obtain ⟨ad, e, hx⟩ := h.2.2 (by omega)
  cases e
  have hj : Y[n + i]? = some Y[n + i] := List.getElem?_eq_getElem hi
  obtain ⟨cs, _, hK, hc⟩ := hx _ _ hj
  obtain rfl := PB.k39_open hK
  have e3 : ∀ q, (⟨g, 0, none⟩ : Addr).add ((n + i) * PB.k39.sz + q) = ⟨g, n * 2 + i * 2 + q, none⟩ := fun q => by
    show (⟨g, 0, none⟩ : Addr).add ((n + i) * 2 + q) = _
    rw [add_at0, Nat.zero_add, Nat.add_mul]
  refine ⟨_, hj, ?_, ?_⟩
  · have := hc 0 _ rfl; rw [e3] at this; exact this
  · have := hc 1 _ rfl; rw [e3] at this; exact this
theorem row_take {w : World} {A : Option Addr} {X Y R : List PB.S39} (e : Y = X ++ R) (h : Kd.C PB.k39 w A Y.length Y) : Kd.C PB.k39 w A X.length X := by
  have hl : X.length ≤ Y.length := by rw [e, List.length_append]; omega
  refine ⟨rfl, by have := h.2.1; omega, fun h0 => ?_⟩
  obtain ⟨ad, e1, h1⟩ := h.2.2 (by omega)
  exact ⟨ad, e1, fun j p hj => h1 j p (by rw [e, List.getElem?_append_left (by have := (List.getElem?_eq_some_iff.1 hj).1; omega)]; exact hj)⟩
set_option maxHeartbeats 16000000 in
set_option maxRecDepth 100000 in
theorem walk_more (A0 : Option Addr) (c0 : Nat) (a0 : (List ByteArray)) (A1 : Option Addr) (c1 : Nat) (a1 : (List Int)) (a2 : ByteArray) (a3 : ByteArray) (w : World) (hr0 : Kd.C Kd.string w A0 a0.length a0) (hc0 : a0.length ≤ c0) (hg0 : a0.length * 16 ≤ 140737488351232 ∧ ∀ y0 ∈ a0, y0.size ≤ 140737488351232) (hr1 : Kd.C (Kd.int .i64) w A1 a1.length a1) (hc1 : a1.length ≤ c1) (hg1 : a1.length * 8 ≤ 140737488351232 ∧ ∀ y0 ∈ a1, (Lit.int .i64 y0).wf = true) (hg2 : a2.size ≤ 140737488351232) (hg3 : a3.size ≤ 140737488351232) :
    Calls Try.prog 4 #[.slice A0 a0.length c0, .slice A1 a1.length c1, .string a2, .string a3] w fun e w' => e = .returned (.bool true) ∧ Below w.heap.size w w' := by
  have HR0 := Aside0.mk hr0
  have HR1 := Aside0.mk hr1
  have hl0 : a0.length ≤ 8796093021952 := by omega
  have hl1 : a1.length ≤ 17592186043904 := by omega
  obtain ⟨r1, h1, p1⟩ := zf_ev a0 (by omega)
  obtain ⟨k1, h1⟩ := h1.rounds
  have H1 := Aside0.mk h1
  have P1 := Aside0.mk p1
  clear hr0 hr1 h1 p1 hg0 hg1
  cases r1 with
  | false =>
    go_enter Try.func4, Try.ntmps4
    go_wp2_with (first | (go_at_call 9; refine (PB.laws_zzFits3.calls k1 A0 c0 a0 _ _ (Kd.C_below HR0.out (by repeat (first | (with_reducible first | exact Below.refl _ _ | apply below_alloc | apply pw_below_drewN | apply below_drew1) | exact HBz.out | exact HBy.out | exact HBx.out | exact HBw.out | exact HBv.out | exact HBu.out | exact HBt.out | exact HBs.out))) hc0 H1.out).mono ?_; rintro e_ w_ ⟨rfl, ⟨q1, rfl⟩⟩) | (go_at_call 10; refine (PB.laws_few.calls k2 _ 2 [a0, [a2, a3]] _ _ (new_two _ _ (size_at _ _ _ rfl) A0 _ c0 2 _ 2 a0 [a2, a3] rfl rfl (Kd.C_below HR0.out (by repeat (first | (with_reducible first | exact Below.refl _ _ | apply below_alloc | apply pw_below_drewN | apply below_drew1) | exact HBz.out | exact HBy.out | exact HBx.out | exact HBw.out | exact HBv.out | exact HBu.out | exact HBt.out | exact HBs.out))) hc0 (new1 _ _ rfl [a2, a3] _ _ rfl (by simp)) (by simp)) (by simp) H2.out).mono ?_; rintro e_ w_ ⟨rfl, ⟨q2, rfl⟩⟩) | (go_at_call 11; refine (PB.laws_ordered.calls k3 A0 c0 a0 _ _ _ (Kd.C_below HR0.out (by repeat (first | (with_reducible first | exact Below.refl _ _ | apply below_alloc | apply pw_below_drewN | apply below_drew1) | exact HBz.out | exact HBy.out | exact HBx.out | exact HBw.out | exact HBv.out | exact HBu.out | exact HBt.out | exact HBs.out))) hc0 H3.out).mono ?_; rintro e_ w3 ⟨rfl, hb_⟩; have HBs := Aside0.mk (below_step (w := w) (by repeat (first | (with_reducible first | exact Below.refl _ _ | apply below_alloc | apply pw_below_drewN | apply below_drew1) | exact HBz.out | exact HBy.out | exact HBx.out | exact HBw.out | exact HBv.out | exact HBu.out | exact HBt.out | exact HBs.out)) hb_); clear hb_) | (go_at_call 12; refine (PB.laws_goodIDs.calls k4 A1 c1 a1 _ _ _ (Kd.C_below HR1.out (by repeat (first | (with_reducible first | exact Below.refl _ _ | apply below_alloc | apply pw_below_drewN | apply below_drew1) | exact HBz.out | exact HBy.out | exact HBx.out | exact HBw.out | exact HBv.out | exact HBu.out | exact HBt.out | exact HBs.out))) hc1 H4.out).mono ?_; rintro e_ w_ ⟨rfl, ⟨q4, rfl⟩⟩) | (go_at_call 13; refine (PB.laws_clean.calls k5 _ 2 [a2, a3] _ _ (new1 _ _ rfl [a2, a3] _ _ rfl (by simp)) (by simp) H5.out).mono ?_; rintro e_ w_ ⟨rfl, ⟨q5, rfl⟩⟩) | (go_at_call 14; refine (builds_calls _).mono ?_; rintro e_ w6 ⟨rfl, hb_⟩; have HBz := Aside0.mk (below_step (w := w) (by repeat (first | (with_reducible first | exact Below.refl _ _ | apply below_alloc | apply pw_below_drewN | apply below_drew1) | exact HBz.out | exact HBy.out | exact HBx.out | exact HBw.out | exact HBv.out | exact HBu.out | exact HBt.out | exact HBs.out)) hb_); clear hb_))
    go_ret
    exact ⟨rfl, (by repeat (first | (with_reducible first | exact Below.refl _ _ | apply below_alloc | apply pw_below_drewN | apply below_drew1) | exact HBz.out | exact HBy.out | exact HBx.out | exact HBw.out | exact HBv.out | exact HBu.out | exact HBt.out | exact HBs.out))⟩
  | true =>
    have hf := P1.out rfl
    have HF := Aside0.mk hf
    have hn1 := hf.1
    clear hf
    by_cases g1 : a1.length > 2147483647
    · have g1z : (a1.length : Int) > 2147483647 := by omega
      go_enter Try.func4, Try.ntmps4
      go_wp2_with (first | (go_at_call 9; refine (PB.laws_zzFits3.calls k1 A0 c0 a0 _ _ (Kd.C_below HR0.out (by repeat (first | (with_reducible first | exact Below.refl _ _ | apply below_alloc | apply pw_below_drewN | apply below_drew1) | exact HBz.out | exact HBy.out | exact HBx.out | exact HBw.out | exact HBv.out | exact HBu.out | exact HBt.out | exact HBs.out))) hc0 H1.out).mono ?_; rintro e_ w_ ⟨rfl, ⟨q1, rfl⟩⟩) | (go_at_call 10; refine (PB.laws_few.calls k2 _ 2 [a0, [a2, a3]] _ _ (new_two _ _ (size_at _ _ _ rfl) A0 _ c0 2 _ 2 a0 [a2, a3] rfl rfl (Kd.C_below HR0.out (by repeat (first | (with_reducible first | exact Below.refl _ _ | apply below_alloc | apply pw_below_drewN | apply below_drew1) | exact HBz.out | exact HBy.out | exact HBx.out | exact HBw.out | exact HBv.out | exact HBu.out | exact HBt.out | exact HBs.out))) hc0 (new1 _ _ rfl [a2, a3] _ _ rfl (by simp)) (by simp)) (by simp) H2.out).mono ?_; rintro e_ w_ ⟨rfl, ⟨q2, rfl⟩⟩) | (go_at_call 11; refine (PB.laws_ordered.calls k3 A0 c0 a0 _ _ _ (Kd.C_below HR0.out (by repeat (first | (with_reducible first | exact Below.refl _ _ | apply below_alloc | apply pw_below_drewN | apply below_drew1) | exact HBz.out | exact HBy.out | exact HBx.out | exact HBw.out | exact HBv.out | exact HBu.out | exact HBt.out | exact HBs.out))) hc0 H3.out).mono ?_; rintro e_ w3 ⟨rfl, hb_⟩; have HBs := Aside0.mk (below_step (w := w) (by repeat (first | (with_reducible first | exact Below.refl _ _ | apply below_alloc | apply pw_below_drewN | apply below_drew1) | exact HBz.out | exact HBy.out | exact HBx.out | exact HBw.out | exact HBv.out | exact HBu.out | exact HBt.out | exact HBs.out)) hb_); clear hb_) | (go_at_call 12; refine (PB.laws_goodIDs.calls k4 A1 c1 a1 _ _ _ (Kd.C_below HR1.out (by repeat (first | (with_reducible first | exact Below.refl _ _ | apply below_alloc | apply pw_below_drewN | apply below_drew1) | exact HBz.out | exact HBy.out | exact HBx.out | exact HBw.out | exact HBv.out | exact HBu.out | exact HBt.out | exact HBs.out))) hc1 H4.out).mono ?_; rintro e_ w_ ⟨rfl, ⟨q4, rfl⟩⟩) | (go_at_call 13; refine (PB.laws_clean.calls k5 _ 2 [a2, a3] _ _ (new1 _ _ rfl [a2, a3] _ _ rfl (by simp)) (by simp) H5.out).mono ?_; rintro e_ w_ ⟨rfl, ⟨q5, rfl⟩⟩) | (go_at_call 14; refine (builds_calls _).mono ?_; rintro e_ w6 ⟨rfl, hb_⟩; have HBz := Aside0.mk (below_step (w := w) (by repeat (first | (with_reducible first | exact Below.refl _ _ | apply below_alloc | apply pw_below_drewN | apply below_drew1) | exact HBz.out | exact HBy.out | exact HBx.out | exact HBw.out | exact HBv.out | exact HBu.out | exact HBt.out | exact HBs.out)) hb_); clear hb_))
      go_ret
      exact ⟨rfl, (by repeat (first | (with_reducible first | exact Below.refl _ _ | apply below_alloc | apply pw_below_drewN | apply below_drew1) | exact HBz.out | exact HBy.out | exact HBx.out | exact HBw.out | exact HBv.out | exact HBu.out | exact HBt.out | exact HBs.out))⟩
    · have g1z : ¬ (a1.length : Int) > 2147483647 := by omega
      by_cases g2 : a2.size > 2147483647
      · have g2z : (a2.size : Int) > 2147483647 := by omega
        go_enter Try.func4, Try.ntmps4
        go_wp2_with (first | (go_at_call 9; refine (PB.laws_zzFits3.calls k1 A0 c0 a0 _ _ (Kd.C_below HR0.out (by repeat (first | (with_reducible first | exact Below.refl _ _ | apply below_alloc | apply pw_below_drewN | apply below_drew1) | exact HBz.out | exact HBy.out | exact HBx.out | exact HBw.out | exact HBv.out | exact HBu.out | exact HBt.out | exact HBs.out))) hc0 H1.out).mono ?_; rintro e_ w_ ⟨rfl, ⟨q1, rfl⟩⟩) | (go_at_call 10; refine (PB.laws_few.calls k2 _ 2 [a0, [a2, a3]] _ _ (new_two _ _ (size_at _ _ _ rfl) A0 _ c0 2 _ 2 a0 [a2, a3] rfl rfl (Kd.C_below HR0.out (by repeat (first | (with_reducible first | exact Below.refl _ _ | apply below_alloc | apply pw_below_drewN | apply below_drew1) | exact HBz.out | exact HBy.out | exact HBx.out | exact HBw.out | exact HBv.out | exact HBu.out | exact HBt.out | exact HBs.out))) hc0 (new1 _ _ rfl [a2, a3] _ _ rfl (by simp)) (by simp)) (by simp) H2.out).mono ?_; rintro e_ w_ ⟨rfl, ⟨q2, rfl⟩⟩) | (go_at_call 11; refine (PB.laws_ordered.calls k3 A0 c0 a0 _ _ _ (Kd.C_below HR0.out (by repeat (first | (with_reducible first | exact Below.refl _ _ | apply below_alloc | apply pw_below_drewN | apply below_drew1) | exact HBz.out | exact HBy.out | exact HBx.out | exact HBw.out | exact HBv.out | exact HBu.out | exact HBt.out | exact HBs.out))) hc0 H3.out).mono ?_; rintro e_ w3 ⟨rfl, hb_⟩; have HBs := Aside0.mk (below_step (w := w) (by repeat (first | (with_reducible first | exact Below.refl _ _ | apply below_alloc | apply pw_below_drewN | apply below_drew1) | exact HBz.out | exact HBy.out | exact HBx.out | exact HBw.out | exact HBv.out | exact HBu.out | exact HBt.out | exact HBs.out)) hb_); clear hb_) | (go_at_call 12; refine (PB.laws_goodIDs.calls k4 A1 c1 a1 _ _ _ (Kd.C_below HR1.out (by repeat (first | (with_reducible first | exact Below.refl _ _ | apply below_alloc | apply pw_below_drewN | apply below_drew1) | exact HBz.out | exact HBy.out | exact HBx.out | exact HBw.out | exact HBv.out | exact HBu.out | exact HBt.out | exact HBs.out))) hc1 H4.out).mono ?_; rintro e_ w_ ⟨rfl, ⟨q4, rfl⟩⟩) | (go_at_call 13; refine (PB.laws_clean.calls k5 _ 2 [a2, a3] _ _ (new1 _ _ rfl [a2, a3] _ _ rfl (by simp)) (by simp) H5.out).mono ?_; rintro e_ w_ ⟨rfl, ⟨q5, rfl⟩⟩) | (go_at_call 14; refine (builds_calls _).mono ?_; rintro e_ w6 ⟨rfl, hb_⟩; have HBz := Aside0.mk (below_step (w := w) (by repeat (first | (with_reducible first | exact Below.refl _ _ | apply below_alloc | apply pw_below_drewN | apply below_drew1) | exact HBz.out | exact HBy.out | exact HBx.out | exact HBw.out | exact HBv.out | exact HBu.out | exact HBt.out | exact HBs.out)) hb_); clear hb_))
        go_ret
        exact ⟨rfl, (by repeat (first | (with_reducible first | exact Below.refl _ _ | apply below_alloc | apply pw_below_drewN | apply below_drew1) | exact HBz.out | exact HBy.out | exact HBx.out | exact HBw.out | exact HBv.out | exact HBu.out | exact HBt.out | exact HBs.out))⟩
      · have g2z : ¬ (a2.size : Int) > 2147483647 := by omega
        by_cases g3 : a3.size > 2147483647
        · have g3z : (a3.size : Int) > 2147483647 := by omega
          go_enter Try.func4, Try.ntmps4
          go_wp2_with (first | (go_at_call 9; refine (PB.laws_zzFits3.calls k1 A0 c0 a0 _ _ (Kd.C_below HR0.out (by repeat (first | (with_reducible first | exact Below.refl _ _ | apply below_alloc | apply pw_below_drewN | apply below_drew1) | exact HBz.out | exact HBy.out | exact HBx.out | exact HBw.out | exact HBv.out | exact HBu.out | exact HBt.out | exact HBs.out))) hc0 H1.out).mono ?_; rintro e_ w_ ⟨rfl, ⟨q1, rfl⟩⟩) | (go_at_call 10; refine (PB.laws_few.calls k2 _ 2 [a0, [a2, a3]] _ _ (new_two _ _ (size_at _ _ _ rfl) A0 _ c0 2 _ 2 a0 [a2, a3] rfl rfl (Kd.C_below HR0.out (by repeat (first | (with_reducible first | exact Below.refl _ _ | apply below_alloc | apply pw_below_drewN | apply below_drew1) | exact HBz.out | exact HBy.out | exact HBx.out | exact HBw.out | exact HBv.out | exact HBu.out | exact HBt.out | exact HBs.out))) hc0 (new1 _ _ rfl [a2, a3] _ _ rfl (by simp)) (by simp)) (by simp) H2.out).mono ?_; rintro e_ w_ ⟨rfl, ⟨q2, rfl⟩⟩) | (go_at_call 11; refine (PB.laws_ordered.calls k3 A0 c0 a0 _ _ _ (Kd.C_below HR0.out (by repeat (first | (with_reducible first | exact Below.refl _ _ | apply below_alloc | apply pw_below_drewN | apply below_drew1) | exact HBz.out | exact HBy.out | exact HBx.out | exact HBw.out | exact HBv.out | exact HBu.out | exact HBt.out | exact HBs.out))) hc0 H3.out).mono ?_; rintro e_ w3 ⟨rfl, hb_⟩; have HBs := Aside0.mk (below_step (w := w) (by repeat (first | (with_reducible first | exact Below.refl _ _ | apply below_alloc | apply pw_below_drewN | apply below_drew1) | exact HBz.out | exact HBy.out | exact HBx.out | exact HBw.out | exact HBv.out | exact HBu.out | exact HBt.out | exact HBs.out)) hb_); clear hb_) | (go_at_call 12; refine (PB.laws_goodIDs.calls k4 A1 c1 a1 _ _ _ (Kd.C_below HR1.out (by repeat (first | (with_reducible first | exact Below.refl _ _ | apply below_alloc | apply pw_below_drewN | apply below_drew1) | exact HBz.out | exact HBy.out | exact HBx.out | exact HBw.out | exact HBv.out | exact HBu.out | exact HBt.out | exact HBs.out))) hc1 H4.out).mono ?_; rintro e_ w_ ⟨rfl, ⟨q4, rfl⟩⟩) | (go_at_call 13; refine (PB.laws_clean.calls k5 _ 2 [a2, a3] _ _ (new1 _ _ rfl [a2, a3] _ _ rfl (by simp)) (by simp) H5.out).mono ?_; rintro e_ w_ ⟨rfl, ⟨q5, rfl⟩⟩) | (go_at_call 14; refine (builds_calls _).mono ?_; rintro e_ w6 ⟨rfl, hb_⟩; have HBz := Aside0.mk (below_step (w := w) (by repeat (first | (with_reducible first | exact Below.refl _ _ | apply below_alloc | apply pw_below_drewN | apply below_drew1) | exact HBz.out | exact HBy.out | exact HBx.out | exact HBw.out | exact HBv.out | exact HBu.out | exact HBt.out | exact HBs.out)) hb_); clear hb_))
          go_ret
          exact ⟨rfl, (by repeat (first | (with_reducible first | exact Below.refl _ _ | apply below_alloc | apply pw_below_drewN | apply below_drew1) | exact HBz.out | exact HBy.out | exact HBx.out | exact HBw.out | exact HBv.out | exact HBu.out | exact HBt.out | exact HBs.out))⟩
        · have g3z : ¬ (a3.size : Int) > 2147483647 := by omega
          have hfs : Fits [a2, a3] := ⟨by simp, fun t ht => by simp only [List.mem_cons, List.not_mem_nil, or_false] at ht; rcases ht with rfl | rfl <;> omega⟩
          have h2 := few_ev2 a0 [a2, a3] HF.out hfs
          obtain ⟨k2, h2⟩ := h2.rounds
          obtain ⟨r3, h3, p3⟩ := ord_ev a0 false HF.out
          obtain ⟨k3, h3⟩ := h3.rounds
          obtain ⟨r4, h4, p4⟩ := ids_ev a1 (a0.length : Int) (by omega)
          obtain ⟨k4, h4⟩ := h4.rounds
          obtain ⟨r5, h5, p5⟩ := clean_ev [a2, a3] hfs
          obtain ⟨k5, h5⟩ := h5.rounds
          have H3 := Aside0.mk h3
          have H4 := Aside0.mk h4
          have H5 := Aside0.mk h5
          have P3 := Aside0.mk p3
          have P4 := Aside0.mk p4
          have P5 := Aside0.mk p5
          clear h3 h4 h5 p3 p4 p5
          by_cases hw : wt a0 + wt [a2, a3] ≤ 4000
          · rw [decide_eq_true hw] at h2
            have H2 := Aside0.mk h2
            clear h2
            cases r3 with
            | false =>
              go_enter Try.func4, Try.ntmps4
              go_wp2_with (first | (go_at_call 9; refine (PB.laws_zzFits3.calls k1 A0 c0 a0 _ _ (Kd.C_below HR0.out (by repeat (first | (with_reducible first | exact Below.refl _ _ | apply below_alloc | apply pw_below_drewN | apply below_drew1) | exact HBz.out | exact HBy.out | exact HBx.out | exact HBw.out | exact HBv.out | exact HBu.out | exact HBt.out | exact HBs.out))) hc0 H1.out).mono ?_; rintro e_ w_ ⟨rfl, ⟨q1, rfl⟩⟩) | (go_at_call 10; refine (PB.laws_few.calls k2 _ 2 [a0, [a2, a3]] _ _ (new_two _ _ (size_at _ _ _ rfl) A0 _ c0 2 _ 2 a0 [a2, a3] rfl rfl (Kd.C_below HR0.out (by repeat (first | (with_reducible first | exact Below.refl _ _ | apply below_alloc | apply pw_below_drewN | apply below_drew1) | exact HBz.out | exact HBy.out | exact HBx.out | exact HBw.out | exact HBv.out | exact HBu.out | exact HBt.out | exact HBs.out))) hc0 (new1 _ _ rfl [a2, a3] _ _ rfl (by simp)) (by simp)) (by simp) H2.out).mono ?_; rintro e_ w_ ⟨rfl, ⟨q2, rfl⟩⟩) | (go_at_call 11; refine (PB.laws_ordered.calls k3 A0 c0 a0 _ _ _ (Kd.C_below HR0.out (by repeat (first | (with_reducible first | exact Below.refl _ _ | apply below_alloc | apply pw_below_drewN | apply below_drew1) | exact HBz.out | exact HBy.out | exact HBx.out | exact HBw.out | exact HBv.out | exact HBu.out | exact HBt.out | exact HBs.out))) hc0 H3.out).mono ?_; rintro e_ w3 ⟨rfl, hb_⟩; have HBs := Aside0.mk (below_step (w := w) (by repeat (first | (with_reducible first | exact Below.refl _ _ | apply below_alloc | apply pw_below_drewN | apply below_drew1) | exact HBz.out | exact HBy.out | exact HBx.out | exact HBw.out | exact HBv.out | exact HBu.out | exact HBt.out | exact HBs.out)) hb_); clear hb_) | (go_at_call 12; refine (PB.laws_goodIDs.calls k4 A1 c1 a1 _ _ _ (Kd.C_below HR1.out (by repeat (first | (with_reducible first | exact Below.refl _ _ | apply below_alloc | apply pw_below_drewN | apply below_drew1) | exact HBz.out | exact HBy.out | exact HBx.out | exact HBw.out | exact HBv.out | exact HBu.out | exact HBt.out | exact HBs.out))) hc1 H4.out).mono ?_; rintro e_ w_ ⟨rfl, ⟨q4, rfl⟩⟩) | (go_at_call 13; refine (PB.laws_clean.calls k5 _ 2 [a2, a3] _ _ (new1 _ _ rfl [a2, a3] _ _ rfl (by simp)) (by simp) H5.out).mono ?_; rintro e_ w_ ⟨rfl, ⟨q5, rfl⟩⟩) | (go_at_call 14; refine (builds_calls _).mono ?_; rintro e_ w6 ⟨rfl, hb_⟩; have HBz := Aside0.mk (below_step (w := w) (by repeat (first | (with_reducible first | exact Below.refl _ _ | apply below_alloc | apply pw_below_drewN | apply below_drew1) | exact HBz.out | exact HBy.out | exact HBx.out | exact HBw.out | exact HBv.out | exact HBu.out | exact HBt.out | exact HBs.out)) hb_); clear hb_))
              go_ret
              exact ⟨rfl, (by repeat (first | (with_reducible first | exact Below.refl _ _ | apply below_alloc | apply pw_below_drewN | apply below_drew1) | exact HBz.out | exact HBy.out | exact HBx.out | exact HBw.out | exact HBv.out | exact HBu.out | exact HBt.out | exact HBs.out))⟩
            | true =>
              cases r4 with
              | false =>
                go_enter Try.func4, Try.ntmps4
                go_wp2_with (first | (go_at_call 9; refine (PB.laws_zzFits3.calls k1 A0 c0 a0 _ _ (Kd.C_below HR0.out (by repeat (first | (with_reducible first | exact Below.refl _ _ | apply below_alloc | apply pw_below_drewN | apply below_drew1) | exact HBz.out | exact HBy.out | exact HBx.out | exact HBw.out | exact HBv.out | exact HBu.out | exact HBt.out | exact HBs.out))) hc0 H1.out).mono ?_; rintro e_ w_ ⟨rfl, ⟨q1, rfl⟩⟩) | (go_at_call 10; refine (PB.laws_few.calls k2 _ 2 [a0, [a2, a3]] _ _ (new_two _ _ (size_at _ _ _ rfl) A0 _ c0 2 _ 2 a0 [a2, a3] rfl rfl (Kd.C_below HR0.out (by repeat (first | (with_reducible first | exact Below.refl _ _ | apply below_alloc | apply pw_below_drewN | apply below_drew1) | exact HBz.out | exact HBy.out | exact HBx.out | exact HBw.out | exact HBv.out | exact HBu.out | exact HBt.out | exact HBs.out))) hc0 (new1 _ _ rfl [a2, a3] _ _ rfl (by simp)) (by simp)) (by simp) H2.out).mono ?_; rintro e_ w_ ⟨rfl, ⟨q2, rfl⟩⟩) | (go_at_call 11; refine (PB.laws_ordered.calls k3 A0 c0 a0 _ _ _ (Kd.C_below HR0.out (by repeat (first | (with_reducible first | exact Below.refl _ _ | apply below_alloc | apply pw_below_drewN | apply below_drew1) | exact HBz.out | exact HBy.out | exact HBx.out | exact HBw.out | exact HBv.out | exact HBu.out | exact HBt.out | exact HBs.out))) hc0 H3.out).mono ?_; rintro e_ w3 ⟨rfl, hb_⟩; have HBs := Aside0.mk (below_step (w := w) (by repeat (first | (with_reducible first | exact Below.refl _ _ | apply below_alloc | apply pw_below_drewN | apply below_drew1) | exact HBz.out | exact HBy.out | exact HBx.out | exact HBw.out | exact HBv.out | exact HBu.out | exact HBt.out | exact HBs.out)) hb_); clear hb_) | (go_at_call 12; refine (PB.laws_goodIDs.calls k4 A1 c1 a1 _ _ _ (Kd.C_below HR1.out (by repeat (first | (with_reducible first | exact Below.refl _ _ | apply below_alloc | apply pw_below_drewN | apply below_drew1) | exact HBz.out | exact HBy.out | exact HBx.out | exact HBw.out | exact HBv.out | exact HBu.out | exact HBt.out | exact HBs.out))) hc1 H4.out).mono ?_; rintro e_ w_ ⟨rfl, ⟨q4, rfl⟩⟩) | (go_at_call 13; refine (PB.laws_clean.calls k5 _ 2 [a2, a3] _ _ (new1 _ _ rfl [a2, a3] _ _ rfl (by simp)) (by simp) H5.out).mono ?_; rintro e_ w_ ⟨rfl, ⟨q5, rfl⟩⟩) | (go_at_call 14; refine (builds_calls _).mono ?_; rintro e_ w6 ⟨rfl, hb_⟩; have HBz := Aside0.mk (below_step (w := w) (by repeat (first | (with_reducible first | exact Below.refl _ _ | apply below_alloc | apply pw_below_drewN | apply below_drew1) | exact HBz.out | exact HBy.out | exact HBx.out | exact HBw.out | exact HBv.out | exact HBu.out | exact HBt.out | exact HBs.out)) hb_); clear hb_))
                go_ret
                exact ⟨rfl, (by repeat (first | (with_reducible first | exact Below.refl _ _ | apply below_alloc | apply pw_below_drewN | apply below_drew1) | exact HBz.out | exact HBy.out | exact HBx.out | exact HBw.out | exact HBv.out | exact HBu.out | exact HBt.out | exact HBs.out))⟩
              | true =>
                cases r5 with
                | false =>
                  go_enter Try.func4, Try.ntmps4
                  go_wp2_with (first | (go_at_call 9; refine (PB.laws_zzFits3.calls k1 A0 c0 a0 _ _ (Kd.C_below HR0.out (by repeat (first | (with_reducible first | exact Below.refl _ _ | apply below_alloc | apply pw_below_drewN | apply below_drew1) | exact HBz.out | exact HBy.out | exact HBx.out | exact HBw.out | exact HBv.out | exact HBu.out | exact HBt.out | exact HBs.out))) hc0 H1.out).mono ?_; rintro e_ w_ ⟨rfl, ⟨q1, rfl⟩⟩) | (go_at_call 10; refine (PB.laws_few.calls k2 _ 2 [a0, [a2, a3]] _ _ (new_two _ _ (size_at _ _ _ rfl) A0 _ c0 2 _ 2 a0 [a2, a3] rfl rfl (Kd.C_below HR0.out (by repeat (first | (with_reducible first | exact Below.refl _ _ | apply below_alloc | apply pw_below_drewN | apply below_drew1) | exact HBz.out | exact HBy.out | exact HBx.out | exact HBw.out | exact HBv.out | exact HBu.out | exact HBt.out | exact HBs.out))) hc0 (new1 _ _ rfl [a2, a3] _ _ rfl (by simp)) (by simp)) (by simp) H2.out).mono ?_; rintro e_ w_ ⟨rfl, ⟨q2, rfl⟩⟩) | (go_at_call 11; refine (PB.laws_ordered.calls k3 A0 c0 a0 _ _ _ (Kd.C_below HR0.out (by repeat (first | (with_reducible first | exact Below.refl _ _ | apply below_alloc | apply pw_below_drewN | apply below_drew1) | exact HBz.out | exact HBy.out | exact HBx.out | exact HBw.out | exact HBv.out | exact HBu.out | exact HBt.out | exact HBs.out))) hc0 H3.out).mono ?_; rintro e_ w3 ⟨rfl, hb_⟩; have HBs := Aside0.mk (below_step (w := w) (by repeat (first | (with_reducible first | exact Below.refl _ _ | apply below_alloc | apply pw_below_drewN | apply below_drew1) | exact HBz.out | exact HBy.out | exact HBx.out | exact HBw.out | exact HBv.out | exact HBu.out | exact HBt.out | exact HBs.out)) hb_); clear hb_) | (go_at_call 12; refine (PB.laws_goodIDs.calls k4 A1 c1 a1 _ _ _ (Kd.C_below HR1.out (by repeat (first | (with_reducible first | exact Below.refl _ _ | apply below_alloc | apply pw_below_drewN | apply below_drew1) | exact HBz.out | exact HBy.out | exact HBx.out | exact HBw.out | exact HBv.out | exact HBu.out | exact HBt.out | exact HBs.out))) hc1 H4.out).mono ?_; rintro e_ w_ ⟨rfl, ⟨q4, rfl⟩⟩) | (go_at_call 13; refine (PB.laws_clean.calls k5 _ 2 [a2, a3] _ _ (new1 _ _ rfl [a2, a3] _ _ rfl (by simp)) (by simp) H5.out).mono ?_; rintro e_ w_ ⟨rfl, ⟨q5, rfl⟩⟩) | (go_at_call 14; refine (builds_calls _).mono ?_; rintro e_ w6 ⟨rfl, hb_⟩; have HBz := Aside0.mk (below_step (w := w) (by repeat (first | (with_reducible first | exact Below.refl _ _ | apply below_alloc | apply pw_below_drewN | apply below_drew1) | exact HBz.out | exact HBy.out | exact HBx.out | exact HBw.out | exact HBv.out | exact HBu.out | exact HBt.out | exact HBs.out)) hb_); clear hb_))
                  go_ret
                  exact ⟨rfl, (by repeat (first | (with_reducible first | exact Below.refl _ _ | apply below_alloc | apply pw_below_drewN | apply below_drew1) | exact HBz.out | exact HBy.out | exact HBx.out | exact HBw.out | exact HBv.out | exact HBu.out | exact HBt.out | exact HBs.out))⟩
                | true =>
                  have ho := P3.out rfl
                  have hi := P4.out rfl
                  have hcl2 := P5.out rfl a2 List.mem_cons_self
                  have hcl3 := P5.out rfl a3 (List.mem_cons_of_mem _ List.mem_cons_self)
                  have hw1 : wt a0 ≤ 4000 := by omega
                  have hK : KeysOk a0 a1 := keys_ok hw1 ho (by have := hi.1; omega) hi.2
                  have hs2 : a2.size ≤ 4000 := by have := wt_mem (l := [a2, a3]) List.mem_cons_self; omega
                  have hs3 : a3.size ≤ 4000 := by have := wt_mem (l := [a2, a3]) (List.mem_cons_of_mem _ List.mem_cons_self); omega
                  obtain ⟨kS, hS⟩ := sorted_ev a0 ho.pos (by omega) ho.up
                  have HK := Aside0.mk hK
                  have HS := Aside0.mk hS
                  have HC2 : Aside0 (Cln a2 ∧ a2.size ≤ 1000000000) := ⟨⟨hcl2, by omega⟩⟩
                  have HC3 : Aside0 (Cln (a2 ++ a3) ∧ (a2 ++ a3).size ≤ 1000000000) := ⟨⟨cln_app hcl2 hcl3, by rw [ByteArray.size_append]; omega⟩⟩
                  obtain ⟨R, hR, hRl⟩ := more_hits (keysAll a0 a1) a2 a3
                  have hXl : (hitsS (keysAll a0 a1) (bs a2) (bs a2).length).length ≤ 4000 := by have := hitsS_len (keysAll a0 a1) (bs a2) (bs a2).length; rw [bs_len] at this ⊢; omega
                  obtain ⟨kh, hh⟩ := (same_ev (hitsS (keysAll a0 a1) (bs a2) (bs a2).length) (by omega)).rounds
                  have HH := Aside0.mk hh
                  have HXL := Aside0.mk hXl
                  have HXR := Aside0.mk hR
                  have HRL := Aside0.mk hRl
                  clear ho hi hcl2 hcl3 hK hS hh hR hXl hRl
                  go_enter Try.func4, Try.ntmps4
                  go_upto_region 6 with (first | (go_at_call 9; refine (PB.laws_zzFits3.calls k1 A0 c0 a0 _ _ (Kd.C_below HR0.out (by repeat (first | (with_reducible first | exact Below.refl _ _ | apply below_alloc | apply pw_below_drewN | apply below_drew1) | exact HBz.out | exact HBy.out | exact HBx.out | exact HBw.out | exact HBv.out | exact HBu.out | exact HBt.out | exact HBs.out))) hc0 H1.out).mono ?_; rintro e_ w_ ⟨rfl, ⟨q1, rfl⟩⟩) | (go_at_call 10; refine (PB.laws_few.calls k2 _ 2 [a0, [a2, a3]] _ _ (new_two _ _ (size_at _ _ _ rfl) A0 _ c0 2 _ 2 a0 [a2, a3] rfl rfl (Kd.C_below HR0.out (by repeat (first | (with_reducible first | exact Below.refl _ _ | apply below_alloc | apply pw_below_drewN | apply below_drew1) | exact HBz.out | exact HBy.out | exact HBx.out | exact HBw.out | exact HBv.out | exact HBu.out | exact HBt.out | exact HBs.out))) hc0 (new1 _ _ rfl [a2, a3] _ _ rfl (by simp)) (by simp)) (by simp) H2.out).mono ?_; rintro e_ w_ ⟨rfl, ⟨q2, rfl⟩⟩) | (go_at_call 11; refine (PB.laws_ordered.calls k3 A0 c0 a0 _ _ _ (Kd.C_below HR0.out (by repeat (first | (with_reducible first | exact Below.refl _ _ | apply below_alloc | apply pw_below_drewN | apply below_drew1) | exact HBz.out | exact HBy.out | exact HBx.out | exact HBw.out | exact HBv.out | exact HBu.out | exact HBt.out | exact HBs.out))) hc0 H3.out).mono ?_; rintro e_ w3 ⟨rfl, hb_⟩; have HBs := Aside0.mk (below_step (w := w) (by repeat (first | (with_reducible first | exact Below.refl _ _ | apply below_alloc | apply pw_below_drewN | apply below_drew1) | exact HBz.out | exact HBy.out | exact HBx.out | exact HBw.out | exact HBv.out | exact HBu.out | exact HBt.out | exact HBs.out)) hb_); clear hb_) | (go_at_call 12; refine (PB.laws_goodIDs.calls k4 A1 c1 a1 _ _ _ (Kd.C_below HR1.out (by repeat (first | (with_reducible first | exact Below.refl _ _ | apply below_alloc | apply pw_below_drewN | apply below_drew1) | exact HBz.out | exact HBy.out | exact HBx.out | exact HBw.out | exact HBv.out | exact HBu.out | exact HBt.out | exact HBs.out))) hc1 H4.out).mono ?_; rintro e_ w_ ⟨rfl, ⟨q4, rfl⟩⟩) | (go_at_call 13; refine (PB.laws_clean.calls k5 _ 2 [a2, a3] _ _ (new1 _ _ rfl [a2, a3] _ _ rfl (by simp)) (by simp) H5.out).mono ?_; rintro e_ w_ ⟨rfl, ⟨q5, rfl⟩⟩) | (go_at_call 14; refine (builds_calls _).mono ?_; rintro e_ w6 ⟨rfl, hb_⟩; have HBz := Aside0.mk (below_step (w := w) (by repeat (first | (with_reducible first | exact Below.refl _ _ | apply below_alloc | apply pw_below_drewN | apply below_drew1) | exact HBz.out | exact HBy.out | exact HBx.out | exact HBw.out | exact HBv.out | exact HBu.out | exact HBt.out | exact HBs.out)) hb_); clear hb_) | (go_at_call 15; (with_reducible refine Calls.mono (ltrie_any _ A0 A1 c0 c1 kS a0 a2 a1 (Kd.C_below HR0.out (by repeat (first | (with_reducible first | exact Below.refl _ _ | apply below_alloc | apply pw_below_drewN | apply below_drew1) | exact HBz.out | exact HBy.out | exact HBx.out | exact HBw.out | exact HBv.out | exact HBu.out | exact HBt.out | exact HBs.out))) hc0 (Kd.C_below HR1.out (by repeat (first | (with_reducible first | exact Below.refl _ _ | apply below_alloc | apply pw_below_drewN | apply below_drew1) | exact HBz.out | exact HBy.out | exact HBx.out | exact HBw.out | exact HBv.out | exact HBu.out | exact HBt.out | exact HBs.out))) hc1 HS.out HK.out HC2.out) ?_); rintro e_ w7 ⟨A4, c4, A5, c5, X, u0, u1, u2, u3, rfl, HEX, HR4, _, hb_⟩; have HBt := Aside0.mk (below_step (w := w) (by repeat (first | (with_reducible first | exact Below.refl _ _ | apply below_alloc | apply pw_below_drewN | apply below_drew1) | exact HBz.out | exact HBy.out | exact HBx.out | exact HBw.out | exact HBv.out | exact HBu.out | exact HBt.out | exact HBs.out)) hb_); clear hb_))
                  obtain ⟨b9, hb9⟩ : ∃ b, w7.heap.size = b := ⟨_, rfl⟩
                  obtain ⟨w8, hw8, hbx8, hrx8, hbe8⟩ : ∃ w8, w8 = w7.alloc (.cells #[.int .i64 u0, .bool u1, .int .i64 u2, .bool u3, .slice A4 X.length c4, .slice A5 X.length c5] 34) ∧ ABox w8 w7.heap.size (.int .i64 u0) (.bool u1) (.int .i64 u2) (.bool u3) (.slice A4 X.length c4) (.slice A5 X.length c5) ∧ (X.length ≤ c4 ∧ Kd.C PB.k39 w8 A4 X.length X) ∧ Below w.heap.size w w8 := ⟨_, rfl, blk_new _ _, ⟨HR4.out.1, Kd.C_below HR4.out.2 (below_alloc (Below.refl _ _) _)⟩, below_alloc HBt.out _⟩
                  rw [← hw8]
                  rw [hb9] at hbx8
                  try rw [hb9]
                  have HBX8 := Aside0.mk hbx8
                  have HRX8 := Aside0.mk hrx8
                  have HBt := Aside0.mk hbe8
                  clear hb9 hw8 hbx8 hrx8 hbe8
                  go_upto_region 7 with ((go_at_call 15; (with_reducible refine Calls.mono (ltrie_any _ A0 A1 c0 c1 kS a0 (a2 ++ a3) a1 (Kd.C_below HR0.out (by repeat (first | (with_reducible first | exact Below.refl _ _ | apply below_alloc | apply pw_below_drewN | apply below_drew1) | exact HBu.out | exact HBt.out | exact HBs.out))) hc0 (Kd.C_below HR1.out (by repeat (first | (with_reducible first | exact Below.refl _ _ | apply below_alloc | apply pw_below_drewN | apply below_drew1) | exact HBu.out | exact HBt.out | exact HBs.out))) hc1 HS.out HK.out HC3.out) ?_); rintro e_ w9 ⟨B4, d4, B5, d5, Y, y0, y1, y2, y3, rfl, HEY, HR9, HG9, hb_⟩; have HBX9 := Aside0.mk (HBX8.out.step (hb_.block _ HBX8.out.lt)); have HRX9 := Aside0.mk (Kd.C_below HRX8.out.2 hb_); have HBu := Aside0.mk (below_step (w := w) (by repeat (first | (with_reducible first | exact Below.refl _ _ | apply below_alloc | apply pw_below_drewN | apply below_drew1) | exact HBu.out | exact HBt.out | exact HBs.out)) hb_); clear hb_))
                  obtain ⟨b11, hb11⟩ : ∃ b, w9.heap.size = b := ⟨_, rfl⟩
                  obtain ⟨w10, hw10, hbx10, hbx11, hrx10, hry10, hbe10⟩ : ∃ w10, w10 = w9.alloc (.cells #[.int .i64 y0, .bool y1, .int .i64 y2, .bool y3, .slice B4 Y.length d4, .slice B5 Y.length d5] 34) ∧ ABox w10 b9 (.int .i64 u0) (.bool u1) (.int .i64 u2) (.bool u3) (.slice A4 X.length c4) (.slice A5 X.length c5) ∧ ABox w10 w9.heap.size (.int .i64 y0) (.bool y1) (.int .i64 y2) (.bool y3) (.slice B4 Y.length d4) (.slice B5 Y.length d5) ∧ Kd.C PB.k39 w10 A4 X.length X ∧ Kd.C PB.k39 w10 B4 Y.length Y ∧ Below w.heap.size w w10 := ⟨_, rfl, HBX9.out.step ((below_alloc (Below.refl _ _) _).block _ HBX9.out.lt), blk_new _ _, Kd.C_below HRX9.out (below_alloc (Below.refl _ _) _), Kd.C_below HR9.out.2 (below_alloc (Below.refl _ _) _), below_alloc HBu.out _⟩
                  rw [← hw10]
                  rw [hb11] at hbx11
                  try rw [hb11]
                  have hxc := HRX8.out.1
                  have hyc := HR9.out.1
                  have HXY : Aside0 (Y = X ++ R) := ⟨by rw [HEY.out, HEX.out]; exact HXR.out⟩
                  have hlen : X.length ≤ Y.length := by rw [HXY.out, List.length_append]; omega
                  have hlx : X.length ≤ 4000 := by rw [HEX.out]; exact HXL.out
                  have hly : Y.length ≤ 8000 := by
                    rw [HEY.out]
                    have h9 := hitsS_len (keysAll a0 a1) (bs (a2 ++ a3)) (bs (a2 ++ a3)).length
                    rw [bs_len, ByteArray.size_append] at h9
                    rw [bs_len, ByteArray.size_append]
                    omega
                  obtain ⟨m0, m1, m2, m3, m4, m5⟩ := hbx10.cells
                  obtain ⟨n0, n1_, n2, n3, n4, n5⟩ := hbx11.cells
                  have HRX := Aside0.mk hrx10
                  have HRY := Aside0.mk hry10
                  have HRYX := Aside0.mk (row_take HXY.out hry10)
                  have HBw := Aside0.mk hbe10
                  have hd1 : decide (Y.length < X.length) = false := decide_eq_false (by omega)
                  have hd2 : decide ((Y.length : Int) < (X.length : Int)) = false := decide_eq_false (by omega)
                  have hd3 : ¬ (Y.length : Int) < (X.length : Int) := by omega
                  have hx0 : X.length ≤ d4 := by omega
                  have HSM : Aside0 (∀ n, Calls Try.prog 16 #[.slice A4 X.length c4, .slice B4 X.length d4] (w10.drewN n) fun e w' => e = .returned (.bool true) ∧ ∃ n', w' = (w10.drewN n).drewN n') := ⟨fun n => (PB.impl_Hit.calls kh A4 c4 X B4 d4 X true _ (Kd.C_drewN HRX.out _) hxc (Kd.C_drewN HRYX.out _) hx0 (by rw [HEX.out]; exact HH.out)).mono fun _ _ h => ⟨h.1, h.2.out⟩⟩
                  clear hb11 hw10 hbx10 hbx11 hrx10 hry10 hbe10 HBX8 HRX8 HR9 HR4 HBX9 HRX9
                  by_cases hrest : Y.length ≤ X.length
                  · have hrz : Y.length - X.length = 0 := by omega
                    have HRZ := Aside0.mk hrz
                    clear hrz
                    go_quiet ((go_at_call 16; exact Calls.quiet_of (HSM.out _)))
                    all_goals go_wp2_with fail
                    all_goals
                      have HB0 : Aside0 (Below w10.heap.size w10 (w10.drewN nq)) := ⟨pw_below_drewN (Below.refl _ _) _⟩
                      go_loopg [110] (Y.length - X.length) (fun kq v110 w' => ∃ (i : Nat), v110 = .int .i64 (i : Int) ∧ Aside0 (i + kq = Y.length - X.length) ∧ Aside0 (Below w10.heap.size w10 w'))
                      case atStart => exact ⟨0, rfl, ⟨by omega⟩, HB0⟩
                      case round =>
                        clear HB0
                        obtain ⟨i, rfl, HI, HBr⟩ := hrel
                        have hi := HI.out
                        have hil : ¬ i < Y.length - X.length := by omega
                        have hiz : ¬ (i : Int) < ((Y.length - X.length : Nat) : Int) := by omega
                        go_wp2_with (go_at_call 14; refine (builds_calls _).mono ?_; rintro e_ w12 ⟨rfl, hb_⟩; have HBz := Aside0.mk (below_step (below_step HBw.out HBr.out) hb_); clear hb_)
                        go_ret
                        exact ⟨rfl, HBz.out⟩
                  · have hYne : Y ≠ [] := fun e => by rw [e] at hrest; simp at hrest
                    obtain ⟨g, hg⟩ := HG9.out hYne
                    subst hg
                    have hcap : ¬ X.length = d4 := by omega
                    have hcap2 : ¬ d4 = X.length := by omega
                    clear hYne
                    go_quiet ((go_at_call 16; exact Calls.quiet_of (HSM.out _)))
                    all_goals go_wp2_with fail
                    all_goals
                      have HB0 : Aside0 (Below w10.heap.size w10 (w10.drewN nq)) := ⟨pw_below_drewN (Below.refl _ _) _⟩
                      go_loopg [110] (Y.length - X.length) (fun kq v110 w' => ∃ (i : Nat), v110 = .int .i64 (i : Int) ∧ Aside0 (i + kq = Y.length - X.length) ∧ Aside0 (Below w10.heap.size w10 w'))
                      case atStart => exact ⟨0, rfl, ⟨by omega⟩, HB0⟩
                      case round =>
                        clear HB0
                        obtain ⟨i, rfl, HI, HBr⟩ := hrel
                        have hi := HI.out
                        by_cases hil : i < Y.length - X.length
                        · have hiz : (i : Int) < ((Y.length - X.length : Nat) : Int) := by omega
                          have hxi : X.length + i < Y.length := by omega
                          obtain ⟨p, hp, c0_, c1_⟩ := hit_at (Kd.C_below HRY.out HBr.out) rfl hxi
                          have hpr : (a2.size : Int) < p.f1 := by
                            refine HRL.out p ?_
                            have h9 := hp
                            rw [HXY.out, List.getElem?_append_right (by omega)] at h9
                            exact List.mem_of_getElem? h9
                          have hpz : ¬ p.f1 ≤ (a2.size : Int) := by omega
                          clear hp
                          cases gk with
                          | zero => omega
                          | succ kz =>
                          go_wp2_with fail
                          go_roundg kz
                          case measure => omega
                          case rel => exact ⟨i + 1, congrArg (Value.int .i64) (by omega), ⟨by omega⟩, ⟨below_alloc HBr.out _⟩⟩
    
                        have hiz : ¬ (i : Int) < ((Y.length - X.length : Nat) : Int) := by omega
                        go_wp2_with (go_at_call 14; refine (builds_calls _).mono ?_; rintro e_ w12 ⟨rfl, hb_⟩; have HBz := Aside0.mk (below_step (below_step HBw.out HBr.out) hb_); clear hb_)
                        go_ret
                        exact ⟨rfl, HBz.out⟩
          · rw [decide_eq_false hw] at h2
            have H2 := Aside0.mk h2
            clear h2
            go_enter Try.func4, Try.ntmps4
            go_wp2_with (first | (go_at_call 9; refine (PB.laws_zzFits3.calls k1 A0 c0 a0 _ _ (Kd.C_below HR0.out (by repeat (first | (with_reducible first | exact Below.refl _ _ | apply below_alloc | apply pw_below_drewN | apply below_drew1) | exact HBz.out | exact HBy.out | exact HBx.out | exact HBw.out | exact HBv.out | exact HBu.out | exact HBt.out | exact HBs.out))) hc0 H1.out).mono ?_; rintro e_ w_ ⟨rfl, ⟨q1, rfl⟩⟩) | (go_at_call 10; refine (PB.laws_few.calls k2 _ 2 [a0, [a2, a3]] _ _ (new_two _ _ (size_at _ _ _ rfl) A0 _ c0 2 _ 2 a0 [a2, a3] rfl rfl (Kd.C_below HR0.out (by repeat (first | (with_reducible first | exact Below.refl _ _ | apply below_alloc | apply pw_below_drewN | apply below_drew1) | exact HBz.out | exact HBy.out | exact HBx.out | exact HBw.out | exact HBv.out | exact HBu.out | exact HBt.out | exact HBs.out))) hc0 (new1 _ _ rfl [a2, a3] _ _ rfl (by simp)) (by simp)) (by simp) H2.out).mono ?_; rintro e_ w_ ⟨rfl, ⟨q2, rfl⟩⟩) | (go_at_call 11; refine (PB.laws_ordered.calls k3 A0 c0 a0 _ _ _ (Kd.C_below HR0.out (by repeat (first | (with_reducible first | exact Below.refl _ _ | apply below_alloc | apply pw_below_drewN | apply below_drew1) | exact HBz.out | exact HBy.out | exact HBx.out | exact HBw.out | exact HBv.out | exact HBu.out | exact HBt.out | exact HBs.out))) hc0 H3.out).mono ?_; rintro e_ w3 ⟨rfl, hb_⟩; have HBs := Aside0.mk (below_step (w := w) (by repeat (first | (with_reducible first | exact Below.refl _ _ | apply below_alloc | apply pw_below_drewN | apply below_drew1) | exact HBz.out | exact HBy.out | exact HBx.out | exact HBw.out | exact HBv.out | exact HBu.out | exact HBt.out | exact HBs.out)) hb_); clear hb_) | (go_at_call 12; refine (PB.laws_goodIDs.calls k4 A1 c1 a1 _ _ _ (Kd.C_below HR1.out (by repeat (first | (with_reducible first | exact Below.refl _ _ | apply below_alloc | apply pw_below_drewN | apply below_drew1) | exact HBz.out | exact HBy.out | exact HBx.out | exact HBw.out | exact HBv.out | exact HBu.out | exact HBt.out | exact HBs.out))) hc1 H4.out).mono ?_; rintro e_ w_ ⟨rfl, ⟨q4, rfl⟩⟩) | (go_at_call 13; refine (PB.laws_clean.calls k5 _ 2 [a2, a3] _ _ (new1 _ _ rfl [a2, a3] _ _ rfl (by simp)) (by simp) H5.out).mono ?_; rintro e_ w_ ⟨rfl, ⟨q5, rfl⟩⟩) | (go_at_call 14; refine (builds_calls _).mono ?_; rintro e_ w6 ⟨rfl, hb_⟩; have HBz := Aside0.mk (below_step (w := w) (by repeat (first | (with_reducible first | exact Below.refl _ _ | apply below_alloc | apply pw_below_drewN | apply below_drew1) | exact HBz.out | exact HBy.out | exact HBx.out | exact HBw.out | exact HBv.out | exact HBu.out | exact HBt.out | exact HBs.out)) hb_); clear hb_))
            go_ret
            exact ⟨rfl, (by repeat (first | (with_reducible first | exact Below.refl _ _ | apply below_alloc | apply pw_below_drewN | apply below_drew1) | exact HBz.out | exact HBy.out | exact HBx.out | exact HBw.out | exact HBv.out | exact HBu.out | exact HBt.out | exact HBs.out))⟩
end Go.Proofs.Ytaejkbjepbifcaa.Da
