/- The walk of the law FnUserRecordsWrong: it returns true and writes nothing that was there. -/
import Derived.Test.YtckdpckdabfkbabPureFnUserRecordsWrong
namespace Go.Proofs.Ytckdpckdabfkbab.WalkFnUserRecordsWrong
open Go.RowKit Go.Proofs.Ytckdpckdabfkbab.PA Go.Proofs.YtckdpckdabfkbabW.PrintWords Go.Proofs.Ytckdpckdabfkbab.Plain

theorem al_cell (w : World) (a b c d : Value) (e : TypeId) (fr : Nat × Nat) : (w.alloc (.cells #[a, b, c, d] e fr)).cell? ⟨w.heap.size, 0, none⟩ = some a ∧ (w.alloc (.cells #[a, b, c, d] e fr)).cell? ⟨w.heap.size, 1, none⟩ = some b ∧ (w.alloc (.cells #[a, b, c, d] e fr)).cell? ⟨w.heap.size, 2, none⟩ = some c ∧ (w.alloc (.cells #[a, b, c, d] e fr)).cell? ⟨w.heap.size, 3, none⟩ = some d := by
  simp [Own.alloc_cell]
structure St (w W : World) (a b c d : Value) : Prop where
  below : Below w.heap.size w W
  lt : w.heap.size < W.heap.size
  c0 : W.cell? ⟨w.heap.size, 0, none⟩ = some a
  c1 : W.cell? ⟨w.heap.size, 1, none⟩ = some b
  c2 : W.cell? ⟨w.heap.size, 2, none⟩ = some c
  c3 : W.cell? ⟨w.heap.size, 3, none⟩ = some d
theorem St.mk0 (w : World) (a b c d : Value) (e : TypeId) (fr : Nat × Nat) : St w (w.alloc (.cells #[a, b, c, d] e fr)) a b c d := by
  obtain ⟨h0, h1, h2, h3⟩ := al_cell w a b c d e fr
  exact ⟨below_alloc (Below.refl _ _) _, by rw [Own.size_alloc]; omega, h0, h1, h2, h3⟩
theorem St.step {w W W' : World} {a b c d : Value} (h : St w W a b c d) (hb : Below W.heap.size W W') : St w W' a b c d := by
  obtain ⟨h1, h2, c0, c1, c2, c3⟩ := h
  refine ⟨h1.trans (hb.mono (by omega)), Nat.lt_of_lt_of_le h2 hb.size, ?_, ?_, ?_, ?_⟩ <;> (rw [hb.cell h2]; assumption)
/-- A row of one record that has just been laid reads as its list. -/
theorem C_rec (w : World) (g : Nat) (hg : g = w.heap.size) (e : TypeId) (fr : Nat × Nat) (s0 s3 : ByteArray) (A1 A2 : Option Addr) (c1 c2 : Nat) (l1 l2 : List ByteArray) (h1 : Kd.C Kd.string w A1 l1.length l1) (hc1 : l1.length ≤ c1) (h2 : Kd.C Kd.string w A2 l2.length l2) (hc2 : l2.length ≤ c2) :
    Kd.C k24 (w.alloc (.cells #[.string s0, .slice A1 l1.length c1, .slice A2 l2.length c2, .string s3] e fr)) (some ⟨g, 0, none⟩) 1 [⟨s0, l1, l2, s3⟩] := by
  subst hg
  refine ⟨rfl, by decide, fun _ => ⟨_, rfl, fun j p hj => ?_⟩⟩
  match j, hj with
  | 0, hj =>
    simp at hj
    subst hj
    refine ⟨[.string s0, .slice A1 l1.length c1, .slice A2 l2.length c2, .string s3], rfl, ⟨[.string s0], _, rfl, rfl, [.slice A1 l1.length c1], _, rfl, ⟨A1, c1, rfl, hc1, Kd.C_alloc h1 _⟩, [.slice A2 l2.length c2], _, rfl, ⟨A2, c2, rfl, hc2, Kd.C_alloc h2 _⟩, rfl⟩, fun i x hi => ?_⟩
    obtain ⟨e0, e1, e2, e3⟩ := al_cell w (.string s0) (.slice A1 l1.length c1) (.slice A2 l2.length c2) (.string s3) e fr
    match i, hi with
    | 0, hi => simp at hi; subst hi; exact e0
    | 1, hi => simp at hi; subst hi; exact e1
    | 2, hi => simp at hi; subst hi; exact e2
    | 3, hi => simp at hi; subst hi; exact e3
    | i + 4, hi => simp at hi
set_option maxHeartbeats 8000000 in
set_option maxRecDepth 100000 in
theorem walk (a0_0 : ByteArray) (Aa0_1 : Option Addr) (ca0_1 : Nat) (a0_1 : (List ByteArray)) (Aa0_2 : Option Addr) (ca0_2 : Nat) (a0_2 : (List ByteArray)) (a0_3 : ByteArray) (a1 : Int) (w : World) (hga0_0 : a0_0.size ≤ 140737488351232) (hra0_1 : Kd.C Kd.string w Aa0_1 a0_1.length a0_1) (hca0_1 : a0_1.length ≤ ca0_1) (hga0_1 : a0_1.length * 16 ≤ 140737488351232 ∧ ∀ y0 ∈ a0_1, y0.size ≤ 140737488351232) (hra0_2 : Kd.C Kd.string w Aa0_2 a0_2.length a0_2) (hca0_2 : a0_2.length ≤ ca0_2) (hga0_2 : a0_2.length * 16 ≤ 140737488351232 ∧ ∀ y0 ∈ a0_2, y0.size ≤ 140737488351232) (hga0_3 : a0_3.size ≤ 140737488351232) (hga1 : (Lit.int .u8 a1).wf = true) :
    Calls Try.prog 3 #[.agg #[.string a0_0, .slice Aa0_1 a0_1.length ca0_1, .slice Aa0_2 a0_2.length ca0_2, .string a0_3], .int .u8 a1] w fun e w' => e = .returned (.bool true) ∧ Below w.heap.size w w' := by
  have HR1 := Aside0.mk hra0_1
  have HR2 := Aside0.mk hra0_2
  clear hra0_1 hra0_2
  obtain ⟨b15, ⟨k15, e15⟩, f15⟩ := Pure.fits15_ev a0_0 a0_1 a0_2 a0_3 (by omega) (by omega)
  obtain ⟨bp, ⟨kp, ep⟩, fp⟩ := Pure.plainRecords_ev ⟨a0_0, a0_1, a0_2, a0_3⟩ hga0_0 hga0_3 hga0_1.2 hga0_2.2
  obtain ⟨ku, eu⟩ := Pure.users_ev
  have E15 := Aside0.mk (e15 _ (Nat.le_refl _))
  have EP := Aside0.mk (ep _ (Nat.le_refl _))
  have EU := Aside0.mk (eu _ (Nat.le_refl _))
  clear e15 ep eu hga0_0 hga0_1 hga0_2 hga0_3
  cases b15 with
  | false =>
    go_enter Try.func3, Try.ntmps3
    go_wp2_with fail
    refine (laws_zzFits15.calls k15 a0_0 Aa0_1 ca0_1 a0_1 Aa0_2 ca0_2 a0_2 a0_3 _ _ (Kd.C_alloc HR1.out _) hca0_1 (Kd.C_alloc HR2.out _) hca0_2 E15.out).mono ?_
    rintro _ W1 ⟨rfl, B1⟩
    have st1 := Aside0.mk ((St.mk0 w _ _ _ _ _ _).step B1)
    clear B1
    go_wp2_with fail
    go_ret
    exact ⟨rfl, st1.out.below⟩
  | true =>
    obtain ⟨z0, z3, z1, z2⟩ := f15 rfl
    clear f15
    cases bp with
    | false =>
      go_enter Try.func3, Try.ntmps3
      go_wp2_with fail
      refine (laws_zzFits15.calls k15 a0_0 Aa0_1 ca0_1 a0_1 Aa0_2 ca0_2 a0_2 a0_3 _ _ (Kd.C_alloc HR1.out _) hca0_1 (Kd.C_alloc HR2.out _) hca0_2 E15.out).mono ?_
      rintro _ W1 ⟨rfl, B1⟩
      have st1 := Aside0.mk ((St.mk0 w _ _ _ _ _ _).step B1)
      clear B1
      have hc0 := st1.out.c0
      have hc1 := st1.out.c1
      have hc2 := st1.out.c2
      have hc3 := st1.out.c3
      go_wp2_with fail
      refine (laws_plainRecords.calls kp _ 1 [⟨a0_0, a0_1, a0_2, a0_3⟩] _ _ (C_rec W1 _ rfl _ _ a0_0 a0_3 Aa0_1 Aa0_2 ca0_1 ca0_2 a0_1 a0_2 (Kd.C_below HR1.out st1.out.below) hca0_1 (Kd.C_below HR2.out st1.out.below) hca0_2) (Nat.le_refl _) EP.out).mono ?_
      rintro _ W2 ⟨rfl, B2⟩
      have st2 := Aside0.mk (st1.out.step ((below_alloc (Below.refl _ _) _).trans (B2.mono (by rw [Own.size_alloc]; omega))))
      clear B2 hc0 hc1 hc2 hc3
      go_wp2_with fail
      refine (laws_users.calls ku _ _ EU.out).mono ?_
      rintro _ W3 ⟨rfl, B3⟩
      have st3 := Aside0.mk (st2.out.step B3)
      clear B3
      go_wp2_with fail
      go_ret
      exact ⟨rfl, st3.out.below⟩
    | true =>
      have g := fp rfl
      clear fp
      have g1 : a0_1.length ≤ 20 := g.2.2.2.2.1
      have g2 : a0_2.length ≤ 20 := by have h_ : a0_1.length = a0_2.length := g.2.2.1; omega
      have j1 := Pure.jn_le 32 a0_1 (by omega) z1
      have j2 := Pure.jn_le 32 a0_2 (by omega) z2
      obtain ⟨L, hL⟩ : ∃ L, L = ba (Pure.lineB ⟨a0_0, a0_1, a0_2, a0_3⟩ ++ [10]) := ⟨_, rfl⟩
      obtain ⟨T, hT⟩ : ∃ T, T = ba (Pure.jn 32 (Pure.tl a0_1)) := ⟨_, rfl⟩
      obtain ⟨Y, hY⟩ : ∃ Y, Y = ba (Pure.jn 32 (Pure.tl a0_2)) := ⟨_, rfl⟩
      have sT : T.size ≤ 45097156608 := by rw [hT, ba_size]; exact j1
      have sY : Y.size ≤ 45097156608 := by rw [hY, ba_size]; exact j2
      have sL : L.size ≤ 1000000000000 := by
        have z0' := z0; have z3' := z3
        rw [size_of] at z0' z3'
        rw [hL, ba_size]
        simp only [Pure.lineB, List.length_append, List.length_cons, List.length_nil]
        omega
      obtain ⟨kl, el⟩ := Pure.line_ev ⟨a0_0, a0_1, a0_2, a0_3⟩ z0 z3 g1 g2 z1 z2
      obtain ⟨⟨k0, e0⟩, ⟨k1, e1⟩, ⟨k2, e2⟩⟩ := Pure.bads ⟨a0_0, a0_1, a0_2, a0_3⟩ g z0 z3 z1 z2
      obtain ⟨kt, et⟩ := Pure.joined_ev a0_1 32 g1 z1
      obtain ⟨ky, ey⟩ := Pure.joined_ev a0_2 32 g2 z2
      rw [← hL] at el
      rw [← hT] at et
      rw [← hY] at ey
      have b0 : ba (Pure.bad0 ⟨a0_0, a0_1, a0_2, a0_3⟩ ++ [10]) = a0_0 ++ ⟨#[44]⟩ ++ L := by
        apply ext_eq
        rw [hL]
        simp only [app_data, ba_toList, Pure.e44, Pure.bad0]
        simp
      have b1 : ba (Pure.bad1 ⟨a0_0, a0_1, a0_2, a0_3⟩ ++ [10]) = a0_0 ++ ⟨#[44]⟩ ++ T ++ ⟨#[44]⟩ ++ a0_3 ++ ⟨#[10]⟩ := by
        apply ext_eq
        rw [hT]
        simp only [app_data, ba_toList, Pure.e44, Pure.e10, Pure.bad1]
        simp
      have e3 : (⟨#[32, 122, 44]⟩ : ByteArray) = ba [32, 122, 44] := rfl
      have b2 : ba (Pure.bad2 ⟨a0_0, a0_1, a0_2, a0_3⟩ ++ [10]) = a0_0 ++ ⟨#[44]⟩ ++ T ++ ⟨#[32, 122, 44]⟩ ++ Y ++ ⟨#[44]⟩ ++ a0_3 ++ ⟨#[10]⟩ := by
        apply ext_eq
        rw [hT, hY]
        simp only [app_data, ba_toList, Pure.e44, Pure.e10, e3, Pure.bad2]
        simp
      have EL := Aside0.mk (el _ (Nat.le_refl _))
      have E0 := Aside0.mk (e0 _ (Nat.le_refl _))
      have E1 := Aside0.mk (e1 _ (Nat.le_refl _))
      have E2 := Aside0.mk (e2 _ (Nat.le_refl _))
      have ET := Aside0.mk (et _ (Nat.le_refl _))
      have EY := Aside0.mk (ey _ (Nat.le_refl _))
      rw [b0] at E0
      rw [b1] at E1
      rw [b2] at E2
      clear el e0 e1 e2 et ey b0 b1 b2 e3 j1 j2 g1 g2 g hT hY hL
      have n1 : a0_0.size + 1 ≤ 9223372036854775807 := by omega
      have n1b0 := eq_true n1
      have n1b1 := decide_eq_true n1
      have n1b2 : (9223372036854775807 < a0_0.size + 1) = False := eq_false (Nat.not_lt.2 n1)
      have n2 : a0_0.size + 1 + L.size ≤ 9223372036854775807 := by omega
      have n2b0 := eq_true n2
      have n2b1 := decide_eq_true n2
      have n2b2 : (9223372036854775807 < a0_0.size + 1 + L.size) = False := eq_false (Nat.not_lt.2 n2)
      have n3 : a0_0.size + 1 + T.size ≤ 9223372036854775807 := by omega
      have n3b0 := eq_true n3
      have n3b1 := decide_eq_true n3
      have n3b2 : (9223372036854775807 < a0_0.size + 1 + T.size) = False := eq_false (Nat.not_lt.2 n3)
      have n4 : a0_0.size + 1 + T.size + 1 ≤ 9223372036854775807 := by omega
      have n4b0 := eq_true n4
      have n4b1 := decide_eq_true n4
      have n4b2 : (9223372036854775807 < a0_0.size + 1 + T.size + 1) = False := eq_false (Nat.not_lt.2 n4)
      have n5 : a0_0.size + 1 + T.size + 1 + a0_3.size ≤ 9223372036854775807 := by omega
      have n5b0 := eq_true n5
      have n5b1 := decide_eq_true n5
      have n5b2 : (9223372036854775807 < a0_0.size + 1 + T.size + 1 + a0_3.size) = False := eq_false (Nat.not_lt.2 n5)
      have n6 : a0_0.size + 1 + T.size + 1 + a0_3.size + 1 ≤ 9223372036854775807 := by omega
      have n6b0 := eq_true n6
      have n6b1 := decide_eq_true n6
      have n6b2 : (9223372036854775807 < a0_0.size + 1 + T.size + 1 + a0_3.size + 1) = False := eq_false (Nat.not_lt.2 n6)
      have m4 : a0_0.size + 1 + T.size + 3 ≤ 9223372036854775807 := by omega
      have m4b0 := eq_true m4
      have m4b1 := decide_eq_true m4
      have m4b2 : (9223372036854775807 < a0_0.size + 1 + T.size + 3) = False := eq_false (Nat.not_lt.2 m4)
      have m5 : a0_0.size + 1 + T.size + 3 + Y.size ≤ 9223372036854775807 := by omega
      have m5b0 := eq_true m5
      have m5b1 := decide_eq_true m5
      have m5b2 : (9223372036854775807 < a0_0.size + 1 + T.size + 3 + Y.size) = False := eq_false (Nat.not_lt.2 m5)
      have m6 : a0_0.size + 1 + T.size + 3 + Y.size + 1 ≤ 9223372036854775807 := by omega
      have m6b0 := eq_true m6
      have m6b1 := decide_eq_true m6
      have m6b2 : (9223372036854775807 < a0_0.size + 1 + T.size + 3 + Y.size + 1) = False := eq_false (Nat.not_lt.2 m6)
      have m7 : a0_0.size + 1 + T.size + 3 + Y.size + 1 + a0_3.size ≤ 9223372036854775807 := by omega
      have m7b0 := eq_true m7
      have m7b1 := decide_eq_true m7
      have m7b2 : (9223372036854775807 < a0_0.size + 1 + T.size + 3 + Y.size + 1 + a0_3.size) = False := eq_false (Nat.not_lt.2 m7)
      have m8 : a0_0.size + 1 + T.size + 3 + Y.size + 1 + a0_3.size + 1 ≤ 9223372036854775807 := by omega
      have m8b0 := eq_true m8
      have m8b1 := decide_eq_true m8
      have m8b2 : (9223372036854775807 < a0_0.size + 1 + T.size + 3 + Y.size + 1 + a0_3.size + 1) = False := eq_false (Nat.not_lt.2 m8)
      clear z0 z3 z1 z2 sL sT sY
      have hm : 0 ≤ a1 ∧ a1 ≤ 255 := by simpa [Lit.wf, IntKind.min, IntKind.max, IntKind.bits, IntKind.signed] using hga1
      go_enter Try.func3, Try.ntmps3
      go_wp2_with fail
      refine (laws_zzFits15.calls k15 a0_0 Aa0_1 ca0_1 a0_1 Aa0_2 ca0_2 a0_2 a0_3 _ _ (Kd.C_alloc HR1.out _) hca0_1 (Kd.C_alloc HR2.out _) hca0_2 E15.out).mono ?_
      rintro _ W1 ⟨rfl, B1⟩
      have st1 := Aside0.mk ((St.mk0 w _ _ _ _ _ _).step B1)
      clear B1
      have hc0 := st1.out.c0
      have hc1 := st1.out.c1
      have hc2 := st1.out.c2
      have hc3 := st1.out.c3
      go_wp2_with fail
      refine (laws_plainRecords.calls kp _ 1 [⟨a0_0, a0_1, a0_2, a0_3⟩] _ _ (C_rec W1 _ rfl _ _ a0_0 a0_3 Aa0_1 Aa0_2 ca0_1 ca0_2 a0_1 a0_2 (Kd.C_below HR1.out st1.out.below) hca0_1 (Kd.C_below HR2.out st1.out.below) hca0_2) (Nat.le_refl _) EP.out).mono ?_
      rintro _ W2 ⟨rfl, B2⟩
      have st2 := Aside0.mk (st1.out.step ((below_alloc (Below.refl _ _) _).trans (B2.mono (by rw [Own.size_alloc]; omega))))
      clear B2 hc0 hc1 hc2 hc3
      have hc0 := st2.out.c0
      have hc1 := st2.out.c1
      have hc2 := st2.out.c2
      have hc3 := st2.out.c3
      go_wp2_with fail
      refine (laws_line.calls kl a0_0 Aa0_1 ca0_1 a0_1 Aa0_2 ca0_2 a0_2 a0_3 _ _ (Kd.C_below HR1.out st2.out.below) hca0_1 (Kd.C_below HR2.out st2.out.below) hca0_2 EL.out).mono ?_
      rintro _ W3 ⟨rfl, B3⟩
      have st3 := Aside0.mk (st2.out.step B3)
      clear B3 hc0 hc1 hc2 hc3
      have hc0 := st3.out.c0
      have hc1 := st3.out.c1
      have hc2 := st3.out.c2
      have hc3 := st3.out.c3
      have C1 := Aside0.mk (Kd.C_below HR1.out st3.out.below)
      have C2 := Aside0.mk (Kd.C_below HR2.out st3.out.below)
      clear st1 st2 HR1 HR2
      go_wp2_with fail
      · refine (impl_UserRecords.calls k0 _ [] 1 _ E0.out).mono ?_
        rintro _ W4 ⟨v, rfl, -, B4⟩
        have st4 := Aside0.mk (st3.out.step B4)
        clear B4 hc0 hc1 hc2 hc3
        go_wp2_with fail
        refine (laws_users.calls ku _ _ EU.out).mono ?_
        rintro _ W5 ⟨rfl, B5⟩
        have st5 := Aside0.mk (st4.out.step B5)
        clear B5
        go_wp2_with fail
        go_ret
        exact ⟨rfl, st5.out.below⟩
      · go_quiet (first | (with_reducible exact Calls.quiet_of ((laws_joined.calls kt _ _ a0_1 (⟨#[32]⟩ : ByteArray) T _ (Kd.C_drewN C1.out _) hca0_1 ET.out).mono fun _ _ h => ⟨h.1, h.2.out⟩)) | (with_reducible exact Calls.quiet_of ((laws_joined.calls ky _ _ a0_2 (⟨#[32]⟩ : ByteArray) Y _ (Kd.C_drewN C2.out _) hca0_2 EY.out).mono fun _ _ h => ⟨h.1, h.2.out⟩)))
        rename_i nq
        go_wp2_with fail
        have st4' := Aside0.mk (st3.out.step (pw_below_drewN (Below.refl _ _) nq))
        refine (impl_UserRecords.calls k1 _ [] 1 _ E1.out).mono ?_
        rintro _ W4 ⟨v, rfl, -, B4⟩
        have st4 := Aside0.mk (st4'.out.step B4)
        clear B4 hc0 hc1 hc2 hc3
        go_wp2_with fail
        refine (laws_users.calls ku _ _ EU.out).mono ?_
        rintro _ W5 ⟨rfl, B5⟩
        have st5 := Aside0.mk (st4.out.step B5)
        clear B5
        go_wp2_with fail
        go_ret
        exact ⟨rfl, st5.out.below⟩
      · go_quiet (first | (with_reducible exact Calls.quiet_of ((laws_joined.calls kt _ _ a0_1 (⟨#[32]⟩ : ByteArray) T _ (Kd.C_drewN C1.out _) hca0_1 ET.out).mono fun _ _ h => ⟨h.1, h.2.out⟩)) | (with_reducible exact Calls.quiet_of ((laws_joined.calls ky _ _ a0_2 (⟨#[32]⟩ : ByteArray) Y _ (Kd.C_drewN C2.out _) hca0_2 EY.out).mono fun _ _ h => ⟨h.1, h.2.out⟩)))
        rename_i nq
        go_wp2_with fail
        have st4' := Aside0.mk (st3.out.step (pw_below_drewN (Below.refl _ _) nq))
        refine (impl_UserRecords.calls k2 _ [] 1 _ E2.out).mono ?_
        rintro _ W4 ⟨v, rfl, -, B4⟩
        have st4 := Aside0.mk (st4'.out.step B4)
        clear B4 hc0 hc1 hc2 hc3
        go_wp2_with fail
        refine (laws_users.calls ku _ _ EU.out).mono ?_
        rintro _ W5 ⟨rfl, B5⟩
        have st5 := Aside0.mk (st4.out.step B5)
        clear B5
        go_wp2_with fail
        go_ret
        exact ⟨rfl, st5.out.below⟩
end Go.Proofs.Ytckdpckdabfkbab.WalkFnUserRecordsWrong
