/- impl.ConnectionAt where there is a cost. -/
import Derived.Deep.DeepMust
import Derived.Outline
import Derived.Test.YtckdpckdabfkbaaDoorConnW
namespace Go.Proofs.YtckdpckdabfkbaaDoor.Num
open Go.RowKit Go.Proofs.YtckdpckdabfkbaaDoorW.PrintWords Go.Proofs.YtckdpckdabfkbaaDoor.Plain Go.Proofs.YtckdpckdabfkbaaDoor.PA
set_option linter.unusedVariables false
set_option linter.unusedSimpArgs false

def w16 (l : List Int) : List Int := l.map IntKind.i16.wrap
theorem w16_len (l : List Int) : (w16 l).length = l.length := by simp [w16]
theorem wct_bytes (R C : Int) (vec : List Int) (i : Nat) : ∀ x ∈ wct R C vec i, 0 ≤ x ∧ x < 256 := fun x hx => by
  unfold wct at hx
  rcases List.mem_append.1 hx with hx | hx
  · rcases List.mem_append.1 hx with hx | hx <;> exact leb_one _ _ x hx
  · obtain ⟨m, _, hx⟩ := List.mem_flatMap.1 hx
    exact leb_one _ _ x hx
theorem i16_wrap' (n : Int) : IntKind.i16.wrap n = (n + 32768) % 65536 - 32768 := by
  simp [IntKind.wrap, IntKind.bits, IntKind.signed]
  omega
theorem flat_two (l : List Int) : ∀ (j : Nat) (v : Int), l[j]? = some v → ((l.flatMap fun v => leb 2 (v % 18446744073709551616)).drop (2 * j)).take 2 = leb 2 (v % 18446744073709551616) := by
  induction l with
  | nil => intro j v h; simp at h
  | cons a l ih =>
    intro j v h
    rw [List.flatMap_cons]
    cases j with
    | zero =>
      simp at h
      subst h
      rw [Nat.mul_zero, List.drop_zero, List.take_append_of_le_length (by simp [leb_length]), List.take_of_length_le (by simp [leb_length])]
    | succ j =>
      rw [List.drop_append, List.drop_eq_nil_of_le (by simp [leb_length]; omega), List.nil_append]
      simp at h
      have := ih j v h
      rw [show 2 * (j + 1) - (leb 2 (a % 18446744073709551616)).length = 2 * j by simp [leb_length]; omega]
      exact this
/-- What is written is read. -/
theorem w16_bd (l : List Int) (j : Nat) (h : j < (w16 l).length) : -32768 ≤ (w16 l)[j] ∧ (w16 l)[j] ≤ 32767 := by
  simp only [w16, List.getElem_map, i16_wrap']
  omega
theorem wct_val (R C : Int) (l : List Int) (j : Nat) (hj : j < l.length) : val 16 (wct R C (w16 l) l.length) j = (w16 l)[j]'(by rw [w16_len]; exact hj) := by
  have hj' : j < (w16 l).length := by rw [w16_len]; exact hj
  have h1 := flat_two (w16 l) j _ (List.getElem?_eq_getElem hj')
  have h2 : ((wct R C (w16 l) l.length).drop (16 + 2 * j)).take 2 = leb 2 ((w16 l)[j] % 18446744073709551616) := by
    unfold wct
    rw [show (w16 l).take l.length = w16 l from List.take_of_length_le (by rw [w16_len]; exact Nat.le_refl _), List.drop_append, List.drop_eq_nil_of_le (by simp [leb_length]; try omega), List.nil_append, show 16 + 2 * j - (leb 8 (R % 18446744073709551616) ++ leb 8 (C % 18446744073709551616)).length = 2 * j by simp [leb_length]]
    exact h1
  unfold val
  rw [h2, leb2]
  simp only [valb, w16, List.getElem_map, i16_wrap']
  omega
theorem leb8_val (u : Int) (h0 : 0 ≤ u) (h1 : u ≤ 64) : valb (leb 8 (u % 18446744073709551616)) = u := by
  rw [leb8]
  simp only [valb]
  omega
theorem wct_head (R C : Nat) (l : List Int) (n : Nat) (hR : R ≤ 64) (hC : C ≤ 64) : wrap64 (valb (((wct R C l n).drop 0).take 8)) = R ∧ wrap64 (valb (((wct R C l n).drop 8).take 8)) = C := by
  have e0 : ((wct R C l n).drop 0).take 8 = leb 8 ((R : Int) % 18446744073709551616) := by
    unfold wct
    rw [List.drop_zero, List.append_assoc, List.take_append_of_le_length (by simp [leb_length]), List.take_of_length_le (by simp [leb_length])]
  have e1 : ((wct R C l n).drop 8).take 8 = leb 8 ((C : Int) % 18446744073709551616) := by
    unfold wct
    rw [List.append_assoc, List.drop_append, List.drop_eq_nil_of_le (by simp [leb_length]), List.nil_append, show 8 - (leb 8 ((R : Int) % 18446744073709551616)).length = 0 by simp [leb_length], List.drop_zero,
      List.take_append_of_le_length (by simp [leb_length]), List.take_of_length_le (by simp [leb_length])]
  rw [e0, e1, leb8_val _ (by omega) (by omega), leb8_val _ (by omega) (by omega), wrap_ok (by omega) (by omega), wrap_ok (by omega) (by omega)]
  exact ⟨rfl, rfl⟩

theorem at_eval (R C : Nat) (v : List Int) (p q : Nat) (hn : v.length ≤ 100000) (hi : R * q + p < v.length) : dict_ConnectionTable_At.f R C v p q = some (v[R * q + p], (R : Int), (C : Int)) := by
  obtain ⟨m, hm⟩ : ∃ m, m = R * q := ⟨_, rfl⟩
  have e : (R : Int) * (q : Int) = (m : Int) := by rw [hm]; simp
  simp only [← hm] at hi ⊢
  unfold dict_ConnectionTable_At.f
  have m1 : wrap64 (m : Int) = m := wrap_ok (by omega) (by omega)
  have m2 : wrap64 ((m : Int) + (p : Int)) = ((m + p : Nat) : Int) := by rw [wrap_ok (by omega) (by omega)]; omega
  have er : rd v ((m + p : Nat) : Int) = v[m + p] := by
    simp only [rd, Int.toNat_natCast]
    rw [List.getD_eq_getElem?_getD, List.getElem?_eq_getElem hi]; rfl
  have c1 : (0 : Int) ≤ ((m + p : Nat) : Int) := by omega
  have c2 : ((m + p : Nat) : Int) < (v.length : Int) := by omega
  rw [e, m1, m2, if_pos c1, if_pos c2, er]
set_option maxHeartbeats 8000000 in
set_option maxRecDepth 100000 in
theorem connOk_calls (w : World) (hs : Snt w) (R C : Nat) (A : Option Addr) (c : Nat) (l : List Int) (p q : Nat) (hC : (Kd.int .i64).C w A l.length l) (hc : l.length ≤ c) (h1 : 1 ≤ R) (h2 : R ≤ 64) (h3 : 1 ≤ C) (h4 : C ≤ 64) (hl : l.length = R * C) (hp : p < R) (hq : q < C) (hi : R * q + p < l.length) :
    Calls Tryd.prog 9 #[.int .i64 R, .int .i64 C, .slice A l.length c, .int .i64 p, .int .i64 q] w fun e w' =>
      ∃ A' c', e = .returned (.tuple #[.int .i64 ((w16 l)[R * q + p]'(by rw [w16_len]; exact hi)), .slice A' (16 + 2 * l.length) c', .int .i64 0]) ∧ 16 + 2 * l.length ≤ c' ∧ (Kd.int .u8).C w' A' (16 + 2 * l.length) (wct R C (w16 l) l.length) ∧ Below w.heap.size w w' := by
  have HC := Aside0.mk hC
  have HS := Aside0.mk hs
  have HLL := Aside0.mk hl
  have hb : l.length ≤ 4096 := by
    have := mul_bd (a := R) (b := C) (by omega) (by omega) (by omega) (by omega)
    have e : ((R * C : Nat) : Int) = (R : Int) * C := by simp
    omega
  have HN : Aside0 (l.length ≤ 4096) := ⟨hb⟩
  have c0 : ¬ (R : Int) < 1 := by omega
  have c1 : ¬ (C : Int) < 1 := by omega
  have c2 : ¬ (R : Int) > 64 := by omega
  have c3 : ¬ (C : Int) > 64 := by omega
  have hw : IntKind.i64.wrap ((R : Int) * C) = (l.length : Int) := by
    have e : ((R * C : Nat) : Int) = (R : Int) * C := by simp
    rw [IntKind.wrap_i64]; omega
  have c4 : ((l.length : Int) != (l.length : Int)) = false := by simp
  have c5 : ¬ (p : Int) < 0 := by omega
  have c6 : ¬ (p : Int) ≥ R := by omega
  have c7 : ¬ (q : Int) < 0 := by omega
  have c8 : ¬ (q : Int) ≥ C := by omega
  clear hC hs hl hb
  go_enter Tryd.func9, Tryd.ntmps9
  go_wp2_with fail
  clear c0 c1 c2 c3 c4 c5 c6 c7 c8 hw
  go_loopg [15, 66] l.length (fun kq v15 v66 w' => ∃ (i : Nat) (A2 : Option Addr) (c2 : Nat), v66 = .int .i64 i ∧ Aside0 (i + kq = l.length) ∧ Aside0 (w'.heap[w.heap.size]? = some (.cells #[.int .i64 R, .int .i64 C, .slice A2 i c2] 44 (0, 0))) ∧
    Aside0 ((Kd.int .i16).R 45 w' w.heap.size (fun k => k ≠ w.heap.size) (.slice A2 i c2) (w16 (l.take i))) ∧ Aside0 (Below w.heap.size w w'))
  case atStart => exact ⟨0, none, 0, rfl, ⟨by omega⟩, ⟨blk_new w _⟩, ⟨Kd.R_nil _ _ _ _ _⟩, ⟨below_alloc (Below.refl _ _) _⟩⟩
  case round =>
    obtain ⟨i, A2, c2, rfl, HK, HT, HR, HB⟩ := hrel
    have z2 : wr.cell? ⟨w.heap.size, 2, none⟩ = some (.slice A2 i c2) := cells_at HT.out 2 _ rfl
    have f2 := froz_at HT.out 2
    by_cases c1 : (i : Int) < (l.length : Int)
    · have hi' : i < l.length := by omega
      obtain ⟨ad, rfl⟩ : ∃ ad, A = some ad := by
        obtain ⟨ad, e, _⟩ := HC.out.2.2 (by omega)
        exact ⟨ad, e⟩
      obtain ⟨v, hv⟩ : ∃ v, v = l[i] := ⟨_, rfl⟩
      have HV : Aside0 (l[i]? = some v) := ⟨by rw [hv]; exact List.getElem?_eq_getElem hi'⟩
      have y := C_cells (Kd.C_below HC.out HB.out) i v HV.out
      clear hv
      have p1 : (0 : Int) ≤ i := by omega
      have c1b := decide_eq_true c1
      go_wp2_with (first | ((with_reducible refine gate_builtin (b := .append) (xs := #[.tmp 71, .tmp 74]) rfl ?_); at_builtin; go_must (refine Kd.R_append (Kd.int .i16) (w0 := w) w.heap.size rfl (.tmp 71) (.tmp 74) 42 45 (.int .i16 0) 2 rfl Tryd.underlying42 (by kernel_rfl) rfl (by decide) (by omega) (.slice A2 i c2) (w16 (l.take i)) (IntKind.i16.wrap v) [.int .i16 (IntKind.i16.wrap v)] (fun k => k ≠ w.heap.size) (fun _ => False) rfl ?aX ?aM (fun _ h_ => h_.elim) ?aF ?aO ?aB ?aS ?aL ?aK; (case aX => first | rfl | (go_simp; done) | (go_simp; rfl)); (case aM => exact rfl); (case aF => exact fun k hk => by have := blk_lt HT.out; omega); (case aO => exact HR.out); (case aB => exact HB.out); (case aS => exact HB.out.size); (case aL => have := HN.out; simp [w16]; omega); intro v1_ w1 hR1 hB1 hG1 hA1; obtain ⟨A9, c9, e9⟩ := Kd.R_slice hR1; subst e9; have HR1 := Aside0.mk hR1; have HB1' := Aside0.mk hB1; have HG1 := Aside0.mk hG1; have hT1 : w1.heap[w.heap.size]? = some (.cells #[.int .i64 R, .int .i64 C, .slice A2 i c2] 44 (0, 0)) := (by rw [hG1.block _ (blk_lt HT.out) (fun e => HR.out.1 _ e.symm rfl)]; exact HT.out); have HT1 := Aside0.mk hT1; have z2_ : w1.cell? ⟨w.heap.size, 2, none⟩ = some (.slice A2 i c2) := cells_at hT1 2 _ rfl; have f2_ := froz_at hT1 2; clear z2 f2 hR1 hB1 hG1 hA1 hT1)))
      have hlen : (w16 (l.take i) ++ [IntKind.i16.wrap v]).length = i + 1 := by simp [w16]; omega
      have hmin : (w16 (l.take i)).length = i := by simp [w16]; omega
      have hR1 := HR1.out
      rw [hlen] at hR1
      have hmap : w16 (l.take (i + 1)) = w16 (l.take i) ++ [IntKind.i16.wrap v] := by
        unfold w16
        rw [List.take_add_one, List.map_append, HV.out]; rfl
      have HK' := HK.out
      have HN' := HN.out
      cases gk with
      | zero => omega
      | succ k9 =>
        go_roundg k9
        case measure => omega
        case rel => exact ⟨i + 1, A9, c9, int_eq (by first | omega | (rw [wrap_ok (by omega) (by omega)]; omega)), ⟨by omega⟩, ⟨blk_put HT1.out 2 _ (by first | rfl | (rw [hmin]; rfl))⟩, ⟨by rw [hmap]; exact Kd.R_far hR1 (fun k hk => hk) _⟩, ⟨HB1'.out.setCell (p := ⟨w.heap.size, 2, none⟩) (Nat.le_refl _) _⟩⟩
    · have c1b := decide_eq_false c1
      obtain rfl : i = l.length := by have := HK.out; omega
      have z0 : wr.cell? ⟨w.heap.size, 0, none⟩ = some (.int .i64 R) := cells_at HT.out 0 _ rfl
      have z1 : wr.cell? ⟨w.heap.size, 1, none⟩ = some (.int .i64 C) := cells_at HT.out 1 _ rfl
      have hR := HR.out
      rw [List.take_of_length_le (Nat.le_refl _)] at hR
      obtain ⟨A3, c3, e3, hc3, hC3, hA3⟩ := R_row hR
      rw [w16_len] at e3 hc3 hC3
      injection e3 with e3 _ e4
      subst e3 e4
      obtain ⟨D, hD⟩ : ∃ D, D = wct R C (w16 l) l.length := ⟨_, rfl⟩
      have hDl : D.length = 16 + 2 * l.length := by rw [hD, wct_len, w16_len, Nat.min_self]
      have hDb : ∀ x ∈ D, 0 ≤ x ∧ x < 256 := by rw [hD]; exact wct_bytes _ _ _ _
      obtain ⟨Wb, hWb⟩ : ∃ Wb, Wb = wr.alloc (.cells #[.slice none 0 0, .int .i64 0, .int .i8 0] 49) := ⟨_, rfl⟩
      have TO := Aside0.mk (tableTo_calls Wb R C A2 c2 (w16 l) (by rw [hWb, w16_len]; exact Kd.C_alloc hC3 _) (by rw [w16_len]; exact hc3) (by rw [w16_len]; have := HN.out; omega) wr.heap.size wr.heap.size (by rw [hWb]; exact Lib.fresh_isBuffer 49 5 wr) (by rw [hWb, Own.size_alloc]; omega)
        (fun a ha => by
          obtain ⟨h_, cs, h2_⟩ := hA3 a ha
          exact ⟨Nat.ne_of_lt (blk_lt h2_), cs, _, by rw [hWb]; exact blk_alloc h2_ _, by decide⟩))
      rw [w16_len, ← hD] at TO
      have z0b : Wb.cell? ⟨w.heap.size, 0, none⟩ = some (.int .i64 R) := by rw [hWb]; exact cells_at (blk_alloc HT.out _) 0 _ rfl
      have z1b : Wb.cell? ⟨w.heap.size, 1, none⟩ = some (.int .i64 C) := by rw [hWb]; exact cells_at (blk_alloc HT.out _) 1 _ rfl
      have z2b : Wb.cell? ⟨w.heap.size, 2, none⟩ = some (.slice A2 l.length c2) := by rw [hWb]; exact cells_at (blk_alloc HT.out _) 2 _ rfl
      have HBb : Aside0 (Below w.heap.size w Wb) := ⟨by rw [hWb]; exact below_alloc HB.out _⟩
      have HDx := Aside0.mk (And.intro hD (And.intro hDl hDb))
      have HWs : Aside0 (w.heap.size ≤ wr.heap.size ∧ wr.heap.size < Wb.heap.size) := ⟨by have := HB.out.size; exact this, by rw [hWb, Own.size_alloc]; omega⟩
      obtain ⟨bb, hbb⟩ : ∃ bb, bb = wr.heap.size := ⟨_, rfl⟩
      rw [← hbb] at TO HWs
      have HBBw := Aside0.mk hbb
      clear hD hDl hDb hR hC3 hA3 hc3 z0 z1 z2 f2 HR HT HB
      have HWb := Aside0.mk hWb
      rw [hWb] at z0b z1b z2b
      clear hWb hbb
      go_wp2_with fail
      rw [← HWb.out, ← HBBw.out]
      with_reducible refine Calls.mono TO.out ?_
      rintro _ W2 ⟨rfl, hI2, hB2⟩
      have HI2 := Aside0.mk hI2
      have HB2 : Aside0 (Below w.heap.size w W2) := ⟨HBb.out.trans (hB2.mono HWs.out.1)⟩
      have hlen : (u8s D).length = 16 + 2 * l.length := by simp [u8s, HDx.out.2.1]
      have HL := Aside0.mk hlen
      clear hI2 hB2 hlen z0b z1b z2b TO
      go_wp2_with (go_at_call 16; go_must (refine (Tryd.Buffer_Len bb bb _ _ HI2.out).mono ?_; rw [HL.out]; rintro _ _ ⟨rfl, n3, rfl⟩))
      with_reducible refine Calls.mono (Tryd.Buffer_Bytes bb bb _ _ (bufDrewN HI2.out _)) ?_
      rintro _ W3 ⟨v4, rfl, hv4, n4, hW3⟩
      obtain ⟨A5, c5, rfl, hc5, hC5, hA5⟩ := R_row (bytes_R hv4)
      have hk3 : ∀ k : Nat, W3.heap[k]? = W2.heap[k]? := fun k => by rw [hW3]; rfl
      have hB3 : Below w.heap.size w W3 := by rw [hW3]; exact pw_below_drewN (pw_below_drewN HB2.out _) _
      have hD := HDx.out
      rw [hD.2.1] at hc5 hC5
      rw [hD.2.1]
      obtain ⟨a5, rfl⟩ : ∃ a, A5 = some a := by
        obtain ⟨a, e, _⟩ := hC5.2.2 (by omega)
        exact ⟨a, e⟩
      have hla := C_lt hC5 rfl (by omega)
      have hwh := wct_head R C (w16 l) l.length h2 h4
      rw [← hD.1] at hwh
      have hS3 := HS.out.below hB3
      have RT := Aside0.mk (readTable_calls (W3.alloc (rdr (some a5) (16 + 2 * l.length) c5 0 (-1))) W3.heap.size a5 (16 + 2 * l.length) c5 R C l.length (-1) D
        ⟨Kd.C_alloc hC5 _, hD.2.2, hc5, by have := HN.out; omega, by omega, by rw [Own.size_alloc]; omega, by rw [Own.size_alloc]; omega, sntAlloc hS3 _, (sntNe hS3).1, (sntNe hS3).2⟩
        (blk_new W3 _) hwh.1 hwh.2 (by have := HLL.out; rw [this]; simp) (by have := HN.out; omega) rfl)
      have H3 := Aside0.mk (And.intro hk3 hB3)
      clear hW3 hv4 hk3 hB3 hc5 hC5 hA5 hla hwh hS3 hD
      go_wp2_with (go_at_call 18; refine (newReader _ _ _ _).mono ?_; rintro _ _ ⟨rfl, rfl⟩)
      with_reducible refine Calls.mono RT.out ?_
      rintro _ W5 ⟨G, rfl, hG, hk5, hGs⟩
      have hrow : (Kd.int .i16).C W5 (some ⟨G, 0, none⟩) (w16 l).length (w16 l) := by
        refine ⟨rfl, by rw [w16_len]; have := HN.out; omega, fun _ => ⟨_, rfl, fun j x hj => ⟨[.int .i16 x], rfl, rfl, fun k u hu => ?_⟩⟩⟩
        cases k with
        | succ k => simp at hu
        | zero =>
          simp at hu
          subst hu
          obtain ⟨hjl, hjx⟩ := List.getElem?_eq_some_iff.1 hj
          rw [w16_len] at hjl
          have e1 : (Kd.int .i16).sz = 1 := rfl
          have e2 : (⟨G, 0, none⟩ : Addr).add (j * 1 + 0) = ⟨G, j, none⟩ := by unfold Addr.add; by_cases h : j = 0 <;> simp [h]
          rw [e1, e2]
          refine cells_at hG j _ ?_
          rw [rcells_get _ _ _ _ _ hjl, if_pos hjl]
          have hv := wct_val R C l j hjl
          rw [← HDx.out.1] at hv
          rw [hv, hjx]
      have hB5 : Below w.heap.size w W5 := below_kept (below_alloc H3.out.2 _) H3.out.2.size hk5
      have hIdx : R * q + p < (w16 l).length := by rw [w16_len]; exact hi
      obtain ⟨vv, hvv⟩ : ∃ vv, vv = (w16 l)[R * q + p]'hIdx := ⟨_, rfl⟩
      have vb0 : -32768 ≤ vv := by rw [hvv]; exact (w16_bd l _ hIdx).1
      have vb1 : vv ≤ 32767 := by rw [hvv]; exact (w16_bd l _ hIdx).2
      have AT := Aside0.mk (dict_ConnectionTable_At.calls W5.heap.size R C (w16 l) p q vv R C W5 (W5.alloc (.cells #[.int .i64 R, .int .i64 C, .slice (some ⟨G, 0, none⟩) l.length l.length] 44))
        ⟨some ⟨G, 0, none⟩, l.length, by rw [w16_len]; exact blk_new W5 _, Nat.le_refl _, hrow⟩ (below_alloc (Below.refl _ _) _) (by rw [hvv]; exact at_eval R C (w16 l) p q (by rw [w16_len]; have := HN.out; omega) hIdx))
      have H5 := Aside0.mk (And.intro hk5 (And.intro hB5 hGs))
      have HVV := Aside0.mk hvv
      clear hG hk5 hGs hrow hB5 RT hvv
      go_wp2_with fail
      with_reducible refine Calls.mono AT.out ?_
      rintro _ W7 ⟨rfl, -, hB7, hKB⟩
      have hI7 : Lib.IsBuffer 49 5 bb bb (u8s D) W7 := bufCarry HI2.out (fun k hk => by
        have k3 : k < W3.heap.size := by
          rcases Nat.lt_or_ge k W3.heap.size with h_ | h_
          · exact h_
          · have e1 := H3.out.1 k
            rw [Array.getElem?_eq_none h_] at e1
            rw [Array.getElem?_eq_getElem hk] at e1
            cases e1
        have k4 : k < (W3.alloc (rdr (some a5) (16 + 2 * l.length) c5 0 (-1))).heap.size := by rw [Own.size_alloc]; omega
        have k5 : k < W5.heap.size := Nat.lt_of_lt_of_le k4 H5.out.1.1
        rw [hKB.2 k (by rw [Own.size_alloc]; omega) (by omega) (by simp), Below.heap_alloc _ _ _ k5, H5.out.1.2 k k4 (by omega), Below.heap_alloc _ _ _ k3, H3.out.1 k])
      have hB8 : Below w.heap.size w W7 := H5.out.2.1.trans (hB7.mono H5.out.2.1.size)
      have HI7 := Aside0.mk hI7
      have HB8 := Aside0.mk hB8
      clear hKB hB7 hI7 hB8 AT
      go_wp2_with fail
      with_reducible refine Calls.mono (Tryd.Buffer_Bytes bb bb _ _ HI7.out) ?_
      rintro _ W9 ⟨v9, rfl, hv9, n9, hW9⟩
      obtain ⟨A9, c9, rfl, hc9, hC9, -⟩ := R_row (bytes_R hv9)
      have hB9 : Below w.heap.size w W9 := by rw [hW9]; exact pw_below_drewN HB8.out _
      have hD := HDx.out
      rw [hD.2.1] at hc9 hC9
      rw [hD.2.1]
      have HB9 := Aside0.mk hB9
      have HC9 := Aside0.mk hC9
      clear hW9 hv9 hB9 hC9 hD
      go_wp2_with fail
      go_ret3
      exact ⟨A9, c9, by rw [HVV.out]; rfl, hc9, by rw [← HDx.out.1]; exact HC9.out, HB9.out⟩
end Go.Proofs.YtckdpckdabfkbaaDoor.Num
