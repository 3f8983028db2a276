/- spec.MorphRead. -/
import Derived.Deep.DeepMust
import Derived.Outline
import Derived.Test.YtckdpckdabfkbabDoorMorphW
import Derived.Test.YtckdpckdabfkbabDoorWLast
namespace Go.Proofs.YtckdpckdabfkbabDoor.Num
open Go.RowKit Go.Proofs.YtckdpckdabfkbabDoorW.PrintWords Go.Proofs.YtckdpckdabfkbabDoor.Plain Go.Proofs.YtckdpckdabfkbabDoor.PA Go.Proofs.YtckdpckdabfkbabDoorW.PrintLast
set_option linter.unusedVariables false
set_option linter.unusedSimpArgs false

theorem dShort_calls (W : World) (a : Addr) (c : Nat) (data : List Int) (hC : (Kd.int .u8).C W (some a) data.length data) (hc : data.length ≤ c) (hb : ∀ x ∈ data, 0 ≤ x ∧ x < 256) (p : Nat) (hp : p + 2 ≤ data.length) (r : Int) (hr : r = IntKind.i16.wrap (valb ((data.drop p).take 2))) :
    Calls Tryd.prog 26 #[.slice (some (a.add p)) (data.length - p) (c - p)] W fun e w' => e = .returned (.int .i64 r) ∧ Drawn0 W w' := by
  subst hr
  have h := Kd.C_drop (m := p) (c := c) hC (by omega) hc
  rw [if_neg (by omega)] at h
  have e1 : (Kd.int .u8).sz = 1 := rfl
  simp only [Option.map_some, e1, Nat.mul_one] at h
  have h2 := spec_dShort.calls (some (a.add p)) (c - p) (data.drop p) _ W h (by simp; omega) (short_eq (data.drop p) (fun x hx => hb x (List.mem_of_mem_drop hx)) (by simp; omega))
  rwa [List.length_drop] at h2
def SRd (w : World) (data : List Int) (e : Ending) (w' : World) : Prop :=
  (data.length < 8 ∧ e = .returned (.tuple #[.slice none 0 0, .int .i64 1, .bool true]) ∧ Below w.heap.size w w') ∨
  (∃ l : Nat, 8 ≤ data.length ∧ valb (data.take 8) = l ∧ (
    ((data.length < l ∨ 8 + 6 * l < data.length) ∧ e = .returned (.tuple #[.slice none 0 0, .int .i64 0, .bool false]) ∧ Below w.heap.size w w') ∨
    (data.length < 8 + 6 * l ∧ e = .returned (.tuple #[.slice none 0 0, .int .i64 1, .bool true]) ∧ Below w.heap.size w w') ∨
    (data.length = 8 + 6 * l ∧ ∃ A c, e = .returned (.tuple #[.slice A l c, .int .i64 0, .bool true]) ∧ l ≤ c ∧ (tri .i64).C w' A l (mrd data l) ∧ Below w.heap.size w w')))

set_option maxHeartbeats 8000000 in
set_option maxRecDepth 100000 in
theorem specRead_last (w : World) (a : Addr) (c : Nat) (data : List Int) (l : Nat) (hC : (Kd.int .u8).C w (some a) data.length data) (hc : data.length ≤ c) (hb : ∀ x ∈ data, 0 ≤ x ∧ x < 256) (hn : data.length ≤ 2000)
    (hdl : data.length = 8 + 6 * l) (hl : valb (data.take 8) = l) (hT : Calls Tryd.prog 25 #[.slice (some a) 8 c] w fun e w' => e = .returned (.int .u64 l) ∧ Drawn0 w w')
    (s8 : (8 : Int) ≤ data.length) (w1 : IntKind.u64.wrap (data.length : Int) = data.length) (w2 : IntKind.u64.wrap ((data.length : Int) - 8) = (data.length : Int) - 8) (w3 : IntKind.u64.wrap ((l : Int) * 6) = (l : Int) * 6)
    (t1 : decide ((l : Int) > data.length) = false) (t2 : decide ((data.length : Int) - 8 > (l : Int) * 6) = false) (t3 : decide ((data.length : Int) - 8 < (l : Int) * 6) = false) :
    Calls Tryd.prog 9 #[.slice (some a) data.length c] w (SRd w data) := by
  have HC := Aside0.mk hC
  have HBy := Aside0.mk hb
  have HD := Aside0.mk hdl
  have HL := Aside0.mk hl
  have QT := Aside0.mk hT
  have HN : Aside0 (data.length ≤ 2000) := ⟨hn⟩
  have h8 : ¬ ((data.length : Int) < 8) := by omega
  have t4 : decide (data.length < l) = false := decide_eq_false (by omega)
  clear hC hb hdl hl hT
  go_enter Tryd.func9, Tryd.ntmps9
  go_wp2_with fail
  with_reducible refine Calls.mono QT.out ?_
  rintro _ W1 ⟨rfl, ⟨⟨q, rfl⟩⟩⟩
  go_wp2_with fail
  clear t1 t2 t3 t4 w1 w2 w3 h8
  go_loopg [2, 6] l (fun kq v2 v6 w' => ∃ (i : Nat) (A2 : Option Addr) (c2 p : Nat), v6 = .int .i64 p ∧ v2 = .slice A2 i c2 ∧ Aside0 (i + kq = l ∧ p = 8 + 6 * i) ∧ Aside0 ((tri .i64).R 30 w' w.heap.size (fun _ => True) (.slice A2 i c2) (mrd data i)) ∧ Aside0 (Below w.heap.size w w'))
  case atStart => exact ⟨0, none, 0, 8, rfl, rfl, ⟨by omega, rfl⟩, ⟨Kd.R_nil _ _ _ _ _⟩, ⟨pw_below_drewN (Below.refl _ _) q⟩⟩
  case round =>
    obtain ⟨i, A2, c2, p, rfl, rfl, HK, HR, HB⟩ := hrel
    by_cases c1 : (p : Int) < (data.length : Int)
    · have hp6 : p + 6 ≤ data.length := by have := HK.out; have := HD.out; omega
      have p0 : (0 : Int) ≤ p := by omega
      have p1 : (p : Int) ≤ data.length := by omega
      have c1b := decide_eq_true c1
      have e0 : ¬ c = p := by omega
      have e2 : ¬ c = p + 2 := by omega
      have e4 : ¬ c = p + 4 := by omega
      have f2 : IntKind.i64.wrap ((p : Int) + 2) = (p : Int) + 2 := by rw [IntKind.wrap_i64]; omega
      have f4 : IntKind.i64.wrap ((p : Int) + 4) = (p : Int) + 4 := by rw [IntKind.wrap_i64]; omega
      have g2 : (0 : Int) ≤ (p : Int) + 2 := by omega
      have g4 : (0 : Int) ≤ (p : Int) + 4 := by omega
      have k2 : (p : Int) + 2 ≤ data.length := by omega
      have k4 : (p : Int) + 4 ≤ data.length := by omega
      have j2 : ((p : Int) + 2).toNat = p + 2 := by omega
      have j4 : ((p : Int) + 4).toNat = p + 4 := by omega
      have v0e : IntKind.i16.wrap (valb ((data.drop p).take 2)) = val 8 data (i * 3) := by
        unfold val
        rw [show 8 + 2 * (i * 3) = p by have := HK.out; omega]
      have v1e : IntKind.i16.wrap (valb ((data.drop (p + 2)).take 2)) = val 8 data (i * 3 + 1) := by
        unfold val
        rw [show 8 + 2 * (i * 3 + 1) = p + 2 by have := HK.out; omega]
      have v2e : IntKind.i16.wrap (valb ((data.drop (p + 4)).take 2)) = val 8 data (i * 3 + 2) := by
        unfold val
        rw [show 8 + 2 * (i * 3 + 2) = p + 4 by have := HK.out; omega]
      obtain ⟨v0, hv0⟩ : ∃ v, v = IntKind.i16.wrap (valb ((data.drop p).take 2)) := ⟨_, rfl⟩
      obtain ⟨v1, hv1⟩ : ∃ v, v = IntKind.i16.wrap (valb ((data.drop (p + 2)).take 2)) := ⟨_, rfl⟩
      obtain ⟨v2, hv2⟩ : ∃ v, v = IntKind.i16.wrap (valb ((data.drop (p + 4)).take 2)) := ⟨_, rfl⟩
      have HV : Aside0 (mrd data (i + 1) = mrd data i ++ [(v0, v1, v2)]) := ⟨by rw [mrd_succ, hv0, hv1, hv2, v0e, v1e, v2e]⟩
      have HV0 := Aside0.mk hv0
      have HV1 := Aside0.mk hv1
      have HV2 := Aside0.mk hv2
      have HB0 : Aside0 (Below w.heap.size w wr.drew) := ⟨below_drew HB.out⟩
      have HR0 : Aside0 ((tri .i64).R 30 wr.drew w.heap.size (fun _ => True) (.slice A2 i c2) (mrd data i)) := ⟨Kd.R_drew HR.out⟩
      clear v0e v1e v2e hv0 hv1 hv2
      go_wp2_with fail
      iterate 1
        refine start_ (n := 19) (S := fun w' => True) (ds := []) #[false, false, false, false, false, false, false, false, false, false, false, false, false, false, false, false, false, false, false] (by kernel_rfl) rfl rfl trivial (fun hHeld => ?_)
        refine pure_ (i := 0) (N := some 40) (v := ?_) (a' := ?_) #[true, false, false, false, false, false, false, false, false, false, false, false, false, false, false, false, false, false, false] rfl rfl (by kernel_rfl) (fun _ _ _ h => h) (Or.inl ⟨by rfl, ?_⟩) ?_ ?_
        rotate_left
        · intro w'
          go_simp
          with_reducible rfl
        rotate_left
        · simp only [Act.put, List.setIfInBounds_toArray, List.set_cons_zero, List.set_cons_succ, i64_w, i32_w]
          rfl
        refine pure_ (i := 1) (N := some 41) (v := ?_) (a' := ?_) #[true, true, false, false, false, false, false, false, false, false, false, false, false, false, false, false, false, false, false] rfl rfl (by kernel_rfl) (fun _ _ _ h => h) (Or.inl ⟨by rfl, ?_⟩) ?_ ?_
        rotate_left
        · intro w'
          go_simp
          with_reducible rfl
        rotate_left
        · simp only [Act.put, List.setIfInBounds_toArray, List.set_cons_zero, List.set_cons_succ, i64_w, i32_w]
          rfl
        refine pure_ (i := 2) (N := some 42) (v := ?_) (a' := ?_) #[true, true, true, false, false, false, false, false, false, false, false, false, false, false, false, false, false, false, false] rfl rfl (by kernel_rfl) (fun _ _ _ h => h) (Or.inl ⟨by rfl, ?_⟩) ?_ ?_
        rotate_left
        · intro w'
          go_simp
          with_reducible rfl
        rotate_left
        · simp only [Act.put, List.setIfInBounds_toArray, List.set_cons_zero, List.set_cons_succ, i64_w, i32_w]
          rfl
        refine pure_ (i := 3) (N := some 43) (v := ?_) (a' := ?_) #[true, true, true, true, false, false, false, false, false, false, false, false, false, false, false, false, false, false, false] rfl rfl (by kernel_rfl) (fun _ _ _ h => h) (Or.inl ⟨by rfl, ?_⟩) ?_ ?_
        rotate_left
        · intro w'
          go_simp
          with_reducible rfl
        rotate_left
        · simp only [Act.put, List.setIfInBounds_toArray, List.set_cons_zero, List.set_cons_succ, i64_w, i32_w]
          rfl
        refine pure_ (i := 5) (N := some 45) (v := ?_) (a' := ?_) #[true, true, true, true, false, true, false, false, false, false, false, false, false, false, false, false, false, false, false] rfl rfl (by kernel_rfl) (fun _ _ _ h => h) (Or.inl ⟨by rfl, ?_⟩) ?_ ?_
        rotate_left
        · intro w'
          go_simp
          with_reducible rfl
        rotate_left
        · simp only [Act.put, List.setIfInBounds_toArray, List.set_cons_zero, List.set_cons_succ, i64_w, i32_w]
          rfl
        refine pure_ (i := 6) (N := some 46) (v := ?_) (a' := ?_) #[true, true, true, true, false, true, true, false, false, false, false, false, false, false, false, false, false, false, false] rfl rfl (by kernel_rfl) (fun _ _ _ h => h) (Or.inl ⟨by rfl, ?_⟩) ?_ ?_
        rotate_left
        · intro w'
          go_simp
          with_reducible rfl
        rotate_left
        · simp only [Act.put, List.setIfInBounds_toArray, List.set_cons_zero, List.set_cons_succ, i64_w, i32_w]
          rfl
        refine pure_ (i := 7) (N := some 47) (v := ?_) (a' := ?_) #[true, true, true, true, false, true, true, true, false, false, false, false, false, false, false, false, false, false, false] rfl rfl (by kernel_rfl) (fun _ _ _ h => h) (Or.inl ⟨by rfl, ?_⟩) ?_ ?_
        rotate_left
        · intro w'
          go_simp
          with_reducible rfl
        rotate_left
        · simp only [Act.put, List.setIfInBounds_toArray, List.set_cons_zero, List.set_cons_succ, i64_w, i32_w]
          rfl
        refine pure_ (i := 8) (N := some 48) (v := ?_) (a' := ?_) #[true, true, true, true, false, true, true, true, true, false, false, false, false, false, false, false, false, false, false] rfl rfl (by kernel_rfl) (fun _ _ _ h => h) (Or.inl ⟨by rfl, ?_⟩) ?_ ?_
        rotate_left
        · intro w'
          go_simp
          with_reducible rfl
        rotate_left
        · simp only [Act.put, List.setIfInBounds_toArray, List.set_cons_zero, List.set_cons_succ, i64_w, i32_w]
          rfl
        refine pure_ (i := 10) (N := some 50) (v := ?_) (a' := ?_) #[true, true, true, true, false, true, true, true, true, false, true, false, false, false, false, false, false, false, false] rfl rfl (by kernel_rfl) (fun _ _ _ h => h) (Or.inl ⟨by rfl, ?_⟩) ?_ ?_
        rotate_left
        · intro w'
          go_simp
          with_reducible rfl
        rotate_left
        · simp only [Act.put, List.setIfInBounds_toArray, List.set_cons_zero, List.set_cons_succ, i64_w, i32_w]
          rfl
        refine pure_ (i := 11) (N := some 51) (v := ?_) (a' := ?_) #[true, true, true, true, false, true, true, true, true, false, true, true, false, false, false, false, false, false, false] rfl rfl (by kernel_rfl) (fun _ _ _ h => h) (Or.inl ⟨by rfl, ?_⟩) ?_ ?_
        rotate_left
        · intro w'
          go_simp
          with_reducible rfl
        rotate_left
        · simp only [Act.put, List.setIfInBounds_toArray, List.set_cons_zero, List.set_cons_succ, i64_w, i32_w]
          rfl
        refine pure_ (i := 12) (N := some 52) (v := ?_) (a' := ?_) #[true, true, true, true, false, true, true, true, true, false, true, true, true, false, false, false, false, false, false] rfl rfl (by kernel_rfl) (fun _ _ _ h => h) (Or.inl ⟨by rfl, ?_⟩) ?_ ?_
        rotate_left
        · intro w'
          go_simp
          with_reducible rfl
        rotate_left
        · simp only [Act.put, List.setIfInBounds_toArray, List.set_cons_zero, List.set_cons_succ, i64_w, i32_w]
          rfl
        refine pure_ (i := 13) (N := some 53) (v := ?_) (a' := ?_) #[true, true, true, true, false, true, true, true, true, false, true, true, true, true, false, false, false, false, false] rfl rfl (by kernel_rfl) (fun _ _ _ h => h) (Or.inl ⟨by rfl, ?_⟩) ?_ ?_
        rotate_left
        · intro w'
          go_simp
          with_reducible rfl
        rotate_left
        · simp only [Act.put, List.setIfInBounds_toArray, List.set_cons_zero, List.set_cons_succ, i64_w, i32_w]
          rfl
        refine one_ (i := 4) (N := some 44) #[true, true, true, true, true, true, true, true, true, false, true, true, true, true, false, false, false, false, false] rfl rfl (by kernel_rfl) (by decide) (fun K hK => ?_)
        refine goes_ Tryd.func26 (by kernel_rfl) rfl #[.slice (some (a.add p)) (data.length - p) (c - p)] (by rfl) rfl rfl (by simp only [List.map_toArray, List.map_cons, List.map_nil]; rfl) ?_
        with_reducible refine (dShort_calls _ a c data (Kd.C_below HC.out HB0.out) hc HBy.out p (by omega) v0 HV0.out).mono ?_
        rintro e w10 ⟨rfl, hd0⟩
        refine ⟨_, rfl, ?_⟩
        have HB1 : Aside0 (Below w.heap.size w w10) := ⟨by obtain ⟨q_, e_⟩ := hd0.out; rw [e_]; exact pw_below_drewN HB0.out q_⟩
        have HR1 : Aside0 ((tri .i64).R 30 w10 w.heap.size (fun _ => True) (.slice A2 i c2) (mrd data i)) := ⟨by obtain ⟨q_, e_⟩ := hd0.out; rw [e_]; exact Kd.R_drewN HR0.out q_⟩
        clear hd0
        refine hK.out _ _ trivial (fun hHeld => ?_)
        clear hK K
        refine norm_ (a' := ?_) ?_ ?_
        rotate_left
        · show Act.put _ (some 44) _ = _
          simp only [Act.put, List.setIfInBounds_toArray, List.set_cons_zero, List.set_cons_succ, i64_w, i32_w]
          rfl
        refine one_ (i := 9) (N := some 49) #[true, true, true, true, true, true, true, true, true, true, true, true, true, true, false, false, false, false, false] rfl rfl (by kernel_rfl) (by decide) (fun K hK => ?_)
        refine goes_ Tryd.func26 (by kernel_rfl) rfl #[.slice (some (a.add (p + 2))) (data.length - (p + 2)) (c - (p + 2))] (by rfl) rfl rfl (by simp only [List.map_toArray, List.map_cons, List.map_nil]; rfl) ?_
        with_reducible refine (dShort_calls _ a c data (Kd.C_below HC.out HB1.out) hc HBy.out (p + 2) (by omega) v1 HV1.out).mono ?_
        rintro e w11 ⟨rfl, hd1⟩
        refine ⟨_, rfl, ?_⟩
        have HB2 : Aside0 (Below w.heap.size w w11) := ⟨by obtain ⟨q_, e_⟩ := hd1.out; rw [e_]; exact pw_below_drewN HB1.out q_⟩
        have HR2 : Aside0 ((tri .i64).R 30 w11 w.heap.size (fun _ => True) (.slice A2 i c2) (mrd data i)) := ⟨by obtain ⟨q_, e_⟩ := hd1.out; rw [e_]; exact Kd.R_drewN HR1.out q_⟩
        clear hd1
        refine hK.out _ _ trivial (fun hHeld => ?_)
        clear hK K
        refine norm_ (a' := ?_) ?_ ?_
        rotate_left
        · show Act.put _ (some 49) _ = _
          simp only [Act.put, List.setIfInBounds_toArray, List.set_cons_zero, List.set_cons_succ, i64_w, i32_w]
          rfl
        refine one_ (i := 14) (N := some 54) #[true, true, true, true, true, true, true, true, true, true, true, true, true, true, true, false, false, false, false] rfl rfl (by kernel_rfl) (by decide) (fun K hK => ?_)
        refine goes_ Tryd.func26 (by kernel_rfl) rfl #[.slice (some (a.add (p + 4))) (data.length - (p + 4)) (c - (p + 4))] (by rfl) rfl rfl (by simp only [List.map_toArray, List.map_cons, List.map_nil]; rfl) ?_
        with_reducible refine (dShort_calls _ a c data (Kd.C_below HC.out HB2.out) hc HBy.out (p + 4) (by omega) v2 HV2.out).mono ?_
        rintro e w12 ⟨rfl, hd2⟩
        refine ⟨_, rfl, ?_⟩
        have HB3 : Aside0 (Below w.heap.size w w12) := ⟨by obtain ⟨q_, e_⟩ := hd2.out; rw [e_]; exact pw_below_drewN HB2.out q_⟩
        have HR3 : Aside0 ((tri .i64).R 30 w12 w.heap.size (fun _ => True) (.slice A2 i c2) (mrd data i)) := ⟨by obtain ⟨q_, e_⟩ := hd2.out; rw [e_]; exact Kd.R_drewN HR2.out q_⟩
        clear hd2
        refine hK.out _ _ trivial (fun hHeld => ?_)
        clear hK K
        refine norm_ (a' := ?_) ?_ ?_
        rotate_left
        · show Act.put _ (some 54) _ = _
          simp only [Act.put, List.setIfInBounds_toArray, List.set_cons_zero, List.set_cons_succ, i64_w, i32_w]
          rfl
        refine pure_ (i := 15) (N := some 55) (v := ?_) (a' := ?_) #[true, true, true, true, true, true, true, true, true, true, true, true, true, true, true, true, false, false, false] rfl rfl (by kernel_rfl) (fun _ _ _ h => h) (Or.inl ⟨by rfl, ?_⟩) ?_ ?_
        rotate_left
        · intro w'
          go_simp
          with_reducible rfl
        rotate_left
        · simp only [Act.put, List.setIfInBounds_toArray, List.set_cons_zero, List.set_cons_succ, i64_w, i32_w]
          rfl
        refine one_ (i := 16) (N := some 56) #[true, true, true, true, true, true, true, true, true, true, true, true, true, true, true, true, true, false, false] rfl rfl (by kernel_rfl) (by decide) (fun K hK => ?_)
        refine value_ (w1 := ?_) (v := ?_) (by rfl) rfl ?_ ?_
        rotate_left 2
        · go_simp
          constructor
          · rfl
          · rfl
        refine hK.out _ _ trivial (fun hHeld => ?_)
        clear hK K
        refine norm_ (a' := ?_) ?_ ?_
        rotate_left
        · show Act.put _ (some 56) _ = _
          simp only [Act.put, List.setIfInBounds_toArray, List.set_cons_zero, List.set_cons_succ, i64_w, i32_w]
          rfl
        refine one_ (i := 17) (N := some 57) #[true, true, true, true, true, true, true, true, true, true, true, true, true, true, true, true, true, true, false] rfl rfl (by kernel_rfl) (by decide) (fun K hK => ?_)
        refine Kd.R_append_step (tri .i64) (w0 := w) w.heap.size (by rfl) (.tmp 40) (.tmp 56) 24 30 (.agg #[.int .i64 0, .int .i64 0, .int .i64 0]) 24 rfl Tryd.underlying24 (by kernel_rfl) rfl (by decide) (by omega) (.slice A2 i c2) (mrd data i) (v0, v1, v2) (vals .i64 (v0, v1, v2)) (fun _ => True) (fun _ => False) rfl ?aX M_tri (fun _ h_ => h_.elim) (fun _ _ => trivial) ?aO ?aB ?aS ?aL ?aK
        (case aX => first | rfl | (go_simp; done) | (go_simp; rfl))
        (case aO => exact HR3.out)
        (case aB => exact HB3.out)
        (case aS => exact HB3.out.size)
        (case aL => have := HN.out; have := HK.out; have := HD.out; simp [mrd]; omega)
        intro v1_ w1 hR1 hB1 hG1 hA1
        obtain ⟨A9, c9, e9⟩ := Kd.R_slice hR1
        subst e9
        have HR9 := Aside0.mk hR1
        have HB9 := Aside0.mk hB1
        clear hR1 hB1 hG1 hA1
        refine hK.out _ _ trivial (fun hHeld => ?_)
        clear hK K
        refine norm_ (a' := ?_) ?_ ?_
        rotate_left
        · show Act.put _ (some 57) _ = _
          simp only [Act.put, List.setIfInBounds_toArray, List.set_cons_zero, List.set_cons_succ, i64_w, i32_w]
          rfl
        refine pure_ (i := 18) (N := some 2) (v := ?_) (a' := ?_) #[true, true, true, true, true, true, true, true, true, true, true, true, true, true, true, true, true, true, true] rfl rfl (by kernel_rfl) (fun _ _ _ h => h) (Or.inl ⟨by rfl, ?_⟩) ?_ ?_
        rotate_left
        · intro w'
          go_simp
          with_reducible rfl
        rotate_left
        · simp only [Act.put, List.setIfInBounds_toArray, List.set_cons_zero, List.set_cons_succ, i64_w, i32_w]
          rfl
        refine done_ (by kernel_rfl) ?_
      have hlen : (mrd data i ++ [(v0, v1, v2)]).length = i + 1 := by simp [mrd]
      have hR9 := HR9.out
      rw [hlen] at hR9
      have hmin : (mrd data i).length = i := by simp [mrd]
      go_wp2_with fail
      have HK' := HK.out
      have HD' := HD.out
      have HN' := HN.out
      cases gk with
      | zero => omega
      | succ k9 =>
        go_roundg k9
        case measure => omega
        case rel => exact ⟨i + 1, A9, c9, p + 6, int_eq (by first | omega | (rw [wrap_ok (by omega) (by omega)]; omega)), by first | rfl | rw [hmin], ⟨by omega, by omega⟩, ⟨by rw [HV.out]; exact hR9⟩, HB9⟩
    · have c1b := decide_eq_false c1
      obtain rfl : i = l := by have := HK.out; have := HD.out; omega
      go_wp2_with fail
      have hR := Kd.R_reads' HR.out
      have hmin : (mrd data i).length = i := by simp [mrd]
      rw [hmin] at hR
      exact bodyPost_ret (v := .tuple #[.slice A2 i c2, .int .i64 0, .bool true]) (by simp [results, Tryd.results9, go_sem]) rfl (.inr ⟨i, by have := HD.out; omega, HL.out, .inr (.inr ⟨HD.out, A2, c2, rfl, hR.2.1, hR.2.2, HB.out⟩)⟩)
set_option maxHeartbeats 8000000 in
set_option maxRecDepth 100000 in
theorem specRead_calls (w : World) (A : Option Addr) (c : Nat) (data : List Int) (hC : (Kd.int .u8).C w A data.length data) (hc : data.length ≤ c) (hb : ∀ x ∈ data, 0 ≤ x ∧ x < 256) (hn : data.length ≤ 2000) :
    Calls Tryd.prog 9 #[.slice A data.length c] w (SRd w data) := by
  have HC := Aside0.mk hC
  have HBy := Aside0.mk hb
  by_cases h8 : data.length < 8
  · have h8' : ((data.length : Int) < 8) := by omega
    go_enter Tryd.func9, Tryd.ntmps9
    go_wp2_with fail
    exact bodyPost_ret (v := .tuple #[.slice none 0 0, .int .i64 1, .bool true]) (by simp [results, Tryd.results9, go_sem]) rfl (.inl ⟨h8, rfl, Below.refl _ _⟩)
  · have hv := valb_lt (data.take 8) (fun x hx => hb x (List.mem_of_mem_take hx))
    obtain ⟨l, hl⟩ : ∃ l : Nat, valb (data.take 8) = l := ⟨_, (Int.toNat_of_nonneg hv.1).symm⟩
    have h8' : ¬ ((data.length : Int) < 8) := by omega
    obtain ⟨kT, eT⟩ := take_ev (data.take 8) (fun x hx => hb x (List.mem_of_mem_take hx)) (by simp; omega)
    have hq := spec_dTake.calls kT A c (data.take 8) _ w (Kd.C_take hC (by omega)) (by simp; omega) (eT _ (Nat.le_refl _))
    rw [show (data.take 8).length = 8 by simp; omega, hl] at hq
    have hlt : (l : Int) < 18446744073709551616 := by
      have := hv.2
      rw [show (data.take 8).length = 8 by simp; omega, hl, show (256 : Int) ^ 8 = 18446744073709551616 by decide] at this
      exact this
    have QT := Aside0.mk hq
    have HL := Aside0.mk hl
    have HLT := Aside0.mk hlt
    obtain ⟨a, rfl⟩ : ∃ a, A = some a := by
      obtain ⟨a, e, _⟩ := hC.2.2 (by omega)
      exact ⟨a, e⟩
    have s8 : (8 : Int) ≤ data.length := by omega
    have w1 : IntKind.u64.wrap (data.length : Int) = data.length := by rw [wrapu]; omega
    have w2 : IntKind.u64.wrap ((data.length : Int) - 8) = (data.length : Int) - 8 := by rw [wrapu]; omega
    clear hv hl eT hq hlt hC hb
    by_cases hln : data.length < l
    · have t1 : decide ((l : Int) > data.length) = true := decide_eq_true (by omega)
      go_enter Tryd.func9, Tryd.ntmps9
      go_wp2_with fail
      with_reducible refine Calls.mono QT.out ?_
      rintro _ W1 ⟨rfl, ⟨⟨q, rfl⟩⟩⟩
      go_wp2_with fail
      exact bodyPost_ret (v := .tuple #[.slice none 0 0, .int .i64 0, .bool false]) (by simp [results, Tryd.results9, go_sem]) rfl (.inr ⟨l, by omega, HL.out, .inl ⟨.inl hln, rfl, pw_below_drewN (Below.refl _ _) q⟩⟩)
    · have t1 : decide ((l : Int) > data.length) = false := decide_eq_false (by omega)
      have w3 : IntKind.u64.wrap ((l : Int) * 6) = (l : Int) * 6 := by rw [wrapu]; omega
      by_cases hgt : 8 + 6 * l < data.length
      · have t2 : decide ((data.length : Int) - 8 > (l : Int) * 6) = true := decide_eq_true (by omega)
        go_enter Tryd.func9, Tryd.ntmps9
        go_wp2_with fail
        with_reducible refine Calls.mono QT.out ?_
        rintro _ W1 ⟨rfl, ⟨⟨q, rfl⟩⟩⟩
        go_wp2_with fail
        exact bodyPost_ret (v := .tuple #[.slice none 0 0, .int .i64 0, .bool false]) (by simp [results, Tryd.results9, go_sem]) rfl (.inr ⟨l, by omega, HL.out, .inl ⟨.inr hgt, rfl, pw_below_drewN (Below.refl _ _) q⟩⟩)
      · have t2 : decide ((data.length : Int) - 8 > (l : Int) * 6) = false := decide_eq_false (by omega)
        by_cases hsh : data.length < 8 + 6 * l
        · have t3 : decide ((data.length : Int) - 8 < (l : Int) * 6) = true := decide_eq_true (by omega)
          go_enter Tryd.func9, Tryd.ntmps9
          go_wp2_with fail
          with_reducible refine Calls.mono QT.out ?_
          rintro _ W1 ⟨rfl, ⟨⟨q, rfl⟩⟩⟩
          go_wp2_with fail
          exact bodyPost_ret (v := .tuple #[.slice none 0 0, .int .i64 1, .bool true]) (by simp [results, Tryd.results9, go_sem]) rfl (.inr ⟨l, by omega, HL.out, .inr (.inl ⟨hsh, rfl, pw_below_drewN (Below.refl _ _) q⟩)⟩)
        · have t3 : decide ((data.length : Int) - 8 < (l : Int) * 6) = false := decide_eq_false (by omega)
          have hdl : data.length = 8 + 6 * l := by omega
          exact specRead_last w a c data l HC.out hc HBy.out hn hdl HL.out QT.out s8 w1 w2 w3 t1 t2 t3
end Go.Proofs.YtckdpckdabfkbabDoor.Num
