/- Two arrays of three numbers that are the same. -/
import Derived.Deep.DeepMust
import Derived.Outline
import Derived.Test.YtckdpckdabfkbabDoorMorph
import Derived.Test.YtckdpckdabfkbabDoorWLast
import Derived.Laws.StructEq
namespace Go.Proofs.YtckdpckdabfkbabDoor.Num
open Go.RowKit Go.Proofs.YtckdpckdabfkbabDoorW.PrintLast Go.Proofs.YtckdpckdabfkbabDoorW.PrintWords Go.Proofs.YtckdpckdabfkbabDoor.Plain
set_option linter.unusedSimpArgs false
theorem arr3_size : (Tryd.prog.info? 3).map (·.size) = some 1 := by kernel_rfl
set_option linter.unusedVariables false
theorem arr3_eq (d : Nat) (a b c : Int) (w : World) : (Op.equalIn (d + 2) 30 (.agg #[.int .i64 a, .int .i64 b, .int .i64 c]) (.agg #[.int .i64 a, .int .i64 b, .int .i64 c])).run Tryd.prog w = .ok true w := by
  obtain ⟨i, hi, hs⟩ := Option.map_eq_some_iff.1 arr3_size
  unfold Op.equalIn
  simp [run_underlying Tryd.underlying30, Std.Legacy.Range.forIn_eq_forIn_range', Std.Legacy.Range.size, List.range'_succ, sizeOf, part, hi, hs, typeInfo, run_underlying Tryd.underlying3, Op.equalIn]
theorem arr3_neq (a b c : Int) (w : World) : (binOp .neq 30 (.agg #[.int .i64 a, .int .i64 b, .int .i64 c]) (.agg #[.int .i64 a, .int .i64 b, .int .i64 c])).run Tryd.prog w = .ok (.bool false) w := by
  rw [run_neq_struct, arr3_eq 9998]
  rfl

set_option maxHeartbeats 4000000 in
set_option maxRecDepth 100000 in
theorem same3_calls (w : World) (A B : Option Addr) (c d : Nat) (xs : List T3) (hA : (tri .i64).C w A xs.length xs) (hc : xs.length ≤ c) (hB : (tri .i64).C w B xs.length xs) (hd : xs.length ≤ d) :
    Calls Tryd.prog 11 #[.slice A xs.length c, .slice B xs.length d] w fun e w' => e = .returned (.bool true) ∧ Drawn0 w w' := by
  have HA := Aside0.mk hA
  have HB := Aside0.mk hB
  have HM : Aside0 (xs.length ≤ 9223372036854775807) := ⟨hA.2.1⟩
  have hq : ((xs.length : Int) != (xs.length : Int)) = false := by simp
  have hne := arr3_neq
  clear hA hB
  go_enter Tryd.func11, Tryd.ntmps11
  go_wp2
  go_loopg [13] xs.length (fun kq v13 w' => ∃ (i q : Nat), v13 = .int .i64 i ∧ Aside0 (i + kq = xs.length) ∧ Aside0 (w' = w.drewN q))
  case atStart => exact ⟨0, 0, rfl, ⟨by omega⟩, ⟨rfl⟩⟩
  case round =>
    obtain ⟨i, q, rfl, HK, ⟨hw⟩⟩ := hrel
    subst hw
    by_cases c1 : (i : Int) < (xs.length : Int)
    · obtain ⟨ad, m, rfl, hm, y0, y1, y2⟩ := tri_at (Kd.C_drewN HA.out q) i (by omega)
      obtain ⟨bd, m', rfl, hm', z0, z1, z2⟩ := tri_at (Kd.C_drewN HB.out q) i (by omega)
      obtain rfl : m = m' := by rw [hm] at hm'; exact Option.some.inj hm'
      have p1 : (0 : Int) ≤ i := by omega
      have c1b := decide_eq_true c1
      clear hm hm'
      go_wp2_with fail
      refine start_ (n := 9) (S := fun w' => w'.cell? (ad.add (i * 3)) = some (.int .i64 m.1) ∧ w'.cell? ⟨(ad.add (i * 3)).block, (ad.add (i * 3)).off + 1, none⟩ = some (.int .i64 m.2.1) ∧ w'.cell? ⟨(ad.add (i * 3)).block, (ad.add (i * 3)).off + 2, none⟩ = some (.int .i64 m.2.2) ∧ w'.cell? (bd.add (i * 3)) = some (.int .i64 m.1) ∧ w'.cell? ⟨(bd.add (i * 3)).block, (bd.add (i * 3)).off + 1, none⟩ = some (.int .i64 m.2.1) ∧ w'.cell? ⟨(bd.add (i * 3)).block, (bd.add (i * 3)).off + 2, none⟩ = some (.int .i64 m.2.2)) (ds := []) #[false, false, false, false, false, false, false, false, false] (by kernel_rfl) rfl rfl ⟨(by simpa using y0), (by simpa using y1), (by simpa using y2), (by simpa using z0), (by simpa using z1), (by simpa using z2)⟩ (fun hHeld => ?_)
      refine pure_ (i := 0) (N := some 16) (v := ?_) (a' := ?_) #[true, false, false, false, false, false, false, false, false] rfl rfl (by kernel_rfl) (fun _ _ _ h => h) (Or.inl ⟨by rfl, ?_⟩) ?_ ?_
      rotate_left
      · intro w'
        go_simp
        with_reducible rfl
      rotate_left
      · simp only [Act.put, List.setIfInBounds_toArray, List.set_cons_zero, List.set_cons_succ, i64_w, i32_w]
        rfl
      refine pure_ (i := 1) (N := some 17) (v := ?_) (a' := ?_) #[true, true, false, false, false, false, false, false, false] rfl rfl (by kernel_rfl) (fun _ _ _ h => h) (Or.inl ⟨by rfl, ?_⟩) ?_ ?_
      rotate_left
      · intro w'
        go_simp
        with_reducible rfl
      rotate_left
      · simp only [Act.put, List.setIfInBounds_toArray, List.set_cons_zero, List.set_cons_succ, i64_w, i32_w]
        rfl
      refine pure_ (i := 2) (N := some 18) (v := ?_) (a' := ?_) #[true, true, true, false, false, false, false, false, false] rfl rfl (by kernel_rfl) (fun _ _ _ h => h) (Or.inl ⟨by rfl, ?_⟩) ?_ ?_
      rotate_left
      · intro w'
        go_simp
        with_reducible rfl
      rotate_left
      · simp only [Act.put, List.setIfInBounds_toArray, List.set_cons_zero, List.set_cons_succ, i64_w, i32_w]
        rfl
      refine pure_ (i := 4) (N := some 20) (v := ?_) (a' := ?_) #[true, true, true, false, true, false, false, false, false] rfl rfl (by kernel_rfl) (fun _ _ _ h => h) (Or.inl ⟨by rfl, ?_⟩) ?_ ?_
      rotate_left
      · intro w'
        go_simp
        with_reducible rfl
      rotate_left
      · simp only [Act.put, List.setIfInBounds_toArray, List.set_cons_zero, List.set_cons_succ, i64_w, i32_w]
        rfl
      refine pure_ (i := 5) (N := some 21) (v := ?_) (a' := ?_) #[true, true, true, false, true, true, false, false, false] rfl rfl (by kernel_rfl) (fun _ _ _ h => h) (Or.inl ⟨by rfl, ?_⟩) ?_ ?_
      rotate_left
      · intro w'
        go_simp
        with_reducible rfl
      rotate_left
      · simp only [Act.put, List.setIfInBounds_toArray, List.set_cons_zero, List.set_cons_succ, i64_w, i32_w]
        rfl
      refine pure_ (i := 6) (N := some 22) (v := ?_) (a' := ?_) #[true, true, true, false, true, true, true, false, false] rfl rfl (by kernel_rfl) (fun _ _ _ h => h) (Or.inl ⟨by rfl, ?_⟩) ?_ ?_
      rotate_left
      · intro w'
        go_simp
        with_reducible rfl
      rotate_left
      · simp only [Act.put, List.setIfInBounds_toArray, List.set_cons_zero, List.set_cons_succ, i64_w, i32_w]
        rfl
      refine take_ (i := 3) (N := some 19) (v := ?_) (a' := ?_) #[true, true, true, true, true, true, true, false, false] rfl rfl (by kernel_rfl) (fun _ _ _ h => h) (Or.inl ⟨by rfl, ?_⟩) hHeld ?_ ?_
      rotate_left
      · rintro w' ⟨s0, s1, s2, s3, s4, s5⟩
        go_simp
        with_reducible rfl
      rotate_left
      · simp only [Act.put, List.setIfInBounds_toArray, List.set_cons_zero, List.set_cons_succ, i64_w, i32_w]
        rfl
      refine take_ (i := 7) (N := some 23) (v := ?_) (a' := ?_) #[true, true, true, true, true, true, true, true, false] rfl rfl (by kernel_rfl) (fun _ _ _ h => h) (Or.inl ⟨by rfl, ?_⟩) hHeld ?_ ?_
      rotate_left
      · rintro w' ⟨s0, s1, s2, s3, s4, s5⟩
        go_simp
        with_reducible rfl
      rotate_left
      · simp only [Act.put, List.setIfInBounds_toArray, List.set_cons_zero, List.set_cons_succ, i64_w, i32_w]
        rfl
      refine pure_ (i := 8) (N := some 24) (v := ?_) (a' := ?_) #[true, true, true, true, true, true, true, true, true] rfl rfl (by kernel_rfl) (fun _ _ _ h => h) (Or.inl ⟨by rfl, ?_⟩) ?_ ?_
      rotate_left
      · intro w'
        go_simp
        with_reducible rfl
      rotate_left
      · simp only [Act.put, List.setIfInBounds_toArray, List.set_cons_zero, List.set_cons_succ, i64_w, i32_w]
        rfl
      refine done_ (by kernel_rfl) ?_
      go_wp2_with fail
      have HK' := HK.out
      have HM' := HM.out
      cases gk with
      | zero => omega
      | succ k9 =>
        go_roundg k9
        case measure => omega
        case rel => exact ⟨i + 1, q + 1, int_eq (by first | omega | (rw [wrap_ok (by omega) (by omega)]; omega)), ⟨by omega⟩, ⟨by first | rfl | simp [World.drewN, Nat.add_assoc]⟩⟩
    · have c1b := decide_eq_false c1
      go_wp2_with fail
      go_ret
      exact ⟨rfl, ⟨⟨q, rfl⟩⟩⟩
end Go.Proofs.YtckdpckdabfkbabDoor.Num
