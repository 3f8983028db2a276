/- ReadMorphs. -/
import Derived.Test.YtckdpckdabfkbabDoorMorph
import Derived.Test.YtckdpckdabfkbabDoorRow16
import Derived.Laws.MakeOwn
namespace Go.Proofs.YtckdpckdabfkbabDoor.Num
open Go.RowKit Go.Proofs.YtckdpckdabfkbabDoorW.PrintWords Go.Proofs.YtckdpckdabfkbabDoor.Plain
set_option linter.unusedVariables false
set_option linter.unusedSimpArgs false

/-- What ReadMorphs answers: all l rows, or an error. -/
def MR (w : World) (r : Nat) (a : Addr) (n c l : Nat) (data : List Int) (e : Ending) (w' : World) : Prop :=
  (∃ G, e = .returned (.tuple #[.slice (some ⟨G, 0, none⟩) l l, .nilIface]) ∧ 8 + 6 * l ≤ n ∧ RS w w' r a n c 8 data G (l * 3) 67 (l * 3)) ∨
  (∃ v t x, e = .returned (.tuple #[v, .iface t x]) ∧ n < 8 + 6 * l ∧ Kp w w' (fun y => y = r))
theorem morph_info : (Tryd.prog.info? 67).map (fun i => (i.zero, i.size, i.bytes)) = some (some (.agg #[.int .i16 0, .int .i16 0, .int .i16 0]), 3, 6) := by kernel_rfl
theorem make_morphs (W : World) (l : Nat) (data : List Int) (hl : l ≤ 1000000000000) :
    (Instr.makeSlice 57 (.int .i64 l) (.int .i64 l)).run Tryd.prog W = .ok (.slice (some ⟨W.heap.size, 0, none⟩) l l) (W.alloc (.cells (rcells 8 data (l * 3) 0) 67)) := by
  obtain ⟨i, hi, hz⟩ := Option.map_eq_some_iff.1 morph_info
  simp only [Prod.mk.injEq] at hz
  obtain ⟨h1, h2, h3⟩ := hz
  have := run_make (P := Tryd.prog) W 57 67 i _ Tryd.underlying57 hi h1 .i64 .i64 (l : Int) (l : Int) (by omega) (by omega) (by rw [h3]; omega) (by omega)
  rw [this, h2]
  have e : (Value.agg #[.int .i16 0, .int .i16 0, .int .i16 0]).cells = #[.int .i16 0, .int .i16 0, .int .i16 0] := rfl
  simp only [Int.toNat_natCast, e, made_three, rcells_zero]

set_option maxHeartbeats 8000000 in
set_option maxRecDepth 100000 in
theorem readMorphs_calls (w : World) (r : Nat) (a : Addr) (n c l : Nat) (pr : Int) (data : List Int) (x : Ctx w r a n c data) (hr : w.heap[r]? = some (rdr (some a) n c 0 pr))
    (h8 : 8 ≤ n) (hl : wrap64 (valb ((data.drop 0).take 8)) = l) (hln : l ≤ n) :
    Calls Tryd.prog 28 #[.iface 63 (.pointer (some ⟨r, 0, none⟩))] w (MR w r a n c l data) := by
  have X := Aside0.mk x
  have HN : Aside0 (n ≤ 1000000000000) := ⟨x.few⟩
  have R1 := Aside0.mk (read64_ok (w.alloc (.cells #[.int .i64 0] 2)) r a n c 0 pr data w.heap.size 0 0 (blk_alloc hr _) (Kd.C_alloc x.row _) x.bytes h8 x.cap x.few x.ne (by rw [Own.size_alloc]; have := x.lt; omega)
    (cells_at (blk_new w _) 0 _ rfl) (froz_at (blk_new w _) 0) (by have := x.rlt; omega))
  have HL := Aside0.mk hl
  have MK := Aside0.mk fun (W : World) => make_morphs W l data (by have := HN.out; omega)
  clear x hr hl
  go_enter Tryd.func28, Tryd.ntmps28
  go_wp2_with fail
  with_reducible refine Calls.mono R1.out ?_
  rintro _ W2 ⟨rfl, hk, h1, h2⟩
  have hL : W2.heap[w.heap.size]? = some (.cells #[.int .i64 l] 2 (0, 0)) := by
    rw [h2]
    exact blk_put (blk_new w _) 0 _ (by rw [HL.out]; rfl)
  have hk2 : Kp w W2 (fun y => y = r) := ⟨Nat.le_trans (by rw [Own.size_alloc]; omega) hk.1, fun i hi hS => by
    rw [hk.2 i (by rw [Own.size_alloc]; omega) (by rintro (h | h); exact hS h; omega), Below.heap_alloc _ _ _ hi], Env.trans (show Env w _ from ⟨rfl, rfl, rfl⟩) hk.env⟩
  have y0 : W2.cell? ⟨w.heap.size, 0, none⟩ = some (.int .i64 l) := cells_at hL 0 _ rfl
  have hmk := MK.out
  have HS0 : Aside0 (RS w (W2.alloc (.cells (rcells 8 data (l * 3) 0) 67)) r a n c 8 data W2.heap.size (l * 3) 67 0) :=
    ⟨⟨blk_alloc h1 _, blk_new W2 _, ⟨by rw [Own.size_alloc]; have := hk2.1; omega, fun i hi hS => by rw [Below.heap_alloc _ _ _ (Nat.lt_of_lt_of_le hi hk2.1)]; exact hk2.2 i hi hS, hk2.env.trans ⟨rfl, rfl, rfl⟩⟩, hk2.1⟩⟩
  obtain ⟨G, hG⟩ : ∃ G, G = W2.heap.size := ⟨_, rfl⟩
  clear hk hk2 h1 h2 hL
  go_wp2_with fail
  rw [← hG] at HS0 ⊢
  obtain ⟨W3, hW3⟩ : ∃ W3, W3 = W2.alloc (.cells (rcells 8 data (l * 3) 0) 67) := ⟨_, rfl⟩
  rw [← hW3] at HS0 ⊢
  clear hW3 hG hmk MK y0 R1
  go_loopg [20] l (fun kq v20 w' => ∃ (i : Nat), v20 = .int .i64 i ∧ Aside0 (i + kq = l) ∧ Aside0 (RS w w' r a n c 8 data G (l * 3) 67 (i * 3)) ∧ Aside0 (8 + 6 * i ≤ n))
  case atStart => exact ⟨0, rfl, ⟨by omega⟩, HS0, ⟨by omega⟩⟩
  case round =>
    obtain ⟨i, rfl, HK, HS, HF⟩ := hrel
    by_cases c1 : (i : Int) < (l : Int)
    · have p1 : (0 : Int) ≤ i := by omega
      have c1b := decide_eq_true c1
      by_cases f1 : 8 + 2 * (i * 3) + 2 ≤ n
      · have f1' := f1
        have S1 := Aside0.mk (HS.out.step_ok X.out (by omega) (by omega))
        go_wp2_with fail
        with_reducible refine Calls.mono S1.out ?_
        rintro _ W4 ⟨rfl, hS⟩
        have HS2 := Aside0.mk hS
        clear hS
        by_cases f2 : 8 + 2 * (i * 3 + 1) + 2 ≤ n
        · have f2' := f2
          have S2 := Aside0.mk (HS2.out.step_ok X.out (by omega) (by omega))
          go_wp2_with fail
          with_reducible refine Calls.mono S2.out ?_
          rintro _ W5 ⟨rfl, hS⟩
          have HS3 := Aside0.mk hS
          clear hS
          by_cases f3 : 8 + 2 * (i * 3 + 1 + 1) + 2 ≤ n
          · have f3' := f3
            have S3 := Aside0.mk (HS3.out.step_ok X.out (by omega) (by omega))
            go_wp2_with fail
            with_reducible refine Calls.mono S3.out ?_
            rintro _ W6 ⟨rfl, hS⟩
            have HS4 := Aside0.mk hS
            clear hS
            go_wp2_with fail
            have HK' := HK.out
            have HN' := HN.out
            cases gk with
            | zero => omega
            | succ k9 =>
              go_roundg k9
              case measure => omega
              case rel => exact ⟨i + 1, int_eq (by rw [wrap_ok (by omega) (by omega)]; omega), ⟨by omega⟩, ⟨by rw [show (i + 1) * 3 = i * 3 + 1 + 1 + 1 by omega]; exact HS4.out⟩, ⟨by omega⟩⟩
          · have f3' := f3
            have S3 := Aside0.mk (HS3.out.step_short X.out (by omega) (by omega) (by have := HF.out; omega))
            go_wp2_with fail
            with_reducible refine Calls.mono S3.out ?_
            rintro _ W6 ⟨t, y, rfl, hK⟩
            have HKK := Aside0.mk hK
            clear hK
            go_wp2_with fail
            go_ret2
            exact .inr ⟨_, t, y, rfl, by omega, HKK.out⟩
        · have f2' := f2
          have S2 := Aside0.mk (HS2.out.step_short X.out (by omega) (by omega) (by have := HF.out; omega))
          go_wp2_with fail
          with_reducible refine Calls.mono S2.out ?_
          rintro _ W5 ⟨t, y, rfl, hK⟩
          have HKK := Aside0.mk hK
          clear hK
          go_wp2_with fail
          go_ret2
          exact .inr ⟨_, t, y, rfl, by omega, HKK.out⟩
      · have f1' := f1
        have S1 := Aside0.mk (HS.out.step_short X.out (by omega) (by omega) (by have := HF.out; omega))
        go_wp2_with fail
        with_reducible refine Calls.mono S1.out ?_
        rintro _ W4 ⟨t, y, rfl, hK⟩
        have HKK := Aside0.mk hK
        clear hK
        go_wp2_with fail
        go_ret2
        exact .inr ⟨_, t, y, rfl, by omega, HKK.out⟩
    · have c1b := decide_eq_false c1
      obtain rfl : i = l := by have := HK.out; omega
      go_wp2_with fail
      go_ret2
      exact .inl ⟨G, rfl, HF.out, HS.out⟩

set_option maxHeartbeats 4000000 in
theorem readMorphs_tiny (w : World) (r : Nat) (A : Option Addr) (n c : Nat) (pr : Int) (data : List Int) (hs : Snt w)
    (hr : w.heap[r]? = some (rdr A n c 0 pr)) (hC : (Kd.int .u8).C w A n data) (h8 : n < 8) (hnc : n ≤ c) (hra : ∀ a, A = some a → 0 < n → r ≠ a.block ∧ a.block < w.heap.size)
    (hg : 4 ≠ r ∧ 5 ≠ r) :
    Calls Tryd.prog 28 #[.iface 63 (.pointer (some ⟨r, 0, none⟩))] w fun e w' => (∃ v t x, e = .returned (.tuple #[v, .iface t x])) ∧ Kp w w' (fun y => y = r) := by
  have hE : 4 < w.heap.size := by obtain ⟨a, h⟩ := hs.eof; exact blk_lt_cell h
  have hU : 5 < w.heap.size := by obtain ⟨t, x, h⟩ := hs.bad; exact blk_lt_cell h
  have R1 := Aside0.mk (read64_short (w.alloc (.cells #[.int .i64 0] 2)) r A n c 0 pr data w.heap.size 0 0 (hs.move (Below.heap_alloc _ _ _ hE) (Below.heap_alloc _ _ _ hU)) (blk_alloc hr _) (Kd.C_alloc hC _) (by omega) (by omega) hnc (by omega)
    (fun a ha h0 => ⟨(hra a ha h0).1, by rw [Own.size_alloc]; have := (hra a ha h0).2; omega⟩) (cells_at (blk_new w _) 0 _ rfl) hg)
  clear hs hr hC hra hg
  go_enter Tryd.func28, Tryd.ntmps28
  go_wp2_with fail
  with_reducible refine Calls.mono R1.out ?_
  rintro _ W2 ⟨t, x, rfl, hk⟩
  have HK := Aside0.mk hk
  clear hk
  go_wp2_with fail
  go_ret2
  exact ⟨⟨_, t, x, rfl⟩, Nat.le_trans (by rw [Own.size_alloc]; omega) HK.out.1, fun i hi hS => by rw [HK.out.2 i (by rw [Own.size_alloc]; omega) hS, Below.heap_alloc _ _ _ hi], Env.trans (show Env w _ from ⟨rfl, rfl, rfl⟩) HK.out.env⟩
end Go.Proofs.YtckdpckdabfkbabDoor.Num
