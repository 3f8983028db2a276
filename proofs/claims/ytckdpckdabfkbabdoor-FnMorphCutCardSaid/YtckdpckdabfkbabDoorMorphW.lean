/- impl.MorphRead. -/
import Derived.Deep.DeepMust
import Derived.Outline
import Derived.Test.YtckdpckdabfkbabDoorMorphR
import Derived.Test.YtckdpckdabfkbabDoorMorphP
namespace Go.Proofs.YtckdpckdabfkbabDoor.Num
open Go.RowKit Go.Proofs.YtckdpckdabfkbabDoorW.PrintWords Go.Proofs.YtckdpckdabfkbabDoor.Plain Go.Proofs.YtckdpckdabfkbabDoor.PA
set_option linter.unusedVariables false
set_option linter.unusedSimpArgs false

theorem newReader (w : World) (A : Option Addr) (n c : Nat) :
    Calls Tryd.prog 29 #[.slice A n c] w fun e w' => e = .returned (.pointer (some ⟨w.heap.size, 0, none⟩)) ∧ w' = w.alloc (rdr A n c 0 (-1)) := by
  go_enter Tryd.func29, Tryd.ntmps29
  go_wp2
  go_ret
  exact ⟨rfl, rfl⟩
/-- The rows of three that bytes hold. -/
def mrd (data : List Int) (l : Nat) : List T3 := (List.range l).map fun j => (val 8 data (j * 3), val 8 data (j * 3 + 1), val 8 data (j * 3 + 2))
theorem mrd_succ (data : List Int) (i : Nat) : mrd data (i + 1) = mrd data i ++ [(val 8 data (i * 3), val 8 data (i * 3 + 1), val 8 data (i * 3 + 2))] := by simp [mrd, List.range_succ]
theorem val_bd (b : Nat) (data : List Int) (j : Nat) : -32768 ≤ val b data j ∧ val b data j ≤ 32767 := by unfold val; rw [i16_wrap]; omega
def MRd (w : World) (data : List Int) (e : Ending) (w' : World) : Prop :=
  (∃ (l : Nat) (A : Option Addr) (c : Nat), 8 ≤ data.length ∧ valb (data.take 8) = l ∧ 8 + 6 * l ≤ data.length ∧ e = .returned (.tuple #[.slice A l c, .int .i64 0]) ∧ l ≤ c ∧ (tri .i64).C w' A l (mrd data l) ∧ Below w.heap.size w w') ∨
  ((data.length < 8 ∨ ∃ l : Nat, valb (data.take 8) = l ∧ data.length < 8 + 6 * l) ∧ e = .returned (.tuple #[.slice none 0 0, .int .i64 1]) ∧ Below w.heap.size w w')
theorem below_kept {w W W' : World} {r : Nat} (hb : Below w.heap.size w W) (hr : w.heap.size ≤ r) (hk : Kp W W' (fun y => y = r)) : Below w.heap.size w W' :=
  ⟨hk.env.1.trans hb.os, hk.env.2.1.trans hb.tape, hk.env.2.2.trans hb.output, Nat.le_trans hb.size hk.size, fun k hlt => (hk.old k (Nat.lt_of_lt_of_le hlt hb.size) (by omega)).trans (hb.block k hlt)⟩

theorem sntAlloc {w : World} (h : Snt w) (o : Obj) : Snt (w.alloc o) := by
  have hE : 4 < w.heap.size := by obtain ⟨a, h⟩ := h.eof; exact blk_lt_cell h
  have hU : 5 < w.heap.size := by obtain ⟨t, x, h⟩ := h.bad; exact blk_lt_cell h
  exact h.move (Below.heap_alloc _ _ _ hE) (Below.heap_alloc _ _ _ hU)
theorem sntNe {w : World} (h : Snt w) : 4 ≠ w.heap.size ∧ 5 ≠ w.heap.size := by
  have hE : 4 < w.heap.size := by obtain ⟨a, h⟩ := h.eof; exact blk_lt_cell h
  have hU : 5 < w.heap.size := by obtain ⟨t, x, h⟩ := h.bad; exact blk_lt_cell h
  exact ⟨by omega, by omega⟩
theorem C_lt {k : IntKind} {w : World} {A : Option Addr} {n : Nat} {xs : List Int} (h : (Kd.int k).C w A n xs) {a : Addr} (ha : A = some a) (h0 : 0 < n) : a.block < w.heap.size := by
  subst ha
  have hlt : 0 < xs.length := by rw [h.1]; exact h0
  have := blk_lt_cell (C_cells h 0 _ (List.getElem?_eq_getElem hlt))
  rwa [add_block] at this

set_option maxHeartbeats 8000000 in
set_option maxRecDepth 100000 in
theorem morphRead_calls (w : World) (A : Option Addr) (c : Nat) (data : List Int) (hs : Snt w) (hC : (Kd.int .u8).C w A data.length data) (hc : data.length ≤ c) (hb : ∀ x ∈ data, 0 ≤ x ∧ x < 256) (hn : data.length ≤ 1000000000) :
    Calls Tryd.prog 10 #[.slice A data.length c] w (MRd w data) := by
  obtain ⟨kS, eS⟩ := sized_ev data hb (by omega)
  have HZ := Aside0.mk (impl_sized.calls kS A c data (sizedB data) w hC hc (eS _ (Nat.le_refl _)))
  clear eS
  have HC := Aside0.mk hC
  have HS := Aside0.mk hs
  have HBy := Aside0.mk hb
  clear hC hs hb
  by_cases h8 : data.length < 8
  · have hz : sizedB data = true := by unfold sizedB; rw [decide_eq_true h8, Bool.true_or]
    rw [hz] at HZ
    clear hz
    go_enter Tryd.func10, Tryd.ntmps10
    go_wp2_with fail
    with_reducible refine Calls.mono HZ.out ?_
    rintro _ W1 ⟨rfl, ⟨⟨q, rfl⟩⟩⟩
    have T1 := Aside0.mk fun (q : Nat) => readMorphs_tiny ((w.drewN q).alloc (rdr A data.length c 0 (-1))) w.heap.size A data.length c (-1) data (sntAlloc (w := w.drewN q) (HS.out.move rfl rfl) _) (blk_new (w.drewN q) _) (Kd.C_alloc (Kd.C_drewN HC.out q) _) h8 hc
      (fun a ha h0 => by
        have h_ := C_lt HC.out ha h0
        exact ⟨by omega, by rw [Own.size_alloc]; exact Nat.lt_succ_of_lt h_⟩) (sntNe HS.out)
    go_wp2_with (go_at_call 29; refine (newReader _ _ _ _).mono ?_; rintro _ _ ⟨rfl, rfl⟩)
    with_reducible refine Calls.mono (T1.out q) ?_
    rintro _ W2 ⟨⟨v, t, x, rfl⟩, hk⟩
    have HK := Aside0.mk hk
    clear hk T1
    go_wp2_with fail
    go_ret2
    exact .inr ⟨.inl h8, rfl, below_kept (below_alloc (pw_below_drewN (Below.refl _ _) q) _) (Nat.le_refl _) HK.out⟩
  · have hv := valb_lt (data.take 8) (fun x hx => HBy.out x (List.mem_of_mem_take hx))
    obtain ⟨l, hl⟩ : ∃ l : Nat, valb (data.take 8) = l := ⟨_, (Int.toNat_of_nonneg hv.1).symm⟩
    have HL := Aside0.mk hl
    by_cases hln : l ≤ data.length
    · have hz : sizedB data = true := by unfold sizedB; rw [hl, decide_eq_true (show (l : Int) ≤ data.length by omega), Bool.or_true]
      rw [hz] at HZ
      clear hz hv hl
      obtain ⟨a, rfl⟩ : ∃ a, A = some a := by
        obtain ⟨a, e, _⟩ := HC.out.2.2 (by omega)
        exact ⟨a, e⟩
      have hla := C_lt HC.out rfl (by omega)
      have T1 := Aside0.mk fun (q : Nat) => readMorphs_calls ((w.drewN q).alloc (rdr (some a) data.length c 0 (-1))) w.heap.size a data.length c l (-1) data
        ⟨Kd.C_alloc (Kd.C_drewN HC.out q) _, HBy.out, hc, by omega, by omega, by rw [Own.size_alloc]; exact Nat.lt_succ_of_lt hla, by rw [Own.size_alloc]; exact Nat.lt_succ_self _, sntAlloc (w := w.drewN q) (HS.out.move rfl rfl) _, (sntNe HS.out).1, (sntNe HS.out).2⟩
        (blk_new (w.drewN q) _) (by omega) (by rw [List.drop_zero, HL.out, wrap_ok (by omega) (by omega)]) hln
      go_enter Tryd.func10, Tryd.ntmps10
      go_wp2_with fail
      with_reducible refine Calls.mono HZ.out ?_
      rintro _ W1 ⟨rfl, ⟨⟨q, rfl⟩⟩⟩
      go_wp2_with (go_at_call 29; refine (newReader _ _ _ _).mono ?_; rintro _ _ ⟨rfl, rfl⟩)
      with_reducible refine Calls.mono (T1.out q) ?_
      rintro _ W2 (⟨G, rfl, hfit, hrs⟩ | ⟨v, t, x, rfl, hshort, hk⟩)
      · have HRS := Aside0.mk hrs
        have HB2 : Aside0 (Below w.heap.size w W2) := ⟨below_kept (below_alloc (pw_below_drewN (Below.refl _ _) q) _) (Nat.le_refl _) hrs.kept⟩
        have H5 := Aside0.mk (Below.refl W2.heap.size W2)
        have HN : Aside0 (l ≤ 1000000000) := ⟨by omega⟩
        clear hrs T1 HZ
        go_wp2_with fail
        go_loopg [6, 23] l (fun kq v6 v23 w' => ∃ (i : Nat) (A2 : Option Addr) (c2 : Nat), v23 = .int .i64 i ∧ v6 = .slice A2 i c2 ∧ Aside0 (i + kq = l) ∧ Aside0 ((tri .i64).R 30 w' W2.heap.size (fun _ => True) (.slice A2 i c2) (mrd data i)) ∧ Aside0 (Below W2.heap.size W2 w'))
        case atStart => exact ⟨0, none, 0, rfl, rfl, ⟨by omega⟩, ⟨Kd.R_nil _ _ _ _ _⟩, H5⟩
        case round =>
          obtain ⟨i, A2, c2, rfl, rfl, HK, HR, HB⟩ := hrel
          by_cases c1 : (i : Int) < (l : Int)
          · have hrow := blk_below HRS.out.row HB.out
            have y0 : wr.cell? ⟨G, i * 3, none⟩ = some (.int .i16 (val 8 data (i * 3))) := cells_at hrow (i * 3) _ (by rw [rcells_get _ _ _ _ _ (by omega), if_pos (by omega)])
            have y1 : wr.cell? ⟨G, i * 3 + 1, none⟩ = some (.int .i16 (val 8 data (i * 3 + 1))) := cells_at hrow (i * 3 + 1) _ (by rw [rcells_get _ _ _ _ _ (by omega), if_pos (by omega)])
            have y2 : wr.cell? ⟨G, i * 3 + 2, none⟩ = some (.int .i16 (val 8 data (i * 3 + 2))) := cells_at hrow (i * 3 + 2) _ (by rw [rcells_get _ _ _ _ _ (by omega), if_pos (by omega)])
            clear hrow
            have p1 : (0 : Int) ≤ i := by omega
            have c1b := decide_eq_true c1
            obtain ⟨v0, hv0⟩ : ∃ v, v = val 8 data (i * 3) := ⟨_, rfl⟩
            obtain ⟨v1, hv1⟩ : ∃ v, v = val 8 data (i * 3 + 1) := ⟨_, rfl⟩
            obtain ⟨v2, hv2⟩ : ∃ v, v = val 8 data (i * 3 + 2) := ⟨_, rfl⟩
            rw [← hv0] at y0
            rw [← hv1] at y1
            rw [← hv2] at y2
            have l0 : -32768 ≤ v0 := by rw [hv0]; exact (val_bd _ _ _).1
            have m0 : v0 ≤ 32767 := by rw [hv0]; exact (val_bd _ _ _).2
            have l1 : -32768 ≤ v1 := by rw [hv1]; exact (val_bd _ _ _).1
            have m1 : v1 ≤ 32767 := by rw [hv1]; exact (val_bd _ _ _).2
            have l2 : -32768 ≤ v2 := by rw [hv2]; exact (val_bd _ _ _).1
            have m2 : v2 ≤ 32767 := by rw [hv2]; exact (val_bd _ _ _).2
            have HV : Aside0 (mrd data (i + 1) = mrd data i ++ [(v0, v1, v2)]) := ⟨by rw [mrd_succ, hv0, hv1, hv2]⟩
            clear hv0 hv1 hv2
            go_wp2_with (first | ((with_reducible refine gate_builtin (b := .append) (xs := #[.tmp 27, .tmp 38]) rfl ?_); at_builtin; go_must (refine Kd.R_append (tri .i64) (w0 := W2) W2.heap.size rfl (.tmp 27) (.tmp 38) 24 30 (.agg #[.int .i64 0, .int .i64 0, .int .i64 0]) 24 rfl Tryd.underlying24 (by kernel_rfl) rfl (by decide) (by omega) (.slice A2 i c2) (mrd data i) (v0, v1, v2) (vals .i64 (v0, v1, v2)) (fun _ => True) (fun _ => False) rfl ?aX M_tri (fun _ h_ => h_.elim) (fun _ _ => trivial) ?aO ?aB ?aS ?aL ?aK; (case aX => first | rfl | (go_simp; done) | (go_simp; rfl)); (case aO => exact Kd.R_alloc HR.out _); (case aB => exact below_alloc HB.out _); (case aS => rw [Own.size_alloc]; have := HB.out.size; omega); (case aL => have := HN.out; simp [mrd]; omega); intro v1_ w1 hR1 hB1 hG1 hA1; obtain ⟨A9, c9, e9⟩ := Kd.R_slice hR1; subst e9; have HR1 := Aside0.mk hR1; have HB1' := Aside0.mk hB1; clear hR1 hB1 hG1 hA1)))
            have hlen : (mrd data i ++ [(v0, v1, v2)]).length = i + 1 := by simp [mrd]
            have hR1 := HR1.out
            have HK' := HK.out
            have HN' := HN.out
            rw [hlen] at hR1
            have hmin : (mrd data i).length = i := by simp [mrd]
            cases gk with
            | zero => omega
            | succ k9 =>
              go_roundg k9
              case measure => omega
              case rel => exact ⟨i + 1, A9, c9, int_eq (by first | omega | (rw [wrap_ok (by omega) (by omega)]; omega)), by first | rfl | rw [hmin], ⟨by omega⟩, ⟨by rw [HV.out]; exact hR1⟩, HB1'⟩
          · have c1b := decide_eq_false c1
            obtain rfl : i = l := by have := HK.out; omega
            go_wp2_with fail
            go_ret2
            have hR := Kd.R_reads' HR.out
            have hmin : (mrd data i).length = i := by simp [mrd]
            rw [hmin] at hR
            exact .inl ⟨i, A2, c2, by omega, HL.out, hfit, rfl, hR.2.1, hR.2.2, HB2.out.trans (HB.out.mono HB2.out.size)⟩
      · have HK := Aside0.mk hk
        clear hk T1
        go_wp2_with fail
        go_ret2
        exact .inr ⟨.inr ⟨l, HL.out, hshort⟩, rfl, below_kept (below_alloc (pw_below_drewN (Below.refl _ _) q) _) (Nat.le_refl _) HK.out⟩
    · have hz : sizedB data = false := by
        unfold sizedB
        rw [hl, decide_eq_false (show ¬ (l : Int) ≤ data.length by omega), decide_eq_false h8]; rfl
      rw [hz] at HZ
      clear hz hv hl
      go_enter Tryd.func10, Tryd.ntmps10
      go_wp2_with fail
      with_reducible refine Calls.mono HZ.out ?_
      rintro _ W1 ⟨rfl, ⟨⟨q, rfl⟩⟩⟩
      go_wp2_with fail
      go_ret2
      exact .inr ⟨.inr ⟨l, HL.out, by omega⟩, rfl, pw_below_drewN (Below.refl _ _) q⟩
end Go.Proofs.YtckdpckdabfkbabDoor.Num
