/- laws.FnIndexMany: the walk. -/
import Derived.Test.YtaejkbjepbifcabGreatDoorU3
import Derived.Test.YtaejkbjepbifcabGreatDoorU4
import Derived.Test.YtaejkbjepbifcabGreatDoorU5
namespace Go.Proofs.YtaejkbjepbifcabGreatDoor.Da
open Go.RowKit Go.Proofs.YtaejkbjepbifcabGreatDoorW.PrintWords Go.Proofs.YtaejkbjepbifcabGreatDoor.Plain
set_option linter.unusedVariables false
set_option linter.unusedSimpArgs false
set_option maxHeartbeats 16000000 in
set_option maxRecDepth 100000 in
theorem walk_ixmany (a0 : Int) (a1 : Int) (a2 : Int) (w : World) (hL : laidMet Tryz.prog Rows.fnIndexManyRow.laid w) (hg0 : (Lit.int .u16 a0).wf = true) (hg1 : (Lit.int .u8 a1).wf = true) (hg2 : (Lit.int .u8 a2).wf = true) :
    Calls Tryz.prog 5 #[.int .u16 a0, .int .u8 a1, .int .u8 a2] w fun e w' => e = .returned (.bool true) ∧ Below w.heap.size w w' := by
  have HSN := Aside0.mk (Num.snt_of_laid hL)
  have r0 : 0 ≤ a0 ∧ a0 ≤ 65535 := by simp only [Lit.wf, Bool.and_eq_true, decide_eq_true_eq] at hg0; exact ⟨hg0.1, hg0.2⟩
  have r1 : 0 ≤ a1 ∧ a1 ≤ 255 := by simp only [Lit.wf, Bool.and_eq_true, decide_eq_true_eq] at hg1; exact ⟨hg1.1, hg1.2⟩
  have r2 : 0 ≤ a2 ∧ a2 ≤ 255 := by simp only [Lit.wf, Bool.and_eq_true, decide_eq_true_eq] at hg2; exact ⟨hg2.1, hg2.2⟩
  obtain ⟨m0, rfl⟩ := Int.eq_ofNat_of_zero_le r0.1
  obtain ⟨m1, rfl⟩ := Int.eq_ofNat_of_zero_le r1.1
  obtain ⟨m2, rfl⟩ := Int.eq_ofNat_of_zero_le r2.1
  clear hL hg0 hg1 hg2
  go_enter Tryz.func5, Tryz.ntmps5
  have HM : Aside0 (Calls Tryz.prog 15 #[.int .i64 ((m0 : Int) % 250 + 1), .int .i64 ((m1 : Int) % 24 + 2), .int .i64 ((m2 : Int) + 1)] w fun e w' => ∃ A c L, e = .returned (.slice A L.length c) ∧ Kd.C Kd.string w' A L.length L ∧ L.length ≤ c ∧ Below w.heap.size w w' ∧ MnE L (m0 % 250 + 1)) :=
    ⟨many_calls w (m0 % 250 + 1) (m1 % 24 + 2) (m2 + 1) (by omega) (by omega) (by omega) (by omega) (by omega) (by omega)⟩
  go_wp2_with fail
  with_reducible refine Calls.mono HM.out ?_
  rintro e_ w2 ⟨A0, c0, L, rfl, hL, hc0, hB, hE⟩
  have HL := Aside0.mk hL
  have HC := Aside0.mk hc0
  have HB := Aside0.mk hB
  have HE := Aside0.mk hE
  have HN : Aside0 (0 < L.length ∧ L.length ≤ 250) := ⟨List.length_pos_iff.2 hE.ne, by have := hE.len; omega⟩
  clear hL hc0 hB hE HM r0 r1 r2
  go_wp2_with fail
  go_loopg [7, 8, 9, 26] L.length (fun kq v7 v8 v9 v26 w' => ∃ (i : Nat) (ws : List ByteArray), v26 = .int .i64 (i : Int) ∧ Aside0 (i + kq = L.length) ∧ Aside0 (Kd.R Kd.string 9 w' w2.heap.size (fun _ => True) v7 ws) ∧ Aside0 (Below w2.heap.size w2 w') ∧ Aside0 (MwI L ws i (3 * i)))
  case atStart => exact ⟨0, [], rfl, ⟨by omega⟩, ⟨Kd.R_nil _ _ _ _ _⟩, ⟨Below.refl _ _⟩, ⟨MwI.start L⟩⟩
  case round =>
    obtain ⟨i, ws, rfl, HI, HR, HW, HM⟩ := hrel
    cases gk with
    | zero =>
      have hlt : ¬ (i : Int) < (L.length : Int) := by have := HI.out; omega
      have hil : i = L.length := by have := HI.out; omega
      have HIL := Aside0.mk hil
      clear hil
      obtain ⟨⟨kS, kS2, hW⟩, hT, h750, hO⟩ := (HIL.out ▸ HM.out : MwI L ws L.length (3 * L.length)).fin HE.out.ok HN.out.1 HN.out.2
      have hR := HR.out
      obtain ⟨A1, c1, rfl⟩ := Kd.R_slice hR
      have h2 := Kd.R_reads' hR
      have HRW := Aside0.mk h2.2.2
      have hc1 := h2.2.1
      have hBw : Below w.heap.size w wr := below_then HB.out HB.out.size HW.out
      have HBW := Aside0.mk hBw
      have HO := Aside0.mk hO
      have HLN := Aside0.mk h750
      have HAG := Aside0.mk ((IxN.iagain_calls _ A1 A1 c1 c1 kS kS2 ws ws (Num.Snt.below HSN.out hBw) h2.2.2 hc1 h2.2.2 hW hT).mono (fun _ _ h => ixo_of h))
      clear hR h2 hBw hO h750 hW hT HR HM
      go_wp2_with fail
      with_reducible refine Calls.mono HAG.out ?_
      rintro e_ w4 ⟨Aq, nq, lq, rfl, HEQ, HRQ, HLQ, hb4⟩
      have hlen : lq.length = ws.length := by rw [HEQ.out, List.length_map]
      have HB4 := Aside0.mk hb4
      have HLE := Aside0.mk hlen
      rw [hlen]
      clear hb4 hlen
      go_wp2_with fail
      go_loopg [12, 59] ws.length (fun kq v12 v59 w' => ∃ (i : Nat), v59 = .int .i64 (i : Int) ∧ Aside0 (i + kq = ws.length) ∧ Aside0 (Below w4.heap.size w4 w'))
      case atStart => exact ⟨0, rfl, ⟨by omega⟩, ⟨Below.refl _ _⟩⟩
      case round =>
        clear HI
        obtain ⟨i, rfl, HI, HB5⟩ := hrel
        cases gk with
        | zero =>
          have hlt : ¬ (i : Int) < (ws.length : Int) := by have := HI.out; omega
          go_wp2_with fail
          with_reducible refine Calls.mono (indexes_calls _) ?_
          rintro e_ w6 ⟨rfl, hb_⟩
          have HB6 := Aside0.mk (below_then HBW.out HBW.out.size (below_then HB4.out HB4.out.size (below_then HB5.out HB5.out.size hb_)))
          clear hb_
          go_wp2_with fail
          go_ret
          exact ⟨rfl, HB6.out⟩
        | succ kz =>
          have hlt : (i : Int) < (ws.length : Int) := by have := HI.out; omega
          have hiw : i < ws.length := by have := HI.out; omega
          have hlq : (i : Int) < (lq.length : Int) := by rw [HLE.out]; exact hlt
          obtain ⟨adq, Q0, d0, Q1, d1, Q2, d2, Q3, d3, eq_, hx0, hx1, hx2, hx3, hl0, hi0, _⟩ := PB.at_T42 HRQ.out (i : Int) (by omega) hlq
          cases eq_
          rw [Int.toNat_natCast] at hx0
          replace hx0 := (HB5.out.cell (World.block_lt_of_cell? w4 _ hx0)).trans hx0
          obtain ⟨ad, hA, hcell⟩ := str_cell (Kd.C_below (Kd.C_below HRW.out HB4.out) HB5.out) i hiw
          subst hA
          obtain ⟨t, ht⟩ : ∃ t, ws.getD i ByteArray.empty = t := ⟨_, rfl⟩
          rw [ht] at hcell
          have hids : (PB.rd_T42 lq (i : Int)).f0 = pl ws (bs t) ws.length := by
            rw [← ht, ← ids_here HO.out i hiw]
            have h1 : PB.rd_T42 lq (i : Int) = toP (ians (ixL ws) (ixF ws) (ws.getD i ByteArray.empty)) := by
              rw [HEQ.out]
              show (List.map _ ws).getD (Int.toNat (i : Int)) _ = _
              rw [Int.toNat_natCast, List.getD_eq_getElem?_getD, List.getElem?_map, List.getElem?_eq_getElem hiw, List.getD_eq_getElem?_getD, List.getElem?_eq_getElem hiw]
              rfl
            rw [h1]
            rfl
          rw [hids] at hx0 hi0 hl0
          obtain ⟨kp, hkp⟩ := (places_ev ws t (by have := HLN.out; omega)).rounds
          obtain ⟨ks, hks⟩ := (sint_ev (pl ws (bs t) ws.length) (by have := pl_len ws (bs t) ws.length; have := HLN.out; omega)).rounds
          have HI0 := Aside0.mk hi0
          have HKP := Aside0.mk hkp
          have HKS := Aside0.mk hks
          have HCW := Aside0.mk (Kd.C_below (Kd.C_below HRW.out HB4.out) HB5.out)
          have HCQ := Aside0.mk (Kd.C_below hi0 HB5.out)
          clear hi0 hkp hks hx1 hx2 hx3 hids hiw hlq ht
          have hn1 : 0 ≤ (i : Int) := by omega
          have HD0 := Aside0.mk hl0
          clear hl0
          go_wp2_with fail
          go_region_with (first | (go_at_call 17; (with_reducible refine Calls.mono (PB.laws_places.calls kp _ c1 ws t _ _ (Kd.C_below HCW.out (by repeat (first | exact Below.refl _ _ | apply below_alloc | apply pw_below_drewN | apply below_drew))) hc1 HKP.out) ?_); rintro e_ w6 ⟨pv, rfl, hpR, hpB⟩; obtain ⟨Ap, cp, rfl⟩ := Kd.R_slice hpR; have h7 := Kd.R_reads' hpR; have HP7 := Aside0.mk h7; have hx6 := (hpB.cell (World.block_lt_of_cell? wr _ hx0)).trans hx0; have HPB := Aside0.mk hpB; have HCQ6 := Aside0.mk (Kd.C_below (Kd.C_drew HCQ.out) hpB); have HB6 := Aside0.mk (below_then (below_drew HB5.out) HB5.out.size hpB); clear hpR hpB h7) | (go_at_call 16; (with_reducible refine Calls.mono (PB.laws_same_int.calls ks Q0 d0 (pl ws (bs t) ws.length) Ap cp (pl ws (bs t) ws.length) true _ HCQ6.out HD0.out HP7.out.2.2 HP7.out.2.1 HKS.out) ?_); rintro e_ w7 ⟨rfl, ⟨q7, rfl⟩⟩))
          all_goals (try go_wp2_with fail)
          · try go_wp2_with fail
            go_roundg kz
            case measure => omega
            case rel => exact ⟨i + 1, congrArg (Value.int .i64) ((IntWalk.wrap64_in _ (by have := HLN.out; omega)).trans (by omega)), ⟨by have := HI.out; omega⟩, ⟨by first | exact HB6.out | exact pw_below_drewN HB6.out _⟩⟩
          · try go_wp2_with fail
            go_roundg kz
            case measure => omega
            case rel => exact ⟨i + 1, congrArg (Value.int .i64) ((IntWalk.wrap64_in _ (by have := HLN.out; omega)).trans (by omega)), ⟨by have := HI.out; omega⟩, ⟨by first | exact HB6.out | exact pw_below_drewN HB6.out _⟩⟩
          · try go_wp2_with fail
            go_roundg kz
            case measure => omega
            case rel => exact ⟨i + 1, congrArg (Value.int .i64) ((IntWalk.wrap64_in _ (by have := HLN.out; omega)).trans (by omega)), ⟨by have := HI.out; omega⟩, ⟨by first | exact HB6.out | exact pw_below_drewN HB6.out _⟩⟩
    | succ kz =>
      have hlt : (i : Int) < (L.length : Int) := by have := HI.out; omega
      have hil : i < L.length := by have := HI.out; omega
      obtain ⟨ad, hA, hcell⟩ := str_cell (Kd.C_below HL.out HW.out) i hil
      subst hA
      obtain ⟨t, ht⟩ : ∃ t, L.getD i ByteArray.empty = t := ⟨_, rfl⟩
      rw [ht] at hcell
      have HT := Aside0.mk (And.intro hil ht)
      have hi250 : i < 250 := by have := HN.out; omega
      clear hil ht
      go_wp2_with fail
      go_loopg [7, 34] (i % 3 + 1) (fun kq v7 v34 w' => ∃ (j : Nat) (ws : List ByteArray), v34 = .int .i64 (j : Int) ∧ Aside0 (j + kq = i % 3 + 1) ∧ Aside0 (Kd.R Kd.string 9 w' w2.heap.size (fun _ => True) v7 ws) ∧ Aside0 (Below w2.heap.size w2 w') ∧ Aside0 (MwI L ws i (3 * i + j)) ∧ Aside0 (0 < j → ws ≠ []))
      case atStart => exact ⟨0, ws, rfl, ⟨by omega⟩, HR, HW, HM, ⟨fun h => absurd h (Nat.lt_irrefl _)⟩⟩
      case round =>
        clear HR HW HM
        obtain ⟨j, ws, rfl, HJ, HR, HW, HM, HNE⟩ := hrel
        cases gk with
        | zero =>
          have hltj : ¬ (j : Int) < 1 + (i : Int) % 3 := by have := HJ.out; omega
          go_wp2_with fail
          have hM2 := HM.out.next (HNE.out (by have := HJ.out; omega)) HE.out.up (k2 := 3 * (i + 1)) (by have := HJ.out; omega)
          go_roundg kz
          case measure => omega
          case rel => exact ⟨i + 1, ws, congrArg (Value.int .i64) (by omega), ⟨by have := HI.out; omega⟩, HR, HW, ⟨hM2⟩⟩
        | succ kj =>
          have hltj : (j : Int) < 1 + (i : Int) % 3 := by have := HJ.out; omega
          have hj4 : j < 4 := by omega
          go_wp2_with ((with_reducible refine gate_builtin (b := .append) (xs := #[.tmp 36, .tmp 38]) rfl ?_); at_builtin; refine Kd.R_append (Kd.string) (w0 := w2) w2.heap.size rfl (.tmp 36) (.tmp 38) 22 9 (.string ByteArray.empty) 16 rfl Tryz.underlying22 info_str rfl (by decide) (by omega) u7 ws t [.string t] (fun k_ => True) (fun _ => False) rfl rfl rfl (fun _ hk => hk.elim) (fun k_ hk => ?_) HR.out HW.out HW.out.size ?_ ?_; trivial; (have := HM.out.len; have := hj4; have := hi250; omega); (intro va wa ho hb hg hat; have HR2 := Aside0.mk ho; have HB2 := Aside0.mk hb; clear ho hb hg hat))
          go_roundg kj
          case measure => omega
          case rel => exact ⟨j + 1, ws ++ [t], congrArg (Value.int .i64) (by omega), ⟨by have := HJ.out; omega⟩, HR2, HB2, ⟨HM.out.put HT.out.1 HT.out.2⟩, ⟨fun _ => by simp⟩⟩
end Go.Proofs.YtaejkbjepbifcabGreatDoor.Da
