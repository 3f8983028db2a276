/- The walk of a scan at the end. -/
import Derived.Test.YtckdpckdabfkbabDoorScanD
import Derived.Test.YtckdpckdabfkbabDoorScanF
import Derived.Deep.DeepCutAuto
import Derived.Deep.CutBlock
namespace Go.Proofs.YtckdpckdabfkbabDoor.Scan
open Go.RowKit Go.Proofs.YtckdpckdabfkbabDoorW.PrintWords Go.Proofs.YtckdpckdabfkbabDoor.Plain Go.Proofs.YtckdpckdabfkbabDoor.Num Go.Proofs.YtckdpckdabfkbabDoor.PC
set_option linter.unusedVariables false
set_option linter.unusedSimpArgs false

set_option maxHeartbeats 16000000 in
set_option maxRecDepth 100000 in
theorem scan_true (w : World) (S : Sp) (Ad Af : Option Addr) (cd cf b off c : Nat) (D : ByteArray) (hb : Base w b S Ad Af cd cf) (hrow : Row w b off D.size (by' D)) (hc : D.size ≤ c) (hn : D.size ≤ 1000000000000) (h0 : 0 < D.size) (R : Res) (hR : scan S D true = R) :
    Calls Tryd.prog 37 #[.agg (sv S Ad Af cd cf), .slice (some ⟨b, off, none⟩) D.size c, .bool true] w fun e w' =>
      e = .returned (.tuple #[.int .i64 R.adv, tokv R b off c, .nilIface]) ∧ SI w w' b off D.size (R.mem D) := by
  obtain ⟨del, fol, skip, dbl, most⟩ := S
  obtain ⟨w1, hw1⟩ : ∃ w1, w1 = w.alloc (.cells (sv ⟨del, fol, skip, dbl, most⟩ Ad Af cd cf) 81) := ⟨_, rfl⟩
  have HX : Aside0 (w1.heap[w.heap.size]? = some (.cells (sv ⟨del, fol, skip, dbl, most⟩ Ad Af cd cf) 81 (0, 0))) := ⟨by rw [hw1]; exact blk_new w _⟩
  have hrow1 : SI w w b off D.size (by' D) := ⟨Kp.self _ _, hrow⟩
  have hB1 : Below w.heap.size w w1 := by rw [hw1]; exact below_alloc (Below.refl _ _) _
  have HN : Aside0 (w.heap.size ≠ b) := ⟨by have := hrow1.lt; omega⟩
  have HK : Aside0 (Kp w w1 (fun x => x = b)) := ⟨Kp.below hB1⟩
  have HI : Aside0 (SI w1 w1 b off D.size (mem D 0 [])) := ⟨Kp.self _ _, by
    obtain ⟨cs, t, g1, g2⟩ := (hrow1.step hB1).row
    exact ⟨cs, t, g1, fun j hj => by rw [mem_nil]; exact g2 j hj⟩⟩
  have HB := Aside0.mk hb
  have hlt : b < w1.heap.size := by have := hrow1.lt; have := hB1.size; omega
  have HL := Aside0.mk hlt
  have HR := Aside0.mk hR
  clear hb hrow hrow1 hB1 hlt hR
  have z0 := cells_at HX.out 0 _ rfl; have z1 := cells_at HX.out 1 _ rfl; have z2 := cells_at HX.out 2 _ rfl; have z3 := cells_at HX.out 3 _ rfl; have z4 := cells_at HX.out 4 _ rfl
  go_enter Tryd.func37, Tryd.ntmps37
  go_wp2_with fail
  rw [← hw1]
  clear hw1
  have hz0 : (((D.size : Nat) : Int) == 0) = false := by rw [beq_eq_false_iff_ne]; omega
  go_wp2_with fail
  try rw [hz0]
  go_loopg [9, 10, 11, 12, 13, 14] D.size (fun kq y9 y10 y11 y12 y13 y14 w' => ∃ (p s : Nat) (out : List Int) (cnt : Nat) (head nn : Bool), y14 = .int .i64 p ∧ y9 = .int .i64 s ∧ y10 = .int .i64 ((s + out.length : Nat) : Int) ∧ y11 = .int .i64 cnt ∧ y12 = .bool head ∧ y13 = .bool nn ∧ Aside0 (D.size ≤ p + kq ∧ p ≤ D.size ∧ s + out.length ≤ p ∧ cnt ≤ p ∧ (head = true → out = [])) ∧ Aside0 (outer ⟨del, fol, skip, dbl, most⟩ D true (kq + 1) p s out cnt head nn = R) ∧ Aside0 (SI w1 w' b off D.size (mem D s out)))
  case atStart => exact ⟨0, 0, [], 0, true, false, rfl, rfl, rfl, rfl, rfl, rfl, ⟨by simp⟩, HR, HI⟩
  case round =>
    clear z0 z1 z2 z3 z4 HI HR
    obtain ⟨p, s, out, cnt, head, nn, rfl, rfl, rfl, rfl, rfl, rfl, HM, HR, HI⟩ := hrel
    have z0 := cells_at (box_at HX.out HI.out HN.out) 0 _ rfl; have z1 := cells_at (box_at HX.out HI.out HN.out) 1 _ rfl; have z2 := cells_at (box_at HX.out HI.out HN.out) 2 _ rfl; have z3 := cells_at (box_at HX.out HI.out HN.out) 3 _ rfl; have z4 := cells_at (box_at HX.out HI.out HN.out) 4 _ rfl
    obtain ⟨m1, m2, m3, m4, m5⟩ := HM.out
    have p0 : (0 : Int) ≤ p := by omega
    have s0 : (0 : Int) ≤ s := by omega
    have s1 : (s : Int) ≤ ((s + out.length : Nat) : Int) := by omega
    have s2 : ((s + out.length : Nat) : Int) ≤ (c : Int) := by omega
    by_cases hp : p < D.size
    · have hpz : (p : Int) < (D.size : Int) := by omega
      have hpd := decide_eq_true hpz
      have hpn : (p : Int) ≤ (D.size : Int) := by omega
      obtain ⟨q1, q2, q3⟩ := rn_size D p hp
      cases gk with
      | zero => omega
      | succ k9 =>
      obtain ⟨r, hr⟩ : ∃ r, (rn D p).1 = r := ⟨_, rfl⟩
      obtain ⟨sz, hsz⟩ : ∃ sz, (rn D p).2 = sz := ⟨_, rfl⟩
      have HRS : Aside0 (rn D p = (r, sz)) := ⟨by rw [← hr, ← hsz]⟩
      rw [hr] at q3
      rw [hsz] at q1 q2
      clear hr hsz
      go_upto_region 9 with (go_at_call 51; refine (dec_calls' HB.out (si_up HK.out HI.out) HRS.out _ (by omega) (by omega)).mono ?_; rintro _ W_ ⟨rfl, hB_⟩; have HI_ := Aside0.mk (HI.out.step hB_); clear hB_; clear HI z0 z1 z2 z3 z4; have HI := HI_; clear HI_; have z0 := cells_at (box_at HX.out HI.out HN.out) 0 _ rfl; have z1 := cells_at (box_at HX.out HI.out HN.out) 1 _ rfl; have z2 := cells_at (box_at HX.out HI.out HN.out) 2 _ rfl; have z3 := cells_at (box_at HX.out HI.out HN.out) 3 _ rfl; have z4 := cells_at (box_at HX.out HI.out HN.out) 4 _ rfl)
      go_cut [44] (fun v44 wc => v44 = .bool (Sp.sp ⟨del, fol, skip, dbl, most⟩ r) ∧ Aside0 (SI w1 wc b off D.size (mem D s out)))
      case first =>
        cases skip with
        | false =>
          go_wp2_with fail
          go_meet
          case rel => exact ⟨rfl, HI⟩
        | true =>
          cases hi : Lib.isSpaceZ r with
          | false =>
            go_wp2_with (go_at_call 41; refine (space_calls' HB.out (si_up HK.out HI.out).kept _ (by omega) _ hi).mono ?_; rintro _ W_ ⟨rfl, hB_⟩; have HI_ := Aside0.mk (HI.out.step hB_); clear hB_; clear HI z0 z1 z2 z3 z4; have HI := HI_; clear HI_; have z0 := cells_at (box_at HX.out HI.out HN.out) 0 _ rfl; have z1 := cells_at (box_at HX.out HI.out HN.out) 1 _ rfl; have z2 := cells_at (box_at HX.out HI.out HN.out) 2 _ rfl; have z3 := cells_at (box_at HX.out HI.out HN.out) 3 _ rfl; have z4 := cells_at (box_at HX.out HI.out HN.out) 4 _ rfl)
            go_meet
            case rel => exact ⟨by simp [Sp.sp, hi], HI⟩
          | true =>
            go_wp2_with (go_at_call 41; refine (space_calls' HB.out (si_up HK.out HI.out).kept _ (by omega) _ hi).mono ?_; rintro _ W_ ⟨rfl, hB_⟩; have HI_ := Aside0.mk (HI.out.step hB_); clear hB_; clear HI z0 z1 z2 z3 z4; have HI := HI_; clear HI_; have z0 := cells_at (box_at HX.out HI.out HN.out) 0 _ rfl; have z1 := cells_at (box_at HX.out HI.out HN.out) 1 _ rfl; have z2 := cells_at (box_at HX.out HI.out HN.out) 2 _ rfl; have z3 := cells_at (box_at HX.out HI.out HN.out) 3 _ rfl; have z4 := cells_at (box_at HX.out HI.out HN.out) 4 _ rfl)
            go_meet
            case rel => exact ⟨by simp [Sp.sp, hi], HI⟩
      case rest =>
        obtain ⟨rfl, HI⟩ := hcut
        clear z0 z1 z2 z3 z4
        go_upto_if 44 with fail
        cases hsp : Sp.sp ⟨del, fol, skip, dbl, most⟩ r with
        | true =>
          clear hpz hpd hpn s1 s2
          refine spaceA w w1 del fol skip dbl most Ad Af cd cf b off c D hc hn HX HN HK HB HL true k9 s p sz r cnt out head nn R _ _ _ _ (by first | rfl | omega) (by rfl) m1 m3 m4 m5 hp q1 q2 q3 HRS hsp HR HI ⟨?_⟩ ⟨?_⟩
          · intro a2 W2 h1 h2
            simp only [Exit.inBlock, Exit.then]
            obtain ⟨r6, r7, r8, rd⟩ := h1
            refine bodyPost_ret (results_tmp3 rfl _ _ _) rd ?_
            rw [r6, r7, r8]
            exact ⟨rfl, h2⟩
          · intro n45 n46 n47 n48 n49 n50 n51 n52 n53 n54 n55 n56 n57 n58 n59 n60 n61 n62 n63 n64 n65 n66 n67 n68 n69 n70 n71 n72 n73 n74 n75 n6 n7 n8 f9 f10 f14 p2 s2 out2 head2 nn2 W2 h9 h10 h14 HM HR HI
            subst h9 h10 h14
            obtain ⟨g1, g2, g3, g4, g5⟩ := HM.out
            go_wp2_with fail
            go_roundg k9
            case measure => omega
            case rel => exact ⟨p2, s2, out2, cnt, head2, nn2, int_eq (by first | omega | (rw [wrap_ok (by omega) (by omega)]; omega) | (simp only [List.length_append, List.length_nil, seg_len] at * <;> first | omega | (rw [wrap_ok (by omega) (by omega)]; omega))), int_eq (by first | omega | (rw [wrap_ok (by omega) (by omega)]; omega) | (simp only [List.length_append, List.length_nil, seg_len] at * <;> first | omega | (rw [wrap_ok (by omega) (by omega)]; omega))), int_eq (by first | omega | (rw [wrap_ok (by omega) (by omega)]; omega) | (simp only [List.length_append, List.length_nil, seg_len] at * <;> first | omega | (rw [wrap_ok (by omega) (by omega)]; omega))), int_eq (by first | omega | (rw [wrap_ok (by omega) (by omega)]; omega) | (simp only [List.length_append, List.length_nil, seg_len] at * <;> first | omega | (rw [wrap_ok (by omega) (by omega)]; omega))), rfl, rfl, ⟨by (try simp only [List.length_append, seg_len] at *); refine ⟨?_, ?_, ?_, ?_, ?_⟩ <;> first | omega | simp⟩, HR, HI⟩
        | false =>
          clear hpz hpd hpn s1 s2
          go_upto_if 78 with fail
          refine copy78 w w1 del fol skip dbl most Ad Af cd cf b off c D hc hn HX HN HK HB HL s p sz out _ _ _ _ _ (by first | rfl | omega) (by rfl) (by rfl) m3 q2 HI ⟨?_⟩
          intro n17 n79 n80 n81 n82 n83 n84 n85 n86 n87 n88 n89 n90 n91 n92 n93 n94 W2 HI
          have z0 := cells_at (box_at HX.out HI.out HN.out) 0 _ rfl; have z1 := cells_at (box_at HX.out HI.out HN.out) 1 _ rfl; have z2 := cells_at (box_at HX.out HI.out HN.out) 2 _ rfl; have z3 := cells_at (box_at HX.out HI.out HN.out) 3 _ rfl; have z4 := cells_at (box_at HX.out HI.out HN.out) 4 _ rfl
          go_upto_region 31 with fail
          go_cut [108] (fun v108 wc => v108 = .bool (Sp.lf ⟨del, fol, skip, dbl, most⟩ r) ∧ Aside0 (SI w1 wc b off D.size (mem D s (out ++ seg D p sz))))
          case first =>
            cases dbl with
            | false =>
              go_wp2_with fail
              go_meet
              case rel => exact ⟨rfl, HI⟩
            | true =>
              cases h10b : ((r : Int) == 10) with
              | true =>
                go_wp2_with fail
                go_meet
                case rel => exact ⟨by rw [lf_eq, h10b], HI⟩
              | false =>
                go_wp2_with fail
                go_meet
                case rel => exact ⟨by rw [lf_eq, h10b], HI⟩
          case rest =>
            obtain ⟨rfl, HI⟩ := hcut
            clear z0 z1 z2 z3 z4
            have z0 := cells_at (box_at HX.out HI.out HN.out) 0 _ rfl; have z1 := cells_at (box_at HX.out HI.out HN.out) 1 _ rfl; have z2 := cells_at (box_at HX.out HI.out HN.out) 2 _ rfl; have z3 := cells_at (box_at HX.out HI.out HN.out) 3 _ rfl; have z4 := cells_at (box_at HX.out HI.out HN.out) 4 _ rfl
            go_upto_if 108 with fail
            refine feedL w w1 del fol skip dbl most Ad Af cd cf b off c D hc hn HX HN HK HB HL s (p + sz) (out ++ seg D p sz) _ nn R _ _ _ _ (by simp only [List.length_append, seg_len]; omega) (by omega) (by simp only [List.length_append, seg_len]; omega) (by omega) q2 ?_ HI ⟨?_⟩ ⟨?_⟩
            · intro hlf hnn
              subst hnn
              exact (outer_b1 hp HRS.out hsp hlf).symm.trans HR.out
            · intro a2 W2 h1 h2
              simp only [Exit.inBlock, Exit.then]
              obtain ⟨r6, r7, r8, rd⟩ := h1
              refine bodyPost_ret (results_tmp3 rfl _ _ _) rd ?_
              rw [r6, r7, r8]
              exact ⟨rfl, h2⟩
            · intro n109 n110 n111 n112 n113 n114 n6 n7 n8 W2 hln HI
              have z0 := cells_at (box_at HX.out HI.out HN.out) 0 _ rfl; have z1 := cells_at (box_at HX.out HI.out HN.out) 1 _ rfl; have z2 := cells_at (box_at HX.out HI.out HN.out) 2 _ rfl; have z3 := cells_at (box_at HX.out HI.out HN.out) 3 _ rfl; have z4 := cells_at (box_at HX.out HI.out HN.out) 4 _ rfl
              go_upto_region 35 with fail
              go_cut [124] (fun v124 wc => v124 = .bool ((!Sp.isD ⟨del, fol, skip, dbl, most⟩ r) && decide (((cnt + 1 : Nat) : Int) < most)) ∧ Aside0 (SI w1 wc b off D.size (mem D s (out ++ seg D p sz))))
              case first =>
                cases hd : Sp.isD ⟨del, fol, skip, dbl, most⟩ r with
                | true =>
                  go_wp2_with (go_at_call 52; refine (isD_calls' HB.out (si_up HK.out HI.out).kept _ _ hd).mono ?_; rintro _ W_ ⟨rfl, hB_⟩; have HI_ := Aside0.mk (HI.out.step hB_); clear hB_; clear HI z0 z1 z2 z3 z4; have HI := HI_; clear HI_; have z0 := cells_at (box_at HX.out HI.out HN.out) 0 _ rfl; have z1 := cells_at (box_at HX.out HI.out HN.out) 1 _ rfl; have z2 := cells_at (box_at HX.out HI.out HN.out) 2 _ rfl; have z3 := cells_at (box_at HX.out HI.out HN.out) 3 _ rfl; have z4 := cells_at (box_at HX.out HI.out HN.out) 4 _ rfl)
                  go_meet
                  case rel => exact ⟨by simp [hd], HI⟩
                | false =>
                  by_cases hcm : (cnt : Int) + 1 < most
                  · go_wp2_with (go_at_call 52; refine (isD_calls' HB.out (si_up HK.out HI.out).kept _ _ hd).mono ?_; rintro _ W_ ⟨rfl, hB_⟩; have HI_ := Aside0.mk (HI.out.step hB_); clear hB_; clear HI z0 z1 z2 z3 z4; have HI := HI_; clear HI_; have z0 := cells_at (box_at HX.out HI.out HN.out) 0 _ rfl; have z1 := cells_at (box_at HX.out HI.out HN.out) 1 _ rfl; have z2 := cells_at (box_at HX.out HI.out HN.out) 2 _ rfl; have z3 := cells_at (box_at HX.out HI.out HN.out) 3 _ rfl; have z4 := cells_at (box_at HX.out HI.out HN.out) 4 _ rfl)
                    go_meet
                    case rel => exact ⟨by simp [hd, hcm], HI⟩
                  · go_wp2_with (go_at_call 52; refine (isD_calls' HB.out (si_up HK.out HI.out).kept _ _ hd).mono ?_; rintro _ W_ ⟨rfl, hB_⟩; have HI_ := Aside0.mk (HI.out.step hB_); clear hB_; clear HI z0 z1 z2 z3 z4; have HI := HI_; clear HI_; have z0 := cells_at (box_at HX.out HI.out HN.out) 0 _ rfl; have z1 := cells_at (box_at HX.out HI.out HN.out) 1 _ rfl; have z2 := cells_at (box_at HX.out HI.out HN.out) 2 _ rfl; have z3 := cells_at (box_at HX.out HI.out HN.out) 3 _ rfl; have z4 := cells_at (box_at HX.out HI.out HN.out) 4 _ rfl)
                    go_meet
                    case rel => exact ⟨by simp [hd, hcm], HI⟩
              case rest =>
                obtain ⟨rfl, HI⟩ := hcut
                clear z0 z1 z2 z3 z4
                cases hv : ((!Sp.isD ⟨del, fol, skip, dbl, most⟩ r) && decide (((cnt + 1 : Nat) : Int) < most)) with
                | true =>
                  have HR := Aside0.mk ((outer_b2 hp HRS.out hsp hln hv).symm.trans HR.out)
                  go_wp2_with fail
                  go_roundg k9
                  case measure => omega
                  case rel => exact ⟨p + sz, s, out ++ seg D p sz, cnt + 1, false, (Sp.lf ⟨del, fol, skip, dbl, most⟩ r || nn), int_eq (by first | omega | (rw [wrap_ok (by omega) (by omega)]; omega) | (simp only [List.length_append, List.length_nil, seg_len] at * <;> first | omega | (rw [wrap_ok (by omega) (by omega)]; omega))), int_eq (by first | omega | (rw [wrap_ok (by omega) (by omega)]; omega) | (simp only [List.length_append, List.length_nil, seg_len] at * <;> first | omega | (rw [wrap_ok (by omega) (by omega)]; omega))), int_eq (by first | omega | (rw [wrap_ok (by omega) (by omega)]; omega) | (simp only [List.length_append, List.length_nil, seg_len] at * <;> first | omega | (rw [wrap_ok (by omega) (by omega)]; omega))), int_eq (by first | omega | (rw [wrap_ok (by omega) (by omega)]; omega) | (simp only [List.length_append, List.length_nil, seg_len] at * <;> first | omega | (rw [wrap_ok (by omega) (by omega)]; omega))), rfl, rfl, ⟨by (try simp only [List.length_append, seg_len] at *); refine ⟨?_, ?_, ?_, ?_, ?_⟩ <;> first | omega | simp⟩, HR, HI⟩
                | false =>
                  obtain ⟨RI, hRI⟩ : ∃ RI, inner ⟨del, fol, skip, dbl, most⟩ D (k9 + 1) (p + sz) (out ++ seg D p sz) false = RI := ⟨_, rfl⟩
                  obtain rfl : (⟨RI.1, true, s, RI.2⟩ : Res) = R := by rw [← hRI]; exact (outer_b3 hp HRS.out hsp hln hv).symm.trans HR.out
                  have HRI := Aside0.mk hRI
                  clear hRI HR
                  go_upto_block 5 with fail
                  refine innerB w w1 del fol skip dbl most Ad Af cd cf b off c D hc hn HX HN HK HB HL k9 s (p + sz) (out ++ seg D p sz) RI _ _ _ _ (by simp only [List.length_append, seg_len]; omega) (by omega) (by omega) q2 (by simp only [List.length_append, seg_len]; omega) (by omega) HRI HI ⟨?_⟩ ⟨?_⟩
                  · intro a2 W2 h1 h2
                    simp only [Exit.inBlock, Exit.then]
                    obtain ⟨r6, r7, r8, rd⟩ := h1
                    refine bodyPost_ret (results_tmp3 rfl _ _ _) rd ?_
                    rw [r6, r7, r8]
                    exact ⟨rfl, h2⟩
                  · intro n6 n7 n8 n13 n18 n19 n20 n125 n126 n127 n128 n129 n130 n131 n132 n133 n134 n135 n136 n137 n138 n139 n140 n141 n142 n143 n144 n145 n146 n147 n148 n149 n150 n151 n152 n153 n154 n155 n156 n157 n158 n159 n160 n161 n162 n163 n164 n165 n166 n167 n168 n169 n170 n171 n172 n173 n174 n175 n176 n177 n178 n179 n180 n181 n182 n183 n184 n185 n186 n187 n188 n189 f10 f14 q o W2 h10 h14 h1 h2 hRI HI
                    subst h10 h14 hRI
                    have s1 : (s : Int) ≤ ((s + o.length : Nat) : Int) := by omega
                    have s2 : ((s + o.length : Nat) : Int) ≤ (c : Int) := by omega
                    go_wp2_with fail
                    go_quiet (fail)
                    go_wp2_with fail
                    go_ret3
                    refine ⟨?_, ?_⟩
                    exact ret_eq rfl (by omega) (by omega)
                    exact (si_res (si_up HK.out HI.out)).drew _
    · have hpz : ¬ (p : Int) < (D.size : Int) := by omega
      obtain rfl : (⟨D.size, true, s, out⟩ : Res) = R := (outer_end hp).symm.trans HR.out
      rcases Nat.lt_or_ge s c with hsc | hsc
      · go_wp2_with fail
        go_quiet (fail)
        go_wp2_with fail
        go_ret3
        refine ⟨?_, ?_⟩
        exact ret_eq rfl (by omega) hsc
        exact (si_res (si_up HK.out HI.out)).drew _
      · obtain rfl : s = c := by omega
        go_wp2_with fail
        go_quiet (fail)
        go_wp2_with fail
        go_ret3
        refine ⟨?_, ?_⟩
        exact ret_eq0 rfl (by omega) rfl
        exact (si_res (si_up HK.out HI.out)).drew _
end Go.Proofs.YtckdpckdabfkbabDoor.Scan
