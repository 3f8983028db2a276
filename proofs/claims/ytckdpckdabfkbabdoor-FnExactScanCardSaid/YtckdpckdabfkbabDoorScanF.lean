/- The loop behind the end of a sentence. -/
import Derived.Test.YtckdpckdabfkbabDoorScanE
namespace Go.Proofs.YtckdpckdabfkbabDoor.Scan
open Go.RowKit Go.Proofs.YtckdpckdabfkbabDoorW.PrintWords Go.Proofs.YtckdpckdabfkbabDoor.Plain Go.Proofs.YtckdpckdabfkbabDoor.Num Go.Proofs.YtckdpckdabfkbabDoor.PC
set_option linter.unusedVariables false
set_option linter.unusedSimpArgs false

noncomputable def cblock5 : Code := pth [true, true, true, true, true, false, true, false, false, true, false, true, true, true, true, true, true, true, true, true, true, false] (Tryd.f37.body.getD .skip)
set_option maxHeartbeats 16000000 in
set_option maxRecDepth 100000 in
theorem innerB (w w1 : World) (del fol : List Int) (skip dbl : Bool) (most : Int) (Ad Af : Option Addr) (cd cf b off c : Nat) (D : ByteArray) (hc : D.size ≤ c) (hn : D.size ≤ 1000000000000) (HX : Aside0 (w1.heap[w.heap.size]? = some (.cells (sv ⟨del, fol, skip, dbl, most⟩ Ad Af cd cf) 81 (0, 0)))) (HN : Aside0 (w.heap.size ≠ b)) (HK : Aside0 (Kp w w1 (fun x => x = b))) (HB : Aside0 (Base w b ⟨del, fol, skip, dbl, most⟩ Ad Af cd cf)) (HL : Aside0 (b < w1.heap.size)) (k9 s q0 : Nat) (o0 : List Int) (RI : Nat × List Int) (Q : Exit → Act → World → Prop) {v0 v2 v4 v5 v6 v7 v8 v11 v12 v15 v16 v17 v18 v19 v20 v21 v22 v23 v24 v25 v26 v27 v28 v29 v30 v31 v32 v33 v34 v35 v36 v37 v38 v39 v40 v41 v42 v43 v44 v45 v46 v47 v48 v49 v50 v51 v52 v53 v54 v55 v56 v57 v58 v59 v60 v61 v62 v63 v64 v65 v66 v67 v68 v69 v70 v71 v72 v73 v74 v75 v76 v77 v78 v79 v80 v81 v82 v83 v84 v85 v86 v87 v88 v89 v90 v91 v92 v93 v94 v95 v96 v97 v98 v99 v100 v101 v102 v103 v104 v105 v106 v107 v108 v109 v110 v111 v112 v113 v114 v115 v116 v117 v118 v119 v120 v121 v122 v123 v124 v125 v126 v127 v128 v129 v130 v131 v132 v133 v134 v135 v136 v137 v138 v139 v140 v141 v142 v143 v144 v145 v146 v147 v148 v149 v150 v151 v152 v153 v154 v155 v156 v157 v158 v159 v160 v161 v162 v163 v164 v165 v166 v167 v168 v169 v170 v171 v172 v173 v174 v175 v176 v177 v178 v179 v180 v181 v182 v183 v184 v185 v186 v187 v188 v189 v190 v191 v192 v193 v194 v195 v196 v197 v198 v199 v200 v201 v202 v203 v204 v205 v206 v207 v208 v209 v210 v211 v212 v213 : Value} (e10 e14 : Int) (W : World) (h10 : e10 = ((s + o0.length : Nat) : Int)) (h14 : e14 = (q0 : Int)) (m6 : D.size ≤ q0 + k9) (m7 : q0 ≤ D.size) (m8 : s + o0.length ≤ q0) (m9 : s < D.size) (HRI : Aside0 (inner ⟨del, fol, skip, dbl, most⟩ D (k9 + 1) q0 o0 false = RI)) (HI : Aside0 (SI w1 W b off D.size (mem D s o0)))
    (hret : Aside0 (∀ a2 W2, Ret ⟨RI.1, true, s, RI.2⟩ b off c a2 → SI w W2 b off D.size (Res.mem D ⟨RI.1, true, s, RI.2⟩) → Q .ret a2 W2))
    (hN : Aside0 (∀ (n6 n7 n8 n13 n18 n19 n20 n125 n126 n127 n128 n129 n130 n131 n132 n133 n134 n135 n136 n137 n138 n139 n140 n141 n142 n143 n144 n145 n146 n147 n148 n149 n150 n151 n152 n153 n154 n155 n156 n157 n158 n159 n160 n161 n162 n163 n164 n165 n166 n167 n168 n169 n170 n171 n172 n173 n174 n175 n176 n177 n178 n179 n180 n181 n182 n183 n184 n185 n186 n187 n188 n189 : Value) (f10 f14 : Int) (q : Nat) (o : List Int) (W2 : World), f10 = ((s + o.length : Nat) : Int) → f14 = (q : Int) → q ≤ D.size → s + o.length ≤ q → RI = (q, o) → Aside0 (SI w1 W2 b off D.size (mem D s o)) → Q .normal ⟨#[v0, .slice (some ⟨b, off, none⟩) D.size c, v2, .pointer (some ⟨w.heap.size, 0, none⟩), v4, v5, n6, n7, n8, .int .i64 s, .int .i64 f10, v11, v12, n13, .int .i64 f14, v15, v16, v17, n18, n19, n20, v21, v22, v23, v24, v25, v26, v27, v28, v29, v30, v31, v32, v33, v34, v35, v36, v37, v38, v39, v40, v41, v42, v43, v44, v45, v46, v47, v48, v49, v50, v51, v52, v53, v54, v55, v56, v57, v58, v59, v60, v61, v62, v63, v64, v65, v66, v67, v68, v69, v70, v71, v72, v73, v74, v75, v76, v77, v78, v79, v80, v81, v82, v83, v84, v85, v86, v87, v88, v89, v90, v91, v92, v93, v94, v95, v96, v97, v98, v99, v100, v101, v102, v103, v104, v105, v106, v107, v108, v109, v110, v111, v112, v113, v114, v115, v116, v117, v118, v119, v120, v121, v122, v123, v124, n125, n126, n127, n128, n129, n130, n131, n132, n133, n134, n135, n136, n137, n138, n139, n140, n141, n142, n143, n144, n145, n146, n147, n148, n149, n150, n151, n152, n153, n154, n155, n156, n157, n158, n159, n160, n161, n162, n163, n164, n165, n166, n167, n168, n169, n170, n171, n172, n173, n174, n175, n176, n177, n178, n179, n180, n181, n182, n183, n184, n185, n186, n187, n188, n189, v190, v191, v192, v193, v194, v195, v196, v197, v198, v199, v200, v201, v202, v203, v204, v205, v206, v207, v208, v209, v210, v211, v212, v213], []⟩ W2)) :
    Code.wp Tryd.prog cblock5 Q ⟨#[v0, .slice (some ⟨b, off, none⟩) D.size c, v2, .pointer (some ⟨w.heap.size, 0, none⟩), v4, v5, v6, v7, v8, .int .i64 s, .int .i64 e10, v11, v12, .bool false, .int .i64 e14, v15, v16, v17, v18, v19, v20, v21, v22, v23, v24, v25, v26, v27, v28, v29, v30, v31, v32, v33, v34, v35, v36, v37, v38, v39, v40, v41, v42, v43, v44, v45, v46, v47, v48, v49, v50, v51, v52, v53, v54, v55, v56, v57, v58, v59, v60, v61, v62, v63, v64, v65, v66, v67, v68, v69, v70, v71, v72, v73, v74, v75, v76, v77, v78, v79, v80, v81, v82, v83, v84, v85, v86, v87, v88, v89, v90, v91, v92, v93, v94, v95, v96, v97, v98, v99, v100, v101, v102, v103, v104, v105, v106, v107, v108, v109, v110, v111, v112, v113, v114, v115, v116, v117, v118, v119, v120, v121, v122, v123, v124, v125, v126, v127, v128, v129, v130, v131, v132, v133, v134, v135, v136, v137, v138, v139, v140, v141, v142, v143, v144, v145, v146, v147, v148, v149, v150, v151, v152, v153, v154, v155, v156, v157, v158, v159, v160, v161, v162, v163, v164, v165, v166, v167, v168, v169, v170, v171, v172, v173, v174, v175, v176, v177, v178, v179, v180, v181, v182, v183, v184, v185, v186, v187, v188, v189, v190, v191, v192, v193, v194, v195, v196, v197, v198, v199, v200, v201, v202, v203, v204, v205, v206, v207, v208, v209, v210, v211, v212, v213], []⟩ W := by
  conv => arg 2; whnf
  conv => arg 4; zeta
  subst h10 h14
  have s0 : (0 : Int) ≤ s := by omega
  go_wp2_with fail
  go_loopg [10, 13, 14] k9 (fun kq y10 y13 y14 w' => ∃ (q : Nat) (o : List Int) (n2 : Bool), y10 = .int .i64 ((s + o.length : Nat) : Int) ∧ y13 = .bool n2 ∧ y14 = .int .i64 q ∧ Aside0 (D.size ≤ q + kq ∧ q ≤ D.size ∧ s + o.length ≤ q) ∧ Aside0 (inner ⟨del, fol, skip, dbl, most⟩ D (kq + 1) q o n2 = RI) ∧ Aside0 (SI w1 w' b off D.size (mem D s o)))
  case atStart => exact ⟨q0, o0, false, rfl, rfl, rfl, ⟨by omega⟩, HRI, HI⟩
  case round =>
    clear HI HRI m6 m7 m8
    obtain ⟨q, o, n2, rfl, rfl, rfl, HM2, HRI, HI⟩ := hrel
    obtain ⟨m6, m7, m8⟩ := HM2.out
    have z0 := cells_at (box_at HX.out HI.out HN.out) 0 _ rfl; have z1 := cells_at (box_at HX.out HI.out HN.out) 1 _ rfl; have z2 := cells_at (box_at HX.out HI.out HN.out) 2 _ rfl; have z3 := cells_at (box_at HX.out HI.out HN.out) 3 _ rfl; have z4 := cells_at (box_at HX.out HI.out HN.out) 4 _ rfl
    have o0 : (0 : Int) ≤ q := by omega
    by_cases hq : q < D.size
    · have hqz : (q : Int) < (D.size : Int) := by omega
      have hqd := decide_eq_true hqz
      have hqn : (q : Int) ≤ (D.size : Int) := by omega
      obtain ⟨q4, q5, q6⟩ := rn_size D q hq
      cases gk with
      | zero => omega
      | succ k8 =>
      obtain ⟨r2, hr2⟩ : ∃ r, (rn D q).1 = r := ⟨_, rfl⟩
      obtain ⟨sz2, hsz2⟩ : ∃ sz, (rn D q).2 = sz := ⟨_, rfl⟩
      have HR2 : Aside0 (rn D q = (r2, sz2)) := ⟨by rw [← hr2, ← hsz2]⟩
      rw [hr2] at q6
      rw [hsz2] at q4 q5
      clear hr2 hsz2
      go_upto_region 39 with (go_at_call 51; refine (dec_calls' HB.out (si_up HK.out HI.out) HR2.out _ (by omega) (by omega)).mono ?_; rintro _ W_ ⟨rfl, hB_⟩; have HI_ := Aside0.mk (HI.out.step hB_); clear hB_; clear HI z0 z1 z2 z3 z4; have HI := HI_; clear HI_; have z0 := cells_at (box_at HX.out HI.out HN.out) 0 _ rfl; have z1 := cells_at (box_at HX.out HI.out HN.out) 1 _ rfl; have z2 := cells_at (box_at HX.out HI.out HN.out) 2 _ rfl; have z3 := cells_at (box_at HX.out HI.out HN.out) 3 _ rfl; have z4 := cells_at (box_at HX.out HI.out HN.out) 4 _ rfl)
      go_cut [141] from 125 to 189 (fun v141 wc => v141 = .bool (Sp.sp ⟨del, fol, skip, dbl, most⟩ r2) ∧ Aside0 (SI w1 wc b off D.size (mem D s o)))
      case first =>
        cases skip with
        | false =>
          go_wp2_with fail
          go_meet
          case rel => exact ⟨rfl, HI⟩
        | true =>
          cases hi : Lib.isSpaceZ r2 with
          | false =>
            go_wp2_with (go_at_call 41; refine (space_calls' HB.out (si_up HK.out HI.out).kept _ (by omega) _ hi).mono ?_; rintro _ W_ ⟨rfl, hB_⟩; have HI_ := Aside0.mk (HI.out.step hB_); clear hB_; clear HI z0 z1 z2 z3 z4; have HI := HI_; clear HI_; have z0 := cells_at (box_at HX.out HI.out HN.out) 0 _ rfl; have z1 := cells_at (box_at HX.out HI.out HN.out) 1 _ rfl; have z2 := cells_at (box_at HX.out HI.out HN.out) 2 _ rfl; have z3 := cells_at (box_at HX.out HI.out HN.out) 3 _ rfl; have z4 := cells_at (box_at HX.out HI.out HN.out) 4 _ rfl)
            go_meet
            case rel => exact ⟨by simp [Sp.sp, hi], HI⟩
          | true =>
            go_wp2_with (go_at_call 41; refine (space_calls' HB.out (si_up HK.out HI.out).kept _ (by omega) _ hi).mono ?_; rintro _ W_ ⟨rfl, hB_⟩; have HI_ := Aside0.mk (HI.out.step hB_); clear hB_; clear HI z0 z1 z2 z3 z4; have HI := HI_; clear HI_; have z0 := cells_at (box_at HX.out HI.out HN.out) 0 _ rfl; have z1 := cells_at (box_at HX.out HI.out HN.out) 1 _ rfl; have z2 := cells_at (box_at HX.out HI.out HN.out) 2 _ rfl; have z3 := cells_at (box_at HX.out HI.out HN.out) 3 _ rfl; have z4 := cells_at (box_at HX.out HI.out HN.out) 4 _ rfl)
            go_meet
            case rel => exact ⟨by simp [Sp.sp, hi], HI⟩
      case rest =>
        obtain ⟨rfl, HI⟩ := hcut
        clear z0 z1 z2 z3 z4
        go_upto_if 141 with fail
        cases hsp2 : Sp.sp ⟨del, fol, skip, dbl, most⟩ r2 with
        | true =>
          refine spaceI w w1 del fol skip dbl most Ad Af cd cf b off c D hc hn HX HN HK HB HL k8 s q sz2 r2 o n2 RI _ _ _ _ (by rfl) (by rfl) m6 m8 hq q4 q5 q6 HR2 hsp2 HRI HI ?_ ⟨?_⟩
          · exact ⟨fun a2 W2 h1 h2 => hret.out a2 W2 h1 h2⟩
          · intro n142 n143 n144 n145 n146 n147 n148 n149 n150 n151 n152 n153 n154 n155 n156 n6 n7 n8 f14 n3 W2 h14 HRI HI
            subst h14
            go_wp2_with fail
            go_roundg k8
            case measure => omega
            case rel => exact ⟨q + sz2, o, n3, int_eq (by first | omega | (rw [wrap_ok (by omega) (by omega)]; omega) | (simp only [List.length_append, List.length_nil, seg_len] at * <;> first | omega | (rw [wrap_ok (by omega) (by omega)]; omega))), rfl, int_eq (by first | omega | (rw [wrap_ok (by omega) (by omega)]; omega) | (simp only [List.length_append, List.length_nil, seg_len] at * <;> first | omega | (rw [wrap_ok (by omega) (by omega)]; omega))), ⟨by (try simp only [List.length_append, seg_len] at *); omega⟩, HRI, HI⟩
        | false =>
          refine signI w w1 del fol skip dbl most Ad Af cd cf b off c D hc hn HX HN HK HB HL k8 s q sz2 r2 o n2 RI _ _ _ _ (by rfl) (by rfl) m6 m8 hq q4 q5 q6 HR2 hsp2 HRI HI ⟨?_⟩ ⟨?_⟩
          · intro n157 n158 n159 n160 n161 n162 n163 n164 n165 n166 n167 n168 n169 n170 n171 n172 n173 n174 n175 n176 n177 n178 n179 n180 n181 n182 n183 n184 n185 n186 n187 n188 n189 n20 f10 f14 W2 h10 h14 hRI HI
            subst h10 h14
            go_wp2_with fail
            exact hN.out _ _ _ _ _ _ _ _ _ _ _ _ _ _ _ _ _ _ _ _ _ _ _ _ _ _ _ _ _ _ _ _ _ _ _ _ _ _ _ _ _ _ _ _ _ _ _ _ _ _ _ _ _ _ _ _ _ _ _ _ _ _ _ _ _ _ _ _ _ _ _ _ _ _ q o _ (by omega) rfl m7 m8 hRI HI
          · intro n157 n158 n159 n160 n161 n162 n163 n164 n165 n166 n167 n168 n169 n170 n171 n172 n173 n174 n175 n176 n177 n178 n179 n180 n181 n182 n183 n184 n185 n186 n187 n188 n189 n20 f10 f14 W2 h10 h14 HRI HI
            subst h10 h14
            go_wp2_with fail
            go_roundg k8
            case measure => omega
            case rel => exact ⟨q + sz2, o ++ seg D q sz2, n2, int_eq (by first | omega | (rw [wrap_ok (by omega) (by omega)]; omega) | (simp only [List.length_append, List.length_nil, seg_len] at * <;> first | omega | (rw [wrap_ok (by omega) (by omega)]; omega))), rfl, int_eq (by first | omega | (rw [wrap_ok (by omega) (by omega)]; omega) | (simp only [List.length_append, List.length_nil, seg_len] at * <;> first | omega | (rw [wrap_ok (by omega) (by omega)]; omega))), ⟨by (try simp only [List.length_append, seg_len] at *); omega⟩, HRI, HI⟩
    · have hqz : ¬ (q : Int) < (D.size : Int) := by omega
      go_wp2_with fail
      exact hN.out _ _ _ _ _ _ _ _ _ _ _ _ _ _ _ _ _ _ _ _ _ _ _ _ _ _ _ _ _ _ _ _ _ _ _ _ _ _ _ _ _ _ _ _ _ _ _ _ _ _ _ _ _ _ _ _ _ _ _ _ _ _ _ _ _ _ _ _ _ _ _ _ _ _ q o _ (by omega) rfl m7 m8 (HRI.out.symm.trans (inner_end hq)) HI
end Go.Proofs.YtckdpckdabfkbabDoor.Scan
