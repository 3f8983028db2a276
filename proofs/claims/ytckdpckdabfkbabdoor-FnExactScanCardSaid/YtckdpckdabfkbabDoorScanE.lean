/- What goes with a sentence. -/
import Derived.Test.YtckdpckdabfkbabDoorScanC
namespace Go.Proofs.YtckdpckdabfkbabDoor.Scan
open Go.RowKit Go.Proofs.YtckdpckdabfkbabDoorW.PrintWords Go.Proofs.YtckdpckdabfkbabDoor.Plain Go.Proofs.YtckdpckdabfkbabDoor.Num Go.Proofs.YtckdpckdabfkbabDoor.PC
set_option linter.unusedVariables false
set_option linter.unusedSimpArgs false

noncomputable def ccond141 : Code := pth [true, true, true, true, true, false, true, false, false, true, false, true, true, true, true, true, true, true, true, true, true, false, false, false, true, false, true, true] (Tryd.f37.body.getD .skip)
set_option maxHeartbeats 16000000 in
set_option maxRecDepth 100000 in
theorem spaceI (w w1 : World) (del fol : List Int) (skip dbl : Bool) (most : Int) (Ad Af : Option Addr) (cd cf b off c : Nat) (D : ByteArray) (hc : D.size ≤ c) (hn : D.size ≤ 1000000000000) (HX : Aside0 (w1.heap[w.heap.size]? = some (.cells (sv ⟨del, fol, skip, dbl, most⟩ Ad Af cd cf) 81 (0, 0)))) (HN : Aside0 (w.heap.size ≠ b)) (HK : Aside0 (Kp w w1 (fun x => x = b))) (HB : Aside0 (Base w b ⟨del, fol, skip, dbl, most⟩ Ad Af cd cf)) (HL : Aside0 (b < w1.heap.size)) (k8 s q sz2 r2 : Nat) (o : List Int) (n2 : Bool) (RI : Nat × List Int) (Q : Exit → Act → World → Prop) {v0 v2 v4 v5 v6 v7 v8 v11 v12 v15 v16 v17 v20 v21 v22 v23 v24 v25 v26 v27 v28 v29 v30 v31 v32 v33 v34 v35 v36 v37 v38 v39 v40 v41 v42 v43 v44 v45 v46 v47 v48 v49 v50 v51 v52 v53 v54 v55 v56 v57 v58 v59 v60 v61 v62 v63 v64 v65 v66 v67 v68 v69 v70 v71 v72 v73 v74 v75 v76 v77 v78 v79 v80 v81 v82 v83 v84 v85 v86 v87 v88 v89 v90 v91 v92 v93 v94 v95 v96 v97 v98 v99 v100 v101 v102 v103 v104 v105 v106 v107 v108 v109 v110 v111 v112 v113 v114 v115 v116 v117 v118 v119 v120 v121 v122 v123 v124 v125 v126 v127 v128 v129 v130 v131 v132 v133 v134 v135 v136 v137 v138 v139 v140 v142 v143 v144 v145 v146 v147 v148 v149 v150 v151 v152 v153 v154 v155 v156 v157 v158 v159 v160 v161 v162 v163 v164 v165 v166 v167 v168 v169 v170 v171 v172 v173 v174 v175 v176 v177 v178 v179 v180 v181 v182 v183 v184 v185 v186 v187 v188 v189 v190 v191 v192 v193 v194 v195 v196 v197 v198 v199 v200 v201 v202 v203 v204 v205 v206 v207 v208 v209 v210 v211 v212 v213 : Value} (e10 e14 : Int) (W : World) (h10 : e10 = ((s + o.length : Nat) : Int)) (h14 : e14 = (q : Int)) (m6 : D.size ≤ q + (k8 + 1)) (m8 : s + o.length ≤ q) (hq : q < D.size) (q4 : 1 ≤ sz2) (q5 : q + sz2 ≤ D.size) (q6 : r2 ≤ 1114111) (HR2 : Aside0 (rn D q = (r2, sz2))) (hsp2 : Sp.sp ⟨del, fol, skip, dbl, most⟩ r2 = true) (HRI : Aside0 (inner ⟨del, fol, skip, dbl, most⟩ D (k8 + 1 + 1) q o n2 = RI)) (HI : Aside0 (SI w1 W b off D.size (mem D s o)))
    (hret : Aside0 (∀ a2 W2, Ret ⟨RI.1, true, s, RI.2⟩ b off c a2 → SI w W2 b off D.size (Res.mem D ⟨RI.1, true, s, RI.2⟩) → Q .ret a2 W2))
    (hN : Aside0 (∀ (n142 n143 n144 n145 n146 n147 n148 n149 n150 n151 n152 n153 n154 n155 n156 n6 n7 n8 : Value) (f14 : Int) (n3 : Bool) (W2 : World), f14 = ((q + sz2 : Nat) : Int) → Aside0 (inner ⟨del, fol, skip, dbl, most⟩ D (k8 + 1) (q + sz2) o n3 = RI) → Aside0 (SI w1 W2 b off D.size (mem D s o)) → Q .normal ⟨#[v0, .slice (some ⟨b, off, none⟩) D.size c, v2, .pointer (some ⟨w.heap.size, 0, none⟩), v4, v5, n6, n7, n8, .int .i64 s, .int .i64 e10, v11, v12, .bool n3, .int .i64 f14, v15, v16, v17, .int .i32 r2, .int .i64 sz2, v20, v21, v22, v23, v24, v25, v26, v27, v28, v29, v30, v31, v32, v33, v34, v35, v36, v37, v38, v39, v40, v41, v42, v43, v44, v45, v46, v47, v48, v49, v50, v51, v52, v53, v54, v55, v56, v57, v58, v59, v60, v61, v62, v63, v64, v65, v66, v67, v68, v69, v70, v71, v72, v73, v74, v75, v76, v77, v78, v79, v80, v81, v82, v83, v84, v85, v86, v87, v88, v89, v90, v91, v92, v93, v94, v95, v96, v97, v98, v99, v100, v101, v102, v103, v104, v105, v106, v107, v108, v109, v110, v111, v112, v113, v114, v115, v116, v117, v118, v119, v120, v121, v122, v123, v124, v125, v126, v127, v128, v129, v130, v131, v132, v133, v134, v135, v136, v137, v138, v139, v140, .bool true, n142, n143, n144, n145, n146, n147, n148, n149, n150, n151, n152, n153, n154, n155, n156, v157, v158, v159, v160, v161, v162, v163, v164, v165, v166, v167, v168, v169, v170, v171, v172, v173, v174, v175, v176, v177, v178, v179, v180, v181, v182, v183, v184, v185, v186, v187, v188, v189, v190, v191, v192, v193, v194, v195, v196, v197, v198, v199, v200, v201, v202, v203, v204, v205, v206, v207, v208, v209, v210, v211, v212, v213], []⟩ W2)) :
    Code.wp Tryd.prog ccond141 Q ⟨#[v0, .slice (some ⟨b, off, none⟩) D.size c, v2, .pointer (some ⟨w.heap.size, 0, none⟩), v4, v5, v6, v7, v8, .int .i64 s, .int .i64 e10, v11, v12, .bool n2, .int .i64 e14, v15, v16, v17, .int .i32 r2, .int .i64 sz2, v20, v21, v22, v23, v24, v25, v26, v27, v28, v29, v30, v31, v32, v33, v34, v35, v36, v37, v38, v39, v40, v41, v42, v43, v44, v45, v46, v47, v48, v49, v50, v51, v52, v53, v54, v55, v56, v57, v58, v59, v60, v61, v62, v63, v64, v65, v66, v67, v68, v69, v70, v71, v72, v73, v74, v75, v76, v77, v78, v79, v80, v81, v82, v83, v84, v85, v86, v87, v88, v89, v90, v91, v92, v93, v94, v95, v96, v97, v98, v99, v100, v101, v102, v103, v104, v105, v106, v107, v108, v109, v110, v111, v112, v113, v114, v115, v116, v117, v118, v119, v120, v121, v122, v123, v124, v125, v126, v127, v128, v129, v130, v131, v132, v133, v134, v135, v136, v137, v138, v139, v140, .bool true, v142, v143, v144, v145, v146, v147, v148, v149, v150, v151, v152, v153, v154, v155, v156, v157, v158, v159, v160, v161, v162, v163, v164, v165, v166, v167, v168, v169, v170, v171, v172, v173, v174, v175, v176, v177, v178, v179, v180, v181, v182, v183, v184, v185, v186, v187, v188, v189, v190, v191, v192, v193, v194, v195, v196, v197, v198, v199, v200, v201, v202, v203, v204, v205, v206, v207, v208, v209, v210, v211, v212, v213], []⟩ W := by
  conv => arg 2; whnf
  conv => arg 4; zeta
  subst h10 h14
  have s0 : (0 : Int) ≤ s := by omega
  have p0 : (0 : Int) ≤ q := by omega
  have s1 : (s : Int) ≤ ((s + o.length : Nat) : Int) := by omega
  have s2 : ((s + o.length : Nat) : Int) ≤ (c : Int) := by omega
  have z0 := cells_at (box_at HX.out HI.out HN.out) 0 _ rfl; have z1 := cells_at (box_at HX.out HI.out HN.out) 1 _ rfl; have z2 := cells_at (box_at HX.out HI.out HN.out) 2 _ rfl; have z3 := cells_at (box_at HX.out HI.out HN.out) 3 _ rfl; have z4 := cells_at (box_at HX.out HI.out HN.out) 4 _ rfl
  go_upto_region 41 with fail
  go_cut [150] from 145 to 156 (fun v150 wc => v150 = .bool (Sp.lf ⟨del, fol, skip, dbl, most⟩ r2) ∧ Aside0 (SI w1 wc b off D.size (mem D s o)))
  case first =>
    cases dbl with
    | false =>
      go_wp2_with fail
      go_meet
      case rel => exact ⟨rfl, HI⟩
    | true =>
      cases h10b : ((r2 : Int) == 10) with
      | true =>
        go_wp2_with fail
        go_meet
        case rel => exact ⟨by rw [lf_eq, h10b], HI⟩
      | false =>
        go_wp2_with fail
        go_meet
        case rel => exact ⟨by rw [lf_eq, h10b], HI⟩
  case rest =>
    obtain ⟨rfl, HI⟩ := hcut
    clear z0 z1 z2 z3 z4
    have z0 := cells_at (box_at HX.out HI.out HN.out) 0 _ rfl; have z1 := cells_at (box_at HX.out HI.out HN.out) 1 _ rfl; have z2 := cells_at (box_at HX.out HI.out HN.out) 2 _ rfl; have z3 := cells_at (box_at HX.out HI.out HN.out) 3 _ rfl; have z4 := cells_at (box_at HX.out HI.out HN.out) 4 _ rfl
    cases hlf2 : Sp.lf ⟨del, fol, skip, dbl, most⟩ r2 with
    | true =>
      cases n2 with
      | true =>
        go_wp2_with fail
        obtain rfl := (inner_1 hq HR2.out hsp2 hlf2).symm.trans HRI.out
        go_quiet (fail)
        go_wp2_with fail
        exact hret.out _ _ ⟨int_eq (by first | omega | (rw [wrap_ok (by omega) (by omega)]; omega) | (simp only [List.length_append, List.length_nil, seg_len] at * <;> first | omega | (rw [wrap_ok (by omega) (by omega)]; omega))), tok_eq (by first | omega | (rw [wrap_ok (by omega) (by omega)]; omega) | (simp only [List.length_append, List.length_nil, seg_len] at * <;> first | omega | (rw [wrap_ok (by omega) (by omega)]; omega))) (by omega), rfl, rfl⟩ ((si_res (si_up HK.out HI.out)).drew _)
      | false =>
        go_wp2_with fail
        exact hN.out _ _ _ _ _ _ _ _ _ _ _ _ _ _ _ _ _ _ _ (true) _ (by first | omega | (rw [wrap_ok (by omega) (by omega)]; omega) | (simp only [List.length_append, List.length_nil, seg_len] at * <;> first | omega | (rw [wrap_ok (by omega) (by omega)]; omega))) ⟨(inner_2 hq HR2.out hsp2 hlf2).symm.trans HRI.out⟩ HI
    | false =>
      go_wp2_with fail
      exact hN.out _ _ _ _ _ _ _ _ _ _ _ _ _ _ _ _ _ _ _ (n2) _ (by first | omega | (rw [wrap_ok (by omega) (by omega)]; omega) | (simp only [List.length_append, List.length_nil, seg_len] at * <;> first | omega | (rw [wrap_ok (by omega) (by omega)]; omega))) ⟨(inner_3 hq HR2.out hsp2 hlf2).symm.trans HRI.out⟩ HI

set_option maxHeartbeats 16000000 in
set_option maxRecDepth 100000 in
theorem signI (w w1 : World) (del fol : List Int) (skip dbl : Bool) (most : Int) (Ad Af : Option Addr) (cd cf b off c : Nat) (D : ByteArray) (hc : D.size ≤ c) (hn : D.size ≤ 1000000000000) (HX : Aside0 (w1.heap[w.heap.size]? = some (.cells (sv ⟨del, fol, skip, dbl, most⟩ Ad Af cd cf) 81 (0, 0)))) (HN : Aside0 (w.heap.size ≠ b)) (HK : Aside0 (Kp w w1 (fun x => x = b))) (HB : Aside0 (Base w b ⟨del, fol, skip, dbl, most⟩ Ad Af cd cf)) (HL : Aside0 (b < w1.heap.size)) (k8 s q sz2 r2 : Nat) (o : List Int) (n2 : Bool) (RI : Nat × List Int) (Q : Exit → Act → World → Prop) {v0 v2 v4 v5 v6 v7 v8 v11 v12 v15 v16 v17 v20 v21 v22 v23 v24 v25 v26 v27 v28 v29 v30 v31 v32 v33 v34 v35 v36 v37 v38 v39 v40 v41 v42 v43 v44 v45 v46 v47 v48 v49 v50 v51 v52 v53 v54 v55 v56 v57 v58 v59 v60 v61 v62 v63 v64 v65 v66 v67 v68 v69 v70 v71 v72 v73 v74 v75 v76 v77 v78 v79 v80 v81 v82 v83 v84 v85 v86 v87 v88 v89 v90 v91 v92 v93 v94 v95 v96 v97 v98 v99 v100 v101 v102 v103 v104 v105 v106 v107 v108 v109 v110 v111 v112 v113 v114 v115 v116 v117 v118 v119 v120 v121 v122 v123 v124 v125 v126 v127 v128 v129 v130 v131 v132 v133 v134 v135 v136 v137 v138 v139 v140 v142 v143 v144 v145 v146 v147 v148 v149 v150 v151 v152 v153 v154 v155 v156 v157 v158 v159 v160 v161 v162 v163 v164 v165 v166 v167 v168 v169 v170 v171 v172 v173 v174 v175 v176 v177 v178 v179 v180 v181 v182 v183 v184 v185 v186 v187 v188 v189 v190 v191 v192 v193 v194 v195 v196 v197 v198 v199 v200 v201 v202 v203 v204 v205 v206 v207 v208 v209 v210 v211 v212 v213 : Value} (e10 e14 : Int) (W : World) (h10 : e10 = ((s + o.length : Nat) : Int)) (h14 : e14 = (q : Int)) (m6 : D.size ≤ q + (k8 + 1)) (m8 : s + o.length ≤ q) (hq : q < D.size) (q4 : 1 ≤ sz2) (q5 : q + sz2 ≤ D.size) (q6 : r2 ≤ 1114111) (HR2 : Aside0 (rn D q = (r2, sz2))) (hsp2 : Sp.sp ⟨del, fol, skip, dbl, most⟩ r2 = false) (HRI : Aside0 (inner ⟨del, fol, skip, dbl, most⟩ D (k8 + 1 + 1) q o n2 = RI)) (HI : Aside0 (SI w1 W b off D.size (mem D s o)))
    (hE : Aside0 (∀ (n157 n158 n159 n160 n161 n162 n163 n164 n165 n166 n167 n168 n169 n170 n171 n172 n173 n174 n175 n176 n177 n178 n179 n180 n181 n182 n183 n184 n185 n186 n187 n188 n189 n20 : Value) (f10 f14 : Int) (W2 : World), f10 = ((s + o.length : Nat) : Int) → f14 = (q : Int) → RI = (q, o) → Aside0 (SI w1 W2 b off D.size (mem D s o)) → Q (.exit 5) ⟨#[v0, .slice (some ⟨b, off, none⟩) D.size c, v2, .pointer (some ⟨w.heap.size, 0, none⟩), v4, v5, v6, v7, v8, .int .i64 s, .int .i64 f10, v11, v12, .bool n2, .int .i64 f14, v15, v16, v17, .int .i32 r2, .int .i64 sz2, n20, v21, v22, v23, v24, v25, v26, v27, v28, v29, v30, v31, v32, v33, v34, v35, v36, v37, v38, v39, v40, v41, v42, v43, v44, v45, v46, v47, v48, v49, v50, v51, v52, v53, v54, v55, v56, v57, v58, v59, v60, v61, v62, v63, v64, v65, v66, v67, v68, v69, v70, v71, v72, v73, v74, v75, v76, v77, v78, v79, v80, v81, v82, v83, v84, v85, v86, v87, v88, v89, v90, v91, v92, v93, v94, v95, v96, v97, v98, v99, v100, v101, v102, v103, v104, v105, v106, v107, v108, v109, v110, v111, v112, v113, v114, v115, v116, v117, v118, v119, v120, v121, v122, v123, v124, v125, v126, v127, v128, v129, v130, v131, v132, v133, v134, v135, v136, v137, v138, v139, v140, .bool false, v142, v143, v144, v145, v146, v147, v148, v149, v150, v151, v152, v153, v154, v155, v156, n157, n158, n159, n160, n161, n162, n163, n164, n165, n166, n167, n168, n169, n170, n171, n172, n173, n174, n175, n176, n177, n178, n179, n180, n181, n182, n183, n184, n185, n186, n187, n188, n189, v190, v191, v192, v193, v194, v195, v196, v197, v198, v199, v200, v201, v202, v203, v204, v205, v206, v207, v208, v209, v210, v211, v212, v213], []⟩ W2))
    (hN : Aside0 (∀ (n157 n158 n159 n160 n161 n162 n163 n164 n165 n166 n167 n168 n169 n170 n171 n172 n173 n174 n175 n176 n177 n178 n179 n180 n181 n182 n183 n184 n185 n186 n187 n188 n189 n20 : Value) (f10 f14 : Int) (W2 : World), f10 = ((s + (o ++ seg D q sz2).length : Nat) : Int) → f14 = ((q + sz2 : Nat) : Int) → Aside0 (inner ⟨del, fol, skip, dbl, most⟩ D (k8 + 1) (q + sz2) (o ++ seg D q sz2) n2 = RI) → Aside0 (SI w1 W2 b off D.size (mem D s (o ++ seg D q sz2))) → Q .normal ⟨#[v0, .slice (some ⟨b, off, none⟩) D.size c, v2, .pointer (some ⟨w.heap.size, 0, none⟩), v4, v5, v6, v7, v8, .int .i64 s, .int .i64 f10, v11, v12, .bool n2, .int .i64 f14, v15, v16, v17, .int .i32 r2, .int .i64 sz2, n20, v21, v22, v23, v24, v25, v26, v27, v28, v29, v30, v31, v32, v33, v34, v35, v36, v37, v38, v39, v40, v41, v42, v43, v44, v45, v46, v47, v48, v49, v50, v51, v52, v53, v54, v55, v56, v57, v58, v59, v60, v61, v62, v63, v64, v65, v66, v67, v68, v69, v70, v71, v72, v73, v74, v75, v76, v77, v78, v79, v80, v81, v82, v83, v84, v85, v86, v87, v88, v89, v90, v91, v92, v93, v94, v95, v96, v97, v98, v99, v100, v101, v102, v103, v104, v105, v106, v107, v108, v109, v110, v111, v112, v113, v114, v115, v116, v117, v118, v119, v120, v121, v122, v123, v124, v125, v126, v127, v128, v129, v130, v131, v132, v133, v134, v135, v136, v137, v138, v139, v140, .bool false, v142, v143, v144, v145, v146, v147, v148, v149, v150, v151, v152, v153, v154, v155, v156, n157, n158, n159, n160, n161, n162, n163, n164, n165, n166, n167, n168, n169, n170, n171, n172, n173, n174, n175, n176, n177, n178, n179, n180, n181, n182, n183, n184, n185, n186, n187, n188, n189, v190, v191, v192, v193, v194, v195, v196, v197, v198, v199, v200, v201, v202, v203, v204, v205, v206, v207, v208, v209, v210, v211, v212, v213], []⟩ W2)) :
    Code.wp Tryd.prog ccond141 Q ⟨#[v0, .slice (some ⟨b, off, none⟩) D.size c, v2, .pointer (some ⟨w.heap.size, 0, none⟩), v4, v5, v6, v7, v8, .int .i64 s, .int .i64 e10, v11, v12, .bool n2, .int .i64 e14, v15, v16, v17, .int .i32 r2, .int .i64 sz2, v20, v21, v22, v23, v24, v25, v26, v27, v28, v29, v30, v31, v32, v33, v34, v35, v36, v37, v38, v39, v40, v41, v42, v43, v44, v45, v46, v47, v48, v49, v50, v51, v52, v53, v54, v55, v56, v57, v58, v59, v60, v61, v62, v63, v64, v65, v66, v67, v68, v69, v70, v71, v72, v73, v74, v75, v76, v77, v78, v79, v80, v81, v82, v83, v84, v85, v86, v87, v88, v89, v90, v91, v92, v93, v94, v95, v96, v97, v98, v99, v100, v101, v102, v103, v104, v105, v106, v107, v108, v109, v110, v111, v112, v113, v114, v115, v116, v117, v118, v119, v120, v121, v122, v123, v124, v125, v126, v127, v128, v129, v130, v131, v132, v133, v134, v135, v136, v137, v138, v139, v140, .bool false, v142, v143, v144, v145, v146, v147, v148, v149, v150, v151, v152, v153, v154, v155, v156, v157, v158, v159, v160, v161, v162, v163, v164, v165, v166, v167, v168, v169, v170, v171, v172, v173, v174, v175, v176, v177, v178, v179, v180, v181, v182, v183, v184, v185, v186, v187, v188, v189, v190, v191, v192, v193, v194, v195, v196, v197, v198, v199, v200, v201, v202, v203, v204, v205, v206, v207, v208, v209, v210, v211, v212, v213], []⟩ W := by
  conv => arg 2; whnf
  conv => arg 4; zeta
  subst h10 h14
  have s0 : (0 : Int) ≤ s := by omega
  have p0 : (0 : Int) ≤ q := by omega
  have s1 : (s : Int) ≤ ((s + o.length : Nat) : Int) := by omega
  have s2 : ((s + o.length : Nat) : Int) ≤ (c : Int) := by omega
  have z0 := cells_at (box_at HX.out HI.out HN.out) 0 _ rfl; have z1 := cells_at (box_at HX.out HI.out HN.out) 1 _ rfl; have z2 := cells_at (box_at HX.out HI.out HN.out) 2 _ rfl; have z3 := cells_at (box_at HX.out HI.out HN.out) 3 _ rfl; have z4 := cells_at (box_at HX.out HI.out HN.out) 4 _ rfl
  go_upto_region 45 with fail
  go_cut [164] from 157 to 189 (fun v164 wc => v164 = .bool (Sp.isD ⟨del, fol, skip, dbl, most⟩ r2 || Sp.isF ⟨del, fol, skip, dbl, most⟩ r2) ∧ Aside0 (SI w1 wc b off D.size (mem D s o)))
  case first =>
    cases hd : Sp.isD ⟨del, fol, skip, dbl, most⟩ r2 with
    | true =>
      go_wp2_with (go_at_call 52; refine (isD_calls' HB.out (si_up HK.out HI.out).kept _ _ hd).mono ?_; rintro _ W_ ⟨rfl, hB_⟩; have HI_ := Aside0.mk (HI.out.step hB_); clear hB_; clear HI z0 z1 z2 z3 z4; have HI := HI_; clear HI_; have z0 := cells_at (box_at HX.out HI.out HN.out) 0 _ rfl; have z1 := cells_at (box_at HX.out HI.out HN.out) 1 _ rfl; have z2 := cells_at (box_at HX.out HI.out HN.out) 2 _ rfl; have z3 := cells_at (box_at HX.out HI.out HN.out) 3 _ rfl; have z4 := cells_at (box_at HX.out HI.out HN.out) 4 _ rfl)
      go_meet
      case rel => exact ⟨by simp [hd], HI⟩
    | false =>
      cases hf : Sp.isF ⟨del, fol, skip, dbl, most⟩ r2 with
      | true =>
        go_wp2_with (first | (go_at_call 52; refine (isD_calls' HB.out (si_up HK.out HI.out).kept _ _ hd).mono ?_; rintro _ W_ ⟨rfl, hB_⟩; have HI_ := Aside0.mk (HI.out.step hB_); clear hB_; clear HI z0 z1 z2 z3 z4; have HI := HI_; clear HI_; have z0 := cells_at (box_at HX.out HI.out HN.out) 0 _ rfl; have z1 := cells_at (box_at HX.out HI.out HN.out) 1 _ rfl; have z2 := cells_at (box_at HX.out HI.out HN.out) 2 _ rfl; have z3 := cells_at (box_at HX.out HI.out HN.out) 3 _ rfl; have z4 := cells_at (box_at HX.out HI.out HN.out) 4 _ rfl) | (go_at_call 53; refine (isF_calls' HB.out (si_up HK.out HI.out).kept _ _ hf).mono ?_; rintro _ W_ ⟨rfl, hB_⟩; have HI_ := Aside0.mk (HI.out.step hB_); clear hB_; clear HI z0 z1 z2 z3 z4; have HI := HI_; clear HI_; have z0 := cells_at (box_at HX.out HI.out HN.out) 0 _ rfl; have z1 := cells_at (box_at HX.out HI.out HN.out) 1 _ rfl; have z2 := cells_at (box_at HX.out HI.out HN.out) 2 _ rfl; have z3 := cells_at (box_at HX.out HI.out HN.out) 3 _ rfl; have z4 := cells_at (box_at HX.out HI.out HN.out) 4 _ rfl))
        go_meet
        case rel => exact ⟨by simp [hd, hf], HI⟩
      | false =>
        go_wp2_with (first | (go_at_call 52; refine (isD_calls' HB.out (si_up HK.out HI.out).kept _ _ hd).mono ?_; rintro _ W_ ⟨rfl, hB_⟩; have HI_ := Aside0.mk (HI.out.step hB_); clear hB_; clear HI z0 z1 z2 z3 z4; have HI := HI_; clear HI_; have z0 := cells_at (box_at HX.out HI.out HN.out) 0 _ rfl; have z1 := cells_at (box_at HX.out HI.out HN.out) 1 _ rfl; have z2 := cells_at (box_at HX.out HI.out HN.out) 2 _ rfl; have z3 := cells_at (box_at HX.out HI.out HN.out) 3 _ rfl; have z4 := cells_at (box_at HX.out HI.out HN.out) 4 _ rfl) | (go_at_call 53; refine (isF_calls' HB.out (si_up HK.out HI.out).kept _ _ hf).mono ?_; rintro _ W_ ⟨rfl, hB_⟩; have HI_ := Aside0.mk (HI.out.step hB_); clear hB_; clear HI z0 z1 z2 z3 z4; have HI := HI_; clear HI_; have z0 := cells_at (box_at HX.out HI.out HN.out) 0 _ rfl; have z1 := cells_at (box_at HX.out HI.out HN.out) 1 _ rfl; have z2 := cells_at (box_at HX.out HI.out HN.out) 2 _ rfl; have z3 := cells_at (box_at HX.out HI.out HN.out) 3 _ rfl; have z4 := cells_at (box_at HX.out HI.out HN.out) 4 _ rfl))
        go_meet
        case rel => exact ⟨by simp [hd, hf], HI⟩
  case rest =>
    obtain ⟨rfl, HI⟩ := hcut
    clear z0 z1 z2 z3 z4
    cases hv : (Sp.isD ⟨del, fol, skip, dbl, most⟩ r2 || Sp.isF ⟨del, fol, skip, dbl, most⟩ r2) with
    | true =>
      go_upto_if 167 with fail
      refine copy167 w w1 del fol skip dbl most Ad Af cd cf b off c D hc hn HX HN HK HB HL s q sz2 o _ _ _ _ _ (by omega) rfl (by rfl) m8 q5 HI ⟨?_⟩
      intro n20 n168 n169 n170 n171 n172 n173 n174 n175 n176 n177 n178 n179 n180 n181 n182 n183 W2 HI
      go_wp2_with fail
      exact hN.out _ _ _ _ _ _ _ _ _ _ _ _ _ _ _ _ _ _ _ _ _ _ _ _ _ _ _ _ _ _ _ _ _ _ _ _ _ (by first | omega | (rw [wrap_ok (by omega) (by omega)]; omega) | (simp only [List.length_append, List.length_nil, seg_len] at * <;> first | omega | (rw [wrap_ok (by omega) (by omega)]; omega))) (by first | omega | (rw [wrap_ok (by omega) (by omega)]; omega) | (simp only [List.length_append, List.length_nil, seg_len] at * <;> first | omega | (rw [wrap_ok (by omega) (by omega)]; omega))) ⟨(inner_4 hq HR2.out hsp2 hv).symm.trans HRI.out⟩ HI
    | false =>
      go_wp2_with fail
      exact hE.out _ _ _ _ _ _ _ _ _ _ _ _ _ _ _ _ _ _ _ _ _ _ _ _ _ _ _ _ _ _ _ _ _ _ _ _ _ (by omega) rfl (HRI.out.symm.trans (inner_5 hq HR2.out hsp2 hv)) HI
end Go.Proofs.YtckdpckdabfkbabDoor.Scan
