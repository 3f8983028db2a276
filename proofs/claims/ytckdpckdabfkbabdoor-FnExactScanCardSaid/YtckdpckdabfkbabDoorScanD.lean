/- White space and line feeds of a scan. -/
import Derived.Test.YtckdpckdabfkbabDoorScanC
namespace Go.Proofs.YtckdpckdabfkbabDoor.Scan
open Go.RowKit Go.Proofs.YtckdpckdabfkbabDoorW.PrintWords Go.Proofs.YtckdpckdabfkbabDoor.Plain Go.Proofs.YtckdpckdabfkbabDoor.Num Go.Proofs.YtckdpckdabfkbabDoor.PC
set_option linter.unusedVariables false
set_option linter.unusedSimpArgs false

noncomputable def ccond44 : Code := pth [true, true, true, true, true, false, true, false, false, true, false, true, false, true] (Tryd.f37.body.getD .skip)
set_option maxHeartbeats 16000000 in
set_option maxRecDepth 100000 in
theorem spaceA (w w1 : World) (del fol : List Int) (skip dbl : Bool) (most : Int) (Ad Af : Option Addr) (cd cf b off c : Nat) (D : ByteArray) (hc : D.size ≤ c) (hn : D.size ≤ 1000000000000) (HX : Aside0 (w1.heap[w.heap.size]? = some (.cells (sv ⟨del, fol, skip, dbl, most⟩ Ad Af cd cf) 81 (0, 0)))) (HN : Aside0 (w.heap.size ≠ b)) (HK : Aside0 (Kp w w1 (fun x => x = b))) (HB : Aside0 (Base w b ⟨del, fol, skip, dbl, most⟩ Ad Af cd cf)) (HL : Aside0 (b < w1.heap.size)) (fin : Bool) (k9 s p sz r cnt : Nat) (out : List Int) (head nn : Bool) (R : Res) (Q : Exit → Act → World → Prop) {v0 v2 v4 v5 v6 v7 v8 v17 v18 v19 v20 v21 v22 v23 v24 v25 v26 v27 v28 v29 v30 v31 v32 v33 v34 v35 v36 v37 v38 v39 v40 v41 v42 v43 v45 v46 v47 v48 v49 v50 v51 v52 v53 v54 v55 v56 v57 v58 v59 v60 v61 v62 v63 v64 v65 v66 v67 v68 v69 v70 v71 v72 v73 v74 v75 v76 v77 v78 v79 v80 v81 v82 v83 v84 v85 v86 v87 v88 v89 v90 v91 v92 v93 v94 v95 v96 v97 v98 v99 v100 v101 v102 v103 v104 v105 v106 v107 v108 v109 v110 v111 v112 v113 v114 v115 v116 v117 v118 v119 v120 v121 v122 v123 v124 v125 v126 v127 v128 v129 v130 v131 v132 v133 v134 v135 v136 v137 v138 v139 v140 v141 v142 v143 v144 v145 v146 v147 v148 v149 v150 v151 v152 v153 v154 v155 v156 v157 v158 v159 v160 v161 v162 v163 v164 v165 v166 v167 v168 v169 v170 v171 v172 v173 v174 v175 v176 v177 v178 v179 v180 v181 v182 v183 v184 v185 v186 v187 v188 v189 v190 v191 v192 v193 v194 v195 v196 v197 v198 v199 v200 v201 v202 v203 v204 v205 v206 v207 v208 v209 v210 v211 v212 v213 : Value} (e10 e14 : Int) (W : World) (h10 : e10 = ((s + out.length : Nat) : Int)) (h14 : e14 = (p : Int)) (m1 : D.size ≤ p + (k9 + 1)) (m3 : s + out.length ≤ p) (m4 : cnt ≤ p) (m5 : head = true → out = []) (hp : p < D.size) (q1 : 1 ≤ sz) (q2 : p + sz ≤ D.size) (q3 : r ≤ 1114111) (HRS : Aside0 (rn D p = (r, sz))) (hsp : Sp.sp ⟨del, fol, skip, dbl, most⟩ r = true) (HR : Aside0 (outer ⟨del, fol, skip, dbl, most⟩ D fin (k9 + 1 + 1) p s out cnt head nn = R)) (HI : Aside0 (SI w1 W b off D.size (mem D s out)))
    (hret : Aside0 (∀ a2 W2, Ret R b off c a2 → SI w W2 b off D.size (Res.mem D R) → Q .ret a2 W2))
    (hx : Aside0 (∀ (n45 n46 n47 n48 n49 n50 n51 n52 n53 n54 n55 n56 n57 n58 n59 n60 n61 n62 n63 n64 n65 n66 n67 n68 n69 n70 n71 n72 n73 n74 n75 n6 n7 n8 : Value) (f9 f10 f14 : Int) (p2 s2 : Nat) (out2 : List Int) (head2 nn2 : Bool) (W2 : World), f9 = (s2 : Int) → f10 = ((s2 + out2.length : Nat) : Int) → f14 = (p2 : Int) → Aside0 (D.size ≤ p2 + k9 ∧ p2 ≤ D.size ∧ s2 + out2.length ≤ p2 ∧ cnt ≤ p2 ∧ (head2 = true → out2 = [])) → Aside0 (outer ⟨del, fol, skip, dbl, most⟩ D fin (k9 + 1) p2 s2 out2 cnt head2 nn2 = R) → Aside0 (SI w1 W2 b off D.size (mem D s2 out2)) → Q (.exit 1) ⟨#[v0, .slice (some ⟨b, off, none⟩) D.size c, v2, .pointer (some ⟨w.heap.size, 0, none⟩), v4, v5, n6, n7, n8, .int .i64 f9, .int .i64 f10, .int .i64 cnt, .bool head2, .bool nn2, .int .i64 f14, .int .i32 r, .int .i64 sz, v17, v18, v19, v20, v21, v22, v23, v24, v25, v26, v27, v28, v29, v30, v31, v32, v33, v34, v35, v36, v37, v38, v39, v40, v41, v42, v43, .bool true, n45, n46, n47, n48, n49, n50, n51, n52, n53, n54, n55, n56, n57, n58, n59, n60, n61, n62, n63, n64, n65, n66, n67, n68, n69, n70, n71, n72, n73, n74, n75, v76, v77, v78, v79, v80, v81, v82, v83, v84, v85, v86, v87, v88, v89, v90, v91, v92, v93, v94, v95, v96, v97, v98, v99, v100, v101, v102, v103, v104, v105, v106, v107, v108, v109, v110, v111, v112, v113, v114, v115, v116, v117, v118, v119, v120, v121, v122, v123, v124, v125, v126, v127, v128, v129, v130, v131, v132, v133, v134, v135, v136, v137, v138, v139, v140, v141, v142, v143, v144, v145, v146, v147, v148, v149, v150, v151, v152, v153, v154, v155, v156, v157, v158, v159, v160, v161, v162, v163, v164, v165, v166, v167, v168, v169, v170, v171, v172, v173, v174, v175, v176, v177, v178, v179, v180, v181, v182, v183, v184, v185, v186, v187, v188, v189, v190, v191, v192, v193, v194, v195, v196, v197, v198, v199, v200, v201, v202, v203, v204, v205, v206, v207, v208, v209, v210, v211, v212, v213], []⟩ W2)) :
    Code.wp Tryd.prog ccond44 Q ⟨#[v0, .slice (some ⟨b, off, none⟩) D.size c, v2, .pointer (some ⟨w.heap.size, 0, none⟩), v4, v5, v6, v7, v8, .int .i64 s, .int .i64 e10, .int .i64 cnt, .bool head, .bool nn, .int .i64 e14, .int .i32 r, .int .i64 sz, v17, v18, v19, v20, v21, v22, v23, v24, v25, v26, v27, v28, v29, v30, v31, v32, v33, v34, v35, v36, v37, v38, v39, v40, v41, v42, v43, .bool true, v45, v46, v47, v48, v49, v50, v51, v52, v53, v54, v55, v56, v57, v58, v59, v60, v61, v62, v63, v64, v65, v66, v67, v68, v69, v70, v71, v72, v73, v74, v75, v76, v77, v78, v79, v80, v81, v82, v83, v84, v85, v86, v87, v88, v89, v90, v91, v92, v93, v94, v95, v96, v97, v98, v99, v100, v101, v102, v103, v104, v105, v106, v107, v108, v109, v110, v111, v112, v113, v114, v115, v116, v117, v118, v119, v120, v121, v122, v123, v124, v125, v126, v127, v128, v129, v130, v131, v132, v133, v134, v135, v136, v137, v138, v139, v140, v141, v142, v143, v144, v145, v146, v147, v148, v149, v150, v151, v152, v153, v154, v155, v156, v157, v158, v159, v160, v161, v162, v163, v164, v165, v166, v167, v168, v169, v170, v171, v172, v173, v174, v175, v176, v177, v178, v179, v180, v181, v182, v183, v184, v185, v186, v187, v188, v189, v190, v191, v192, v193, v194, v195, v196, v197, v198, v199, v200, v201, v202, v203, v204, v205, v206, v207, v208, v209, v210, v211, v212, v213], []⟩ W := by
  conv => arg 2; whnf
  conv => arg 4; zeta
  subst h10 h14
  have s0 : (0 : Int) ≤ s := by omega
  have p0 : (0 : Int) ≤ p := by omega
  have s1 : (s : Int) ≤ ((s + out.length : Nat) : Int) := by omega
  have s2 : ((s + out.length : Nat) : Int) ≤ (c : Int) := by omega
  have z0 := cells_at (box_at HX.out HI.out HN.out) 0 _ rfl; have z1 := cells_at (box_at HX.out HI.out HN.out) 1 _ rfl; have z2 := cells_at (box_at HX.out HI.out HN.out) 2 _ rfl; have z3 := cells_at (box_at HX.out HI.out HN.out) 3 _ rfl; have z4 := cells_at (box_at HX.out HI.out HN.out) 4 _ rfl
  cases head with
  | true =>
    obtain rfl := m5 rfl
    go_wp2_with fail
    exact hx.out _ _ _ _ _ _ _ _ _ _ _ _ _ _ _ _ _ _ _ _ _ _ _ _ _ _ _ _ _ _ _ _ _ _ _ _ _ (p + sz) (p + sz) ([]) (true) (nn) _ (by first | omega | (rw [wrap_ok (by omega) (by omega)]; omega) | (simp only [List.length_append, List.length_nil, seg_len] at * <;> first | omega | (rw [wrap_ok (by omega) (by omega)]; omega))) (by first | omega | (rw [wrap_ok (by omega) (by omega)]; omega) | (simp only [List.length_append, List.length_nil, seg_len] at * <;> first | omega | (rw [wrap_ok (by omega) (by omega)]; omega))) (by first | omega | (rw [wrap_ok (by omega) (by omega)]; omega) | (simp only [List.length_append, List.length_nil, seg_len] at * <;> first | omega | (rw [wrap_ok (by omega) (by omega)]; omega))) ⟨by (try simp only [List.length_nil]); refine ⟨?_, ?_, ?_, ?_, ?_⟩ <;> first | omega | simp⟩ ⟨(outer_a1 hp HRS.out hsp).symm.trans HR.out⟩ ⟨HI.out.nil⟩
  | false =>
    cases hd : Sp.isD ⟨del, fol, skip, dbl, most⟩ r with
    | true =>
      go_wp2_with (go_at_call 52; refine (isD_calls' HB.out (si_up HK.out HI.out).kept _ _ hd).mono ?_; rintro _ W_ ⟨rfl, hB_⟩; have HI_ := Aside0.mk (HI.out.step hB_); clear hB_; clear HI z0 z1 z2 z3 z4; have HI := HI_; clear HI_; have z0 := cells_at (box_at HX.out HI.out HN.out) 0 _ rfl; have z1 := cells_at (box_at HX.out HI.out HN.out) 1 _ rfl; have z2 := cells_at (box_at HX.out HI.out HN.out) 2 _ rfl; have z3 := cells_at (box_at HX.out HI.out HN.out) 3 _ rfl; have z4 := cells_at (box_at HX.out HI.out HN.out) 4 _ rfl)
      obtain rfl := (outer_a2 hp HRS.out hsp hd).symm.trans HR.out
      go_quiet (fail)
      go_wp2_with fail
      exact hret.out _ _ ⟨int_eq (by first | omega | (rw [wrap_ok (by omega) (by omega)]; omega) | (simp only [List.length_append, List.length_nil, seg_len] at * <;> first | omega | (rw [wrap_ok (by omega) (by omega)]; omega))), tok_eq (by first | omega | (rw [wrap_ok (by omega) (by omega)]; omega) | (simp only [List.length_append, List.length_nil, seg_len] at * <;> first | omega | (rw [wrap_ok (by omega) (by omega)]; omega))) (by omega), rfl, rfl⟩ ((si_res (si_up HK.out HI.out)).drew _)
    | false =>
      go_upto_region 15 with (go_at_call 52; refine (isD_calls' HB.out (si_up HK.out HI.out).kept _ _ hd).mono ?_; rintro _ W_ ⟨rfl, hB_⟩; have HI_ := Aside0.mk (HI.out.step hB_); clear hB_; clear HI z0 z1 z2 z3 z4; have HI := HI_; clear HI_; have z0 := cells_at (box_at HX.out HI.out HN.out) 0 _ rfl; have z1 := cells_at (box_at HX.out HI.out HN.out) 1 _ rfl; have z2 := cells_at (box_at HX.out HI.out HN.out) 2 _ rfl; have z3 := cells_at (box_at HX.out HI.out HN.out) 3 _ rfl; have z4 := cells_at (box_at HX.out HI.out HN.out) 4 _ rfl)
      go_cut [61] from 45 to 75 (fun v61 wc => v61 = .bool (Sp.lf ⟨del, fol, skip, dbl, most⟩ r) ∧ Aside0 (SI w1 wc b off D.size (mem D s out)))
      case first =>
        cases dbl with
        | false =>
          go_wp2_with fail
          go_meet
          case rel => exact ⟨rfl, HI⟩
        | true =>
          cases h10b : ((r : Int) == 10) with
          | true =>
            go_wp2_with fail
            go_meet
            case rel => exact ⟨by rw [lf_eq, h10b], HI⟩
          | false =>
            go_wp2_with fail
            go_meet
            case rel => exact ⟨by rw [lf_eq, h10b], HI⟩
      case rest =>
        obtain ⟨rfl, HI⟩ := hcut
        clear z0 z1 z2 z3 z4
        have z0 := cells_at (box_at HX.out HI.out HN.out) 0 _ rfl; have z1 := cells_at (box_at HX.out HI.out HN.out) 1 _ rfl; have z2 := cells_at (box_at HX.out HI.out HN.out) 2 _ rfl; have z3 := cells_at (box_at HX.out HI.out HN.out) 3 _ rfl; have z4 := cells_at (box_at HX.out HI.out HN.out) 4 _ rfl
        cases hlf : Sp.lf ⟨del, fol, skip, dbl, most⟩ r with
        | true =>
          cases nn with
          | true =>
            go_wp2_with fail
            obtain rfl := (outer_a3 hp HRS.out hsp hd hlf).symm.trans HR.out
            go_quiet (fail)
            go_wp2_with fail
            exact hret.out _ _ ⟨int_eq (by first | omega | (rw [wrap_ok (by omega) (by omega)]; omega) | (simp only [List.length_append, List.length_nil, seg_len] at * <;> first | omega | (rw [wrap_ok (by omega) (by omega)]; omega))), tok_eq (by first | omega | (rw [wrap_ok (by omega) (by omega)]; omega) | (simp only [List.length_append, List.length_nil, seg_len] at * <;> first | omega | (rw [wrap_ok (by omega) (by omega)]; omega))) (by omega), rfl, rfl⟩ ((si_res (si_up HK.out HI.out)).drew _)
          | false =>
            go_wp2_with fail
            exact hx.out _ _ _ _ _ _ _ _ _ _ _ _ _ _ _ _ _ _ _ _ _ _ _ _ _ _ _ _ _ _ _ _ _ _ _ _ _ (p + sz) (s) (out) (false) (true) _ (by first | omega | (rw [wrap_ok (by omega) (by omega)]; omega) | (simp only [List.length_append, List.length_nil, seg_len] at * <;> first | omega | (rw [wrap_ok (by omega) (by omega)]; omega))) (by first | omega | (rw [wrap_ok (by omega) (by omega)]; omega) | (simp only [List.length_append, List.length_nil, seg_len] at * <;> first | omega | (rw [wrap_ok (by omega) (by omega)]; omega))) (by first | omega | (rw [wrap_ok (by omega) (by omega)]; omega) | (simp only [List.length_append, List.length_nil, seg_len] at * <;> first | omega | (rw [wrap_ok (by omega) (by omega)]; omega))) ⟨by (try simp only [List.length_nil]); refine ⟨?_, ?_, ?_, ?_, ?_⟩ <;> first | omega | simp⟩ ⟨(outer_a4 hp HRS.out hsp hd hlf).symm.trans HR.out⟩ HI
        | false =>
          cases nn with
          | true =>
            go_wp2_with fail
            exact hx.out _ _ _ _ _ _ _ _ _ _ _ _ _ _ _ _ _ _ _ _ _ _ _ _ _ _ _ _ _ _ _ _ _ _ _ _ _ (p + sz) (s) (out) (false) (false) _ (by first | omega | (rw [wrap_ok (by omega) (by omega)]; omega) | (simp only [List.length_append, List.length_nil, seg_len] at * <;> first | omega | (rw [wrap_ok (by omega) (by omega)]; omega))) (by first | omega | (rw [wrap_ok (by omega) (by omega)]; omega) | (simp only [List.length_append, List.length_nil, seg_len] at * <;> first | omega | (rw [wrap_ok (by omega) (by omega)]; omega))) (by first | omega | (rw [wrap_ok (by omega) (by omega)]; omega) | (simp only [List.length_append, List.length_nil, seg_len] at * <;> first | omega | (rw [wrap_ok (by omega) (by omega)]; omega))) ⟨by (try simp only [List.length_nil]); refine ⟨?_, ?_, ?_, ?_, ?_⟩ <;> first | omega | simp⟩ ⟨(outer_a5 hp HRS.out hsp hd hlf).symm.trans HR.out⟩ HI
          | false =>
            go_wp2_with fail
            exact hx.out _ _ _ _ _ _ _ _ _ _ _ _ _ _ _ _ _ _ _ _ _ _ _ _ _ _ _ _ _ _ _ _ _ _ _ _ _ (p + sz) (s) (out) (false) (false) _ (by first | omega | (rw [wrap_ok (by omega) (by omega)]; omega) | (simp only [List.length_append, List.length_nil, seg_len] at * <;> first | omega | (rw [wrap_ok (by omega) (by omega)]; omega))) (by first | omega | (rw [wrap_ok (by omega) (by omega)]; omega) | (simp only [List.length_append, List.length_nil, seg_len] at * <;> first | omega | (rw [wrap_ok (by omega) (by omega)]; omega))) (by first | omega | (rw [wrap_ok (by omega) (by omega)]; omega) | (simp only [List.length_append, List.length_nil, seg_len] at * <;> first | omega | (rw [wrap_ok (by omega) (by omega)]; omega))) ⟨by (try simp only [List.length_nil]); refine ⟨?_, ?_, ?_, ?_, ?_⟩ <;> first | omega | simp⟩ ⟨(outer_a5 hp HRS.out hsp hd hlf).symm.trans HR.out⟩ HI

noncomputable def ccond108 : Code := pth [true, true, true, true, true, false, true, false, false, true, false, true, true, true, true, true, true, true, false, true] (Tryd.f37.body.getD .skip)
set_option maxHeartbeats 16000000 in
set_option maxRecDepth 100000 in
theorem feedL (w w1 : World) (del fol : List Int) (skip dbl : Bool) (most : Int) (Ad Af : Option Addr) (cd cf b off c : Nat) (D : ByteArray) (hc : D.size ≤ c) (hn : D.size ≤ 1000000000000) (HX : Aside0 (w1.heap[w.heap.size]? = some (.cells (sv ⟨del, fol, skip, dbl, most⟩ Ad Af cd cf) 81 (0, 0)))) (HN : Aside0 (w.heap.size ≠ b)) (HK : Aside0 (Kp w w1 (fun x => x = b))) (HB : Aside0 (Base w b ⟨del, fol, skip, dbl, most⟩ Ad Af cd cf)) (HL : Aside0 (b < w1.heap.size)) (s q : Nat) (o : List Int) (lf nn : Bool) (R : Res) (Q : Exit → Act → World → Prop) {v0 v2 v4 v5 v6 v7 v8 v11 v12 v15 v16 v17 v18 v19 v20 v21 v22 v23 v24 v25 v26 v27 v28 v29 v30 v31 v32 v33 v34 v35 v36 v37 v38 v39 v40 v41 v42 v43 v44 v45 v46 v47 v48 v49 v50 v51 v52 v53 v54 v55 v56 v57 v58 v59 v60 v61 v62 v63 v64 v65 v66 v67 v68 v69 v70 v71 v72 v73 v74 v75 v76 v77 v78 v79 v80 v81 v82 v83 v84 v85 v86 v87 v88 v89 v90 v91 v92 v93 v94 v95 v96 v97 v98 v99 v100 v101 v102 v103 v104 v105 v106 v107 v109 v110 v111 v112 v113 v114 v115 v116 v117 v118 v119 v120 v121 v122 v123 v124 v125 v126 v127 v128 v129 v130 v131 v132 v133 v134 v135 v136 v137 v138 v139 v140 v141 v142 v143 v144 v145 v146 v147 v148 v149 v150 v151 v152 v153 v154 v155 v156 v157 v158 v159 v160 v161 v162 v163 v164 v165 v166 v167 v168 v169 v170 v171 v172 v173 v174 v175 v176 v177 v178 v179 v180 v181 v182 v183 v184 v185 v186 v187 v188 v189 v190 v191 v192 v193 v194 v195 v196 v197 v198 v199 v200 v201 v202 v203 v204 v205 v206 v207 v208 v209 v210 v211 v212 v213 : Value} (e10 e14 : Int) (W : World) (h10 : e10 = ((s + o.length : Nat) : Int)) (h14 : e14 = (q : Int)) (m3 : s + o.length ≤ q) (m4 : s < D.size) (m5 : q ≤ D.size) (hR : lf = true → nn = true → (⟨q, true, s, o⟩ : Res) = R) (HI : Aside0 (SI w1 W b off D.size (mem D s o)))
    (hret : Aside0 (∀ a2 W2, Ret R b off c a2 → SI w W2 b off D.size (Res.mem D R) → Q .ret a2 W2))
    (hN : Aside0 (∀ (n109 n110 n111 n112 n113 n114 n6 n7 n8 : Value) (W2 : World), (lf && nn) = false → Aside0 (SI w1 W2 b off D.size (mem D s o)) → Q .normal ⟨#[v0, .slice (some ⟨b, off, none⟩) D.size c, v2, .pointer (some ⟨w.heap.size, 0, none⟩), v4, v5, n6, n7, n8, .int .i64 s, .int .i64 e10, v11, v12, .bool (lf || nn), .int .i64 e14, v15, v16, v17, v18, v19, v20, v21, v22, v23, v24, v25, v26, v27, v28, v29, v30, v31, v32, v33, v34, v35, v36, v37, v38, v39, v40, v41, v42, v43, v44, v45, v46, v47, v48, v49, v50, v51, v52, v53, v54, v55, v56, v57, v58, v59, v60, v61, v62, v63, v64, v65, v66, v67, v68, v69, v70, v71, v72, v73, v74, v75, v76, v77, v78, v79, v80, v81, v82, v83, v84, v85, v86, v87, v88, v89, v90, v91, v92, v93, v94, v95, v96, v97, v98, v99, v100, v101, v102, v103, v104, v105, v106, v107, .bool lf, n109, n110, n111, n112, n113, n114, v115, v116, v117, v118, v119, v120, v121, v122, v123, v124, v125, v126, v127, v128, v129, v130, v131, v132, v133, v134, v135, v136, v137, v138, v139, v140, v141, v142, v143, v144, v145, v146, v147, v148, v149, v150, v151, v152, v153, v154, v155, v156, v157, v158, v159, v160, v161, v162, v163, v164, v165, v166, v167, v168, v169, v170, v171, v172, v173, v174, v175, v176, v177, v178, v179, v180, v181, v182, v183, v184, v185, v186, v187, v188, v189, v190, v191, v192, v193, v194, v195, v196, v197, v198, v199, v200, v201, v202, v203, v204, v205, v206, v207, v208, v209, v210, v211, v212, v213], []⟩ W2)) :
    Code.wp Tryd.prog ccond108 Q ⟨#[v0, .slice (some ⟨b, off, none⟩) D.size c, v2, .pointer (some ⟨w.heap.size, 0, none⟩), v4, v5, v6, v7, v8, .int .i64 s, .int .i64 e10, v11, v12, .bool nn, .int .i64 e14, v15, v16, v17, v18, v19, v20, v21, v22, v23, v24, v25, v26, v27, v28, v29, v30, v31, v32, v33, v34, v35, v36, v37, v38, v39, v40, v41, v42, v43, v44, v45, v46, v47, v48, v49, v50, v51, v52, v53, v54, v55, v56, v57, v58, v59, v60, v61, v62, v63, v64, v65, v66, v67, v68, v69, v70, v71, v72, v73, v74, v75, v76, v77, v78, v79, v80, v81, v82, v83, v84, v85, v86, v87, v88, v89, v90, v91, v92, v93, v94, v95, v96, v97, v98, v99, v100, v101, v102, v103, v104, v105, v106, v107, .bool lf, v109, v110, v111, v112, v113, v114, v115, v116, v117, v118, v119, v120, v121, v122, v123, v124, v125, v126, v127, v128, v129, v130, v131, v132, v133, v134, v135, v136, v137, v138, v139, v140, v141, v142, v143, v144, v145, v146, v147, v148, v149, v150, v151, v152, v153, v154, v155, v156, v157, v158, v159, v160, v161, v162, v163, v164, v165, v166, v167, v168, v169, v170, v171, v172, v173, v174, v175, v176, v177, v178, v179, v180, v181, v182, v183, v184, v185, v186, v187, v188, v189, v190, v191, v192, v193, v194, v195, v196, v197, v198, v199, v200, v201, v202, v203, v204, v205, v206, v207, v208, v209, v210, v211, v212, v213], []⟩ W := by
  conv => arg 2; whnf
  conv => arg 4; zeta
  subst h10 h14
  have s0 : (0 : Int) ≤ s := by omega
  have p0 : (0 : Int) ≤ q := by omega
  have s1 : (s : Int) ≤ ((s + o.length : Nat) : Int) := by omega
  have s2 : ((s + o.length : Nat) : Int) ≤ (c : Int) := by omega
  cases lf with
  | true =>
    cases nn with
    | true =>
      obtain rfl := hR rfl rfl
      clear hN
      go_wp2_with fail
      go_quiet (fail)
      go_wp2_with fail
      exact hret.out _ _ ⟨int_eq (by first | omega | (rw [wrap_ok (by omega) (by omega)]; omega) | (simp only [List.length_append, List.length_nil, seg_len] at * <;> first | omega | (rw [wrap_ok (by omega) (by omega)]; omega))), tok_eq (by first | omega | (rw [wrap_ok (by omega) (by omega)]; omega) | (simp only [List.length_append, List.length_nil, seg_len] at * <;> first | omega | (rw [wrap_ok (by omega) (by omega)]; omega))) (by omega), rfl, rfl⟩ ((si_res (si_up HK.out HI.out)).drew _)
    | false =>
      go_wp2_with fail
      exact hN.out _ _ _ _ _ _ _ _ _ _ rfl HI
  | false =>
    go_wp2_with fail
    exact hN.out _ _ _ _ _ _ _ _ _ _ rfl HI
end Go.Proofs.YtckdpckdabfkbabDoor.Scan
