/- The walks over tries and what they compute: part 5 of several, put together by a program. -/
import Derived.Test.YtaejkbjepbifcabGreatDoorP4
import Derived.Deep.Cut
import Derived.Sort.WalkA14
import Derived.Maps.RangeWalk
import Derived.Maps.OwnSet
import Derived.Deep.DeepMust
import Derived.Outline
import Derived.Test.YtaejkbjepbifcabGreatDoorRows
import Derived.LaidLaws
import Derived.LaidMore
import Derived.Stop.ErrReads
import Derived.RowKitTokens
import Derived.Test.YtaejkbjepbifcabGreatDoorP3
import Derived.Test.YtaejkbjepbifcabGreatDoorP0
import Derived.Test.YtaejkbjepbifcabGreatDoorP1
import Derived.Test.YtaejkbjepbifcabGreatDoorP2
namespace Go.Proofs.YtaejkbjepbifcabGreatDoor.So
open Go.RowKit Go.Proofs.YtaejkbjepbifcabGreatDoorW.PrintWords Go.Proofs.YtaejkbjepbifcabGreatDoor.Da
set_option linter.unusedVariables false
set_option linter.unusedSimpArgs false
noncomputable def pi1C : Code := pth [true, true, false, true, false, false, true, false, false, false, false] (Tryz.f86.body.getD .skip)
set_option maxHeartbeats 16000000 in
set_option maxRecDepth 100000 in
theorem pi1 (W w : World) (g n c a b i : Nat) (l0 l : List Int) (HS : Aside0 (SrtE W w g n l0 l)) (hn : n ≤ 1000000000) (HA : Aside0 (a < i ∧ i ≤ b ∧ b ≤ n)) {Q : Exit → Act → World → Prop} {v3 v4 v5 v6 v8 v9 v10 v11 v12 v13 v14 v15 v16 v17 v18 v19 v20 v21 v22 v23 v24 v25 v26 v27 v28 v29 v30 v31 v32 v33 v34 v35 v36 v37 v38 v39 v40 v41 v42 v43 v44 v45 v46 v47 v48 v49 v50 v51 v52 v53 v54 v55 v56 v57 v58 v59 v60 v61 v62 v63 v64 v65 v66 v67 v68 v69 v70 v71 v72 v73 v74 v75 v76 v77 v78 v79 v80 v81 v82 v83 v84 v85 v86 v87 v88 v89 v90 v91 v92 v93 v94 v95 v96 v97 v98 v99 v100 v101 v102 v103 v104 v105 v106 v107 v108 v109 v110 v111 v112 v113 v114 v115 v116 v117 v118 v119 v120 v121 v122 v123 v124 v125 v126 v127 v128 v129 v130 v131 v132 : Value}
    (hN : Aside0 (∀ (n17 n18 n19 n20 n21 n22 n23 n24 n25 n26 n27 n28 n29 n30 n31 n32 n33 n34 : Value) (i' : Nat) (w' : World), Aside0 (i ≤ i' ∧ i' ≤ b) → Aside0 (SrtE W w' g n l0 l) → Q (.exit 2) ⟨#[.slice (some ⟨g, 0, none⟩) n c, .int .i64 (a : Int), .int .i64 (b : Int), v3, v4, v5, v6, .int .i64 (i' : Int), v8, v9, v10, v11, v12, v13, v14, v15, v16, n17, n18, n19, n20, n21, n22, n23, n24, n25, n26, n27, n28, n29, n30, n31, n32, n33, n34, v35, v36, v37, v38, v39, v40, v41, v42, v43, v44, v45, v46, v47, v48, v49, v50, v51, v52, v53, v54, v55, v56, v57, v58, v59, v60, v61, v62, v63, v64, v65, v66, v67, v68, v69, v70, v71, v72, v73, v74, v75, v76, v77, v78, v79, v80, v81, v82, v83, v84, v85, v86, v87, v88, v89, v90, v91, v92, v93, v94, v95, v96, v97, v98, v99, v100, v101, v102, v103, v104, v105, v106, v107, v108, v109, v110, v111, v112, v113, v114, v115, v116, v117, v118, v119, v120, v121, v122, v123, v124, v125, v126, v127, v128, v129, v130, v131, v132], []⟩ w')) :
    Code.wp Tryz.prog pi1C Q ⟨#[.slice (some ⟨g, 0, none⟩) n c, .int .i64 (a : Int), .int .i64 (b : Int), v3, v4, v5, v6, .int .i64 (i : Int), v8, v9, v10, v11, v12, v13, v14, v15, v16, v17, v18, v19, v20, v21, v22, v23, v24, v25, v26, v27, v28, v29, v30, v31, v32, v33, v34, v35, v36, v37, v38, v39, v40, v41, v42, v43, v44, v45, v46, v47, v48, v49, v50, v51, v52, v53, v54, v55, v56, v57, v58, v59, v60, v61, v62, v63, v64, v65, v66, v67, v68, v69, v70, v71, v72, v73, v74, v75, v76, v77, v78, v79, v80, v81, v82, v83, v84, v85, v86, v87, v88, v89, v90, v91, v92, v93, v94, v95, v96, v97, v98, v99, v100, v101, v102, v103, v104, v105, v106, v107, v108, v109, v110, v111, v112, v113, v114, v115, v116, v117, v118, v119, v120, v121, v122, v123, v124, v125, v126, v127, v128, v129, v130, v131, v132], []⟩ w := by
  conv => arg 2; whnf
  conv => arg 4; zeta
  go_loopg [7] (b - i) (fun kq v7 w' => ∃ (i' : Nat), v7 = .int .i64 (i' : Int) ∧ Aside0 (i ≤ i' ∧ i' ≤ b) ∧ Aside0 (i' + kq = b) ∧ Aside0 (SrtE W w' g n l0 l))
  case atStart => exact ⟨i, rfl, ⟨by have := HA.out; omega⟩, ⟨by have := HA.out; omega⟩, HS⟩
  case round =>
    clear HS
    obtain ⟨i', rfl, HF, HM, HS⟩ := hrel
    by_cases hib : i' < b
    · have hibz : (i' : Int) < (b : Int) := by omega
      have hibb : decide ((i' : Int) < (b : Int)) = true := decide_eq_true hibz
      have hin : i' < n := by have := HA.out; omega
      obtain ⟨j1, hj1, hjw⟩ := rev_nums i' (by have := HA.out; have := HF.out; omega) (by omega)
      have hjy : IntKind.i64.wrap ((i' : Int) - 1) = (j1 : Int) := (iw _).trans hjw
      have hjn : j1 < n := by omega
      have y0 := HS.out.row.cell i' hin
      obtain ⟨x0, hx0⟩ : ∃ x, l.getD i' 0 = x := ⟨_, rfl⟩
      rw [hx0] at y0
      have f0 := HS.out.row.froz i'
      have y1 := HS.out.row.cell j1 hjn
      obtain ⟨x1, hx1⟩ : ∃ x, l.getD j1 0 = x := ⟨_, rfl⟩
      rw [hx1] at y1
      have f1 := HS.out.row.froz j1
      clear hj1
      by_cases hl : x0 < x1
      · have hlb : decide (x0 < x1) = true := decide_eq_true hl
        go_upto_region 5 with fail
        go_quiet (first | (go_at_call 87; refine Calls.quiet_of_same (less32 _ _ _)))
        go_wp2_with fail
        exact hN.out _ _ _ _ _ _ _ _ _ _ _ _ _ _ _ _ _ _ i' _ HF ⟨HS.out.drewN _⟩
      · have hlb : decide (x0 < x1) = false := decide_eq_false hl
        cases gk with
        | zero => have := HM.out; omega
        | succ kz =>
        go_upto_region 5 with fail
        go_quiet (first | (go_at_call 87; refine Calls.quiet_of_same (less32 _ _ _)))
        go_wp2_with fail
        go_roundg kz
        case measure => omega
        case rel =>
          have := HF.out
          have := HM.out
          exact ⟨i' + 1, congrArg (Value.int .i64) (by omega), ⟨by omega⟩, ⟨by omega⟩, ⟨HS.out.drewN _⟩⟩
    · have hibz : ¬ (i' : Int) < (b : Int) := by omega
      have hibb : decide ((i' : Int) < (b : Int)) = false := decide_eq_false hibz
      go_upto_region 5 with fail
      go_quiet (first | (go_at_call 87; refine Calls.quiet_of_same (less32 _ _ _)))
      go_wp2_with fail
      exact hN.out _ _ _ _ _ _ _ _ _ _ _ _ _ _ _ _ _ _ i' _ HF ⟨HS.out.drewN _⟩
noncomputable def pi2C : Code := pth [true, true, false, true, false, false, true, false, false, true, true, true, true, false, true, false, true, false] (Tryz.f86.body.getD .skip)
set_option maxHeartbeats 16000000 in
set_option maxRecDepth 100000 in
theorem pi2 (W w : World) (g n c a b j : Nat) (l0 l : List Int) (HS : Aside0 (SrtE W w g n l0 l)) (hn : n ≤ 1000000000) (HA : Aside0 (1 ≤ j ∧ j ≤ n ∧ b ≤ n ∧ j < n)) {Q : Exit → Act → World → Prop} {v3 v4 v5 v6 v7 v8 v10 v11 v12 v13 v14 v15 v16 v17 v18 v19 v20 v21 v22 v23 v24 v25 v26 v27 v28 v29 v30 v31 v32 v33 v34 v35 v36 v37 v38 v39 v40 v41 v42 v43 v44 v45 v46 v47 v48 v49 v50 v51 v52 v53 v54 v55 v56 v57 v58 v59 v60 v61 v62 v63 v64 v65 v66 v67 v68 v69 v70 v71 v72 v73 v74 v75 v76 v77 v78 v79 v80 v81 v82 v83 v84 v85 v86 v87 v88 v89 v90 v91 v92 v93 v94 v95 v96 v97 v98 v99 v100 v101 v102 v103 v104 v105 v106 v107 v108 v109 v110 v111 v112 v113 v114 v115 v116 v117 v118 v119 v120 v121 v122 v123 v124 v125 v126 v127 v128 v129 v130 v131 v132 : Value}
    (hN : Aside0 (∀ (n9 n64 n65 n66 n67 n68 n69 n70 n71 n72 n73 n74 n75 n76 n77 n78 n79 n80 n81 n82 n83 n84 n85 n86 n87 n88 n89 n90 n91 n92 n93 n94 : Value) (l' : List Int) (w' : World), Aside0 (SrtE W w' g n l0 l') → Q (.exit 4) ⟨#[.slice (some ⟨g, 0, none⟩) n c, .int .i64 (a : Int), .int .i64 (b : Int), v3, v4, v5, v6, v7, v8, n9, v10, v11, v12, v13, v14, v15, v16, v17, v18, v19, v20, v21, v22, v23, v24, v25, v26, v27, v28, v29, v30, v31, v32, v33, v34, v35, v36, v37, v38, v39, v40, v41, v42, v43, v44, v45, v46, v47, v48, v49, v50, v51, v52, v53, v54, v55, v56, v57, v58, v59, v60, v61, v62, v63, n64, n65, n66, n67, n68, n69, n70, n71, n72, n73, n74, n75, n76, n77, n78, n79, n80, n81, n82, n83, n84, n85, n86, n87, n88, n89, n90, n91, n92, n93, n94, v95, v96, v97, v98, v99, v100, v101, v102, v103, v104, v105, v106, v107, v108, v109, v110, v111, v112, v113, v114, v115, v116, v117, v118, v119, v120, v121, v122, v123, v124, v125, v126, v127, v128, v129, v130, v131, v132], []⟩ w')) :
    Code.wp Tryz.prog pi2C Q ⟨#[.slice (some ⟨g, 0, none⟩) n c, .int .i64 (a : Int), .int .i64 (b : Int), v3, v4, v5, v6, v7, v8, .int .i64 (j : Int), v10, v11, v12, v13, v14, v15, v16, v17, v18, v19, v20, v21, v22, v23, v24, v25, v26, v27, v28, v29, v30, v31, v32, v33, v34, v35, v36, v37, v38, v39, v40, v41, v42, v43, v44, v45, v46, v47, v48, v49, v50, v51, v52, v53, v54, v55, v56, v57, v58, v59, v60, v61, v62, v63, v64, v65, v66, v67, v68, v69, v70, v71, v72, v73, v74, v75, v76, v77, v78, v79, v80, v81, v82, v83, v84, v85, v86, v87, v88, v89, v90, v91, v92, v93, v94, v95, v96, v97, v98, v99, v100, v101, v102, v103, v104, v105, v106, v107, v108, v109, v110, v111, v112, v113, v114, v115, v116, v117, v118, v119, v120, v121, v122, v123, v124, v125, v126, v127, v128, v129, v130, v131, v132], []⟩ w := by
  conv => arg 2; whnf
  conv => arg 4; zeta
  go_loopg [9] (j) (fun kq v9 w' => ∃ (j' : Nat) (l' : List Int), v9 = .int .i64 (j' : Int) ∧ Aside0 (j' = kq ∧ j' < n) ∧ Aside0 (SrtE W w' g n l0 l'))
  case atStart => exact ⟨j, l, rfl, ⟨by have := HA.out; omega⟩, HS⟩
  case round =>
    clear HS
    obtain ⟨j', l1, rfl, HM, HS⟩ := hrel
    by_cases hib : 1 ≤ j'
    · have hibz : (1 : Int) ≤ (j' : Int) := by omega
      have hin : j' < n := by have := HA.out; have := HM.out; omega
      obtain ⟨j1, hj1, hjw⟩ := rev_nums j' (by have := HM.out; omega) (by omega)
      have hjy : IntKind.i64.wrap ((j' : Int) - 1) = (j1 : Int) := (iw _).trans hjw
      have hjn : j1 < n := by omega
      have HJ1 := Aside0.mk hj1
      have y0 := HS.out.row.cell j' hin
      obtain ⟨x0, hx0⟩ : ∃ x, l1.getD j' 0 = x := ⟨_, rfl⟩
      rw [hx0] at y0
      have f0 := HS.out.row.froz j'
      have y1 := HS.out.row.cell j1 hjn
      obtain ⟨x1, hx1⟩ : ∃ x, l1.getD j1 0 = x := ⟨_, rfl⟩
      rw [hx1] at y1
      have f1 := HS.out.row.froz j1
      have y2 : ∀ q, ((wr.drewN q).setCell ⟨g, j', none⟩ (.int .i32 x1)).cell? ⟨g, j1, none⟩ = some (.int .i32 x1) := fun q => HS.out.row.after hin hjn hx1 q
      have f2 : ∀ q, ((wr.drewN q).setCell ⟨g, j', none⟩ (.int .i32 x1)).frozen? ⟨g, j1, none⟩ = false := fun q => ((HS.out.row.step (w' := wr.drewN q) rfl).set j' hin x1).froz j1
      clear hj1
      by_cases hl : x0 < x1
      · have hlb : decide (x0 < x1) = true := decide_eq_true hl
        cases gk with
        | zero => have := HM.out; omega
        | succ kz =>
        go_upto_region 16 with fail
        go_quiet (first | (go_at_call 87; refine Calls.quiet_of_same (less32 _ _ _)))
        go_upto_region 17 with fail
        refine sw17 W _ g n c j' j1 l0 l1 ⟨HS.out.drewN _⟩ hjw hn hin hjn (by have := HM.out; omega) ⟨?_⟩
        intro _ _ _ _ _ _ _ _ _ _ _ _ _ _ _ _ l2 w2 HS2
        dsimp only
        go_wp2_with fail
        go_roundg kz
        case measure => omega
        case rel =>
          have := HM.out
          have := HJ1.out
          exact ⟨j1, _, congrArg (Value.int .i64) (by first | exact hjw | omega), ⟨by omega⟩, HS2⟩
      · have hlb : decide (x0 < x1) = false := decide_eq_false hl
        go_upto_region 16 with fail
        go_quiet (first | (go_at_call 87; refine Calls.quiet_of_same (less32 _ _ _)))
        go_wp2_with fail
        exact hN.out _ _ _ _ _ _ _ _ _ _ _ _ _ _ _ _ _ _ _ _ _ _ _ _ _ _ _ _ _ _ _ _ l1 _ ⟨HS.out.drewN _⟩
    · have hibz : ¬ (1 : Int) ≤ (j' : Int) := by omega
      go_wp2_with fail
      exact hN.out _ _ _ _ _ _ _ _ _ _ _ _ _ _ _ _ _ _ _ _ _ _ _ _ _ _ _ _ _ _ _ _ l1 _ HS
noncomputable def pi3C : Code := pth [true, true, false, true, false, false, true, false, false, true, true, true, true, true, true, false, true, false] (Tryz.f86.body.getD .skip)
set_option maxHeartbeats 16000000 in
set_option maxRecDepth 100000 in
theorem pi3 (W w : World) (g n c a b j : Nat) (l0 l : List Int) (HS : Aside0 (SrtE W w g n l0 l)) (hn : n ≤ 1000000000) (HA : Aside0 (1 ≤ j ∧ j ≤ n ∧ b ≤ n)) {Q : Exit → Act → World → Prop} {v3 v4 v5 v6 v7 v8 v9 v11 v12 v13 v14 v15 v16 v17 v18 v19 v20 v21 v22 v23 v24 v25 v26 v27 v28 v29 v30 v31 v32 v33 v34 v35 v36 v37 v38 v39 v40 v41 v42 v43 v44 v45 v46 v47 v48 v49 v50 v51 v52 v53 v54 v55 v56 v57 v58 v59 v60 v61 v62 v63 v64 v65 v66 v67 v68 v69 v70 v71 v72 v73 v74 v75 v76 v77 v78 v79 v80 v81 v82 v83 v84 v85 v86 v87 v88 v89 v90 v91 v92 v93 v94 v95 v96 v97 v98 v99 v100 v101 v102 v103 v104 v105 v106 v107 v108 v109 v110 v111 v112 v113 v114 v115 v116 v117 v118 v119 v120 v121 v122 v123 v124 v125 v126 v127 v128 v129 v130 v131 v132 : Value}
    (hN : Aside0 (∀ (n10 n101 n102 n103 n104 n105 n106 n107 n108 n109 n110 n111 n112 n113 n114 n115 n116 n117 n118 n119 n120 n121 n122 n123 n124 n125 n126 n127 n128 n129 n130 n131 n132 : Value) (l' : List Int) (w' : World), Aside0 (SrtE W w' g n l0 l') → Q (.exit 6) ⟨#[.slice (some ⟨g, 0, none⟩) n c, .int .i64 (a : Int), .int .i64 (b : Int), v3, v4, v5, v6, v7, v8, v9, n10, v11, v12, v13, v14, v15, v16, v17, v18, v19, v20, v21, v22, v23, v24, v25, v26, v27, v28, v29, v30, v31, v32, v33, v34, v35, v36, v37, v38, v39, v40, v41, v42, v43, v44, v45, v46, v47, v48, v49, v50, v51, v52, v53, v54, v55, v56, v57, v58, v59, v60, v61, v62, v63, v64, v65, v66, v67, v68, v69, v70, v71, v72, v73, v74, v75, v76, v77, v78, v79, v80, v81, v82, v83, v84, v85, v86, v87, v88, v89, v90, v91, v92, v93, v94, v95, v96, v97, v98, v99, v100, n101, n102, n103, n104, n105, n106, n107, n108, n109, n110, n111, n112, n113, n114, n115, n116, n117, n118, n119, n120, n121, n122, n123, n124, n125, n126, n127, n128, n129, n130, n131, n132], []⟩ w')) :
    Code.wp Tryz.prog pi3C Q ⟨#[.slice (some ⟨g, 0, none⟩) n c, .int .i64 (a : Int), .int .i64 (b : Int), v3, v4, v5, v6, v7, v8, v9, .int .i64 (j : Int), v11, v12, v13, v14, v15, v16, v17, v18, v19, v20, v21, v22, v23, v24, v25, v26, v27, v28, v29, v30, v31, v32, v33, v34, v35, v36, v37, v38, v39, v40, v41, v42, v43, v44, v45, v46, v47, v48, v49, v50, v51, v52, v53, v54, v55, v56, v57, v58, v59, v60, v61, v62, v63, v64, v65, v66, v67, v68, v69, v70, v71, v72, v73, v74, v75, v76, v77, v78, v79, v80, v81, v82, v83, v84, v85, v86, v87, v88, v89, v90, v91, v92, v93, v94, v95, v96, v97, v98, v99, v100, v101, v102, v103, v104, v105, v106, v107, v108, v109, v110, v111, v112, v113, v114, v115, v116, v117, v118, v119, v120, v121, v122, v123, v124, v125, v126, v127, v128, v129, v130, v131, v132], []⟩ w := by
  conv => arg 2; whnf
  conv => arg 4; zeta
  go_loopg [10] (n - j) (fun kq v10 w' => ∃ (j' : Nat) (l' : List Int), v10 = .int .i64 (j' : Int) ∧ Aside0 (1 ≤ j' ∧ j' + kq = n) ∧ Aside0 (SrtE W w' g n l0 l'))
  case atStart => exact ⟨j, l, rfl, ⟨by have := HA.out; omega⟩, HS⟩
  case round =>
    clear HS
    obtain ⟨j', l1, rfl, HM, HS⟩ := hrel
    by_cases hib : j' < b
    · have hibz : (j' : Int) < (b : Int) := by omega
      have hin : j' < n := by have := HA.out; have := HM.out; omega
      obtain ⟨j1, hj1, hjw⟩ := rev_nums j' (by have := HM.out; omega) (by omega)
      have hjy : IntKind.i64.wrap ((j' : Int) - 1) = (j1 : Int) := (iw _).trans hjw
      have hjn : j1 < n := by omega
      have HJ1 := Aside0.mk hj1
      have y0 := HS.out.row.cell j' hin
      obtain ⟨x0, hx0⟩ : ∃ x, l1.getD j' 0 = x := ⟨_, rfl⟩
      rw [hx0] at y0
      have f0 := HS.out.row.froz j'
      have y1 := HS.out.row.cell j1 hjn
      obtain ⟨x1, hx1⟩ : ∃ x, l1.getD j1 0 = x := ⟨_, rfl⟩
      rw [hx1] at y1
      have f1 := HS.out.row.froz j1
      have y2 : ∀ q, ((wr.drewN q).setCell ⟨g, j', none⟩ (.int .i32 x1)).cell? ⟨g, j1, none⟩ = some (.int .i32 x1) := fun q => HS.out.row.after hin hjn hx1 q
      have f2 : ∀ q, ((wr.drewN q).setCell ⟨g, j', none⟩ (.int .i32 x1)).frozen? ⟨g, j1, none⟩ = false := fun q => ((HS.out.row.step (w' := wr.drewN q) rfl).set j' hin x1).froz j1
      clear hj1
      by_cases hl : x0 < x1
      · have hlb : decide (x0 < x1) = true := decide_eq_true hl
        cases gk with
        | zero => have := HM.out; omega
        | succ kz =>
        go_upto_region 22 with fail
        go_quiet (first | (go_at_call 87; refine Calls.quiet_of_same (less32 _ _ _)))
        go_upto_region 23 with fail
        refine sw23 W _ g n c j' j1 l0 l1 ⟨HS.out.drewN _⟩ hjw hn hin hjn (by have := HM.out; omega) ⟨?_⟩
        intro _ _ _ _ _ _ _ _ _ _ _ _ _ _ _ _ l2 w2 HS2
        dsimp only
        go_wp2_with fail
        go_roundg kz
        case measure => omega
        case rel =>
          have := HM.out
          have := HJ1.out
          exact ⟨j' + 1, _, congrArg (Value.int .i64) (by first | exact hjw | omega), ⟨by omega⟩, HS2⟩
      · have hlb : decide (x0 < x1) = false := decide_eq_false hl
        go_upto_region 22 with fail
        go_quiet (first | (go_at_call 87; refine Calls.quiet_of_same (less32 _ _ _)))
        go_wp2_with fail
        exact hN.out _ _ _ _ _ _ _ _ _ _ _ _ _ _ _ _ _ _ _ _ _ _ _ _ _ _ _ _ _ _ _ _ _ l1 _ ⟨HS.out.drewN _⟩
    · have hibz : ¬ (j' : Int) < (b : Int) := by omega
      go_wp2_with fail
      exact hN.out _ _ _ _ _ _ _ _ _ _ _ _ _ _ _ _ _ _ _ _ _ _ _ _ _ _ _ _ _ _ _ _ _ l1 _ HS
end Go.Proofs.YtaejkbjepbifcabGreatDoor.So
namespace Go.Proofs.YtaejkbjepbifcabGreatDoor.So
open Go.RowKit Go.Proofs.YtaejkbjepbifcabGreatDoorW.PrintWords Go.Proofs.YtaejkbjepbifcabGreatDoor.Da
set_option linter.unusedVariables false
set_option linter.unusedSimpArgs false
def RowC (W : World) (g n : Nat) (l : List Int) (w : World) : Prop := ∃ (l' : List Int), SrtE W w g n l l'
def PinE (W : World) (g n : Nat) (l : List Int) (e : Ending) (w : World) : Prop := ∃ (r : Bool) (l' : List Int), e = .returned (.bool r) ∧ SrtE W w g n l l'
set_option maxHeartbeats 16000000 in
set_option maxRecDepth 1000000 in
theorem pins_calls (W : World) (g n c a b : Nat) (l : List Int) (hR : RowI W g n l) (hab : a < b) (hb : b ≤ n) :
    Calls Tryz.prog 86 #[.slice (some ⟨g, 0, none⟩) n c, .int .i64 (a : Int), .int .i64 (b : Int)] W fun e w' => PinE W g n l e w' := by
  have HS0 := Aside0.mk (SrtE.start hR)
  have hn := hR.few
  clear hR
  go_enter Tryz.func86, Tryz.ntmps86
  go_wp2_with fail
  go_loopg [7, 8] 5 (fun kq v7 v8 w' => ∃ (i s : Nat) (l' : List Int), v7 = .int .i64 (i : Int) ∧ v8 = .int .i64 (s : Int) ∧ Aside0 (s + kq = 5 ∧ a < i ∧ i ≤ b) ∧ Aside0 (SrtE W w' g n l l'))
  case atStart => exact ⟨a + 1, 0, l, congrArg (Value.int .i64) (by omega), rfl, ⟨by omega⟩, HS0⟩
  case round =>
    clear HS0
    obtain ⟨i, s, l1, rfl, rfl, HM, HS⟩ := hrel
    cases gk with
    | zero =>
      have hs : ¬ (s : Int) < 5 := by have := HM.out; omega
      go_wp2_with fail
      go_ret
      exact ⟨false, l1, rfl, HS.out⟩
    | succ kz =>
      have hs : (s : Int) < 5 := by have := HM.out; omega
      go_wp2_with fail
      refine pi1 W _ g n c a b i l l1 HS hn ⟨by have := HM.out; omega⟩ ⟨?_⟩
      intro _ _ _ _ _ _ _ _ _ _ _ _ _ _ _ _ _ _ i2 w2 HF HS2
      dsimp only
      clear HS
      by_cases hib : i2 = b
      · have hibz : ((i2 : Int) == (b : Int)) = true := beq_iff_eq.2 (by omega)
        clear hib
        go_wp2_with fail
        go_ret
        exact ⟨true, l1, rfl, HS2.out⟩
      · have hibz : ((i2 : Int) == (b : Int)) = false := beq_false_of_ne (by omega)
        have hi2 : i2 < b := by have := HF.out; omega
        clear hib
        by_cases h50 : b - a < 50
        · have h50z : (b : Int) - (a : Int) < 50 := by omega
          go_wp2_with fail
          go_ret
          exact ⟨false, l1, rfl, HS2.out⟩
        · have h50z : ¬ (b : Int) - (a : Int) < 50 := by omega
          obtain ⟨j1, hj1, hjw⟩ := rev_nums i2 (by have := HF.out; have := HM.out; omega) (by omega)
          have hin : i2 < n := by omega
          have hjn : j1 < n := by omega
          have hi1 : (1 : Int) ≤ (i2 : Int) := by omega
          have HJ := Aside0.mk hj1
          clear hj1
          go_upto_region 11 with fail
          refine sw11 W _ g n c i2 j1 l l1 HS2 hjw hn hin hjn hi1 ⟨?_⟩
          intro _ _ _ _ _ _ _ _ _ _ _ _ _ _ _ _ l2 w3 HS3
          dsimp only
          clear HS2
          go_upto_if 61 with fail
          go_cut [9] from 61 to 94 (fun s9 wc => RowC W g n l wc)
          case first =>
            by_cases h2 : 2 ≤ i2 - a
            · have h2z : (2 : Int) ≤ (i2 : Int) - (a : Int) := by omega
              have hj1z : (i2 : Int) - 1 = (j1 : Int) := by have := HJ.out; omega
              go_wp2_with fail
              refine pi2 W _ g n c a b j1 l l2 HS3 hn ⟨by have := HJ.out; omega⟩ ⟨?_⟩
              intro _ _ _ _ _ _ _ _ _ _ _ _ _ _ _ _ _ _ _ _ _ _ _ _ _ _ _ _ _ _ _ _ l3 w4 HS4
              dsimp only
              go_wp2_with fail
              go_meet
              case rel => exact ⟨l3, HS4.out⟩
            · have h2z : ¬ (2 : Int) ≤ (i2 : Int) - (a : Int) := by omega
              go_wp2_with fail
              go_meet
              case rel => exact ⟨l2, HS3.out⟩
          case rest =>
            obtain ⟨l3, hS3⟩ := hcut
            have HS4 := Aside0.mk hS3
            clear hS3 HS3
            by_cases h2 : 2 ≤ b - i2
            · have h2z : (2 : Int) ≤ (b : Int) - (i2 : Int) := by omega
              obtain ⟨j2, hj2⟩ : ∃ j2 : Nat, j2 = i2 + 1 := ⟨_, rfl⟩
              have hj2z : (i2 : Int) + 1 = (j2 : Int) := by omega
              have HJ2 := Aside0.mk hj2
              clear hj2
              go_wp2_with fail
              refine pi3 W _ g n c a b j2 l l3 HS4 hn ⟨by have := HJ2.out; omega⟩ ⟨?_⟩
              intro _ _ _ _ _ _ _ _ _ _ _ _ _ _ _ _ _ _ _ _ _ _ _ _ _ _ _ _ _ _ _ _ _ l4 w5 HS5
              dsimp only
              go_wp2_with fail
              go_roundg kz
              case measure => omega
              case rel => exact ⟨i2, s + 1, l4, rfl, congrArg (Value.int .i64) (by omega), ⟨by have := HM.out; have := HF.out; omega⟩, HS5⟩
            · have h2z : ¬ (2 : Int) ≤ (b : Int) - (i2 : Int) := by omega
              go_wp2_with fail
              go_roundg kz
              case measure => omega
              case rel => exact ⟨i2, s + 1, l3, rfl, congrArg (Value.int .i64) (by omega), ⟨by have := HM.out; have := HF.out; omega⟩, HS4⟩
end Go.Proofs.YtaejkbjepbifcabGreatDoor.So
namespace Go.Proofs.YtaejkbjepbifcabGreatDoor.So
open Go.RowKit Go.Proofs.YtaejkbjepbifcabGreatDoorW.PrintWords Go.Proofs.YtaejkbjepbifcabGreatDoor.Da
set_option linter.unusedVariables false
set_option linter.unusedSimpArgs false
set_option maxHeartbeats 16000000 in
set_option maxRecDepth 100000 in
theorem ins_calls (W : World) (g n c a b : Nat) (l : List Int) (hR : RowI W g n l) (hab : a ≤ b) (hb : b ≤ n) :
    Calls Tryz.prog 81 #[.slice (some ⟨g, 0, none⟩) n c, .int .i64 (a : Int), .int .i64 (b : Int)] W fun e w' => e = .returned (.tuple #[]) ∧ ∃ l', SrtE W w' g n l l' := by
  have HS0 := Aside0.mk (SrtE.start hR)
  have hn := hR.few
  obtain ⟨M, hM⟩ : ∃ M, M = max b (a + 1) := ⟨_, rfl⟩
  have hM1 : b ≤ M ∧ a + 1 ≤ M ∧ (M = b ∨ M = a + 1) := by omega
  clear hR hM
  go_enter Tryz.func81, Tryz.ntmps81
  go_wp2_with fail
  go_loopg [6, 7] (M - (a + 1)) (fun kq v6 v7 w' => ∃ (i : Nat) (l' : List Int), v6 = .int .i64 (i : Int) ∧ Aside0 (i + kq = M) ∧ Aside0 (a + 1 ≤ i) ∧ Aside0 (SrtE W w' g n l l'))
  case atStart => exact ⟨a + 1, l, congrArg (Value.int .i64) (by omega), ⟨by omega⟩, ⟨Nat.le_refl _⟩, HS0⟩
  case round =>
    clear HS0
    obtain ⟨i, l1, rfl, HI, HA, HS⟩ := hrel
    have hi := HI.out
    have ha := HA.out
    by_cases hib : i < b
    · have hibz : (i : Int) < (b : Int) := by omega
      cases gk with
      | zero => omega
      | succ kz =>
      go_wp2_with fail
      go_loopg [7] (i - a) (fun kq v7 w' => ∃ (j : Nat) (l' : List Int), v7 = .int .i64 (j : Int) ∧ Aside0 (j = a + kq) ∧ Aside0 (j ≤ i) ∧ Aside0 (SrtE W w' g n l l'))
      case atStart => exact ⟨i, l1, rfl, ⟨by omega⟩, ⟨Nat.le_refl _⟩, HS⟩
      case round =>
        clear HS
        obtain ⟨j, l2, rfl, HJ, HJI, HS⟩ := hrel
        have hj := HJ.out
        have hji := HJI.out
        by_cases hja : a < j
        · have hjaz : (a : Int) < (j : Int) := by omega
          have hjab : decide ((a : Int) < (j : Int)) = true := decide_eq_true hjaz
          obtain ⟨j1, hj1⟩ : ∃ j1 : Nat, j = j1 + 1 := ⟨j - 1, by omega⟩
          have hj1z : wrap64 ((j : Int) - 1) = (j1 : Int) := by unfold wrap64; omega
          have hj1y : IntKind.i64.wrap ((j : Int) - 1) = (j1 : Int) := (iw _).trans hj1z
          have y0 := HS.out.row.cell j (by omega)
          have y1 := HS.out.row.cell j1 (by omega)
          obtain ⟨x0, hx0⟩ : ∃ x0, l2.getD j 0 = x0 := ⟨_, rfl⟩
          obtain ⟨x1, hx1⟩ : ∃ x1, l2.getD j1 0 = x1 := ⟨_, rfl⟩
          rw [hx0] at y0
          rw [hx1] at y1
          have f0 := HS.out.row.froz j
          have f1 := HS.out.row.froz j1
          have y2 : ∀ q, ((wr.drewN q).setCell ⟨g, j, none⟩ (.int .i32 x1)).cell? ⟨g, j1, none⟩ = some (.int .i32 x1) := fun q => HS.out.row.after (by omega) (by omega) hx1 q
          have f2 : ∀ q, ((wr.drewN q).setCell ⟨g, j, none⟩ (.int .i32 x1)).frozen? ⟨g, j1, none⟩ = false := fun q => ((HS.out.row.step (w' := wr.drewN q) rfl).set j (by omega) x1).froz j1
          have HJ1 := Aside0.mk hj1
          have hj1n : j1 < n := by omega
          have hjn : j < n := by omega
          cases gk with
          | zero => omega
          | succ kj =>
          clear hj1 hj
          by_cases hl : x0 < x1
          · have hlb : decide (x0 < x1) = true := decide_eq_true hl
            go_upto_region 4 with fail
            go_quiet (first | (go_at_call 87; refine Calls.quiet_of_same (less32 _ _ _)))
            go_wp2_with fail
            go_region
            go_wp2_with fail
            go_roundg kj
            case measure => omega
            case rel =>
              have h := HS.out.swap j j1 (nq + 1) hjn hj1n
              rw [hx0, hx1] at h
              exact ⟨j1, swp l2 j j1, congrArg (Value.int .i64) (by first | omega | exact hj1z), ⟨by have := HJ.out; have := HJ1.out; omega⟩, ⟨by have := HJ1.out; omega⟩, ⟨h⟩⟩
          · have hlb : decide (x0 < x1) = false := decide_eq_false hl
            go_upto_region 4 with fail
            go_quiet (first | (go_at_call 87; refine Calls.quiet_of_same (less32 _ _ _)))
            go_wp2_with fail
            go_roundg kz
            case measure => omega
            case rel => exact ⟨i + 1, l2, congrArg (Value.int .i64) (by omega), ⟨by omega⟩, ⟨by omega⟩, ⟨HS.out.drewN _⟩⟩
        · have hjaz : ¬ (a : Int) < (j : Int) := by omega
          have hjab : decide ((a : Int) < (j : Int)) = false := decide_eq_false hjaz
          clear hj
          go_upto_region 4 with fail
          go_quiet (first | (go_at_call 87; refine Calls.quiet_of_same (less32 _ _ _)))
          go_wp2_with fail
          go_roundg kz
          case measure => omega
          case rel => exact ⟨i + 1, l2, congrArg (Value.int .i64) (by omega), ⟨by omega⟩, ⟨by omega⟩, ⟨HS.out.drewN _⟩⟩
    · have hibz : ¬ (i : Int) < (b : Int) := by omega
      go_wp2_with fail
      go_end0
      exact ⟨rfl, _, HS.out⟩
end Go.Proofs.YtaejkbjepbifcabGreatDoor.So
namespace Go.Proofs.YtaejkbjepbifcabGreatDoor.So
open Go.RowKit Go.Proofs.YtaejkbjepbifcabGreatDoorW.PrintWords Go.Proofs.YtaejkbjepbifcabGreatDoor.Da
set_option linter.unusedVariables false
set_option linter.unusedSimpArgs false
def LimC (W : World) (g n : Nat) (l : List Int) (v : Value) (w : World) : Prop := ∃ (lim : Nat) (l' : List Int), v = .int .i64 (lim : Int) ∧ lim ≤ 1000 ∧ SrtE W w g n l l'
def HintC (W : World) (g n : Nat) (l : List Int) (a b : Nat) (v u : Value) (w : World) : Prop := ∃ (p : Nat) (h : Int) (l' : List Int), v = .int .i64 (p : Int) ∧ u = .int .i64 h ∧ (a ≤ p ∧ p < b) ∧ (h = 0 ∨ h = 1) ∧ SrtE W w g n l l'
def BoolC (W : World) (v : Value) (w : World) : Prop := ∃ z : Bool, v = .bool z ∧ w = W
def BRowC (W : World) (g n : Nat) (l : List Int) (v : Value) (w : World) : Prop := ∃ (z : Bool) (l' : List Int), v = .bool z ∧ SrtE W w g n l l'
def SrtO (W : World) (g n : Nat) (l : List Int) (e : Ending) (w : World) : Prop := e = .returned (.tuple #[]) ∧ ∃ (l' : List Int), SrtE W w g n l l'
def PartO (W : World) (g n : Nat) (l : List Int) (a b : Nat) (e : Ending) (w : World) : Prop := ∃ (m : Nat) (ap : Bool) (l' : List Int), e = .returned (.tuple #[.int .i64 (m : Int), .bool ap]) ∧ a ≤ m ∧ m < b ∧ SrtE W w g n l l'
theorem piv_num (a b p : Nat) (h1 : a ≤ p) (h2 : p < b) (hb : b ≤ 1000000000) : ∃ p2 : Nat, (a ≤ p2 ∧ p2 < b) ∧ (b : Int) - 1 - ((p : Int) - (a : Int)) = (p2 : Int) := ⟨b - 1 - (p - a), by omega, by omega⟩
set_option maxHeartbeats 16000000 in
set_option maxRecDepth 1000000 in
theorem pdq_calls (g n c : Nat) : ∀ (N a b limit : Nat) (W : World) (l : List Int), b - a < N → RowI W g n l → a ≤ b → b ≤ n → limit ≤ 1000 →
    Calls Tryz.prog 74 #[.slice (some ⟨g, 0, none⟩) n c, .int .i64 (a : Int), .int .i64 (b : Int), .int .i64 (limit : Int)] W fun e w' => SrtO W g n l e w' := by
  intro N
  induction N with
  | zero => intro _ _ _ _ _ h; exact absurd h (Nat.not_lt_zero _)
  | succ N ih =>
    intro a b limit W l hN hR hab hb hlim
    have IH := Aside0.mk ih
    have HS0 := Aside0.mk (SrtE.start hR)
    have hn := hR.few
    clear hR ih
    go_enter Tryz.func74, Tryz.ntmps74
    go_wp2_with fail
    go_loopg [1, 2, 3, 8, 9] (b - a) (fun k s1 s2 s3 s8 s9 wr => ∃ (a' b' lim : Nat) (wb wp : Bool) (l' : List Int), s1 = .int .i64 (a' : Int) ∧ s2 = .int .i64 (b' : Int) ∧ s3 = .int .i64 (lim : Int) ∧ s8 = .bool wb ∧ s9 = .bool wp ∧ Aside0 (a' ≤ b' ∧ b' ≤ n ∧ b' - a' ≤ k ∧ k ≤ b - a ∧ lim ≤ 1000) ∧ Aside0 (SrtE W wr g n l l'))
    case atStart => exact ⟨a, b, limit, true, true, l, rfl, rfl, rfl, rfl, rfl, ⟨by omega⟩, HS0⟩
    case round =>
      clear HS0
      obtain ⟨a', b', lim, wb, wp, l1, rfl, rfl, rfl, rfl, rfl, HM, HS⟩ := hrel
      have hab' : a' ≤ b' := HM.out.1
      have hb' : b' ≤ n := HM.out.2.1
      by_cases h12 : b' - a' ≤ 12
      · have h12z : (b' : Int) - (a' : Int) ≤ 12 := by omega
        have HC := Aside0.mk (ins_calls wr g n c a' b' l1 HS.out.row hab' hb')
        go_wp2_with fail
        with_reducible refine Calls.mono HC.out ?_
        rintro e_ w1 ⟨rfl, l2, hS⟩
        have HS2 := Aside0.mk (HS.out.then hS)
        clear hS
        go_wp2_with fail
        (try simp only [Exit.inBlock, Exit.then]); refine bodyPost_ret (results_none rfl _ _ _) rfl ?_
        exact ⟨rfl, l2, HS2.out⟩
      · have h12z : ¬ ((b' : Int) - (a' : Int) ≤ 12) := by omega
        have hablt : a' < b' := by omega
        by_cases hl0 : lim = 0
        · subst hl0
          have HC := Aside0.mk (heap_calls wr g n c a' b' l1 HS.out.row hablt hb')
          go_wp2_with fail
          with_reducible refine Calls.mono HC.out ?_
          rintro e_ w1 ⟨rfl, l2, hS⟩
          have HS2 := Aside0.mk (HS.out.then hS)
          clear hS
          go_wp2_with fail
          (try simp only [Exit.inBlock, Exit.then]); refine bodyPost_ret (results_none rfl _ _ _) rfl ?_
          exact ⟨rfl, l2, HS2.out⟩
        · have hl0z : ¬ ((lim : Int) = 0) := by omega
          have hlimz : (lim : Int) ≤ 1000 := by have := HM.out; omega
          go_upto_if 35 with fail
          go_cut [3] from 19 (fun s3 wc => LimC W g n l s3 wc)
          case first =>
            cases wb
            · have HC := Aside0.mk (brk_calls wr g n c a' b' l1 HS.out.row hab' hb')
              go_wp2_with fail
              with_reducible refine Calls.mono HC.out ?_
              rintro e_ w1 ⟨rfl, l2, hS⟩
              have HS2 := Aside0.mk (HS.out.then hS)
              clear hS
              go_wp2_with fail
              go_meet
              case rel => exact ⟨lim - 1, l2, congrArg (Value.int .i64) (by omega), by have := HM.out; omega, HS2.out⟩
            · go_wp2_with fail
              go_meet
              case rel => exact ⟨lim, l1, rfl, by have := HM.out; omega, HS.out⟩
          case rest =>
            obtain ⟨lim2, l2, rfl, hlim2, hS2⟩ := hcut
            have HS2 := Aside0.mk hS2
            clear hS2 HS
            have HC := Aside0.mk (piv_calls wc g n c a' b' l2 HS2.out.row hablt hb')
            go_wp2_with fail
            with_reducible refine Calls.mono HC.out ?_
            rintro e_ w2 ⟨p, h, rfl, hp, hh, hR2, hK2⟩
            have HS3 := Aside0.mk (SrtE.mk ((HS2.out.kp.trans hK2).mono (fun i _ hi => by rcases hi with hi | hi; exact hi; exact hi.elim)) hR2 HS2.out.perm : SrtE W w2 g n l l2)
            have HP := Aside0.mk (And.intro hp hh)
            clear hR2 hK2 HS2 HC hp hh
            go_upto_if 50 with fail
            go_cut [11, 12] from 19 (fun s11 s12 wc => HintC W g n l a' b' s11 s12 wc)
            case first =>
              by_cases hh2 : h = 2
              · subst hh2
                obtain ⟨p2, hp2, hpz⟩ := piv_num a' b' p HP.out.1.1 HP.out.1.2 (by omega)
                have HC := Aside0.mk (rev_calls w2 g n c a' b' l2 HS3.out.row hablt hb')
                have HP2 := Aside0.mk (And.intro hp2 hpz)
                have hp0 := HP.out.1
                have hpn : (p : Int) ≤ 1000000000 := by omega
                clear hp2 hpz
                go_wp2_with fail
                with_reducible refine Calls.mono HC.out ?_
                rintro e_ w3 ⟨rfl, l3, hS⟩
                have HS4 := Aside0.mk (HS3.out.then hS)
                clear hS
                go_wp2_with fail
                go_meet
                case rel => exact ⟨p2, 1, l3, congrArg (Value.int .i64) HP2.out.2, rfl, HP2.out.1, Or.inr rfl, HS4.out⟩
              · have hh2b : (h == 2) = false := beq_false_of_ne hh2
                go_wp2_with fail
                go_meet
                case rel => exact ⟨p, h, l2, rfl, rfl, HP.out.1, by have := HP.out.2; omega, HS3.out⟩
            case rest =>
              obtain ⟨p3, h3, l3, rfl, rfl, hp3, hh3, hS3⟩ := hcut
              have HS4 := Aside0.mk hS3
              have HP3 := Aside0.mk (And.intro hp3 hh3)
              clear hS3 HS3 HP hp3 hh3
              go_upto_region 15 with fail
              go_cut [68] from 19 (fun s68 wx => BoolC wc s68 wx)
              case first =>
                by_cases hh4 : h3 = 1
                · have hh4b : (h3 == 1) = true := beq_iff_eq.2 hh4
                  cases wb <;> cases wp <;> (go_wp2_with fail; go_meet; exact ⟨_, rfl, rfl⟩)
                · have hh4b : (h3 == 1) = false := beq_false_of_ne hh4
                  cases wb <;> cases wp <;> (go_wp2_with fail; go_meet; exact ⟨_, rfl, rfl⟩)
              case rest =>
                obtain ⟨z, rfl, rfl⟩ := hcut
                go_upto_if 68 with fail
                go_cut [] from 19 (fun wx => RowC W g n l wx)
                case first =>
                  cases z
                  · go_wp2_with fail
                    go_meet
                    case rel => exact ⟨l3, HS4.out⟩
                  · have HC := Aside0.mk (pins_calls _ g n c a' b' l3 HS4.out.row hablt hb')
                    go_wp2_with fail
                    with_reducible refine Calls.mono HC.out ?_
                    rintro e_ w4 ⟨r, l4, rfl, hS⟩
                    have HS5 := Aside0.mk (HS4.out.then hS)
                    clear hS
                    cases r
                    · go_wp2_with fail
                      go_meet
                      case rel => exact ⟨l4, HS5.out⟩
                    · go_wp2_with fail
                      (try simp only [Exit.inBlock, Exit.then]); refine bodyPost_ret (results_none rfl _ _ _) rfl ?_
                      exact ⟨rfl, l4, HS5.out⟩
                case rest =>
                  obtain ⟨l4, hS4⟩ := hcut
                  have HS5 := Aside0.mk hS4
                  have hpn : p3 < n := by have := HP3.out; omega
                  clear hS4 HS4
                  go_upto_region 17 with fail
                  go_cut [87] from 19 (fun s87 wx => BRowC W g n l s87 wx)
                  case first =>
                    have y1 := HS5.out.row.cell p3 hpn
                    have f1 := HS5.out.row.froz p3
                    rcases Nat.eq_zero_or_pos a' with ha0 | ha0
                    · have ha0n : ¬ (0 : Int) < (a' : Int) := by omega
                      have ha0z : decide ((0 : Int) < (a' : Int)) = false := decide_eq_false ha0n
                      have ha0m : decide (0 < a') = false := decide_eq_false (by omega)
                      have HA := Aside0.mk ha0
                      clear ha0
                      go_quiet (first | (go_at_call 87; refine Calls.quiet_of_same (less32 _ _ _)))
                      go_wp2_with fail
                      go_meet
                      case rel => exact ⟨_, l4, rfl, HS5.out.drewN _⟩
                    · have ha0n : (0 : Int) < (a' : Int) := by omega
                      have ha0z : decide ((0 : Int) < (a' : Int)) = true := decide_eq_true ha0n
                      obtain ⟨a1, ha1, hw1⟩ := rev_nums a' ha0 (by omega)
                      have hwy : IntKind.i64.wrap ((a' : Int) - 1) = (a1 : Int) := (iw _).trans hw1
                      have ha1n : a1 < n := by omega
                      have y0 := HS5.out.row.cell a1 ha1n
                      have f0 := HS5.out.row.froz a1
                      clear ha1
                      go_quiet (first | (go_at_call 87; refine Calls.quiet_of_same (less32 _ _ _)))
                      go_wp2_with fail
                      go_meet
                      case rel => exact ⟨_, l4, rfl, HS5.out.drewN _⟩
                  case rest =>
                    obtain ⟨z2, l5, rfl, hS5⟩ := hcut
                    have HS6 := Aside0.mk hS5
                    have hp3 : p3 < b' := HP3.out.1.2
                    clear hS5 HS5
                    cases z2
                    · have HC : Aside0 (Calls Tryz.prog 89 #[.slice (some ⟨g, 0, none⟩) n c, .int .i64 (a' : Int), .int .i64 (b' : Int), .int .i64 (p3 : Int)] _ fun e w' => PartO _ g n l5 a' b' e w') := ⟨part_calls _ g n c a' b' p3 l5 HS6.out.row hablt hb' hp3⟩
                      go_wp2_with fail
                      with_reducible refine Calls.mono HC.out ?_
                      rintro e_ w7 ⟨mid, ap, l6, rfl, hm1, hm2, hS⟩
                      have HS7 := Aside0.mk (HS6.out.then hS)
                      clear hS HC HS6
                      have hmn : (mid : Int) ≤ 1000000000 := by omega
                      go_upto_if 113 with fail
                      by_cases h4 : mid - a' < b' - mid
                      · have h4z : (mid : Int) - (a' : Int) < (b' : Int) - (mid : Int) := by omega
                        have HC := Aside0.mk (IH.out a' mid lim2 w7 l6 (by have := HM.out; omega) HS7.out.row hm1 (by omega) hlim2)
                        go_wp2_with fail
                        with_reducible refine Calls.mono HC.out ?_
                        rintro e_ w8 ⟨rfl, l7, hS⟩
                        have HS8 := Aside0.mk (HS7.out.then hS)
                        clear hS HC HS7
                        go_wp2_with fail
                        go_roundg (b' - (mid + 1))
                        case measure => have := HM.out; omega
                        case rel => exact ⟨mid + 1, b', lim2, _, ap, l7, congrArg (Value.int .i64) (by omega), rfl, rfl, rfl, rfl, ⟨by have := HM.out; omega⟩, HS8⟩
                      · have h4z : ¬ ((mid : Int) - (a' : Int) < (b' : Int) - (mid : Int)) := by omega
                        have HC := Aside0.mk (IH.out (mid + 1) b' lim2 w7 l6 (by have := HM.out; omega) HS7.out.row (by omega) (by omega) hlim2)
                        rw [show ((mid + 1 : Nat) : Int) = (mid : Int) + 1 from by omega] at HC
                        go_wp2_with fail
                        with_reducible refine Calls.mono HC.out ?_
                        rintro e_ w8 ⟨rfl, l7, hS⟩
                        have HS8 := Aside0.mk (HS7.out.then hS)
                        clear hS HC HS7
                        go_wp2_with fail
                        go_roundg (mid - a')
                        case measure => have := HM.out; omega
                        case rel => exact ⟨a', mid, lim2, _, ap, l7, rfl, rfl, rfl, rfl, rfl, ⟨by have := HM.out; omega⟩, HS8⟩
                    · have HC := Aside0.mk (peq_calls _ g n c a' b' p3 l5 HS6.out.row hablt hb' hp3)
                      go_wp2_with fail
                      with_reducible refine Calls.mono HC.out ?_
                      rintro e_ w7 ⟨mid, l6, rfl, hm1, hm2, hS⟩
                      have HS7 := Aside0.mk (HS6.out.then hS)
                      clear hS HC HS6
                      go_wp2_with fail
                      go_roundg (b' - mid)
                      case measure => have := HM.out; omega
                      case rel => exact ⟨mid, b', lim2, wb, wp, l6, rfl, rfl, rfl, rfl, rfl, ⟨by have := HM.out; omega⟩, HS7⟩
end Go.Proofs.YtaejkbjepbifcabGreatDoor.So
namespace Go.Proofs.YtaejkbjepbifcabGreatDoor.So
open Go.RowKit Go.Sort Go.Proofs.YtaejkbjepbifcabGreatDoorW.PrintWords Go.Proofs.YtaejkbjepbifcabGreatDoor.Da
set_option linter.unusedVariables false
set_option linter.unusedSimpArgs false
def LenE (W : World) (e : Ending) (w : World) : Prop := ∃ k : Nat, e = .returned (.int .i64 (k : Int)) ∧ k ≤ 64 ∧ w = W
theorem len_calls (W : World) (n : Nat) (hn : n ≤ 1000000000) : Calls Tryz.prog 75 #[.int .u64 (n : Int)] W fun e w' => LenE W e w' := by
  have h := Tryz.bits_Len (n : Int) W (by omega) (by omega)
  refine h.mono ?_
  rintro e w' ⟨rfl, rfl⟩
  refine ⟨_, rfl, ?_, rfl⟩
  rw [Int.toNat_natCast, bitLen_eq _ (by omega)]
  have := (Go.Sort.bitsLen_le_iff n 62).2 (by omega)
  omega
set_option maxHeartbeats 16000000 in
set_option maxRecDepth 100000 in
theorem sort_calls (W : World) (g n c : Nat) (l : List Int) (hR : RowI W g n l) :
    Calls Tryz.prog 53 #[.slice (some ⟨g, 0, none⟩) n c] W fun e w' => SrtO W g n l e w' := by
  have hn := hR.few
  have HP := Aside0.mk (fun lim hl => pdq_calls g n c (n + 1) 0 n lim W l (by omega) hR (by omega) (Nat.le_refl _) hl)
  have HL := Aside0.mk (len_calls W n hn)
  clear hR
  go_enter Tryz.func53, Tryz.ntmps53
  go_wp2_with fail
  with_reducible refine Calls.mono HL.out ?_
  rintro e_ w1 ⟨k, rfl, hk, rfl⟩
  have HC := Aside0.mk (HP.out k (by omega))
  go_wp2_with fail
  with_reducible refine Calls.mono HC.out ?_
  rintro e_ w2 ⟨rfl, l2, hS⟩
  have HS := Aside0.mk hS
  clear hS
  go_wp2_with fail
  go_end0
  exact ⟨rfl, l2, HS.out⟩
end Go.Proofs.YtaejkbjepbifcabGreatDoor.So
namespace Go.Proofs.YtaejkbjepbifcabGreatDoor.IxN
open Go.RowKit Go.Maps Go.Proofs.YtaejkbjepbifcabGreatDoorW.PrintWords Go.Proofs.YtaejkbjepbifcabGreatDoor.Plain Go.Proofs.YtaejkbjepbifcabGreatDoor.Num
set_option linter.unusedVariables false
set_option linter.unusedSimpArgs false
structure KeysFor (f : Int → Int) (ks : List Int) : Prop where
  all : ∀ k, f k ≠ 0 → k ∈ ks
  wf : ∀ k ∈ ks, -2147483648 ≤ k ∧ k ≤ 2147483647
  nz : ∀ k ∈ ks, f k ≠ 0
  few : ks.length ≤ 1000000
theorem KeysFor.perm {f : Int → Int} {ks l : List Int} (h : KeysFor f ks) (p : l.Perm ks) : KeysFor f l :=
  ⟨fun k hk => p.mem_iff.2 (h.all k hk), fun k hk => h.wf k (p.mem_iff.1 hk), fun k hk => h.nz k (p.mem_iff.1 hk), by rw [p.length_eq]; exact h.few⟩
def eby (f : Int → Int) (k : Int) : List Int := leb 4 (k % 18446744073709551616) ++ leb 4 (f k % 18446744073709551616)
def ixB (s : Da.DA) (f : Int → Int) (ks : List Int) (i : Nat) : List Int := wrtD s s.n ++ leb 8 ((ks.length : Int) % 18446744073709551616) ++ (ks.take i).flatMap (eby f)
theorem ebys_len (f : Int → Int) : ∀ l : List Int, (l.flatMap (eby f)).length = 8 * l.length
  | [] => rfl
  | k :: l => by rw [List.flatMap_cons, List.length_append, ebys_len f l]; simp [eby, leb_length]; omega
theorem ixB_len (s : Da.DA) (f : Int → Int) (ks : List Int) (i : Nat) (hi : i ≤ ks.length) : (ixB s f ks i).length = 16 + 8 * s.n + 8 * i := by
  simp only [ixB, List.length_append, wrtD_len, leb_length, ebys_len, List.length_take]; omega
theorem ixB_zero (s : Da.DA) (f : Int → Int) (ks : List Int) : ixB s f ks 0 = wrtD s s.n ++ leb 8 ((ks.length : Int) % 18446744073709551616) := by simp [ixB]
theorem ixB_succ (s : Da.DA) (f : Int → Int) (ks : List Int) (i : Nat) (hi : i < ks.length) : ixB s f ks (i + 1) = ixB s f ks i ++ leb 4 (ks.getD i 0 % 18446744073709551616) ++ leb 4 (f (ks.getD i 0) % 18446744073709551616) := by
  have e : ks.take (i + 1) = ks.take i ++ [ks.getD i 0] := by
    rw [List.take_succ_eq_append_getElem hi, List.getD_eq_getElem?_getD, List.getElem?_eq_getElem hi]; rfl
  simp only [ixB, e, List.flatMap_append, List.flatMap_cons, List.flatMap_nil, List.append_nil, eby, List.append_assoc]
structure WS (w wr : World) (B b xb g n mb : Nat) (f : Int → Int) (bs : List Int) : Prop where
  buf : Lib.IsBuffer 71 5 B b (u8s bs) wr
  below : Below B w wr
  sz : B ≤ wr.heap.size
  box : wr.heap[xb]? = some (.cells #[.slice (some ⟨g, 0, none⟩) n n, .map (some mb)] 53 (0, 0))
  bx : b ≠ xb
  dup : Da.DupM wr mb f
  mlt : mb < B
theorem WS.blt {w wr : World} {B b xb g n mb : Nat} {f : Int → Int} {bs : List Int} (h : WS w wr B b xb g n mb f bs) : b < wr.heap.size := h.buf.lt
theorem WS.put {w wr w2 : World} {B b xb g n mb : Nat} {f : Int → Int} {bs l : List Int} (h : WS w wr B b xb g n mb f bs) (hI : Lib.IsBuffer 71 5 B b (u8s bs ++ u8s l) w2) (hB : Below B wr w2) (hO : Lib.OthersKept 5 (some b) wr w2) : WS w w2 B b xb g n mb f (bs ++ l) :=
  ⟨by rw [u8s_app]; exact hI, h.below.trans hB, Nat.le_trans h.sz hB.size, oth_kept hO h.box h.bx (by decide), h.bx, h.dup.step (hB.block _ h.mlt), h.mlt⟩
theorem WS.carry {w wr w2 : World} {B b xb g n mb : Nat} {f : Int → Int} {bs : List Int} (h : WS w wr B b xb g n mb f bs) (hB : Below wr.heap.size wr w2) : WS w w2 B b xb g n mb f bs :=
  ⟨bufCarry h.buf (fun k hk => hB.block k hk), h.below.trans (hB.mono h.sz), Nat.le_trans h.sz hB.size, (hB.block _ (blk_lt h.box)).trans h.box, h.bx, h.dup.step (hB.block _ h.dup.lt), h.mlt⟩
theorem WS.cells {w wr : World} {B b xb g n mb : Nat} {f : Int → Int} {bs : List Int} (h : WS w wr B b xb g n mb f bs) : wr.cell? ⟨xb, 0, none⟩ = some (.slice (some ⟨g, 0, none⟩) n n) ∧ wr.cell? ⟨xb, 1, none⟩ = some (.map (some mb)) :=
  ⟨cells_at h.box 0 _ rfl, cells_at h.box 1 _ rfl⟩
theorem dup_look {w : World} {mb : Nat} {f : Int → Int} (h : Da.DupM w mb f) (k : Int) (hk : -2147483648 ≤ k ∧ k ≤ 2147483647) : (Instr.lookup 51 (.map (some mb)) (.int .i32 k) false).run Tryz.prog w = .ok (.int .i32 (f k)) w := by
  obtain ⟨n, D, h1, h2, h3, h4⟩ := h
  have hkey : keyOf Tryz.prog 21 (.int .i32 k) = some (.int .i32 k) := keyOf_int_mk Tryz.underlying21 (Go.WalkArith.wf_i32 (by omega))
  obtain ⟨c, hrun, hat, hwc⟩ := h2.lookup_int Da.key_i32 Tryz.underlying51 Tryz.underlying21 (Da.zero_i32 w) hkey
  rw [h3.at_] at hat
  rw [hrun]
  by_cases e : f k = 0
  · rw [if_pos e] at hat
    rw [← Da.lit_eq hat, e]
  · rw [if_neg e] at hat
    rw [← Da.lit_eq hat]
theorem size_le {w : World} {mb N : Nat} {D : DataW Unit} (h : Da.OMap w mb N D) : Maps.size D ≤ N := by
  obtain ⟨es, clock, hb, F, hs, rfl⟩ := h
  simpa [Maps.size, length_sorted] using hs
structure RgS (W wr : World) (mb r N : Nat) (D : DataW Unit) (f : Int → Int) (left : Lit → Bool) (cnt : Nat) (v : Value) (ks : List Int) : Prop where
  rg : wr.ranges Tryz.prog 21 (plainElem (H := Unit) Tryz.prog 21) mb r N D left cnt
  bel : Below W.heap.size W wr
  row : ∃ G cap, v = .slice (some ⟨G, 0, none⟩) ks.length cap ∧ W.heap.size ≤ G ∧ G ≠ r
  own : wr.ownsRow W.heap.size 21 1 v ks.length (ks.map (Value.int .i32))
  come : ∀ k : Int, has D (.int .i32 k) = true → left (.int .i32 k) = true ∨ k ∈ ks
  wf : ∀ k ∈ ks, -2147483648 ≤ k ∧ k ≤ 2147483647
  nz : ∀ k ∈ ks, f k ≠ 0
  few : ks.length + cnt ≤ Maps.size D
theorem wf_of {x : Int} (h : (Lit.int .i32 x).wf = true) : -2147483648 ≤ x ∧ x ≤ 2147483647 := by
  simp [Lit.wf, IntKind.min, IntKind.max, IntKind.signed, IntKind.bits] at h
  omega
theorem RgS.done {W wr : World} {mb r N : Nat} {D : DataW Unit} {f : Int → Int} {left : Lit → Bool} {cnt : Nat} {v : Value} {ks : List Int} (h : RgS W wr mb r N D f left cnt v ks) (hl : ∀ kl, left kl = false) (hD : Da.DupD D f) (hN : Maps.size D ≤ 1000000) : KeysFor f ks := by
  refine ⟨fun k hk => ?_, h.wf, h.nz, by have := h.few; omega⟩
  have hh : has D (.int .i32 k) = true := has_true_of_atKey (y := .lit (.int .i32 (f k))) (fun z => by rw [hD.at_, if_neg hk])
  rcases h.come k hh with e | e
  · rw [hl] at e; cases e
  · exact e
theorem own_carry {w w' : World} {base G n cap : Nat} {xs : List Value} (h : w.ownsRow base 21 1 (.slice (some ⟨G, 0, none⟩) n cap) n xs) (e : w'.heap[G]? = w.heap[G]?) : w'.ownsRow base 21 1 (.slice (some ⟨G, 0, none⟩) n cap) n xs := by
  obtain ⟨h0, h | ⟨g, cap', cur, e0, h1, h2, h3⟩⟩ := h
  · cases h.1
  · have e1 := e0
    injection e1 with e1 e2 e3
    injection e1 with e1
    injection e1 with e1
    subst e1
    exact ⟨h0, .inr ⟨G, cap', cur, e0, h1, e.trans h2, h3⟩⟩
theorem own_lt {w : World} {base G n cap : Nat} {xs : List Value} (h : w.ownsRow base 21 1 (.slice (some ⟨G, 0, none⟩) n cap) n xs) : G < w.heap.size := by
  obtain ⟨h0, h | ⟨g, cap', cur, e0, h1, h2, h3⟩⟩ := h
  · cases h.1
  · injection e0 with e1 e2 e3
    injection e1 with e1
    injection e1 with e1
    subst e1
    exact blk_lt h2
theorem RgS.took {W wr w3 : World} {mb r N : Nat} {D : DataW Unit} {f : Int → Int} {left : Lit → Bool} {cnt G cap : Nat} {ks : List Int} (h : RgS W wr mb r N D f left cnt (.slice (some ⟨G, 0, none⟩) ks.length cap) ks) (hg : wr.grownBy w3 (some r)) (hGr : G ≠ r) (hr : W.heap.size ≤ r) :
    w3.ownsRow W.heap.size 21 1 (.slice (some ⟨G, 0, none⟩) ks.length cap) ks.length (ks.map (Value.int .i32)) ∧ Below W.heap.size W w3 :=
  ⟨own_carry h.own (hg.block G (own_lt h.own) (by simpa using hGr)), ⟨by rw [hg.os, h.bel.os], by rw [hg.tape, h.bel.tape], by rw [hg.output, h.bel.output], Nat.le_trans h.bel.size hg.size, fun k hk => by
    rw [hg.block k (Nat.lt_of_lt_of_le hk h.bel.size) (by simp only [ne_eq, Option.some.injEq]; omega), h.bel.block k hk]⟩⟩
theorem RgS.step {W wr w3 w4 : World} {mb r N : Nat} {D : DataW Unit} {f : Int → Int} {left : Lit → Bool} {cnt cnt1 G cap : Nat} {ks : List Int} {x : Int} {v1 : Value} (h : RgS W wr mb r N D f left cnt (.slice (some ⟨G, 0, none⟩) ks.length cap) ks)
    (hrg1 : w3.ranges Tryz.prog 21 (plainElem (H := Unit) Tryz.prog 21) mb r N D (fun z => left z && !z.sameKey (.int .i32 x)) cnt1) (hlt : cnt1 < cnt) (hx : -2147483648 ≤ x ∧ x ≤ 2147483647) (hfx : f x ≠ 0) (hGr : G ≠ r) (hG : W.heap.size ≤ G) (hmb : mb < W.heap.size)
    (hown : w4.ownsRow W.heap.size 21 1 v1 (ks.length + 1) (ks.map (Value.int .i32) ++ [.int .i32 x])) (hb : Below W.heap.size W w4) (hg : w3.grownBy w4 (Value.slice (some ⟨G, 0, none⟩) ks.length cap).ownBlock) (hat : v1.ownBlock = (Value.slice (some ⟨G, 0, none⟩) ks.length cap).ownBlock ∨ ∃ b, v1.ownBlock = some b ∧ w3.heap.size ≤ b) :
    RgS W w4 mb r N D f (fun z => left z && !z.sameKey (.int .i32 x)) cnt1 v1 (ks ++ [x]) := by
  have hrl := hrg1.lt
  have hrow : ∃ G' cap', v1 = .slice (some ⟨G', 0, none⟩) (ks.length + 1) cap' ∧ W.heap.size ≤ G' := by
    obtain ⟨h0, h | ⟨g, cap', cur, e0, h1, h2, h3⟩⟩ := hown
    · have := h.2; omega
    · exact ⟨g, cap', e0, h1⟩
  obtain ⟨G', cap', rfl, hG'⟩ := hrow
  have hne : G' ≠ r := by
    rcases hat with e | ⟨b, e, hbb⟩
    · simp only [Value.ownBlock, Option.some.injEq] at e; omega
    · simp only [Value.ownBlock, Option.some.injEq] at e; omega
  refine ⟨hrg1.kept hg (by simp only [Value.ownBlock, ne_eq, Option.some.injEq]; omega) (by simp only [Value.ownBlock, ne_eq, Option.some.injEq]; omega), hb, ⟨G', cap', by simp, hG', hne⟩, by simpa using hown, fun k hk => ?_, fun k hk => ?_, fun k hk => ?_, by have := h.few; simp; omega⟩
  · rcases h.come k hk with e | e
    · by_cases ek : k = x
      · exact .inr (by rw [ek]; simp)
      · refine .inl ?_
        have : (Lit.int .i32 k).sameKey (.int .i32 x) = false := by simp [Lit.sameKey, ek]
        simp [e, this]
    · exact .inr (by simp [e])
  · rcases List.mem_append.1 hk with e | e
    · exact h.wf k e
    · rw [List.mem_singleton.1 e]; exact hx
  · rcases List.mem_append.1 hk with e | e
    · exact h.nz k e
    · rw [List.mem_singleton.1 e]; exact hfx
theorem nz_of {D : DataW Unit} {f : Int → Int} (h : Da.DupD D f) {x c : Int} (hat : ∀ zd, D.atKey (.int .i32 x) zd = .lit (.int .i32 c)) : f x ≠ 0 := by
  intro e
  have := (h.at_ x .nil).symm.trans (hat .nil)
  rw [if_pos e] at this
  cases this
theorem info_i32 : (Tryz.prog.info? 21).map (fun i => (i.zero, i.size, i.bytes)) = some (some (.int .i32 0), 1, 4) := by kernel_rfl
abbrev i32Zeros (n : Nat) : Obj := .cells (madeCells #[.int .i32 0] n) 21 (0, 0)
theorem make_room32 (W : World) (n : Nat) (hn : n ≤ 1073741824) : (Instr.makeSlice 103 (.int .i64 0) (.int .i64 (n : Int))).run Tryz.prog W = .ok (.slice (some ⟨W.heap.size, 0, none⟩) 0 n) (W.alloc (i32Zeros n)) := by
  obtain ⟨i, hi, hz⟩ := Option.map_eq_some_iff.1 info_i32
  simp only [Prod.mk.injEq] at hz
  obtain ⟨h1, h2, h3⟩ := hz
  have := run_make (P := Tryz.prog) W 103 21 i _ Tryz.underlying103 hi h1 .i64 .i64 0 (n : Int) (by omega) (by omega) (by rw [h3]; omega) (by omega)
  rw [this, h2]
  simp only [Int.toNat_natCast, Nat.mul_one]
  rfl
theorem row_of {wr : World} {base n G cap : Nat} {ks : List Int} (h : wr.ownsRow base 21 1 (.slice (some ⟨G, 0, none⟩) n cap) n (ks.map (Value.int .i32))) (hl : ks.length = n) (hn : n ≤ 1000000000) : So.RowI wr G n ks := by
  obtain ⟨h0, h | ⟨g, cap', cur, e, h1, h2, h3, h4, h5, h6⟩⟩ := h
  · cases h.1
  · injection e with e1 e2 e3
    injection e1 with e1
    injection e1 with e1
    subst e1
    refine ⟨⟨cur, h2, by omega, fun j hj => ?_⟩, hl, hn⟩
    have e4 : cur.toList[j]? = (ks.map (Value.int .i32))[j]? := by rw [← h6, List.getElem?_take_of_lt (by omega)]
    rw [Array.getElem?_toList] at e4
    rw [e4, List.getElem?_map, List.getElem?_eq_getElem (by omega), List.getD_eq_getElem?_getD, List.getElem?_eq_getElem (by omega)]
    rfl
theorem row_keep {w w2 : World} {G n b : Nat} {l : List Int} (h : So.RowI w G n l) (hO : Lib.OthersKept 5 (some b) w w2) (hb : b ≠ G) : So.RowI w2 G n l := by
  obtain ⟨cur, h1, _⟩ := h.ar
  exact h.step (by rw [h1]; exact oth_kept hO h1 hb (by decide))
theorem srt_below {W wr w5 : World} {G n : Nat} {l0 l : List Int} (h : Below W.heap.size W wr) (k : So.SrtE wr w5 G n l0 l) (hG : W.heap.size ≤ G) : Below W.heap.size W w5 :=
  ⟨by rw [k.kp.env.1, h.os], by rw [k.kp.env.2.1, h.tape], by rw [k.kp.env.2.2, h.output], Nat.le_trans h.size k.kp.size, fun i hi => by rw [k.kp.old i (Nat.lt_of_lt_of_le hi h.size) (by omega), h.block i hi]⟩
end Go.Proofs.YtaejkbjepbifcabGreatDoor.IxN
namespace Go.Proofs.YtaejkbjepbifcabGreatDoor.IxN
open Go.RowKit Go.Maps Go.Proofs.YtaejkbjepbifcabGreatDoorW.PrintWords Go.Proofs.YtaejkbjepbifcabGreatDoor.Plain Go.Proofs.YtaejkbjepbifcabGreatDoor.Num
set_option linter.unusedVariables false
set_option linter.unusedSimpArgs false
def IWE (w w' : World) (s : Da.DA) (f : Int → Int) (B b : Nat) (e : Ending) : Prop :=
  ∃ ks : List Int, e = .returned (.tuple #[.int .i64 ((16 + 8 * s.n + 8 * ks.length : Nat) : Int), .nilIface]) ∧ KeysFor f ks ∧ Lib.IsBuffer 71 5 B b (u8s (ixB s f ks ks.length)) w' ∧ Below B w w' ∧ B ≤ w'.heap.size
set_option maxHeartbeats 16000000 in
set_option maxRecDepth 100000 in
theorem iwriteTo_calls (w : World) (g mb : Nat) (s : Da.DA) (L : Da.Keys) (f : Int → Int) (X : Da.IxW w g s mb L f) (B b : Nat) (hI : Lib.IsBuffer 71 5 B b [] w) (hS : B ≤ w.heap.size) (hg : g < B) (hm : mb < B) :
    Calls Tryz.prog 32 #[.agg #[.slice (some ⟨g, 0, none⟩) s.n s.n, .map (some mb)], .iface 74 (.pointer (some ⟨b, 0, none⟩))] w fun e w' => IWE w w' s f B b e := by
  have hbB : B ≤ b := hI.1
  have hbw := hI.lt
  have hbig : s.n ≤ 1073741824 := X.arr.big
  have h1 := Aside0.mk (writeTo_calls (w.alloc (.cells #[.slice (some ⟨g, 0, none⟩) s.n s.n, .map (some mb)] 53)) g s (X.arr.step (heap_alloc_old w _ X.arr.lt)) B b (bufAlloc hI _) (by rw [Own.size_alloc]; omega) (by omega))
  have HX := Aside0.mk X
  have HN := Aside0.mk (And.intro hS (And.intro hg (And.intro hm (And.intro hbB hbw))))
  have hx0 : (w.alloc (.cells #[.slice (some ⟨g, 0, none⟩) s.n s.n, .map (some mb)] 53)).heap[w.heap.size]? = some (.cells #[.slice (some ⟨g, 0, none⟩) s.n s.n, .map (some mb)] 53 (0, 0)) := blk_new w _
  have HX0 := Aside0.mk hx0
  obtain ⟨xb, hxb⟩ : ∃ xb, w.heap.size = xb := ⟨_, rfl⟩
  clear X hI hx0 hbB hbw hS hg hm
  go_enter Tryz.func32, Tryz.ntmps32
  go_wp2_with fail
  with_reducible refine Calls.mono h1.out ?_
  rintro e_ W0 ⟨rfl, hI0, hB0, hO0⟩
  have hWS : WS w W0 B b xb g s.n mb f (wrtD s s.n) := by
    have hB1 : Below B w W0 := (below_alloc (Below.refl _ w) _ |>.mono HN.out.1).trans hB0
    exact ⟨hI0, hB1, Nat.le_trans HN.out.1 hB1.size, by rw [← hxb]; exact oth_kept hO0 HX0.out (by have := HN.out; omega) (by decide), by have := HN.out; omega, HX.out.dup.step (hB1.block _ HN.out.2.2.1), HN.out.2.2.1⟩
  have HW0 := Aside0.mk hWS
  obtain ⟨N, D, hN, hD1, hD2, hD3⟩ := hWS.dup
  have hMN : Maps.size D ≤ 1000000 := Nat.le_trans (size_le hD1) hN
  obtain ⟨M, hM⟩ : ∃ M, M = Maps.size D := ⟨_, rfl⟩
  have hlen : ∀ ty, (Builtin.len_ #[51] ty #[.map (some mb)]).run Tryz.prog W0 = .ok (.int .i64 (M : Int)) W0 := fun ty => by rw [hM]; exact hD1.len (P := Tryz.prog) Tryz.underlying51 ty
  rw [← hM] at hMN
  have hmk := make_room32 W0 M (by omega)
  have HM := Aside0.mk hM
  have HD := Aside0.mk hD2
  have HSZ := Aside0.mk (And.intro hMN hN)
  have HMB : Aside0 (mb < W0.heap.size) := ⟨hD1.lt⟩
  obtain ⟨c0, c1⟩ := hWS.cells
  have d1 : (W0.alloc (i32Zeros M)).cell? ⟨xb, 1, none⟩ = some (.map (some mb)) := cells_at (show (W0.alloc (i32Zeros M)).heap[xb]? = _ from (heap_alloc_old W0 _ (blk_lt hWS.box)).trans hWS.box) 1 _ rfl
  have hown := hD1.kept (World.grownBy_alloc W0 (i32Zeros M) none) (by simp)
  have hs1 : (W0.alloc (i32Zeros M)).heap.size = W0.heap.size + 1 := Own.size_alloc _ _
  have HO1 := Aside0.mk hown
  obtain ⟨Z, hZ⟩ : ∃ Z, Z = i32Zeros M := ⟨_, rfl⟩
  rw [← hZ] at hmk d1 hown hs1 HO1
  have HZ := Aside0.mk hZ
  clear hWS hI0 hB0 hO0 hM hD1 hD2 hD3 hN hMN h1 hZ hown hs1
  go_upto_region 5 with fail
  obtain ⟨w1, hw1⟩ : ∃ w1, w1 = W0.alloc Z := ⟨_, rfl⟩
  rw [← hw1] at d1 HO1
  rw [← hw1]
  have HW1 := Aside0.mk hw1
  clear hw1 hlen hmk c0 c1
  go_wp2_with (at_range; refine wpList_range_own _ rfl _ 51 rfl 21 21 Da.key_i32 Tryz.underlying51 _ mb N D rfl HO1.out ?_; intro w2 hrg0 hg0 hs0)
  go_frame
  have hsz1 : w1.heap.size = W0.heap.size + 1 := by rw [HW1.out, Own.size_alloc]
  obtain ⟨r, hr⟩ : ∃ r, w1.heap.size = r := ⟨_, rfl⟩
  rw [hr] at hrg0 ⊢
  have hR0 : RgS W0 w2 mb r N D f (has D) (Maps.size D) (.slice (some ⟨W0.heap.size, 0, none⟩) 0 M) [] := by
    refine ⟨hrg0, ?_, ⟨W0.heap.size, M, rfl, Nat.le_refl _, by omega⟩, ?_, fun k hk => .inl hk, (fun k hk => by cases hk), (fun k hk => by cases hk), by simp⟩
    · exact ⟨by rw [hg0.os, HW1.out]; rfl, by rw [hg0.tape, HW1.out]; rfl, by rw [hg0.output, HW1.out]; rfl, by omega, fun k hk => by rw [hg0.block k (by omega) (by simp), HW1.out]; exact heap_alloc_old W0 _ hk⟩
    · have e : w2.heap[W0.heap.size]? = some (i32Zeros M) := by rw [hg0.block _ (by omega) (by simp), HW1.out, HZ.out]; exact blk_new W0 _
      refine ⟨rfl, .inr ⟨W0.heap.size, M, _, rfl, Nat.le_refl _, e, Nat.zero_le _, by have := HSZ.out; unfold maxLen; omega, by rw [size_madeCells, Nat.mul_one], by simp⟩⟩
  have HR0 := Aside0.mk hR0
  clear hrg0 hg0 hs0 hR0 d1 HO1
  go_loopw [6] (fun v6 wr => ∃ (left : Lit → Bool) (cnt : Nat) (ks : List Int), Aside0 (RgS W0 wr mb r N D f left cnt v6 ks)) (fun _ wr => wr.rangeLeft mb r)
  case atStart => exact ⟨_, _, [], HR0⟩
  case round =>
    clear HR0
    obtain ⟨left, cnt, ks, HR⟩ := hrel
    go_wp2_with (at_next; refine wpList_next_ranges_ii _ rfl _ rfl 21 21 .i32 .i32 Da.key_i32 Tryz.underlying21 Tryz.underlying21 mb r N _ _ _ rfl HR.out.rg ?_ ?_)
    · intro hc0 hl0
      have HK := Aside0.mk (HR.out.done hl0 HD.out (by rw [← HM.out]; exact HSZ.out.1))
      obtain ⟨G, cap, rfl, hG, hGr⟩ := HR.out.row
      have hks : ks.length ≤ 1000000 := HK.out.few
      obtain ⟨n, hn⟩ : ∃ n, n = ks.length := ⟨_, rfl⟩
      have hown := HR.out.own
      rw [← hn] at hown hks ⊢
      have HC := Aside0.mk (So.sort_calls wr G n cap ks (row_of hown hn.symm (by omega)))
      have HN2 := Aside0.mk (And.intro hn (And.intro hG hks))
      have hnz : (n : Int) ≤ 1000000 := by omega
      clear hl0 hown hn hG hGr hks hc0
      go_wp2_with fail
      with_reducible refine Calls.mono HC.out ?_
      rintro e_ w5 ⟨rfl, l, hSE⟩
      have hW5 : WS w w5 B b xb g s.n mb f (wrtD s s.n) := HW0.out.carry (srt_below HR.out.bel hSE HN2.out.2.1)
      have HKL := Aside0.mk (HK.out.perm hSE.perm)
      have hbG : b ≠ G := by have := HW0.out.blt; have := HN2.out; omega
      have hll : l.length = n := hSE.row.len
      have HW5 := Aside0.mk hW5
      have HR5 := Aside0.mk hSE.row
      have HWR := Aside0.mk (NumD.write64 B b _ (n : Int) w5 hW5.buf hW5.sz (u8s_one _) (by simp only [u8s, List.length_map, wrtD_len]; omega))
      have HLL := Aside0.mk hll
      have HBG := Aside0.mk hbG
      clear hSE hW5 hbG hll HC HK HR
      go_wp2_with fail
      with_reducible refine Calls.mono HWR.out ?_
      rintro e_ w6 ⟨rfl, hI6, hB6, hO6⟩
      have HW6 : Aside0 (WS w w6 B b xb g s.n mb f (ixB s f l 0)) := ⟨by rw [ixB_zero, HLL.out]; exact HW5.out.put hI6 hB6 hO6⟩
      have HR6 := Aside0.mk (row_keep HR5.out hO6 HBG.out)
      clear hI6 hB6 hO6 HW5 HR5 HWR
      have hsz : (s.n : Int) ≤ 1073741824 := by omega
      go_wp2_with fail
      with_reducible refine Calls.mono (NumD.size64 _ _) ?_
      rintro _ _ ⟨rfl, rfl⟩
      go_wp2_with fail
      go_loopg [4, 58] n (fun kq v4 v58 w' => ∃ (i A : Nat), v4 = .int .i64 (A : Int) ∧ v58 = .int .i64 (i : Int) ∧ Aside0 (i + kq = n ∧ A = 16 + 8 * s.n + 8 * i) ∧ Aside0 (WS w w' B b xb g s.n mb f (ixB s f l i)) ∧ Aside0 (So.RowI w' G n l))
      case atStart => exact ⟨0, 16 + 8 * s.n, congrArg (Value.int .i64) (by omega), rfl, ⟨by omega⟩, HW6, HR6⟩
      case round =>
        clear HW6 HR6
        obtain ⟨i, A, rfl, rfl, HI, HW, HRo⟩ := hrel
        have hA : (A : Int) ≤ 1000000000000 := by have := HI.out; omega
        have hA0 : (0 : Int) ≤ (A : Int) := by omega
        cases gk with
        | zero =>
          have hlt : ¬ (i : Int) < (n : Int) := by have := HI.out; omega
          go_wp2_with fail
          go_ret2
          exact ⟨l, by rw [show 16 + 8 * s.n + 8 * l.length = A from by have := HI.out; have := HLL.out; omega]; rfl, HKL.out, by rw [show l.length = i from by have := HI.out; have := HLL.out; omega]; exact HW.out.buf, HW.out.below, HW.out.sz⟩
        | succ kz =>
          have hlt : (i : Int) < (n : Int) := by have := HI.out; omega
          have hin : i < n := by omega
          have y0 := HRo.out.cell i hin
          have hli : i < l.length := by rw [HLL.out]; exact hin
          have hsucc := ixB_succ s f l i hli
          have hxw : -2147483648 ≤ l.getD i 0 ∧ l.getD i 0 ≤ 2147483647 := HKL.out.wf _ (by rw [List.getD_eq_getElem?_getD, List.getElem?_eq_getElem hli]; exact List.getElem_mem hli)
          obtain ⟨x, hx⟩ : ∃ x, l.getD i 0 = x := ⟨_, rfl⟩
          rw [hx] at y0 hsucc hxw
          have hbl : (ixB s f l i).length = 16 + 8 * s.n + 8 * i := ixB_len s f l i (by omega)
          have hlen1 : (u8s (ixB s f l i)).length + 4 ≤ 140737488355328 := by simp only [u8s, List.length_map, hbl]; omega
          have HBL := Aside0.mk hbl
          have HWR := Aside0.mk (NumD.write32 B b _ x wr HW.out.buf HW.out.sz (u8s_one _) hlen1)
          have HSU := Aside0.mk hsucc
          have HXW := Aside0.mk hxw
          clear hx hli hsucc hxw hbl hlen1
          go_wp2_with fail
          with_reducible refine Calls.mono HWR.out ?_
          rintro e_ w7 ⟨rfl, hI7, hB7, hO7⟩
          have HW7 := Aside0.mk (HW.out.put hI7 hB7 hO7)
          have HR7 := Aside0.mk (row_keep HRo.out hO7 HBG.out)
          clear hI7 hB7 hO7 HW HRo HWR y0
          go_wp2_with fail
          with_reducible refine Calls.mono (NumD.size32 _ _) ?_
          rintro _ _ ⟨rfl, rfl⟩
          obtain ⟨c0, c1⟩ := HW7.out.cells
          have hlook := dup_look HW7.out.dup x HXW.out
          have HWR := Aside0.mk (NumD.write32 B b _ (f x) w7 HW7.out.buf HW7.out.sz (u8s_one _) (by simp only [u8s, List.length_map, List.length_append, leb_length, HBL.out]; omega))
          go_wp2_with fail
          with_reducible refine Calls.mono HWR.out ?_
          rintro e_ w8 ⟨rfl, hI8, hB8, hO8⟩
          have HW8 : Aside0 (WS w w8 B b xb g s.n mb f (ixB s f l (i + 1))) := ⟨by rw [HSU.out]; exact HW7.out.put hI8 hB8 hO8⟩
          have HR8 := Aside0.mk (row_keep HR7.out hO8 HBG.out)
          clear hI8 hB8 hO8 HW7 HR7 HWR c0 c1 hlook
          go_wp2_with fail
          with_reducible refine Calls.mono (NumD.size32 _ _) ?_
          rintro _ _ ⟨rfl, rfl⟩
          go_wp2_with fail
          go_roundg kz
          case measure => omega
          case rel => exact ⟨i + 1, A + 8, congrArg (Value.int .i64) (by omega), congrArg (Value.int .i64) (by omega), ⟨by have := HI.out; omega⟩, HW8, HR8⟩
    · intro x c w3 cnt1 hwx hwc hlx hat hrg1 hlt hg1 hs1 hen
      obtain ⟨G, cap, rfl, hG, hGr⟩ := HR.out.row
      have hrW : W0.heap.size ≤ r := by omega
      obtain ⟨hown3, hbel3⟩ := HR.out.took hg1 hGr hrW
      have HO3 := Aside0.mk hown3
      have HB3 := Aside0.mk hbel3
      have HRG := Aside0.mk hrg1
      have HX := Aside0.mk (wf_of hwx)
      have HNZ := Aside0.mk (nz_of HD.out hat)
      have HG := Aside0.mk (And.intro hG hGr)
      have hkl : ks.length ≤ 1000000 := by have := HR.out.few; have := HM.out; have := HSZ.out; omega
      have HL := Aside0.mk (And.intro hlt hkl)
      clear hown3 hbel3 hrg1 hwx hwc hat hlx hg1 hs1 hG hGr hlt hrW hkl
      go_wp2_with ((with_reducible refine gate_builtin (b := .append) (xs := #[.tmp 37, .tmp 39]) rfl ?_); at_builtin; refine print_append_cells W0.heap.size rfl (.tmp 37) (.tmp 39) 103 21 (.int .i32 0) 1 4 rfl Tryz.underlying103 info_i32 rfl (by decide) (by decide) (.slice (some ⟨G, 0, none⟩) ks.length cap) ks.length (ks.map (Value.int .i32)) [.int .i32 x] rfl rfl rfl (fun u hu => by rw [List.mem_singleton.1 hu]; rfl) HO3.out HB3.out HB3.out.size (by have := HL.out.2; omega) ?_; intro v1 w4 ho hb hg hat)
      have HS := Aside0.mk (HR.out.step HRG.out HL.out.1 HX.out HNZ.out HG.out.2 HG.out.1 HMB.out ho hb hg hat)
      clear ho hb hg hat
      go_roundw
      case rel => exact ⟨_, cnt1, ks ++ [x], HS⟩
      case measure => rw [HS.out.rg.left_eq, HR.out.rg.left_eq]; exact HL.out.1
end Go.Proofs.YtaejkbjepbifcabGreatDoor.IxN
namespace Go.Proofs.YtaejkbjepbifcabGreatDoor.IxN
open Go.RowKit Go.Maps Go.Proofs.YtaejkbjepbifcabGreatDoorW.PrintWords Go.Proofs.YtaejkbjepbifcabGreatDoor.Plain Go.Proofs.YtaejkbjepbifcabGreatDoor.Num
set_option linter.unusedVariables false
set_option linter.unusedSimpArgs false
theorem ebys_at (f : Int → Int) (l : List Int) (i : Nat) (hi : i < l.length) : ∃ r, l.flatMap (eby f) = (l.take i).flatMap (eby f) ++ (eby f (l.getD i 0) ++ r) := by
  refine ⟨(l.drop (i + 1)).flatMap (eby f), ?_⟩
  have e : l.getD i 0 = l[i] := by rw [List.getD_eq_getElem?_getD, List.getElem?_eq_getElem hi]; rfl
  conv => lhs; rw [← List.take_append_drop i l, List.drop_eq_getElem_cons hi]
  rw [List.flatMap_append, List.flatMap_cons, e]
theorem back32' (b : Int) (h : -2147483648 ≤ b ∧ b ≤ 2147483647) : wrap32 (valb (leb 4 (b % 18446744073709551616))) = b := by
  rw [valb_leb4 _ (by omega)]; unfold wrap32; omega
theorem data_head (s : Da.DA) (f : Int → Int) (ks : List Int) (h : s.n ≤ 1073741824) : valb ((ixB s f ks ks.length).take 8) = s.n := by
  have e : (ixB s f ks ks.length).take 8 = (wrtD s s.n).take 8 := by
    unfold ixB
    rw [List.append_assoc, List.take_append_of_le_length (by rw [wrtD_len]; omega)]
  rw [e, wrtD_head s s.n h]
theorem data_val (s : Da.DA) (f : Int → Int) (ks : List Int) (j : Nat) (hj : j < s.n * 2) : val 8 (ixB s f ks ks.length) j = val 8 (wrtD s s.n) j := by
  have hl := wrtD_len s s.n
  unfold val ixB
  rw [List.append_assoc, List.drop_append_of_le_length (by omega), List.take_append_of_le_length (by rw [List.length_drop]; omega)]
theorem data_cells (s : Da.DA) (f : Int → Int) (ks : List Int) : rcells 8 (ixB s f ks ks.length) (s.n * 2) (s.n * 2) = rcells 8 (wrtD s s.n) (s.n * 2) (s.n * 2) := by
  unfold rcells
  apply Array.ext
  · simp
  · intro j h1 h2
    have hj : j < s.n * 2 := by simpa using h1
    simp only [Array.getElem_map, Array.getElem_range, if_pos hj]
    rw [data_val s f ks j hj]
theorem data_size (s : Da.DA) (f : Int → Int) (ks : List Int) (h : ks.length ≤ 1000000) : wrap64 (valb (((ixB s f ks ks.length).drop (8 + 8 * s.n)).take 8)) = (ks.length : Int) := by
  have e : ((ixB s f ks ks.length).drop (8 + 8 * s.n)).take 8 = leb 8 ((ks.length : Int) % 18446744073709551616) := by
    unfold ixB
    rw [List.append_assoc, List.drop_left' (wrtD_len s s.n), List.take_left' (leb_length 8 _)]
  rw [e, valb_leb8 _ (by omega) (by omega)]
  unfold wrap64; omega
theorem data_entry (s : Da.DA) (f : Int → Int) (ks : List Int) (i : Nat) (hi : i < ks.length) :
    ((ixB s f ks ks.length).drop (16 + 8 * s.n + 8 * i)).take 4 = leb 4 (ks.getD i 0 % 18446744073709551616) ∧ ((ixB s f ks ks.length).drop (16 + 8 * s.n + 8 * i + 4)).take 4 = leb 4 (f (ks.getD i 0) % 18446744073709551616) := by
  obtain ⟨r, hr⟩ := ebys_at f ks i hi
  have e : ixB s f ks ks.length = ixB s f ks i ++ (leb 4 (ks.getD i 0 % 18446744073709551616) ++ (leb 4 (f (ks.getD i 0) % 18446744073709551616) ++ r)) := by
    unfold ixB
    rw [List.take_length, hr]
    simp only [eby, List.append_assoc]
  have hl := ixB_len s f ks i (by omega)
  rw [e]
  constructor
  · rw [List.drop_left' hl, List.take_left' (leb_length 4 _)]
  · rw [← List.drop_drop, List.drop_left' hl, List.drop_left' (leb_length 4 _), List.take_left' (leb_length 4 _)]
theorem data_bytes (s : Da.DA) (f : Int → Int) (ks : List Int) (m : Nat) : ∀ x ∈ ixB s f ks m, 0 ≤ x ∧ x < 256 := fun x hx => by
  unfold ixB at hx
  rcases List.mem_append.1 hx with h | h
  · rcases List.mem_append.1 h with h | h
    · exact wrtD_bytes s s.n x h
    · exact leb_one 8 _ x h
  · obtain ⟨i, _, h⟩ := List.mem_flatMap.1 h
    unfold eby at h
    rcases List.mem_append.1 h with h | h
    · exact leb_one 4 _ x h
    · exact leb_one 4 _ x h
def fI (f : Int → Int) (ks : List Int) (i : Nat) (k : Int) : Int := if k ∈ ks.take i then f k else 0
theorem fI_zero (f : Int → Int) (ks : List Int) : fI f ks 0 = fun _ => 0 := by funext k; simp [fI]
theorem fI_all (f : Int → Int) (ks : List Int) (h : KeysFor f ks) : fI f ks ks.length = f := by
  funext k
  unfold fI
  rw [List.take_length]
  by_cases e : k ∈ ks
  · rw [if_pos e]
  · rw [if_neg e]
    by_cases e2 : f k = 0
    · exact e2.symm
    · exact absurd (h.all k e2) e
theorem dup_put {D : DataW Unit} {f : Int → Int} {ks : List Int} {i : Nat} (h : Da.DupD D (fI f ks i)) (hi : i < ks.length) (hk : f (ks.getD i 0) ≠ 0) : Da.DupD (D.put (.int .i32 (ks.getD i 0)) (.lit (.int .i32 (f (ks.getD i 0))))) (fI f ks (i + 1)) := by
  have e1 : ks.take (i + 1) = ks.take i ++ [ks.getD i 0] := by
    rw [List.take_succ_eq_append_getElem hi, List.getD_eq_getElem?_getD, List.getElem?_eq_getElem hi]; rfl
  refine ⟨h.tidy.put (by simp [Go.WideAt.IsKeyLit]) _, fun k z => ?_⟩
  unfold fI
  rw [e1]
  by_cases e : k = ks.getD i 0
  · subst e
    rw [show (if ks.getD i 0 ∈ ks.take i ++ [ks.getD i 0] then f (ks.getD i 0) else 0) = f (ks.getD i 0) from if_pos (List.mem_append_right _ (List.mem_singleton_self _)), if_neg hk, atKey_put_same h.tidy.isMap (by simp [Go.WideAt.IsKeyLit])]
  · rw [atKey_put_other (by intro h; injection h with _ h; exact e h), h.at_]
    unfold fI
    simp only [List.mem_append, List.mem_singleton, e, or_false]
theorem make_hint (w : World) (n : Int) : (Instr.makeMap 51 (some (.int .i64 n))).run Tryz.prog w = .ok (.map (some w.heap.size)) (w.alloc (.map #[] 0)) := by
  simp [Instr.makeMap, run_underlying Tryz.underlying51, asInt, asIntOf, Result.andThen]
structure Rd1 (w w' : World) (r : Nat) (a : Addr) (n c pos : Nat) (x : Int) : Prop where
  rd : w'.heap[r]? = some (rdr (some a) n c pos (-1))
  bx : w'.heap[w.heap.size]? = some (.cells #[.int .i32 x] 21 (0, 0))
  size : w.heap.size < w'.heap.size
  old : ∀ i, i < w.heap.size → i ≠ r → w'.heap[i]? = w.heap[i]?
  env : Env w w'
theorem rd_box (w : World) (r : Nat) (a : Addr) (n c i : Nat) (pr : Int) (data : List Int) (hr : w.heap[r]? = some (rdr (some a) n c i pr)) (hC : (Kd.int .u8).C w (some a) n data) (hb : ∀ x ∈ data, 0 ≤ x ∧ x < 256) (hi : i + 4 ≤ n) (hnc : n ≤ c) (hn : n ≤ 1000000000000) (hra : r ≠ a.block) (hab : a.block < w.heap.size) :
    Calls Tryz.prog 38 #[.iface 58 (.pointer (some ⟨r, 0, none⟩)), .pointer (some ⟨w.heap.size, 0, none⟩)] (w.alloc (.cells #[.int .i32 0] 21)) fun e w' => e = .returned .nilIface ∧ Rd1 w w' r a n c (i + 4) (wrap32 (valb ((data.drop i).take 4))) := by
  have hrl := blk_lt hr
  refine (NumD.read32_ok (w.alloc (.cells #[.int .i32 0] 21)) r a n c i pr data w.heap.size 0 0 (blk_alloc hr _) (Kd.C_alloc hC _) hb hi hnc hn hra (by rw [Own.size_alloc]; omega) (cells_at (blk_new w _) 0 _ rfl) (froz_at (blk_new w _) 0) (by omega)).mono ?_
  rintro e w' ⟨he, hk, h1, h2⟩
  refine ⟨he, h1, ?_, by have := hk.1; rw [Own.size_alloc] at this; omega, fun j hj hne => ?_, hk.env⟩
  · rw [h2]
    exact blk_put (blk_new w _) 0 _ rfl
  · rw [hk.2 j (by rw [Own.size_alloc]; omega) (by omega)]
    exact heap_alloc_old w _ hj
end Go.Proofs.YtaejkbjepbifcabGreatDoor.IxN
namespace Go.Proofs.YtaejkbjepbifcabGreatDoor.IxN
open Go.RowKit Go.Maps Go.Proofs.YtaejkbjepbifcabGreatDoorW.PrintWords Go.Proofs.YtaejkbjepbifcabGreatDoor.Plain Go.Proofs.YtaejkbjepbifcabGreatDoor.Num
set_option linter.unusedVariables false
set_option linter.unusedSimpArgs false
abbrev ixBox (v m : Value) : Obj := .cells #[v, m] 53 (0, 0)
structure RdS (W w : World) (r : Nat) (a : Addr) (n c rb ib G mb i : Nat) (s : Da.DA) (f : Int → Int) (ks : List Int) : Prop where
  kept : Kp W w (fun y => y = r)
  rd : w.heap[r]? = some (rdr (some a) n c (16 + 8 * s.n + 8 * i) (-1))
  rbx : w.heap[rb]? = some (ixBox (.slice none 0 0) (.map none))
  ibx : w.heap[ib]? = some (ixBox (.slice (some ⟨G, 0, none⟩) s.n s.n) (.map (some mb)))
  ar : Da.Arr w G s
  mp : ∃ N D, N ≤ i ∧ Da.OMap w mb N D ∧ Da.DupD D (fI f ks i)
  new : W.heap.size ≤ rb ∧ rb < ib ∧ W.heap.size ≤ G ∧ W.heap.size ≤ mb ∧ r < W.heap.size ∧ rb ≠ mb ∧ ib ≠ mb ∧ G ≠ mb
def RdE (W w' : World) (r : Nat) (s : Da.DA) (f : Int → Int) (L : Da.Keys) (e : Ending) : Prop := ∃ G mb, e = .returned (.tuple #[.agg #[.slice (some ⟨G, 0, none⟩) s.n s.n, .map (some mb)], .nilIface]) ∧ Da.IxW w' G s mb L f ∧ W.heap.size ≤ G ∧ W.heap.size ≤ mb ∧ Kp W w' (fun y => y = r)
set_option maxHeartbeats 16000000 in
set_option maxRecDepth 100000 in
theorem iread_calls (W : World) (r : Nat) (a : Addr) (n c : Nat) (pr : Int) (s : Da.DA) (f : Int → Int) (ks : List Int) (L : Da.Keys) (x : Ctx W r a n c (ixB s f ks ks.length)) (hr : W.heap[r]? = some (rdr (some a) n c 0 pr)) (hn : n = (ixB s f ks ks.length).length) (hK : KeysFor f ks) (hf : ∀ k, 0 ≤ f k ∧ f k ≤ 1000000) (hS : Small s) (hG : Da.Good s 0 L) (h0 : 0 < s.n) :
    Calls Tryz.prog 20 #[.iface 58 (.pointer (some ⟨r, 0, none⟩))] W fun e w' => RdE W w' r s f L e := by
  have hlen := ixB_len s f ks ks.length (Nat.le_refl _)
  rw [← hn] at hlen
  have hbig := hS.2
  obtain ⟨data, hdata⟩ : ∃ data, data = ixB s f ks ks.length := ⟨_, rfl⟩
  rw [← hdata] at x hn
  have HK := Aside0.mk hK
  have HF := Aside0.mk hf
  have HS := Aside0.mk hS
  have HG := Aside0.mk (And.intro hG h0)
  have HX := Aside0.mk x
  have HR := Aside0.mk hr
  have HL := Aside0.mk hlen
  have HD := Aside0.mk hdata
  have hks := hK.few
  have hrl := blk_lt hr
  have hx2 : Ctx ((W.alloc (ixBox (.slice none 0 0) (.map none))).alloc (ixBox (.slice none 0 0) (.map none))) r a n c data :=
    ⟨Kd.C_alloc (Kd.C_alloc x.row _) _, x.bytes, x.cap, x.few, x.ne, by rw [Own.size_alloc, Own.size_alloc]; have := x.lt; omega, by rw [Own.size_alloc, Own.size_alloc]; have := x.rlt; omega, sntAlloc (sntAlloc x.snt _) _, x.eof, x.bad⟩
  have hv : valb ((data.drop 0).take 8) = s.n := by rw [List.drop_zero, hdata]; exact data_head s f ks hbig
  have T1 := Aside0.mk (readDA_calls ((W.alloc (ixBox (.slice none 0 0) (.map none))).alloc (ixBox (.slice none 0 0) (.map none))) r a n c s.n pr data hx2 (blk_alloc (blk_alloc hr _) _) (by omega) (by rw [hv, wrap_ok (by omega) (by omega)]) (by omega) hbig)
  obtain ⟨W2, hW2⟩ : ∃ W2, W2 = (W.alloc (ixBox (.slice none 0 0) (.map none))).alloc (ixBox (.slice none 0 0) (.map none)) := ⟨_, rfl⟩
  rw [← hW2] at T1
  have hs2 : W2.heap.size = W.heap.size + 2 := by rw [hW2, Own.size_alloc, Own.size_alloc]
  have k2 : Kp W W2 (fun y => y = r) := ⟨by omega, fun i hi _ => by rw [hW2, heap_alloc_old _ _ (by rw [Own.size_alloc]; omega), heap_alloc_old _ _ hi], by rw [hW2]; exact ⟨rfl, rfl, rfl⟩⟩
  have b2 : W2.heap[W.heap.size]? = some (ixBox (.slice none 0 0) (.map none)) := by rw [hW2]; exact blk_alloc (blk_new W _) _
  have b3 : W2.heap[W.heap.size + 1]? = some (ixBox (.slice none 0 0) (.map none)) := by rw [hW2, ← Own.size_alloc W (ixBox (.slice none 0 0) (.map none))]; exact blk_new _ _
  have HB2 := Aside0.mk (And.intro hs2 (And.intro k2 (And.intro b2 b3)))
  have HW2 := Aside0.mk hW2
  obtain ⟨rb, hrb⟩ : ∃ rb, rb = W.heap.size := ⟨_, rfl⟩
  obtain ⟨ib, hib⟩ : ∃ ib, ib = W.heap.size + 1 := ⟨_, rfl⟩
  have HRB := Aside0.mk (And.intro hrb (And.intro hib hrl))
  have hksz : (ks.length : Int) ≤ 1000000 := by omega
  clear x hr hn hdata hlen hx2 hv hs2 k2 b2 b3 hW2 hK hf hS hG h0 hks
  go_enter Tryz.func20, Tryz.ntmps20
  go_upto_region 2 with fail
  rw [← HW2.out]
  rw [← hib, ← hrb]
  clear hib hrb
  go_wp2_with fail
  with_reducible refine Calls.mono T1.out ?_
  rintro e_ w3 (⟨G, rfl, hfit, hrs⟩ | ⟨v, t, y, rfl, hsh, hk⟩)
  · obtain ⟨hs2, k2, b2, b3⟩ := HB2.out
    obtain ⟨hrb, hib, hrl⟩ := HRB.out
    have hGn := hrs.new
    have k3 := hrs.kept
    have b3' : w3.heap[ib]? = some (ixBox (.slice none 0 0) (.map none)) := by rw [hib, k3.old _ (by omega) (by omega)]; exact b3
    have b2' : w3.heap[rb]? = some (ixBox (.slice none 0 0) (.map none)) := by rw [hrb, k3.old _ (by omega) (by omega)]; exact b2
    have hGlt := blk_lt hrs.row
    have hk3 : Kp W w3 (fun y => y = r) := Kp.thru k2 k3
    have H3 := Aside0.mk (And.intro hrs (And.intro hk3 (And.intro b2' b3')))
    have HGN : Aside0 (G ≠ ib ∧ G ≠ rb ∧ rb < ib ∧ r < rb ∧ W.heap.size ≤ rb ∧ W.heap.size ≤ G ∧ ib < w3.heap.size ∧ G < w3.heap.size ∧ W.heap.size < w3.heap.size) := ⟨by have := k3.size; omega⟩
    have c0 := cells_at b3' 0 _ rfl
    have f0 := froz_at b3' 0
    clear hs2 k2 b2 b3 hrb hib hrl hGn k3 b3' b2' hGlt hk3 hrs hfit T1
    go_upto_region 7 with fail
    obtain ⟨w4, hw4⟩ : ∃ w4, w4 = (w3.setCell ⟨ib, 0, none⟩ (.slice (some ⟨G, 0, none⟩) s.n s.n)).alloc (.cells #[.int .i64 0] 2) := ⟨_, rfl⟩
    rw [← hw4]
    clear c0 f0
    obtain ⟨hrs, hk3, b2, b3⟩ := H3.out
    obtain ⟨g1, g2, g3, g4, g5, g6, g7, g8, g9⟩ := HGN.out
    have z4 : w4.heap.size = w3.heap.size + 1 := by rw [hw4, Own.size_alloc, size_setCell]
    have o4 : ∀ i, i < w3.heap.size → i ≠ ib → w4.heap[i]? = w3.heap[i]? := fun i hi hne => by rw [hw4, heap_alloc_old _ _ (by rw [size_setCell]; exact hi), Below.heap_setCell _ _ _ _ hne]
    have e4 : Env w3 w4 := by rw [hw4]; exact ⟨rfl, rfl, rfl⟩
    have i4 : w4.heap[ib]? = some (ixBox (.slice (some ⟨G, 0, none⟩) s.n s.n) (.map none)) := by rw [hw4]; exact blk_alloc (blk_put b3 0 _ rfl) _
    have s4 : w4.heap[w3.heap.size]? = some (.cells #[.int .i64 0] 2 (0, 0)) := by rw [hw4, ← size_setCell w3 ⟨ib, 0, none⟩ (.slice (some ⟨G, 0, none⟩) s.n s.n)]; exact blk_new _ _
    have k4 : Kp W w4 (fun y => y = r) := ⟨by omega, fun i hi hne => by rw [o4 i (by omega) (by omega)]; exact hk3.old i hi hne, hk3.env.trans e4⟩
    have r4 : w4.heap[r]? = some (rdr (some a) n c (8 + 8 * s.n) (-1)) := by rw [o4 r (by omega) (by omega), hrs.rd]; rw [show 8 + 4 * (s.n * 2) = 8 + 8 * s.n from by omega]
    have a4 : Da.Arr w4 G s := by
      have h := hrs.row
      rw [HD.out, data_cells] at h
      exact (arr_of HS.out h).step (o4 G (by omega) g1)
    have q4 : w4.heap[rb]? = some (ixBox (.slice none 0 0) (.map none)) := by rw [o4 rb (by omega) (by omega)]; exact b2
    obtain ⟨szb, hszb⟩ : ∃ szb, szb = w3.heap.size := ⟨_, rfl⟩
    rw [← hszb] at s4 z4 ⊢
    have T2 := Aside0.mk (NumD.read64_ok w4 r a n c (8 + 8 * s.n) (-1) data szb 0 0 r4 (HX.out.rowAt k4) HX.out.bytes (by have := HL.out; omega) HX.out.cap HX.out.few HX.out.ne (Nat.lt_of_lt_of_le HX.out.lt k4.size) (cells_at s4 0 _ rfl) (froz_at s4 0) (by omega))
    have H4 := Aside0.mk (And.intro z4 (And.intro k4 (And.intro i4 (And.intro a4 (And.intro q4 s4)))))
    have HSZ := Aside0.mk hszb
    clear hw4 hrs hk3 b2 b3 g1 g2 g3 g4 g5 g6 g7 g8 g9 z4 o4 e4 i4 s4 k4 r4 a4 q4 hszb
    go_wp2_with fail
    with_reducible refine Calls.mono T2.out ?_
    rintro e_ w5 ⟨rfl, hk5, hr5, hs5⟩
    obtain ⟨z4, k4, i4, a4, q4, s4⟩ := H4.out
    obtain ⟨g1, g2, g3, g4, g5, g6, g7, g8, g9⟩ := HGN.out
    have hszb := HSZ.out
    have z5 := hk5.size
    have i5 : w5.heap[ib]? = some (ixBox (.slice (some ⟨G, 0, none⟩) s.n s.n) (.map none)) := by rw [hk5.old _ (by omega) (by omega)]; exact i4
    have q5 : w5.heap[rb]? = some (ixBox (.slice none 0 0) (.map none)) := by rw [hk5.old _ (by omega) (by omega)]; exact q4
    have a5 : Da.Arr w5 G s := a4.step (hk5.old _ (by omega) (by omega))
    have k5 : Kp W w5 (fun y => y = r) := ⟨by omega, fun i hi hne => by rw [hk5.old i (by omega) (by omega)]; exact k4.old i hi hne, k4.env.trans hk5.env⟩
    have s5 : w5.heap[szb]? = some (.cells #[.int .i64 (ks.length : Int)] 2 (0, 0)) := by
      rw [hs5, HD.out, data_size s f ks HK.out.few]
      exact blk_put s4 0 _ rfl
    have c5 : w5.cell? ⟨szb, 0, none⟩ = some (.int .i64 (ks.length : Int)) := cells_at s5 0 _ rfl
    have hmm := make_hint w5 (ks.length : Int)
    have c6 : (w5.alloc (.map #[] 0)).cell? ⟨ib, 1, none⟩ = some (.map none) := cells_at (blk_alloc i5 _) 1 _ rfl
    have f6 : (w5.alloc (.map #[] 0)).frozen? ⟨ib, 1, none⟩ = false := froz_at (blk_alloc i5 _) 1
    have HMB : Aside0 (r ≠ w5.heap.size ∧ ib < w5.heap.size ∧ rb < w5.heap.size ∧ G < w5.heap.size ∧ szb < w5.heap.size ∧ szb ≠ ib ∧ W.heap.size ≤ w5.heap.size) := ⟨by omega⟩
    have H5 := Aside0.mk (And.intro i5 (And.intro q5 (And.intro a5 (And.intro k5 (And.intro s5 hr5)))))
    have HZ5 : Aside0 (szb + 1 ≤ w5.heap.size) := ⟨by omega⟩
    clear hk5 hr5 hs5 z4 k4 i4 a4 q4 s4 g1 g2 g3 g4 g5 g6 g7 g8 g9 hszb z5 i5 q5 a5 k5 s5 T2
    go_upto_region 11 with fail
    obtain ⟨mb, hmb⟩ : ∃ mb, mb = w5.heap.size := ⟨_, rfl⟩
    rw [← hmb]
    obtain ⟨w6, hw6⟩ : ∃ w6, w6 = (w5.alloc (.map #[] 0)).setCell ⟨ib, 1, none⟩ (.map (some mb)) := ⟨_, rfl⟩
    rw [← hw6]
    obtain ⟨i5, q5, a5, k5, s5, hr5⟩ := H5.out
    obtain ⟨m1, m2, m3, m4, m5, m6, m7⟩ := HMB.out
    obtain ⟨g1, g2, g3, g4, g5, g6, g7, g8, g9⟩ := HGN.out
    have o6 : ∀ i, i < w5.heap.size → i ≠ ib → w6.heap[i]? = w5.heap[i]? := fun i hi hne => by rw [hw6, Below.heap_setCell _ _ _ _ hne]; exact heap_alloc_old w5 _ hi
    have hR6 : RdS W w6 r a n c rb ib G mb 0 s f ks := by
      refine ⟨⟨by rw [hw6, size_setCell, Own.size_alloc]; omega, fun i hi hne => by rw [o6 i (by omega) (by omega)]; exact k5.old i hi hne, k5.env.trans (by rw [hw6]; exact ⟨rfl, rfl, rfl⟩)⟩, by rw [o6 r (by omega) (by omega), hr5]; rw [show 8 + 8 * s.n + 8 = 16 + 8 * s.n + 8 * 0 from by omega], by rw [o6 rb m3 (by omega)]; exact q5, ?_, a5.step (o6 G m4 g1), ⟨0, .map [], Nat.le_refl _, ?_, by rw [fI_zero]; exact Da.dup_start⟩, by omega⟩
      · rw [hw6]; exact blk_put (blk_alloc i5 _) 1 _ rfl
      · have h0 : Da.OMap (w5.alloc (.map #[] 0)) mb 0 (.map []) := by rw [hmb]; exact World.ownsMap_made (H := Unit) w5 Tryz.prog 21 (plainElem Tryz.prog 21)
        exact Da.own_mapD h0 (by rw [hw6]; exact Below.heap_setCell _ _ _ _ (by show mb ≠ ib; omega))
    have c7 : w6.cell? ⟨szb, 0, none⟩ = some (.int .i64 (ks.length : Int)) := cells_at (show w6.heap[szb]? = _ from (o6 szb m5 m6).trans s5) 0 _ rfl
    have HR6 := Aside0.mk hR6
    clear i5 q5 a5 k5 s5 hr5 m1 m2 m3 m4 m5 m6 m7 g1 g2 g3 g4 g5 g6 g7 g8 g9 o6 hR6 hw6 hmb c5 c6 f6 hmm H5 HMB HGN HZ5 HSZ H4 H3
    go_wp2_with fail
    go_loopg [35] ks.length (fun kq v35 w' => ∃ (i : Nat), v35 = .int .i64 (i : Int) ∧ Aside0 (i + kq = ks.length) ∧ Aside0 (RdS W w' r a n c rb ib G mb i s f ks))
    case atStart => exact ⟨0, rfl, ⟨by omega⟩, HR6⟩
    case round =>
      clear HR6 c7
      obtain ⟨i, rfl, HI, HRS⟩ := hrel
      cases gk with
      | zero =>
        have hlt : ¬ (i : Int) < (ks.length : Int) := by have := HI.out; omega
        have hi : i = ks.length := by have := HI.out; omega
        obtain ⟨h1, h2, h3, h4, h5, ⟨N, D, h6, h7, h8⟩, h9⟩ := HRS.out
        have c0 : wr.cell? ⟨ib, 0, none⟩ = some (.slice (some ⟨G, 0, none⟩) s.n s.n) := cells_at h4 0 _ rfl
        have c1 : wr.cell? ⟨ib, 1, none⟩ = some (.map (some mb)) := cells_at h4 1 _ rfl
        have d0 : wr.cell? ⟨rb, 0, none⟩ = some (.slice none 0 0) := cells_at h3 0 _ rfl
        have d1 : wr.cell? ⟨rb, 1, none⟩ = some (.map none) := cells_at h3 1 _ rfl
        have f0 : ∀ j, wr.frozen? ⟨rb, j, none⟩ = false := fun j => froz_at h3 j
        have HD' := Aside0.mk (And.intro h6 (And.intro h7 h8))
        have HI2 := Aside0.mk hi
        clear h1 h2 h3 h4 h5 h6 h7 h8 h9 hi
        go_wp2_with fail
        obtain ⟨h1, h2, h3, h4, h5, -, h9⟩ := HRS.out
        obtain ⟨h6, h7, h8⟩ := HD'.out
        have q : ((wr.setCell ⟨rb, 0, none⟩ (.slice (some ⟨G, 0, none⟩) s.n s.n)).setCell ⟨rb, 1, none⟩ (.map (some mb))).heap[rb]? = some (ixBox (.slice (some ⟨G, 0, none⟩) s.n s.n) (.map (some mb))) := blk_put (blk_put h3 0 _ rfl) 1 _ rfl
        have y0 := cells_at q 0 _ rfl
        have y1 := cells_at q 1 _ rfl
        have o9 : ∀ j, j ≠ rb → ((wr.setCell ⟨rb, 0, none⟩ (.slice (some ⟨G, 0, none⟩) s.n s.n)).setCell ⟨rb, 1, none⟩ (.map (some mb))).heap[j]? = wr.heap[j]? := fun j hj => by rw [Below.heap_setCell _ _ _ _ hj, Below.heap_setCell _ _ _ _ hj]
        have hix : Da.IxW ((wr.setCell ⟨rb, 0, none⟩ (.slice (some ⟨G, 0, none⟩) s.n s.n)).setCell ⟨rb, 1, none⟩ (.map (some mb))) G s mb L f := by
          refine ⟨h5.step (o9 G ?_), HG.out.1, HG.out.2, ⟨N, D, by have := HK.out.few; have := HI2.out; omega, Da.own_mapD h7 (o9 mb ?_), ?_, HF.out⟩⟩
          · intro e
            rw [← e] at h3
            obtain ⟨cs, hc, _⟩ := h5.ar
            rw [hc] at h3
            injection h3 with h3
            injection h3 with _ h3
            exact absurd h3 (by decide)
          · exact Ne.symm h9.2.2.2.2.2.1
          · rw [HI2.out, fI_all f ks HK.out] at h8; exact h8
        have hkE : Kp W ((wr.setCell ⟨rb, 0, none⟩ (.slice (some ⟨G, 0, none⟩) s.n s.n)).setCell ⟨rb, 1, none⟩ (.map (some mb))) (fun y => y = r) := ⟨by rw [size_setCell, size_setCell]; exact h1.size, fun j hj hne => by rw [o9 j (by have := h9.1; omega)]; exact h1.old j hj hne, h1.env.trans ⟨rfl, rfl, rfl⟩⟩
        exact bodyPost_ret (v := .tuple #[.agg #[.slice (some ⟨G, 0, none⟩) s.n s.n, .map (some mb)], .nilIface]) (by simp [results, Tryz.results20, go_sem, y0, y1]) rfl ⟨G, mb, rfl, hix, h9.2.2.1, h9.2.2.2.1, hkE⟩
      | succ kz =>
        have hlt : (i : Int) < (ks.length : Int) := by have := HI.out; omega
        have hik : i < ks.length := by omega
        obtain ⟨e1, e2⟩ := data_entry s f ks i hik
        rw [← HD.out] at e1 e2
        have hkm : ks.getD i 0 ∈ ks := by rw [List.getD_eq_getElem?_getD, List.getElem?_eq_getElem hik]; exact List.getElem_mem hik
        have hkw := HK.out.wf _ hkm
        have hkz := HK.out.nz _ hkm
        have hfw := HF.out (ks.getD i 0)
        have T7 := Aside0.mk (rd_box wr r a n c (16 + 8 * s.n + 8 * i) (-1) data HRS.out.rd (HX.out.rowAt HRS.out.kept) HX.out.bytes (by have := HL.out; omega) HX.out.cap HX.out.few HX.out.ne (Nat.lt_of_lt_of_le HX.out.lt HRS.out.kept.size))
        rw [e1, back32' _ hkw] at T7
        obtain ⟨x, hx⟩ : ∃ x, ks.getD i 0 = x := ⟨_, rfl⟩
        rw [hx] at T7 e2 hkw hkz hfw
        have HKW := Aside0.mk (And.intro hx (And.intro hkw (And.intro hkz (And.intro hfw e2))))
        have HIK := Aside0.mk hik
        clear e1 e2 hkm hkw hkz hfw hx hik
        go_wp2_with fail
        with_reducible refine Calls.mono T7.out ?_
        rintro e_ w7 ⟨rfl, R7⟩
        have k7 : Kp W w7 (fun y => y = r) := ⟨Nat.le_trans HRS.out.kept.size (Nat.le_of_lt R7.size), fun j hj hne => by rw [R7.old j (Nat.lt_of_lt_of_le hj HRS.out.kept.size) hne]; exact HRS.out.kept.old j hj hne, HRS.out.kept.env.trans R7.env⟩
        have T8 := Aside0.mk (rd_box w7 r a n c (16 + 8 * s.n + 8 * i + 4) (-1) data R7.rd (HX.out.rowAt k7) HX.out.bytes (by have := HL.out; have := HIK.out; omega) HX.out.cap HX.out.few HX.out.ne (Nat.lt_of_lt_of_le HX.out.lt k7.size))
        rw [HKW.out.2.2.2.2, back32' _ (by have := HKW.out.2.2.2.1; omega)] at T8
        have HR7 := Aside0.mk R7
        have HK7 := Aside0.mk k7
        clear R7 k7 T7
        go_wp2_with fail
        with_reducible refine Calls.mono T8.out ?_
        rintro e_ w8 ⟨rfl, R8⟩
        obtain ⟨h1, h2, h3, h4, h5, ⟨N, D, h6, h7, h8⟩, h9⟩ := HRS.out
        have hl4 := blk_lt h4
        have hl3 := blk_lt h3
        have hl7 := h7.lt
        have z7 := HR7.out.size
        have z8 := R8.size
        have zW := h1.size
        have o8 : ∀ j, j < wr.heap.size → j ≠ r → w8.heap[j]? = wr.heap[j]? := fun j hj hne => by rw [R8.old j (by omega) hne, HR7.out.old j hj hne]
        have i8 : w8.heap[ib]? = some (ixBox (.slice (some ⟨G, 0, none⟩) s.n s.n) (.map (some mb))) := by rw [o8 ib hl4 (by omega)]; exact h4
        have c1 : w8.cell? ⟨ib, 1, none⟩ = some (.map (some mb)) := cells_at i8 1 _ rfl
        have kb8 : w8.heap[wr.heap.size]? = some (.cells #[.int .i32 x] 21 (0, 0)) := by rw [R8.old _ (by omega) (by omega)]; exact HR7.out.bx
        have c2 : w8.cell? ⟨wr.heap.size, 0, none⟩ = some (.int .i32 x) := cells_at kb8 0 _ rfl
        have c3 : w8.cell? ⟨w7.heap.size, 0, none⟩ = some (.int .i32 (f x)) := cells_at R8.bx 0 _ rfl
        have m8 : Da.OMap w8 mb N D := Da.own_mapD h7 (o8 mb hl7 (by omega))
        have H8 := Aside0.mk (And.intro R8 (And.intro o8 (And.intro i8 (And.intro z8 (And.intro z7 (And.intro hl3 hl7))))))
        have HD8 := Aside0.mk (And.intro h6 h8)
        have HM8 := Aside0.mk m8
        have hNk : N < maxLen := by have := HIK.out; have := HK.out.few; unfold maxLen; omega
        have HNK := Aside0.mk hNk
        clear R8 h1 h2 h3 h4 h5 h6 h7 h8 h9 hl4 hl3 hl7 z7 z8 zW o8 i8 kb8 m8 T8 hNk
        go_wp2_with (at_mapUpdate; refine wpList_mapUpdate_own _ rfl _ _ _ 51 rfl 21 21 Da.key_i32 Tryz.underlying51 _ mb N D rfl HM8.out HNK.out _ _ _ rfl rfl (keyOf_int_mk Tryz.underlying21 (Go.WalkArith.wf_i32 HKW.out.2.1)) _ [] (plainElem_int Tryz.underlying21 (Go.WalkArith.wf_i32 (by have := HKW.out.2.2.2.1; omega))) ?_; intro w9 hm9 hg9; have HM9 := Aside0.mk hm9; have HG9 := Aside0.mk hg9; clear hm9 hg9; go_frame)
        have HRN : Aside0 (RdS W w9 r a n c rb ib G mb (i + 1) s f ks) := by
          obtain ⟨R8, o8, i8, z8, z7, hl3, hl7⟩ := H8.out
          obtain ⟨h1, h2, h3, h4, h5, -, h9⟩ := HRS.out
          have hg := HG9.out
          have hll := blk_lt h4
          have hlG := h5.lt
          have hrr := blk_lt h2
          have zW := h1.size
          have o9 : ∀ j, j < wr.heap.size → j ≠ r → j ≠ mb → w9.heap[j]? = wr.heap[j]? := fun j hj hne hm => by rw [hg.block j (by omega) (by simpa using hm)]; exact o8 j hj hne
          have hik := HIK.out
          refine ⟨⟨⟨by have := hg.size; omega, fun j hj hne => by rw [o9 j (by omega) hne (by omega)]; exact h1.old j hj hne, (h1.env.trans (HR7.out.env.trans R8.env)).trans ⟨hg.os, hg.tape, hg.output⟩⟩, ?_, by rw [o9 rb hl3 (by omega) (by omega)]; exact h3, by rw [o9 ib hll (by omega) (by omega)]; exact h4, h5.step (o9 G hlG (by omega) (by omega)), ⟨N + 1, _, by have := HD8.out.1; omega, HM9.out, ?_⟩, h9⟩⟩
          · rw [hg.block r (by omega) (by simp only [ne_eq, Option.some.injEq]; omega), R8.rd, show 16 + 8 * s.n + 8 * i + 4 + 4 = 16 + 8 * s.n + 8 * (i + 1) from by omega]
          · have h := dup_put HD8.out.2 hik (by rw [HKW.out.1]; exact HKW.out.2.2.1)
            rw [HKW.out.1] at h
            exact h
        go_roundg kz
        case measure => omega
        case rel => exact ⟨i + 1, congrArg (Value.int .i64) (by omega), ⟨by have := HI.out; omega⟩, HRN⟩
  · exfalso; have := HL.out; omega
end Go.Proofs.YtaejkbjepbifcabGreatDoor.IxN
namespace Go.Proofs.YtaejkbjepbifcabGreatDoor.Num
open Go.RowKit Go.ChangeShapes Go.WideShapes
theorem err_cells : Tryz.prog.cellsOf 112 = 1 := by kernel_rfl
theorem str_cells : Tryz.prog.cellsOf 9 = 1 := by kernel_rfl
theorem err_row (u : TypeId) (h : Tryz.prog.typeName? 3 u = some ("*" ++ "errors.errorString")) : u = 110 :=
  typeName_ptr_named (nm := "errors.errorString") (by kernel_rfl) (by kernel_rfl) (by decide) u h
theorem g_short : Tryz.prog.globalNamed "io.ErrShortBuffer" = some 0 := by kernel_rfl
theorem g_eof : Tryz.prog.globalNamed "io.EOF" = some 1 := by kernel_rfl
theorem g_bad : Tryz.prog.globalNamed "io.ErrUnexpectedEOF" = some 2 := by kernel_rfl
theorem ty_short : (Tryz.prog.globals[0]?).map (·.type) = some 55 := by kernel_rfl
theorem ty_eof : (Tryz.prog.globals[1]?).map (·.type) = some 55 := by kernel_rfl
theorem ty_bad : (Tryz.prog.globals[2]?).map (·.type) = some 55 := by kernel_rfl

set_option maxRecDepth 100000 in
theorem snt_of_laid {W : World} (h : laidMet Tryz.prog [("io.ErrShortBuffer", Rows.laid_io_ErrShortBuffer), ("io.EOF", Rows.laid_io_EOF), ("io.ErrUnexpectedEOF", Rows.laid_io_ErrUnexpectedEOF)] W) : Snt W := by
  obtain ⟨ps, ⟨g0, t0, cs0, f0, p0, q0, hg0, ht0, hv0, hd0, ⟨g1, t1, cs1, f1, p1, q1, hg1, ht1, hv1, hd1, ⟨g2, t2, cs2, f2, p2, q2, hg2, ht2, hv2, hd2, hq2, e2⟩, e1⟩, e0⟩, hnd, hrows⟩ := h
  obtain rfl := Option.some.inj (g_short.symm.trans hg0)
  obtain rfl := Option.some.inj (g_eof.symm.trans hg1)
  obtain rfl := Option.some.inj (g_bad.symm.trans hg2)
  obtain rfl := Option.some.inj (ty_short.symm.trans ht0)
  obtain rfl := Option.some.inj (ty_eof.symm.trans ht1)
  obtain rfl := Option.some.inj (ty_bad.symm.trans ht2)
  have hq2' : q2 = [] := hq2
  subst hq2'
  subst e2
  subst e1
  subst e0
  obtain ⟨l1⟩ := cs1
  obtain ⟨l2⟩ := cs2
  have ok1 : ∀ u v, l1 = [.iface u v] → Value.okWide Tryz.prog W .any 0 u v := fun u v e => by
    subst e
    exact (hrows 1 0 (by simp [MemPlace.row])).2 u v (by simpa using World.var?_cell hg1 hv1 0)
  have ok2 : ∀ u v, l2 = [.iface u v] → Value.okWide Tryz.prog W .any 0 u v := fun u v e => by
    subst e
    exact (hrows 2 0 (by simp [MemPlace.row])).2 u v (by simpa using World.var?_cell hg2 hv2 0)
  have T1 := fun hrow => errorString_of_trod Tryz.underlying55 hrow Tryz.underlying110 Tryz.underlying112 rfl rfl Tryz.underlying9 err_cells str_cells hd1 ok1
  obtain ⟨a1, s1, rfl, _⟩ := T1 (fun u hu => err_row u (hu.trans (by decide)))
  have T2 := fun hrow => errorString_of_trod Tryz.underlying55 hrow Tryz.underlying110 Tryz.underlying112 rfl rfl Tryz.underlying9 err_cells str_cells hd2 ok2
  obtain ⟨a2, s2, rfl, _⟩ := T2 (fun u hu => err_row u (hu.trans (by decide)))
  exact ⟨⟨a1, by simpa using World.var?_cell hg1 hv1 0⟩, ⟨_, _, by simpa using World.var?_cell hg2 hv2 0⟩⟩
end Go.Proofs.YtaejkbjepbifcabGreatDoor.Num
namespace Go.Proofs.YtaejkbjepbifcabGreatDoor.IxN
open Go.RowKit Go.Maps Go.Proofs.YtaejkbjepbifcabGreatDoorW.PrintWords Go.Proofs.YtaejkbjepbifcabGreatDoor.Plain Go.Proofs.YtaejkbjepbifcabGreatDoor.Num
set_option linter.unusedVariables false
set_option linter.unusedSimpArgs false
structure Told (L : Da.Keys) (f : Int → Int) (s : Da.DA) (ks : List Int) : Prop where
  keys : KeysFor f ks
  small : Small s
  good : Da.Good s 0 L
  pos : 0 < s.n
  dup : ∀ k, 0 ≤ f k ∧ f k ≤ 1000000
def IBy (w w' : World) (L : Da.Keys) (f : Int → Int) (e : Ending) : Prop := ∃ (A : Option Addr) (c : Nat) (s : Da.DA) (ks : List Int), e = .returned (.tuple #[.slice A (ixB s f ks ks.length).length c, .int .i64 0]) ∧ Aside0 (Told L f s ks) ∧ Aside0 ((Kd.int .u8).C w' A (ixB s f ks ks.length).length (ixB s f ks ks.length)) ∧ Aside0 ((ixB s f ks ks.length).length ≤ c) ∧ Below w.heap.size w w'
set_option maxHeartbeats 8000000 in
set_option maxRecDepth 100000 in
theorem ibytes_calls (W : World) (A0 : Option Addr) (c0 k k2 : Nat) (ws : List ByteArray) (hr0 : Kd.C Kd.string W A0 ws.length ws) (hc0 : ws.length ≤ c0) (hw : Da.WordsOk k k2 ws) :
    Calls Tryz.prog 19 #[.slice A0 ws.length c0] W fun e w' => IBy W w' (Da.ixL ws) (Da.ixF ws) e := by
  have HW := Aside0.mk hw
  have hfew := hw.few
  have HNE : Aside0 (ws ≠ []) := ⟨fun e => hw.ok.ne (by rw [e]; rfl)⟩
  have h1 := Aside0.mk (PB.slices_Clone_string_string.calls A0 c0 ws ws W hr0 hc0 (Da.clone_strs ws (by omega)))
  clear hr0 hc0 hw
  go_enter Tryz.func19, Tryz.ntmps19
  go_upto_region 5 with (first | (go_at_call 27; refine h1.out.mono ?_; rintro e_ w1 ⟨v1, rfl, hv, hB⟩; have HB1 := Aside0.mk hB; obtain ⟨kb, kc, rfl, b1, b2, b3, b4⟩ := Da.own_head hv HNE.out; have h2 := Aside0.mk (Da.bix_calls w1 (some ⟨kb, 0, none⟩) kc k k2 ws b4 b3 HW.out.srt HW.out.up HW.out.srt2 HW.out.ok (by omega) HW.out.sz); clear hB hv b4) | (go_at_call 26; refine h2.out.mono ?_; rintro e_ w2 ⟨g, s, mb, rfl, hX, hg, hm, hK⟩; have HX := Aside0.mk hX; have HK := Aside0.mk hK; clear hX hK))
  have hgl : g < w2.heap.size := HX.out.arr.lt
  have hml : mb < w2.heap.size := HX.out.dup.lt
  obtain ⟨w3, hw3⟩ : ∃ w3, w3 = w2.alloc (.cells #[.slice (some ⟨g, 0, none⟩) s.n s.n, .map (some mb)] 53) := ⟨_, rfl⟩
  rw [← hw3]
  have z3 : w3.heap.size = w2.heap.size + 1 := by rw [hw3, Own.size_alloc]
  have k3 : Da.Kp w2 w3 (fun _ => False) := by rw [hw3]; exact (Da.Kp.self w2 _).alloc _
  have bx : w3.heap[w2.heap.size]? = some (ixBox (.slice (some ⟨g, 0, none⟩) s.n s.n) (.map (some mb))) := by rw [hw3]; exact blk_new _ _
  have h4 := Aside0.mk (iwriteTo_calls (w3.alloc (.cells #[.slice none 0 0, .int .i64 0, .int .i8 0] 71)) g mb s (Da.ixL ws) (Da.ixF ws) (HX.out.kept (k3.alloc _) id id) w3.heap.size w3.heap.size (Lib.fresh_isBuffer 71 5 w3) (by rw [Own.size_alloc]; omega) (by omega) (by omega))
  have hb3 := below_step (w := W) HB1.out (Da.kp_below ((HK.out.trans k3).mono (fun i _ hi => by rcases hi with hi | hi <;> exact hi)))
  have HB3 := Aside0.mk hb3
  obtain ⟨xb, hxb⟩ : ∃ xb, w2.heap.size = xb := ⟨_, rfl⟩
  rw [hxb] at bx z3 ⊢
  rw [z3] at h4
  have HZ3 := Aside0.mk z3
  have x0 : (w3.alloc (.cells #[.slice none 0 0, .int .i64 0, .int .i8 0] 71)).cell? ⟨xb, 0, none⟩ = some (.slice (some ⟨g, 0, none⟩) s.n s.n) := cells_at (blk_alloc bx _) 0 _ rfl
  have x1 : (w3.alloc (.cells #[.slice none 0 0, .int .i64 0, .int .i8 0] 71)).cell? ⟨xb, 1, none⟩ = some (.map (some mb)) := cells_at (blk_alloc bx _) 1 _ rfl
  have HT : Aside0 (Small s ∧ Da.Good s 0 (Da.ixL ws) ∧ 0 < s.n) := ⟨⟨HX.out.arr.i32, HX.out.arr.big⟩, HX.out.good, HX.out.pos⟩
  clear hw3 z3 k3 bx hxb hb3 h1 h2 HB1 HK hgl hml
  go_wp2_with fail
  with_reducible refine Calls.mono h4.out ?_
  rintro e_ w4 ⟨ks, rfl, hKF, hI4, hB4, hS4⟩
  obtain ⟨T, hT⟩ : ∃ T, T = 16 + 8 * s.n + 8 * ks.length := ⟨_, rfl⟩
  have hlen : (u8s (ixB s (Da.ixF ws) ks ks.length)).length = T := by simp only [u8s, List.length_map, ixB_len _ _ _ _ (Nat.le_refl _), hT]
  have HI4 := Aside0.mk hI4
  have HB4 := Aside0.mk hB4
  have HKF := Aside0.mk hKF
  have HL := Aside0.mk hlen
  rw [← hT]
  clear hI4 hB4 hKF hlen hT hS4 x0 x1 h4
  go_wp2_with (first | (go_at_call 33; refine (Tryz.Buffer_Len _ _ _ _ HI4.out).mono ?_; rw [HL.out]; rintro _ _ ⟨rfl, n3, rfl⟩) | (go_at_call 34; refine (Tryz.Buffer_Bytes _ _ _ _ (bufDrewN HI4.out _)).mono ?_; rintro _ _ ⟨v4, rfl, hv4, n4, rfl⟩; have HV := Aside0.mk hv4; clear hv4))
  have hb4 : Below w3.heap.size w3 w4 := (below_alloc (Below.refl _ _) _).trans (by rw [HZ3.out]; exact HB4.out)
  have hR := bytes_R HV.out
  rw [drewN_add] at hR
  obtain ⟨A, c, rfl, hc, hC, -⟩ := R_row hR
  have HCC := Aside0.mk hC
  have HHC := Aside0.mk hc
  have HBB := Aside0.mk (pw_below_drewN (below_step (w := W) HB3.out hb4) (n3 + n4))
  clear hb4 hR hC hc
  go_ret2
  exact ⟨A, c, s, ks, rfl, ⟨HKF.out, HT.out.1, HT.out.2.1, HT.out.2.2, fun x => by have := HW.out.fb x; omega⟩, HCC, HHC, HBB.out⟩
set_option maxHeartbeats 8000000 in
set_option maxRecDepth 100000 in
theorem iagain_calls (W : World) (A0 A1 : Option Addr) (c0 c1 k k2 : Nat) (ws ts : List ByteArray) (hs : Snt W) (hr0 : Kd.C Kd.string W A0 ws.length ws) (hc0 : ws.length ≤ c0) (hr1 : Kd.C Kd.string W A1 ts.length ts) (hw : Da.WordsOk k k2 ws) (hT : Da.TxsOk ts) :
    Calls Tryz.prog 10 #[.slice A0 ws.length c0, .slice A1 ts.length c1] W fun e w' => Da.JskE W w' (Da.ixL ws) (Da.ixF ws) ts e := by
  have HR1 := Aside0.mk hr1
  have HW := Aside0.mk hw
  have HT := Aside0.mk hT
  have HS := Aside0.mk hs
  have h1 := Aside0.mk (ibytes_calls W A0 c0 k k2 ws hr0 hc0 hw)
  clear hr0 hr1 hw hT hs hc0
  go_enter Tryz.func10, Tryz.ntmps10
  go_wp2_with fail
  with_reducible refine Calls.mono h1.out ?_
  rintro e_ w1 ⟨A, c, s, ks, rfl, HTo, HC, HCc, hB1⟩
  have hlen : (ixB s (Da.ixF ws) ks ks.length).length = 16 + 8 * s.n + 8 * ks.length := ixB_len _ _ _ _ (Nat.le_refl _)
  obtain ⟨a, rfl⟩ : ∃ a, A = some a := by
    obtain ⟨a, e, _⟩ := HC.out.2.2 (by omega)
    exact ⟨a, e⟩
  have hla := C_lt HC.out rfl (by omega)
  have hs1 : Snt w1 := Snt.below HS.out hB1
  have hbig := HTo.out.small.2
  have hfew := HTo.out.keys.few
  have hx : Ctx (w1.alloc (rdr (some a) (ixB s (Da.ixF ws) ks ks.length).length c 0 (-1))) w1.heap.size a (ixB s (Da.ixF ws) ks ks.length).length c (ixB s (Da.ixF ws) ks ks.length) :=
    ⟨Kd.C_alloc HC.out _, data_bytes _ _ _ _, HCc.out, by omega, by omega, by rw [Own.size_alloc]; omega, by rw [Own.size_alloc]; omega, sntAlloc hs1 _, (sntNe hs1).1, (sntNe hs1).2⟩
  have T1 := Aside0.mk (iread_calls (w1.alloc (rdr (some a) (ixB s (Da.ixF ws) ks ks.length).length c 0 (-1))) w1.heap.size a (ixB s (Da.ixF ws) ks ks.length).length c (-1) s (Da.ixF ws) ks (Da.ixL ws) hx (blk_new w1 _) rfl HTo.out.keys HTo.out.dup HTo.out.small HTo.out.good HTo.out.pos)
  have HB1 := Aside0.mk hB1
  obtain ⟨n, hn⟩ : ∃ n, n = (ixB s (Da.ixF ws) ks ks.length).length := ⟨_, rfl⟩
  rw [← hn] at T1 ⊢
  clear hn hlen hla hs1 hbig hfew hx hB1 h1
  go_wp2_with fail
  with_reducible refine Calls.mono (newReader _ _ _ _) ?_
  rintro _ _ ⟨rfl, rfl⟩
  go_wp2_with fail
  with_reducible refine Calls.mono T1.out ?_
  rintro e_ w2 ⟨G, mb, rfl, hX, hG, hm, hK⟩
  have hb2 : Below W.heap.size W w2 := below_kept (HB1.out.trans ((below_alloc (Below.refl _ w1) _).mono HB1.out.size)) HB1.out.size hK
  have HX := Aside0.mk hX
  have HB2 := Aside0.mk hb2
  clear hX hG hm hK hb2 T1
  go_upto_region 7 with fail
  obtain ⟨w3, hw3, hk3, bx⟩ : ∃ w3, w3 = w2.alloc (.cells #[.slice (some ⟨G, 0, none⟩) s.n s.n, .map (some mb)] 53) ∧ Da.Kp w2 w3 (fun _ => False) ∧ w3.heap[w2.heap.size]? = some (.cells #[.slice (some ⟨G, 0, none⟩) s.n s.n, .map (some mb)] 53 (0, 0)) := ⟨_, rfl, (Da.Kp.self w2 _).alloc _, blk_new _ _⟩
  rw [← hw3]
  obtain ⟨xb, hxb⟩ : ∃ xb, w2.heap.size = xb := ⟨_, rfl⟩
  rw [hxb] at bx ⊢
  have x0 : w3.cell? ⟨xb, 0, none⟩ = some (.slice (some ⟨G, 0, none⟩) s.n s.n) := cells_at bx 0 _ rfl
  have x1 : w3.cell? ⟨xb, 1, none⟩ = some (.map (some mb)) := cells_at bx 1 _ rfl
  have hb3 := below_step HB2.out (Da.kp_below hk3)
  have h4 := Aside0.mk (Da.jsk_calls w3 G mb c1 4000 s (Da.ixL ws) (Da.ixF ws) ts A1 (HX.out.kept hk3 id id) HW.out.kb (fun t ht => ⟨(HT.out.2 t ht).1, by have := (HT.out.2 t ht).2; omega, Nat.le_trans (Nat.mul_le_mul_right _ (Nat.succ_le_succ (HT.out.2 t ht).2)) (by decide)⟩) HW.out.fb (Kd.C_below HR1.out hb3) HT.out.1)
  have HB3 := Aside0.mk hb3
  clear hw3 hk3 bx hxb hb3
  go_wp2_with fail
  with_reducible refine Calls.mono h4.out ?_
  rintro e_ w4 ⟨ov, rfl, hR, hB⟩
  have HR4 := Aside0.mk hR
  have HB4 := Aside0.mk hB
  clear hR hB h4 x0 x1
  go_wp2_with fail
  go_ret2
  exact ⟨ov, rfl, Kd.R_lower HR4.out HB3.out.size, below_step HB3.out HB4.out⟩
end Go.Proofs.YtaejkbjepbifcabGreatDoor.IxN
namespace Go.Proofs.YtaejkbjepbifcabGreatDoor.Da
open Go.RowKit Go.Proofs.YtaejkbjepbifcabGreatDoorW.PrintWords Go.Proofs.YtaejkbjepbifcabGreatDoor.Plain
set_option linter.unusedVariables false
set_option linter.unusedSimpArgs false
theorem ord_key (l : List ByteArray) (st : Bool) (hl : Fits l) : ∀ d i, i + d = l.length → ∃ r, Ev (fun k => PB.laws_ordered.l0 k l st (l.length : Int) (i : Int)) r ∧
    (r = true → 0 < l.length ∧ ∀ j, i ≤ j → j < l.length → Cln (l.getD j ByteArray.empty) ∧ (l.getD j ByteArray.empty).toList ≠ [] ∧ (1 ≤ j → Op.bytesLess (l.getD j ByteArray.empty).toList (l.getD (j - 1) ByteArray.empty).toList = false ∧ (st = true → (l.getD j ByteArray.empty).toList ≠ (l.getD (j - 1) ByteArray.empty).toList)))
  | 0, i, h => ⟨_, Ev.step (fun k => by rw [PB.laws_ordered.l0]) (evn (by omega) (Ev.now _)), fun h => ⟨by have := of_decide_eq_true h; omega, fun j h1 h2 => by omega⟩⟩
  | d + 1, i, h => by
    have hl1 := hl.1
    obtain ⟨r, hr, hp⟩ := ord_key l st hl d (i + 1) (by omega)
    have hil : i < l.length := by omega
    have hm := hl.2 _ (getD_mem ByteArray.empty hil)
    obtain ⟨x, hx⟩ : ∃ x, l.getD i ByteArray.empty = x := ⟨_, rfl⟩
    rw [hx] at hm
    have ex : rdOf ByteArray.empty l (i : Int) = x := by rw [rdOf_nat, hx]
    by_cases h0 : x.toList = []
    · exact ⟨false, Ev.step (fun k => by rw [PB.laws_ordered.l0]) (evp (by omega) (evp (by omega) (evp (by omega) (evp (by rw [ex]; exact h0) (Ev.now false))))), fun h => by cases h⟩
    · obtain ⟨rc, hc, hcp⟩ := clean_ev [x] ⟨by simp, by intro t ht; rw [List.mem_singleton.1 ht]; exact hm⟩
      cases rc with
      | false => exact ⟨false, Ev.step (fun k => by rw [PB.laws_ordered.l0]) (evp (by omega) (evp (by omega) (evp (by omega) (evn (by rw [ex]; exact h0) (by rw [ex]; exact Ev.bind hc (evn (by simp) (Ev.now false))))))), fun h => by cases h⟩
      | true =>
        have hxc := hcp rfl x List.mem_cons_self
        have go : ∀ {q : Nat → Option Bool} {s : Bool}, Ev q s → (∀ k, q k = (if (i : Int) > 0 then (if 0 ≤ (wrap64 ((i : Int) - 1)) then (if (wrap64 ((i : Int) - 1)) < (l.length : Int) then (if (Op.bytesLess (x.toList) ((rdOf ByteArray.empty l (wrap64 ((i : Int) - 1))).toList)) = true then (some false) else (if st = true then (if x.toList = (rdOf ByteArray.empty l (wrap64 ((i : Int) - 1))).toList then (some false) else (PB.laws_ordered.l0 k l st (l.length : Int) (wrap64 ((i : Int) + 1)))) else (PB.laws_ordered.l0 k l st (l.length : Int) (wrap64 ((i : Int) + 1))))) else (none)) else (none)) else (PB.laws_ordered.l0 k l st (l.length : Int) (wrap64 ((i : Int) + 1))))) → Ev (fun k => PB.laws_ordered.l0 k l st (l.length : Int) (i : Int)) s := fun hq hqe =>
          Ev.step (fun k => by rw [PB.laws_ordered.l0]) (evp (by omega) (evp (by omega) (evp (by omega) (evn (by rw [ex]; exact h0) (by rw [ex]; exact Ev.bind hc (evp rfl (Ev.congr (fun k => (hqe k).symm) hq)))))))
        by_cases hi0 : i = 0
        · subst hi0
          refine ⟨r, go (evn (by omega) (by rw [wrap_up 0 (by omega)]; exact hr)) (fun k => rfl), fun h => ⟨(hp h).1, fun j g1 g2 => ?_⟩⟩
          by_cases e : j = 0
          · subst e; rw [hx]; exact ⟨hxc, h0, fun h => by omega⟩
          · exact (hp h).2 j (by omega) g2
        · have ew := wrap_dn i (by omega) (by omega)
          obtain ⟨y, hy⟩ : ∃ y, l.getD (i - 1) ByteArray.empty = y := ⟨_, rfl⟩
          have ey : rdOf ByteArray.empty l (wrap64 ((i : Int) - 1)) = y := by rw [ew, rdOf_nat, hy]
          have fin : ∀ s : Bool, (s = true → r = true) → (s = true → Op.bytesLess x.toList y.toList = false ∧ (st = true → x.toList ≠ y.toList)) → (s = true → 0 < l.length ∧ ∀ j, i ≤ j → j < l.length → Cln (l.getD j ByteArray.empty) ∧ (l.getD j ByteArray.empty).toList ≠ [] ∧ (1 ≤ j → Op.bytesLess (l.getD j ByteArray.empty).toList (l.getD (j - 1) ByteArray.empty).toList = false ∧ (st = true → (l.getD j ByteArray.empty).toList ≠ (l.getD (j - 1) ByteArray.empty).toList))) := by
            intro s hs1 hs2 hs
            have hrp := hp (hs1 hs)
            refine ⟨hrp.1, fun j g1 g2 => ?_⟩
            by_cases e : j = i
            · subst e; rw [hx, hy]; exact ⟨hxc, h0, fun _ => hs2 hs⟩
            · exact hrp.2 j (by omega) g2
          by_cases hb : Op.bytesLess x.toList y.toList = true
          · exact ⟨false, go (evp (by omega) (evp (by rw [ew]; omega) (evp (by rw [ew]; omega) (evp (by rw [ey]; exact hb) (Ev.now false))))) (fun k => rfl), fun h => by cases h⟩
          · have hbf : Op.bytesLess x.toList y.toList = false := by simpa using hb
            by_cases hst : st = true
            · by_cases hxy : x.toList = y.toList
              · exact ⟨false, go (evp (by omega) (evp (by rw [ew]; omega) (evp (by rw [ew]; omega) (evn (by rw [ey]; exact hb) (evp hst (evp (by rw [ey]; exact hxy) (Ev.now false))))))) (fun k => rfl), fun h => by cases h⟩
              · exact ⟨r, go (evp (by omega) (evp (by rw [ew]; omega) (evp (by rw [ew]; omega) (evn (by rw [ey]; exact hb) (evp hst (evn (by rw [ey]; exact hxy) (by rw [wrap_up i (by omega)]; exact hr))))))) (fun k => rfl), fin r id (fun _ => ⟨hbf, fun _ => hxy⟩)⟩
            · exact ⟨r, go (evp (by omega) (evp (by rw [ew]; omega) (evp (by rw [ew]; omega) (evn (by rw [ey]; exact hb) (evn hst (by rw [wrap_up i (by omega)]; exact hr)))))) (fun k => rfl), fin r id (fun _ => ⟨hbf, fun h => absurd h hst⟩)⟩
theorem ord_ev (l : List ByteArray) (st : Bool) (hl : Fits l) : Tru (fun k => PB.laws_ordered.f k l st) (Ord l st) := by
  obtain ⟨r, hr, hp⟩ := ord_key l st hl l.length 0 (by omega)
  refine ⟨r, hr, fun e => ?_⟩
  obtain ⟨h0, h⟩ := hp e
  exact ⟨all_getD _ (fun j hj => (h j (Nat.zero_le _) hj).1), all_getD (P := fun t => t.toList ≠ []) _ (fun j hj => (h j (Nat.zero_le _) hj).2.1), fun i hi => by have := ((h (i + 1) (Nat.zero_le _) hi).2.2 (by omega)).1; rw [Nat.add_sub_cancel] at this; exact this, fun hs i hi => by have := ((h (i + 1) (Nat.zero_le _) hi).2.2 (by omega)).2 hs; rw [Nat.add_sub_cancel] at this; exact this, List.length_pos_iff.1 h0⟩
end Go.Proofs.YtaejkbjepbifcabGreatDoor.Da
