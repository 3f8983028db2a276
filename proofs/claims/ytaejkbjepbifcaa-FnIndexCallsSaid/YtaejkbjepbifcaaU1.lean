/- The walks over tries and what they compute: part 1 of several, put together by a program. -/
import Derived.Test.YtaejkbjepbifcaaU0
import Derived.Deep.QuietTactic
import Derived.BigQuiet
import Derived.StillTailTactics
import Derived.Deep.CutBlock
import Derived.Deep.LoopGhost
import Derived.Deep.DeepCutAuto
import Derived.IntWalk
namespace Go.Proofs.Ytaejkbjepbifcaa.Da
open Go.RowKit Go.Maps Go.ChangeShapes Go.Proofs.YtaejkbjepbifcaaW.PrintWords
set_option linter.unusedVariables false
set_option linter.unusedSimpArgs false
noncomputable def apush : Code := pth [true, true, false, true, false, false, true, true, false, false, true, true, true, true, false] (Try.f41.body.getD .skip)
set_option maxHeartbeats 16000000 in
set_option maxRecDepth 100000 in
theorem add_push (W w : World) (bm n : Nat) (P : List (Int × Int)) (D : DataW Unit) (cv : Value) (l : List Int) (c : Nat) (hc : c ≤ 255) (hlen : l.length ≤ 1000000) {Q : Exit → Act → World → Prop} {v0 v1 v2 v3 v4 v5 v6 v7 v8 v9 v10 v11 v13 v14 v15 v16 v18 v19 v20 v21 v22 v23 v24 v25 v26 v27 v28 v29 v30 v31 v32 v33 v34 v35 v36 v37 v38 v39 v40 v41 v42 v43 v44 v45 v46 v47 v48 v49 v50 v51 v52 v53 v54 v55 v56 v57 v58 v59 v60 v61 v62 v63 v64 v65 v66 v67 v68 v69 v70 v71 v72 v73 v74 v75 v76 v77 v78 v79 v80 v81 v82 v83 v84 v85 v86 v87 v88 v89 v90 v91 v92 v93 v94 v95 v96 v97 v98 v99 v100 v101 v102 v103 v104 v105 v106 v107 v108 v109 v110 v111 v112 v113 v114 v115 v116 v117 v118 v119 v120 v121 v122 v123 v124 v125 v126 v127 v128 v129 v130 v131 v132 v133 v134 v135 : Value} (HL : Aside0 (L1 W w bm n P D cv l))
    (hN : Aside0 (∀ (n18 n42 n43 n44 n45 n46 n47 n48 n49 n50 n51 n52 n53 n54 n55 n56 n57 n58 n59 cv' : Value) (w' : World), Aside0 (L1 W w' bm n P D cv' (push l (c : Int))) → Q .normal ⟨#[v0, v1, v2, v3, v4, v5, v6, v7, v8, v9, v10, v11, cv', v13, v14, v15, v16, .int .u8 (c : Int), n18, v19, v20, v21, v22, v23, v24, v25, v26, v27, v28, v29, v30, v31, v32, v33, v34, v35, v36, v37, v38, v39, v40, v41, n42, n43, n44, n45, n46, n47, n48, n49, n50, n51, n52, n53, n54, n55, n56, n57, n58, n59, v60, v61, v62, v63, v64, v65, v66, v67, v68, v69, v70, v71, v72, v73, v74, v75, v76, v77, v78, v79, v80, v81, v82, v83, v84, v85, v86, v87, v88, v89, v90, v91, v92, v93, v94, v95, v96, v97, v98, v99, v100, v101, v102, v103, v104, v105, v106, v107, v108, v109, v110, v111, v112, v113, v114, v115, v116, v117, v118, v119, v120, v121, v122, v123, v124, v125, v126, v127, v128, v129, v130, v131, v132, v133, v134, v135], []⟩ w')) :
    Code.wp Try.prog apush Q ⟨#[v0, v1, v2, v3, v4, v5, v6, v7, v8, v9, v10, v11, cv, v13, v14, v15, v16, .int .u8 (c : Int), v18, v19, v20, v21, v22, v23, v24, v25, v26, v27, v28, v29, v30, v31, v32, v33, v34, v35, v36, v37, v38, v39, v40, v41, v42, v43, v44, v45, v46, v47, v48, v49, v50, v51, v52, v53, v54, v55, v56, v57, v58, v59, v60, v61, v62, v63, v64, v65, v66, v67, v68, v69, v70, v71, v72, v73, v74, v75, v76, v77, v78, v79, v80, v81, v82, v83, v84, v85, v86, v87, v88, v89, v90, v91, v92, v93, v94, v95, v96, v97, v98, v99, v100, v101, v102, v103, v104, v105, v106, v107, v108, v109, v110, v111, v112, v113, v114, v115, v116, v117, v118, v119, v120, v121, v122, v123, v124, v125, v126, v127, v128, v129, v130, v131, v132, v133, v134, v135], []⟩ w := by
  conv => arg 2; whnf
  conv => arg 4; zeta
  obtain ⟨i0, hi, hz0, hz1, hz2⟩ := info_parts info_u8
  rcases HL.out.ch.2 with ⟨rfl, hl0⟩ | ⟨g, cap, cur, rfl, h2, h3, h4, h5, h6, h7⟩
  · have HPU : Aside0 (l ++ [(c : Int)] = push l (c : Int)) := ⟨by rw [List.length_eq_zero_iff.1 hl0]; rfl⟩
    go_wp2_with (first | (at_builtin; refine wpList_append_own_at _ rfl _ _ 107 rfl (bm + 1) 5 i0 (.int .u8 0) 1 1 Try.underlying107 hi hz0 hz1 hz2 rfl (by decide) _ _ _ rfl (HL.out.alloc _).ch ⟨w.heap.size, 0, none⟩ 1 1 [.int .u8 (c : Int)] rfl rfl (cell_one_new _ _ _) (ints_oneCell .u8 [(c : Int)]) (by unfold maxLen; omega) (by omega) (by have := HL.out.lt; rw [Own.size_alloc]; omega) ?_; intro v' w1 hown' hgrow hnil hloc) | go_in)
    exact hN.out _ _ _ _ _ _ _ _ _ _ _ _ _ _ _ _ _ _ _ _ _ ⟨by
        have h0 := (HL.out.alloc (.cells #[.int .u8 (c : Int)] 5)).push hown' hgrow (hloc.imp id (fun h => ⟨_, h, Nat.le_refl _⟩))
        exact HPU.out ▸ h0⟩
  · by_cases hl0 : l.length = 0
    · have HPU : Aside0 (l ++ [(c : Int)] = push l (c : Int)) := ⟨by rw [List.length_eq_zero_iff.1 hl0]; rfl⟩
      clear h3 h6 h7
      go_wp2_with (first | (at_builtin; refine wpList_append_own_at _ rfl _ _ 107 rfl (bm + 1) 5 i0 (.int .u8 0) 1 1 Try.underlying107 hi hz0 hz1 hz2 rfl (by decide) _ _ _ rfl (HL.out.alloc _).ch ⟨w.heap.size, 0, none⟩ 1 1 [.int .u8 (c : Int)] rfl rfl (cell_one_new _ _ _) (ints_oneCell .u8 [(c : Int)]) (by unfold maxLen; omega) (by omega) (by have := HL.out.lt; rw [Own.size_alloc]; omega) ?_; intro v' w1 hown' hgrow hnil hloc) | go_in)
      exact hN.out _ _ _ _ _ _ _ _ _ _ _ _ _ _ _ _ _ _ _ _ _ ⟨by
              have h0 := (HL.out.alloc (.cells #[.int .u8 (c : Int)] 5)).push hown' hgrow (hloc.imp id (fun h => ⟨_, h, Nat.le_refl _⟩))
              exact HPU.out ▸ h0⟩
    · obtain ⟨d, hd⟩ : ∃ d, l.getD (l.length - 1) 0 = d := ⟨_, rfl⟩
      have HD : Aside0 (l.getLast? = some d) := ⟨by rw [List.getLast?_eq_getElem?, ← hd, List.getD_eq_getElem?_getD, List.getElem?_eq_getElem (by omega)]; rfl⟩
      have hcell : w.cell? ⟨g, l.length - 1, none⟩ = some (.int .u8 d) := by
        have e : cur[l.length - 1]? = some (.int .u8 d) := by
          rw [← Array.getElem?_toList, ← List.getElem?_take_of_lt (show l.length - 1 < l.length * 1 by omega), h7, List.getElem?_map, List.getElem?_eq_getElem (by omega), ← hd, List.getD_eq_getElem?_getD, List.getElem?_eq_getElem (by omega)]
          rfl
        unfold World.cell?; simp [h3, e]
      have hlz : ¬ (l.length : Int) = 0 := by omega
      have hlb : ((l.length : Int) == 0) = false := by rw [beq_eq_false_iff_ne]; exact hlz
      have hle : (l.length : Int) - 1 = ((l.length - 1 : Nat) : Int) := by omega
      have hlt : ((l.length - 1 : Nat) : Int) < (l.length : Int) := by omega
      clear hd h3 h6 h7
      by_cases hdc : d = (c : Int)
      · have hne : (d != (c : Int)) = false := by rw [hdc]; simp
        have HPU : Aside0 (l = push l (c : Int)) := ⟨by unfold push; rw [HD.out, if_pos (by rw [hdc])]⟩
        clear hdc
        go_wp2_with fail
        exact hN.out _ _ _ _ _ _ _ _ _ _ _ _ _ _ _ _ _ _ _ _ _ ⟨HPU.out ▸ HL.out⟩
      · have hne : (d != (c : Int)) = true := by rw [bne_iff_ne]; exact hdc
        have HPU : Aside0 (l ++ [(c : Int)] = push l (c : Int)) := ⟨by unfold push; rw [HD.out, if_neg (fun h => hdc (Option.some.inj h))]⟩
        clear hdc
        go_wp2_with (first | (at_builtin; refine wpList_append_own_at _ rfl _ _ 107 rfl (bm + 1) 5 i0 (.int .u8 0) 1 1 Try.underlying107 hi hz0 hz1 hz2 rfl (by decide) _ _ _ rfl (HL.out.alloc _).ch ⟨w.heap.size, 0, none⟩ 1 1 [.int .u8 (c : Int)] rfl rfl (cell_one_new _ _ _) (ints_oneCell .u8 [(c : Int)]) (by unfold maxLen; omega) (by omega) (by have := HL.out.lt; rw [Own.size_alloc]; omega) ?_; intro v' w1 hown' hgrow hnil hloc) | go_in)
        exact hN.out _ _ _ _ _ _ _ _ _ _ _ _ _ _ _ _ _ _ _ _ _ ⟨by
                have h0 := (HL.out.alloc (.cells #[.int .u8 (c : Int)] 5)).push hown' hgrow (hloc.imp id (fun h => ⟨_, h, Nat.le_refl _⟩))
                exact HPU.out ▸ h0⟩
theorem no_new {W w : World} {bm n : Nat} {P : List (Int × Int)} {D : DataW Unit} {cv v v' : Value} {l : List Int} (h : L1 W w bm n P D cv l) (hsh : ∀ No : Nat → Prop, w.Shuns bm No → ∀ g, v.ownBlock = some g → ¬ No g)
    (hl : v'.ownBlock = v.ownBlock ∨ ∃ g, v'.ownBlock = some g ∧ w.heap.size ≤ g) : ∀ g, v'.ownBlock = some g → ¬ (cv.ownBlock = some g) := by
  intro g hg e
  rcases hl with h1 | ⟨g2, h1, h2⟩
  · rw [h1] at hg; exact hsh _ h.sh g hg e
  · rw [h1] at hg; cases hg
    have := (h.ch.lt _ e).2
    omega
noncomputable def amapp : Code := pth [true, true, false, true, false, false, true, true, false, false, true, true, true, true, true] (Try.f41.body.getD .skip)
set_option maxHeartbeats 16000000 in
set_option maxRecDepth 100000 in
theorem add_map (W w : World) (bm n : Nat) (P : List (Int × Int)) (D : DataW Unit) (cv : Value) (l : List Int) (c : Nat) (z : Int) (hc : c ≤ 255) (hz1_ : 0 ≤ z) (hz2_ : z ≤ 2147483647) (hlen : n ≤ 100000000) {Q : Exit → Act → World → Prop} {v0 v1 v2 v3 v4 v5 v6 v7 v8 v9 v10 v11 v12 v14 v16 v18 v19 v20 v21 v22 v23 v24 v25 v26 v27 v28 v29 v30 v31 v32 v33 v34 v35 v36 v37 v38 v39 v40 v41 v42 v43 v44 v45 v46 v47 v48 v49 v50 v51 v52 v53 v54 v55 v56 v57 v58 v59 v60 v61 v62 v63 v64 v65 v66 v67 v68 v69 v70 v71 v72 v73 v74 v75 v76 v77 v78 v79 v80 v81 v82 v83 v84 v85 v86 v87 v88 v89 v90 v91 v92 v93 v94 v95 v96 v97 v98 v99 v100 v101 v102 v103 v104 v105 v106 v107 v108 v109 v110 v111 v112 v113 v114 v115 v116 v117 v118 v119 v120 v121 v122 v123 v124 v125 v126 v127 v128 v129 v130 v131 v132 v133 v134 v135 : Value} (HL : Aside0 (L1 W w bm n P D cv l))
    (hN : Aside0 (∀ (n60 n61 n62 n63 n64 n65 n66 n67 n68 n69 : Value) (D' : DataW Unit) (w' : World), Aside0 (L1 W w' bm (n + 1) (P ++ [((c : Int), z)]) D' cv l) → Q .normal ⟨#[v0, v1, v2, v3, v4, v5, v6, v7, v8, v9, v10, v11, v12, .map (some bm), v14, .int .i64 z, v16, .int .u8 (c : Int), v18, v19, v20, v21, v22, v23, v24, v25, v26, v27, v28, v29, v30, v31, v32, v33, v34, v35, v36, v37, v38, v39, v40, v41, v42, v43, v44, v45, v46, v47, v48, v49, v50, v51, v52, v53, v54, v55, v56, v57, v58, v59, n60, n61, n62, n63, n64, n65, n66, n67, n68, n69, v70, v71, v72, v73, v74, v75, v76, v77, v78, v79, v80, v81, v82, v83, v84, v85, v86, v87, v88, v89, v90, v91, v92, v93, v94, v95, v96, v97, v98, v99, v100, v101, v102, v103, v104, v105, v106, v107, v108, v109, v110, v111, v112, v113, v114, v115, v116, v117, v118, v119, v120, v121, v122, v123, v124, v125, v126, v127, v128, v129, v130, v131, v132, v133, v134, v135], []⟩ w')) :
    Code.wp Try.prog amapp Q ⟨#[v0, v1, v2, v3, v4, v5, v6, v7, v8, v9, v10, v11, v12, .map (some bm), v14, .int .i64 z, v16, .int .u8 (c : Int), v18, v19, v20, v21, v22, v23, v24, v25, v26, v27, v28, v29, v30, v31, v32, v33, v34, v35, v36, v37, v38, v39, v40, v41, v42, v43, v44, v45, v46, v47, v48, v49, v50, v51, v52, v53, v54, v55, v56, v57, v58, v59, v60, v61, v62, v63, v64, v65, v66, v67, v68, v69, v70, v71, v72, v73, v74, v75, v76, v77, v78, v79, v80, v81, v82, v83, v84, v85, v86, v87, v88, v89, v90, v91, v92, v93, v94, v95, v96, v97, v98, v99, v100, v101, v102, v103, v104, v105, v106, v107, v108, v109, v110, v111, v112, v113, v114, v115, v116, v117, v118, v119, v120, v121, v122, v123, v124, v125, v126, v127, v128, v129, v130, v131, v132, v133, v134, v135], []⟩ w := by
  conv => arg 2; whnf
  conv => arg 4; zeta
  obtain ⟨i0, hi, hz0, hz1, hz2⟩ := info_parts info_int
  by_cases hc0 : c = 0
  · subst hc0
    go_wp2_with fail
    exact hN.out _ _ _ _ _ _ _ _ _ _ _ _ ⟨HL.out.zero z⟩
  · have hcn : ((c : Int) != 0) = true := by rw [bne_iff_ne]; omega
    have hkey : keyOf Try.prog 5 (.int .u8 (c : Int)) = some (.int .u8 (c : Int)) := keyOf_int_mk Try.underlying5 (WalkArith.wf_u8 (by omega))
    have hwz : (Lit.int .i64 z).wf = true := WalkArith.wf_i64 (by omega)
    go_wp2_with (first
      | (at_lookup; refine wpList_lookup_groups_shuns _ rfl _ _ 108 rfl 5 23 3 .i64 key_u8 Try.underlying108 (zero_ints _) (bm + 1) bm n D rfl HL.out.og (by unfold maxLen; omega) _ _ rfl hkey ?_; intro v zs hat hoi hzl hback hsh)
      | (at_builtin; refine wpList_append_own_at _ rfl _ _ 23 rfl (bm + 1) 3 i0 (.int .i64 0) 1 8 Try.underlying23 hi hz0 hz1 hz2 rfl (by decide) _ _ _ rfl (hoi.1.alloc _) ⟨w.heap.size, 0, none⟩ 1 1 [.int .i64 z] rfl rfl (cell_one_new _ _ _) (ints_oneCell .i64 [z]) (by unfold maxLen; omega) (by omega) (by have := HL.out.lt; rw [Own.size_alloc]; omega) ?_; intro v' w1 hown' hgrow hnil hloc
         have hall := (World.grownBy_alloc w (.cells #[.int .i64 z] 3) v.ownBlock).trans hgrow
         have hoi' := hoi.appended hown' hwz
         have hloc' : v'.ownBlock = v.ownBlock ∨ ∃ g, v'.ownBlock = some g ∧ w.heap.size ≤ g := hloc.imp id (fun h => ⟨_, h, by rw [Own.size_alloc]; omega⟩)
         have hno := no_new HL.out hsh hloc')
      | (at_mapUpdate; refine wpList_mapUpdate_back_shuns _ rfl _ _ _ 108 rfl key_u8 Try.underlying108 hkey HL.out.og (by unfold maxLen; omega) hoi HL.out.sh hno hback rfl rfl rfl hall hoi' (by simp; omega) hloc' ?_; intro w6 hown6 hgrow6 hsh6)
      | go_in)
    exact hN.out _ _ _ _ _ _ _ _ _ _ _ _ ⟨HL.out.store hoi hsh hall hown6 (gd_put HL.out.gdt (by omega) (grp_eq HL.out.gdt (by omega) (by omega) hat hoi) hoi') hgrow6 hsh6⟩
noncomputable def around : Code := pth [true, true, false, true, false, false, true, true, false, false] (Try.f41.body.getD .skip)
set_option maxHeartbeats 16000000 in
set_option maxRecDepth 100000 in
theorem add_round (W w : World) (bm n : Nat) (P : List (Int × Int)) (D : DataW Unit) (cv : Value) (l : List Int) (i j id k kc kb ko N Nc bb : Nat) (t : ByteArray) (hlen : l.length ≤ 1000000) (hn : n ≤ 100000000) (hj : j < k) (hid : id < N) (hN0 : N ≤ 100000000) (hts : t.size ≤ 1000000000) (hi_ : i ≤ 1000000000) (hbb : w.cell? ⟨bb, j, none⟩ = some (.int .i64 (id : Int))) (hkb : w.cell? ⟨kb, ko + id, none⟩ = some (.string t)) {Q : Exit → Act → World → Prop} {v0 v1 v3 v5 v6 v7 v8 v9 v10 v11 v14 v15 v16 v17 v18 v19 v20 v21 v22 v24 v26 v27 v28 v29 v30 v31 v32 v33 v34 v35 v36 v37 v38 v39 v40 v41 v42 v43 v44 v45 v46 v47 v48 v49 v50 v51 v52 v53 v54 v55 v56 v57 v58 v59 v60 v61 v62 v63 v64 v65 v66 v67 v68 v69 v70 v71 v72 v73 v74 v75 v76 v77 v78 v79 v80 v81 v82 v83 v84 v85 v86 v87 v88 v89 v90 v91 v92 v93 v94 v95 v96 v97 v98 v99 v100 v101 v102 v103 v104 v105 v106 v107 v108 v109 v110 v111 v112 v113 v114 v115 v116 v117 v118 v119 v120 v121 v122 v123 v124 v125 v126 v127 v128 v129 v130 v131 v132 v133 v134 v135 : Value} (HL : Aside0 (L1 W w bm n P D cv l))
    (hN : Aside0 (∀ (n15 n16 n17 n18 n27 n28 n29 n30 n31 n32 n33 n34 n35 n36 n37 n38 n39 n40 n41 n42 n43 n44 n45 n46 n47 n48 n49 n50 n51 n52 n53 n54 n55 n56 n57 n58 n59 n60 n61 n62 n63 n64 n65 n66 n67 n68 n69 cv' : Value) (D' : DataW Unit) (w' : World), Aside0 (L1 W w' bm (n + 1) (P ++ [(head1 ((bs t).drop i), (id : Int))]) D' cv' (push l (head1 ((bs t).drop i)))) → Q .normal ⟨#[v0, v1, .int .i64 (i : Int), v3, .slice (some ⟨kb, ko, none⟩) N Nc, v5, v6, v7, v8, v9, v10, v11, cv', .map (some bm), v14, n15, n16, n17, n18, v19, v20, v21, v22, .slice (some ⟨bb, 0, none⟩) k kc, v24, .int .i64 (j : Int), v26, n27, n28, n29, n30, n31, n32, n33, n34, n35, n36, n37, n38, n39, n40, n41, n42, n43, n44, n45, n46, n47, n48, n49, n50, n51, n52, n53, n54, n55, n56, n57, n58, n59, n60, n61, n62, n63, n64, n65, n66, n67, n68, n69, v70, v71, v72, v73, v74, v75, v76, v77, v78, v79, v80, v81, v82, v83, v84, v85, v86, v87, v88, v89, v90, v91, v92, v93, v94, v95, v96, v97, v98, v99, v100, v101, v102, v103, v104, v105, v106, v107, v108, v109, v110, v111, v112, v113, v114, v115, v116, v117, v118, v119, v120, v121, v122, v123, v124, v125, v126, v127, v128, v129, v130, v131, v132, v133, v134, v135], []⟩ w')) :
    Code.wp Try.prog around Q ⟨#[v0, v1, .int .i64 (i : Int), v3, .slice (some ⟨kb, ko, none⟩) N Nc, v5, v6, v7, v8, v9, v10, v11, cv, .map (some bm), v14, v15, v16, v17, v18, v19, v20, v21, v22, .slice (some ⟨bb, 0, none⟩) k kc, v24, .int .i64 (j : Int), v26, v27, v28, v29, v30, v31, v32, v33, v34, v35, v36, v37, v38, v39, v40, v41, v42, v43, v44, v45, v46, v47, v48, v49, v50, v51, v52, v53, v54, v55, v56, v57, v58, v59, v60, v61, v62, v63, v64, v65, v66, v67, v68, v69, v70, v71, v72, v73, v74, v75, v76, v77, v78, v79, v80, v81, v82, v83, v84, v85, v86, v87, v88, v89, v90, v91, v92, v93, v94, v95, v96, v97, v98, v99, v100, v101, v102, v103, v104, v105, v106, v107, v108, v109, v110, v111, v112, v113, v114, v115, v116, v117, v118, v119, v120, v121, v122, v123, v124, v125, v126, v127, v128, v129, v130, v131, v132, v133, v134, v135], []⟩ w := by
  conv => arg 2; whnf
  conv => arg 4; zeta
  have hjz : (j : Int) < (k : Int) := by omega
  have hidz : (id : Int) < (N : Int) := by omega
  have hcv := Lib.run_convert_string_bytes (P := Try.prog) w 9 107 5 t Try.underlying9 Try.underlying107 Try.underlying5
  have H1 := Aside0.mk (HL.out.below (below_bytes w 5 t))
  have hcell := fun h => Lib.bytesWorld_cell w 5 t i h
  obtain ⟨w1, hw1⟩ : ∃ w1, w1 = Lib.bytesWorld w 5 t := ⟨_, rfl⟩
  obtain ⟨gc, hgc⟩ : ∃ gc, gc = grownCap w t.size 0 5 := ⟨_, rfl⟩
  obtain ⟨y, hy⟩ : ∃ y, w.heap.size = y := ⟨_, rfl⟩
  rw [← hw1, ← hgc, hy] at hcv
  rw [← hw1] at H1 hcell
  rw [hy] at hcell
  clear hw1 hgc hy
  clear HL
  by_cases hi : t.size ≤ i
  · have hiz : (i : Int) ≥ (t.size : Int) := by omega
    have HHD : Aside0 (((0 : Nat) : Int) = head1 ((bs t).drop i)) := ⟨(head_end t i hi).symm⟩
    clear hcell
    refine wp_seq_k fun K hK_ => ?_
    have hK := Aside0.mk hK_
    clear hK_
    go_wp2_with fail
    refine hK.out _ _ ?_
    clear hK K
    refine wp_seq_k fun K hK_ => ?_
    have hK := Aside0.mk hK_
    clear hK_
    go_wp2_with fail
    refine hK.out _ _ ?_
    clear hK K
    refine wp_seq_k fun K hK_ => ?_
    have hK := Aside0.mk hK_
    clear hK_
    go_wp2_with fail
    refine hK.out _ _ ?_
    clear hK K
    refine wp_seq_k fun K hK_ => ?_
    have hK := Aside0.mk hK_
    clear hK_
    go_wp2_with fail
    refine hK.out _ _ ?_
    clear hK K
    clear hcv hbb hkb
    refine wp_seq_k fun K hK_ => ?_
    have hK := Aside0.mk hK_
    clear hK_
    refine add_push W w1 bm n P D cv l 0 (by omega) hlen H1 ⟨?_⟩
    intro n18 n42 n43 n44 n45 n46 n47 n48 n49 n50 n51 n52 n53 n54 n55 n56 n57 n58 n59 cv' w2 H2
    refine hK.out _ _ ?_
    clear hK
    refine add_map W w2 bm n P D cv' _ 0 (id : Int) (by omega) (by omega) (by omega) hn H2 ⟨?_⟩
    intro m60 m61 m62 m63 m64 m65 m66 m67 m68 m69 D' w3 H3
    exact hN.out _ _ _ _ _ _ _ _ _ _ _ _ _ _ _ _ _ _ _ _ _ _ _ _ _ _ _ _ _ _ _ _ _ _ _ _ _ _ _ _ _ _ _ _ _ _ _ cv' D' w3 ⟨HHD.out ▸ H3.out⟩
  · have hiz : ¬ (i : Int) ≥ (t.size : Int) := by omega
    have hil : (i : Int) < (t.size : Int) := by omega
    have hcell := hcell (by omega)
    have HHD0 := head_at t i (by omega)
    have hcb : (t.data.toList.getD i 0).toNat < 256 := UInt8.toNat_lt _
    obtain ⟨c, hc⟩ : ∃ c : Nat, (t.data.toList.getD i 0).toNat = c := ⟨_, rfl⟩
    rw [hc] at hcell HHD0 hcb
    have HHD := Aside0.mk HHD0.symm
    clear hc HHD0
    refine wp_seq_k fun K hK_ => ?_
    have hK := Aside0.mk hK_
    clear hK_
    go_wp2_with fail
    refine hK.out _ _ ?_
    clear hK K
    refine wp_seq_k fun K hK_ => ?_
    have hK := Aside0.mk hK_
    clear hK_
    go_wp2_with fail
    refine hK.out _ _ ?_
    clear hK K
    refine wp_seq_k fun K hK_ => ?_
    have hK := Aside0.mk hK_
    clear hK_
    go_wp2_with fail
    refine hK.out _ _ ?_
    clear hK K
    refine wp_seq_k fun K hK_ => ?_
    have hK := Aside0.mk hK_
    clear hK_
    go_wp2_with fail
    refine hK.out _ _ ?_
    clear hK K
    clear hcv hbb hkb
    refine wp_seq_k fun K hK_ => ?_
    have hK := Aside0.mk hK_
    clear hK_
    refine add_push W w1 bm n P D cv l c (by omega) hlen H1 ⟨?_⟩
    intro n18 n42 n43 n44 n45 n46 n47 n48 n49 n50 n51 n52 n53 n54 n55 n56 n57 n58 n59 cv' w2 H2
    refine hK.out _ _ ?_
    clear hK
    refine add_map W w2 bm n P D cv' _ c (id : Int) (by omega) (by omega) (by omega) hn H2 ⟨?_⟩
    intro m60 m61 m62 m63 m64 m65 m66 m67 m68 m69 D' w3 H3
    exact hN.out _ _ _ _ _ _ _ _ _ _ _ _ _ _ _ _ _ _ _ _ _ _ _ _ _ _ _ _ _ _ _ _ _ _ _ _ _ _ _ _ _ _ _ _ _ _ _ cv' D' w3 ⟨HHD.out ▸ H3.out⟩

end Go.Proofs.Ytaejkbjepbifcaa.Da
namespace Go.Proofs.Ytaejkbjepbifcaa.Da
open Go.RowKit Go.Maps Go.ChangeShapes Go.Proofs.YtaejkbjepbifcaaW.PrintWords
set_option linter.unusedVariables false
set_option linter.unusedSimpArgs false
noncomputable def akid : Code := pth [true, true, true, true, true, false, false, true, true, false, false] (Try.f41.body.getD .skip)
theorem L2.drew {W1 wr : World} {x g p b U j g' : Nat} {s1 t : DA} {L : Keys} (h : L2 W1 wr x g p b U s1 L j g' t) : L2 W1 wr.drew x g p b U s1 L j g' t := ⟨h.gg, h.mem.drew, h.kp.drew, h.ring, h.bd, h.jn⟩
set_option maxHeartbeats 16000000 in
set_option maxRecDepth 100000 in
theorem add_kid (m : Nat) (HR : Aside0 (AddAt m)) (W1 wr : World) (x g p b U i bb kb ko ib io cb cc bm n kc Nc Dc j g' : Nat) (s s1 t : DA) (ss : List ByteArray) (ds : List Int) (zs : List Nat) (D : DataW Unit) (HT : Aside0 (tot (keysOf ss ds i zs) ≤ m)) (hjl : j < (letters (keysOf ss ds i zs)).length) (HC : Aside0 (Cx W1 x g p b U i bb kb ko ib io cb bm n s s1 ss ds zs D)) {Q : Exit → Act → World → Prop} {v6 v7 v8 v9 v10 v11 v12 v14 v15 v16 v17 v18 v19 v20 v21 v22 v23 v24 v25 v26 v27 v28 v29 v30 v31 v32 v33 v34 v35 v36 v37 v38 v39 v40 v41 v42 v43 v44 v45 v46 v47 v48 v49 v50 v51 v52 v53 v54 v55 v56 v57 v58 v59 v60 v61 v62 v63 v64 v65 v66 v67 v68 v69 v70 v71 v72 v73 v74 v76 v78 v79 v80 v81 v82 v83 v84 v85 v86 v87 v88 v89 v90 v91 v92 v93 v94 v95 v96 v97 v98 v99 v100 v101 v102 v103 v104 v105 v106 v107 v108 v109 v110 v111 v112 v113 v114 v115 v116 v117 v118 v119 v120 v121 v122 v123 v124 v125 v126 v127 v128 v129 v130 v131 v132 v133 v134 v135 : Value}
    (HS : Aside0 (L2 W1 wr x g p b U s1 (keysOf ss ds i zs) j g' t))
    (hN : Aside0 (∀ (n20 n21 n79 n80 n81 n82 n83 n84 n85 n86 n87 n88 n89 n90 n91 n92 n93 n94 n95 n96 n97 n98 n99 n100 n101 n102 n103 n104 n105 n106 n107 n108 n109 n110 n111 n112 n113 n114 n115 n116 n117 n118 n119 n120 n121 n122 n123 n124 n125 n126 n127 n128 n129 n130 n131 n132 n133 n134 : Value) (g3 : Nat) (t3 : DA) (W3 : World), Aside0 (L2 W1 W3 x g p b U s1 (keysOf ss ds i zs) (j + 1) g3 t3) → Q .normal ⟨#[.pointer (some ⟨x, 0, none⟩), .int .i64 (p : Int), .int .i64 (i : Int), .slice (some ⟨bb, 0, none⟩) zs.length kc, .slice (some ⟨kb, ko, none⟩) ss.length Nc, .slice (some ⟨ib, io, none⟩) ds.length Dc, v6, v7, v8, v9, v10, v11, v12, .map (some bm), v14, v15, v16, v17, v18, v19, n20, n21, v22, v23, v24, v25, v26, v27, v28, v29, v30, v31, v32, v33, v34, v35, v36, v37, v38, v39, v40, v41, v42, v43, v44, v45, v46, v47, v48, v49, v50, v51, v52, v53, v54, v55, v56, v57, v58, v59, v60, v61, v62, v63, v64, v65, v66, v67, v68, v69, v70, v71, v72, v73, v74, .slice (some ⟨cb, 0, none⟩) (letters (keysOf ss ds i zs)).length cc, v76, .int .i64 (j : Int), v78, n79, n80, n81, n82, n83, n84, n85, n86, n87, n88, n89, n90, n91, n92, n93, n94, n95, n96, n97, n98, n99, n100, n101, n102, n103, n104, n105, n106, n107, n108, n109, n110, n111, n112, n113, n114, n115, n116, n117, n118, n119, n120, n121, n122, n123, n124, n125, n126, n127, n128, n129, n130, n131, n132, n133, n134, v135], []⟩ W3)) :
    Code.wp Try.prog akid Q ⟨#[.pointer (some ⟨x, 0, none⟩), .int .i64 (p : Int), .int .i64 (i : Int), .slice (some ⟨bb, 0, none⟩) zs.length kc, .slice (some ⟨kb, ko, none⟩) ss.length Nc, .slice (some ⟨ib, io, none⟩) ds.length Dc, v6, v7, v8, v9, v10, v11, v12, .map (some bm), v14, v15, v16, v17, v18, v19, v20, v21, v22, v23, v24, v25, v26, v27, v28, v29, v30, v31, v32, v33, v34, v35, v36, v37, v38, v39, v40, v41, v42, v43, v44, v45, v46, v47, v48, v49, v50, v51, v52, v53, v54, v55, v56, v57, v58, v59, v60, v61, v62, v63, v64, v65, v66, v67, v68, v69, v70, v71, v72, v73, v74, .slice (some ⟨cb, 0, none⟩) (letters (keysOf ss ds i zs)).length cc, v76, .int .i64 (j : Int), v78, v79, v80, v81, v82, v83, v84, v85, v86, v87, v88, v89, v90, v91, v92, v93, v94, v95, v96, v97, v98, v99, v100, v101, v102, v103, v104, v105, v106, v107, v108, v109, v110, v111, v112, v113, v114, v115, v116, v117, v118, v119, v120, v121, v122, v123, v124, v125, v126, v127, v128, v129, v130, v131, v132, v133, v134, v135], []⟩ wr := by
  conv => arg 2; whnf
  conv => arg 4; zeta
  have C := HC.out
  have S := HS.out
  have hjz : (j : Int) < ((letters (keysOf ss ds i zs)).length : Int) := by omega
  have hkb : Row wr cb (letters (keysOf ss ds i zs)) := C.row.step (S.kp.old cb C.row.lt (by have := C.xb; omega))
  have rc := hkb.cell j hjl
  have hm : (letters (keysOf ss ds i zs)).getD j 0 ∈ letters (keysOf ss ds i zs) := by rw [List.getD_eq_getElem?_getD, List.getElem?_eq_getElem hjl]; exact List.getElem_mem hjl
  have hc1 := letters_bd C.ok _ hm
  have hj0 : (letters (keysOf ss ds i zs))[j]? = some ((letters (keysOf ss ds i zs)).getD j 0) := by rw [List.getD_eq_getElem?_getD, List.getElem?_eq_getElem hjl]; rfl
  obtain ⟨c, hc⟩ : ∃ c : Nat, (letters (keysOf ss ds i zs)).getD j 0 = (c : Int) := ⟨((letters (keysOf ss ds i zs)).getD j 0).toNat, by omega⟩
  rw [hc] at rc hm hc1 hj0
  have hmm := C.mkk.mm _ hm
  rw [Int.toNat_natCast] at hmm
  have hq := (S.jn.up hmm.1).2.1
  have bx := S.mem.box
  have hpn : p < t.n := by
    rcases C.pp with h | h
    · have := S.bd.lo; omega
    · exact (S.jn.up (C.mkk.up h)).2.1
  have hkid : ∀ ch ∈ letters (keysOf ss ds i zs), p ≠ b + ch.toNat := by
    intro ch hc e
    have hm := C.mkk.mm ch hc
    rcases C.pp with h | h
    · have := hm.1.1; omega
    · rw [e] at h; exact hm.2.2 h
  have hB : t.B p = (b : Int) := by
    rw [S.jn.bb p (by rcases C.pp with h | h; exact Or.inl h; exact Or.inr (C.mkk.up h)) hkid]
    exact C.mkk.bp
  have cp : wr.cell? ⟨g', p * 2, none⟩ = some (.int .i32 (b : Int)) := (S.mem.base p hpn).trans (congrArg (fun v => some (Value.int .i32 v)) hB)
  have hpz : (p : Int) < (t.n : Int) := by omega
  have hbu : b ≤ 16777216 := by have := C.bu; have := C.um; omega
  have big := S.mem.big
  have hn := C.nn
  have hilz : i ≤ 1000000000 := C.il
  have HOG : Aside0 (OG wr bm n D) := ⟨og_kp C.og S.kp C.xb.1 C.xb.2.1 C.lt⟩
  have hkey : keyOf Try.prog 5 (.int .u8 (c : Int)) = some (.int .u8 (c : Int)) := keyOf_int_mk Try.underlying5 (WalkArith.wf_u8 (by omega))
  have HJ0 := Aside0.mk hj0
  have HM := Aside0.mk hm
  by_cases hc0 : c = 0
  · subst hc0
    have hjj : j = 0 := first_zero (asc_letters C.asc C.ok) (fun c h => (letters_bd C.ok c h).1) hj0
    subst hjj
    obtain ⟨z, zr, hz⟩ : ∃ z zr, zs = z :: zr := by cases h : zs with
      | nil => exact absurd h C.ne
      | cons z zr => exact ⟨z, zr, rfl⟩
    have hzl : 0 < zs.length := List.length_pos_iff.2 C.ne
    have brs := (C.br.step S.kp (by have := C.ap; rintro (h | h) <;> omega)).2 0 hzl
    rw [show zs.getD 0 0 = z by rw [hz]; rfl] at brs
    have hzs : z < ss.length := C.zb z (by rw [hz]; exact List.mem_cons_self)
    have hzd : z < ds.length := by have := C.src.len; omega
    have idc := (C.src.step S.kp (by have := C.ap; rintro (h | h) <;> omega) (by have := C.ap; rintro (h | h) <;> omega)).idc z hzd
    have hdd : 0 ≤ ds.getD z 0 ∧ ds.getD z 0 ≤ 2147483647 := by
      rw [List.getD_eq_getElem?_getD, List.getElem?_eq_getElem hzd]; exact C.src.dsb _ (List.getElem_mem hzd)
    have HF := Aside0.mk (L2.fin C S.drew hj0 hz hdd)
    obtain ⟨d, hd⟩ : ∃ d, ds.getD z 0 = d := ⟨_, rfl⟩
    rw [hd] at idc hdd HF
    have HFR := Aside0.mk (S.mem.drew.froz (b * 2))
    have HTC := Aside0.mk (S.mem.drew.base b (by simpa using hq))
    have hzz : (z : Int) < (ds.length : Int) := by omega
    have hzl2 : (0 : Int) < (zs.length : Int) := by omega
    have hdl : ¬ (ds.length : Int) = 0 := by omega
    have hdlb : ((ds.length : Int) == 0) = false := by rw [beq_eq_false_iff_ne]; exact hdl
    have hqz : (b : Int) < (t.n : Int) := by omega
    clear C S hkb hc hm hc1 hj0 hmm hq hkid hB hz hd hjz hpn
    go_upto_region 24 with (first | (at_lookup; refine wpList_lookup_groups_shuns _ rfl _ _ 108 rfl 5 23 3 .i64 key_u8 Try.underlying108 (zero_ints _) (bm + 1) bm n D rfl HOG.out (by unfold maxLen; omega) _ _ rfl hkey ?_; intro v ys hat hoi hzl hback hsh; obtain ⟨a2, k2, hv⟩ := none_of HC.out hat hoi; clear hat hoi hzl hback hsh; subst hv) | go_in)
    clear HOG hkey rc hdl hdlb
    go_still_tail 14, (by kernel_rfl)
    change wpList _ _ _ _ _ wr.drew
    clear bx cp brs idc
    obtain ⟨D1, h_⟩ : ∃ w_, w_ = wr.drew := ⟨_, rfl⟩
    rw [← h_] at HF HFR HTC ⊢
    clear h_
    have tf := HFR.out
    have tc := HTC.out
    go_wp2_with fail
    exact hN.out _ _ _ _ _ _ _ _ _ _ _ _ _ _ _ _ _ _ _ _ _ _ _ _ _ _ _ _ _ _ _ _ _ _ _ _ _ _ _ _ _ _ _ _ _ _ _ _ _ _ _ _ _ _ _ _ _ _ _ _ _ HF
  · have hcn : ¬ ((below ss i zs (c : Int)).length : Int) = 0 := by have := List.length_pos_iff.2 (below_ne hm); omega
    have hcb : (((below ss i zs (c : Int)).length : Int) == 0) = false := by rw [beq_eq_false_iff_ne]; exact hcn
    have HTT : Aside0 (tot (keysOf ss ds (i + 1) (below ss i zs (c : Int))) < m) := ⟨Nat.lt_of_lt_of_le (tot_below (by omega) hm) HT.out⟩
    have hcl := (by omega : c ≤ 255)
    clear C S hkb hc hm hc1 hj0 hmm hq hkid hB hpn
    go_wp2_with (first | (at_lookup; refine wpList_lookup_groups_shuns _ rfl _ _ 108 rfl 5 23 3 .i64 key_u8 Try.underlying108 (zero_ints _) (bm + 1) bm n D rfl HOG.out (by unfold maxLen; omega) _ _ rfl hkey ?_; intro v ys hat hoi hzl hback hsh; obtain ⟨b2, k2, hv, hv2⟩ := child_of HC.out HS.out hc0 hcl HM.out hat hoi hsh; have HV := Aside0.mk hv2; clear hat hoi hzl hback hsh hv2; subst hv) | (go_at_call 41; refine (HR.out wr x g' (b + c) (U + 512 * (1 + lives (keysOf ss ds i zs) ((letters (keysOf ss ds i zs)).take j))) (i + 1) b2 kb ko ib io k2 Nc Dc t ss ds (below ss i zs (c : Int)) _ _ (by omega) (by omega) HTT.out (child_pre HC.out HS.out hc0 HJ0.out HV.out.1 HV.out.2.1 HV.out.2.2)).mono ?_; rintro e_ W3 hE; obtain ⟨rfl, g3, t3, hL3⟩ := HS.out.child HC.out hc0 HJ0.out hE; have HL3 := Aside0.mk hL3; clear hE hL3) | go_in)
    exact hN.out _ _ _ _ _ _ _ _ _ _ _ _ _ _ _ _ _ _ _ _ _ _ _ _ _ _ _ _ _ _ _ _ _ _ _ _ _ _ _ _ _ _ _ _ _ _ _ _ _ _ _ _ _ _ _ _ _ _ _ _ _ HL3

end Go.Proofs.Ytaejkbjepbifcaa.Da
namespace Go.Proofs.Ytaejkbjepbifcaa.Da
open Go.RowKit Go.Maps Go.ChangeShapes Go.Proofs.YtaejkbjepbifcaaW.PrintWords
set_option linter.unusedVariables false
set_option linter.unusedSimpArgs false
theorem letters_len (L : Keys) : (letters L).length ≤ L.length := by
  have key : ∀ (n : Nat) (L : Keys), L.length = n → (letters L).length ≤ n := by
    intro n
    induction n with
    | zero => intro L h; rw [List.length_eq_zero_iff.1 h]; simp [letters]
    | succ n ih =>
      intro L h
      obtain ⟨M, k, rfl⟩ : ∃ M k, L = M ++ [k] := ⟨L.dropLast, L.getLast (by intro e; rw [e] at h; simp at h), (List.dropLast_concat_getLast _).symm⟩
      have := ih M (by simpa using h)
      rw [letters_snoc]
      unfold push
      split
      · omega
      · simp; omega
  exact key _ L rfl
theorem take_more {zs : List Nat} {j : Nat} (h : j < zs.length) : zs.take (j + 1) = zs.take j ++ [zs.getD j 0] := by
  rw [List.take_succ_eq_append_getElem h, List.getD_eq_getElem?_getD, List.getElem?_eq_getElem h]; rfl
theorem prs_more (ss : List ByteArray) (i : Nat) {zs : List Nat} {j : Nat} (h : j < zs.length) : prs ss i (zs.take (j + 1)) = prs ss i (zs.take j) ++ [(hd ss i (zs.getD j 0), ((zs.getD j 0 : Nat) : Int))] := by
  rw [take_more h]; simp [prs]
theorem letters_more (ss : List ByteArray) (ds : List Int) (i : Nat) {zs : List Nat} {j : Nat} (h : j < zs.length) : letters (keysOf ss ds i (zs.take (j + 1))) = push (letters (keysOf ss ds i (zs.take j))) (hd ss i (zs.getD j 0)) := by
  rw [take_more h]
  unfold keysOf
  rw [List.map_append]
  exact letters_snoc _ _
noncomputable def aloop : Code := pth [true, true, false, true] (Try.f41.body.getD .skip)
set_option maxHeartbeats 16000000 in
set_option maxRecDepth 100000 in
theorem add_loop (W w : World) (i bm bb kb ko ib io kc Nc : Nat) (ss : List ByteArray) (ds : List Int) (zs : List Nat) (HSR : Aside0 (Src W kb ko ss ib io ds)) (HBR : Aside0 (BrC W bb zs)) (HZB : Aside0 (∀ z ∈ zs, z < ss.length)) (hzl : zs.length ≤ 1000000) (hi_ : i ≤ 1000000000) {Q : Exit → Act → World → Prop} {v0 v1 v3 v5 v6 v7 v8 v9 v10 v11 v14 v15 v16 v17 v18 v19 v20 v21 v22 v26 v27 v28 v29 v30 v31 v32 v33 v34 v35 v36 v37 v38 v39 v40 v41 v42 v43 v44 v45 v46 v47 v48 v49 v50 v51 v52 v53 v54 v55 v56 v57 v58 v59 v60 v61 v62 v63 v64 v65 v66 v67 v68 v69 v70 v71 v72 v73 v74 v75 v76 v77 v78 v79 v80 v81 v82 v83 v84 v85 v86 v87 v88 v89 v90 v91 v92 v93 v94 v95 v96 v97 v98 v99 v100 v101 v102 v103 v104 v105 v106 v107 v108 v109 v110 v111 v112 v113 v114 v115 v116 v117 v118 v119 v120 v121 v122 v123 v124 v125 v126 v127 v128 v129 v130 v131 v132 v133 v134 v135 : Value}
    (HL : Aside0 (L1 W w bm 0 [] (.map []) (.slice none 0 0) []))
    (hN : Aside0 (∀ (n15 n16 n17 n18 n25 n26 n27 n28 n29 n30 n31 n32 n33 n34 n35 n36 n37 n38 n39 n40 n41 n42 n43 n44 n45 n46 n47 n48 n49 n50 n51 n52 n53 n54 n55 n56 n57 n58 n59 n60 n61 n62 n63 n64 n65 n66 n67 n68 n69 n70 cv' : Value) (D' : DataW Unit) (w' : World), Aside0 (L1 W w' bm zs.length (prs ss i zs) D' cv' (letters (keysOf ss ds i zs))) → Q .normal ⟨#[v0, v1, .int .i64 (i : Int), v3, .slice (some ⟨kb, ko, none⟩) ss.length Nc, v5, v6, v7, v8, v9, v10, v11, cv', .map (some bm), v14, n15, n16, n17, n18, v19, v20, v21, v22, .slice (some ⟨bb, 0, none⟩) zs.length kc, .int .i64 (zs.length : Int), n25, n26, n27, n28, n29, n30, n31, n32, n33, n34, n35, n36, n37, n38, n39, n40, n41, n42, n43, n44, n45, n46, n47, n48, n49, n50, n51, n52, n53, n54, n55, n56, n57, n58, n59, n60, n61, n62, n63, n64, n65, n66, n67, n68, n69, n70, v71, v72, v73, v74, v75, v76, v77, v78, v79, v80, v81, v82, v83, v84, v85, v86, v87, v88, v89, v90, v91, v92, v93, v94, v95, v96, v97, v98, v99, v100, v101, v102, v103, v104, v105, v106, v107, v108, v109, v110, v111, v112, v113, v114, v115, v116, v117, v118, v119, v120, v121, v122, v123, v124, v125, v126, v127, v128, v129, v130, v131, v132, v133, v134, v135], []⟩ w')) :
    Code.wp Try.prog aloop Q ⟨#[v0, v1, .int .i64 (i : Int), v3, .slice (some ⟨kb, ko, none⟩) ss.length Nc, v5, v6, v7, v8, v9, v10, v11, .slice none 0 0, .map (some bm), v14, v15, v16, v17, v18, v19, v20, v21, v22, .slice (some ⟨bb, 0, none⟩) zs.length kc, .int .i64 (zs.length : Int), .int .i64 0, v26, v27, v28, v29, v30, v31, v32, v33, v34, v35, v36, v37, v38, v39, v40, v41, v42, v43, v44, v45, v46, v47, v48, v49, v50, v51, v52, v53, v54, v55, v56, v57, v58, v59, v60, v61, v62, v63, v64, v65, v66, v67, v68, v69, v70, v71, v72, v73, v74, v75, v76, v77, v78, v79, v80, v81, v82, v83, v84, v85, v86, v87, v88, v89, v90, v91, v92, v93, v94, v95, v96, v97, v98, v99, v100, v101, v102, v103, v104, v105, v106, v107, v108, v109, v110, v111, v112, v113, v114, v115, v116, v117, v118, v119, v120, v121, v122, v123, v124, v125, v126, v127, v128, v129, v130, v131, v132, v133, v134, v135], []⟩ w := by
  conv => arg 2; whnf
  conv => arg 4; zeta
  have hfew := HSR.out.few
  go_wp2_with fail
  go_loopg [12, 25] zs.length (fun kq y12 y25 w' => ∃ (j : Nat) (D' : DataW Unit), y25 = .int .i64 (j : Int) ∧ Aside0 (j + kq = zs.length) ∧ Aside0 (L1 W w' bm j (prs ss i (zs.take j)) D' y12 (letters (keysOf ss ds i (zs.take j)))))
  case atStart => exact ⟨0, .map [], rfl, ⟨by omega⟩, HL⟩
  case round =>
    clear HL
    obtain ⟨j, D', rfl, HJ, HL⟩ := hrel
    have hj := HJ.out
    by_cases hjl : j < zs.length
    · have hjz : (j : Int) < (zs.length : Int) := by omega
      go_upto_block 1 with fail
      refine wp_block ?_
      have hz : zs.getD j 0 ∈ zs := by rw [List.getD_eq_getElem?_getD, List.getElem?_eq_getElem hjl]; exact List.getElem_mem hjl
      have hzs := HZB.out _ hz
      have hsz := HSR.out.sz (ss.getD (zs.getD j 0) ByteArray.empty) (by rw [List.getD_eq_getElem?_getD (l := ss), List.getElem?_eq_getElem hzs]; exact List.getElem_mem hzs)
      refine add_round W wr bm j _ D' _ _ i j (zs.getD j 0) zs.length kc kb ko ss.length Nc bb (ss.getD (zs.getD j 0) ByteArray.empty) (Nat.le_trans (letters_len _) (by simp [keysOf]; omega)) (by omega) hjl hzs (by omega) hsz hi_ ((HBR.out.step HL.out.kp id).2 j hjl) ((HSR.out.step HL.out.kp id id).kw _ hzs) HL ⟨?_⟩
      intro n15 n16 n17 n18 n27 n28 n29 n30 n31 n32 n33 n34 n35 n36 n37 n38 n39 n40 n41 n42 n43 n44 n45 n46 n47 n48 n49 n50 n51 n52 n53 n54 n55 n56 n57 n58 n59 n60 n61 n62 n63 n64 n65 n66 n67 n68 n69 cv2 D2 w2 H2
      have H3 : Aside0 (L1 W w2 bm (j + 1) (prs ss i (zs.take (j + 1))) D2 cv2 (letters (keysOf ss ds i (zs.take (j + 1))))) := ⟨by rw [prs_more _ _ hjl, letters_more _ _ _ hjl]; exact H2.out⟩
      clear H2 HL hz hzs hsz
      cases gk with
      | zero => omega
      | succ kz =>
      go_wp2_with fail
      go_roundg kz
      case measure => omega
      case rel => exact ⟨j + 1, D2, congrArg (Value.int .i64) (by omega), ⟨by omega⟩, H3⟩
    · have hjz : ¬ (j : Int) < (zs.length : Int) := by omega
      obtain rfl : j = zs.length := by omega
      have H3 : Aside0 (L1 W wr bm zs.length (prs ss i zs) D' _ (letters (keysOf ss ds i zs))) := ⟨by have h := HL.out; rw [List.take_length] at h; exact h⟩
      go_wp2_with fail
      exact hN.out _ _ _ _ _ _ _ _ _ _ _ _ _ _ _ _ _ _ _ _ _ _ _ _ _ _ _ _ _ _ _ _ _ _ _ _ _ _ _ _ _ _ _ _ _ _ _ _ _ _ _ D' wr H3

theorem l1_start (W : World) : L1 W (W.alloc (.map #[] 0)) W.heap.size 0 [] (.map []) (.slice none 0 0) [] :=
  ⟨(Kp.self W _).alloc _, Nat.le_refl _, by rw [Own.size_alloc]; omega, World.ownsGroups_made _ _ _ _ _, ⟨isMap_empty, fun c _ _ => by simp [gd, grp, DataW.atKey]⟩, World.ownsRow_nil _ _ _ _, World.Shuns_made _ _⟩
set_option maxHeartbeats 16000000 in
set_option maxRecDepth 100000 in
theorem add_step (m : Nat) (hR : AddAt m) : AddAt (m + 1) := by
  intro W x g p U i bb kb ko ib io kc Nc Dc s ss ds zs pv iv hpv hiv hm hP
  subst hpv
  subst hiv
  have HR := Aside0.mk hR
  have HP := Aside0.mk hP
  have HT : Aside0 (tot (keysOf ss ds i zs) ≤ m) := ⟨by omega⟩
  have HL0 := Aside0.mk (l1_start W)
  have hmm := @run_makeMap Try.prog
  clear hR hP hm
  go_enter Try.func41, Try.ntmps41
  refine wp_seq_k fun K hK_ => ?_
  have hK := Aside0.mk hK_
  clear hK_
  go_wp2_with fail
  refine hK.out _ _ ?_
  clear hK K
  refine wp_seq_k fun K hK_ => ?_
  have hK := Aside0.mk hK_
  clear hK_
  go_wp2_with fail
  refine hK.out _ _ ?_
  clear hK K
  refine wp_seq_k fun K hK_ => ?_
  have hK := Aside0.mk hK_
  clear hK_
  refine wp_seq_k fun K2 hK2_ => ?_
  have hK2 := Aside0.mk hK2_
  clear hK2_
  go_wp2_with fail
  refine hK2.out _ _ ?_
  clear hK2 K2
  refine add_loop W _ i W.heap.size bb kb ko ib io kc Nc ss ds zs ⟨HP.out.src⟩ ⟨HP.out.br⟩ ⟨HP.out.zb⟩ HP.out.zl HP.out.il HL0 ⟨?_⟩
  intro n15 n16 n17 n18 n25 n26 n27 n28 n29 n30 n31 n32 n33 n34 n35 n36 n37 n38 n39 n40 n41 n42 n43 n44 n45 n46 n47 n48 n49 n50 n51 n52 n53 n54 n55 n56 n57 n58 n59 n60 n61 n62 n63 n64 n65 n66 n67 n68 n69 n70 cv1 D1 w1 H1
  refine hK.out _ _ ?_
  clear hK K
  have P := HP.out
  rcases H1.out.ch.2 with ⟨_, h0⟩ | ⟨cb, cc, cur, rfl, h2, h3, h4, h5, h6, h7⟩
  · exact absurd h0 (by have := letters_ne (keys_ne (ss := ss) (ds := ds) (i := i) P.ne); omega)
  have hrow : Row w1 cb (letters (keysOf ss ds i zs)) := ⟨cur, _, h3, fun j hj => by
    rw [← Array.getElem?_toList, ← List.getElem?_take_of_lt (show j < (letters (keysOf ss ds i zs)).length * 1 by omega), h7, List.getElem?_map, List.getElem?_eq_getElem hj, List.getD_eq_getElem?_getD, List.getElem?_eq_getElem hj]; rfl⟩
  obtain ⟨hh, ll, hr⟩ := P.ring
  have hxl := P.mem.xlt
  have hgl := P.mem.toArr.lt
  have HSK := Aside0.mk (seek_calls w1 x g p cb cc s hh ll U (letters (keysOf ss ds i zs)) (P.mem.far H1.out.kp id id) hr P.bd P.u (by have := P.um; omega) P.pp hrow (by omega) (by omega) (letters_ne (keys_ne P.ne)) (asc_len (asc_letters P.asc P.ok) (letters_bd P.ok)) (letters_bd P.ok) (asc_letters P.asc P.ok))
  have HROW := Aside0.mk hrow
  clear P h3 h6 h7 hrow hr
  refine wp_seq_k fun K hK_ => ?_
  have hK := Aside0.mk hK_
  clear hK_
  go_wp2_with (go_at_call 60; refine HSK.out.mono ?_; rintro e_ w2 ⟨rfl, hS⟩; have HSO := Aside0.mk hS; clear hS)
  refine hK.out _ _ ?_
  clear hK K
  have P := HP.out
  obtain ⟨g1, s1, b, hg, hmem, hkp, hmk, hring, hbd, hb⟩ := HSO.out
  have HC : Aside0 (Cx w1 x g p b U i bb kb ko ib io cb W.heap.size zs.length s s1 ss ds zs D1) := ⟨⟨hmk, P.bare, P.par, P.pp.imp (fun h => h.1) id, P.src.step H1.out.kp id id, P.br.step H1.out.kp id, HROW.out, H1.out.og, H1.out.gdt, H1.out.lt, by have := P.zl; omega, ⟨hxl, hgl, by omega⟩, P.ap, P.ne, P.zb, P.zl, P.ok, P.asc, P.u, P.um, P.il, hb⟩⟩
  have HS0 : Aside0 (L2 w1 w2 x g p b U s1 (keysOf ss ds i zs) 0 g1 s1) := ⟨⟨hg, hmem, hkp, hring, hbd.up (Nat.add_le_add_left (Nat.mul_le_mul_left 512 (Nat.le_add_right 1 _)) U), Jn.start hmk (P.pp.imp (fun h => h.1) id) P.par⟩⟩
  have HKP := Aside0.mk H1.out.kp
  have hl256 := asc_len (asc_letters P.asc P.ok) (letters_bd P.ok)
  clear P HSO hg hmem hkp hmk hring hbd HL0 H1 HSK
  go_wp2_with fail
  go_loopg [77] (letters (keysOf ss ds i zs)).length (fun kq y77 w' => ∃ (j g' : Nat) (t : DA), y77 = .int .i64 (j : Int) ∧ Aside0 (j + kq = (letters (keysOf ss ds i zs)).length) ∧ Aside0 (L2 w1 w' x g p b U s1 (keysOf ss ds i zs) j g' t))
  case atStart => exact ⟨0, g1, s1, rfl, ⟨by omega⟩, HS0⟩
  case round =>
    clear HS0
    obtain ⟨j, g', t, rfl, HJ, HS⟩ := hrel
    have hj := HJ.out
    by_cases hjl : j < (letters (keysOf ss ds i zs)).length
    · have hjz : (j : Int) < ((letters (keysOf ss ds i zs)).length : Int) := by omega
      go_upto_block 3 with fail
      refine wp_block ?_
      refine add_kid m HR w1 wr x g p b U i bb kb ko ib io cb cc W.heap.size zs.length kc Nc Dc j g' s s1 t ss ds zs D1 HT hjl HC HS ⟨?_⟩
      intro n20 n21 n79 n80 n81 n82 n83 n84 n85 n86 n87 n88 n89 n90 n91 n92 n93 n94 n95 n96 n97 n98 n99 n100 n101 n102 n103 n104 n105 n106 n107 n108 n109 n110 n111 n112 n113 n114 n115 n116 n117 n118 n119 n120 n121 n122 n123 n124 n125 n126 n127 n128 n129 n130 n131 n132 n133 n134 g3 t3 w3 H3
      clear HS
      cases gk with
      | zero => omega
      | succ kz =>
      go_wp2_with fail
      go_roundg kz
      case measure => omega
      case rel => exact ⟨j + 1, g3, t3, congrArg (Value.int .i64) (by omega), ⟨by omega⟩, H3⟩
    · have hjz : ¬ (j : Int) < ((letters (keysOf ss ds i zs)).length : Int) := by omega
      obtain rfl : j = (letters (keysOf ss ds i zs)).length := by omega
      have hfin := Aside0.mk (L2.all HC.out HS.out HKP.out hgl)
      go_wp2_with fail
      (try simp only [Exit.jump])
      go_end0
      exact hfin.out
theorem add_at (m : Nat) : AddAt m := by
  induction m with
  | zero => intro W x g p U i bb kb ko ib io kc Nc Dc s ss ds zs pv iv _ _ h; exact absurd h (Nat.not_lt_zero _)
  | succ m ih => exact add_step m ih

end Go.Proofs.Ytaejkbjepbifcaa.Da
namespace Go.Proofs.Ytaejkbjepbifcaa.Da
open Go.RowKit Go.Proofs.YtaejkbjepbifcaaW.PrintWords
set_option linter.unusedVariables false
set_option linter.unusedSimpArgs false
theorem fresh_box (W : World) (n : Nat) (hn : n ≤ 1073741824) : Mem ((W.alloc (.cells #[.slice (some ⟨W.heap.size + 1, 0, none⟩) n n] 62)).alloc (zeros n)) W.heap.size (W.heap.size + 1) ⟨n, fun _ => 0, fun _ => 0⟩ := by
  have e1 : (W.alloc (.cells #[.slice (some ⟨W.heap.size + 1, 0, none⟩) n n] 62)).heap.size = W.heap.size + 1 := Own.size_alloc _ _
  have a := arr_new (W.alloc (.cells #[.slice (some ⟨W.heap.size + 1, 0, none⟩) n n] 62)) n hn
  rw [e1] at a
  exact ⟨a, ((below_alloc (Below.refl _ _) _).block _ (by rw [e1]; omega)).trans (blk_new W _), by omega⟩
/-- Only the cells up to the last used one are left. -/
def Cut (W : World) (x g : Nat) (s : DA) (e : Ending) (w' : World) : Prop :=
  e = .returned (.tuple #[]) ∧ ∃ g' m, (g' = g ∨ W.heap.size ≤ g') ∧ 1 ≤ m ∧ m ≤ s.n ∧ (∀ j, m ≤ j → j < s.n → s.C j < 0) ∧ Mem w' x g' ⟨m, s.B, s.C⟩ ∧ Kp W w' (fun k => k = x)
set_option maxHeartbeats 8000000 in
set_option maxRecDepth 100000 in
theorem truncate_calls (W : World) (x g u : Nat) (s : DA) (m : Mem W x g s) (hu : s.used u) :
    Calls Try.prog 42 #[.pointer (some ⟨x, 0, none⟩)] W fun e w' => Cut W x g s e w' := by
  have M := Aside0.mk m
  have HU := Aside0.mk hu
  have bx := m.box
  have big := m.big
  have hun := hu.2.1
  clear m hu
  go_enter Try.func42, Try.ntmps42
  go_wp2_with fail
  go_loopg [2, 3] s.n (fun kq y2 y3 w' => ∃ i k : Nat, y2 = .int .i64 (k : Int) ∧ y3 = .int .i64 (i : Int) ∧ Aside0 (i + kq = s.n ∧ k + i = s.n) ∧ Aside0 (w' = W) ∧ Aside0 (∀ j, k ≤ j → j < s.n → s.C j < 0))
  case atStart => exact ⟨0, s.n, rfl, rfl, ⟨by omega⟩, ⟨rfl⟩, ⟨fun j h1 h2 => by omega⟩⟩
  case round =>
    obtain ⟨i, k, rfl, rfl, HI, hw, HF⟩ := hrel
    obtain rfl := hw.out
    clear hw
    obtain ⟨i1, i2⟩ := HI.out
    have hk : u < k := by
      rcases Nat.lt_or_ge u k with h | h
      · exact h
      · have := HF.out u h hun; have := HU.out.2.2; omega
    have hiz : (i : Int) < (s.n : Int) := by omega
    have hkz : (s.n : Int) - (i : Int) - 1 = ((k - 1 : Nat) : Int) := by omega
    have cz : wr.cell? ⟨g, (k - 1) * 2 + 1, none⟩ = _ := M.out.chk (k - 1) (by omega)
    obtain ⟨cv, hcv⟩ : ∃ cv, s.C (k - 1) = cv := ⟨_, rfl⟩
    rw [hcv] at cz
    have HCV := Aside0.mk hcv
    clear hcv
    have kb : ((k - 1 : Nat) : Int) < (s.n : Int) := by omega
    cases gk with
    | zero => omega
    | succ kz =>
    by_cases hc : cv < 0
    · go_wp2_with fail
      go_roundg kz
      case measure => omega
      case rel => exact ⟨i + 1, k - 1, congrArg (Value.int .i64) (by omega), congrArg (Value.int .i64) (by omega), ⟨by omega⟩, ⟨rfl⟩, ⟨fun j h1 h2 => by
        by_cases e : j = k - 1
        · rw [e, HCV.out]; exact hc
        · exact HF.out j (by omega) h2⟩⟩
    · by_cases hkn : k = s.n
      · have hkb : ((k : Int) == (s.n : Int)) = true := by rw [beq_iff_eq]; omega
        have HKN := Aside0.mk hkn
        clear hkn
        go_wp2_with fail
        exact bodyPost_ret (v := .tuple #[]) (by simp [results, Try.results42, go_sem]) rfl ⟨rfl, g, s.n, Or.inl rfl, by omega, Nat.le_refl _, fun j h1 h2 => by omega, M.out, Kp.self _ _⟩
      · have hkb : ((k : Int) == (s.n : Int)) = false := by rw [beq_eq_false_iff_ne]; omega
        have hmk : ∀ w : World, (Instr.makeSlice 62 (.int .i64 (k : Int)) (.int .i64 (k : Int))).run Try.prog w = .ok (.slice (some ⟨w.heap.size, 0, none⟩) k k) (w.alloc (zeros k)) := fun w => make_run w k (by omega)
        go_upto_region 9 with fail
        have M2_ := Aside0.mk (fresh_box wr k (by omega))
        have K_ : Aside0 (Kp wr ((wr.alloc (.cells #[.slice (some ⟨wr.heap.size + 1, 0, none⟩) k k] 62)).alloc (zeros k)) (fun _ => False)) := ⟨((Kp.self wr _).alloc _).alloc _⟩
        have M1_ := Aside0.mk (M.out.far K_.out id id)
        have hgl : g < wr.heap.size := M.out.toArr.lt
        have hxl : x < wr.heap.size := M.out.xlt
        obtain ⟨y, hy⟩ : ∃ y, wr.heap.size = y := ⟨_, rfl⟩
        rw [hy] at M2_ K_ M1_ hgl hxl ⊢
        have HY := Aside0.mk hy
        obtain ⟨W2, hW2⟩ : ∃ W2, W2 = (wr.alloc (.cells #[.slice (some ⟨y + 1, 0, none⟩) k k] 62)).alloc (zeros k) := ⟨_, rfl⟩
        rw [← hW2] at M2_ K_ M1_ ⊢
        clear hW2 bx hmk hkb hy cz
        have b1 := M1_.out.box
        have b2 := M2_.out.box
        obtain ⟨i0, hi0, _⟩ := Option.map_eq_some_iff.1 pair_info
        have hsl := cut_to (P := Try.prog) 62 100 .i64 Try.underlying62 hi0 (some ⟨g, 0, none⟩) s.n s.n (k : Int) (by omega) (by omega) (Nat.le_refl _)
        rw [Int.toNat_natCast] at hsl
        clear hi0
        go_still_tail 8, (by kernel_rfl)
        change wpList _ _ _ _ _ W2.drew
        clear b1 b2 hsl
        have K3 := Aside0.mk K_.out.drew
        have N1 := Aside0.mk M1_.out.drew
        have N2 := Aside0.mk M2_.out.drew
        obtain ⟨W3, hW3⟩ : ∃ W3, W3 = W2.drew := ⟨_, rfl⟩
        rw [← hW3] at K3 N1 N2 ⊢
        clear hW3 K_ M1_ M2_
        obtain ⟨row, hcp, ha⟩ := arr_copy W3 g (y + 1) k k k k s.n _ _ N1.out.toArr N2.out.toArr (by omega) (Nat.le_refl _) (Nat.min_self _)
        obtain ⟨W4, hW4⟩ : ∃ W4, W4 = W3.setRow (y + 1) row := ⟨_, rfl⟩
        rw [← hW4] at hcp ha
        have K4 : Aside0 (Kp wr W4 (fun _ => False)) := ⟨by rw [hW4]; exact K3.out.setRow _ _ (by have := HY.out; omega)⟩
        have P1 : Aside0 (Mem W4 x g s) := ⟨N1.out.step (by rw [hW4]; exact setRow_other _ _ _ _ (by omega)) (by rw [hW4]; exact setRow_other _ _ _ _ (by omega))⟩
        have P2 : Aside0 (Mem W4 y (y + 1) (s.over ⟨k, fun _ => 0, fun _ => 0⟩ k)) := ⟨ha, by rw [hW4, setRow_other _ _ _ _ (by omega)]; exact N2.out.bx, by omega⟩
        have hcp3 := hcp 3
        clear hW4 ha hcp K3 N1 N2
        have b1 := P1.out.box
        have b2 : W4.cell? ⟨y, 0, none⟩ = some (.slice (some ⟨y + 1, 0, none⟩) k k) := P2.out.box
        have f1 := P1.out.bfroz
        go_wp2_with fail
        go_end0
        refine ⟨rfl, y + 1, k, Or.inr (by have := HY.out; omega), by omega, by omega, HF.out, ?_, (K4.out.mono (T := fun k => k = x) (fun _ _ h => h.elim)).setCell ⟨x, 0, none⟩ _ (show x = x from rfl)⟩
        exact (P1.out.move P2.out.toArr (by omega)).ext rfl (fun j hj => by
          have hj' : j < k := hj
          show s.B j = (if j < k then s.B j else 0) ∧ s.C j = (if j < k then s.C j else 0)
          rw [if_pos hj', if_pos hj']; exact ⟨rfl, rfl⟩)
end Go.Proofs.Ytaejkbjepbifcaa.Da
namespace Go.Proofs.Ytaejkbjepbifcaa.Da
open Go.RowKit Go.Proofs.YtaejkbjepbifcaaW.PrintWords
set_option linter.unusedVariables false
set_option linter.unusedSimpArgs false
/-- An empty array has been made. -/
def Init (W : World) (x : Nat) (e : Ending) (w' : World) : Prop := e = .returned (.tuple #[]) ∧ ∃ g, W.heap.size ≤ g ∧ Mem w' x g (DA.init 51200) ∧ Kp W w' (fun k => k = x)
theorem boxed {W : World} {x : Nat} {v : Value} (h : W.heap[x]? = some (.cells #[v] 62 (0, 0))) (n : Nat) (hn : n ≤ 1073741824) :
    Mem ((W.setCell ⟨x, 0, none⟩ (.slice (some ⟨W.heap.size, 0, none⟩) n n)).alloc (zeros n)) x W.heap.size ⟨n, fun _ => 0, fun _ => 0⟩ ∧ Kp W ((W.setCell ⟨x, 0, none⟩ (.slice (some ⟨W.heap.size, 0, none⟩) n n)).alloc (zeros n)) (fun k => k = x) := by
  have hs : (W.setCell ⟨x, 0, none⟩ (.slice (some ⟨W.heap.size, 0, none⟩) n n)).heap.size = W.heap.size := size_setCell _ _ _
  have hx := (Array.getElem?_eq_some_iff.1 h).1
  have a := arr_new (W.setCell ⟨x, 0, none⟩ (.slice (some ⟨W.heap.size, 0, none⟩) n n)) n hn
  rw [hs] at a
  exact ⟨⟨a, ((below_alloc (Below.refl _ _) _).block x (by rw [hs]; exact hx)).trans (setCell_heap h), by omega⟩, (((Kp.self W (fun k => k = x)).setCell ⟨x, 0, none⟩ _ (show x = x from rfl)).alloc _)⟩
set_option maxHeartbeats 8000000 in
set_option maxRecDepth 100000 in
theorem init_calls (W : World) (x : Nat) (v : Value) (hx : W.heap[x]? = some (.cells #[v] 62 (0, 0))) :
    Calls Try.prog 37 #[.pointer (some ⟨x, 0, none⟩)] W fun e w' => Init W x e w' := by
  have bx : W.cell? ⟨x, 0, none⟩ = some v := by unfold World.cell?; simp [hx]
  have bf : W.frozen? ⟨x, 0, none⟩ = false := by unfold World.frozen?; simp [hx]
  have hxl : x < W.heap.size := (Array.getElem?_eq_some_iff.1 hx).1
  obtain ⟨Z, hZ⟩ : ∃ Z, Z = zeros 51200 := ⟨_, rfl⟩
  have hmk : ∀ w : World, (Instr.makeSlice 62 (.int .i64 51200) (.int .i64 51200)).run Try.prog w = .ok (.slice (some ⟨w.heap.size, 0, none⟩) 51200 51200) (w.alloc Z) := fun w => by
    rw [hZ]; exact make_run w 51200 (by omega)
  have HA := Aside0.mk (boxed hx 51200 (by omega))
  rw [← hZ] at HA
  have HX := Aside0.mk hx
  clear hx hZ
  go_enter Try.func37, Try.ntmps37
  go_upto_region 1 with fail
  obtain ⟨g, hg⟩ : ∃ g, W.heap.size = g := ⟨_, rfl⟩
  obtain ⟨W1, hW1⟩ : ∃ W1, W1 = (W.setCell ⟨x, 0, none⟩ (.slice (some ⟨g, 0, none⟩) 51200 51200)).alloc Z := ⟨_, rfl⟩
  have hmk2 := HA.out
  rw [hg, ← hW1] at hmk2
  rw [hg, ← hW1]
  have HG := Aside0.mk hg
  have M := Aside0.mk hmk2.1
  have K := Aside0.mk hmk2.2
  clear HA hW1 hmk2 bx bf hmk HX hxl hg
  have hxg : x ≠ g := M.out.ne
  have hgx := hxg.symm
  have bx := M.out.box
  have t0 := M.out.base 0 (show 0 < 51200 by omega)
  have t1 := M.out.chk 0 (show 0 < 51200 by omega)
  rw [Nat.zero_mul] at t0
  rw [Nat.zero_mul, Nat.zero_add] at t1
  have f0 := M.out.froz 0
  have f1 := M.out.froz 1
  go_wp2_with fail
  have m1 := (M.out.putB 0 (show 0 < 51200 by omega) 1 (by omega) (by omega)).putC 0 (show 0 < 51200 by omega) (-1) (by omega) (by omega)
  have k1 := (K.out.setNew ⟨g, 0 * 2, none⟩ (.int .i32 1) (show W.heap.size ≤ g by have := HG.out; omega)).setNew ⟨g, 0 * 2 + 1, none⟩ (.int .i32 (-1)) (show W.heap.size ≤ g by have := HG.out; omega)
  rw [Nat.zero_mul, Nat.zero_add] at m1 k1
  obtain ⟨W2, hW2⟩ : ∃ W2, W2 = (W1.setCell ⟨g, 0, none⟩ (.int .i32 1)).setCell ⟨g, 1, none⟩ (.int .i32 (-1)) := ⟨_, rfl⟩
  rw [← hW2] at m1 k1 ⊢
  have M2 := Aside0.mk m1
  have K2 := Aside0.mk k1
  clear m1 k1 hW2 M K bx t0 t1 f0 f1
  go_loopg [3] 51199 (fun kq y3 w' => ∃ i : Nat, y3 = .int .i64 (i : Int) ∧ Aside0 (1 ≤ i ∧ i + kq = 51200) ∧ Aside0 (Mem w' x g ⟨51200, fun j => if j = 0 then 1 else if j < i then -((j : Int) - 1) else 0, fun j => if j = 0 then -1 else if j < i then -((j : Int) + 1) else 0⟩) ∧ Aside0 (Kp W w' (fun k => k = x)))
  case atStart => exact ⟨1, rfl, ⟨by omega⟩, ⟨M2.out.ext rfl (fun i hi => by
    show (if i = 0 then 1 else if i < 1 then -((i : Int) - 1) else 0) = upd (fun _ => 0) 0 1 i ∧ (if i = 0 then -1 else if i < 1 then -((i : Int) + 1) else 0) = upd (fun _ => 0) 0 (-1) i
    unfold upd
    by_cases h : i = 0
    · simp [h]
    · have : ¬ i < 1 := by omega
      simp [h, this])⟩, K2⟩
  case round =>
    clear M2 K2
    obtain ⟨i, rfl, HI, M, K⟩ := hrel
    obtain ⟨i1, i2⟩ := HI.out
    by_cases hi : i < 51200
    · have hiz : (i : Int) < 51200 := by omega
      have bx := M.out.box
      have c1 := M.out.base i hi
      have c2 := M.out.chk i hi
      have f1 := M.out.froz (i * 2)
      have f2 := M.out.froz (i * 2 + 1)
      cases gk with
      | zero => omega
      | succ kz =>
      go_wp2_with fail
      go_roundg kz
      case measure => omega
      case rel => exact ⟨i + 1, congrArg (Value.int .i64) (by omega), ⟨by omega⟩, ⟨((M.out.putB i hi (-((i : Int) - 1)) (by omega) (by omega)).putC i hi (-((i : Int) + 1)) (by omega) (by omega)).ext rfl (fun j hj => by
        show (if j = 0 then 1 else if j < i + 1 then -((j : Int) - 1) else 0) = upd (fun j => if j = 0 then 1 else if j < i then -((j : Int) - 1) else 0) i (-((i : Int) - 1)) j ∧ (if j = 0 then -1 else if j < i + 1 then -((j : Int) + 1) else 0) = upd (fun j => if j = 0 then -1 else if j < i then -((j : Int) + 1) else 0) i (-((i : Int) + 1)) j
        simp only [upd]
        by_cases e : j = i
        · subst e; rw [if_neg (by omega), if_pos (by omega), if_pos rfl, if_neg (by omega), if_pos (by omega), if_pos rfl]; exact ⟨rfl, rfl⟩
        · rw [if_neg e, if_neg e]
          by_cases h1 : j = 0
          · simp [h1]
          · by_cases h2 : j < i
            · rw [if_neg h1, if_neg h1, if_neg h1, if_neg h1, if_pos h2, if_pos h2, if_pos (by omega), if_pos (by omega)]; exact ⟨rfl, rfl⟩
            · rw [if_neg h1, if_neg h1, if_neg h1, if_neg h1, if_neg h2, if_neg h2, if_neg (by omega), if_neg (by omega)]; exact ⟨rfl, rfl⟩)⟩, ⟨(K.out.setNew _ _ (by have := HG.out; show W.heap.size ≤ g; omega)).setNew _ _ (by have := HG.out; show W.heap.size ≤ g; omega)⟩⟩
    · have hiz : ¬ (i : Int) < 51200 := by omega
      obtain rfl : i = 51200 := by omega
      have bx := M.out.box
      have c1 : wr.cell? ⟨g, 2, none⟩ = _ := M.out.base 1 (show 1 < 51200 by omega)
      have c2 : wr.cell? ⟨g, 102399, none⟩ = _ := M.out.chk 51199 (show 51199 < 51200 by omega)
      have f1 := M.out.froz 2
      have f2 := M.out.froz 102399
      go_wp2_with fail
      go_end0
      have a := (M.out.putB 1 (show 1 < 51200 by omega) (-51199) (by omega) (by omega)).putC 51199 (show 51199 < 51200 by omega) (-1) (by omega) (by omega)
      refine ⟨rfl, g, by have := HG.out; omega, a.ext rfl (fun j hj => ?_), (K.out.setNew _ _ (by have := HG.out; show W.heap.size ≤ g; omega)).setNew _ _ (by have := HG.out; show W.heap.size ≤ g; omega)⟩
      have hj' : j < 51200 := hj
      show (if j = 0 then 1 else if j = 1 then -(((51200 : Nat) : Int) - 1) else -((j : Int) - 1)) = upd (fun j => if j = 0 then 1 else if j < 51200 then -((j : Int) - 1) else 0) 1 (-51199) j ∧ (if j = 0 then -1 else if j = 51200 - 1 then -1 else -((j : Int) + 1)) = upd (fun j => if j = 0 then -1 else if j < 51200 then -((j : Int) + 1) else 0) 51199 (-1) j
      simp only [upd]
      constructor
      · by_cases h0 : j = 0
        · simp [h0]
        · by_cases h1 : j = 1
          · subst h1; rfl
          · rw [if_neg h0, if_neg h1, if_neg h1, if_neg h0, if_pos hj']
      · by_cases h0 : j = 0
        · simp [h0]
        · by_cases h1 : j = 51199
          · subst h1; rfl
          · rw [if_neg h0, if_neg (by omega), if_neg h1, if_neg h0, if_pos hj']
end Go.Proofs.Ytaejkbjepbifcaa.Da
namespace Go.Proofs.Ytaejkbjepbifcaa.Da
set_option linter.unusedVariables false
set_option linter.unusedSimpArgs false
theorem run_snoc (s : DA) (p : Nat) (w : List Int) (c : Int) : s.run p (w ++ [c]) = (s.run p w).bind (fun q => s.step q c) := by
  induction w generalizing p with
  | nil =>
    show (match s.step p c with | none => none | some q => s.run q []) = _
    cases h : s.step p c <;> simp [DA.run, h]
  | cons d w ih =>
    show (match s.step p d with | none => none | some q => s.run q (w ++ [c])) = (match s.step p d with | none => none | some q => s.run q w).bind _
    cases s.step p d with
    | none => rfl
    | some q => exact ih q
theorem subw_append (L : Keys) (a b : List Int) : subw L (a ++ b) = subw (subw L a) b := by
  induction a generalizing L with
  | nil => rfl
  | cons c a ih => exact ih (sub L c)
theorem subw_nil (w : List Int) : subw [] w = [] := by
  induction w with
  | nil => rfl
  | cons c w ih => exact ih
/-- The key that is a text's first bytes. -/
def hitAt (L : Keys) (w : List Int) (i : Nat) : Option Int := here (subw L (w.take (i + 1)))
def hitsTo (L : Keys) (w : List Int) : Nat → List (Int × Int)
  | 0 => []
  | k + 1 => hitsTo L w k ++ (match hitAt L w k with | none => [] | some v => [(v, (k : Int) + 1)])
/-- The state of a search: the first i bytes have been followed to cell q. -/
structure Sk (s : DA) (L : Keys) (w : List Int) (i q : Nat) : Prop where
  run : s.run 0 (w.take i) = some q
  le : i ≤ w.length
theorem take_ok {w : List Int} (hw : Okw w) (i : Nat) : Okw (w.take i) := fun c h => hw c (List.mem_of_mem_take h)
theorem Sk.told {s : DA} {L : Keys} {w : List Int} {i q : Nat} (k : Sk s L w i q) (g : Good s 0 L) (hw : Okw w) : subw L (w.take i) ≠ [] ∧ s.term q = here (subw L (w.take i)) ∧ 1 ≤ s.B q := by
  have h := g (w.take i) (take_ok hw i)
  unfold Told at h
  rw [k.run] at h
  exact h
theorem take_succ {w : List Int} {i : Nat} (h : i < w.length) : w.take (i + 1) = w.take i ++ [w.getD i 0] := by
  rw [List.take_succ_eq_append_getElem h, List.getD_eq_getElem?_getD, List.getElem?_eq_getElem h]; rfl
theorem Sk.start (s : DA) (L : Keys) (w : List Int) : Sk s L w 0 0 := ⟨by simp [DA.run], Nat.zero_le _⟩
theorem Sk.go {s : DA} {L : Keys} {w : List Int} {i q r : Nat} (k : Sk s L w i q) (h : i < w.length) (hs : s.step q (w.getD i 0) = some r) : Sk s L w (i + 1) r :=
  ⟨by rw [take_succ h, run_snoc, k.run]; exact hs, h⟩
theorem Sk.hit {s : DA} {L : Keys} {w : List Int} {i r : Nat} (k : Sk s L w (i + 1) r) (g : Good s 0 L) (hw : Okw w) : hitAt L w i = s.term r := (k.told g hw).2.1.symm
theorem Sk.stop {s : DA} {L : Keys} {w : List Int} {i q : Nat} (k : Sk s L w i q) (g : Good s 0 L) (hw : Okw w) (h : i < w.length) (hs : s.step q (w.getD i 0) = none) : subw L (w.take (i + 1)) = [] := by
  have h2 := g (w.take (i + 1)) (take_ok hw _)
  unfold Told at h2
  rw [take_succ h, run_snoc, k.run] at h2
  simp only [Option.bind_some, hs] at h2
  rw [take_succ h]
  exact h2
theorem none_on {L : Keys} {w : List Int} {i : Nat} (h : subw L (w.take i) = []) {j : Nat} (hj : i ≤ j) : subw L (w.take j) = [] := by
  have e : w.take j = w.take i ++ (w.drop i).take (j - i) := by
    rw [← List.take_add]; congr 1; omega
  rw [e, subw_append, h, subw_nil]
theorem hits_stop {L : Keys} {w : List Int} {i : Nat} (h : subw L (w.take (i + 1)) = []) {j : Nat} (hj : i ≤ j) : hitsTo L w j = hitsTo L w i := by
  induction j with
  | zero => rw [show i = 0 by omega]
  | succ j ih =>
    by_cases e : i = j + 1
    · rw [e]
    · have := ih (by omega)
      have h0 : hitAt L w j = none := by
        unfold hitAt
        rw [none_on h (by omega)]; rfl
      simp only [hitsTo, h0, List.append_nil]
      exact this
theorem hits_none {L : Keys} {w : List Int} {i : Nat} (h : hitAt L w i = none) : hitsTo L w (i + 1) = hitsTo L w i := by
  simp only [hitsTo, h, List.append_nil]
theorem hits_some {L : Keys} {w : List Int} {i : Nat} {v : Int} (h : hitAt L w i = some v) : hitsTo L w (i + 1) = hitsTo L w i ++ [(v, (i : Int) + 1)] := by
  simp only [hitsTo, h]
theorem hits_len (L : Keys) (w : List Int) (k : Nat) : (hitsTo L w k).length ≤ k := by
  induction k with
  | zero => exact Nat.le_refl _
  | succ k ih =>
    simp only [hitsTo]
    cases hitAt L w k <;> simp <;> omega
/-- What the search of a whole text finds. -/
def found (L : Keys) (w : List Int) : Option Int := if w = [] then none else here (subw L w)
/-- A step in the array's own numbers. -/
theorem step_far {s : DA} {q : Nat} {c : Int} (h : (s.n : Int) ≤ s.B q + c) : s.step q c = none := by
  unfold DA.step
  rw [if_neg (fun e => by have := e.1; omega)]
theorem step_off {s : DA} {q : Nat} {c : Int} (h : s.C (s.B q + c).toNat ≠ (q : Int)) : s.step q c = none := by
  unfold DA.step
  rw [if_neg (fun e => h e.2)]
theorem step_on {s : DA} {q : Nat} {c : Int} (h1 : s.B q + c < (s.n : Int)) (h2 : s.C (s.B q + c).toNat = (q : Int)) : s.step q c = some (s.B q + c).toNat := by
  unfold DA.step
  rw [if_pos ⟨h1, h2⟩]
theorem term_far {s : DA} {q : Nat} (h : (s.n : Int) ≤ s.B q) : s.term q = none := by
  unfold DA.term
  rw [if_neg (fun e => by have := e.1.1; omega)]
theorem term_off {s : DA} {q : Nat} (h : s.C (s.B q).toNat ≠ (q : Int)) : s.term q = none := by
  unfold DA.term
  rw [if_neg (fun e => h e.1.2)]
theorem term_no {s : DA} {q : Nat} (h : 0 < s.B (s.B q).toNat) : s.term q = none := by
  unfold DA.term
  rw [if_neg (fun e => by have := e.2; omega)]
theorem term_on {s : DA} {q : Nat} (h1 : s.B q < (s.n : Int)) (h2 : s.C (s.B q).toNat = (q : Int)) (h3 : s.B (s.B q).toNat ≤ 0) : s.term q = some (-(s.B (s.B q).toNat)) := by
  unfold DA.term
  rw [if_pos ⟨⟨h1, h2⟩, h3⟩]
/-- The cells behind the last used one do not matter. -/
theorem cut_at {s : DA} {m : Nat} (hm : m ≤ s.n) (h : ∀ j, m ≤ j → j < s.n → s.C j < 0) (q : Int) (p : Nat) : DA.at_ ⟨m, s.B, s.C⟩ q p ↔ s.at_ q p := by
  constructor
  · rintro ⟨h1, h2⟩
    exact ⟨by have h1 : q < (m : Int) := h1; omega, h2⟩
  · rintro ⟨h1, h2⟩
    refine ⟨?_, h2⟩
    show q < (m : Int)
    rcases Int.lt_or_le q m with e | e
    · exact e
    · have := h q.toNat (by omega) (by omega)
      omega
theorem cut_step {s : DA} {m : Nat} (hm : m ≤ s.n) (h : ∀ j, m ≤ j → j < s.n → s.C j < 0) (p : Nat) (c : Int) : DA.step ⟨m, s.B, s.C⟩ p c = s.step p c := by
  unfold DA.step
  have := cut_at hm h (s.B p + c) p
  by_cases e : s.at_ (s.B p + c) p
  · rw [if_pos e, if_pos (this.2 e)]
  · rw [if_neg e, if_neg (fun k => e (this.1 k))]
theorem cut_run {s : DA} {m : Nat} (hm : m ≤ s.n) (h : ∀ j, m ≤ j → j < s.n → s.C j < 0) (w : List Int) : ∀ p, DA.run ⟨m, s.B, s.C⟩ p w = s.run p w := by
  induction w with
  | nil => intro p; rfl
  | cons c w ih =>
    intro p
    simp only [DA.run]
    rw [cut_step hm h]
    cases s.step p c with
    | none => rfl
    | some q => exact ih q
theorem cut_term {s : DA} {m : Nat} (hm : m ≤ s.n) (h : ∀ j, m ≤ j → j < s.n → s.C j < 0) (q : Nat) : DA.term ⟨m, s.B, s.C⟩ q = s.term q := by
  unfold DA.term
  have := cut_at hm h (s.B q) q
  by_cases e : s.at_ (s.B q) q
  · have e2 := this.2 e
    simp only [e, e2, true_and]
  · have e2 : ¬ DA.at_ ⟨m, s.B, s.C⟩ (s.B q) q := fun k => e (this.1 k)
    simp only [e, e2, false_and, if_false]
theorem cut_good {s : DA} {m p : Nat} {L : Keys} (hm : m ≤ s.n) (h : ∀ j, m ≤ j → j < s.n → s.C j < 0) (g : Good s p L) : Good ⟨m, s.B, s.C⟩ p L := by
  intro w hw
  have := g w hw
  unfold Told at this ⊢
  rw [cut_run hm h]
  cases e : s.run p w with
  | none => rw [e] at this; exact this
  | some q =>
    rw [e] at this
    simp only at this ⊢
    rw [cut_term hm h]
    exact this
end Go.Proofs.Ytaejkbjepbifcaa.Da
namespace Go.Proofs.Ytaejkbjepbifcaa.Da
open Go.RowKit Go.Maps Go.ChangeShapes Go.Proofs.YtaejkbjepbifcaaW.PrintWords
set_option linter.unusedVariables false
set_option linter.unusedSimpArgs false
/-- All keys with their identifiers. -/
def keysAll (ss : List ByteArray) (ds : List Int) : Keys := keysOf ss ds 0 (List.range ss.length)
abbrev intZeros (n : Nat) : Obj := .cells (madeCells #[.int .i64 0] n) 3 (0, 0)
theorem make_ints (W : World) (n : Nat) (hn : n ≤ 1073741824) : (Instr.makeSlice 23 (.int .i64 (n : Int)) (.int .i64 (n : Int))).run Try.prog W = .ok (.slice (some ⟨W.heap.size, 0, none⟩) n n) (W.alloc (intZeros n)) := by
  obtain ⟨i, hi, hz⟩ := Option.map_eq_some_iff.1 info_int
  simp only [Prod.mk.injEq] at hz
  obtain ⟨h1, h2, h3⟩ := hz
  have := run_make (P := Try.prog) W 23 3 i _ Try.underlying23 hi h1 .i64 .i64 (n : Int) (n : Int) (by omega) (by omega) (by rw [h3]; omega) (by omega)
  rw [this, h2]
  simp only [Int.toNat_natCast, Nat.mul_one]
  rfl
/-- The branches so far. -/
structure BrS (W w : World) (bb n i : Nat) : Prop where
  kp : Kp W w (fun _ => False)
  ge : W.heap.size ≤ bb
  ar : ∃ cur, w.heap[bb]? = some (.cells cur 3 (0, 0)) ∧ cur.size = n ∧ ∀ q, q < i → cur[q]? = some (.int .i64 (q : Int))
theorem brs_start (W : World) (n : Nat) : BrS W (W.alloc (intZeros n)) W.heap.size n 0 := ⟨(Kp.self W _).alloc _, Nat.le_refl _, _, blk_new W _, by rw [size_madeCells], fun q h => absurd h (Nat.not_lt_zero _)⟩
theorem BrS.facts {W w : World} {bb n i : Nat} (h : BrS W w bb n i) (hi : i < n) : (∃ v, w.cell? ⟨bb, i, none⟩ = some v) ∧ w.frozen? ⟨bb, i, none⟩ = false := by
  obtain ⟨cur, h1, h2, h3⟩ := h.ar
  constructor
  · unfold World.cell?; simp [h1, h2, hi]
  · unfold World.frozen?; simp [h1]
theorem BrS.put {W w : World} {bb n i : Nat} (h : BrS W w bb n i) (hi : i < n) : BrS W (w.setCell ⟨bb, i, none⟩ (.int .i64 (i : Int))) bb n (i + 1) := by
  obtain ⟨cur, h1, h2, h3⟩ := h.ar
  refine ⟨h.kp.setNew _ _ h.ge, h.ge, _, setCell_heap h1, by simpa using h2, fun q hq => ?_⟩
  rw [Array.getElem?_setIfInBounds]
  by_cases e : i = q
  · subst e; rw [if_pos rfl, if_pos (by omega)]
  · rw [if_neg e]; exact h3 q (by omega)
theorem BrS.brc {W w : World} {bb n : Nat} (h : BrS W w bb n n) : BrC w bb (List.range n) := by
  obtain ⟨cur, h1, h2, h3⟩ := h.ar
  refine ⟨(Array.getElem?_eq_some_iff.1 h1).1, fun j hj => ?_⟩
  rw [List.length_range] at hj
  have e : (List.range n).getD j 0 = j := by rw [List.getD_eq_getElem?_getD, List.getElem?_range hj]; rfl
  rw [e]
  unfold World.cell?
  simp [h1, h3 j hj]
theorem not_used_init (i : Nat) : ¬ (DA.init 51200).used i := by
  rintro ⟨h1, h2, h3⟩
  have h2' : i < 51200 := h2
  simp only [DA.init] at h3
  rw [if_neg (by omega)] at h3
  split at h3 <;> omega
/-- What is built. -/
def BldP (W W' : World) (x g : Nat) (L : Keys) (g' : Nat) (s' : DA) : Prop := Arr W' g' s' ∧ Good s' 0 L ∧ 0 < s'.n ∧ (g' = g ∨ W.heap.size ≤ g') ∧ Kp W W' (fun k => k = x ∨ k = g)
theorem add_pre {W w : World} {x g bb kb ko ib io : Nat} {ss : List ByteArray} {ds : List Int} (M : Mem W x g (DA.init 51200)) (S : Src W kb ko ss ib io ds) (hne : ss ≠ []) (hok : Okk (keysAll ss ds)) (has : Asc (keysAll ss ds)) (ht : tot (keysAll ss ds) ≤ 32000) (ap : kb ≠ x ∧ kb ≠ g ∧ ib ≠ x ∧ ib ≠ g) (h : BrS W w bb ss.length ss.length) :
    Pre w x g 0 255 0 bb kb ko ib io (DA.init 51200) ss ds (List.range ss.length) := by
  have hx := M.xlt
  have hg := M.toArr.lt
  have hge := h.ge
  refine ⟨M.far h.kp id id, ⟨_, _, ring_init 51200 (by omega)⟩, ⟨fun i hi => absurd hi (not_used_init i), by show 51200 ≤ _; omega, by show 51200 ≤ 51200; omega⟩, Nat.le_refl _, ?_, fun i hi => absurd hi (not_used_init i), fun i hi => absurd hi (not_used_init i), Or.inl ⟨rfl, rfl, not_used_init⟩, S.step h.kp id id, h.brc, ?_, fun z hz => List.mem_range.1 hz, by rw [List.length_range]; exact S.few, hok, has, ⟨ap.1, ap.2.1, ap.2.2.1, ap.2.2.2, by omega, by omega⟩, by omega⟩
  · show 255 + 512 * (1 + tot (keysAll ss ds)) ≤ _
    omega
  · intro e
    have : (List.range ss.length).length = 0 := by rw [e]; rfl
    rw [List.length_range] at this
    exact hne (List.length_eq_zero_iff.1 this)
theorem good_used {s : DA} {L : Keys} (g : Good s 0 L) (hk : Okk L) : ∃ u, s.used u := by
  obtain ⟨q, h1, h2, h3⟩ := good_child g hk
  exact ⟨q.toNat, by omega, by omega, by omega⟩
theorem bld_done {W w1 w2 w3 : World} {x g bb : Nat} {ss : List ByteArray} {ds : List Int} {e e' : Ending} {U : Nat} (hk : Kp W w1 (fun _ => False)) (M : Mem W x g (DA.init 51200)) (hok : Okk (keysAll ss ds)) (E : AddE w1 x g 0 U (DA.init 51200) (keysAll ss ds) e w2) :
    ∃ g1 s1 u, Mem w2 x g1 s1 ∧ s1.used u ∧ (∀ e' w3, Cut w2 x g1 s1 e' w3 → e' = .returned (.tuple #[]) ∧ ∃ g' s', Mem w3 x g' s' ∧ BldP W w3 x g (keysAll ss ds) g' s') := by
  obtain ⟨_, g1, s1, hg, hm, hkp, hf, hgood, _, _, _⟩ := E
  obtain ⟨u, hu⟩ := good_used hgood hok
  refine ⟨g1, s1, u, hm, hu, ?_⟩
  rintro e' w3 ⟨rfl, g', m, hg', hm1, hm2, hcut, hmem, hkp2⟩
  refine ⟨rfl, g', _, hmem, hmem.toArr, cut_good hm2 hcut hgood, hm1, ?_, ?_⟩
  · have h1 := hk.size
    have h2 := hkp.size
    rcases hg' with h | h
    · rcases hg with h3 | h3
      · exact Or.inl (h.trans h3)
      · right; omega
    · right; omega
  · exact ((hk.trans hkp).trans hkp2).mono (fun i hi h => by rcases h with (h | h) | h; exact h.elim; exact h; exact Or.inl h)
noncomputable def btail : Code := pth [true, true, true, true, true, true] (Try.f26.body.getD .skip)
set_option maxHeartbeats 16000000 in
set_option maxRecDepth 100000 in
theorem bld_tail (w : World) (x g kb ko ib io Nc Dc : Nat) (ss : List ByteArray) (ds : List Int) (HM : Aside0 (Mem w x g (DA.init 51200))) (HSRC : Aside0 (Src w kb ko ss ib io ds)) (HNE : Aside0 (ss ≠ [])) (HOK : Aside0 (Okk (keysAll ss ds))) (HAS : Aside0 (Asc (keysAll ss ds))) (HT : Aside0 (tot (keysAll ss ds) ≤ 32000)) (HAP : Aside0 (kb ≠ x ∧ kb ≠ g ∧ ib ≠ x ∧ ib ≠ g)) {Q : Exit → Act → World → Prop} {v2 v3 v4 v5 v7 v8 v9 v10 v11 v12 v13 v14 v15 v16 v17 v18 v19 v20 v21 v22 v23 v24 v25 v26 v27 v28 v29 v30 v31 v32 v33 v34 v35 v36 v37 v38 v39 v40 v41 v42 v43 v44 v45 v46 v47 v48 v49 v50 v51 v52 v53 v54 v55 v56 v57 v58 v59 v60 v61 v62 v63 v64 v65 v66 v67 v68 v69 v70 v71 v72 v73 v74 v75 v76 v77 v78 v79 v80 : Value}
    (hN : Aside0 (∀ (n12 n13 n62 n63 n64 n65 n66 n67 n68 n69 n70 n71 n72 n73 n74 n75 n76 n77 n78 n79 n80 : Value) (g' : Nat) (s' : DA) (w' : World), Aside0 (BldP w w' x g (keysAll ss ds) g' s') → Q .ret ⟨#[.slice (some ⟨kb, ko, none⟩) ss.length Nc, .slice (some ⟨ib, io, none⟩) ss.length Dc, v2, v3, .slice (some ⟨g', 0, none⟩) s'.n s'.n, .nilIface, .pointer (some ⟨x, 0, none⟩), v7, v8, v9, v10, v11, n12, n13, v14, v15, v16, v17, v18, v19, v20, v21, v22, v23, v24, v25, v26, v27, v28, v29, v30, v31, v32, v33, v34, v35, v36, v37, v38, v39, v40, v41, v42, v43, v44, v45, v46, v47, v48, v49, v50, v51, v52, v53, v54, v55, v56, v57, v58, v59, v60, v61, n62, n63, n64, n65, n66, n67, n68, n69, n70, n71, n72, n73, n74, n75, n76, n77, n78, n79, n80], []⟩ w')) :
    Code.wp Try.prog btail Q ⟨#[.slice (some ⟨kb, ko, none⟩) ss.length Nc, .slice (some ⟨ib, io, none⟩) ss.length Dc, v2, v3, v4, v5, .pointer (some ⟨x, 0, none⟩), v7, v8, v9, v10, v11, v12, v13, v14, v15, v16, v17, v18, v19, v20, v21, v22, v23, v24, v25, v26, v27, v28, v29, v30, v31, v32, v33, v34, v35, v36, v37, v38, v39, v40, v41, v42, v43, v44, v45, v46, v47, v48, v49, v50, v51, v52, v53, v54, v55, v56, v57, v58, v59, v60, v61, v62, v63, v64, v65, v66, v67, v68, v69, v70, v71, v72, v73, v74, v75, v76, v77, v78, v79, v80], []⟩ w := by
  conv => arg 2; whnf
  conv => arg 4; zeta
  have hfew := HSRC.out.few
  obtain ⟨Z, hZ⟩ : ∃ Z, Z = intZeros ss.length := ⟨_, rfl⟩
  have hmk : ∀ w : World, (Instr.makeSlice 23 (.int .i64 (ss.length : Int)) (.int .i64 (ss.length : Int))).run Try.prog w = .ok (.slice (some ⟨w.heap.size, 0, none⟩) ss.length ss.length) (w.alloc Z) := fun w => by
    rw [hZ]; exact make_ints w ss.length (by omega)
  have hb := brs_start w ss.length
  rw [← hZ] at hb
  obtain ⟨bb, hbb⟩ : ∃ bb, w.heap.size = bb := ⟨_, rfl⟩
  have hge : bb = w.heap.size := hbb.symm
  have HGE := Aside0.mk hge
  rw [hbb] at hb
  have HB0 := Aside0.mk hb
  clear hZ hb hge
  go_upto_region 22 with fail
  try rw [hbb]
  clear hmk hbb
  go_wp2_with fail
  go_loopg [13, 67] ss.length (fun kq v13 v67 w' => ∃ (i : Nat), v67 = .int .i64 (i : Int) ∧ Aside0 (i + kq = ss.length) ∧ Aside0 (BrS w w' bb ss.length i))
  case atStart => exact ⟨0, rfl, ⟨by omega⟩, HB0⟩
  case round =>
    clear HB0
    obtain ⟨i, rfl, HI, HB⟩ := hrel
    have hi := HI.out
    by_cases hil : i < ss.length
    · have hiz : (i : Int) < (ss.length : Int) := by omega
      obtain ⟨⟨v, hc⟩, hf⟩ := HB.out.facts hil
      cases gk with
      | zero => omega
      | succ kz =>
      go_wp2_with fail
      go_roundg kz
      case measure => omega
      case rel => exact ⟨i + 1, congrArg (Value.int .i64) (by omega), ⟨by omega⟩, ⟨HB.out.put hil⟩⟩
    · have hiz : ¬ (i : Int) < (ss.length : Int) := by omega
      have hie : i = ss.length := by omega
      rw [hie] at HB
      have hadd := add_at (tot (keysAll ss ds) + 1) wr x g 0 255 0 bb kb ko ib io ss.length Nc Dc (DA.init 51200) ss ds (List.range ss.length) 0 0 rfl rfl (Nat.lt_succ_self _) (add_pre HM.out HSRC.out HNE.out HOK.out HAS.out HT.out HAP.out HB.out)
      rw [List.length_range, HSRC.out.len] at hadd
      have HADD := Aside0.mk hadd
      have HK := Aside0.mk HB.out.kp
      clear hadd hie
      go_wp2_with (first | (go_at_call 41; refine HADD.out.mono ?_; rintro e_ w2 hE; have HE := Aside0.mk hE; obtain rfl : e_ = .returned (.tuple #[]) := hE.1; clear hE; obtain ⟨g1, s1, u, hm, hu, hcut⟩ := bld_done (w3 := w2) (bb := bb) (e' := .returned (.tuple #[])) HK.out HM.out HOK.out HE.out; have HTR := Aside0.mk (truncate_calls w2 x g1 u s1 hm hu); have HCUT := Aside0.mk hcut; clear hm hu hcut) | (go_at_call 42; refine HTR.out.mono ?_; rintro e_ w3 hE; obtain ⟨rfl, g', s', hm3, hbld⟩ := HCUT.out _ _ hE; have HBLD := Aside0.mk hbld; have bx3 := hm3.box; clear hE hm3 hbld))
      exact hN.out _ _ _ _ _ _ _ _ _ _ _ _ _ _ _ _ _ _ _ _ _ g' s' _ HBLD
end Go.Proofs.Ytaejkbjepbifcaa.Da
namespace Go.Proofs.Ytaejkbjepbifcaa.Da
open Go.RowKit Go.Proofs.YtaejkbjepbifcaaW.PrintWords
set_option linter.unusedVariables false
set_option linter.unusedSimpArgs false
/-- A text without a byte 0. -/
def Cln (t : ByteArray) : Prop := Okw (bs t)
theorem run_lt {s : DA} (h0 : 0 < s.n) : ∀ (w : List Int) (p q : Nat), p < s.n → s.run p w = some q → q < s.n
  | [], p, q, hp, h => by cases h; exact hp
  | c :: w, p, q, hp, h => by
    simp only [DA.run] at h
    cases hs : s.step p c with
    | none => rw [hs] at h; cases h
    | some r =>
      rw [hs] at h
      refine run_lt h0 w r q ?_ h
      unfold DA.step at hs
      split at hs
      · rename_i e
        have e1 := e.1
        cases hs
        omega
      · cases hs
theorem Sk.lt {s : DA} {L : Keys} {w : List Int} {i q : Nat} (k : Sk s L w i q) (h0 : 0 < s.n) : q < s.n := run_lt h0 _ _ _ h0 k.run
theorem bs_get (t : ByteArray) (i : Nat) (h : i < t.size) : (bs t)[i]'(by rw [bs_len]; exact h) = ((t[i]'h).toNat : Int) := by
  simp only [bs, List.getElem_map]
  rfl
theorem bs_at (t : ByteArray) (i : Nat) (h : i < t.size) : (bs t).getD i 0 = ((t[i]'h).toNat : Int) := by
  rw [List.getD_eq_getElem?_getD, List.getElem?_eq_getElem (by rw [bs_len]; exact h)]
  exact bs_get t i h
theorem wrap_nat (b : Nat) (h : b ≤ 4294967296) : IntKind.i64.wrap (b : Int) = (b : Int) := IntWalk.i64_in _ (by omega)
theorem sum_nat (b c r : Nat) (h : b ≤ 4294967296) (hc : c ≤ 4294967296) (e : b + c = r) : IntKind.i64.wrap ((b : Int) + (c : Int)) = (r : Int) := by rw [IntWalk.i64_in _ (by omega)]; omega
/-- What 'search' hands back. -/
def SrcE (s : DA) (L : Keys) (t : ByteArray) (e : Ending) : Prop :=
  ∃ (p q i : Int) (ok : Bool), e = .returned (.tuple #[.int .i64 p, .int .i64 q, .int .i64 i, .bool ok]) ∧ (if ok = true then bs t ≠ [] ∧ ∃ r : Nat, q = (r : Int) ∧ Sk s L (bs t) (bs t).length r else bs t = [] ∨ subw L (bs t) = [])
set_option maxHeartbeats 8000000 in
set_option maxRecDepth 100000 in
theorem search_calls (W : World) (x g : Nat) (s : DA) (L : Keys) (t : ByteArray) (M_ : Mem W x g s) (G_ : Good s 0 L) (C_ : Cln t) (hsz : t.size ≤ 1000000000) (hn : 0 < s.n) :
    Calls Try.prog 61 #[.pointer (some ⟨x, 0, none⟩), .string t] W fun e w' => SrcE s L t e ∧ Drawn0 W w' := by
  have M := Aside0.mk M_
  have G := Aside0.mk G_
  have C := Aside0.mk C_
  have bx := M_.box
  have big := M_.big
  clear M_ G_ C_
  by_cases hz : t.size = 0
  · go_enter Try.func61, Try.ntmps61
    go_wp2_with fail
    exact bodyPost_ret (by simp [results, Try.results61, go_sem]) rfl ⟨⟨0, 0, 0, false, rfl, by simp; left; exact List.length_eq_zero_iff.1 ((bs_len t).trans hz)⟩, Drawn0.refl _⟩
  · have hz2 : ((t.size : Int) == 0) = false := by rw [beq_eq_false_iff_ne]; omega
    go_enter Try.func61, Try.ntmps61
    go_wp2_with fail
    clear hz2
    go_loopg [4, 5, 6, 18] t.size (fun kq v4 v5 v6 v18 w' => ∃ (i q : Nat) (p j : Int), v4 = .int .i64 p ∧ v5 = .int .i64 (q : Int) ∧ v6 = .int .i64 j ∧ v18 = .int .i64 (i : Int) ∧ Aside0 (i + kq = t.size) ∧ Aside0 (Sk s L (bs t) i q) ∧ Drawn0 W w')
    case atStart => exact ⟨0, 0, 0, 0, rfl, rfl, rfl, rfl, ⟨by omega⟩, ⟨Sk.start _ _ _⟩, Drawn0.refl _⟩
    case round =>
      obtain ⟨i, q, p, j, rfl, rfl, rfl, rfl, HI, HS, ⟨m1, rfl⟩⟩ := hrel
      obtain hi := HI.out
      by_cases hlt : i < t.size
      · have hiz : (i : Int) < (t.size : Int) := by omega
        have hil : i < (bs t).length := by rw [bs_len]; exact hlt
        have h3 := (HS.out.told G.out C.out).2.2
        have hq : q < s.n := HS.out.lt hn
        have hcd : (bs t).getD i 0 = ((t[i]'hlt).toNat : Int) := bs_at t i hlt
        have hc0 := C.out _ (List.getElem_mem hil)
        rw [bs_get t i hlt] at hc0
        have hc1 := hc0.1
        have hc2 := hc0.2
        have hcn : (((t[i]'hlt).toNat : Int) == 0) = false := by rw [beq_eq_false_iff_ne]; omega
        have hi32 := M.out.i32 q hq
        obtain ⟨b, hb⟩ : ∃ b : Nat, s.B q = (b : Int) := ⟨(s.B q).toNat, by omega⟩
        have cb : W.cell? ⟨g, q * 2, none⟩ = some (.int .i32 (b : Int)) := (M.out.base q hq).trans (by rw [hb])
        obtain ⟨r, hr⟩ : ∃ r : Nat, b + (t[i]'hlt).toNat = r := ⟨_, rfl⟩
        have HR : Aside0 (s.B q + (bs t).getD i 0 = (r : Int)) := ⟨by omega⟩
        have hqz : (q : Int) < (s.n : Int) := by omega
        have hr0 : 0 ≤ (r : Int) := by omega
        have hsum := sum_nat b (t[i]'hlt).toNat r (by omega) (by omega) hr
        have hbw := wrap_nat b (by omega)
        clear hc0 hb hcd h3 hi32
        go_upto_region 8 with fail
        have hw := hsum
        have hwb := hbw
        clear hsum hbw
        go_quiet (fail)
        clear hw hwb
        by_cases hrn : r < s.n
        · have hrz : (r : Int) < (s.n : Int) := by omega
          have cr := M.out.chk r hrn
          obtain ⟨cv, hcv⟩ : ∃ cv, s.C r = cv := ⟨_, rfl⟩
          rw [hcv] at cr
          have hb3 := M.out.i32 r hrn
          rw [hcv] at hb3
          have hb4 := hb3.2.2.1
          have hb5 := hb3.2.2.2
          clear hb3
          have HCV := Aside0.mk hcv
          clear hcv
          by_cases hcq : cv = (q : Int)
          · have HC2 := Aside0.mk hcq
            subst hcq
            cases gk with
            | zero => omega
            | succ kz =>
            have hst : s.step q ((bs t).getD i 0) = some r := by
              have := step_on (s := s) (q := q) (c := (bs t).getD i 0) (by rw [HR.out]; exact hrz) (by rw [HR.out, Int.toNat_natCast]; exact HCV.out)
              rw [this, HR.out, Int.toNat_natCast]
            have HS2 := Aside0.mk (HS.out.go hil hst)
            clear hst
            go_wp2_with fail
            go_roundg kz
            case measure => omega
            case rel => exact ⟨i + 1, r, (q : Int), (i : Int), rfl, rfl, rfl, congrArg (Value.int .i64) (by omega), ⟨by omega⟩, HS2, (Drawn0.refl _).step _⟩
          · have hst : s.step q ((bs t).getD i 0) = none := step_off (by rw [HR.out, Int.toNat_natCast, HCV.out]; exact hcq)
            have HX := Aside0.mk (none_on (HS.out.stop G.out C.out hil hst) (show i + 1 ≤ (bs t).length by omega))
            clear hst
            have hcq2 : (cv == (q : Int)) = false := by rw [beq_eq_false_iff_ne]; exact hcq
            have hcq3 : (cv != (q : Int)) = true := by rw [bne, hcq2]; rfl
            go_wp2_with fail
            exact bodyPost_ret (v := .tuple #[.int .i64 (q : Int), .int .i64 (r : Int), .int .i64 (i : Int), .bool false]) (by simp [results, Try.results61, go_sem]) rfl ⟨⟨_, _, _, false, rfl, by simp; right; simpa using HX.out⟩, (Drawn0.refl _).step _⟩
        · have hrz : ¬ (r : Int) < (s.n : Int) := by omega
          have hst : s.step q ((bs t).getD i 0) = none := step_far (by rw [HR.out]; omega)
          have HX := Aside0.mk (none_on (HS.out.stop G.out C.out hil hst) (show i + 1 ≤ (bs t).length by omega))
          clear hst
          go_wp2_with fail
          exact bodyPost_ret (v := .tuple #[.int .i64 (q : Int), .int .i64 (r : Int), .int .i64 (i : Int), .bool false]) (by simp [results, Try.results61, go_sem]) rfl ⟨⟨_, _, _, false, rfl, by simp; right; simpa using HX.out⟩, (Drawn0.refl _).step _⟩
      · have hiz : ¬ (i : Int) < (t.size : Int) := by omega
        obtain rfl : i = t.size := by omega
        go_wp2_with fail
        exact bodyPost_ret (v := .tuple #[.int .i64 p, .int .i64 (q : Int), .int .i64 j, .bool true]) (by simp [results, Try.results61, go_sem]) rfl ⟨⟨_, _, _, true, rfl, by simp; exact ⟨fun e => by have := bs_len t; rw [e] at this; simp at this; omega, q, rfl, by rw [bs_len]; exact HS.out⟩⟩, (Drawn0.refl _).step _⟩
/-- The array by value, put into a box. -/
theorem mem_box {W : World} {g : Nat} {s : DA} (a : Arr W g s) : Mem (W.alloc (.cells #[.slice (some ⟨g, 0, none⟩) s.n s.n] 62)) W.heap.size g s :=
  ⟨a.step ((below_alloc (Below.refl _ _) _).block _ a.lt), blk_new W _, by have := a.lt; omega⟩
/-- What 'Find' finds: the beginning of a key that is no key counts as found, with 0. -/
def fnd (L : Keys) (t : ByteArray) : Int × Bool := ((found L (bs t)).getD 0, !(bs t).isEmpty && !(subw L (bs t)).isEmpty)
/-- What 'Find' hands back. -/
def FndE (L : Keys) (t : ByteArray) (e : Ending) : Prop := e = .returned (.tuple #[.int .i64 (fnd L t).1, .bool (fnd L t).2])
theorem fnd_not {L : Keys} {t : ByteArray} (h : bs t = [] ∨ subw L (bs t) = []) : FndE L t (.returned (.tuple #[.int .i64 0, .bool false])) := by
  have e : fnd L t = (0, false) := by
    unfold fnd found
    rcases h with h | h
    · simp [h]
    · split
      · rename_i e; simp [e]
      · simp [h, here]
  unfold FndE; rw [e]
theorem fnd_half {L : Keys} {t : ByteArray} (h1 : bs t ≠ [] ∧ subw L (bs t) ≠ []) (h : found L (bs t) = none) : FndE L t (.returned (.tuple #[.int .i64 0, .bool true])) := by
  have e : fnd L t = (0, true) := by
    unfold fnd
    rw [h]
    simp [h1.1, h1.2]
  unfold FndE; rw [e]
theorem fnd_some {L : Keys} {t : ByteArray} {v : Int} (h1 : bs t ≠ [] ∧ subw L (bs t) ≠ []) (h : found L (bs t) = some v) : FndE L t (.returned (.tuple #[.int .i64 v, .bool true])) := by
  have e : fnd L t = (v, true) := by
    unfold fnd
    rw [h]
    simp [h1.1, h1.2]
  unfold FndE; rw [e]
theorem search_yes (W : World) (x g r : Nat) (s : DA) (L : Keys) (t : ByteArray) (M : Mem W x g s) (G : Good s 0 L) (C : Cln t) (hsz : t.size ≤ 1000000000) (hn : 0 < s.n) (k : Sk s L (bs t) (bs t).length r) (h0 : bs t ≠ []) :
    Calls Try.prog 61 #[.pointer (some ⟨x, 0, none⟩), .string t] W fun e w' => (∃ p i : Int, e = .returned (.tuple #[.int .i64 p, .int .i64 (r : Int), .int .i64 i, .bool true])) ∧ Drawn0 W w' := by
  refine (search_calls W x g s L t M G C hsz hn).mono ?_
  rintro e w' ⟨⟨p, q, i, ok, rfl, h⟩, hD⟩
  have ht := k.told G C
  cases ok with
  | false =>
    rw [if_neg (by simp)] at h
    rcases h with h | h
    · exact absurd h h0
    · rw [List.take_length] at ht; exact absurd h ht.1
  | true =>
    rw [if_pos rfl] at h
    obtain ⟨_, r', rfl, k'⟩ := h
    have : r' = r := by have h1 := k'.run; rw [k.run] at h1; exact (Option.some.inj h1).symm
    subst this
    exact ⟨⟨p, i, rfl⟩, hD⟩
theorem search_no (W : World) (x g : Nat) (s : DA) (L : Keys) (t : ByteArray) (M : Mem W x g s) (G : Good s 0 L) (C : Cln t) (hsz : t.size ≤ 1000000000) (hn : 0 < s.n) (h0 : bs t = [] ∨ subw L (bs t) = []) :
    Calls Try.prog 61 #[.pointer (some ⟨x, 0, none⟩), .string t] W fun e w' => (∃ p q i : Int, e = .returned (.tuple #[.int .i64 p, .int .i64 q, .int .i64 i, .bool false])) ∧ Drawn0 W w' := by
  refine (search_calls W x g s L t M G C hsz hn).mono ?_
  rintro e w' ⟨⟨p, q, i, ok, rfl, h⟩, hD⟩
  cases ok with
  | false => exact ⟨⟨p, q, i, rfl⟩, hD⟩
  | true =>
    rw [if_pos rfl] at h
    obtain ⟨hne, r', rfl, k'⟩ := h
    rcases h0 with h | h
    · exact absurd h hne
    · have := (k'.told G C).1
      rw [List.take_length] at this
      exact absurd h this
set_option maxHeartbeats 8000000 in
set_option maxRecDepth 100000 in
theorem find_calls (W : World) (g : Nat) (s : DA) (L : Keys) (t : ByteArray) (M_ : Arr W g s) (G_ : Good s 0 L) (C_ : Cln t) (hsz : t.size ≤ 1000000000) (hn : 0 < s.n) :
    Calls Try.prog 44 #[.slice (some ⟨g, 0, none⟩) s.n s.n, .string t] W fun e w' => FndE L t e ∧ Below W.heap.size W w' := by
  have MB := mem_box M_
  have bx := MB.box
  have big := MB.big
  have hB : Aside0 (Below W.heap.size W (W.alloc (.cells #[.slice (some ⟨g, 0, none⟩) s.n s.n] 62))) := ⟨below_alloc (Below.refl _ _) _⟩
  by_cases hyes : bs t ≠ [] ∧ ∃ r, Sk s L (bs t) (bs t).length r
  · obtain ⟨h0, r, k⟩ := hyes
    have HS := Aside0.mk (search_yes _ W.heap.size g r s L t MB G_ C_ hsz hn k h0)
    have ht := k.told G_ C_
    have hrn := k.lt hn
    rw [List.take_length] at ht
    have HF : Aside0 (found L (bs t) = s.term r) := ⟨by unfold found; rw [if_neg h0]; exact ht.2.1.symm⟩
    have HNE : Aside0 (bs t ≠ [] ∧ subw L (bs t) ≠ []) := ⟨⟨h0, ht.1⟩⟩
    have hi32 := MB.i32 r hrn
    obtain ⟨b, hb⟩ : ∃ b : Nat, s.B r = (b : Int) := ⟨(s.B r).toNat, by omega⟩
    have cb : (W.alloc (.cells #[.slice (some ⟨g, 0, none⟩) s.n s.n] 62)).cell? ⟨g, r * 2, none⟩ = some (.int .i32 (b : Int)) := (MB.base r hrn).trans (by rw [hb])
    have hb1 : b ≤ 2147483647 := by omega
    have hrz : (r : Int) < (s.n : Int) := by omega
    have HB := Aside0.mk hb
    have M := Aside0.mk MB
    clear MB G_ C_ M_ ht hi32 hb k h0
    by_cases hbn : b < s.n
    · have hbz : (b : Int) < (s.n : Int) := by omega
      have cc := M.out.chk b hbn
      have c0 := M.out.base b hbn
      have hi := M.out.i32 b hbn
      obtain ⟨cv, hcv⟩ : ∃ cv, s.C b = cv := ⟨_, rfl⟩
      obtain ⟨dv, hdv⟩ : ∃ dv, s.B b = dv := ⟨_, rfl⟩
      rw [hcv] at cc hi
      rw [hdv] at c0 hi
      obtain ⟨i1, i2, i3, i4⟩ := hi
      have HC := Aside0.mk hcv
      have HD := Aside0.mk hdv
      clear hcv hdv
      have ht1 : s.term r = if cv = (r : Int) ∧ dv ≤ 0 then some (-dv) else none := by
        by_cases e1 : cv = (r : Int)
        · by_cases e2 : dv ≤ 0
          · rw [if_pos ⟨e1, e2⟩, term_on (by rw [HB.out]; exact hbz) (by rw [HB.out, Int.toNat_natCast, HC.out]; exact e1) (by rw [HB.out, Int.toNat_natCast, HD.out]; exact e2), HB.out, Int.toNat_natCast, HD.out]
          · rw [if_neg (fun e => e2 e.2), term_no (by rw [HB.out, Int.toNat_natCast, HD.out]; omega)]
        · rw [if_neg (fun e => e1 e.1), term_off (by rw [HB.out, Int.toNat_natCast, HC.out]; exact e1)]
      rw [ht1] at HF
      clear ht1
      by_cases hcq : cv = (r : Int)
      · subst hcq
        by_cases hd : dv ≤ 0
        · rw [if_pos ⟨rfl, hd⟩] at HF
          have hdz : ¬ dv > 0 := by omega
          go_enter Try.func44, Try.ntmps44
          go_wp2_with (go_at_call 61; refine HS.out.mono ?_; rintro e_ w2 ⟨⟨p, i, rfl⟩, ⟨m1, rfl⟩⟩)
          exact bodyPost_ret (v := .tuple #[.int .i64 (-dv), .bool true]) (by simp [results, Try.results44, go_sem]) rfl ⟨fnd_some HNE.out HF.out, pw_below_drewN hB.out _⟩
        · rw [if_neg (fun e => hd e.2)] at HF
          have hdz : dv > 0 := by omega
          go_enter Try.func44, Try.ntmps44
          go_wp2_with (go_at_call 61; refine HS.out.mono ?_; rintro e_ w2 ⟨⟨p, i, rfl⟩, ⟨m1, rfl⟩⟩)
          exact bodyPost_ret (v := .tuple #[.int .i64 0, .bool true]) (by simp [results, Try.results44, go_sem]) rfl ⟨fnd_half HNE.out HF.out, pw_below_drewN hB.out _⟩
      · rw [if_neg (fun e => hcq e.1)] at HF
        have hcq2 : (cv == (r : Int)) = false := by rw [beq_eq_false_iff_ne]; exact hcq
        have hcq3 : (cv != (r : Int)) = true := by rw [bne, hcq2]; rfl
        go_enter Try.func44, Try.ntmps44
        go_wp2_with (go_at_call 61; refine HS.out.mono ?_; rintro e_ w2 ⟨⟨p, i, rfl⟩, ⟨m1, rfl⟩⟩)
        exact bodyPost_ret (v := .tuple #[.int .i64 0, .bool true]) (by simp [results, Try.results44, go_sem]) rfl ⟨fnd_half HNE.out HF.out, pw_below_drewN hB.out _⟩
    · have hbz : ¬ (b : Int) < (s.n : Int) := by omega
      rw [term_far (by rw [HB.out]; omega)] at HF
      go_enter Try.func44, Try.ntmps44
      go_wp2_with (go_at_call 61; refine HS.out.mono ?_; rintro e_ w2 ⟨⟨p, i, rfl⟩, ⟨m1, rfl⟩⟩)
      exact bodyPost_ret (v := .tuple #[.int .i64 0, .bool true]) (by simp [results, Try.results44, go_sem]) rfl ⟨fnd_half HNE.out HF.out, pw_below_drewN hB.out _⟩
  · have hno : bs t = [] ∨ subw L (bs t) = [] := by
      by_cases h0 : bs t = []
      · exact Or.inl h0
      · right
        have h := G_ (bs t) C_
        unfold Told at h
        cases hr : s.run 0 (bs t) with
        | none => rw [hr] at h; exact h
        | some r => exact absurd ⟨h0, r, ⟨by rw [List.take_length]; exact hr, Nat.le_refl _⟩⟩ hyes
    have HS := Aside0.mk (search_no _ W.heap.size g s L t MB G_ C_ hsz hn hno)
    have HF := Aside0.mk hno
    clear hno hyes MB G_ C_ M_
    go_enter Try.func44, Try.ntmps44
    go_wp2_with (go_at_call 61; refine HS.out.mono ?_; rintro e_ w2 ⟨⟨p, q, i, rfl⟩, ⟨m1, rfl⟩⟩)
    exact bodyPost_ret (v := .tuple #[.int .i64 0, .bool false]) (by simp [results, Try.results44, go_sem]) rfl ⟨fnd_not HF.out, pw_below_drewN hB.out _⟩
end Go.Proofs.Ytaejkbjepbifcaa.Da
namespace Go.Proofs.Ytaejkbjepbifcaa.Da
open Go.RowKit Go.Proofs.YtaejkbjepbifcaaW.PrintWords
set_option linter.unusedVariables false
set_option linter.unusedSimpArgs false
/-- The last key that begins a text. -/
def lastHit (L : Keys) (w : List Int) (i : Nat) : Option Int := ((hitsTo L w i).getLast?).map (·.1)
def lng (L : Keys) (t : ByteArray) : Int × Bool := ((lastHit L (bs t) (bs t).length).getD 0, (lastHit L (bs t) (bs t).length).isSome)
end Go.Proofs.Ytaejkbjepbifcaa.Da
namespace Go.Proofs.Ytaejkbjepbifcaa.Da
open Go.RowKit Go.Proofs.YtaejkbjepbifcaaW.PrintWords
set_option linter.unusedVariables false
set_option linter.unusedSimpArgs false
def CpsE (W w' : World) (L : Keys) (t : ByteArray) (e : Ending) : Prop := ∃ v1 v2 : Value, e = .returned (.tuple #[v1, v2]) ∧
  Kd.R (Kd.int .i64) 3 w' W.heap.size (fun k_ => some k_ ≠ v2.ownBlock) v1 ((hitsTo L (bs t) (bs t).length).map (·.1)) ∧ Kd.R (Kd.int .i64) 3 w' W.heap.size (fun k_ => some k_ ≠ v1.ownBlock) v2 ((hitsTo L (bs t) (bs t).length).map (·.2)) ∧ Below W.heap.size W w'
set_option maxHeartbeats 16000000 in
set_option maxRecDepth 100000 in
theorem cps_calls (W : World) (g : Nat) (s : DA) (L : Keys) (t : ByteArray) (M_ : Arr W g s) (G_ : Good s 0 L) (C_ : Cln t) (hsz : t.size ≤ 1000000000) (hn : 0 < s.n) :
    Calls Try.prog 47 #[.slice (some ⟨g, 0, none⟩) s.n s.n, .string t] W fun e w' => CpsE W w' L t e := by
  have HA0 := Aside0.mk M_
  have G := Aside0.mk G_
  have C := Aside0.mk C_
  have big := M_.big
  have HB0 := Aside0.mk (Below.refl W.heap.size W)
  clear M_ G_ C_
  go_enter Try.func47, Try.ntmps47
  go_wp2_with fail
  go_loopg [4, 5, 6, 7, 9] t.size (fun kq v4 v5 v6 v7 v9 w' => ∃ (i q : Nat) (p : Int) (x4 x5 : List Int), v6 = .int .i64 p ∧ v7 = .int .i64 (q : Int) ∧ v9 = .int .i64 (i : Int) ∧ Aside0 (i + kq = t.size) ∧ Aside0 (Sk s L (bs t) i q) ∧ Aside0 (x4 = (hitsTo L (bs t) i).map (·.1) ∧ x5 = (hitsTo L (bs t) i).map (·.2)) ∧ Aside0 (Kd.R (Kd.int .i64) 3 w' W.heap.size (fun k_ => some k_ ≠ v5.ownBlock) v4 x4) ∧ Aside0 (Kd.R (Kd.int .i64) 3 w' W.heap.size (fun k_ => some k_ ≠ v4.ownBlock) v5 x5) ∧ Aside0 (Below W.heap.size W w'))
  case atStart => exact ⟨0, 0, 0, [], [], rfl, rfl, rfl, ⟨by omega⟩, ⟨Sk.start _ _ _⟩, ⟨rfl, rfl⟩, ⟨Kd.R_nil _ _ _ _ _⟩, ⟨Kd.R_nil _ _ _ _ _⟩, HB0⟩
  case round =>
    clear HB0
    obtain ⟨i, q, p, x4, x5, rfl, rfl, rfl, HI, HS, HV, HO4, HO5, HB⟩ := hrel
    have hx4 : x4.length ≤ i := by rw [HV.out.1, List.length_map]; exact hits_len _ _ _
    have hx5 : x5.length ≤ i := by rw [HV.out.2, List.length_map]; exact hits_len _ _ _
    have HA : Aside0 (Arr wr g s) := ⟨HA0.out.step (HB.out.block g HA0.out.lt)⟩
    have hi := HI.out
    by_cases hlt : i < t.size
    · have hiz : (i : Int) < (t.size : Int) := by omega
      have hil : i < (bs t).length := by rw [bs_len]; exact hlt
      have h3 := (HS.out.told G.out C.out).2.2
      have hq : q < s.n := HS.out.lt hn
      have hcd : (bs t).getD i 0 = ((t[i]'hlt).toNat : Int) := bs_at t i hlt
      have hc0 := C.out _ (List.getElem_mem hil)
      rw [bs_get t i hlt] at hc0
      have hc1 := hc0.1
      have hc2 := hc0.2
      have hcn : (((t[i]'hlt).toNat : Int) == 0) = false := by rw [beq_eq_false_iff_ne]; omega
      have hi32 := HA.out.i32 q hq
      obtain ⟨b, hb⟩ : ∃ b : Nat, s.B q = (b : Int) := ⟨(s.B q).toNat, by omega⟩
      have cb : wr.cell? ⟨g, q * 2, none⟩ = some (.int .i32 (b : Int)) := (HA.out.base q hq).trans (by rw [hb])
      obtain ⟨r, hr⟩ : ∃ r : Nat, b + (t[i]'hlt).toNat = r := ⟨_, rfl⟩
      have HR : Aside0 (s.B q + (bs t).getD i 0 = (r : Int)) := ⟨by omega⟩
      have hqz : (q : Int) < (s.n : Int) := by omega
      have hr0 : 0 ≤ (r : Int) := by omega
      have hsum := sum_nat b (t[i]'hlt).toNat r (by omega) (by omega) hr
      have hbw := wrap_nat b (by omega)
      clear hc0 hb hcd h3 hi32
      go_upto_region 8 with fail
      have hw := hsum
      have hwb := hbw
      clear hsum hbw
      go_quiet (fail)
      clear hw hwb
      by_cases hrn : r < s.n
      · have hrz : (r : Int) < (s.n : Int) := by omega
        have cr : wr.cell? ⟨g, r * 2 + 1, none⟩ = _ := HA.out.chk r hrn
        obtain ⟨cv, hcv⟩ : ∃ cv, s.C r = cv := ⟨_, rfl⟩
        rw [hcv] at cr
        have hb3 := HA.out.i32 r hrn
        rw [hcv] at hb3
        have hb4 := hb3.2.2.1
        have hb5 := hb3.2.2.2
        clear hb3
        have HCV := Aside0.mk hcv
        clear hcv
        by_cases hcq : cv = (q : Int)
        · have HC2 := Aside0.mk hcq
          subst hcq
          have hst : s.step q ((bs t).getD i 0) = some r := by
            have := step_on (s := s) (q := q) (c := (bs t).getD i 0) (by rw [HR.out]; exact hrz) (by rw [HR.out, Int.toNat_natCast]; exact HCV.out)
            rw [this, HR.out, Int.toNat_natCast]
          have HS2 := Aside0.mk (HS.out.go hil hst)
          clear hst
          have h3 := (HS2.out.told G.out C.out).2.2
          have hi32 := HA.out.i32 r hrn
          obtain ⟨b2, hb2⟩ : ∃ b2 : Nat, s.B r = (b2 : Int) := ⟨(s.B r).toNat, by omega⟩
          have cb2 : wr.cell? ⟨g, r * 2, none⟩ = some (.int .i32 (b2 : Int)) := (HA.out.base r hrn).trans (by rw [hb2])
          have hb2n : b2 ≤ 2147483647 := by omega
          have HB2 := Aside0.mk hb2
          have HH : Aside0 (hitAt L (bs t) i = s.term r) := ⟨HS2.out.hit G.out C.out⟩
          clear h3 hi32 hb2
          cases gk with
          | zero => omega
          | succ kz =>
          by_cases hbn : b2 < s.n
          · have hbz : (b2 : Int) < (s.n : Int) := by omega
            have cc : wr.cell? ⟨g, b2 * 2 + 1, none⟩ = _ := HA.out.chk b2 hbn
            have cdv : wr.cell? ⟨g, b2 * 2, none⟩ = _ := HA.out.base b2 hbn
            have hi2 := HA.out.i32 b2 hbn
            obtain ⟨cw, hcw⟩ : ∃ cw, s.C b2 = cw := ⟨_, rfl⟩
            obtain ⟨dv, hdv⟩ : ∃ dv, s.B b2 = dv := ⟨_, rfl⟩
            rw [hcw] at cc hi2
            rw [hdv] at cdv hi2
            obtain ⟨i1, i2, i3, i4⟩ := hi2
            have ht1 : s.term r = if cw = (r : Int) ∧ dv ≤ 0 then some (-dv) else none := by
              by_cases e1 : cw = (r : Int)
              · by_cases e2 : dv ≤ 0
                · rw [if_pos ⟨e1, e2⟩, term_on (by rw [HB2.out]; exact hbz) (by rw [HB2.out, Int.toNat_natCast, hcw]; exact e1) (by rw [HB2.out, Int.toNat_natCast, hdv]; exact e2), HB2.out, Int.toNat_natCast, hdv]
                · rw [if_neg (fun e => e2 e.2), term_no (by rw [HB2.out, Int.toNat_natCast, hdv]; omega)]
              · rw [if_neg (fun e => e1 e.1), term_off (by rw [HB2.out, Int.toNat_natCast, hcw]; exact e1)]
            rw [ht1] at HH
            clear ht1 hcw hdv
            by_cases hcq2 : cw = (r : Int)
            · subst hcq2
              by_cases hd : dv ≤ 0
              · rw [if_pos ⟨rfl, hd⟩] at HH
                go_wp2_with (first | ((with_reducible refine gate_builtin (b := .append) (xs := #[.tmp 79, .tmp 87]) rfl ?_); at_builtin; refine Kd.R_append (Kd.int .i64) (w0 := W) W.heap.size rfl (.tmp 79) (.tmp 87) 23 3 (.int .i64 0) 8 rfl Try.underlying23 info_int rfl (by decide) (by omega) u4 x4 (-dv) [.int .i64 (-dv)] (fun k_ => some k_ ≠ (u5 : Value).ownBlock) (fun _ => False) rfl rfl ?aP (fun _ hk => hk.elim) ?aF ?aO ?aB ?aS ?aL ?_; (case aP => exact rfl); (case aB => exact (by repeat (first | (with_reducible first | exact HB.out | apply below_alloc | apply pw_below_drewN | apply below_drew1) | exact HB.out))); (case aF => exact (fun k_ hk => Kd.fresh' (Kd.R_lt (by (with_reducible repeat (first | apply Kd.R_alloc | apply Kd.R_drewN | apply Kd.R_drew)); exact HO5.out)) k_ hk)); (case aO => exact (by (with_reducible repeat (first | apply Kd.R_alloc | apply Kd.R_drewN | apply Kd.R_drew)); exact HO4.out)); (case aS => exact (below_size (by repeat (first | (with_reducible first | exact HB.out | apply below_alloc | apply pw_below_drewN | apply below_drew1) | exact HB.out)))); (case aL => omega); intro va wa ho hb hg hat; have n0_ := Aside0.mk (Kd.R_after (ok := (fun _ => True)) (by (with_reducible repeat (first | apply Kd.R_alloc | apply Kd.R_drewN | apply Kd.R_drew)); exact Kd.R_mono HO5.out (fun _ hk => ⟨trivial, hk⟩)) hg hat); have n1_ := Aside0.mk hb; have n2_ := Aside0.mk ho; clear HO5 HB HO4; have HO5 := n0_; have HB := n1_; have HOa := n2_; clear n0_ n1_ n2_; clear ho hb hg hat) | ((with_reducible refine gate_builtin (b := .append) (xs := #[.tmp 89, .tmp 92]) rfl ?_); at_builtin; refine Kd.R_append (Kd.int .i64) (w0 := W) W.heap.size rfl (.tmp 89) (.tmp 92) 23 3 (.int .i64 0) 8 rfl Try.underlying23 info_int rfl (by decide) (by omega) u5 x5 ((i : Int) + 1) [.int .i64 ((i : Int) + 1)] (fun k_ => some k_ ≠ (va : Value).ownBlock) (fun _ => False) rfl rfl ?aP (fun _ hk => hk.elim) ?aF ?aO ?aB ?aS ?aL ?_; (case aP => exact rfl); (case aB => exact (by repeat (first | (with_reducible first | exact HB.out | apply below_alloc | apply pw_below_drewN | apply below_drew1) | exact HB.out))); (case aF => exact (fun k_ hk => Kd.fresh' (Kd.R_lt (by (with_reducible repeat (first | apply Kd.R_alloc | apply Kd.R_drewN | apply Kd.R_drew)); exact HOa.out)) k_ hk)); (case aO => exact (by (with_reducible repeat (first | apply Kd.R_alloc | apply Kd.R_drewN | apply Kd.R_drew)); exact Kd.R_mono HO5.out (fun _ hk => hk.2))); (case aS => exact (below_size (by repeat (first | (with_reducible first | exact HB.out | apply below_alloc | apply pw_below_drewN | apply below_drew1) | exact HB.out)))); (case aL => omega); intro vb wb ho hb hg hat; have n0_ := Aside0.mk (Kd.R_after (ok := (fun _ => True)) (by (with_reducible repeat (first | apply Kd.R_alloc | apply Kd.R_drewN | apply Kd.R_drew)); exact Kd.R_mono HOa.out (fun _ hk => ⟨trivial, hk⟩)) hg hat); have n1_ := Aside0.mk hb; have n2_ := Aside0.mk ho; clear HOa HB HO5; have HOa := n0_; have HB := n1_; have HOb := n2_; clear n0_ n1_ n2_; clear ho hb hg hat))
                go_roundg kz
                case measure => omega
                case rel => exact ⟨i + 1, r, (q : Int), x4 ++ [-dv], x5 ++ [(i : Int) + 1], rfl, rfl, congrArg (Value.int .i64) (by omega), ⟨by omega⟩, HS2, ⟨by rw [hits_some HH.out, HV.out.1, HV.out.2]; simp⟩, ⟨Kd.R_mono HOa.out (fun _ hk => hk.2)⟩, HOb, HB⟩
              · rw [if_neg (fun e => hd e.2)] at HH
                have hdz : dv > 0 := by omega
                go_wp2_with fail
                go_roundg kz
                case measure => omega
                case rel => exact ⟨i + 1, r, (q : Int), x4, x5, rfl, rfl, congrArg (Value.int .i64) (by omega), ⟨by omega⟩, HS2, ⟨by rw [hits_none HH.out]; exact HV.out⟩, ⟨Kd.R_drewN HO4.out _⟩, ⟨Kd.R_drewN HO5.out _⟩, ⟨pw_below_drewN HB.out _⟩⟩
            · rw [if_neg (fun e => hcq2 e.1)] at HH
              have hcq3 : (cw == (r : Int)) = false := by rw [beq_eq_false_iff_ne]; exact hcq2
              go_wp2_with fail
              go_roundg kz
              case measure => omega
              case rel => exact ⟨i + 1, r, (q : Int), x4, x5, rfl, rfl, congrArg (Value.int .i64) (by omega), ⟨by omega⟩, HS2, ⟨by rw [hits_none HH.out]; exact HV.out⟩, ⟨Kd.R_drewN HO4.out _⟩, ⟨Kd.R_drewN HO5.out _⟩, ⟨pw_below_drewN HB.out _⟩⟩
          · have hbz : ¬ (b2 : Int) < (s.n : Int) := by omega
            rw [term_far (by rw [HB2.out]; omega)] at HH
            go_wp2_with fail
            go_roundg kz
            case measure => omega
            case rel => exact ⟨i + 1, r, (q : Int), x4, x5, rfl, rfl, congrArg (Value.int .i64) (by omega), ⟨by omega⟩, HS2, ⟨by rw [hits_none HH.out]; exact HV.out⟩, ⟨Kd.R_drewN HO4.out _⟩, ⟨Kd.R_drewN HO5.out _⟩, ⟨pw_below_drewN HB.out _⟩⟩
        · have hst : s.step q ((bs t).getD i 0) = none := step_off (by rw [HR.out, Int.toNat_natCast, HCV.out]; exact hcq)
          have HX := Aside0.mk (HS.out.stop G.out C.out hil hst)
          clear hst
          have hcq2 : (cv == (q : Int)) = false := by rw [beq_eq_false_iff_ne]; exact hcq
          have hcq3 : (cv != (q : Int)) = true := by rw [bne, hcq2]; rfl
          have hV1 := HV.out.1.trans (congrArg _ (hits_stop HX.out (show i ≤ (bs t).length by omega)).symm)
          have hV2 := HV.out.2.trans (congrArg _ (hits_stop HX.out (show i ≤ (bs t).length by omega)).symm)
          have HV1 := Aside0.mk hV1
          have HV2 := Aside0.mk hV2
          clear hV1 hV2
          go_wp2_with fail
          exact bodyPost_ret (v := .tuple #[u4, u5]) (by simp [results, Try.results47, go_sem]) rfl ⟨u4, u5, rfl, by rw [← HV1.out]; exact Kd.R_drewN HO4.out _, by rw [← HV2.out]; exact Kd.R_drewN HO5.out _, pw_below_drewN HB.out _⟩
      · have hrz : ¬ (r : Int) < (s.n : Int) := by omega
        have hst : s.step q ((bs t).getD i 0) = none := step_far (by rw [HR.out]; omega)
        have HX := Aside0.mk (HS.out.stop G.out C.out hil hst)
        clear hst
        have hV1 := HV.out.1.trans (congrArg _ (hits_stop HX.out (show i ≤ (bs t).length by omega)).symm)
        have hV2 := HV.out.2.trans (congrArg _ (hits_stop HX.out (show i ≤ (bs t).length by omega)).symm)
        have HV1 := Aside0.mk hV1
        have HV2 := Aside0.mk hV2
        clear hV1 hV2
        go_wp2_with fail
        exact bodyPost_ret (v := .tuple #[u4, u5]) (by simp [results, Try.results47, go_sem]) rfl ⟨u4, u5, rfl, by rw [← HV1.out]; exact Kd.R_drewN HO4.out _, by rw [← HV2.out]; exact Kd.R_drewN HO5.out _, pw_below_drewN HB.out _⟩
    · have hiz : ¬ (i : Int) < (t.size : Int) := by omega
      obtain rfl : i = t.size := by omega
      go_wp2_with fail
      exact bodyPost_ret (v := .tuple #[u4, u5]) (by simp [results, Try.results47, go_sem]) rfl ⟨u4, u5, rfl, by rw [bs_len, ← HV.out.1]; exact HO4.out, by rw [bs_len, ← HV.out.2]; exact HO5.out, HB.out⟩
end Go.Proofs.Ytaejkbjepbifcaa.Da
namespace Go.Proofs.Ytaejkbjepbifcaa.Da
open Go.RowKit Go.Proofs.YtaejkbjepbifcaaW.PrintWords
set_option linter.unusedVariables false
set_option linter.unusedSimpArgs false
/-- The box of an answer. -/
def ABox (W : World) (xb : Nat) (c0 c1 c2 c3 c4 cv : Value) : Prop := W.heap[xb]? = some (.cells #[c0, c1, c2, c3, c4, cv] 34 (0, 0))
theorem ABox.froz {W : World} {xb : Nat} {c0 c1 c2 c3 c4 cv : Value} (h : ABox W xb c0 c1 c2 c3 c4 cv) (i : Nat) : W.frozen? ⟨xb, i, none⟩ = false := by unfold ABox at h; unfold World.frozen?; simp [h]
theorem ABox.lt {W : World} {xb : Nat} {c0 c1 c2 c3 c4 cv : Value} (h : ABox W xb c0 c1 c2 c3 c4 cv) : xb < W.heap.size := (Array.getElem?_eq_some_iff.1 h).1
theorem ABox.step {W W' : World} {xb : Nat} {c0 c1 c2 c3 c4 cv : Value} (h : ABox W xb c0 c1 c2 c3 c4 cv) (e : W'.heap[xb]? = W.heap[xb]?) : ABox W' xb c0 c1 c2 c3 c4 cv := e.trans h
/-- One is told. -/
def TellE (W w' : World) (xb B : Nat) (id l : Int) (c0 c1 c2 c3 c4 : Value) (xs : List PB.S39) : Prop := ∃ cv, ABox w' xb c0 c1 c2 c3 c4 cv ∧ Kd.R PB.k39 39 w' B (fun _ => True) cv (xs ++ [⟨id, l⟩]) ∧ Kp W w' (fun k => k = xb ∨ B ≤ k)
/-- The hits as the program lists them. -/
def hitsS (L : Keys) (w : List Int) (k : Nat) : List PB.S39 := (hitsTo L w k).map (fun h => ⟨h.1, h.2⟩)
def CbE (W w' : World) (xb : Nat) (c0 c1 c2 c3 c4 : Value) (xs : List PB.S39) : Prop := ∃ cv, ABox w' xb c0 c1 c2 c3 c4 cv ∧ Kd.R PB.k39 39 w' W.heap.size (fun _ => True) cv xs ∧ Kp W w' (fun k => k = xb)
theorem CbE.drewN {W w' : World} {xb : Nat} {c0 c1 c2 c3 c4 : Value} {xs : List PB.S39} (h : CbE W w' xb c0 c1 c2 c3 c4 xs) (q : Nat) : CbE W (w'.drewN q) xb c0 c1 c2 c3 c4 xs := by
  obtain ⟨cv, h1, h2, h3⟩ := h
  exact ⟨cv, h1.step rfl, Kd.R_drewN h2 _, h3.drewN _⟩
theorem CbE.tell {W w' w2 : World} {xb : Nat} {id l : Int} {c0 c1 c2 c3 c4 : Value} {xs : List PB.S39} (hlt : xb < W.heap.size) (hk : Kp W w' (fun k => k = xb)) (h : TellE w' w2 xb W.heap.size id l c0 c1 c2 c3 c4 xs) : CbE W w2 xb c0 c1 c2 c3 c4 (xs ++ [⟨id, l⟩]) := by
  obtain ⟨cv, h1, h2, h3⟩ := h
  exact ⟨cv, h1, h2, (hk.trans h3).mono (fun i hi h => by rcases h with h | h | h; exact h; exact h; omega)⟩
end Go.Proofs.Ytaejkbjepbifcaa.Da
namespace Go.Proofs.Ytaejkbjepbifcaa.PB
open Go.RowKit Go.Proofs.YtaejkbjepbifcaaW.PrintWords Go.Proofs.YtaejkbjepbifcaaW.PrintLast Go.Proofs.YtaejkbjepbifcaaW.PrintMore
attribute [local go_sem] max2_int min2_int max_two min_two max_three min_three max_four min_four   -- for this text's walks alone
set_option linter.unusedVariables false
set_option linter.unusedSimpArgs false

/-! ### cmp_Less_string: function 57 -/
def cmp_Less_string.f (a0 : ByteArray) (a1 : ByteArray) : Option (Bool) := (cmp_isNaN_string.f a0).bind fun t110 => (if t110 = true then ((cmp_isNaN_string.f a1).bind fun t111 => (if t111 = true then (some (Op.bytesLess a0.toList a1.toList)) else (some true))) else (some (Op.bytesLess a0.toList a1.toList)))
set_option maxHeartbeats 8000000 in
set_option maxRecDepth 100000 in
theorem cmp_Less_string.calls (a0 : ByteArray) (a1 : ByteArray) (r : Bool) (w : World) (h : cmp_Less_string.f a0 a1 = some r) :
  Calls Try.prog 57 #[.string a0, .string a1] w fun e w' => e = .returned (.bool r) ∧ Drawn0 w w' := by
 have H : ((cmp_isNaN_string.f a0).bind fun t110 => (if t110 = true then ((cmp_isNaN_string.f a1).bind fun t111 => (if t111 = true then (some (Op.bytesLess a0.toList a1.toList)) else (some true))) else (some (Op.bytesLess a0.toList a1.toList)))) = some r := h
 clear h
 replace H := Option.bind_eq_some_iff.mp H
 obtain ⟨t110, A30, H⟩ := H
 replace H : (if t110 = true then ((cmp_isNaN_string.f a1).bind fun t111 => (if t111 = true then (some (Op.bytesLess a0.toList a1.toList)) else (some true))) else (some (Op.bytesLess a0.toList a1.toList))) = some r := H
 have A3 := Aside0.mk A30
 clear A30
 by_cases c4 : t110 = true
 ·subst c4
  have H1 : ((cmp_isNaN_string.f a1).bind fun t111 => (if t111 = true then (some (Op.bytesLess a0.toList a1.toList)) else (some true))) = some r := by rw [if_pos rfl] at H; exact H
  clear H
  have H := H1
  clear H1
  replace H := Option.bind_eq_some_iff.mp H
  obtain ⟨t111, A50, H⟩ := H
  replace H : (if t111 = true then (some (Op.bytesLess a0.toList a1.toList)) else (some true)) = some r := H
  have A5 := Aside0.mk A50
  clear A50
  by_cases c6 : t111 = true
  ·subst c6
   have H1 : (some (Op.bytesLess a0.toList a1.toList)) = some r := by rw [if_pos rfl] at H; exact H
   clear H
   have H := H1
   clear H1
   obtain rfl := Option.some.inj H
   go_enter Try.func57, Try.ntmps57
   go_wp2_with (first | ((with_reducible refine gate_callee (f := 68) rfl ?_); refine goesL_ (some 6) rfl rfl Try.func68 (by kernel_rfl) rfl #[.string a0] rfl (by (try simp only [List.map_toArray, List.map_cons, List.map_nil]); first | done | rfl | (simp only [List.length_drop, List.length_take]; rfl)) ?_; (with_reducible refine (cmp_isNaN_string.calls a0 true _ A3.out).mono ?_); rintro e w' ⟨rfl, ⟨nd, rfl⟩⟩; refine ⟨_, rfl, ?_⟩) | (go_at_call 68; (with_reducible refine (cmp_isNaN_string.calls a1 true _ A5.out).mono ?_); rintro e w' ⟨rfl, ⟨nd, rfl⟩⟩))
   go_ret
   exact ⟨by first | rfl | (simp; done) | (simp [*]; done) | (simp [Own.isEmpty_bne]; done), by repeat (first | exact Drawn0.refl _ | apply Drawn0.step)⟩
  ·replace c6 := Bool.eq_false_iff.mpr c6
   subst c6
   have H1 : (some true) = some r := by rw [if_neg (show ¬ (false = true) by decide)] at H; exact H
   clear H
   have H := H1
   clear H1
   obtain rfl := Option.some.inj H
   go_enter Try.func57, Try.ntmps57
   go_wp2_with (first | ((with_reducible refine gate_callee (f := 68) rfl ?_); refine goesL_ (some 6) rfl rfl Try.func68 (by kernel_rfl) rfl #[.string a0] rfl (by (try simp only [List.map_toArray, List.map_cons, List.map_nil]); first | done | rfl | (simp only [List.length_drop, List.length_take]; rfl)) ?_; (with_reducible refine (cmp_isNaN_string.calls a0 true _ A3.out).mono ?_); rintro e w' ⟨rfl, ⟨nd, rfl⟩⟩; refine ⟨_, rfl, ?_⟩) | (go_at_call 68; (with_reducible refine (cmp_isNaN_string.calls a1 false _ A5.out).mono ?_); rintro e w' ⟨rfl, ⟨nd, rfl⟩⟩))
   go_ret
   exact ⟨by first | rfl | (simp; done) | (simp [*]; done) | (simp [Own.isEmpty_bne]; done), by repeat (first | exact Drawn0.refl _ | apply Drawn0.step)⟩
 ·replace c4 := Bool.eq_false_iff.mpr c4
  subst c4
  have H1 : (some (Op.bytesLess a0.toList a1.toList)) = some r := by rw [if_neg (show ¬ (false = true) by decide)] at H; exact H
  clear H
  have H := H1
  clear H1
  obtain rfl := Option.some.inj H
  go_enter Try.func57, Try.ntmps57
  go_wp2_with (first | ((with_reducible refine gate_callee (f := 68) rfl ?_); refine goesL_ (some 6) rfl rfl Try.func68 (by kernel_rfl) rfl #[.string a0] rfl (by (try simp only [List.map_toArray, List.map_cons, List.map_nil]); first | done | rfl | (simp only [List.length_drop, List.length_take]; rfl)) ?_; (with_reducible refine (cmp_isNaN_string.calls a0 false _ A3.out).mono ?_); rintro e w' ⟨rfl, ⟨nd, rfl⟩⟩; refine ⟨_, rfl, ?_⟩))
  go_ret
  exact ⟨by first | rfl | (simp; done) | (simp [*]; done) | (simp [Own.isEmpty_bne]; done), by repeat (first | exact Drawn0.refl _ | apply Drawn0.step)⟩

/-! ### slices_IsSorted_string_string: function 39 -/
def slices_IsSorted_string_string.l0 : Nat → List ByteArray → Int → Option (Bool)
 | 0, _, _ => none
 | k + 1, x0, x3 => if x3 > 0 then (if 0 ≤ x3 then (if x3 < (x0.length : Int) then (if 0 ≤ (wrap64 (x3 - 1)) then (if (wrap64 (x3 - 1)) < (x0.length : Int) then ((cmp_Less_string.f (rdOf ByteArray.empty x0 x3) (rdOf ByteArray.empty x0 (wrap64 (x3 - 1)))).bind fun t114 => (if t114 = true then (some false) else (slices_IsSorted_string_string.l0 k x0 (wrap64 (x3 - 1))))) else (none)) else (none)) else (none)) else (none)) else (some true)
def slices_IsSorted_string_string.f (k : Nat) (l0 : List ByteArray) : Option (Bool) := slices_IsSorted_string_string.l0 k l0 (wrap64 ((l0.length : Int) - 1))
theorem slices_IsSorted_string_string.mono_l : ∀ k, (∀ y0 y1, LeO (slices_IsSorted_string_string.l0 k y0 y1) (slices_IsSorted_string_string.l0 (k + 1) y0 y1))
 | 0 => fun _ _ r h => by simp [slices_IsSorted_string_string.l0] at h
 | k + 1 => by
  have ih0 := slices_IsSorted_string_string.mono_l k
  ·intro y0 y1
   unfold slices_IsSorted_string_string.l0
   repeat' first
   | (with_reducible exact ih0 _ _)
   | (with_reducible exact LeO.refl _)
   | (with_reducible exact LeO.none _)
   | (with_reducible refine LeO.ite ?_ ?_)
   | (with_reducible refine LeO.bind ?_ (fun _ => ?_))
   | exact ih0 _ _
   | exact LeO.none _
   | refine LeO.ite ?_ ?_
   | refine LeO.bind ?_ (fun _ => ?_)
theorem slices_IsSorted_string_string.mono : ∀ a0 k, LeO (slices_IsSorted_string_string.f k a0) (slices_IsSorted_string_string.f (k + 1) a0) := by
 intro a0 k
 have ih0 := slices_IsSorted_string_string.mono_l k
 unfold slices_IsSorted_string_string.f
 repeat' first
   | (with_reducible exact ih0 _ _)
   | (with_reducible exact LeO.refl _)
   | (with_reducible exact LeO.none _)
   | (with_reducible refine LeO.ite ?_ ?_)
   | (with_reducible refine LeO.bind ?_ (fun _ => ?_))
   | exact ih0 _ _
   | exact LeO.none _
   | refine LeO.ite ?_ ?_
   | refine LeO.bind ?_ (fun _ => ?_)
set_option maxHeartbeats 8000000 in
set_option maxRecDepth 100000 in
theorem slices_IsSorted_string_string.calls (k : Nat) (A0 : Option Addr) (c0 : Nat) (l0 : List ByteArray) (r : Bool) (w : World) (hr0 : Kd.C Kd.string w A0 l0.length l0) (hc0 : l0.length ≤ c0) (h : slices_IsSorted_string_string.f k l0 = some r) :
  Calls Try.prog 39 #[.slice A0 l0.length c0] w fun e w' => e = .returned (.bool r) ∧ Drawn0 w w' := by
 have HR0 := Aside0.mk hr0
 have HC0 := Aside0.mk hc0
 clear hr0 hc0
 have H : (slices_IsSorted_string_string.l0 k l0 (wrap64 ((l0.length : Int) - 1))) = some r := h
 clear h
 have H' := Aside0.mk H
 clear H
 go_enter Try.func39, Try.ntmps39
 go_wp2
 repeat (go_quiet (fail); try go_wp2)
 go_loopg [3] k (fun kq v3 w' => ∃ (x3_1 : Int), v3 = .int .i64 x3_1 ∧ Aside0 (slices_IsSorted_string_string.l0 kq l0 x3_1 = some r) ∧ Aside0 (kq ≤ k) ∧ Drawn0 w w')
 case atStart => exact ⟨(wrap64 ((l0.length : Int) - 1)), (by first | rfl | (simp; done) | (simp [*]; done)), H', ⟨Nat.le_refl _⟩, by repeat (first | exact Drawn0.refl _ | apply Drawn0.step)⟩
 case round =>
  clear H'
  obtain ⟨x3_1, rfl, HA, HK1, ⟨m1, rfl⟩⟩ := hrel
  cases gk with
  | zero => exact absurd HA.out (by simp [slices_IsSorted_string_string.l0])
  | succ k1 =>
   have H := HA.out
   clear HA
   simp only [slices_IsSorted_string_string.l0] at H
   by_cases c2 : x3_1 > 0
   ·rw [if_pos c2] at H
    have c2b0 : decide (0 < x3_1) = true := decide_eq_true c2
    clear c2
    by_cases c3 : 0 ≤ x3_1
    ·rw [if_pos c3] at H
     have c3b0 : decide (0 ≤ x3_1) = true := decide_eq_true c3
     clear c3
     by_cases c4 : x3_1 < (l0.length : Int)
     ·rw [if_pos c4] at H
      have c4b0 : decide (x3_1 < (l0.length : Int)) = true := decide_eq_true c4
      clear c4
      obtain ⟨ji5, hji5⟩ : ∃ j_ : Int, (wrap64 (x3_1 - 1)) = j_ := ⟨_, rfl⟩
      replace H : (if 0 ≤ (ji5) then (if (ji5) < (l0.length : Int) then ((cmp_Less_string.f (rdOf ByteArray.empty l0 x3_1) (rdOf ByteArray.empty l0 (ji5))).bind fun t114 => (if t114 = true then (some false) else (slices_IsSorted_string_string.l0 k1 l0 ji5))) else (none)) else (none)) = some r := by first | (rw [hji5] at H; exact H) | (simp only [hji5] at H ⊢; exact H)
      have hji5w : (IntKind.i64.wrap (x3_1 - 1)) = ji5 := (i64_w _).trans hji5
      by_cases c6 : 0 ≤ (ji5)
      ·rw [if_pos c6] at H
       have c6b0 : decide (0 ≤ (ji5)) = true := decide_eq_true c6
       clear c6
       by_cases c7 : (ji5) < (l0.length : Int)
       ·rw [if_pos c7] at H
        have c7b0 : decide ((ji5) < (l0.length : Int)) = true := decide_eq_true c7
        clear c7
        replace H := Option.bind_eq_some_iff.mp H
        obtain ⟨t114, A80, H⟩ := H
        replace H : (if t114 = true then (some false) else (slices_IsSorted_string_string.l0 k1 l0 ji5)) = some r := H
        have A8 := Aside0.mk A80
        clear A80
        by_cases c9 : t114 = true
        ·subst c9
         have H1 : (some false) = some r := by rw [if_pos rfl] at H; exact H
         clear H
         have H := H1
         clear H1
         obtain rfl := Option.some.inj H
         have p112 : 0 ≤ (x3_1 : Int) := of_decide_eq_true (by first | (with_reducible assumption) | assumption)
         have q112 : x3_1 < (l0.length : Int) := of_decide_eq_true (by first | (with_reducible assumption) | assumption)
         obtain ⟨ad112, e112, hx112_0⟩ := Kd.at_string HR0.out x3_1 p112 q112
         cases e112
         replace p112 := eq_true p112
         replace q112 := eq_true q112
         have p113 : 0 ≤ ((ji5) : Int) := of_decide_eq_true (by first | (with_reducible assumption) | assumption)
         have q113 : (ji5) < (l0.length : Int) := of_decide_eq_true (by first | (with_reducible assumption) | assumption)
         obtain ⟨ad113, e113, hx113_0⟩ := Kd.at_string HR0.out (ji5) p113 q113
         obtain rfl : ad112 = ad113 := (by injection e113)
         replace p113 := eq_true p113
         replace q113 := eq_true q113
         go_wp2_with (first | (go_at_call 57; (with_reducible refine (cmp_Less_string.calls (rdOf ByteArray.empty l0 x3_1) (rdOf ByteArray.empty l0 (ji5)) true _ A8.out).mono ?_); rintro e w' ⟨rfl, ⟨nd, rfl⟩⟩; (try first | exact ⟨rfl, _, World.drewN_drewN _ _ _⟩ | exact ⟨rfl, _, Eq.trans (World.drewN_drewN _ _ _) (congrArg (World.drewN _) (Nat.add_assoc _ _ _))⟩)))
         repeat (go_quiet (first | (go_at_call 57; (with_reducible refine (cmp_Less_string.calls (rdOf ByteArray.empty l0 x3_1) (rdOf ByteArray.empty l0 (ji5)) true _ A8.out).mono ?_); rintro e w' ⟨rfl, ⟨nd, rfl⟩⟩; (try first | exact ⟨rfl, _, World.drewN_drewN _ _ _⟩ | exact ⟨rfl, _, Eq.trans (World.drewN_drewN _ _ _) (congrArg (World.drewN _) (Nat.add_assoc _ _ _))⟩))); try go_wp2_with (first | (go_at_call 57; (with_reducible refine (cmp_Less_string.calls (rdOf ByteArray.empty l0 x3_1) (rdOf ByteArray.empty l0 (ji5)) true _ A8.out).mono ?_); rintro e w' ⟨rfl, ⟨nd, rfl⟩⟩; (try first | exact ⟨rfl, _, World.drewN_drewN _ _ _⟩ | exact ⟨rfl, _, Eq.trans (World.drewN_drewN _ _ _) (congrArg (World.drewN _) (Nat.add_assoc _ _ _))⟩))))
         go_ret
         exact ⟨by first | rfl | (simp; done) | (simp only [← hji5] <;> (first | rfl | simp)) | (simp [*]; done), by repeat (first | exact Drawn0.refl _ | apply Drawn0.step)⟩
        ·replace c9 := Bool.eq_false_iff.mpr c9
         subst c9
         have H1 : (slices_IsSorted_string_string.l0 k1 l0 ji5) = some r := by rw [if_neg (show ¬ (false = true) by decide)] at H; exact H
         clear H
         have H := H1
         clear H1
         have H' := Aside0.mk H
         clear H
         have p112 : 0 ≤ (x3_1 : Int) := of_decide_eq_true (by first | (with_reducible assumption) | assumption)
         have q112 : x3_1 < (l0.length : Int) := of_decide_eq_true (by first | (with_reducible assumption) | assumption)
         obtain ⟨ad112, e112, hx112_0⟩ := Kd.at_string HR0.out x3_1 p112 q112
         cases e112
         replace p112 := eq_true p112
         replace q112 := eq_true q112
         have p113 : 0 ≤ ((ji5) : Int) := of_decide_eq_true (by first | (with_reducible assumption) | assumption)
         have q113 : (ji5) < (l0.length : Int) := of_decide_eq_true (by first | (with_reducible assumption) | assumption)
         obtain ⟨ad113, e113, hx113_0⟩ := Kd.at_string HR0.out (ji5) p113 q113
         obtain rfl : ad112 = ad113 := (by injection e113)
         replace p113 := eq_true p113
         replace q113 := eq_true q113
         go_wp2_with (first | (go_at_call 57; (with_reducible refine (cmp_Less_string.calls (rdOf ByteArray.empty l0 x3_1) (rdOf ByteArray.empty l0 (ji5)) false _ A8.out).mono ?_); rintro e w' ⟨rfl, ⟨nd, rfl⟩⟩; (try first | exact ⟨rfl, _, World.drewN_drewN _ _ _⟩ | exact ⟨rfl, _, Eq.trans (World.drewN_drewN _ _ _) (congrArg (World.drewN _) (Nat.add_assoc _ _ _))⟩)))
         repeat (go_quiet (first | (go_at_call 57; (with_reducible refine (cmp_Less_string.calls (rdOf ByteArray.empty l0 x3_1) (rdOf ByteArray.empty l0 (ji5)) false _ A8.out).mono ?_); rintro e w' ⟨rfl, ⟨nd, rfl⟩⟩; (try first | exact ⟨rfl, _, World.drewN_drewN _ _ _⟩ | exact ⟨rfl, _, Eq.trans (World.drewN_drewN _ _ _) (congrArg (World.drewN _) (Nat.add_assoc _ _ _))⟩))); try go_wp2_with (first | (go_at_call 57; (with_reducible refine (cmp_Less_string.calls (rdOf ByteArray.empty l0 x3_1) (rdOf ByteArray.empty l0 (ji5)) false _ A8.out).mono ?_); rintro e w' ⟨rfl, ⟨nd, rfl⟩⟩; (try first | exact ⟨rfl, _, World.drewN_drewN _ _ _⟩ | exact ⟨rfl, _, Eq.trans (World.drewN_drewN _ _ _) (congrArg (World.drewN _) (Nat.add_assoc _ _ _))⟩))))
         go_roundg k1
         case measure => have := HK1.out; omega
         case rel => exact ⟨(ji5), (by first | rfl | (simp; done) | (simp only [← hji5] <;> (first | rfl | simp)) | (simp [*]; done)), H', ⟨by have := HK1.out; omega⟩, by repeat (first | exact Drawn0.refl _ | apply Drawn0.step)⟩
       ·rw [if_neg c7] at H
        exact absurd H (by simp)
      ·rw [if_neg c6] at H
       exact absurd H (by simp)
     ·rw [if_neg c4] at H
      exact absurd H (by simp)
    ·rw [if_neg c3] at H
     exact absurd H (by simp)
   ·rw [if_neg c2] at H
    have c2b0 : decide (0 < x3_1) = false := decide_eq_false c2
    clear c2
    obtain rfl := Option.some.inj H
    go_wp2
    repeat (go_quiet (fail); try go_wp2)
    go_ret
    exact ⟨by first | rfl | (simp; done) | (simp [*]; done) | (simp [Own.isEmpty_bne]; done), by repeat (first | exact Drawn0.refl _ | apply Drawn0.step)⟩

/-! ### slices_Clone_string_string: function 27 -/
def slices_Clone_string_string.f (l0 : List ByteArray) : Option (List ByteArray) := (some (([] : List ByteArray) : List ByteArray)).bind fun y115 => (if y115.length + l0.length < 8796093022208 then (some (y115 ++ l0)) else (none))
set_option maxHeartbeats 8000000 in
set_option maxRecDepth 100000 in
theorem slices_Clone_string_string.calls (A0 : Option Addr) (c0 : Nat) (l0 : List ByteArray) (r : List ByteArray) (w : World) (hr0 : Kd.C Kd.string w A0 l0.length l0) (hc0 : l0.length ≤ c0) (h : slices_Clone_string_string.f l0 = some r) :
  Calls Try.prog 27 #[.slice A0 l0.length c0] w fun e w' => ∃ v0_ : Value, e = .returned (v0_) ∧ Kd.R Kd.string 9 w' w.heap.size (fun _ => True) v0_ r ∧ Below w.heap.size w w' := by
 have hl := hr0.1
 cases A0 with
 | none =>
  have hl0 : l0 = [] := by
   cases l0 with
   | nil => rfl
   | cons a l => exact absurd (hr0.2.2 (by simp)) (by rintro ⟨_, h, _⟩; cases h)
  subst hl0
  obtain rfl : [] = r := by
   simp only [slices_Clone_string_string.f, Option.bind_some] at h
   rw [if_pos (by simp)] at h
   simpa using h
  have hnil := fun (n c : Nat) (w : World) => Lib.run_eql_slice_nil (P := Try.prog) w 22 9 none n c 0 0 Try.underlying22
  clear hl hr0 hc0 h
  go_enter Try.func27, Try.ntmps27
  go_wp2
  go_ret
  exact ⟨_, rfl, Kd.R_nil _ _ _ _ _, Below.refl _ _⟩
 | some a0 =>
  have hnil := fun (n c : Nat) (w : World) => Lib.run_eql_slice_nil (P := Try.prog) w 22 9 (some a0) n c 0 0 Try.underlying22
  clear hl
  have HR0 := Aside0.mk hr0
  have HC0 := Aside0.mk hc0
  clear hr0 hc0
  have HB := Aside0.mk (Below.refl w.heap.size w)
  have H : ((some (([] : List ByteArray) : List ByteArray)).bind fun y115 => (if y115.length + l0.length < 8796093022208 then (some (y115 ++ l0)) else (none))) = some r := h
  clear h
  obtain ⟨y115, hy115⟩ : ∃ y_ : List ByteArray, y_ = (([] : List ByteArray)) := ⟨_, rfl⟩
  replace H : (if y115.length + l0.length < 8796093022208 then (some (y115 ++ l0)) else (none)) = some r := by first | (rw [hy115]; with_reducible exact H) | (have H2_ := (Option.bind_some _ _).symm.trans H; rw [hy115]; with_reducible exact H2_) | (have H2_ := (Option.bind_some _ _).symm.trans H; with_reducible exact H2_) | with_reducible exact H | (rw [hy115]; exact H) | exact H
  have Ny115 := Aside0.mk hy115
  clear hy115
  by_cases c2 : y115.length + l0.length < 8796093022208
  ·rw [if_pos c2] at H
   have LMc2 := Aside0.mk c2
   clear c2
   obtain ⟨y118, hy118⟩ : ∃ y_ : List ByteArray, y_ = (y115 ++ l0) := ⟨_, rfl⟩
   replace H : (some y118) = some r := by first | (rw [hy118]; with_reducible exact H) | (have H2_ := (Option.bind_some _ _).symm.trans H; rw [hy118]; with_reducible exact H2_) | (have H2_ := (Option.bind_some _ _).symm.trans H; with_reducible exact H2_) | with_reducible exact H | (rw [hy118]; exact H) | exact H
   have Ny118 := Aside0.mk hy118
   clear hy118
   obtain rfl := Option.some.inj H
   go_enter Try.func27, Try.ntmps27
   go_wp2_with (first | ((with_reducible refine gate_dst (N := 5) rfl ?_); refine Kd.R_lit Kd.string _ 9 ?hg (N := 5) ?hd (xs := ([] : List ByteArray)) (inner := []) (ok := fun _ => True) (okp := fun _ => True) ?hr ?hp (fun _ hk => hk) trivial (Below.refl _ _) (Nat.le_refl _) (by simp) ?_; (case hd => rfl); (case hg => rfl); (case hr => first | (go_simp; done) | (go_simp; rfl)); (case hp => exact (Reps.none _ _)); intro v116 w3 ho4 hb hg_ hnew_; clear hg_ hnew_; (first | rw [← Ny115.out] at ho4 | (simp only [Int.reduceToNat] at ho4; rw [← Ny115.out] at ho4)); have n0_ := Aside0.mk (Kd.R_lower ho4 (below_size (by repeat (first | (with_reducible first | exact HB.out | apply below_alloc | apply pw_below_drewN | apply below_drew1) | exact HB.out)))); have n1_ := Aside0.mk (below_step (by repeat (first | (with_reducible first | exact HB.out | apply below_alloc | apply pw_below_drewN | apply below_drew1) | exact HB.out)) hb); clear HB; have HO117 := n0_; have HB := n1_; clear n0_ n1_; clear hb ho4) | ((with_reducible refine gate_builtin (b := .append) (xs := #[.tmp 5, .tmp 6]) rfl ?_); at_builtin; refine Kd.R_append_rows Kd.string (w0 := w) w.heap.size rfl (.tmp 5) (.tmp 6) 22 9 (.string ⟨#[]⟩) 16 rfl Try.underlying22 info9 rfl (by decide) (by omega) v116 y115 l0 _ _ _ (fun _ => True) (fun _ => False) rfl rfl ?aO ?aR (fun _ _ h => h) (fun _ h => h.elim) ?aF ?aB ?aS ?aL ?_; (case aR => repeat (first | exact (Kd.C_below HR0.out HB.out) | (with_reducible refine Kd.C_alloc ?_ _) | (with_reducible refine Kd.C_drewN ?_ _) | (with_reducible refine Kd.C_drew ?_))); (case aB => exact (by repeat (first | (with_reducible first | exact HB.out | apply below_alloc | apply pw_below_drewN | apply below_drew1) | exact HB.out))); (case aF => exact (fun _ _ => trivial)); (case aO => exact (by (with_reducible repeat (first | apply Kd.R_alloc | apply Kd.R_drewN | apply Kd.R_drew)); exact HO117.out)); (case aS => exact (below_size (by repeat (first | (with_reducible first | exact HB.out | apply below_alloc | apply pw_below_drewN | apply below_drew1) | exact HB.out)))); (case aL => have := LMc2.out; omega); intro v119 w5 ho hb hg hat; rw [← Ny118.out] at ho; have n0_ := Aside0.mk (hb); have n1_ := Aside0.mk (ho); clear HB; clear HO117; have HB := n0_; have HO120 := n1_; clear n0_ n1_; clear ho hb hg hat))
   go_ret
   exact ⟨_, by first | rfl | (simp [errW_none, errW_some] <;> rfl) | (simp [*, errW_none, errW_some] <;> rfl), by (with_reducible repeat (first | apply Kd.R_alloc | apply Kd.R_drewN | apply Kd.R_drew)); exact HO120.out, by repeat (first | (with_reducible first | exact HB.out | apply below_alloc | apply pw_below_drewN | apply below_drew1) | exact HB.out)⟩
  ·rw [if_neg c2] at H
   exact absurd H (by simp)


/-! ### slices_Clone_int_int: function 28 -/
def slices_Clone_int_int.f (l0 : List Int) : Option (List Int) := (some (([] : List Int) : List Int)).bind fun y121 => (if y121.length + l0.length < 17592186044416 then (some (y121 ++ l0)) else (none))
set_option maxHeartbeats 8000000 in
set_option maxRecDepth 100000 in
theorem slices_Clone_int_int.calls (A0 : Option Addr) (c0 : Nat) (l0 : List Int) (r : List Int) (w : World) (hr0 : Kd.C (Kd.int .i64) w A0 l0.length l0) (hc0 : l0.length ≤ c0) (h : slices_Clone_int_int.f l0 = some r) :
  Calls Try.prog 28 #[.slice A0 l0.length c0] w fun e w' => ∃ v0_ : Value, e = .returned (v0_) ∧ Kd.R (Kd.int .i64) 3 w' w.heap.size (fun _ => True) v0_ r ∧ Below w.heap.size w w' := by
 have hl := hr0.1
 cases A0 with
 | none =>
  have hl0 : l0 = [] := by
   cases l0 with
   | nil => rfl
   | cons a l => exact absurd (hr0.2.2 (by simp)) (by rintro ⟨_, h, _⟩; cases h)
  subst hl0
  obtain rfl : [] = r := by
   simp only [slices_Clone_int_int.f, Option.bind_some] at h
   rw [if_pos (by simp)] at h
   simpa using h
  have hnil := fun (n c : Nat) (w : World) => Lib.run_eql_slice_nil (P := Try.prog) w 23 3 none n c 0 0 Try.underlying23
  clear hl hr0 hc0 h
  go_enter Try.func28, Try.ntmps28
  go_wp2
  go_ret
  exact ⟨_, rfl, Kd.R_nil _ _ _ _ _, Below.refl _ _⟩
 | some a0 =>
  have hnil := fun (n c : Nat) (w : World) => Lib.run_eql_slice_nil (P := Try.prog) w 23 3 (some a0) n c 0 0 Try.underlying23
  clear hl
  have HR0 := Aside0.mk hr0
  have HC0 := Aside0.mk hc0
  clear hr0 hc0
  have HB := Aside0.mk (Below.refl w.heap.size w)
  have H : ((some (([] : List Int) : List Int)).bind fun y121 => (if y121.length + l0.length < 17592186044416 then (some (y121 ++ l0)) else (none))) = some r := h
  clear h
  obtain ⟨y121, hy121⟩ : ∃ y_ : List Int, y_ = (([] : List Int)) := ⟨_, rfl⟩
  replace H : (if y121.length + l0.length < 17592186044416 then (some (y121 ++ l0)) else (none)) = some r := by first | (rw [hy121]; with_reducible exact H) | (have H2_ := (Option.bind_some _ _).symm.trans H; rw [hy121]; with_reducible exact H2_) | (have H2_ := (Option.bind_some _ _).symm.trans H; with_reducible exact H2_) | with_reducible exact H | (rw [hy121]; exact H) | exact H
  have Ny121 := Aside0.mk hy121
  clear hy121
  by_cases c2 : y121.length + l0.length < 17592186044416
  ·rw [if_pos c2] at H
   have LMc2 := Aside0.mk c2
   clear c2
   obtain ⟨y124, hy124⟩ : ∃ y_ : List Int, y_ = (y121 ++ l0) := ⟨_, rfl⟩
   replace H : (some y124) = some r := by first | (rw [hy124]; with_reducible exact H) | (have H2_ := (Option.bind_some _ _).symm.trans H; rw [hy124]; with_reducible exact H2_) | (have H2_ := (Option.bind_some _ _).symm.trans H; with_reducible exact H2_) | with_reducible exact H | (rw [hy124]; exact H) | exact H
   have Ny124 := Aside0.mk hy124
   clear hy124
   obtain rfl := Option.some.inj H
   go_enter Try.func28, Try.ntmps28
   go_wp2_with (first | ((with_reducible refine gate_dst (N := 5) rfl ?_); refine Kd.R_lit (Kd.int .i64) _ 3 ?hg (N := 5) ?hd (xs := ([] : List Int)) (inner := []) (ok := fun _ => True) (okp := fun _ => True) ?hr ?hp (fun _ hk => hk) trivial (Below.refl _ _) (Nat.le_refl _) (by simp) ?_; (case hd => rfl); (case hg => rfl); (case hr => first | (go_simp; done) | (go_simp; rfl)); (case hp => exact (Reps.none _ _)); intro v122 w3 ho4 hb hg_ hnew_; clear hg_ hnew_; (first | rw [← Ny121.out] at ho4 | (simp only [Int.reduceToNat] at ho4; rw [← Ny121.out] at ho4)); have n0_ := Aside0.mk (Kd.R_lower ho4 (below_size (by repeat (first | (with_reducible first | exact HB.out | apply below_alloc | apply pw_below_drewN | apply below_drew1) | exact HB.out)))); have n1_ := Aside0.mk (below_step (by repeat (first | (with_reducible first | exact HB.out | apply below_alloc | apply pw_below_drewN | apply below_drew1) | exact HB.out)) hb); clear HB; have HO123 := n0_; have HB := n1_; clear n0_ n1_; clear hb ho4) | ((with_reducible refine gate_builtin (b := .append) (xs := #[.tmp 5, .tmp 6]) rfl ?_); at_builtin; refine Kd.R_append_rows (Kd.int .i64) (w0 := w) w.heap.size rfl (.tmp 5) (.tmp 6) 23 3 (.int .i64 0) 8 rfl Try.underlying23 info3 rfl (by decide) (by omega) v122 y121 l0 _ _ _ (fun _ => True) (fun _ => False) rfl rfl ?aO ?aR (fun _ _ h => h) (fun _ h => h.elim) ?aF ?aB ?aS ?aL ?_; (case aR => repeat (first | exact (Kd.C_below HR0.out HB.out) | (with_reducible refine Kd.C_alloc ?_ _) | (with_reducible refine Kd.C_drewN ?_ _) | (with_reducible refine Kd.C_drew ?_))); (case aB => exact (by repeat (first | (with_reducible first | exact HB.out | apply below_alloc | apply pw_below_drewN | apply below_drew1) | exact HB.out))); (case aF => exact (fun _ _ => trivial)); (case aO => exact (by (with_reducible repeat (first | apply Kd.R_alloc | apply Kd.R_drewN | apply Kd.R_drew)); exact HO123.out)); (case aS => exact (below_size (by repeat (first | (with_reducible first | exact HB.out | apply below_alloc | apply pw_below_drewN | apply below_drew1) | exact HB.out)))); (case aL => have := LMc2.out; omega); intro v125 w5 ho hb hg hat; rw [← Ny124.out] at ho; have n0_ := Aside0.mk (hb); have n1_ := Aside0.mk (ho); clear HB; clear HO123; have HB := n0_; have HO126 := n1_; clear n0_ n1_; clear ho hb hg hat))
   go_ret
   exact ⟨_, by first | rfl | (simp [errW_none, errW_some] <;> rfl) | (simp [*, errW_none, errW_some] <;> rfl), by (with_reducible repeat (first | apply Kd.R_alloc | apply Kd.R_drewN | apply Kd.R_drew)); exact HO126.out, by repeat (first | (with_reducible first | exact HB.out | apply below_alloc | apply pw_below_drewN | apply below_drew1) | exact HB.out)⟩
  ·rw [if_neg c2] at H
   exact absurd H (by simp)


/-! ### impl_hits: function 46 -/
def impl_hits.l0 : Nat → List Int → List Int → List (S39) → Int → Int → Option ((List (S39)))
 | 0, _, _, _, _, _ => none
 | k + 1, x0, x1, x5, x8, x9 => if x9 < x8 then (if 0 ≤ x9 then (if x9 < (x0.length : Int) then (if x9 < (x1.length : Int) then (if x5.length < 8796093022208 then (impl_hits.l0 k x0 x1 (x5 ++ [(⟨rd x0 x9, rd x1 x9⟩ : S39)]) x8 (wrap64 (x9 + 1))) else (none)) else (none)) else (none)) else (none)) else (some x5)
def impl_hits.f (k : Nat) (l0 : List Int) (l1 : List Int) : Option ((List (S39))) := impl_hits.l0 k l0 l1 ([] : List (S39)) (l0.length : Int) 0
theorem impl_hits.mono_l : ∀ k, (∀ y0 y1 y2 y3 y4, LeO (impl_hits.l0 k y0 y1 y2 y3 y4) (impl_hits.l0 (k + 1) y0 y1 y2 y3 y4))
 | 0 => fun _ _ _ _ _ r h => by simp [impl_hits.l0] at h
 | k + 1 => by
  have ih0 := impl_hits.mono_l k
  ·intro y0 y1 y2 y3 y4
   unfold impl_hits.l0
   repeat' first
   | (with_reducible exact ih0 _ _ _ _ _)
   | (with_reducible exact LeO.refl _)
   | (with_reducible exact LeO.none _)
   | (with_reducible refine LeO.ite ?_ ?_)
   | (with_reducible refine LeO.bind ?_ (fun _ => ?_))
   | exact ih0 _ _ _ _ _
   | exact LeO.none _
   | refine LeO.ite ?_ ?_
   | refine LeO.bind ?_ (fun _ => ?_)
theorem impl_hits.mono : ∀ a0 a1 k, LeO (impl_hits.f k a0 a1) (impl_hits.f (k + 1) a0 a1) := by
 intro a0 a1 k
 have ih0 := impl_hits.mono_l k
 unfold impl_hits.f
 repeat' first
   | (with_reducible exact ih0 _ _ _ _ _)
   | (with_reducible exact LeO.refl _)
   | (with_reducible exact LeO.none _)
   | (with_reducible refine LeO.ite ?_ ?_)
   | (with_reducible refine LeO.bind ?_ (fun _ => ?_))
   | exact ih0 _ _ _ _ _
   | exact LeO.none _
   | refine LeO.ite ?_ ?_
   | refine LeO.bind ?_ (fun _ => ?_)
def impl_hits.T5 : Bool × List (List Nat × List Nat) := (true, [([], []), ([], []), ([], []), ([1, 2], [1, 2]), ([3], [3]), ([], []), ([], []), ([5, 6], [5, 6]), ([7], [7]), ([4, 8], [4, 8]), ([9], [9]), ([0, 10], [0, 10]), ([11, 11, 0, 1, 2, 3, 4, 5, 6, 7, 8, 9, 10, 11], [0, 11])])
def impl_hits.B5 : List Nat := [0, 0, 0, 6, 14, 0, 0, 96, 224, 510, 1022, 2047, 4095]
theorem impl_hits.tab5 : rtab .any (opsOf Try.f46 5) = impl_hits.T5 := by kernel_rfl
theorem impl_hits.bits5 : waitsOk impl_hits.T5.2 impl_hits.B5 = true := by kernel_rfl
set_option maxHeartbeats 8000000 in
set_option maxRecDepth 100000 in
theorem impl_hits.calls (k : Nat) (A0 : Option Addr) (c0 : Nat) (l0 : List Int) (A1 : Option Addr) (c1 : Nat) (l1 : List Int) (r : List (S39)) (w : World) (hr0 : Kd.C (Kd.int .i64) w A0 l0.length l0) (hc0 : l0.length ≤ c0) (hr1 : Kd.C (Kd.int .i64) w A1 l1.length l1) (hc1 : l1.length ≤ c1) (h : impl_hits.f k l0 l1 = some r) :
  Calls Try.prog 46 #[.slice A0 l0.length c0, .slice A1 l1.length c1] w fun e w' => ∃ v0_ : Value, e = .returned (v0_) ∧ Kd.R k39 39 w' w.heap.size (fun _ => True) v0_ r ∧ Below w.heap.size w w' := by
 have hu39 := Try.underlying39
 have HR0 := Aside0.mk hr0
 have HC0 := Aside0.mk hc0
 clear hr0 hc0
 have HR1 := Aside0.mk hr1
 have HC1 := Aside0.mk hc1
 clear hr1 hc1
 have HB := Aside0.mk (Below.refl w.heap.size w)
 have H : (impl_hits.l0 k l0 l1 ([] : List (S39)) (l0.length : Int) 0) = some r := h
 clear h
 have H' := Aside0.mk H
 clear H
 go_enter Try.func46, Try.ntmps46
 go_wp2
 go_loopg [5, 9] k (fun kq v5 v9 w' => ∃ (x5_1 : List (S39)) (x9_1 : Int), v9 = .int .i64 x9_1 ∧ Aside0 (impl_hits.l0 kq l0 l1 x5_1 (l0.length : Int) x9_1 = some r) ∧ Aside0 (kq ≤ k) ∧ Aside0 (Kd.R k39 39 w' w.heap.size (fun _ => True) v5 x5_1) ∧ Aside0 (Below w.heap.size w w'))
 case atStart => exact ⟨(([] : List (S39))), (0), (by first | rfl | (simp; done) | (simp [*]; done)), H', ⟨Nat.le_refl _⟩, ⟨by first | exact Kd.R_nil _ _ _ _ _ | exact Kd.N_nil _ _ _ _ _ | exact Kd.V_nil _ _ _ _ _ | exact Kd.Q_nil _ _ _ _ _ | exact Kd.S_nil _ _ _ _ _⟩, ⟨by repeat (first | (with_reducible first | exact HB.out | apply below_alloc | apply pw_below_drewN | apply below_drew1) | exact HB.out)⟩⟩
 case round =>
  clear H'
  try clear c1
  try clear p2
  obtain ⟨x5_1, x9_1, rfl, HA, HK1, HO_5, HB⟩ := hrel
  cases gk with
  | zero => exact absurd HA.out (by simp [impl_hits.l0])
  | succ k1 =>
   have H := HA.out
   clear HA
   simp only [impl_hits.l0] at H
   by_cases c3 : x9_1 < (l0.length : Int)
   ·rw [if_pos c3] at H
    have c3b0 : decide (x9_1 < (l0.length : Int)) = true := decide_eq_true c3
    clear c3
    by_cases c4 : 0 ≤ x9_1
    ·rw [if_pos c4] at H
     have c4b0 : decide (0 ≤ x9_1) = true := decide_eq_true c4
     clear c4
     by_cases c5 : x9_1 < (l0.length : Int)
     ·rw [if_pos c5] at H
      have c5b0 : decide (x9_1 < (l0.length : Int)) = true := decide_eq_true c5
      clear c5
      by_cases c6 : x9_1 < (l1.length : Int)
      ·rw [if_pos c6] at H
       have c6b0 : decide (x9_1 < (l1.length : Int)) = true := decide_eq_true c6
       clear c6
       by_cases c7 : x5_1.length < 8796093022208
       ·rw [if_pos c7] at H
        have LMc7 := Aside0.mk c7
        clear c7
        obtain ⟨y129, hy129⟩ : ∃ y_ : List (S39), y_ = (x5_1 ++ [(⟨rd l0 x9_1, rd l1 x9_1⟩ : S39)]) := ⟨_, rfl⟩
        replace H : (impl_hits.l0 k1 l0 l1 y129 (l0.length : Int) (wrap64 (x9_1 + 1))) = some r := by first | (rw [hy129]; with_reducible exact H) | (have H2_ := (Option.bind_some _ _).symm.trans H; rw [hy129]; with_reducible exact H2_) | (have H2_ := (Option.bind_some _ _).symm.trans H; with_reducible exact H2_) | with_reducible exact H | (rw [hy129]; exact H) | exact H
        have Ny129 := Aside0.mk hy129
        clear hy129
        have H' := Aside0.mk H
        clear H
        try go_wp2
        have n0_ := Aside0.mk (Kd.R_drew HO_5.out)
        have n1_ := Aside0.mk (below_drew1 HB.out)
        clear HO_5
        clear HB
        have HO_5 := n0_
        have HB := n1_
        clear n0_ n1_
        have p127 : 0 ≤ (x9_1 : Int) := of_decide_eq_true (by first | (with_reducible assumption) | assumption)
        have q127 : x9_1 < (l0.length : Int) := of_decide_eq_true (by first | (with_reducible assumption) | assumption)
        obtain ⟨ad127, e127, hx127_0⟩ := Kd.at_int HR0.out x9_1 p127 q127
        have hw127_0 := hx127_0
        cases e127
        replace hx127_0 := (HB.out.cell (World.block_lt_of_cell? w _ hx127_0)).trans hx127_0
        replace p127 := eq_true p127
        replace q127 := eq_true q127
        have p128 : 0 ≤ (x9_1 : Int) := of_decide_eq_true (by first | (with_reducible assumption) | assumption)
        have q128 : x9_1 < (l1.length : Int) := of_decide_eq_true (by first | (with_reducible assumption) | assumption)
        obtain ⟨ad128, e128, hx128_0⟩ := Kd.at_int HR1.out x9_1 p128 q128
        have hw128_0 := hx128_0
        cases e128
        replace hx128_0 := (HB.out.cell (World.block_lt_of_cell? w _ hx128_0)).trans hx128_0
        replace p128 := eq_true p128
        replace q128 := eq_true q128
        refine start_ (n := 13) (S := fun w' => w'.cell? (ad127.add (x9_1).toNat) = some (.int .i64 (rd l0 x9_1)) ∧ w'.cell? (ad128.add (x9_1).toNat) = some (.int .i64 (rd l1 x9_1))) (ds := []) #[false, false, false, false, false, false, false, false, false, false, false, false, false] (by kernel_rfl) rfl rfl ⟨((HB.out.cell (World.block_lt_of_cell? w _ hw127_0)).trans hw127_0), ((HB.out.cell (World.block_lt_of_cell? w _ hw128_0)).trans hw128_0)⟩ (fun hHeld => ?_); refine with_tabW impl_hits.tab5 impl_hits.bits5 (fun HT_ HW_ => ?_)
        generalize wr.drew = w8 at HO_5 HB hx127_0 hx128_0 hHeld ⊢
        refine pure_ (i := 0) (N := some 12) (v := ?_) (a' := ?_) #[true, false, false, false, false, false, false, false, false, false, false, false, false] rfl rfl (any_of HT_.out (by kernel_rfl)) (fun _ _ _ h => h) (Or.inl ⟨by rfl, ?_⟩) ?_ ?_
        rotate_left
        ·intro w'
         go_simp
         with_reducible rfl
        rotate_left
        ·simp only [Act.put, List.setIfInBounds_toArray, List.set_cons_zero, List.set_cons_succ, i64_w, i32_w]
         rfl
        refine pure_ (i := 1) (N := some 13) (v := ?_) (a' := ?_) #[true, true, false, false, false, false, false, false, false, false, false, false, false] rfl rfl (any_of HT_.out (by kernel_rfl)) (fun _ _ _ h => h) (Or.inl ⟨by rfl, ?_⟩) ?_ ?_
        rotate_left
        ·intro w'
         go_simp
         with_reducible rfl
        rotate_left
        ·simp only [Act.put, List.setIfInBounds_toArray, List.set_cons_zero, List.set_cons_succ, i64_w, i32_w]
         rfl
        refine pure_ (i := 2) (N := some 14) (v := ?_) (a' := ?_) #[true, true, true, false, false, false, false, false, false, false, false, false, false] rfl rfl (any_of HT_.out (by kernel_rfl)) (fun _ _ _ h => h) (Or.inl ⟨by rfl, ?_⟩) ?_ ?_
        rotate_left
        ·intro w'
         go_simp
         with_reducible rfl
        rotate_left
        ·simp only [Act.put, List.setIfInBounds_toArray, List.set_cons_zero, List.set_cons_succ, i64_w, i32_w]
         rfl
        refine pure_ (i := 3) (N := some 15) (v := ?_) (a' := ?_) #[true, true, true, true, false, false, false, false, false, false, false, false, false] rfl rfl (any_of HT_.out (by kernel_rfl)) (fun _ _ _ h => h) (Or.inl ⟨by rfl, ?_⟩) ?_ ?_
        rotate_left
        ·intro w'
         go_simp
         with_reducible rfl
        rotate_left
        ·simp only [Act.put, List.setIfInBounds_toArray, List.set_cons_zero, List.set_cons_succ, i64_w, i32_w]
         rfl
        refine pure_ (i := 5) (N := some 17) (v := ?_) (a' := ?_) #[true, true, true, true, false, true, false, false, false, false, false, false, false] rfl rfl (any_of HT_.out (by kernel_rfl)) (fun _ _ _ h => h) (Or.inl ⟨by rfl, ?_⟩) ?_ ?_
        rotate_left
        ·intro w'
         go_simp
         with_reducible rfl
        rotate_left
        ·simp only [Act.put, List.setIfInBounds_toArray, List.set_cons_zero, List.set_cons_succ, i64_w, i32_w]
         rfl
        refine pure_ (i := 6) (N := some 18) (v := ?_) (a' := ?_) #[true, true, true, true, false, true, true, false, false, false, false, false, false] rfl rfl (any_of HT_.out (by kernel_rfl)) (fun _ _ _ h => h) (Or.inl ⟨by rfl, ?_⟩) ?_ ?_
        rotate_left
        ·intro w'
         go_simp
         with_reducible rfl
        rotate_left
        ·simp only [Act.put, List.setIfInBounds_toArray, List.set_cons_zero, List.set_cons_succ, i64_w, i32_w]
         rfl
        refine pure_ (i := 7) (N := some 19) (v := ?_) (a' := ?_) #[true, true, true, true, false, true, true, true, false, false, false, false, false] rfl rfl (any_of HT_.out (by kernel_rfl)) (fun _ _ _ h => h) (Or.inl ⟨by rfl, ?_⟩) ?_ ?_
        rotate_left
        ·intro w'
         go_simp
         with_reducible rfl
        rotate_left
        ·simp only [Act.put, List.setIfInBounds_toArray, List.set_cons_zero, List.set_cons_succ, i64_w, i32_w]
         rfl
        refine take_ (i := 4) (N := some 16) (v := ?_) (a' := ?_) #[true, true, true, true, true, true, true, true, false, false, false, false, false] rfl rfl (take_ofW HT_.out HW_.out (by kernel_rfl)) (fun _ _ _ h => h) (Or.inl ⟨by rfl, ?_⟩) hHeld ?_ ?_
        rotate_left
        ·rintro w' ⟨s0, s1⟩
         go_simp
         with_reducible rfl
        rotate_left
        ·simp only [Act.put, List.setIfInBounds_toArray, List.set_cons_zero, List.set_cons_succ, i64_w, i32_w]
         rfl
        refine take_ (i := 8) (N := some 20) (v := ?_) (a' := ?_) #[true, true, true, true, true, true, true, true, true, false, false, false, false] rfl rfl (take_ofW HT_.out HW_.out (by kernel_rfl)) (fun _ _ _ h => h) (Or.inl ⟨by rfl, ?_⟩) hHeld ?_ ?_
        rotate_left
        ·rintro w' ⟨s0, s1⟩
         go_simp
         with_reducible rfl
        rotate_left
        ·simp only [Act.put, List.setIfInBounds_toArray, List.set_cons_zero, List.set_cons_succ, i64_w, i32_w]
         rfl
        refine pure_ (i := 9) (N := some 21) (v := ?_) (a' := ?_) #[true, true, true, true, true, true, true, true, true, true, false, false, false] rfl rfl (any_of HT_.out (by kernel_rfl)) (fun _ _ _ h => h) (Or.inl ⟨by rfl, ?_⟩) ?_ ?_
        rotate_left
        ·intro w'
         go_simp
         with_reducible rfl
        rotate_left
        ·simp only [Act.put, List.setIfInBounds_toArray, List.set_cons_zero, List.set_cons_succ, i64_w, i32_w]
         rfl
        refine one_ (i := 10) (N := some 22) #[true, true, true, true, true, true, true, true, true, true, true, false, false] rfl rfl (one_of HT_.out (by kernel_rfl)) (by decide) (fun K hK => ?_)
        refine value_ (w1 := ?_) (v := ?_) (by rfl) rfl ?_ ?_
        rotate_left 2
        ·go_simp
         constructor
         ·rfl
         ·rfl
        refine hK.out _ _ ⟨(World.cell?_alloc_lt _ _ _ (World.block_lt_of_cell? _ _ (((HB.out.cell (World.block_lt_of_cell? w _ hw127_0)).trans hw127_0)))).trans (((HB.out.cell (World.block_lt_of_cell? w _ hw127_0)).trans hw127_0)), (World.cell?_alloc_lt _ _ _ (World.block_lt_of_cell? _ _ (((HB.out.cell (World.block_lt_of_cell? w _ hw128_0)).trans hw128_0)))).trans (((HB.out.cell (World.block_lt_of_cell? w _ hw128_0)).trans hw128_0))⟩ (fun hHeld => ?_)
        clear hK K
        refine norm_ (a' := ?_) ?_ ?_
        rotate_left
        ·show Act.put _ (some 22) _ = _
         simp only [Act.put, List.setIfInBounds_toArray, List.set_cons_zero, List.set_cons_succ, i64_w, i32_w]
         rfl
        refine one_ (i := 11) (N := some 23) #[true, true, true, true, true, true, true, true, true, true, true, true, false] rfl rfl (one_of HT_.out (by kernel_rfl)) (by decide) (fun K hK => ?_)
        refine Kd.R_append_step k39 (w0 := w) w.heap.size (by rfl) (.tmp 12) (.tmp 22) 32 39 (.agg #[(.int .i64 0), (.int .i64 0)]) 16 rfl Try.underlying32 info39 rfl (by decide) (by omega) u5 x5_1 (⟨rd l0 x9_1, rd l1 x9_1⟩ : S39) [.int .i64 (rd l0 x9_1), .int .i64 (rd l1 x9_1)] (fun _ => True) (fun _ => False) rfl rfl ?aP (fun _ hk => hk.elim) ?aF ?aO ?aB ?aS ?aL ?_
        (case aP => exact k39_mkM _ _ _ (⟨rd l0 x9_1, rd l1 x9_1⟩ : S39))
        (case aB => exact (by repeat (first | (with_reducible first | exact HB.out | apply below_alloc | apply pw_below_drewN | apply below_drew1) | exact HB.out)))
        (case aF => exact (fun _ _ => trivial))
        (case aO => exact (by (with_reducible repeat (first | apply Kd.R_alloc | apply Kd.R_drewN | apply Kd.R_drew)); exact HO_5.out))
        (case aS => exact (below_size (by repeat (first | (with_reducible first | exact HB.out | apply below_alloc | apply pw_below_drewN | apply below_drew1) | exact HB.out))))
        (case aL => have := LMc7.out; omega)
        intro v130 w9 ho hb hg hat
        rw [← Ny129.out] at ho
        have n0_ := Aside0.mk (hb)
        have n1_ := Aside0.mk (ho)
        clear HB
        clear HO_5
        have HB := n0_
        have HO131 := n1_
        clear n0_ n1_
        clear ho hb hg hat
        refine hK.out _ _ ⟨((HB.out.cell (World.block_lt_of_cell? w _ hw127_0)).trans hw127_0), ((HB.out.cell (World.block_lt_of_cell? w _ hw128_0)).trans hw128_0)⟩ (fun hHeld => ?_)
        clear hK K
        refine norm_ (a' := ?_) ?_ ?_
        rotate_left
        ·show Act.put _ (some 23) _ = _
         simp only [Act.put, List.setIfInBounds_toArray, List.set_cons_zero, List.set_cons_succ, i64_w, i32_w]
         rfl
        refine pure_ (i := 12) (N := some 5) (v := ?_) (a' := ?_) #[true, true, true, true, true, true, true, true, true, true, true, true, true] rfl rfl (any_of HT_.out (by kernel_rfl)) (fun _ _ _ h => h) (Or.inl ⟨by rfl, ?_⟩) ?_ ?_
        rotate_left
        ·intro w'
         go_simp
         with_reducible rfl
        rotate_left
        ·simp only [Act.put, List.setIfInBounds_toArray, List.set_cons_zero, List.set_cons_succ, i64_w, i32_w]
         rfl
        refine done_ (done_of HT_.out (by kernel_rfl)) ?_
        try go_wp2
        go_roundg k1
        case measure => have := HK1.out; omega
        case rel => exact ⟨(y129), (wrap64 (x9_1 + 1)), (by first | rfl | (simp; done) | (simp [*]; done)), H', ⟨by have := HK1.out; omega⟩, ⟨by (with_reducible repeat (first | apply Kd.R_alloc | apply Kd.R_drewN | apply Kd.R_drew)); exact HO131.out⟩, ⟨by repeat (first | (with_reducible first | exact HB.out | apply below_alloc | apply pw_below_drewN | apply below_drew1) | exact HB.out)⟩⟩
       ·rw [if_neg c7] at H
        exact absurd H (by simp)
      ·rw [if_neg c6] at H
       exact absurd H (by simp)
     ·rw [if_neg c5] at H
      exact absurd H (by simp)
    ·rw [if_neg c4] at H
     exact absurd H (by simp)
   ·rw [if_neg c3] at H
    have c3b0 : decide (x9_1 < (l0.length : Int)) = false := decide_eq_false c3
    clear c3
    obtain rfl := Option.some.inj H
    go_wp2
    go_ret
    exact ⟨_, by first | rfl | (simp [errW_none, errW_some] <;> rfl) | (simp [*, errW_none, errW_some] <;> rfl), by (with_reducible repeat (first | apply Kd.R_alloc | apply Kd.R_drewN | apply Kd.R_drew)); exact HO_5.out, by repeat (first | (with_reducible first | exact HB.out | apply below_alloc | apply pw_below_drewN | apply below_drew1) | exact HB.out)⟩

/-! ### laws_sameFound: function 50 -/
def laws_sameFound.f (a0_0 : Int) (a0_1 : Bool) (a1_0 : Int) (a1_1 : Bool) : Option (Bool) := if (a0_1 == a1_1) = true then (if a0_1 = true then (some (a0_0 == a1_0)) else (some true)) else (some false)
set_option maxHeartbeats 8000000 in
set_option maxRecDepth 100000 in
theorem laws_sameFound.calls (a0_0 : Int) (a0_1 : Bool) (a1_0 : Int) (a1_1 : Bool) (r : Bool) (w : World) (h : laws_sameFound.f a0_0 a0_1 a1_0 a1_1 = some r) :
  Calls Try.prog 50 #[.agg #[.int .i64 a0_0, .bool a0_1], .agg #[.int .i64 a1_0, .bool a1_1]] w fun e w' => e = .returned (.bool r) ∧ Below w.heap.size w w' := by
 have hu31 := Try.underlying31
 have HB := Aside0.mk (Below.refl w.heap.size w)
 have H : (if (a0_1 == a1_1) = true then (if a0_1 = true then (some (a0_0 == a1_0)) else (some true)) else (some false)) = some r := h
 clear h
 by_cases c3 : (a0_1 == a1_1) = true
 ·rw [if_pos c3] at H
  have c3b0 : (a0_1 == a1_1) = true := c3
  (try (have c3b1 : decide (a0_1 = a1_1) = true := by simpa using c3))
  (try (have c3b2 : (a0_1 == a1_1) = true := by simpa using c3))
  clear c3
  by_cases c4 : a0_1 = true
  ·subst c4
   have H1 : (some (a0_0 == a1_0)) = some r := by rw [if_pos rfl] at H; exact H
   clear H
   have H := H1
   clear H1
   obtain rfl := Option.some.inj H
   go_enter Try.func50, Try.ntmps50
   go_wp2_with (first | ((with_reducible refine gate_dst (N := 2) rfl ?_); refine box_event ?hg (N := 2) ?hd (cs := #[.int .i64 a0_0, .bool true]) (t := 31) ?hr ?_; (case hd => rfl); (case hg => rfl); (case hr => first | (go_simp; done) | (go_simp; rfl)); intro gb132 hg w5 hbox hb; have n0_ := Aside0.mk (below_step (by repeat (first | (with_reducible first | exact HB.out | apply below_alloc | apply pw_below_drewN | apply below_drew1) | exact HB.out)) hb); have n1_ := Aside0.mk (hbox); have n2_ := Aside0.mk ((by rw [hg]; exact (below_size (by repeat (first | (with_reducible first | exact HB.out | apply below_alloc | apply pw_below_drewN | apply below_drew1) | exact HB.out))) : w.heap.size ≤ gb132)); have n3_ := Aside0.mk ((by rw [hg]; exact (below_size (by repeat (first | (with_reducible first | exact HB.out | apply below_alloc | apply pw_below_drewN | apply below_drew1) | exact HB.out))) : w.heap.size ≤ gb132)); clear HB; have HB := n0_; have BK132 := n1_; have GW132 := n2_; have GE132 := n3_; clear n0_ n1_ n2_ n3_; clear hb hbox hg) | ((with_reducible refine gate_dst (N := 3) rfl ?_); refine box_event ?hg (N := 3) ?hd (cs := #[.int .i64 a1_0, .bool a1_1]) (t := 31) ?hr ?_; (case hd => rfl); (case hg => rfl); (case hr => first | (go_simp; done) | (go_simp; rfl)); intro gb133 hg w6 hbox hb; have n0_ := Aside0.mk (blk_below (g := gb132) (o := .cells #[.int .i64 a0_0, .bool true] 31 (0, 0)) (by (with_reducible repeat (first | refine blk_drewN ?_ _ | refine blk_drew ?_ | refine blk_alloc ?_ _)); exact BK132.out) hb); have n1_ := Aside0.mk (below_step (by repeat (first | (with_reducible first | exact HB.out | apply below_alloc | apply pw_below_drewN | apply below_drew1 | refine below_set ?_ GE132.out) | exact HB.out)) hb); have n2_ := Aside0.mk (hbox); have n3_ := Aside0.mk ((by rw [hg]; exact (below_size (by repeat (first | (with_reducible first | exact HB.out | apply below_alloc | apply pw_below_drewN | apply below_drew1 | refine below_set ?_ GE132.out) | exact HB.out))) : w.heap.size ≤ gb133)); have n4_ := Aside0.mk ((by rw [hg]; exact (below_size (by repeat (first | (with_reducible first | exact HB.out | apply below_alloc | apply pw_below_drewN | apply below_drew1 | refine below_set ?_ GE132.out) | exact HB.out))) : w.heap.size ≤ gb133)); have n5_ := Aside0.mk ((by rw [hg]; exact Nat.ne_of_lt (blk_lt (g := gb132) (o := .cells #[.int .i64 a0_0, .bool true] 31 (0, 0)) (by (with_reducible repeat (first | refine blk_drewN ?_ _ | refine blk_drew ?_ | refine blk_alloc ?_ _)); exact BK132.out)) : gb132 ≠ gb133)); have n6_ := Aside0.mk ((by rw [hg]; exact Nat.ne_of_gt (blk_lt (g := gb132) (o := .cells #[.int .i64 a0_0, .bool true] 31 (0, 0)) (by (with_reducible repeat (first | refine blk_drewN ?_ _ | refine blk_drew ?_ | refine blk_alloc ?_ _)); exact BK132.out)) : gb133 ≠ gb132)); clear BK132; clear HB; have BK132 := n0_; have HB := n1_; have BK133 := n2_; have GW133 := n3_; have GE133 := n4_; have NB132_133 := n5_; have NB133_132 := n6_; clear n0_ n1_ n2_ n3_ n4_ n5_ n6_; clear hb hbox hg; have hnb7 := NB132_133.out; have hnc7 := NB133_132.out; have hcz8_0 : w6.cell? ⟨gb132, 0, none⟩ = some (.int .i64 a0_0) := (blk_cell BK132.out 0).trans rfl; have hcz8_1 : w6.cell? ⟨gb132, 1, none⟩ = some (.bool true) := (blk_cell BK132.out 1).trans rfl; have hfz8_0 := blk_frozen BK132.out 0; have hfz8_1 := blk_frozen BK132.out 1; have hcz9_0 : w6.cell? ⟨gb133, 0, none⟩ = some (.int .i64 a1_0) := (blk_cell BK133.out 0).trans rfl; have hcz9_1 : w6.cell? ⟨gb133, 1, none⟩ = some (.bool a1_1) := (blk_cell BK133.out 1).trans rfl; have hfz9_0 := blk_frozen BK133.out 0; have hfz9_1 := blk_frozen BK133.out 1))
   go_ret
   exact ⟨by first | rfl | (simp [errW_none, errW_some] <;> rfl) | (simp [*, errW_none, errW_some] <;> rfl), by repeat (first | (with_reducible first | exact HB.out | apply below_alloc | apply pw_below_drewN | apply below_drew1 | refine below_set ?_ GE132.out | refine below_set ?_ GE133.out) | exact HB.out)⟩
  ·replace c4 := Bool.eq_false_iff.mpr c4
   subst c4
   have H1 : (some true) = some r := by rw [if_neg (show ¬ (false = true) by decide)] at H; exact H
   clear H
   have H := H1
   clear H1
   obtain rfl := Option.some.inj H
   go_enter Try.func50, Try.ntmps50
   go_wp2_with (first | ((with_reducible refine gate_dst (N := 2) rfl ?_); refine box_event ?hg (N := 2) ?hd (cs := #[.int .i64 a0_0, .bool false]) (t := 31) ?hr ?_; (case hd => rfl); (case hg => rfl); (case hr => first | (go_simp; done) | (go_simp; rfl)); intro gb132 hg w10 hbox hb; have n0_ := Aside0.mk (below_step (by repeat (first | (with_reducible first | exact HB.out | apply below_alloc | apply pw_below_drewN | apply below_drew1) | exact HB.out)) hb); have n1_ := Aside0.mk (hbox); have n2_ := Aside0.mk ((by rw [hg]; exact (below_size (by repeat (first | (with_reducible first | exact HB.out | apply below_alloc | apply pw_below_drewN | apply below_drew1) | exact HB.out))) : w.heap.size ≤ gb132)); have n3_ := Aside0.mk ((by rw [hg]; exact (below_size (by repeat (first | (with_reducible first | exact HB.out | apply below_alloc | apply pw_below_drewN | apply below_drew1) | exact HB.out))) : w.heap.size ≤ gb132)); clear HB; have HB := n0_; have BK132 := n1_; have GW132 := n2_; have GE132 := n3_; clear n0_ n1_ n2_ n3_; clear hb hbox hg) | ((with_reducible refine gate_dst (N := 3) rfl ?_); refine box_event ?hg (N := 3) ?hd (cs := #[.int .i64 a1_0, .bool a1_1]) (t := 31) ?hr ?_; (case hd => rfl); (case hg => rfl); (case hr => first | (go_simp; done) | (go_simp; rfl)); intro gb133 hg w11 hbox hb; have n0_ := Aside0.mk (blk_below (g := gb132) (o := .cells #[.int .i64 a0_0, .bool false] 31 (0, 0)) (by (with_reducible repeat (first | refine blk_drewN ?_ _ | refine blk_drew ?_ | refine blk_alloc ?_ _)); exact BK132.out) hb); have n1_ := Aside0.mk (below_step (by repeat (first | (with_reducible first | exact HB.out | apply below_alloc | apply pw_below_drewN | apply below_drew1 | refine below_set ?_ GE132.out) | exact HB.out)) hb); have n2_ := Aside0.mk (hbox); have n3_ := Aside0.mk ((by rw [hg]; exact (below_size (by repeat (first | (with_reducible first | exact HB.out | apply below_alloc | apply pw_below_drewN | apply below_drew1 | refine below_set ?_ GE132.out) | exact HB.out))) : w.heap.size ≤ gb133)); have n4_ := Aside0.mk ((by rw [hg]; exact (below_size (by repeat (first | (with_reducible first | exact HB.out | apply below_alloc | apply pw_below_drewN | apply below_drew1 | refine below_set ?_ GE132.out) | exact HB.out))) : w.heap.size ≤ gb133)); have n5_ := Aside0.mk ((by rw [hg]; exact Nat.ne_of_lt (blk_lt (g := gb132) (o := .cells #[.int .i64 a0_0, .bool false] 31 (0, 0)) (by (with_reducible repeat (first | refine blk_drewN ?_ _ | refine blk_drew ?_ | refine blk_alloc ?_ _)); exact BK132.out)) : gb132 ≠ gb133)); have n6_ := Aside0.mk ((by rw [hg]; exact Nat.ne_of_gt (blk_lt (g := gb132) (o := .cells #[.int .i64 a0_0, .bool false] 31 (0, 0)) (by (with_reducible repeat (first | refine blk_drewN ?_ _ | refine blk_drew ?_ | refine blk_alloc ?_ _)); exact BK132.out)) : gb133 ≠ gb132)); clear BK132; clear HB; have BK132 := n0_; have HB := n1_; have BK133 := n2_; have GW133 := n3_; have GE133 := n4_; have NB132_133 := n5_; have NB133_132 := n6_; clear n0_ n1_ n2_ n3_ n4_ n5_ n6_; clear hb hbox hg; have hnb12 := NB132_133.out; have hnc12 := NB133_132.out; have hcz13_0 : w11.cell? ⟨gb132, 0, none⟩ = some (.int .i64 a0_0) := (blk_cell BK132.out 0).trans rfl; have hcz13_1 : w11.cell? ⟨gb132, 1, none⟩ = some (.bool false) := (blk_cell BK132.out 1).trans rfl; have hfz13_0 := blk_frozen BK132.out 0; have hfz13_1 := blk_frozen BK132.out 1; have hcz14_0 : w11.cell? ⟨gb133, 0, none⟩ = some (.int .i64 a1_0) := (blk_cell BK133.out 0).trans rfl; have hcz14_1 : w11.cell? ⟨gb133, 1, none⟩ = some (.bool a1_1) := (blk_cell BK133.out 1).trans rfl; have hfz14_0 := blk_frozen BK133.out 0; have hfz14_1 := blk_frozen BK133.out 1))
   go_ret
   exact ⟨by first | rfl | (simp [errW_none, errW_some] <;> rfl) | (simp [*, errW_none, errW_some] <;> rfl), by repeat (first | (with_reducible first | exact HB.out | apply below_alloc | apply pw_below_drewN | apply below_drew1 | refine below_set ?_ GE132.out | refine below_set ?_ GE133.out) | exact HB.out)⟩
 ·rw [if_neg c3] at H
  have c3b0 : (a0_1 == a1_1) = false := by simpa using c3
  (try (have c3b1 : decide (a0_1 = a1_1) = false := by simpa using c3))
  (try (have c3b2 : (a0_1 == a1_1) = false := by simpa using c3))
  (try (have c3b3 : ¬ (a0_1 = a1_1) := by simpa using c3))
  clear c3
  obtain rfl := Option.some.inj H
  go_enter Try.func50, Try.ntmps50
  go_wp2_with (first | ((with_reducible refine gate_dst (N := 2) rfl ?_); refine box_event ?hg (N := 2) ?hd (cs := #[.int .i64 a0_0, .bool a0_1]) (t := 31) ?hr ?_; (case hd => rfl); (case hg => rfl); (case hr => first | (go_simp; done) | (go_simp; rfl)); intro gb132 hg w15 hbox hb; have n0_ := Aside0.mk (below_step (by repeat (first | (with_reducible first | exact HB.out | apply below_alloc | apply pw_below_drewN | apply below_drew1) | exact HB.out)) hb); have n1_ := Aside0.mk (hbox); have n2_ := Aside0.mk ((by rw [hg]; exact (below_size (by repeat (first | (with_reducible first | exact HB.out | apply below_alloc | apply pw_below_drewN | apply below_drew1) | exact HB.out))) : w.heap.size ≤ gb132)); have n3_ := Aside0.mk ((by rw [hg]; exact (below_size (by repeat (first | (with_reducible first | exact HB.out | apply below_alloc | apply pw_below_drewN | apply below_drew1) | exact HB.out))) : w.heap.size ≤ gb132)); clear HB; have HB := n0_; have BK132 := n1_; have GW132 := n2_; have GE132 := n3_; clear n0_ n1_ n2_ n3_; clear hb hbox hg) | ((with_reducible refine gate_dst (N := 3) rfl ?_); refine box_event ?hg (N := 3) ?hd (cs := #[.int .i64 a1_0, .bool a1_1]) (t := 31) ?hr ?_; (case hd => rfl); (case hg => rfl); (case hr => first | (go_simp; done) | (go_simp; rfl)); intro gb133 hg w16 hbox hb; have n0_ := Aside0.mk (blk_below (g := gb132) (o := .cells #[.int .i64 a0_0, .bool a0_1] 31 (0, 0)) (by (with_reducible repeat (first | refine blk_drewN ?_ _ | refine blk_drew ?_ | refine blk_alloc ?_ _)); exact BK132.out) hb); have n1_ := Aside0.mk (below_step (by repeat (first | (with_reducible first | exact HB.out | apply below_alloc | apply pw_below_drewN | apply below_drew1 | refine below_set ?_ GE132.out) | exact HB.out)) hb); have n2_ := Aside0.mk (hbox); have n3_ := Aside0.mk ((by rw [hg]; exact (below_size (by repeat (first | (with_reducible first | exact HB.out | apply below_alloc | apply pw_below_drewN | apply below_drew1 | refine below_set ?_ GE132.out) | exact HB.out))) : w.heap.size ≤ gb133)); have n4_ := Aside0.mk ((by rw [hg]; exact (below_size (by repeat (first | (with_reducible first | exact HB.out | apply below_alloc | apply pw_below_drewN | apply below_drew1 | refine below_set ?_ GE132.out) | exact HB.out))) : w.heap.size ≤ gb133)); have n5_ := Aside0.mk ((by rw [hg]; exact Nat.ne_of_lt (blk_lt (g := gb132) (o := .cells #[.int .i64 a0_0, .bool a0_1] 31 (0, 0)) (by (with_reducible repeat (first | refine blk_drewN ?_ _ | refine blk_drew ?_ | refine blk_alloc ?_ _)); exact BK132.out)) : gb132 ≠ gb133)); have n6_ := Aside0.mk ((by rw [hg]; exact Nat.ne_of_gt (blk_lt (g := gb132) (o := .cells #[.int .i64 a0_0, .bool a0_1] 31 (0, 0)) (by (with_reducible repeat (first | refine blk_drewN ?_ _ | refine blk_drew ?_ | refine blk_alloc ?_ _)); exact BK132.out)) : gb133 ≠ gb132)); clear BK132; clear HB; have BK132 := n0_; have HB := n1_; have BK133 := n2_; have GW133 := n3_; have GE133 := n4_; have NB132_133 := n5_; have NB133_132 := n6_; clear n0_ n1_ n2_ n3_ n4_ n5_ n6_; clear hb hbox hg; have hnb17 := NB132_133.out; have hnc17 := NB133_132.out; have hcz18_0 : w16.cell? ⟨gb132, 0, none⟩ = some (.int .i64 a0_0) := (blk_cell BK132.out 0).trans rfl; have hcz18_1 : w16.cell? ⟨gb132, 1, none⟩ = some (.bool a0_1) := (blk_cell BK132.out 1).trans rfl; have hfz18_0 := blk_frozen BK132.out 0; have hfz18_1 := blk_frozen BK132.out 1; have hcz19_0 : w16.cell? ⟨gb133, 0, none⟩ = some (.int .i64 a1_0) := (blk_cell BK133.out 0).trans rfl; have hcz19_1 : w16.cell? ⟨gb133, 1, none⟩ = some (.bool a1_1) := (blk_cell BK133.out 1).trans rfl; have hfz19_0 := blk_frozen BK133.out 0; have hfz19_1 := blk_frozen BK133.out 1))
  go_ret
  exact ⟨by first | rfl | (simp [errW_none, errW_some] <;> rfl) | (simp [*, errW_none, errW_some] <;> rfl), by repeat (first | (with_reducible first | exact HB.out | apply below_alloc | apply pw_below_drewN | apply below_drew1 | refine below_set ?_ GE132.out | refine below_set ?_ GE133.out) | exact HB.out)⟩

/-! ### laws_sameTrie: function 30 -/
def laws_sameTrie.f (k : Nat) (a0_0 : Int) (a0_1 : Bool) (a0_2 : Int) (a0_3 : Bool) (l0_4 : List (S39)) (l0_5 : List (S39)) (a1_0 : Int) (a1_1 : Bool) (a1_2 : Int) (a1_3 : Bool) (l1_4 : List (S39)) (l1_5 : List (S39)) (a2 : Bool) : Option (Bool) := if a2 = true then ((laws_sameFound.f a0_2 a0_3 a1_2 a1_3).bind fun t136 => (if t136 = true then ((impl_Hit.f k l0_4 l1_4).bind fun t137 => (if t137 = true then ((impl_Hit.f k l0_5 l1_5).bind fun t138 => (some t138)) else (some false))) else (some false))) else ((laws_sameFound.f a0_0 a0_1 a1_0 a1_1).bind fun t139 => (if t139 = true then ((laws_sameFound.f a0_2 a0_3 a1_2 a1_3).bind fun t140 => (if t140 = true then ((impl_Hit.f k l0_4 l1_4).bind fun t141 => (if t141 = true then ((impl_Hit.f k l0_5 l1_5).bind fun t142 => (some t142)) else (some false))) else (some false))) else (some false)))
theorem laws_sameTrie.mono : ∀ a0 a1 a2 a3 a4 a5 a6 a7 a8 a9 a10 a11 a12 k, LeO (laws_sameTrie.f k a0 a1 a2 a3 a4 a5 a6 a7 a8 a9 a10 a11 a12) (laws_sameTrie.f (k + 1) a0 a1 a2 a3 a4 a5 a6 a7 a8 a9 a10 a11 a12) := by
 intro a0 a1 a2 a3 a4 a5 a6 a7 a8 a9 a10 a11 a12 k
 unfold laws_sameTrie.f
 repeat' first
   | (with_reducible exact impl_Hit.mono _ _ _)
   | (with_reducible exact LeO.refl _)
   | (with_reducible exact LeO.none _)
   | (with_reducible refine LeO.ite ?_ ?_)
   | (with_reducible refine LeO.bind ?_ (fun _ => ?_))
   | exact impl_Hit.mono _ _ _
   | exact LeO.none _
   | refine LeO.ite ?_ ?_
   | refine LeO.bind ?_ (fun _ => ?_)
set_option maxHeartbeats 8000000 in
set_option maxRecDepth 100000 in
theorem laws_sameTrie.calls (k : Nat) (a0_0 : Int) (a0_1 : Bool) (a0_2 : Int) (a0_3 : Bool) (A0_4 : Option Addr) (c0_4 : Nat) (l0_4 : List (S39)) (A0_5 : Option Addr) (c0_5 : Nat) (l0_5 : List (S39)) (a1_0 : Int) (a1_1 : Bool) (a1_2 : Int) (a1_3 : Bool) (A1_4 : Option Addr) (c1_4 : Nat) (l1_4 : List (S39)) (A1_5 : Option Addr) (c1_5 : Nat) (l1_5 : List (S39)) (a2 : Bool) (r : Bool) (w : World) (hr0_4 : Kd.C k39 w A0_4 l0_4.length l0_4) (hc0_4 : l0_4.length ≤ c0_4) (hr0_5 : Kd.C k39 w A0_5 l0_5.length l0_5) (hc0_5 : l0_5.length ≤ c0_5) (hr1_4 : Kd.C k39 w A1_4 l1_4.length l1_4) (hc1_4 : l1_4.length ≤ c1_4) (hr1_5 : Kd.C k39 w A1_5 l1_5.length l1_5) (hc1_5 : l1_5.length ≤ c1_5) (h : laws_sameTrie.f k a0_0 a0_1 a0_2 a0_3 l0_4 l0_5 a1_0 a1_1 a1_2 a1_3 l1_4 l1_5 a2 = some r) :
  Calls Try.prog 30 #[.agg #[.int .i64 a0_0, .bool a0_1, .int .i64 a0_2, .bool a0_3, .slice A0_4 l0_4.length c0_4, .slice A0_5 l0_5.length c0_5], .agg #[.int .i64 a1_0, .bool a1_1, .int .i64 a1_2, .bool a1_3, .slice A1_4 l1_4.length c1_4, .slice A1_5 l1_5.length c1_5], .bool a2] w fun e w' => e = .returned (.bool r) ∧ Below w.heap.size w w' := by
 have hu34 := Try.underlying34
 have hu31 := Try.underlying31
 have HR0_4 := Aside0.mk hr0_4
 have HC0_4 := Aside0.mk hc0_4
 clear hr0_4 hc0_4
 have HR0_5 := Aside0.mk hr0_5
 have HC0_5 := Aside0.mk hc0_5
 clear hr0_5 hc0_5
 have HR1_4 := Aside0.mk hr1_4
 have HC1_4 := Aside0.mk hc1_4
 clear hr1_4 hc1_4
 have HR1_5 := Aside0.mk hr1_5
 have HC1_5 := Aside0.mk hc1_5
 clear hr1_5 hc1_5
 have HB := Aside0.mk (Below.refl w.heap.size w)
 have H : (if a2 = true then ((laws_sameFound.f a0_2 a0_3 a1_2 a1_3).bind fun t136 => (if t136 = true then ((impl_Hit.f k l0_4 l1_4).bind fun t137 => (if t137 = true then ((impl_Hit.f k l0_5 l1_5).bind fun t138 => (some t138)) else (some false))) else (some false))) else ((laws_sameFound.f a0_0 a0_1 a1_0 a1_1).bind fun t139 => (if t139 = true then ((laws_sameFound.f a0_2 a0_3 a1_2 a1_3).bind fun t140 => (if t140 = true then ((impl_Hit.f k l0_4 l1_4).bind fun t141 => (if t141 = true then ((impl_Hit.f k l0_5 l1_5).bind fun t142 => (some t142)) else (some false))) else (some false))) else (some false)))) = some r := h
 clear h
 by_cases c4 : a2 = true
 ·subst c4
  have H1 : ((laws_sameFound.f a0_2 a0_3 a1_2 a1_3).bind fun t136 => (if t136 = true then ((impl_Hit.f k l0_4 l1_4).bind fun t137 => (if t137 = true then ((impl_Hit.f k l0_5 l1_5).bind fun t138 => (some t138)) else (some false))) else (some false))) = some r := by rw [if_pos rfl] at H; exact H
  clear H
  have H := H1
  clear H1
  replace H := Option.bind_eq_some_iff.mp H
  obtain ⟨t136, A50, H⟩ := H
  replace H : (if t136 = true then ((impl_Hit.f k l0_4 l1_4).bind fun t137 => (if t137 = true then ((impl_Hit.f k l0_5 l1_5).bind fun t138 => (some t138)) else (some false))) else (some false)) = some r := H
  have A5 := Aside0.mk A50
  clear A50
  by_cases c6 : t136 = true
  ·subst c6
   have H1 : ((impl_Hit.f k l0_4 l1_4).bind fun t137 => (if t137 = true then ((impl_Hit.f k l0_5 l1_5).bind fun t138 => (some t138)) else (some false))) = some r := by rw [if_pos rfl] at H; exact H
   clear H
   have H := H1
   clear H1
   replace H := Option.bind_eq_some_iff.mp H
   obtain ⟨t137, A70, H⟩ := H
   replace H : (if t137 = true then ((impl_Hit.f k l0_5 l1_5).bind fun t138 => (some t138)) else (some false)) = some r := H
   have A7 := Aside0.mk A70
   clear A70
   by_cases c8 : t137 = true
   ·subst c8
    have H1 : ((impl_Hit.f k l0_5 l1_5).bind fun t138 => (some t138)) = some r := by rw [if_pos rfl] at H; exact H
    clear H
    have H := H1
    clear H1
    replace H := Option.bind_eq_some_iff.mp H
    obtain ⟨t138, A90, H⟩ := H
    replace H : (some t138) = some r := H
    have A9 := Aside0.mk A90
    clear A90
    obtain rfl := Option.some.inj H
    go_enter Try.func30, Try.ntmps30
    go_wp2_with (first | ((with_reducible refine gate_dst (N := 3) rfl ?_); refine box_event ?hg (N := 3) ?hd (cs := #[.int .i64 a0_0, .bool a0_1, .int .i64 a0_2, .bool a0_3, .slice A0_4 l0_4.length c0_4, .slice A0_5 l0_5.length c0_5]) (t := 34) ?hr ?_; (case hd => rfl); (case hg => rfl); (case hr => first | (go_simp; done) | (go_simp; rfl)); intro gb134 hg w10 hbox hb; have n0_ := Aside0.mk (below_step (by repeat (first | (with_reducible first | exact HB.out | apply below_alloc | apply pw_below_drewN | apply below_drew1) | exact HB.out)) hb); have n1_ := Aside0.mk (hbox); have n2_ := Aside0.mk ((by rw [hg]; exact (below_size (by repeat (first | (with_reducible first | exact HB.out | apply below_alloc | apply pw_below_drewN | apply below_drew1) | exact HB.out))) : w.heap.size ≤ gb134)); have n3_ := Aside0.mk ((by rw [hg]; exact (below_size (by repeat (first | (with_reducible first | exact HB.out | apply below_alloc | apply pw_below_drewN | apply below_drew1) | exact HB.out))) : w.heap.size ≤ gb134)); clear HB; have HB := n0_; have BK134 := n1_; have GW134 := n2_; have GE134 := n3_; clear n0_ n1_ n2_ n3_; clear hb hbox hg) | ((with_reducible refine gate_dst (N := 4) rfl ?_); refine box_event ?hg (N := 4) ?hd (cs := #[.int .i64 a1_0, .bool a1_1, .int .i64 a1_2, .bool a1_3, .slice A1_4 l1_4.length c1_4, .slice A1_5 l1_5.length c1_5]) (t := 34) ?hr ?_; (case hd => rfl); (case hg => rfl); (case hr => first | (go_simp; done) | (go_simp; rfl)); intro gb135 hg w11 hbox hb; have n0_ := Aside0.mk (blk_below (g := gb134) (o := .cells #[.int .i64 a0_0, .bool a0_1, .int .i64 a0_2, .bool a0_3, .slice A0_4 l0_4.length c0_4, .slice A0_5 l0_5.length c0_5] 34 (0, 0)) (by (with_reducible repeat (first | refine blk_drewN ?_ _ | refine blk_drew ?_ | refine blk_alloc ?_ _)); exact BK134.out) hb); have n1_ := Aside0.mk (below_step (by repeat (first | (with_reducible first | exact HB.out | apply below_alloc | apply pw_below_drewN | apply below_drew1 | refine below_set ?_ GE134.out) | exact HB.out)) hb); have n2_ := Aside0.mk (hbox); have n3_ := Aside0.mk ((by rw [hg]; exact (below_size (by repeat (first | (with_reducible first | exact HB.out | apply below_alloc | apply pw_below_drewN | apply below_drew1 | refine below_set ?_ GE134.out) | exact HB.out))) : w.heap.size ≤ gb135)); have n4_ := Aside0.mk ((by rw [hg]; exact (below_size (by repeat (first | (with_reducible first | exact HB.out | apply below_alloc | apply pw_below_drewN | apply below_drew1 | refine below_set ?_ GE134.out) | exact HB.out))) : w.heap.size ≤ gb135)); have n5_ := Aside0.mk ((by rw [hg]; exact Nat.ne_of_lt (blk_lt (g := gb134) (o := .cells #[.int .i64 a0_0, .bool a0_1, .int .i64 a0_2, .bool a0_3, .slice A0_4 l0_4.length c0_4, .slice A0_5 l0_5.length c0_5] 34 (0, 0)) (by (with_reducible repeat (first | refine blk_drewN ?_ _ | refine blk_drew ?_ | refine blk_alloc ?_ _)); exact BK134.out)) : gb134 ≠ gb135)); have n6_ := Aside0.mk ((by rw [hg]; exact Nat.ne_of_gt (blk_lt (g := gb134) (o := .cells #[.int .i64 a0_0, .bool a0_1, .int .i64 a0_2, .bool a0_3, .slice A0_4 l0_4.length c0_4, .slice A0_5 l0_5.length c0_5] 34 (0, 0)) (by (with_reducible repeat (first | refine blk_drewN ?_ _ | refine blk_drew ?_ | refine blk_alloc ?_ _)); exact BK134.out)) : gb135 ≠ gb134)); clear BK134; clear HB; have BK134 := n0_; have HB := n1_; have BK135 := n2_; have GW135 := n3_; have GE135 := n4_; have NB134_135 := n5_; have NB135_134 := n6_; clear n0_ n1_ n2_ n3_ n4_ n5_ n6_; clear hb hbox hg; have hnb12 := NB134_135.out; have hnc12 := NB135_134.out; have hcz13_0 : w11.cell? ⟨gb134, 0, none⟩ = some (.int .i64 a0_0) := (blk_cell BK134.out 0).trans rfl; have hcz13_1 : w11.cell? ⟨gb134, 1, none⟩ = some (.bool a0_1) := (blk_cell BK134.out 1).trans rfl; have hcz13_2 : w11.cell? ⟨gb134, 2, none⟩ = some (.int .i64 a0_2) := (blk_cell BK134.out 2).trans rfl; have hcz13_3 : w11.cell? ⟨gb134, 3, none⟩ = some (.bool a0_3) := (blk_cell BK134.out 3).trans rfl; have hcz13_4 : w11.cell? ⟨gb134, 4, none⟩ = some (.slice A0_4 l0_4.length c0_4) := (blk_cell BK134.out 4).trans rfl; have hcz13_5 : w11.cell? ⟨gb134, 5, none⟩ = some (.slice A0_5 l0_5.length c0_5) := (blk_cell BK134.out 5).trans rfl; have hfz13_0 := blk_frozen BK134.out 0; have hfz13_1 := blk_frozen BK134.out 1; have hfz13_2 := blk_frozen BK134.out 2; have hfz13_3 := blk_frozen BK134.out 3; have hfz13_4 := blk_frozen BK134.out 4; have hfz13_5 := blk_frozen BK134.out 5; have hcz14_0 : w11.cell? ⟨gb135, 0, none⟩ = some (.int .i64 a1_0) := (blk_cell BK135.out 0).trans rfl; have hcz14_1 : w11.cell? ⟨gb135, 1, none⟩ = some (.bool a1_1) := (blk_cell BK135.out 1).trans rfl; have hcz14_2 : w11.cell? ⟨gb135, 2, none⟩ = some (.int .i64 a1_2) := (blk_cell BK135.out 2).trans rfl; have hcz14_3 : w11.cell? ⟨gb135, 3, none⟩ = some (.bool a1_3) := (blk_cell BK135.out 3).trans rfl; have hcz14_4 : w11.cell? ⟨gb135, 4, none⟩ = some (.slice A1_4 l1_4.length c1_4) := (blk_cell BK135.out 4).trans rfl; have hcz14_5 : w11.cell? ⟨gb135, 5, none⟩ = some (.slice A1_5 l1_5.length c1_5) := (blk_cell BK135.out 5).trans rfl; have hfz14_0 := blk_frozen BK135.out 0; have hfz14_1 := blk_frozen BK135.out 1; have hfz14_2 := blk_frozen BK135.out 2; have hfz14_3 := blk_frozen BK135.out 3; have hfz14_4 := blk_frozen BK135.out 4; have hfz14_5 := blk_frozen BK135.out 5) | (go_at_call 50; (with_reducible refine (laws_sameFound.calls a0_2 a0_3 a1_2 a1_3 true _ A5.out).mono ?_); rintro e w15 ⟨rfl, hb⟩; have n0_ := Aside0.mk (blk_below (g := gb134) (o := .cells #[.int .i64 a0_0, .bool a0_1, .int .i64 a0_2, .bool a0_3, .slice A0_4 l0_4.length c0_4, .slice A0_5 l0_5.length c0_5] 34 (0, 0)) (by (with_reducible repeat (first | refine blk_drewN ?_ _ | refine blk_drew ?_ | refine blk_alloc ?_ _)); exact BK134.out) hb); have n1_ := Aside0.mk (blk_below (g := gb135) (o := .cells #[.int .i64 a1_0, .bool a1_1, .int .i64 a1_2, .bool a1_3, .slice A1_4 l1_4.length c1_4, .slice A1_5 l1_5.length c1_5] 34 (0, 0)) (by (with_reducible repeat (first | refine blk_drewN ?_ _ | refine blk_drew ?_ | refine blk_alloc ?_ _)); exact BK135.out) hb); have n2_ := Aside0.mk (below_step (by repeat (first | (with_reducible first | exact HB.out | apply below_alloc | apply pw_below_drewN | apply below_drew1 | refine below_set ?_ GE134.out | refine below_set ?_ GE135.out) | exact HB.out)) hb); clear BK134; clear BK135; clear HB; have BK134 := n0_; have BK135 := n1_; have HB := n2_; clear n0_ n1_ n2_; (try clear hb); (try clear hb2); (try clear hk); (try clear hi); have hcz16_0 : w15.cell? ⟨gb134, 0, none⟩ = some (.int .i64 a0_0) := (blk_cell BK134.out 0).trans rfl; have hcz16_1 : w15.cell? ⟨gb134, 1, none⟩ = some (.bool a0_1) := (blk_cell BK134.out 1).trans rfl; have hcz16_2 : w15.cell? ⟨gb134, 2, none⟩ = some (.int .i64 a0_2) := (blk_cell BK134.out 2).trans rfl; have hcz16_3 : w15.cell? ⟨gb134, 3, none⟩ = some (.bool a0_3) := (blk_cell BK134.out 3).trans rfl; have hcz16_4 : w15.cell? ⟨gb134, 4, none⟩ = some (.slice A0_4 l0_4.length c0_4) := (blk_cell BK134.out 4).trans rfl; have hcz16_5 : w15.cell? ⟨gb134, 5, none⟩ = some (.slice A0_5 l0_5.length c0_5) := (blk_cell BK134.out 5).trans rfl; have hfz16_0 := blk_frozen BK134.out 0; have hfz16_1 := blk_frozen BK134.out 1; have hfz16_2 := blk_frozen BK134.out 2; have hfz16_3 := blk_frozen BK134.out 3; have hfz16_4 := blk_frozen BK134.out 4; have hfz16_5 := blk_frozen BK134.out 5; have hcz17_0 : w15.cell? ⟨gb135, 0, none⟩ = some (.int .i64 a1_0) := (blk_cell BK135.out 0).trans rfl; have hcz17_1 : w15.cell? ⟨gb135, 1, none⟩ = some (.bool a1_1) := (blk_cell BK135.out 1).trans rfl; have hcz17_2 : w15.cell? ⟨gb135, 2, none⟩ = some (.int .i64 a1_2) := (blk_cell BK135.out 2).trans rfl; have hcz17_3 : w15.cell? ⟨gb135, 3, none⟩ = some (.bool a1_3) := (blk_cell BK135.out 3).trans rfl; have hcz17_4 : w15.cell? ⟨gb135, 4, none⟩ = some (.slice A1_4 l1_4.length c1_4) := (blk_cell BK135.out 4).trans rfl; have hcz17_5 : w15.cell? ⟨gb135, 5, none⟩ = some (.slice A1_5 l1_5.length c1_5) := (blk_cell BK135.out 5).trans rfl; have hfz17_0 := blk_frozen BK135.out 0; have hfz17_1 := blk_frozen BK135.out 1; have hfz17_2 := blk_frozen BK135.out 2; have hfz17_3 := blk_frozen BK135.out 3; have hfz17_4 := blk_frozen BK135.out 4; have hfz17_5 := blk_frozen BK135.out 5) | (go_at_call 16; (with_reducible refine (impl_Hit.calls k _ _ l0_4 _ _ l1_4 true _ ?side1 ?side2 ?side3 ?side4 A7.out).mono ?_); (case side1 => repeat (first | exact (Kd.C_below HR0_4.out HB.out) | (with_reducible refine Kd.C_alloc ?_ _) | (with_reducible refine Kd.C_drewN ?_ _) | (with_reducible refine Kd.C_drew ?_))); (case side2 => exact HC0_4.out); (case side3 => repeat (first | exact (Kd.C_below HR1_4.out HB.out) | (with_reducible refine Kd.C_alloc ?_ _) | (with_reducible refine Kd.C_drewN ?_ _) | (with_reducible refine Kd.C_drew ?_))); (case side4 => exact HC1_4.out); rintro e w' ⟨rfl, ⟨nd, rfl⟩⟩) | (go_at_call 16; (with_reducible refine (impl_Hit.calls k _ _ l0_5 _ _ l1_5 t138 _ ?side1 ?side2 ?side3 ?side4 A9.out).mono ?_); (case side1 => repeat (first | exact (Kd.C_below HR0_5.out (by repeat (first | (with_reducible first | exact HB.out | apply below_alloc | apply pw_below_drewN | apply below_drew1 | refine below_set ?_ GE134.out | refine below_set ?_ GE135.out) | exact HB.out))) | (with_reducible refine Kd.C_alloc ?_ _) | (with_reducible refine Kd.C_drewN ?_ _) | (with_reducible refine Kd.C_drew ?_))); (case side2 => exact HC0_5.out); (case side3 => repeat (first | exact (Kd.C_below HR1_5.out (by repeat (first | (with_reducible first | exact HB.out | apply below_alloc | apply pw_below_drewN | apply below_drew1 | refine below_set ?_ GE134.out | refine below_set ?_ GE135.out) | exact HB.out))) | (with_reducible refine Kd.C_alloc ?_ _) | (with_reducible refine Kd.C_drewN ?_ _) | (with_reducible refine Kd.C_drew ?_))); (case side4 => exact HC1_5.out); rintro e w' ⟨rfl, ⟨nd, rfl⟩⟩))
    go_ret
    exact ⟨by first | rfl | (simp [errW_none, errW_some] <;> rfl) | (simp [*, errW_none, errW_some] <;> rfl), by repeat (first | (with_reducible first | exact HB.out | apply below_alloc | apply pw_below_drewN | apply below_drew1 | refine below_set ?_ GE134.out | refine below_set ?_ GE135.out) | exact HB.out)⟩
   ·replace c8 := Bool.eq_false_iff.mpr c8
    subst c8
    have H1 : (some false) = some r := by rw [if_neg (show ¬ (false = true) by decide)] at H; exact H
    clear H
    have H := H1
    clear H1
    obtain rfl := Option.some.inj H
    go_enter Try.func30, Try.ntmps30
    go_wp2_with (first | ((with_reducible refine gate_dst (N := 3) rfl ?_); refine box_event ?hg (N := 3) ?hd (cs := #[.int .i64 a0_0, .bool a0_1, .int .i64 a0_2, .bool a0_3, .slice A0_4 l0_4.length c0_4, .slice A0_5 l0_5.length c0_5]) (t := 34) ?hr ?_; (case hd => rfl); (case hg => rfl); (case hr => first | (go_simp; done) | (go_simp; rfl)); intro gb134 hg w18 hbox hb; have n0_ := Aside0.mk (below_step (by repeat (first | (with_reducible first | exact HB.out | apply below_alloc | apply pw_below_drewN | apply below_drew1) | exact HB.out)) hb); have n1_ := Aside0.mk (hbox); have n2_ := Aside0.mk ((by rw [hg]; exact (below_size (by repeat (first | (with_reducible first | exact HB.out | apply below_alloc | apply pw_below_drewN | apply below_drew1) | exact HB.out))) : w.heap.size ≤ gb134)); have n3_ := Aside0.mk ((by rw [hg]; exact (below_size (by repeat (first | (with_reducible first | exact HB.out | apply below_alloc | apply pw_below_drewN | apply below_drew1) | exact HB.out))) : w.heap.size ≤ gb134)); clear HB; have HB := n0_; have BK134 := n1_; have GW134 := n2_; have GE134 := n3_; clear n0_ n1_ n2_ n3_; clear hb hbox hg) | ((with_reducible refine gate_dst (N := 4) rfl ?_); refine box_event ?hg (N := 4) ?hd (cs := #[.int .i64 a1_0, .bool a1_1, .int .i64 a1_2, .bool a1_3, .slice A1_4 l1_4.length c1_4, .slice A1_5 l1_5.length c1_5]) (t := 34) ?hr ?_; (case hd => rfl); (case hg => rfl); (case hr => first | (go_simp; done) | (go_simp; rfl)); intro gb135 hg w19 hbox hb; have n0_ := Aside0.mk (blk_below (g := gb134) (o := .cells #[.int .i64 a0_0, .bool a0_1, .int .i64 a0_2, .bool a0_3, .slice A0_4 l0_4.length c0_4, .slice A0_5 l0_5.length c0_5] 34 (0, 0)) (by (with_reducible repeat (first | refine blk_drewN ?_ _ | refine blk_drew ?_ | refine blk_alloc ?_ _)); exact BK134.out) hb); have n1_ := Aside0.mk (below_step (by repeat (first | (with_reducible first | exact HB.out | apply below_alloc | apply pw_below_drewN | apply below_drew1 | refine below_set ?_ GE134.out) | exact HB.out)) hb); have n2_ := Aside0.mk (hbox); have n3_ := Aside0.mk ((by rw [hg]; exact (below_size (by repeat (first | (with_reducible first | exact HB.out | apply below_alloc | apply pw_below_drewN | apply below_drew1 | refine below_set ?_ GE134.out) | exact HB.out))) : w.heap.size ≤ gb135)); have n4_ := Aside0.mk ((by rw [hg]; exact (below_size (by repeat (first | (with_reducible first | exact HB.out | apply below_alloc | apply pw_below_drewN | apply below_drew1 | refine below_set ?_ GE134.out) | exact HB.out))) : w.heap.size ≤ gb135)); have n5_ := Aside0.mk ((by rw [hg]; exact Nat.ne_of_lt (blk_lt (g := gb134) (o := .cells #[.int .i64 a0_0, .bool a0_1, .int .i64 a0_2, .bool a0_3, .slice A0_4 l0_4.length c0_4, .slice A0_5 l0_5.length c0_5] 34 (0, 0)) (by (with_reducible repeat (first | refine blk_drewN ?_ _ | refine blk_drew ?_ | refine blk_alloc ?_ _)); exact BK134.out)) : gb134 ≠ gb135)); have n6_ := Aside0.mk ((by rw [hg]; exact Nat.ne_of_gt (blk_lt (g := gb134) (o := .cells #[.int .i64 a0_0, .bool a0_1, .int .i64 a0_2, .bool a0_3, .slice A0_4 l0_4.length c0_4, .slice A0_5 l0_5.length c0_5] 34 (0, 0)) (by (with_reducible repeat (first | refine blk_drewN ?_ _ | refine blk_drew ?_ | refine blk_alloc ?_ _)); exact BK134.out)) : gb135 ≠ gb134)); clear BK134; clear HB; have BK134 := n0_; have HB := n1_; have BK135 := n2_; have GW135 := n3_; have GE135 := n4_; have NB134_135 := n5_; have NB135_134 := n6_; clear n0_ n1_ n2_ n3_ n4_ n5_ n6_; clear hb hbox hg; have hnb20 := NB134_135.out; have hnc20 := NB135_134.out; have hcz21_0 : w19.cell? ⟨gb134, 0, none⟩ = some (.int .i64 a0_0) := (blk_cell BK134.out 0).trans rfl; have hcz21_1 : w19.cell? ⟨gb134, 1, none⟩ = some (.bool a0_1) := (blk_cell BK134.out 1).trans rfl; have hcz21_2 : w19.cell? ⟨gb134, 2, none⟩ = some (.int .i64 a0_2) := (blk_cell BK134.out 2).trans rfl; have hcz21_3 : w19.cell? ⟨gb134, 3, none⟩ = some (.bool a0_3) := (blk_cell BK134.out 3).trans rfl; have hcz21_4 : w19.cell? ⟨gb134, 4, none⟩ = some (.slice A0_4 l0_4.length c0_4) := (blk_cell BK134.out 4).trans rfl; have hcz21_5 : w19.cell? ⟨gb134, 5, none⟩ = some (.slice A0_5 l0_5.length c0_5) := (blk_cell BK134.out 5).trans rfl; have hfz21_0 := blk_frozen BK134.out 0; have hfz21_1 := blk_frozen BK134.out 1; have hfz21_2 := blk_frozen BK134.out 2; have hfz21_3 := blk_frozen BK134.out 3; have hfz21_4 := blk_frozen BK134.out 4; have hfz21_5 := blk_frozen BK134.out 5; have hcz22_0 : w19.cell? ⟨gb135, 0, none⟩ = some (.int .i64 a1_0) := (blk_cell BK135.out 0).trans rfl; have hcz22_1 : w19.cell? ⟨gb135, 1, none⟩ = some (.bool a1_1) := (blk_cell BK135.out 1).trans rfl; have hcz22_2 : w19.cell? ⟨gb135, 2, none⟩ = some (.int .i64 a1_2) := (blk_cell BK135.out 2).trans rfl; have hcz22_3 : w19.cell? ⟨gb135, 3, none⟩ = some (.bool a1_3) := (blk_cell BK135.out 3).trans rfl; have hcz22_4 : w19.cell? ⟨gb135, 4, none⟩ = some (.slice A1_4 l1_4.length c1_4) := (blk_cell BK135.out 4).trans rfl; have hcz22_5 : w19.cell? ⟨gb135, 5, none⟩ = some (.slice A1_5 l1_5.length c1_5) := (blk_cell BK135.out 5).trans rfl; have hfz22_0 := blk_frozen BK135.out 0; have hfz22_1 := blk_frozen BK135.out 1; have hfz22_2 := blk_frozen BK135.out 2; have hfz22_3 := blk_frozen BK135.out 3; have hfz22_4 := blk_frozen BK135.out 4; have hfz22_5 := blk_frozen BK135.out 5) | (go_at_call 50; (with_reducible refine (laws_sameFound.calls a0_2 a0_3 a1_2 a1_3 true _ A5.out).mono ?_); rintro e w23 ⟨rfl, hb⟩; have n0_ := Aside0.mk (blk_below (g := gb134) (o := .cells #[.int .i64 a0_0, .bool a0_1, .int .i64 a0_2, .bool a0_3, .slice A0_4 l0_4.length c0_4, .slice A0_5 l0_5.length c0_5] 34 (0, 0)) (by (with_reducible repeat (first | refine blk_drewN ?_ _ | refine blk_drew ?_ | refine blk_alloc ?_ _)); exact BK134.out) hb); have n1_ := Aside0.mk (blk_below (g := gb135) (o := .cells #[.int .i64 a1_0, .bool a1_1, .int .i64 a1_2, .bool a1_3, .slice A1_4 l1_4.length c1_4, .slice A1_5 l1_5.length c1_5] 34 (0, 0)) (by (with_reducible repeat (first | refine blk_drewN ?_ _ | refine blk_drew ?_ | refine blk_alloc ?_ _)); exact BK135.out) hb); have n2_ := Aside0.mk (below_step (by repeat (first | (with_reducible first | exact HB.out | apply below_alloc | apply pw_below_drewN | apply below_drew1 | refine below_set ?_ GE134.out | refine below_set ?_ GE135.out) | exact HB.out)) hb); clear BK134; clear BK135; clear HB; have BK134 := n0_; have BK135 := n1_; have HB := n2_; clear n0_ n1_ n2_; (try clear hb); (try clear hb2); (try clear hk); (try clear hi); have hcz24_0 : w23.cell? ⟨gb134, 0, none⟩ = some (.int .i64 a0_0) := (blk_cell BK134.out 0).trans rfl; have hcz24_1 : w23.cell? ⟨gb134, 1, none⟩ = some (.bool a0_1) := (blk_cell BK134.out 1).trans rfl; have hcz24_2 : w23.cell? ⟨gb134, 2, none⟩ = some (.int .i64 a0_2) := (blk_cell BK134.out 2).trans rfl; have hcz24_3 : w23.cell? ⟨gb134, 3, none⟩ = some (.bool a0_3) := (blk_cell BK134.out 3).trans rfl; have hcz24_4 : w23.cell? ⟨gb134, 4, none⟩ = some (.slice A0_4 l0_4.length c0_4) := (blk_cell BK134.out 4).trans rfl; have hcz24_5 : w23.cell? ⟨gb134, 5, none⟩ = some (.slice A0_5 l0_5.length c0_5) := (blk_cell BK134.out 5).trans rfl; have hfz24_0 := blk_frozen BK134.out 0; have hfz24_1 := blk_frozen BK134.out 1; have hfz24_2 := blk_frozen BK134.out 2; have hfz24_3 := blk_frozen BK134.out 3; have hfz24_4 := blk_frozen BK134.out 4; have hfz24_5 := blk_frozen BK134.out 5; have hcz25_0 : w23.cell? ⟨gb135, 0, none⟩ = some (.int .i64 a1_0) := (blk_cell BK135.out 0).trans rfl; have hcz25_1 : w23.cell? ⟨gb135, 1, none⟩ = some (.bool a1_1) := (blk_cell BK135.out 1).trans rfl; have hcz25_2 : w23.cell? ⟨gb135, 2, none⟩ = some (.int .i64 a1_2) := (blk_cell BK135.out 2).trans rfl; have hcz25_3 : w23.cell? ⟨gb135, 3, none⟩ = some (.bool a1_3) := (blk_cell BK135.out 3).trans rfl; have hcz25_4 : w23.cell? ⟨gb135, 4, none⟩ = some (.slice A1_4 l1_4.length c1_4) := (blk_cell BK135.out 4).trans rfl; have hcz25_5 : w23.cell? ⟨gb135, 5, none⟩ = some (.slice A1_5 l1_5.length c1_5) := (blk_cell BK135.out 5).trans rfl; have hfz25_0 := blk_frozen BK135.out 0; have hfz25_1 := blk_frozen BK135.out 1; have hfz25_2 := blk_frozen BK135.out 2; have hfz25_3 := blk_frozen BK135.out 3; have hfz25_4 := blk_frozen BK135.out 4; have hfz25_5 := blk_frozen BK135.out 5) | (go_at_call 16; (with_reducible refine (impl_Hit.calls k _ _ l0_4 _ _ l1_4 false _ ?side1 ?side2 ?side3 ?side4 A7.out).mono ?_); (case side1 => repeat (first | exact (Kd.C_below HR0_4.out HB.out) | (with_reducible refine Kd.C_alloc ?_ _) | (with_reducible refine Kd.C_drewN ?_ _) | (with_reducible refine Kd.C_drew ?_))); (case side2 => exact HC0_4.out); (case side3 => repeat (first | exact (Kd.C_below HR1_4.out HB.out) | (with_reducible refine Kd.C_alloc ?_ _) | (with_reducible refine Kd.C_drewN ?_ _) | (with_reducible refine Kd.C_drew ?_))); (case side4 => exact HC1_4.out); rintro e w' ⟨rfl, ⟨nd, rfl⟩⟩))
    go_ret
    exact ⟨by first | rfl | (simp [errW_none, errW_some] <;> rfl) | (simp [*, errW_none, errW_some] <;> rfl), by repeat (first | (with_reducible first | exact HB.out | apply below_alloc | apply pw_below_drewN | apply below_drew1 | refine below_set ?_ GE134.out | refine below_set ?_ GE135.out) | exact HB.out)⟩
  ·replace c6 := Bool.eq_false_iff.mpr c6
   subst c6
   have H1 : (some false) = some r := by rw [if_neg (show ¬ (false = true) by decide)] at H; exact H
   clear H
   have H := H1
   clear H1
   obtain rfl := Option.some.inj H
   go_enter Try.func30, Try.ntmps30
   go_wp2_with (first | ((with_reducible refine gate_dst (N := 3) rfl ?_); refine box_event ?hg (N := 3) ?hd (cs := #[.int .i64 a0_0, .bool a0_1, .int .i64 a0_2, .bool a0_3, .slice A0_4 l0_4.length c0_4, .slice A0_5 l0_5.length c0_5]) (t := 34) ?hr ?_; (case hd => rfl); (case hg => rfl); (case hr => first | (go_simp; done) | (go_simp; rfl)); intro gb134 hg w26 hbox hb; have n0_ := Aside0.mk (below_step (by repeat (first | (with_reducible first | exact HB.out | apply below_alloc | apply pw_below_drewN | apply below_drew1) | exact HB.out)) hb); have n1_ := Aside0.mk (hbox); have n2_ := Aside0.mk ((by rw [hg]; exact (below_size (by repeat (first | (with_reducible first | exact HB.out | apply below_alloc | apply pw_below_drewN | apply below_drew1) | exact HB.out))) : w.heap.size ≤ gb134)); have n3_ := Aside0.mk ((by rw [hg]; exact (below_size (by repeat (first | (with_reducible first | exact HB.out | apply below_alloc | apply pw_below_drewN | apply below_drew1) | exact HB.out))) : w.heap.size ≤ gb134)); clear HB; have HB := n0_; have BK134 := n1_; have GW134 := n2_; have GE134 := n3_; clear n0_ n1_ n2_ n3_; clear hb hbox hg) | ((with_reducible refine gate_dst (N := 4) rfl ?_); refine box_event ?hg (N := 4) ?hd (cs := #[.int .i64 a1_0, .bool a1_1, .int .i64 a1_2, .bool a1_3, .slice A1_4 l1_4.length c1_4, .slice A1_5 l1_5.length c1_5]) (t := 34) ?hr ?_; (case hd => rfl); (case hg => rfl); (case hr => first | (go_simp; done) | (go_simp; rfl)); intro gb135 hg w27 hbox hb; have n0_ := Aside0.mk (blk_below (g := gb134) (o := .cells #[.int .i64 a0_0, .bool a0_1, .int .i64 a0_2, .bool a0_3, .slice A0_4 l0_4.length c0_4, .slice A0_5 l0_5.length c0_5] 34 (0, 0)) (by (with_reducible repeat (first | refine blk_drewN ?_ _ | refine blk_drew ?_ | refine blk_alloc ?_ _)); exact BK134.out) hb); have n1_ := Aside0.mk (below_step (by repeat (first | (with_reducible first | exact HB.out | apply below_alloc | apply pw_below_drewN | apply below_drew1 | refine below_set ?_ GE134.out) | exact HB.out)) hb); have n2_ := Aside0.mk (hbox); have n3_ := Aside0.mk ((by rw [hg]; exact (below_size (by repeat (first | (with_reducible first | exact HB.out | apply below_alloc | apply pw_below_drewN | apply below_drew1 | refine below_set ?_ GE134.out) | exact HB.out))) : w.heap.size ≤ gb135)); have n4_ := Aside0.mk ((by rw [hg]; exact (below_size (by repeat (first | (with_reducible first | exact HB.out | apply below_alloc | apply pw_below_drewN | apply below_drew1 | refine below_set ?_ GE134.out) | exact HB.out))) : w.heap.size ≤ gb135)); have n5_ := Aside0.mk ((by rw [hg]; exact Nat.ne_of_lt (blk_lt (g := gb134) (o := .cells #[.int .i64 a0_0, .bool a0_1, .int .i64 a0_2, .bool a0_3, .slice A0_4 l0_4.length c0_4, .slice A0_5 l0_5.length c0_5] 34 (0, 0)) (by (with_reducible repeat (first | refine blk_drewN ?_ _ | refine blk_drew ?_ | refine blk_alloc ?_ _)); exact BK134.out)) : gb134 ≠ gb135)); have n6_ := Aside0.mk ((by rw [hg]; exact Nat.ne_of_gt (blk_lt (g := gb134) (o := .cells #[.int .i64 a0_0, .bool a0_1, .int .i64 a0_2, .bool a0_3, .slice A0_4 l0_4.length c0_4, .slice A0_5 l0_5.length c0_5] 34 (0, 0)) (by (with_reducible repeat (first | refine blk_drewN ?_ _ | refine blk_drew ?_ | refine blk_alloc ?_ _)); exact BK134.out)) : gb135 ≠ gb134)); clear BK134; clear HB; have BK134 := n0_; have HB := n1_; have BK135 := n2_; have GW135 := n3_; have GE135 := n4_; have NB134_135 := n5_; have NB135_134 := n6_; clear n0_ n1_ n2_ n3_ n4_ n5_ n6_; clear hb hbox hg; have hnb28 := NB134_135.out; have hnc28 := NB135_134.out; have hcz29_0 : w27.cell? ⟨gb134, 0, none⟩ = some (.int .i64 a0_0) := (blk_cell BK134.out 0).trans rfl; have hcz29_1 : w27.cell? ⟨gb134, 1, none⟩ = some (.bool a0_1) := (blk_cell BK134.out 1).trans rfl; have hcz29_2 : w27.cell? ⟨gb134, 2, none⟩ = some (.int .i64 a0_2) := (blk_cell BK134.out 2).trans rfl; have hcz29_3 : w27.cell? ⟨gb134, 3, none⟩ = some (.bool a0_3) := (blk_cell BK134.out 3).trans rfl; have hcz29_4 : w27.cell? ⟨gb134, 4, none⟩ = some (.slice A0_4 l0_4.length c0_4) := (blk_cell BK134.out 4).trans rfl; have hcz29_5 : w27.cell? ⟨gb134, 5, none⟩ = some (.slice A0_5 l0_5.length c0_5) := (blk_cell BK134.out 5).trans rfl; have hfz29_0 := blk_frozen BK134.out 0; have hfz29_1 := blk_frozen BK134.out 1; have hfz29_2 := blk_frozen BK134.out 2; have hfz29_3 := blk_frozen BK134.out 3; have hfz29_4 := blk_frozen BK134.out 4; have hfz29_5 := blk_frozen BK134.out 5; have hcz30_0 : w27.cell? ⟨gb135, 0, none⟩ = some (.int .i64 a1_0) := (blk_cell BK135.out 0).trans rfl; have hcz30_1 : w27.cell? ⟨gb135, 1, none⟩ = some (.bool a1_1) := (blk_cell BK135.out 1).trans rfl; have hcz30_2 : w27.cell? ⟨gb135, 2, none⟩ = some (.int .i64 a1_2) := (blk_cell BK135.out 2).trans rfl; have hcz30_3 : w27.cell? ⟨gb135, 3, none⟩ = some (.bool a1_3) := (blk_cell BK135.out 3).trans rfl; have hcz30_4 : w27.cell? ⟨gb135, 4, none⟩ = some (.slice A1_4 l1_4.length c1_4) := (blk_cell BK135.out 4).trans rfl; have hcz30_5 : w27.cell? ⟨gb135, 5, none⟩ = some (.slice A1_5 l1_5.length c1_5) := (blk_cell BK135.out 5).trans rfl; have hfz30_0 := blk_frozen BK135.out 0; have hfz30_1 := blk_frozen BK135.out 1; have hfz30_2 := blk_frozen BK135.out 2; have hfz30_3 := blk_frozen BK135.out 3; have hfz30_4 := blk_frozen BK135.out 4; have hfz30_5 := blk_frozen BK135.out 5) | (go_at_call 50; (with_reducible refine (laws_sameFound.calls a0_2 a0_3 a1_2 a1_3 false _ A5.out).mono ?_); rintro e w31 ⟨rfl, hb⟩; have n0_ := Aside0.mk (blk_below (g := gb134) (o := .cells #[.int .i64 a0_0, .bool a0_1, .int .i64 a0_2, .bool a0_3, .slice A0_4 l0_4.length c0_4, .slice A0_5 l0_5.length c0_5] 34 (0, 0)) (by (with_reducible repeat (first | refine blk_drewN ?_ _ | refine blk_drew ?_ | refine blk_alloc ?_ _)); exact BK134.out) hb); have n1_ := Aside0.mk (blk_below (g := gb135) (o := .cells #[.int .i64 a1_0, .bool a1_1, .int .i64 a1_2, .bool a1_3, .slice A1_4 l1_4.length c1_4, .slice A1_5 l1_5.length c1_5] 34 (0, 0)) (by (with_reducible repeat (first | refine blk_drewN ?_ _ | refine blk_drew ?_ | refine blk_alloc ?_ _)); exact BK135.out) hb); have n2_ := Aside0.mk (below_step (by repeat (first | (with_reducible first | exact HB.out | apply below_alloc | apply pw_below_drewN | apply below_drew1 | refine below_set ?_ GE134.out | refine below_set ?_ GE135.out) | exact HB.out)) hb); clear BK134; clear BK135; clear HB; have BK134 := n0_; have BK135 := n1_; have HB := n2_; clear n0_ n1_ n2_; (try clear hb); (try clear hb2); (try clear hk); (try clear hi)))
   go_ret
   exact ⟨by first | rfl | (simp [errW_none, errW_some] <;> rfl) | (simp [*, errW_none, errW_some] <;> rfl), by repeat (first | (with_reducible first | exact HB.out | apply below_alloc | apply pw_below_drewN | apply below_drew1 | refine below_set ?_ GE134.out | refine below_set ?_ GE135.out) | exact HB.out)⟩
 ·replace c4 := Bool.eq_false_iff.mpr c4
  subst c4
  have H1 : ((laws_sameFound.f a0_0 a0_1 a1_0 a1_1).bind fun t139 => (if t139 = true then ((laws_sameFound.f a0_2 a0_3 a1_2 a1_3).bind fun t140 => (if t140 = true then ((impl_Hit.f k l0_4 l1_4).bind fun t141 => (if t141 = true then ((impl_Hit.f k l0_5 l1_5).bind fun t142 => (some t142)) else (some false))) else (some false))) else (some false))) = some r := by rw [if_neg (show ¬ (false = true) by decide)] at H; exact H
  clear H
  have H := H1
  clear H1
  replace H := Option.bind_eq_some_iff.mp H
  obtain ⟨t139, A320, H⟩ := H
  replace H : (if t139 = true then ((laws_sameFound.f a0_2 a0_3 a1_2 a1_3).bind fun t140 => (if t140 = true then ((impl_Hit.f k l0_4 l1_4).bind fun t141 => (if t141 = true then ((impl_Hit.f k l0_5 l1_5).bind fun t142 => (some t142)) else (some false))) else (some false))) else (some false)) = some r := H
  have A32 := Aside0.mk A320
  clear A320
  by_cases c33 : t139 = true
  ·subst c33
   have H1 : ((laws_sameFound.f a0_2 a0_3 a1_2 a1_3).bind fun t140 => (if t140 = true then ((impl_Hit.f k l0_4 l1_4).bind fun t141 => (if t141 = true then ((impl_Hit.f k l0_5 l1_5).bind fun t142 => (some t142)) else (some false))) else (some false))) = some r := by rw [if_pos rfl] at H; exact H
   clear H
   have H := H1
   clear H1
   replace H := Option.bind_eq_some_iff.mp H
   obtain ⟨t140, A340, H⟩ := H
   replace H : (if t140 = true then ((impl_Hit.f k l0_4 l1_4).bind fun t141 => (if t141 = true then ((impl_Hit.f k l0_5 l1_5).bind fun t142 => (some t142)) else (some false))) else (some false)) = some r := H
   have A34 := Aside0.mk A340
   clear A340
   by_cases c35 : t140 = true
   ·subst c35
    have H1 : ((impl_Hit.f k l0_4 l1_4).bind fun t141 => (if t141 = true then ((impl_Hit.f k l0_5 l1_5).bind fun t142 => (some t142)) else (some false))) = some r := by rw [if_pos rfl] at H; exact H
    clear H
    have H := H1
    clear H1
    replace H := Option.bind_eq_some_iff.mp H
    obtain ⟨t141, A360, H⟩ := H
    replace H : (if t141 = true then ((impl_Hit.f k l0_5 l1_5).bind fun t142 => (some t142)) else (some false)) = some r := H
    have A36 := Aside0.mk A360
    clear A360
    by_cases c37 : t141 = true
    ·subst c37
     have H1 : ((impl_Hit.f k l0_5 l1_5).bind fun t142 => (some t142)) = some r := by rw [if_pos rfl] at H; exact H
     clear H
     have H := H1
     clear H1
     replace H := Option.bind_eq_some_iff.mp H
     obtain ⟨t142, A380, H⟩ := H
     replace H : (some t142) = some r := H
     have A38 := Aside0.mk A380
     clear A380
     obtain rfl := Option.some.inj H
     go_enter Try.func30, Try.ntmps30
     go_wp2_with (first | ((with_reducible refine gate_dst (N := 3) rfl ?_); refine box_event ?hg (N := 3) ?hd (cs := #[.int .i64 a0_0, .bool a0_1, .int .i64 a0_2, .bool a0_3, .slice A0_4 l0_4.length c0_4, .slice A0_5 l0_5.length c0_5]) (t := 34) ?hr ?_; (case hd => rfl); (case hg => rfl); (case hr => first | (go_simp; done) | (go_simp; rfl)); intro gb134 hg w39 hbox hb; have n0_ := Aside0.mk (below_step (by repeat (first | (with_reducible first | exact HB.out | apply below_alloc | apply pw_below_drewN | apply below_drew1) | exact HB.out)) hb); have n1_ := Aside0.mk (hbox); have n2_ := Aside0.mk ((by rw [hg]; exact (below_size (by repeat (first | (with_reducible first | exact HB.out | apply below_alloc | apply pw_below_drewN | apply below_drew1) | exact HB.out))) : w.heap.size ≤ gb134)); have n3_ := Aside0.mk ((by rw [hg]; exact (below_size (by repeat (first | (with_reducible first | exact HB.out | apply below_alloc | apply pw_below_drewN | apply below_drew1) | exact HB.out))) : w.heap.size ≤ gb134)); clear HB; have HB := n0_; have BK134 := n1_; have GW134 := n2_; have GE134 := n3_; clear n0_ n1_ n2_ n3_; clear hb hbox hg) | ((with_reducible refine gate_dst (N := 4) rfl ?_); refine box_event ?hg (N := 4) ?hd (cs := #[.int .i64 a1_0, .bool a1_1, .int .i64 a1_2, .bool a1_3, .slice A1_4 l1_4.length c1_4, .slice A1_5 l1_5.length c1_5]) (t := 34) ?hr ?_; (case hd => rfl); (case hg => rfl); (case hr => first | (go_simp; done) | (go_simp; rfl)); intro gb135 hg w40 hbox hb; have n0_ := Aside0.mk (blk_below (g := gb134) (o := .cells #[.int .i64 a0_0, .bool a0_1, .int .i64 a0_2, .bool a0_3, .slice A0_4 l0_4.length c0_4, .slice A0_5 l0_5.length c0_5] 34 (0, 0)) (by (with_reducible repeat (first | refine blk_drewN ?_ _ | refine blk_drew ?_ | refine blk_alloc ?_ _)); exact BK134.out) hb); have n1_ := Aside0.mk (below_step (by repeat (first | (with_reducible first | exact HB.out | apply below_alloc | apply pw_below_drewN | apply below_drew1 | refine below_set ?_ GE134.out) | exact HB.out)) hb); have n2_ := Aside0.mk (hbox); have n3_ := Aside0.mk ((by rw [hg]; exact (below_size (by repeat (first | (with_reducible first | exact HB.out | apply below_alloc | apply pw_below_drewN | apply below_drew1 | refine below_set ?_ GE134.out) | exact HB.out))) : w.heap.size ≤ gb135)); have n4_ := Aside0.mk ((by rw [hg]; exact (below_size (by repeat (first | (with_reducible first | exact HB.out | apply below_alloc | apply pw_below_drewN | apply below_drew1 | refine below_set ?_ GE134.out) | exact HB.out))) : w.heap.size ≤ gb135)); have n5_ := Aside0.mk ((by rw [hg]; exact Nat.ne_of_lt (blk_lt (g := gb134) (o := .cells #[.int .i64 a0_0, .bool a0_1, .int .i64 a0_2, .bool a0_3, .slice A0_4 l0_4.length c0_4, .slice A0_5 l0_5.length c0_5] 34 (0, 0)) (by (with_reducible repeat (first | refine blk_drewN ?_ _ | refine blk_drew ?_ | refine blk_alloc ?_ _)); exact BK134.out)) : gb134 ≠ gb135)); have n6_ := Aside0.mk ((by rw [hg]; exact Nat.ne_of_gt (blk_lt (g := gb134) (o := .cells #[.int .i64 a0_0, .bool a0_1, .int .i64 a0_2, .bool a0_3, .slice A0_4 l0_4.length c0_4, .slice A0_5 l0_5.length c0_5] 34 (0, 0)) (by (with_reducible repeat (first | refine blk_drewN ?_ _ | refine blk_drew ?_ | refine blk_alloc ?_ _)); exact BK134.out)) : gb135 ≠ gb134)); clear BK134; clear HB; have BK134 := n0_; have HB := n1_; have BK135 := n2_; have GW135 := n3_; have GE135 := n4_; have NB134_135 := n5_; have NB135_134 := n6_; clear n0_ n1_ n2_ n3_ n4_ n5_ n6_; clear hb hbox hg; have hnb41 := NB134_135.out; have hnc41 := NB135_134.out; have hcz42_0 : w40.cell? ⟨gb134, 0, none⟩ = some (.int .i64 a0_0) := (blk_cell BK134.out 0).trans rfl; have hcz42_1 : w40.cell? ⟨gb134, 1, none⟩ = some (.bool a0_1) := (blk_cell BK134.out 1).trans rfl; have hcz42_2 : w40.cell? ⟨gb134, 2, none⟩ = some (.int .i64 a0_2) := (blk_cell BK134.out 2).trans rfl; have hcz42_3 : w40.cell? ⟨gb134, 3, none⟩ = some (.bool a0_3) := (blk_cell BK134.out 3).trans rfl; have hcz42_4 : w40.cell? ⟨gb134, 4, none⟩ = some (.slice A0_4 l0_4.length c0_4) := (blk_cell BK134.out 4).trans rfl; have hcz42_5 : w40.cell? ⟨gb134, 5, none⟩ = some (.slice A0_5 l0_5.length c0_5) := (blk_cell BK134.out 5).trans rfl; have hfz42_0 := blk_frozen BK134.out 0; have hfz42_1 := blk_frozen BK134.out 1; have hfz42_2 := blk_frozen BK134.out 2; have hfz42_3 := blk_frozen BK134.out 3; have hfz42_4 := blk_frozen BK134.out 4; have hfz42_5 := blk_frozen BK134.out 5; have hcz43_0 : w40.cell? ⟨gb135, 0, none⟩ = some (.int .i64 a1_0) := (blk_cell BK135.out 0).trans rfl; have hcz43_1 : w40.cell? ⟨gb135, 1, none⟩ = some (.bool a1_1) := (blk_cell BK135.out 1).trans rfl; have hcz43_2 : w40.cell? ⟨gb135, 2, none⟩ = some (.int .i64 a1_2) := (blk_cell BK135.out 2).trans rfl; have hcz43_3 : w40.cell? ⟨gb135, 3, none⟩ = some (.bool a1_3) := (blk_cell BK135.out 3).trans rfl; have hcz43_4 : w40.cell? ⟨gb135, 4, none⟩ = some (.slice A1_4 l1_4.length c1_4) := (blk_cell BK135.out 4).trans rfl; have hcz43_5 : w40.cell? ⟨gb135, 5, none⟩ = some (.slice A1_5 l1_5.length c1_5) := (blk_cell BK135.out 5).trans rfl; have hfz43_0 := blk_frozen BK135.out 0; have hfz43_1 := blk_frozen BK135.out 1; have hfz43_2 := blk_frozen BK135.out 2; have hfz43_3 := blk_frozen BK135.out 3; have hfz43_4 := blk_frozen BK135.out 4; have hfz43_5 := blk_frozen BK135.out 5) | (go_at_call 50; (with_reducible refine (laws_sameFound.calls a0_0 a0_1 a1_0 a1_1 true _ A32.out).mono ?_); rintro e w44 ⟨rfl, hb⟩; have n0_ := Aside0.mk (blk_below (g := gb134) (o := .cells #[.int .i64 a0_0, .bool a0_1, .int .i64 a0_2, .bool a0_3, .slice A0_4 l0_4.length c0_4, .slice A0_5 l0_5.length c0_5] 34 (0, 0)) (by (with_reducible repeat (first | refine blk_drewN ?_ _ | refine blk_drew ?_ | refine blk_alloc ?_ _)); exact BK134.out) hb); have n1_ := Aside0.mk (blk_below (g := gb135) (o := .cells #[.int .i64 a1_0, .bool a1_1, .int .i64 a1_2, .bool a1_3, .slice A1_4 l1_4.length c1_4, .slice A1_5 l1_5.length c1_5] 34 (0, 0)) (by (with_reducible repeat (first | refine blk_drewN ?_ _ | refine blk_drew ?_ | refine blk_alloc ?_ _)); exact BK135.out) hb); have n2_ := Aside0.mk (below_step (by repeat (first | (with_reducible first | exact HB.out | apply below_alloc | apply pw_below_drewN | apply below_drew1 | refine below_set ?_ GE134.out | refine below_set ?_ GE135.out) | exact HB.out)) hb); clear BK134; clear BK135; clear HB; have BK134 := n0_; have BK135 := n1_; have HB := n2_; clear n0_ n1_ n2_; (try clear hb); (try clear hb2); (try clear hk); (try clear hi); have hcz45_0 : w44.cell? ⟨gb134, 0, none⟩ = some (.int .i64 a0_0) := (blk_cell BK134.out 0).trans rfl; have hcz45_1 : w44.cell? ⟨gb134, 1, none⟩ = some (.bool a0_1) := (blk_cell BK134.out 1).trans rfl; have hcz45_2 : w44.cell? ⟨gb134, 2, none⟩ = some (.int .i64 a0_2) := (blk_cell BK134.out 2).trans rfl; have hcz45_3 : w44.cell? ⟨gb134, 3, none⟩ = some (.bool a0_3) := (blk_cell BK134.out 3).trans rfl; have hcz45_4 : w44.cell? ⟨gb134, 4, none⟩ = some (.slice A0_4 l0_4.length c0_4) := (blk_cell BK134.out 4).trans rfl; have hcz45_5 : w44.cell? ⟨gb134, 5, none⟩ = some (.slice A0_5 l0_5.length c0_5) := (blk_cell BK134.out 5).trans rfl; have hfz45_0 := blk_frozen BK134.out 0; have hfz45_1 := blk_frozen BK134.out 1; have hfz45_2 := blk_frozen BK134.out 2; have hfz45_3 := blk_frozen BK134.out 3; have hfz45_4 := blk_frozen BK134.out 4; have hfz45_5 := blk_frozen BK134.out 5; have hcz46_0 : w44.cell? ⟨gb135, 0, none⟩ = some (.int .i64 a1_0) := (blk_cell BK135.out 0).trans rfl; have hcz46_1 : w44.cell? ⟨gb135, 1, none⟩ = some (.bool a1_1) := (blk_cell BK135.out 1).trans rfl; have hcz46_2 : w44.cell? ⟨gb135, 2, none⟩ = some (.int .i64 a1_2) := (blk_cell BK135.out 2).trans rfl; have hcz46_3 : w44.cell? ⟨gb135, 3, none⟩ = some (.bool a1_3) := (blk_cell BK135.out 3).trans rfl; have hcz46_4 : w44.cell? ⟨gb135, 4, none⟩ = some (.slice A1_4 l1_4.length c1_4) := (blk_cell BK135.out 4).trans rfl; have hcz46_5 : w44.cell? ⟨gb135, 5, none⟩ = some (.slice A1_5 l1_5.length c1_5) := (blk_cell BK135.out 5).trans rfl; have hfz46_0 := blk_frozen BK135.out 0; have hfz46_1 := blk_frozen BK135.out 1; have hfz46_2 := blk_frozen BK135.out 2; have hfz46_3 := blk_frozen BK135.out 3; have hfz46_4 := blk_frozen BK135.out 4; have hfz46_5 := blk_frozen BK135.out 5) | (go_at_call 50; (with_reducible refine (laws_sameFound.calls a0_2 a0_3 a1_2 a1_3 true _ A34.out).mono ?_); rintro e w47 ⟨rfl, hb⟩; have n0_ := Aside0.mk (blk_below (g := gb134) (o := .cells #[.int .i64 a0_0, .bool a0_1, .int .i64 a0_2, .bool a0_3, .slice A0_4 l0_4.length c0_4, .slice A0_5 l0_5.length c0_5] 34 (0, 0)) (by (with_reducible repeat (first | refine blk_drewN ?_ _ | refine blk_drew ?_ | refine blk_alloc ?_ _)); exact BK134.out) hb); have n1_ := Aside0.mk (blk_below (g := gb135) (o := .cells #[.int .i64 a1_0, .bool a1_1, .int .i64 a1_2, .bool a1_3, .slice A1_4 l1_4.length c1_4, .slice A1_5 l1_5.length c1_5] 34 (0, 0)) (by (with_reducible repeat (first | refine blk_drewN ?_ _ | refine blk_drew ?_ | refine blk_alloc ?_ _)); exact BK135.out) hb); have n2_ := Aside0.mk (below_step (by repeat (first | (with_reducible first | exact HB.out | apply below_alloc | apply pw_below_drewN | apply below_drew1 | refine below_set ?_ GE134.out | refine below_set ?_ GE135.out) | exact HB.out)) hb); clear BK134; clear BK135; clear HB; have BK134 := n0_; have BK135 := n1_; have HB := n2_; clear n0_ n1_ n2_; (try clear hb); (try clear hb2); (try clear hk); (try clear hi); have hcz48_0 : w47.cell? ⟨gb134, 0, none⟩ = some (.int .i64 a0_0) := (blk_cell BK134.out 0).trans rfl; have hcz48_1 : w47.cell? ⟨gb134, 1, none⟩ = some (.bool a0_1) := (blk_cell BK134.out 1).trans rfl; have hcz48_2 : w47.cell? ⟨gb134, 2, none⟩ = some (.int .i64 a0_2) := (blk_cell BK134.out 2).trans rfl; have hcz48_3 : w47.cell? ⟨gb134, 3, none⟩ = some (.bool a0_3) := (blk_cell BK134.out 3).trans rfl; have hcz48_4 : w47.cell? ⟨gb134, 4, none⟩ = some (.slice A0_4 l0_4.length c0_4) := (blk_cell BK134.out 4).trans rfl; have hcz48_5 : w47.cell? ⟨gb134, 5, none⟩ = some (.slice A0_5 l0_5.length c0_5) := (blk_cell BK134.out 5).trans rfl; have hfz48_0 := blk_frozen BK134.out 0; have hfz48_1 := blk_frozen BK134.out 1; have hfz48_2 := blk_frozen BK134.out 2; have hfz48_3 := blk_frozen BK134.out 3; have hfz48_4 := blk_frozen BK134.out 4; have hfz48_5 := blk_frozen BK134.out 5; have hcz49_0 : w47.cell? ⟨gb135, 0, none⟩ = some (.int .i64 a1_0) := (blk_cell BK135.out 0).trans rfl; have hcz49_1 : w47.cell? ⟨gb135, 1, none⟩ = some (.bool a1_1) := (blk_cell BK135.out 1).trans rfl; have hcz49_2 : w47.cell? ⟨gb135, 2, none⟩ = some (.int .i64 a1_2) := (blk_cell BK135.out 2).trans rfl; have hcz49_3 : w47.cell? ⟨gb135, 3, none⟩ = some (.bool a1_3) := (blk_cell BK135.out 3).trans rfl; have hcz49_4 : w47.cell? ⟨gb135, 4, none⟩ = some (.slice A1_4 l1_4.length c1_4) := (blk_cell BK135.out 4).trans rfl; have hcz49_5 : w47.cell? ⟨gb135, 5, none⟩ = some (.slice A1_5 l1_5.length c1_5) := (blk_cell BK135.out 5).trans rfl; have hfz49_0 := blk_frozen BK135.out 0; have hfz49_1 := blk_frozen BK135.out 1; have hfz49_2 := blk_frozen BK135.out 2; have hfz49_3 := blk_frozen BK135.out 3; have hfz49_4 := blk_frozen BK135.out 4; have hfz49_5 := blk_frozen BK135.out 5) | (go_at_call 16; (with_reducible refine (impl_Hit.calls k _ _ l0_4 _ _ l1_4 true _ ?side1 ?side2 ?side3 ?side4 A36.out).mono ?_); (case side1 => repeat (first | exact (Kd.C_below HR0_4.out HB.out) | (with_reducible refine Kd.C_alloc ?_ _) | (with_reducible refine Kd.C_drewN ?_ _) | (with_reducible refine Kd.C_drew ?_))); (case side2 => exact HC0_4.out); (case side3 => repeat (first | exact (Kd.C_below HR1_4.out HB.out) | (with_reducible refine Kd.C_alloc ?_ _) | (with_reducible refine Kd.C_drewN ?_ _) | (with_reducible refine Kd.C_drew ?_))); (case side4 => exact HC1_4.out); rintro e w' ⟨rfl, ⟨nd, rfl⟩⟩) | (go_at_call 16; (with_reducible refine (impl_Hit.calls k _ _ l0_5 _ _ l1_5 t142 _ ?side1 ?side2 ?side3 ?side4 A38.out).mono ?_); (case side1 => repeat (first | exact (Kd.C_below HR0_5.out (by repeat (first | (with_reducible first | exact HB.out | apply below_alloc | apply pw_below_drewN | apply below_drew1 | refine below_set ?_ GE134.out | refine below_set ?_ GE135.out) | exact HB.out))) | (with_reducible refine Kd.C_alloc ?_ _) | (with_reducible refine Kd.C_drewN ?_ _) | (with_reducible refine Kd.C_drew ?_))); (case side2 => exact HC0_5.out); (case side3 => repeat (first | exact (Kd.C_below HR1_5.out (by repeat (first | (with_reducible first | exact HB.out | apply below_alloc | apply pw_below_drewN | apply below_drew1 | refine below_set ?_ GE134.out | refine below_set ?_ GE135.out) | exact HB.out))) | (with_reducible refine Kd.C_alloc ?_ _) | (with_reducible refine Kd.C_drewN ?_ _) | (with_reducible refine Kd.C_drew ?_))); (case side4 => exact HC1_5.out); rintro e w' ⟨rfl, ⟨nd, rfl⟩⟩))
     go_ret
     exact ⟨by first | rfl | (simp [errW_none, errW_some] <;> rfl) | (simp [*, errW_none, errW_some] <;> rfl), by repeat (first | (with_reducible first | exact HB.out | apply below_alloc | apply pw_below_drewN | apply below_drew1 | refine below_set ?_ GE134.out | refine below_set ?_ GE135.out) | exact HB.out)⟩
    ·replace c37 := Bool.eq_false_iff.mpr c37
     subst c37
     have H1 : (some false) = some r := by rw [if_neg (show ¬ (false = true) by decide)] at H; exact H
     clear H
     have H := H1
     clear H1
     obtain rfl := Option.some.inj H
     go_enter Try.func30, Try.ntmps30
     go_wp2_with (first | ((with_reducible refine gate_dst (N := 3) rfl ?_); refine box_event ?hg (N := 3) ?hd (cs := #[.int .i64 a0_0, .bool a0_1, .int .i64 a0_2, .bool a0_3, .slice A0_4 l0_4.length c0_4, .slice A0_5 l0_5.length c0_5]) (t := 34) ?hr ?_; (case hd => rfl); (case hg => rfl); (case hr => first | (go_simp; done) | (go_simp; rfl)); intro gb134 hg w50 hbox hb; have n0_ := Aside0.mk (below_step (by repeat (first | (with_reducible first | exact HB.out | apply below_alloc | apply pw_below_drewN | apply below_drew1) | exact HB.out)) hb); have n1_ := Aside0.mk (hbox); have n2_ := Aside0.mk ((by rw [hg]; exact (below_size (by repeat (first | (with_reducible first | exact HB.out | apply below_alloc | apply pw_below_drewN | apply below_drew1) | exact HB.out))) : w.heap.size ≤ gb134)); have n3_ := Aside0.mk ((by rw [hg]; exact (below_size (by repeat (first | (with_reducible first | exact HB.out | apply below_alloc | apply pw_below_drewN | apply below_drew1) | exact HB.out))) : w.heap.size ≤ gb134)); clear HB; have HB := n0_; have BK134 := n1_; have GW134 := n2_; have GE134 := n3_; clear n0_ n1_ n2_ n3_; clear hb hbox hg) | ((with_reducible refine gate_dst (N := 4) rfl ?_); refine box_event ?hg (N := 4) ?hd (cs := #[.int .i64 a1_0, .bool a1_1, .int .i64 a1_2, .bool a1_3, .slice A1_4 l1_4.length c1_4, .slice A1_5 l1_5.length c1_5]) (t := 34) ?hr ?_; (case hd => rfl); (case hg => rfl); (case hr => first | (go_simp; done) | (go_simp; rfl)); intro gb135 hg w51 hbox hb; have n0_ := Aside0.mk (blk_below (g := gb134) (o := .cells #[.int .i64 a0_0, .bool a0_1, .int .i64 a0_2, .bool a0_3, .slice A0_4 l0_4.length c0_4, .slice A0_5 l0_5.length c0_5] 34 (0, 0)) (by (with_reducible repeat (first | refine blk_drewN ?_ _ | refine blk_drew ?_ | refine blk_alloc ?_ _)); exact BK134.out) hb); have n1_ := Aside0.mk (below_step (by repeat (first | (with_reducible first | exact HB.out | apply below_alloc | apply pw_below_drewN | apply below_drew1 | refine below_set ?_ GE134.out) | exact HB.out)) hb); have n2_ := Aside0.mk (hbox); have n3_ := Aside0.mk ((by rw [hg]; exact (below_size (by repeat (first | (with_reducible first | exact HB.out | apply below_alloc | apply pw_below_drewN | apply below_drew1 | refine below_set ?_ GE134.out) | exact HB.out))) : w.heap.size ≤ gb135)); have n4_ := Aside0.mk ((by rw [hg]; exact (below_size (by repeat (first | (with_reducible first | exact HB.out | apply below_alloc | apply pw_below_drewN | apply below_drew1 | refine below_set ?_ GE134.out) | exact HB.out))) : w.heap.size ≤ gb135)); have n5_ := Aside0.mk ((by rw [hg]; exact Nat.ne_of_lt (blk_lt (g := gb134) (o := .cells #[.int .i64 a0_0, .bool a0_1, .int .i64 a0_2, .bool a0_3, .slice A0_4 l0_4.length c0_4, .slice A0_5 l0_5.length c0_5] 34 (0, 0)) (by (with_reducible repeat (first | refine blk_drewN ?_ _ | refine blk_drew ?_ | refine blk_alloc ?_ _)); exact BK134.out)) : gb134 ≠ gb135)); have n6_ := Aside0.mk ((by rw [hg]; exact Nat.ne_of_gt (blk_lt (g := gb134) (o := .cells #[.int .i64 a0_0, .bool a0_1, .int .i64 a0_2, .bool a0_3, .slice A0_4 l0_4.length c0_4, .slice A0_5 l0_5.length c0_5] 34 (0, 0)) (by (with_reducible repeat (first | refine blk_drewN ?_ _ | refine blk_drew ?_ | refine blk_alloc ?_ _)); exact BK134.out)) : gb135 ≠ gb134)); clear BK134; clear HB; have BK134 := n0_; have HB := n1_; have BK135 := n2_; have GW135 := n3_; have GE135 := n4_; have NB134_135 := n5_; have NB135_134 := n6_; clear n0_ n1_ n2_ n3_ n4_ n5_ n6_; clear hb hbox hg; have hnb52 := NB134_135.out; have hnc52 := NB135_134.out; have hcz53_0 : w51.cell? ⟨gb134, 0, none⟩ = some (.int .i64 a0_0) := (blk_cell BK134.out 0).trans rfl; have hcz53_1 : w51.cell? ⟨gb134, 1, none⟩ = some (.bool a0_1) := (blk_cell BK134.out 1).trans rfl; have hcz53_2 : w51.cell? ⟨gb134, 2, none⟩ = some (.int .i64 a0_2) := (blk_cell BK134.out 2).trans rfl; have hcz53_3 : w51.cell? ⟨gb134, 3, none⟩ = some (.bool a0_3) := (blk_cell BK134.out 3).trans rfl; have hcz53_4 : w51.cell? ⟨gb134, 4, none⟩ = some (.slice A0_4 l0_4.length c0_4) := (blk_cell BK134.out 4).trans rfl; have hcz53_5 : w51.cell? ⟨gb134, 5, none⟩ = some (.slice A0_5 l0_5.length c0_5) := (blk_cell BK134.out 5).trans rfl; have hfz53_0 := blk_frozen BK134.out 0; have hfz53_1 := blk_frozen BK134.out 1; have hfz53_2 := blk_frozen BK134.out 2; have hfz53_3 := blk_frozen BK134.out 3; have hfz53_4 := blk_frozen BK134.out 4; have hfz53_5 := blk_frozen BK134.out 5; have hcz54_0 : w51.cell? ⟨gb135, 0, none⟩ = some (.int .i64 a1_0) := (blk_cell BK135.out 0).trans rfl; have hcz54_1 : w51.cell? ⟨gb135, 1, none⟩ = some (.bool a1_1) := (blk_cell BK135.out 1).trans rfl; have hcz54_2 : w51.cell? ⟨gb135, 2, none⟩ = some (.int .i64 a1_2) := (blk_cell BK135.out 2).trans rfl; have hcz54_3 : w51.cell? ⟨gb135, 3, none⟩ = some (.bool a1_3) := (blk_cell BK135.out 3).trans rfl; have hcz54_4 : w51.cell? ⟨gb135, 4, none⟩ = some (.slice A1_4 l1_4.length c1_4) := (blk_cell BK135.out 4).trans rfl; have hcz54_5 : w51.cell? ⟨gb135, 5, none⟩ = some (.slice A1_5 l1_5.length c1_5) := (blk_cell BK135.out 5).trans rfl; have hfz54_0 := blk_frozen BK135.out 0; have hfz54_1 := blk_frozen BK135.out 1; have hfz54_2 := blk_frozen BK135.out 2; have hfz54_3 := blk_frozen BK135.out 3; have hfz54_4 := blk_frozen BK135.out 4; have hfz54_5 := blk_frozen BK135.out 5) | (go_at_call 50; (with_reducible refine (laws_sameFound.calls a0_0 a0_1 a1_0 a1_1 true _ A32.out).mono ?_); rintro e w55 ⟨rfl, hb⟩; have n0_ := Aside0.mk (blk_below (g := gb134) (o := .cells #[.int .i64 a0_0, .bool a0_1, .int .i64 a0_2, .bool a0_3, .slice A0_4 l0_4.length c0_4, .slice A0_5 l0_5.length c0_5] 34 (0, 0)) (by (with_reducible repeat (first | refine blk_drewN ?_ _ | refine blk_drew ?_ | refine blk_alloc ?_ _)); exact BK134.out) hb); have n1_ := Aside0.mk (blk_below (g := gb135) (o := .cells #[.int .i64 a1_0, .bool a1_1, .int .i64 a1_2, .bool a1_3, .slice A1_4 l1_4.length c1_4, .slice A1_5 l1_5.length c1_5] 34 (0, 0)) (by (with_reducible repeat (first | refine blk_drewN ?_ _ | refine blk_drew ?_ | refine blk_alloc ?_ _)); exact BK135.out) hb); have n2_ := Aside0.mk (below_step (by repeat (first | (with_reducible first | exact HB.out | apply below_alloc | apply pw_below_drewN | apply below_drew1 | refine below_set ?_ GE134.out | refine below_set ?_ GE135.out) | exact HB.out)) hb); clear BK134; clear BK135; clear HB; have BK134 := n0_; have BK135 := n1_; have HB := n2_; clear n0_ n1_ n2_; (try clear hb); (try clear hb2); (try clear hk); (try clear hi); have hcz56_0 : w55.cell? ⟨gb134, 0, none⟩ = some (.int .i64 a0_0) := (blk_cell BK134.out 0).trans rfl; have hcz56_1 : w55.cell? ⟨gb134, 1, none⟩ = some (.bool a0_1) := (blk_cell BK134.out 1).trans rfl; have hcz56_2 : w55.cell? ⟨gb134, 2, none⟩ = some (.int .i64 a0_2) := (blk_cell BK134.out 2).trans rfl; have hcz56_3 : w55.cell? ⟨gb134, 3, none⟩ = some (.bool a0_3) := (blk_cell BK134.out 3).trans rfl; have hcz56_4 : w55.cell? ⟨gb134, 4, none⟩ = some (.slice A0_4 l0_4.length c0_4) := (blk_cell BK134.out 4).trans rfl; have hcz56_5 : w55.cell? ⟨gb134, 5, none⟩ = some (.slice A0_5 l0_5.length c0_5) := (blk_cell BK134.out 5).trans rfl; have hfz56_0 := blk_frozen BK134.out 0; have hfz56_1 := blk_frozen BK134.out 1; have hfz56_2 := blk_frozen BK134.out 2; have hfz56_3 := blk_frozen BK134.out 3; have hfz56_4 := blk_frozen BK134.out 4; have hfz56_5 := blk_frozen BK134.out 5; have hcz57_0 : w55.cell? ⟨gb135, 0, none⟩ = some (.int .i64 a1_0) := (blk_cell BK135.out 0).trans rfl; have hcz57_1 : w55.cell? ⟨gb135, 1, none⟩ = some (.bool a1_1) := (blk_cell BK135.out 1).trans rfl; have hcz57_2 : w55.cell? ⟨gb135, 2, none⟩ = some (.int .i64 a1_2) := (blk_cell BK135.out 2).trans rfl; have hcz57_3 : w55.cell? ⟨gb135, 3, none⟩ = some (.bool a1_3) := (blk_cell BK135.out 3).trans rfl; have hcz57_4 : w55.cell? ⟨gb135, 4, none⟩ = some (.slice A1_4 l1_4.length c1_4) := (blk_cell BK135.out 4).trans rfl; have hcz57_5 : w55.cell? ⟨gb135, 5, none⟩ = some (.slice A1_5 l1_5.length c1_5) := (blk_cell BK135.out 5).trans rfl; have hfz57_0 := blk_frozen BK135.out 0; have hfz57_1 := blk_frozen BK135.out 1; have hfz57_2 := blk_frozen BK135.out 2; have hfz57_3 := blk_frozen BK135.out 3; have hfz57_4 := blk_frozen BK135.out 4; have hfz57_5 := blk_frozen BK135.out 5) | (go_at_call 50; (with_reducible refine (laws_sameFound.calls a0_2 a0_3 a1_2 a1_3 true _ A34.out).mono ?_); rintro e w58 ⟨rfl, hb⟩; have n0_ := Aside0.mk (blk_below (g := gb134) (o := .cells #[.int .i64 a0_0, .bool a0_1, .int .i64 a0_2, .bool a0_3, .slice A0_4 l0_4.length c0_4, .slice A0_5 l0_5.length c0_5] 34 (0, 0)) (by (with_reducible repeat (first | refine blk_drewN ?_ _ | refine blk_drew ?_ | refine blk_alloc ?_ _)); exact BK134.out) hb); have n1_ := Aside0.mk (blk_below (g := gb135) (o := .cells #[.int .i64 a1_0, .bool a1_1, .int .i64 a1_2, .bool a1_3, .slice A1_4 l1_4.length c1_4, .slice A1_5 l1_5.length c1_5] 34 (0, 0)) (by (with_reducible repeat (first | refine blk_drewN ?_ _ | refine blk_drew ?_ | refine blk_alloc ?_ _)); exact BK135.out) hb); have n2_ := Aside0.mk (below_step (by repeat (first | (with_reducible first | exact HB.out | apply below_alloc | apply pw_below_drewN | apply below_drew1 | refine below_set ?_ GE134.out | refine below_set ?_ GE135.out) | exact HB.out)) hb); clear BK134; clear BK135; clear HB; have BK134 := n0_; have BK135 := n1_; have HB := n2_; clear n0_ n1_ n2_; (try clear hb); (try clear hb2); (try clear hk); (try clear hi); have hcz59_0 : w58.cell? ⟨gb134, 0, none⟩ = some (.int .i64 a0_0) := (blk_cell BK134.out 0).trans rfl; have hcz59_1 : w58.cell? ⟨gb134, 1, none⟩ = some (.bool a0_1) := (blk_cell BK134.out 1).trans rfl; have hcz59_2 : w58.cell? ⟨gb134, 2, none⟩ = some (.int .i64 a0_2) := (blk_cell BK134.out 2).trans rfl; have hcz59_3 : w58.cell? ⟨gb134, 3, none⟩ = some (.bool a0_3) := (blk_cell BK134.out 3).trans rfl; have hcz59_4 : w58.cell? ⟨gb134, 4, none⟩ = some (.slice A0_4 l0_4.length c0_4) := (blk_cell BK134.out 4).trans rfl; have hcz59_5 : w58.cell? ⟨gb134, 5, none⟩ = some (.slice A0_5 l0_5.length c0_5) := (blk_cell BK134.out 5).trans rfl; have hfz59_0 := blk_frozen BK134.out 0; have hfz59_1 := blk_frozen BK134.out 1; have hfz59_2 := blk_frozen BK134.out 2; have hfz59_3 := blk_frozen BK134.out 3; have hfz59_4 := blk_frozen BK134.out 4; have hfz59_5 := blk_frozen BK134.out 5; have hcz60_0 : w58.cell? ⟨gb135, 0, none⟩ = some (.int .i64 a1_0) := (blk_cell BK135.out 0).trans rfl; have hcz60_1 : w58.cell? ⟨gb135, 1, none⟩ = some (.bool a1_1) := (blk_cell BK135.out 1).trans rfl; have hcz60_2 : w58.cell? ⟨gb135, 2, none⟩ = some (.int .i64 a1_2) := (blk_cell BK135.out 2).trans rfl; have hcz60_3 : w58.cell? ⟨gb135, 3, none⟩ = some (.bool a1_3) := (blk_cell BK135.out 3).trans rfl; have hcz60_4 : w58.cell? ⟨gb135, 4, none⟩ = some (.slice A1_4 l1_4.length c1_4) := (blk_cell BK135.out 4).trans rfl; have hcz60_5 : w58.cell? ⟨gb135, 5, none⟩ = some (.slice A1_5 l1_5.length c1_5) := (blk_cell BK135.out 5).trans rfl; have hfz60_0 := blk_frozen BK135.out 0; have hfz60_1 := blk_frozen BK135.out 1; have hfz60_2 := blk_frozen BK135.out 2; have hfz60_3 := blk_frozen BK135.out 3; have hfz60_4 := blk_frozen BK135.out 4; have hfz60_5 := blk_frozen BK135.out 5) | (go_at_call 16; (with_reducible refine (impl_Hit.calls k _ _ l0_4 _ _ l1_4 false _ ?side1 ?side2 ?side3 ?side4 A36.out).mono ?_); (case side1 => repeat (first | exact (Kd.C_below HR0_4.out HB.out) | (with_reducible refine Kd.C_alloc ?_ _) | (with_reducible refine Kd.C_drewN ?_ _) | (with_reducible refine Kd.C_drew ?_))); (case side2 => exact HC0_4.out); (case side3 => repeat (first | exact (Kd.C_below HR1_4.out HB.out) | (with_reducible refine Kd.C_alloc ?_ _) | (with_reducible refine Kd.C_drewN ?_ _) | (with_reducible refine Kd.C_drew ?_))); (case side4 => exact HC1_4.out); rintro e w' ⟨rfl, ⟨nd, rfl⟩⟩))
     go_ret
     exact ⟨by first | rfl | (simp [errW_none, errW_some] <;> rfl) | (simp [*, errW_none, errW_some] <;> rfl), by repeat (first | (with_reducible first | exact HB.out | apply below_alloc | apply pw_below_drewN | apply below_drew1 | refine below_set ?_ GE134.out | refine below_set ?_ GE135.out) | exact HB.out)⟩
   ·replace c35 := Bool.eq_false_iff.mpr c35
    subst c35
    have H1 : (some false) = some r := by rw [if_neg (show ¬ (false = true) by decide)] at H; exact H
    clear H
    have H := H1
    clear H1
    obtain rfl := Option.some.inj H
    go_enter Try.func30, Try.ntmps30
    go_wp2_with (first | ((with_reducible refine gate_dst (N := 3) rfl ?_); refine box_event ?hg (N := 3) ?hd (cs := #[.int .i64 a0_0, .bool a0_1, .int .i64 a0_2, .bool a0_3, .slice A0_4 l0_4.length c0_4, .slice A0_5 l0_5.length c0_5]) (t := 34) ?hr ?_; (case hd => rfl); (case hg => rfl); (case hr => first | (go_simp; done) | (go_simp; rfl)); intro gb134 hg w61 hbox hb; have n0_ := Aside0.mk (below_step (by repeat (first | (with_reducible first | exact HB.out | apply below_alloc | apply pw_below_drewN | apply below_drew1) | exact HB.out)) hb); have n1_ := Aside0.mk (hbox); have n2_ := Aside0.mk ((by rw [hg]; exact (below_size (by repeat (first | (with_reducible first | exact HB.out | apply below_alloc | apply pw_below_drewN | apply below_drew1) | exact HB.out))) : w.heap.size ≤ gb134)); have n3_ := Aside0.mk ((by rw [hg]; exact (below_size (by repeat (first | (with_reducible first | exact HB.out | apply below_alloc | apply pw_below_drewN | apply below_drew1) | exact HB.out))) : w.heap.size ≤ gb134)); clear HB; have HB := n0_; have BK134 := n1_; have GW134 := n2_; have GE134 := n3_; clear n0_ n1_ n2_ n3_; clear hb hbox hg) | ((with_reducible refine gate_dst (N := 4) rfl ?_); refine box_event ?hg (N := 4) ?hd (cs := #[.int .i64 a1_0, .bool a1_1, .int .i64 a1_2, .bool a1_3, .slice A1_4 l1_4.length c1_4, .slice A1_5 l1_5.length c1_5]) (t := 34) ?hr ?_; (case hd => rfl); (case hg => rfl); (case hr => first | (go_simp; done) | (go_simp; rfl)); intro gb135 hg w62 hbox hb; have n0_ := Aside0.mk (blk_below (g := gb134) (o := .cells #[.int .i64 a0_0, .bool a0_1, .int .i64 a0_2, .bool a0_3, .slice A0_4 l0_4.length c0_4, .slice A0_5 l0_5.length c0_5] 34 (0, 0)) (by (with_reducible repeat (first | refine blk_drewN ?_ _ | refine blk_drew ?_ | refine blk_alloc ?_ _)); exact BK134.out) hb); have n1_ := Aside0.mk (below_step (by repeat (first | (with_reducible first | exact HB.out | apply below_alloc | apply pw_below_drewN | apply below_drew1 | refine below_set ?_ GE134.out) | exact HB.out)) hb); have n2_ := Aside0.mk (hbox); have n3_ := Aside0.mk ((by rw [hg]; exact (below_size (by repeat (first | (with_reducible first | exact HB.out | apply below_alloc | apply pw_below_drewN | apply below_drew1 | refine below_set ?_ GE134.out) | exact HB.out))) : w.heap.size ≤ gb135)); have n4_ := Aside0.mk ((by rw [hg]; exact (below_size (by repeat (first | (with_reducible first | exact HB.out | apply below_alloc | apply pw_below_drewN | apply below_drew1 | refine below_set ?_ GE134.out) | exact HB.out))) : w.heap.size ≤ gb135)); have n5_ := Aside0.mk ((by rw [hg]; exact Nat.ne_of_lt (blk_lt (g := gb134) (o := .cells #[.int .i64 a0_0, .bool a0_1, .int .i64 a0_2, .bool a0_3, .slice A0_4 l0_4.length c0_4, .slice A0_5 l0_5.length c0_5] 34 (0, 0)) (by (with_reducible repeat (first | refine blk_drewN ?_ _ | refine blk_drew ?_ | refine blk_alloc ?_ _)); exact BK134.out)) : gb134 ≠ gb135)); have n6_ := Aside0.mk ((by rw [hg]; exact Nat.ne_of_gt (blk_lt (g := gb134) (o := .cells #[.int .i64 a0_0, .bool a0_1, .int .i64 a0_2, .bool a0_3, .slice A0_4 l0_4.length c0_4, .slice A0_5 l0_5.length c0_5] 34 (0, 0)) (by (with_reducible repeat (first | refine blk_drewN ?_ _ | refine blk_drew ?_ | refine blk_alloc ?_ _)); exact BK134.out)) : gb135 ≠ gb134)); clear BK134; clear HB; have BK134 := n0_; have HB := n1_; have BK135 := n2_; have GW135 := n3_; have GE135 := n4_; have NB134_135 := n5_; have NB135_134 := n6_; clear n0_ n1_ n2_ n3_ n4_ n5_ n6_; clear hb hbox hg; have hnb63 := NB134_135.out; have hnc63 := NB135_134.out; have hcz64_0 : w62.cell? ⟨gb134, 0, none⟩ = some (.int .i64 a0_0) := (blk_cell BK134.out 0).trans rfl; have hcz64_1 : w62.cell? ⟨gb134, 1, none⟩ = some (.bool a0_1) := (blk_cell BK134.out 1).trans rfl; have hcz64_2 : w62.cell? ⟨gb134, 2, none⟩ = some (.int .i64 a0_2) := (blk_cell BK134.out 2).trans rfl; have hcz64_3 : w62.cell? ⟨gb134, 3, none⟩ = some (.bool a0_3) := (blk_cell BK134.out 3).trans rfl; have hcz64_4 : w62.cell? ⟨gb134, 4, none⟩ = some (.slice A0_4 l0_4.length c0_4) := (blk_cell BK134.out 4).trans rfl; have hcz64_5 : w62.cell? ⟨gb134, 5, none⟩ = some (.slice A0_5 l0_5.length c0_5) := (blk_cell BK134.out 5).trans rfl; have hfz64_0 := blk_frozen BK134.out 0; have hfz64_1 := blk_frozen BK134.out 1; have hfz64_2 := blk_frozen BK134.out 2; have hfz64_3 := blk_frozen BK134.out 3; have hfz64_4 := blk_frozen BK134.out 4; have hfz64_5 := blk_frozen BK134.out 5; have hcz65_0 : w62.cell? ⟨gb135, 0, none⟩ = some (.int .i64 a1_0) := (blk_cell BK135.out 0).trans rfl; have hcz65_1 : w62.cell? ⟨gb135, 1, none⟩ = some (.bool a1_1) := (blk_cell BK135.out 1).trans rfl; have hcz65_2 : w62.cell? ⟨gb135, 2, none⟩ = some (.int .i64 a1_2) := (blk_cell BK135.out 2).trans rfl; have hcz65_3 : w62.cell? ⟨gb135, 3, none⟩ = some (.bool a1_3) := (blk_cell BK135.out 3).trans rfl; have hcz65_4 : w62.cell? ⟨gb135, 4, none⟩ = some (.slice A1_4 l1_4.length c1_4) := (blk_cell BK135.out 4).trans rfl; have hcz65_5 : w62.cell? ⟨gb135, 5, none⟩ = some (.slice A1_5 l1_5.length c1_5) := (blk_cell BK135.out 5).trans rfl; have hfz65_0 := blk_frozen BK135.out 0; have hfz65_1 := blk_frozen BK135.out 1; have hfz65_2 := blk_frozen BK135.out 2; have hfz65_3 := blk_frozen BK135.out 3; have hfz65_4 := blk_frozen BK135.out 4; have hfz65_5 := blk_frozen BK135.out 5) | (go_at_call 50; (with_reducible refine (laws_sameFound.calls a0_0 a0_1 a1_0 a1_1 true _ A32.out).mono ?_); rintro e w66 ⟨rfl, hb⟩; have n0_ := Aside0.mk (blk_below (g := gb134) (o := .cells #[.int .i64 a0_0, .bool a0_1, .int .i64 a0_2, .bool a0_3, .slice A0_4 l0_4.length c0_4, .slice A0_5 l0_5.length c0_5] 34 (0, 0)) (by (with_reducible repeat (first | refine blk_drewN ?_ _ | refine blk_drew ?_ | refine blk_alloc ?_ _)); exact BK134.out) hb); have n1_ := Aside0.mk (blk_below (g := gb135) (o := .cells #[.int .i64 a1_0, .bool a1_1, .int .i64 a1_2, .bool a1_3, .slice A1_4 l1_4.length c1_4, .slice A1_5 l1_5.length c1_5] 34 (0, 0)) (by (with_reducible repeat (first | refine blk_drewN ?_ _ | refine blk_drew ?_ | refine blk_alloc ?_ _)); exact BK135.out) hb); have n2_ := Aside0.mk (below_step (by repeat (first | (with_reducible first | exact HB.out | apply below_alloc | apply pw_below_drewN | apply below_drew1 | refine below_set ?_ GE134.out | refine below_set ?_ GE135.out) | exact HB.out)) hb); clear BK134; clear BK135; clear HB; have BK134 := n0_; have BK135 := n1_; have HB := n2_; clear n0_ n1_ n2_; (try clear hb); (try clear hb2); (try clear hk); (try clear hi); have hcz67_0 : w66.cell? ⟨gb134, 0, none⟩ = some (.int .i64 a0_0) := (blk_cell BK134.out 0).trans rfl; have hcz67_1 : w66.cell? ⟨gb134, 1, none⟩ = some (.bool a0_1) := (blk_cell BK134.out 1).trans rfl; have hcz67_2 : w66.cell? ⟨gb134, 2, none⟩ = some (.int .i64 a0_2) := (blk_cell BK134.out 2).trans rfl; have hcz67_3 : w66.cell? ⟨gb134, 3, none⟩ = some (.bool a0_3) := (blk_cell BK134.out 3).trans rfl; have hcz67_4 : w66.cell? ⟨gb134, 4, none⟩ = some (.slice A0_4 l0_4.length c0_4) := (blk_cell BK134.out 4).trans rfl; have hcz67_5 : w66.cell? ⟨gb134, 5, none⟩ = some (.slice A0_5 l0_5.length c0_5) := (blk_cell BK134.out 5).trans rfl; have hfz67_0 := blk_frozen BK134.out 0; have hfz67_1 := blk_frozen BK134.out 1; have hfz67_2 := blk_frozen BK134.out 2; have hfz67_3 := blk_frozen BK134.out 3; have hfz67_4 := blk_frozen BK134.out 4; have hfz67_5 := blk_frozen BK134.out 5; have hcz68_0 : w66.cell? ⟨gb135, 0, none⟩ = some (.int .i64 a1_0) := (blk_cell BK135.out 0).trans rfl; have hcz68_1 : w66.cell? ⟨gb135, 1, none⟩ = some (.bool a1_1) := (blk_cell BK135.out 1).trans rfl; have hcz68_2 : w66.cell? ⟨gb135, 2, none⟩ = some (.int .i64 a1_2) := (blk_cell BK135.out 2).trans rfl; have hcz68_3 : w66.cell? ⟨gb135, 3, none⟩ = some (.bool a1_3) := (blk_cell BK135.out 3).trans rfl; have hcz68_4 : w66.cell? ⟨gb135, 4, none⟩ = some (.slice A1_4 l1_4.length c1_4) := (blk_cell BK135.out 4).trans rfl; have hcz68_5 : w66.cell? ⟨gb135, 5, none⟩ = some (.slice A1_5 l1_5.length c1_5) := (blk_cell BK135.out 5).trans rfl; have hfz68_0 := blk_frozen BK135.out 0; have hfz68_1 := blk_frozen BK135.out 1; have hfz68_2 := blk_frozen BK135.out 2; have hfz68_3 := blk_frozen BK135.out 3; have hfz68_4 := blk_frozen BK135.out 4; have hfz68_5 := blk_frozen BK135.out 5) | (go_at_call 50; (with_reducible refine (laws_sameFound.calls a0_2 a0_3 a1_2 a1_3 false _ A34.out).mono ?_); rintro e w69 ⟨rfl, hb⟩; have n0_ := Aside0.mk (blk_below (g := gb134) (o := .cells #[.int .i64 a0_0, .bool a0_1, .int .i64 a0_2, .bool a0_3, .slice A0_4 l0_4.length c0_4, .slice A0_5 l0_5.length c0_5] 34 (0, 0)) (by (with_reducible repeat (first | refine blk_drewN ?_ _ | refine blk_drew ?_ | refine blk_alloc ?_ _)); exact BK134.out) hb); have n1_ := Aside0.mk (blk_below (g := gb135) (o := .cells #[.int .i64 a1_0, .bool a1_1, .int .i64 a1_2, .bool a1_3, .slice A1_4 l1_4.length c1_4, .slice A1_5 l1_5.length c1_5] 34 (0, 0)) (by (with_reducible repeat (first | refine blk_drewN ?_ _ | refine blk_drew ?_ | refine blk_alloc ?_ _)); exact BK135.out) hb); have n2_ := Aside0.mk (below_step (by repeat (first | (with_reducible first | exact HB.out | apply below_alloc | apply pw_below_drewN | apply below_drew1 | refine below_set ?_ GE134.out | refine below_set ?_ GE135.out) | exact HB.out)) hb); clear BK134; clear BK135; clear HB; have BK134 := n0_; have BK135 := n1_; have HB := n2_; clear n0_ n1_ n2_; (try clear hb); (try clear hb2); (try clear hk); (try clear hi)))
    go_ret
    exact ⟨by first | rfl | (simp [errW_none, errW_some] <;> rfl) | (simp [*, errW_none, errW_some] <;> rfl), by repeat (first | (with_reducible first | exact HB.out | apply below_alloc | apply pw_below_drewN | apply below_drew1 | refine below_set ?_ GE134.out | refine below_set ?_ GE135.out) | exact HB.out)⟩
  ·replace c33 := Bool.eq_false_iff.mpr c33
   subst c33
   have H1 : (some false) = some r := by rw [if_neg (show ¬ (false = true) by decide)] at H; exact H
   clear H
   have H := H1
   clear H1
   obtain rfl := Option.some.inj H
   go_enter Try.func30, Try.ntmps30
   go_wp2_with (first | ((with_reducible refine gate_dst (N := 3) rfl ?_); refine box_event ?hg (N := 3) ?hd (cs := #[.int .i64 a0_0, .bool a0_1, .int .i64 a0_2, .bool a0_3, .slice A0_4 l0_4.length c0_4, .slice A0_5 l0_5.length c0_5]) (t := 34) ?hr ?_; (case hd => rfl); (case hg => rfl); (case hr => first | (go_simp; done) | (go_simp; rfl)); intro gb134 hg w70 hbox hb; have n0_ := Aside0.mk (below_step (by repeat (first | (with_reducible first | exact HB.out | apply below_alloc | apply pw_below_drewN | apply below_drew1) | exact HB.out)) hb); have n1_ := Aside0.mk (hbox); have n2_ := Aside0.mk ((by rw [hg]; exact (below_size (by repeat (first | (with_reducible first | exact HB.out | apply below_alloc | apply pw_below_drewN | apply below_drew1) | exact HB.out))) : w.heap.size ≤ gb134)); have n3_ := Aside0.mk ((by rw [hg]; exact (below_size (by repeat (first | (with_reducible first | exact HB.out | apply below_alloc | apply pw_below_drewN | apply below_drew1) | exact HB.out))) : w.heap.size ≤ gb134)); clear HB; have HB := n0_; have BK134 := n1_; have GW134 := n2_; have GE134 := n3_; clear n0_ n1_ n2_ n3_; clear hb hbox hg) | ((with_reducible refine gate_dst (N := 4) rfl ?_); refine box_event ?hg (N := 4) ?hd (cs := #[.int .i64 a1_0, .bool a1_1, .int .i64 a1_2, .bool a1_3, .slice A1_4 l1_4.length c1_4, .slice A1_5 l1_5.length c1_5]) (t := 34) ?hr ?_; (case hd => rfl); (case hg => rfl); (case hr => first | (go_simp; done) | (go_simp; rfl)); intro gb135 hg w71 hbox hb; have n0_ := Aside0.mk (blk_below (g := gb134) (o := .cells #[.int .i64 a0_0, .bool a0_1, .int .i64 a0_2, .bool a0_3, .slice A0_4 l0_4.length c0_4, .slice A0_5 l0_5.length c0_5] 34 (0, 0)) (by (with_reducible repeat (first | refine blk_drewN ?_ _ | refine blk_drew ?_ | refine blk_alloc ?_ _)); exact BK134.out) hb); have n1_ := Aside0.mk (below_step (by repeat (first | (with_reducible first | exact HB.out | apply below_alloc | apply pw_below_drewN | apply below_drew1 | refine below_set ?_ GE134.out) | exact HB.out)) hb); have n2_ := Aside0.mk (hbox); have n3_ := Aside0.mk ((by rw [hg]; exact (below_size (by repeat (first | (with_reducible first | exact HB.out | apply below_alloc | apply pw_below_drewN | apply below_drew1 | refine below_set ?_ GE134.out) | exact HB.out))) : w.heap.size ≤ gb135)); have n4_ := Aside0.mk ((by rw [hg]; exact (below_size (by repeat (first | (with_reducible first | exact HB.out | apply below_alloc | apply pw_below_drewN | apply below_drew1 | refine below_set ?_ GE134.out) | exact HB.out))) : w.heap.size ≤ gb135)); have n5_ := Aside0.mk ((by rw [hg]; exact Nat.ne_of_lt (blk_lt (g := gb134) (o := .cells #[.int .i64 a0_0, .bool a0_1, .int .i64 a0_2, .bool a0_3, .slice A0_4 l0_4.length c0_4, .slice A0_5 l0_5.length c0_5] 34 (0, 0)) (by (with_reducible repeat (first | refine blk_drewN ?_ _ | refine blk_drew ?_ | refine blk_alloc ?_ _)); exact BK134.out)) : gb134 ≠ gb135)); have n6_ := Aside0.mk ((by rw [hg]; exact Nat.ne_of_gt (blk_lt (g := gb134) (o := .cells #[.int .i64 a0_0, .bool a0_1, .int .i64 a0_2, .bool a0_3, .slice A0_4 l0_4.length c0_4, .slice A0_5 l0_5.length c0_5] 34 (0, 0)) (by (with_reducible repeat (first | refine blk_drewN ?_ _ | refine blk_drew ?_ | refine blk_alloc ?_ _)); exact BK134.out)) : gb135 ≠ gb134)); clear BK134; clear HB; have BK134 := n0_; have HB := n1_; have BK135 := n2_; have GW135 := n3_; have GE135 := n4_; have NB134_135 := n5_; have NB135_134 := n6_; clear n0_ n1_ n2_ n3_ n4_ n5_ n6_; clear hb hbox hg; have hnb72 := NB134_135.out; have hnc72 := NB135_134.out; have hcz73_0 : w71.cell? ⟨gb134, 0, none⟩ = some (.int .i64 a0_0) := (blk_cell BK134.out 0).trans rfl; have hcz73_1 : w71.cell? ⟨gb134, 1, none⟩ = some (.bool a0_1) := (blk_cell BK134.out 1).trans rfl; have hcz73_2 : w71.cell? ⟨gb134, 2, none⟩ = some (.int .i64 a0_2) := (blk_cell BK134.out 2).trans rfl; have hcz73_3 : w71.cell? ⟨gb134, 3, none⟩ = some (.bool a0_3) := (blk_cell BK134.out 3).trans rfl; have hcz73_4 : w71.cell? ⟨gb134, 4, none⟩ = some (.slice A0_4 l0_4.length c0_4) := (blk_cell BK134.out 4).trans rfl; have hcz73_5 : w71.cell? ⟨gb134, 5, none⟩ = some (.slice A0_5 l0_5.length c0_5) := (blk_cell BK134.out 5).trans rfl; have hfz73_0 := blk_frozen BK134.out 0; have hfz73_1 := blk_frozen BK134.out 1; have hfz73_2 := blk_frozen BK134.out 2; have hfz73_3 := blk_frozen BK134.out 3; have hfz73_4 := blk_frozen BK134.out 4; have hfz73_5 := blk_frozen BK134.out 5; have hcz74_0 : w71.cell? ⟨gb135, 0, none⟩ = some (.int .i64 a1_0) := (blk_cell BK135.out 0).trans rfl; have hcz74_1 : w71.cell? ⟨gb135, 1, none⟩ = some (.bool a1_1) := (blk_cell BK135.out 1).trans rfl; have hcz74_2 : w71.cell? ⟨gb135, 2, none⟩ = some (.int .i64 a1_2) := (blk_cell BK135.out 2).trans rfl; have hcz74_3 : w71.cell? ⟨gb135, 3, none⟩ = some (.bool a1_3) := (blk_cell BK135.out 3).trans rfl; have hcz74_4 : w71.cell? ⟨gb135, 4, none⟩ = some (.slice A1_4 l1_4.length c1_4) := (blk_cell BK135.out 4).trans rfl; have hcz74_5 : w71.cell? ⟨gb135, 5, none⟩ = some (.slice A1_5 l1_5.length c1_5) := (blk_cell BK135.out 5).trans rfl; have hfz74_0 := blk_frozen BK135.out 0; have hfz74_1 := blk_frozen BK135.out 1; have hfz74_2 := blk_frozen BK135.out 2; have hfz74_3 := blk_frozen BK135.out 3; have hfz74_4 := blk_frozen BK135.out 4; have hfz74_5 := blk_frozen BK135.out 5) | (go_at_call 50; (with_reducible refine (laws_sameFound.calls a0_0 a0_1 a1_0 a1_1 false _ A32.out).mono ?_); rintro e w75 ⟨rfl, hb⟩; have n0_ := Aside0.mk (blk_below (g := gb134) (o := .cells #[.int .i64 a0_0, .bool a0_1, .int .i64 a0_2, .bool a0_3, .slice A0_4 l0_4.length c0_4, .slice A0_5 l0_5.length c0_5] 34 (0, 0)) (by (with_reducible repeat (first | refine blk_drewN ?_ _ | refine blk_drew ?_ | refine blk_alloc ?_ _)); exact BK134.out) hb); have n1_ := Aside0.mk (blk_below (g := gb135) (o := .cells #[.int .i64 a1_0, .bool a1_1, .int .i64 a1_2, .bool a1_3, .slice A1_4 l1_4.length c1_4, .slice A1_5 l1_5.length c1_5] 34 (0, 0)) (by (with_reducible repeat (first | refine blk_drewN ?_ _ | refine blk_drew ?_ | refine blk_alloc ?_ _)); exact BK135.out) hb); have n2_ := Aside0.mk (below_step (by repeat (first | (with_reducible first | exact HB.out | apply below_alloc | apply pw_below_drewN | apply below_drew1 | refine below_set ?_ GE134.out | refine below_set ?_ GE135.out) | exact HB.out)) hb); clear BK134; clear BK135; clear HB; have BK134 := n0_; have BK135 := n1_; have HB := n2_; clear n0_ n1_ n2_; (try clear hb); (try clear hb2); (try clear hk); (try clear hi)))
   go_ret
   exact ⟨by first | rfl | (simp [errW_none, errW_some] <;> rfl) | (simp [*, errW_none, errW_some] <;> rfl), by repeat (first | (with_reducible first | exact HB.out | apply below_alloc | apply pw_below_drewN | apply below_drew1 | refine below_set ?_ GE134.out | refine below_set ?_ GE135.out) | exact HB.out)⟩

/-! ### spec_dBegins: function 51 -/
def spec_dBegins.f (a0 : ByteArray) (a1 : ByteArray) : Option (Bool) := if (a0.size : Int) ≥ (a1.size : Int) then (if 0 ≤ (a1.size : Int) then (if (a1.size : Int) ≤ (a0.size : Int) then (some ((a0.extract 0 ((a1.size : Int) : Int).toNat).toList == a1.toList)) else (none)) else (none)) else (some false)
set_option maxHeartbeats 8000000 in
set_option maxRecDepth 100000 in
theorem spec_dBegins.calls (a0 : ByteArray) (a1 : ByteArray) (r : Bool) (w : World) (h : spec_dBegins.f a0 a1 = some r) :
  Calls Try.prog 51 #[.string a0, .string a1] w fun e w' => e = .returned (.bool r) ∧ Drawn0 w w' := by
 have H : (if (a0.size : Int) ≥ (a1.size : Int) then (if 0 ≤ (a1.size : Int) then (if (a1.size : Int) ≤ (a0.size : Int) then (some ((a0.extract 0 ((a1.size : Int) : Int).toNat).toList == a1.toList)) else (none)) else (none)) else (some false)) = some r := h
 clear h
 by_cases c3 : (a0.size : Int) ≥ (a1.size : Int)
 ·rw [if_pos c3] at H
  have c3b0 : decide ((a1.size : Int) ≤ (a0.size : Int)) = true := decide_eq_true c3
  have c3b1 : decide (a1.size ≤ a0.size) = true := decide_eq_true (Int.ofNat_le.mp c3)
  clear c3
  by_cases c4 : 0 ≤ (a1.size : Int)
  ·rw [if_pos c4] at H
   have c4b0 := eq_true c4
   have c4b1 : decide (0 ≤ (a1.size : Int)) = true := decide_eq_true c4
   clear c4
   by_cases c5 : (a1.size : Int) ≤ (a0.size : Int)
   ·rw [if_pos c5] at H
    have c5b0 := eq_true c5
    have c5b1 : decide ((a1.size : Int) ≤ (a0.size : Int)) = true := decide_eq_true c5
    clear c5
    obtain rfl := Option.some.inj H
    go_enter Try.func51, Try.ntmps51
    go_wp2
    go_ret
    exact ⟨by first | rfl | (simp; done) | (simp [*]; done) | (simp [Own.isEmpty_bne]; done), by repeat (first | exact Drawn0.refl _ | apply Drawn0.step)⟩
   ·rw [if_neg c5] at H
    exact absurd H (by simp)
  ·rw [if_neg c4] at H
   exact absurd H (by simp)
 ·rw [if_neg c3] at H
  have c3b0 : decide ((a1.size : Int) ≤ (a0.size : Int)) = false := decide_eq_false c3
  have c3b1 : decide (a1.size ≤ a0.size) = false := decide_eq_false (fun h => c3 (Int.ofNat_le.mpr h))
  clear c3
  obtain rfl := Option.some.inj H
  go_enter Try.func51, Try.ntmps51
  go_wp2
  go_ret
  exact ⟨by first | rfl | (simp; done) | (simp [*]; done) | (simp [Own.isEmpty_bne]; done), by repeat (first | exact Drawn0.refl _ | apply Drawn0.step)⟩

end Go.Proofs.Ytaejkbjepbifcaa.PB
