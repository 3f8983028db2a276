/- Copying within a scan. -/
import Derived.Test.YtckdpckdabfkbabDoorScanS
import Derived.Deep.CutRange
import Derived.Deep.QuietTactic
import Derived.BigQuiet
namespace Go.Proofs.YtckdpckdabfkbabDoor.Scan
open Go.RowKit Go.Proofs.YtckdpckdabfkbabDoorW.PrintWords Go.Proofs.YtckdpckdabfkbabDoor.Plain Go.Proofs.YtckdpckdabfkbabDoor.Num Go.Proofs.YtckdpckdabfkbabDoor.PC
set_option linter.unusedVariables false
set_option linter.unusedSimpArgs false

theorem isD_calls' {w W : World} {b : Nat} {S : Sp} {Ad Af : Option Addr} {cd cf : Nat} (h : Base w b S Ad Af cd cf) (k : Kp w W (fun x => x = b)) (r : Nat) (v : Bool) (hv : S.isD r = v) :
    Calls Tryd.prog 52 #[.agg (sv S Ad Af cd cf), .int .i32 r] W fun e w' => e = .returned (.bool v) ∧ Below W.heap.size W w' := hv ▸ isD_calls h k r
theorem isF_calls' {w W : World} {b : Nat} {S : Sp} {Ad Af : Option Addr} {cd cf : Nat} (h : Base w b S Ad Af cd cf) (k : Kp w W (fun x => x = b)) (r : Nat) (v : Bool) (hv : S.isF r = v) :
    Calls Tryd.prog 53 #[.agg (sv S Ad Af cd cf), .int .i32 r] W fun e w' => e = .returned (.bool v) ∧ Below W.heap.size W w' := hv ▸ isF_calls h k r
theorem space_calls' {w W : World} {b : Nat} {S : Sp} {Ad Af : Option Addr} {cd cf : Nat} (h : Base w b S Ad Af cd cf) (k : Kp w W (fun x => x = b)) (r : Nat) (hr : r ≤ 1114111) (v : Bool) (hv : Lib.isSpaceZ r = v) :
    Calls Tryd.prog 41 #[.int .i32 r] W fun e w' => e = .returned (.bool v) ∧ Below W.heap.size W w' := by
  refine (space_calls h k r hr).mono ?_
  rintro e w' ⟨he, hb⟩
  exact ⟨by rw [he, hv], hb⟩
theorem dec_calls' {w W : World} {b off : Nat} {S : Sp} {Ad Af : Option Addr} {cd cf : Nat} {D : ByteArray} {s : Nat} {out : List Int} {r sz p : Nat} (h : Base w b S Ad Af cd cf) (hs : SI w W b off D.size (mem D s out)) (hrs : rn D p = (r, sz)) (c : Nat) (hp : p < D.size) (hq : s + out.length ≤ p) :
    Calls Tryd.prog 51 #[.slice (some ⟨b, off + p, none⟩) (D.size - p) c] W fun e w' => e = .returned (.tuple #[.int .i32 r, .int .i64 sz]) ∧ Below W.heap.size W w' := by
  have := dec_calls h hs p c hp hq
  have ea : (⟨b, off, none⟩ : Addr).add p = ⟨b, off + p, none⟩ := by unfold Addr.add; by_cases h : p = 0 <;> simp [h]
  rwa [hrs, ea] at this
theorem int_eq {k : IntKind} {a b : Int} (h : a = b) : Value.int k a = .int k b := by rw [h]
theorem si_up {w w1 W : World} {b off n : Nat} {f : Nat → Int} (h : Kp w w1 (fun x => x = b)) (s : SI w1 W b off n f) : SI w W b off n f := ⟨Kp.thru h s.kept, s.row⟩
theorem box_at {w1 W : World} {b off n B : Nat} {f : Nat → Int} {o : Obj} (hx : w1.heap[B]? = some o) (s : SI w1 W b off n f) (hn : B ≠ b) : W.heap[B]? = some o := by
  rw [s.kept.old B (Array.getElem?_eq_some_iff.1 hx).1 hn]; exact hx

theorem SI.nil {w1 W : World} {b off n s s' : Nat} {D : ByteArray} (h : SI w1 W b off n (mem D s [])) : SI w1 W b off n (mem D s' []) := by
  obtain ⟨cs, t, h1, h2⟩ := h.row
  exact ⟨h.kept, cs, t, h1, fun j hj => by rw [h2 j hj, mem_nil, mem_nil]⟩
theorem SI.same {w1 W : World} {b off n s p k : Nat} {out : List Int} {D : ByteArray} (h : SI w1 W b off n (mem D s out)) (he : s + out.length = p) : SI w1 W b off n (mem D s (out ++ seg D p k)) := by
  obtain ⟨cs, t, h1, h2⟩ := h.row
  exact ⟨h.kept, cs, t, h1, fun j hj => by rw [h2 j hj, mem_same D s out p he]⟩
theorem SI.copy {w1 W : World} {b off n s p i : Nat} {out : List Int} {D : ByteArray} (h : SI w1 W b off n (mem D s (out ++ seg D p i))) (hb : b < w1.heap.size) (hq : s + out.length + i < n) : SI w1 (W.setCell ⟨b, off + (s + out.length + i), none⟩ (.int .u8 (by' D (p + i)))) b off n (mem D s (out ++ seg D p (i + 1))) :=
  h.put hb _ hq _ fun j hj => by rw [seg_succ, ← List.append_assoc, mem_add]; simp only [List.length_append, seg_len, Nat.add_assoc]
theorem SI.src {w1 W : World} {b off n s p i : Nat} {out : List Int} {D : ByteArray} (h : SI w1 W b off n (mem D s (out ++ seg D p i))) (hq : s + out.length ≤ p) (hn : p + i < n) : W.cell? ⟨b, off + (p + i), none⟩ = some (.int .u8 (by' D (p + i))) := by
  have := h.cell (p + i) hn
  rwa [mem_far _ _ _ _ (by simp only [List.length_append, seg_len]; omega)] at this
theorem si_res {w W : World} {b off n a s : Nat} {out : List Int} {D : ByteArray} (h : SI w W b off n (mem D s out)) : SI w W b off n (Res.mem D ⟨a, true, s, out⟩) := by
  obtain ⟨cs, t, h1, h2⟩ := h.row
  exact ⟨h.kept, cs, t, h1, fun j hj => by rw [h2 j hj]; simp [Res.mem]⟩
def tokv (R : Res) (b off c : Nat) : Value := match R.tok with
  | true => .slice (some ⟨b, off + (if R.start < c then R.start else 0), none⟩) R.out.length (c - R.start)
  | false => .slice none 0 0
theorem tok_eq {l s : Nat} {p b off c : Nat} {out : List Int} (h2 : l = out.length) (h3 : s < c) : Value.slice (some ⟨b, off + s, none⟩) l (c - s) = tokv ⟨p, true, s, out⟩ b off c := by
  rw [h2]; unfold tokv; simp only [h3, if_true]
theorem tok_eq0 {l s : Nat} {p b off c : Nat} {out : List Int} (h2 : l = out.length) (h3 : s = c) : Value.slice (some ⟨b, off, none⟩) l 0 = tokv ⟨p, true, s, out⟩ b off c := by
  subst h3; rw [h2]; unfold tokv; simp only [Nat.lt_irrefl, if_false, Nat.add_zero, Nat.sub_self]
/-- What a frame holds that returns R. -/
def Ret (R : Res) (b off c : Nat) (a : Act) : Prop := a.tmps.getD 6 undef = .int .i64 R.adv ∧ a.tmps.getD 7 undef = tokv R b off c ∧ a.tmps.getD 8 undef = .nilIface ∧ a.defers = []
def cL : Code → Code
  | .seq a _ => a
  | .block _ a => a
  | .loop a => a
  | .scope a => a
  | .cond _ a _ => a
  | c => c
def cR : Code → Code
  | .seq _ b => b
  | .cond _ _ b => b
  | c => c
def pth : List Bool → Code → Code
  | [], c => c
  | true :: l, c => pth l (cR c)
  | false :: l, c => pth l (cL c)
theorem lf_eq {del fol : List Int} {skip : Bool} {most : Int} {r : Nat} : Sp.lf ⟨del, fol, skip, true, most⟩ r = ((r : Int) == 10) := by
  simp only [Sp.lf, Bool.true_and]; rfl
theorem SI.as {w1 W : World} {b off n : Nat} {f g : Nat → Int} (h : SI w1 W b off n f) (e : ∀ j, j < n → g j = f j) : SI w1 W b off n g := by
  obtain ⟨cs, t, h1, h2⟩ := h.row
  exact ⟨h.kept, cs, t, h1, fun j hj => by rw [h2 j hj, e j hj]⟩
theorem blank_step {q i j : Nat} {x : Int} (h : q ≤ i) : (if q ≤ j ∧ j < i + 1 then 32 else x) = if j = i then 32 else if q ≤ j ∧ j < i then 32 else x := by
  by_cases e : j = i
  · rw [if_pos e, if_pos (by omega)]
  · rw [if_neg e]
    by_cases h2 : q ≤ j ∧ j < i
    · rw [if_pos h2, if_pos (by omega)]
    · rw [if_neg h2, if_neg (by omega)]
theorem ret_eq {a : Int} {p s : Nat} {out : List Int} {b off l c : Nat} (h1 : a = (p : Int)) (h2 : l = out.length) (h3 : s < c) : Ending.returned (.tuple #[.int .i64 a, .slice (some ⟨b, off + s, none⟩) l (c - s), .nilIface]) = .returned (.tuple #[.int .i64 ((⟨p, true, s, out⟩ : Res).adv : Int), tokv ⟨p, true, s, out⟩ b off c, .nilIface]) := by
  rw [h1, tok_eq h2 h3]
theorem ret_eq0 {a : Int} {p s : Nat} {out : List Int} {b off l c : Nat} (h1 : a = (p : Int)) (h2 : l = out.length) (h3 : s = c) : Ending.returned (.tuple #[.int .i64 a, .slice (some ⟨b, off, none⟩) l 0, .nilIface]) = .returned (.tuple #[.int .i64 ((⟨p, true, s, out⟩ : Res).adv : Int), tokv ⟨p, true, s, out⟩ b off c, .nilIface]) := by
  rw [h1, tok_eq0 h2 h3]
noncomputable def ccond78 : Code := pth [true, true, true, true, true, false, true, false, false, true, false, true, true, true, false, true] (Tryd.f37.body.getD .skip)
set_option maxHeartbeats 16000000 in
set_option maxRecDepth 100000 in
theorem copy78 (w w1 : World) (del fol : List Int) (skip dbl : Bool) (most : Int) (Ad Af : Option Addr) (cd cf b off c : Nat) (D : ByteArray) (hc : D.size ≤ c) (hn : D.size ≤ 1000000000000) (HX : Aside0 (w1.heap[w.heap.size]? = some (.cells (sv ⟨del, fol, skip, dbl, most⟩ Ad Af cd cf) 81 (0, 0)))) (HN : Aside0 (w.heap.size ≠ b)) (HK : Aside0 (Kp w w1 (fun x => x = b))) (HB : Aside0 (Base w b ⟨del, fol, skip, dbl, most⟩ Ad Af cd cf)) (HL : Aside0 (b < w1.heap.size)) (s p sz : Nat) (out : List Int) (Q : Exit → Act → World → Prop) {v0 v2 v4 v5 v6 v7 v8 v9 v11 v12 v13 v15 v17 v18 v19 v20 v21 v22 v23 v24 v25 v26 v27 v28 v29 v30 v31 v32 v33 v34 v35 v36 v37 v38 v39 v40 v41 v42 v43 v44 v45 v46 v47 v48 v49 v50 v51 v52 v53 v54 v55 v56 v57 v58 v59 v60 v61 v62 v63 v64 v65 v66 v67 v68 v69 v70 v71 v72 v73 v74 v75 v76 v77 v79 v80 v81 v82 v83 v84 v85 v86 v87 v88 v89 v90 v91 v92 v93 v94 v95 v96 v97 v98 v99 v100 v101 v102 v103 v104 v105 v106 v107 v108 v109 v110 v111 v112 v113 v114 v115 v116 v117 v118 v119 v120 v121 v122 v123 v124 v125 v126 v127 v128 v129 v130 v131 v132 v133 v134 v135 v136 v137 v138 v139 v140 v141 v142 v143 v144 v145 v146 v147 v148 v149 v150 v151 v152 v153 v154 v155 v156 v157 v158 v159 v160 v161 v162 v163 v164 v165 v166 v167 v168 v169 v170 v171 v172 v173 v174 v175 v176 v177 v178 v179 v180 v181 v182 v183 v184 v185 v186 v187 v188 v189 v190 v191 v192 v193 v194 v195 v196 v197 v198 v199 v200 v201 v202 v203 v204 v205 v206 v207 v208 v209 v210 v211 v212 v213 : Value} (e10 e14 : Int) (tb : Bool) (W : World) (h10 : e10 = ((s + out.length : Nat) : Int)) (h14 : e14 = (p : Int)) (htb : tb = (e10 != e14)) (m3 : s + out.length ≤ p) (q2 : p + sz ≤ D.size) (HI : Aside0 (SI w1 W b off D.size (mem D s out)))
    (hN : Aside0 (∀ (n17 n79 n80 n81 n82 n83 n84 n85 n86 n87 n88 n89 n90 n91 n92 n93 n94 : Value) (W2 : World), Aside0 (SI w1 W2 b off D.size (mem D s (out ++ seg D p sz))) → Q .normal ⟨#[v0, .slice (some ⟨b, off, none⟩) D.size c, v2, .pointer (some ⟨w.heap.size, 0, none⟩), v4, v5, v6, v7, v8, v9, .int .i64 e10, v11, v12, v13, .int .i64 e14, v15, .int .i64 sz, n17, v18, v19, v20, v21, v22, v23, v24, v25, v26, v27, v28, v29, v30, v31, v32, v33, v34, v35, v36, v37, v38, v39, v40, v41, v42, v43, v44, v45, v46, v47, v48, v49, v50, v51, v52, v53, v54, v55, v56, v57, v58, v59, v60, v61, v62, v63, v64, v65, v66, v67, v68, v69, v70, v71, v72, v73, v74, v75, v76, v77, .bool tb, n79, n80, n81, n82, n83, n84, n85, n86, n87, n88, n89, n90, n91, n92, n93, n94, v95, v96, v97, v98, v99, v100, v101, v102, v103, v104, v105, v106, v107, v108, v109, v110, v111, v112, v113, v114, v115, v116, v117, v118, v119, v120, v121, v122, v123, v124, v125, v126, v127, v128, v129, v130, v131, v132, v133, v134, v135, v136, v137, v138, v139, v140, v141, v142, v143, v144, v145, v146, v147, v148, v149, v150, v151, v152, v153, v154, v155, v156, v157, v158, v159, v160, v161, v162, v163, v164, v165, v166, v167, v168, v169, v170, v171, v172, v173, v174, v175, v176, v177, v178, v179, v180, v181, v182, v183, v184, v185, v186, v187, v188, v189, v190, v191, v192, v193, v194, v195, v196, v197, v198, v199, v200, v201, v202, v203, v204, v205, v206, v207, v208, v209, v210, v211, v212, v213], []⟩ W2)) :
    Code.wp Tryd.prog ccond78 Q ⟨#[v0, .slice (some ⟨b, off, none⟩) D.size c, v2, .pointer (some ⟨w.heap.size, 0, none⟩), v4, v5, v6, v7, v8, v9, .int .i64 e10, v11, v12, v13, .int .i64 e14, v15, .int .i64 sz, v17, v18, v19, v20, v21, v22, v23, v24, v25, v26, v27, v28, v29, v30, v31, v32, v33, v34, v35, v36, v37, v38, v39, v40, v41, v42, v43, v44, v45, v46, v47, v48, v49, v50, v51, v52, v53, v54, v55, v56, v57, v58, v59, v60, v61, v62, v63, v64, v65, v66, v67, v68, v69, v70, v71, v72, v73, v74, v75, v76, v77, .bool tb, v79, v80, v81, v82, v83, v84, v85, v86, v87, v88, v89, v90, v91, v92, v93, v94, v95, v96, v97, v98, v99, v100, v101, v102, v103, v104, v105, v106, v107, v108, v109, v110, v111, v112, v113, v114, v115, v116, v117, v118, v119, v120, v121, v122, v123, v124, v125, v126, v127, v128, v129, v130, v131, v132, v133, v134, v135, v136, v137, v138, v139, v140, v141, v142, v143, v144, v145, v146, v147, v148, v149, v150, v151, v152, v153, v154, v155, v156, v157, v158, v159, v160, v161, v162, v163, v164, v165, v166, v167, v168, v169, v170, v171, v172, v173, v174, v175, v176, v177, v178, v179, v180, v181, v182, v183, v184, v185, v186, v187, v188, v189, v190, v191, v192, v193, v194, v195, v196, v197, v198, v199, v200, v201, v202, v203, v204, v205, v206, v207, v208, v209, v210, v211, v212, v213], []⟩ W := by
  conv => arg 2; whnf
  subst h10 h14
  have s0 : (0 : Int) ≤ s := by omega
  have p0 : (0 : Int) ≤ p := by omega
  cases tb with
  | false =>
    have he : s + out.length = p := by have := htb.symm; simp only [bne_eq_false_iff_eq] at this; omega
    go_wp2_with fail
    exact hN.out _ _ _ _ _ _ _ _ _ _ _ _ _ _ _ _ _ _ ⟨HI.out.same he⟩
  | true =>
    clear htb
    go_wp2_with fail
    go_loopg [80] sz (fun kz y w' => ∃ i : Nat, y = .int .i64 i ∧ Aside0 (i + kz = sz) ∧ Aside0 (SI w1 w' b off D.size (mem D s (out ++ seg D p i))))
    case atStart => exact ⟨0, rfl, ⟨by omega⟩, ⟨by rw [seg_zero, List.append_nil]; exact HI.out⟩⟩
    case round =>
      clear HI
      obtain ⟨i, rfl, HZ, HI⟩ := hrel
      have hz := HZ.out
      by_cases hi : i < sz
      · have hid : (i : Int) < (sz : Int) := by omega
        have z0 := HI.out.src m3 (show p + i < D.size by omega)
        have z1 := HI.out.froz (s + out.length + i) (show _ < D.size by omega)
        have z2 := HI.out.cell (s + out.length + i) (show _ < D.size by omega)
        go_wp2_with fail
        cases gk with
        | zero => omega
        | succ kz =>
        go_roundg kz
        case measure => omega
        case rel => exact ⟨i + 1, int_eq (by omega), ⟨by omega⟩, ⟨HI.out.copy HL.out (by omega)⟩⟩
      · obtain rfl : i = sz := by omega
        have hid : ¬ (i : Int) < (i : Int) := by omega
        go_wp2_with fail
        exact hN.out _ _ _ _ _ _ _ _ _ _ _ _ _ _ _ _ _ _ HI

noncomputable def ccond167 : Code := pth [true, true, true, true, true, false, true, false, false, true, false, true, true, true, true, true, true, true, true, true, true, false, false, false, true, false, true, true, true, true, false, false, true] (Tryd.f37.body.getD .skip)
set_option maxHeartbeats 16000000 in
set_option maxRecDepth 100000 in
theorem copy167 (w w1 : World) (del fol : List Int) (skip dbl : Bool) (most : Int) (Ad Af : Option Addr) (cd cf b off c : Nat) (D : ByteArray) (hc : D.size ≤ c) (hn : D.size ≤ 1000000000000) (HX : Aside0 (w1.heap[w.heap.size]? = some (.cells (sv ⟨del, fol, skip, dbl, most⟩ Ad Af cd cf) 81 (0, 0)))) (HN : Aside0 (w.heap.size ≠ b)) (HK : Aside0 (Kp w w1 (fun x => x = b))) (HB : Aside0 (Base w b ⟨del, fol, skip, dbl, most⟩ Ad Af cd cf)) (HL : Aside0 (b < w1.heap.size)) (s p sz : Nat) (out : List Int) (Q : Exit → Act → World → Prop) {v0 v2 v4 v5 v6 v7 v8 v9 v11 v12 v13 v15 v16 v17 v18 v20 v21 v22 v23 v24 v25 v26 v27 v28 v29 v30 v31 v32 v33 v34 v35 v36 v37 v38 v39 v40 v41 v42 v43 v44 v45 v46 v47 v48 v49 v50 v51 v52 v53 v54 v55 v56 v57 v58 v59 v60 v61 v62 v63 v64 v65 v66 v67 v68 v69 v70 v71 v72 v73 v74 v75 v76 v77 v78 v79 v80 v81 v82 v83 v84 v85 v86 v87 v88 v89 v90 v91 v92 v93 v94 v95 v96 v97 v98 v99 v100 v101 v102 v103 v104 v105 v106 v107 v108 v109 v110 v111 v112 v113 v114 v115 v116 v117 v118 v119 v120 v121 v122 v123 v124 v125 v126 v127 v128 v129 v130 v131 v132 v133 v134 v135 v136 v137 v138 v139 v140 v141 v142 v143 v144 v145 v146 v147 v148 v149 v150 v151 v152 v153 v154 v155 v156 v157 v158 v159 v160 v161 v162 v163 v164 v165 v166 v168 v169 v170 v171 v172 v173 v174 v175 v176 v177 v178 v179 v180 v181 v182 v183 v184 v185 v186 v187 v188 v189 v190 v191 v192 v193 v194 v195 v196 v197 v198 v199 v200 v201 v202 v203 v204 v205 v206 v207 v208 v209 v210 v211 v212 v213 : Value} (e10 e14 : Int) (tb : Bool) (W : World) (h10 : e10 = ((s + out.length : Nat) : Int)) (h14 : e14 = (p : Int)) (htb : tb = (e10 != e14)) (m3 : s + out.length ≤ p) (q2 : p + sz ≤ D.size) (HI : Aside0 (SI w1 W b off D.size (mem D s out)))
    (hN : Aside0 (∀ (n20 n168 n169 n170 n171 n172 n173 n174 n175 n176 n177 n178 n179 n180 n181 n182 n183 : Value) (W2 : World), Aside0 (SI w1 W2 b off D.size (mem D s (out ++ seg D p sz))) → Q .normal ⟨#[v0, .slice (some ⟨b, off, none⟩) D.size c, v2, .pointer (some ⟨w.heap.size, 0, none⟩), v4, v5, v6, v7, v8, v9, .int .i64 e10, v11, v12, v13, .int .i64 e14, v15, v16, v17, v18, .int .i64 sz, n20, v21, v22, v23, v24, v25, v26, v27, v28, v29, v30, v31, v32, v33, v34, v35, v36, v37, v38, v39, v40, v41, v42, v43, v44, v45, v46, v47, v48, v49, v50, v51, v52, v53, v54, v55, v56, v57, v58, v59, v60, v61, v62, v63, v64, v65, v66, v67, v68, v69, v70, v71, v72, v73, v74, v75, v76, v77, v78, v79, v80, v81, v82, v83, v84, v85, v86, v87, v88, v89, v90, v91, v92, v93, v94, v95, v96, v97, v98, v99, v100, v101, v102, v103, v104, v105, v106, v107, v108, v109, v110, v111, v112, v113, v114, v115, v116, v117, v118, v119, v120, v121, v122, v123, v124, v125, v126, v127, v128, v129, v130, v131, v132, v133, v134, v135, v136, v137, v138, v139, v140, v141, v142, v143, v144, v145, v146, v147, v148, v149, v150, v151, v152, v153, v154, v155, v156, v157, v158, v159, v160, v161, v162, v163, v164, v165, v166, .bool tb, n168, n169, n170, n171, n172, n173, n174, n175, n176, n177, n178, n179, n180, n181, n182, n183, v184, v185, v186, v187, v188, v189, v190, v191, v192, v193, v194, v195, v196, v197, v198, v199, v200, v201, v202, v203, v204, v205, v206, v207, v208, v209, v210, v211, v212, v213], []⟩ W2)) :
    Code.wp Tryd.prog ccond167 Q ⟨#[v0, .slice (some ⟨b, off, none⟩) D.size c, v2, .pointer (some ⟨w.heap.size, 0, none⟩), v4, v5, v6, v7, v8, v9, .int .i64 e10, v11, v12, v13, .int .i64 e14, v15, v16, v17, v18, .int .i64 sz, v20, v21, v22, v23, v24, v25, v26, v27, v28, v29, v30, v31, v32, v33, v34, v35, v36, v37, v38, v39, v40, v41, v42, v43, v44, v45, v46, v47, v48, v49, v50, v51, v52, v53, v54, v55, v56, v57, v58, v59, v60, v61, v62, v63, v64, v65, v66, v67, v68, v69, v70, v71, v72, v73, v74, v75, v76, v77, v78, v79, v80, v81, v82, v83, v84, v85, v86, v87, v88, v89, v90, v91, v92, v93, v94, v95, v96, v97, v98, v99, v100, v101, v102, v103, v104, v105, v106, v107, v108, v109, v110, v111, v112, v113, v114, v115, v116, v117, v118, v119, v120, v121, v122, v123, v124, v125, v126, v127, v128, v129, v130, v131, v132, v133, v134, v135, v136, v137, v138, v139, v140, v141, v142, v143, v144, v145, v146, v147, v148, v149, v150, v151, v152, v153, v154, v155, v156, v157, v158, v159, v160, v161, v162, v163, v164, v165, v166, .bool tb, v168, v169, v170, v171, v172, v173, v174, v175, v176, v177, v178, v179, v180, v181, v182, v183, v184, v185, v186, v187, v188, v189, v190, v191, v192, v193, v194, v195, v196, v197, v198, v199, v200, v201, v202, v203, v204, v205, v206, v207, v208, v209, v210, v211, v212, v213], []⟩ W := by
  conv => arg 2; whnf
  subst h10 h14
  have s0 : (0 : Int) ≤ s := by omega
  have p0 : (0 : Int) ≤ p := by omega
  cases tb with
  | false =>
    have he : s + out.length = p := by have := htb.symm; simp only [bne_eq_false_iff_eq] at this; omega
    go_wp2_with fail
    exact hN.out _ _ _ _ _ _ _ _ _ _ _ _ _ _ _ _ _ _ ⟨HI.out.same he⟩
  | true =>
    clear htb
    go_wp2_with fail
    go_loopg [169] sz (fun kz y w' => ∃ i : Nat, y = .int .i64 i ∧ Aside0 (i + kz = sz) ∧ Aside0 (SI w1 w' b off D.size (mem D s (out ++ seg D p i))))
    case atStart => exact ⟨0, rfl, ⟨by omega⟩, ⟨by rw [seg_zero, List.append_nil]; exact HI.out⟩⟩
    case round =>
      clear HI
      obtain ⟨i, rfl, HZ, HI⟩ := hrel
      have hz := HZ.out
      by_cases hi : i < sz
      · have hid : (i : Int) < (sz : Int) := by omega
        have z0 := HI.out.src m3 (show p + i < D.size by omega)
        have z1 := HI.out.froz (s + out.length + i) (show _ < D.size by omega)
        have z2 := HI.out.cell (s + out.length + i) (show _ < D.size by omega)
        go_wp2_with fail
        cases gk with
        | zero => omega
        | succ kz =>
        go_roundg kz
        case measure => omega
        case rel => exact ⟨i + 1, int_eq (by omega), ⟨by omega⟩, ⟨HI.out.copy HL.out (by omega)⟩⟩
      · obtain rfl : i = sz := by omega
        have hid : ¬ (i : Int) < (i : Int) := by omega
        go_wp2_with fail
        exact hN.out _ _ _ _ _ _ _ _ _ _ _ _ _ _ _ _ _ _ HI
end Go.Proofs.YtckdpckdabfkbabDoor.Scan
