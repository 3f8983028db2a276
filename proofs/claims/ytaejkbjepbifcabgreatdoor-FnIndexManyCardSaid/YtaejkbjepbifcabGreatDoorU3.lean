/- The walks over tries and what they compute: part 3 of several, put together by a program. -/
import Derived.Test.YtaejkbjepbifcabGreatDoorU2
import Derived.ScopeJumps
import Derived.WalkMore
import Derived.Deep.LoopGhost
import Derived.Deep.QuietTactic
import Derived.BigQuiet
import Derived.StillTailTactics
import Derived.Deep.CutBlock
import Derived.Deep.DeepCutAuto
import Derived.IntWalk
import Derived.Test.YtaejkbjepbifcabGreatDoorU0
import Derived.Test.YtaejkbjepbifcabGreatDoorU1
import Derived.Defers
import Derived.Recover
import Derived.Laws.Pointers
import Derived.Test.YtaejkbjepbifcabGreatDoorKPlain
import Derived.Lib.Strings
import Derived.Maps.Own
import Derived.Maps.Views
import Derived.Maps.OwnOps
import Derived.WalkArith
import Derived.Laws.OwnMore
namespace Go.Proofs.YtaejkbjepbifcabGreatDoor.Da
open Go.RowKit Go.Proofs.YtaejkbjepbifcabGreatDoorW.PrintWords
set_option linter.unusedVariables false
set_option linter.unusedSimpArgs false
def cL : Code → Code
  | .seq a _ => a
  | .cond _ a _ => a
  | .block _ c => c
  | .loop c => c
  | .scope c => c
  | c => c
def cR : Code → Code
  | .seq _ b => b
  | .cond _ _ b => b
  | c => c
def pth : List Bool → Code → Code
  | [], c => c
  | true :: l, c => pth l (cR c)
  | false :: l, c => pth l (cL c)
structure Found (W W' : World) (x g : Nat) (s : DA) (U h : Nat) (g' : Nat) (s' : DA) (l' : Nat) (chars : List Int) (b : Nat) : Prop where
  same : Same s s'
  mem : Mem W' x g' s'
  ring : Ring s' h l'
  gg : g' = g ∨ W.heap.size ≤ g'
  kp : Kp W W' (fun k => k = x ∨ k = g)
  n : s'.n ≤ 2 * U + 60000
  lo : 51200 ≤ s'.n
  u : ∀ i, s'.used i → i ≤ U
  b1 : 1 ≤ b
  b2 : b ≤ U + 1
  bn : b < s'.n
  ok : ∀ c ∈ chars, b + c.toNat < s'.n → s'.C (b + c.toNat) < 0
theorem Seek.drewN {W W' : World} {x g : Nat} {s : DA} {U h f g' l' : Nat} {s' : DA} (S : Seek W W' x g s U h f g' s' l') (q : Nat) : Seek W (W'.drewN q) x g s U h f g' s' l' :=
  ⟨S.same, S.mem.drewN q, S.ring, S.gg, S.kp.drewN q, S.n, S.lo, S.u, S.fr, S.fu⟩
theorem seek_grow {W W1 W2 : World} {x g : Nat} {s : DA} {U h f g1 : Nat} {s1 : DA} (S : Seek W W1 x g s U h f g1 s1 f) {e : Ending} (E : Exp W1 x (s1.grow h f) e W2) : e = .returned (.tuple #[]) ∧ ∃ g2, Seek W W2 x g s U h f g2 (s1.grow h f) (2 * s1.n - 1) := by
  obtain ⟨rfl, g2, hg, hm, hk⟩ := E
  have hl := last_end S.ring S.u S.fu
  have hlo := S.lo
  have hf1 := S.ring.h1
  have hf2 := S.ring.hl
  have hf3 := S.ring.ln
  refine ⟨rfl, g2, S.same.trans (same_grow S.ring (by omega)), hm, ring_grow S.ring (by omega), Or.inr (Nat.le_trans S.kp.size hg), (S.kp.trans hk).mono (fun i _ h => h.elim id Or.inl), ?_, ?_, fun i hi => S.u i ((same_grow S.ring (by omega)).new i hi), Or.inr ⟨by omega, ?_, ?_⟩, S.fu⟩
  · show 2 * s1.n ≤ _; omega
  · show 51200 ≤ 2 * s1.n; omega
  · show f < 2 * s1.n; omega
  · rw [grow_C S.ring (by omega), if_neg (by omega), if_pos rfl]; omega
noncomputable def vtail : Code := pth [false, true, true, true, true, false, false, false, false, true] (Tryz.f80.body.getD .skip)
set_option maxHeartbeats 16000000 in
set_option maxRecDepth 100000 in
theorem seek_tail (W : World) (x g p cb cc rp : Nat) (s : DA) (h U : Nat) (chars : List Int) (hU : 255 ≤ U) (hU2 : U ≤ 16777216) (HRow : Aside0 (Row W cb chars)) (cx : cb ≠ x) (cg : cb ≠ g) (h0 : 0 < chars.length) (hcc : chars.length ≤ 256) (HC : Aside0 (∀ c ∈ chars, 0 ≤ c ∧ c ≤ 255)) (HA : Aside0 (∀ c ∈ chars, (rp : Int) ≤ c)) (hr0 : chars.getD 0 0 = (rp : Int)) (hrp : rp ≤ 255) (f g1 l1 : Nat) (s1 : DA) (W1 : World) {Q : Exit → Act → World → Prop} {v3 v4 v5 v8 v9 v10 v11 v12 v13 v14 v15 v16 v17 v18 v19 v20 v21 v22 v23 v24 v25 v26 v27 v28 v29 v30 v31 v32 v33 v34 v35 v36 v37 v38 v39 v40 v41 v42 v43 v44 v45 v46 v47 v48 v49 v50 v51 v52 v53 v54 v55 v56 v57 v58 v59 v60 v61 v62 v63 v64 v65 v66 v67 v68 v69 v70 v71 v72 v73 v74 v75 v76 v77 v78 v79 v80 v81 v82 v83 v84 v85 v86 v87 v88 v89 v90 v91 v92 v93 v94 v95 v96 v97 v98 v99 v100 v101 v102 v103 v104 v105 v106 v107 v108 v109 v110 v111 v112 v113 : Value} (HS : Aside0 (Seek W W1 x g s U h f g1 s1 l1)) (hfl : f = 0 ∨ f ≠ l1)
    (hC : Aside0 (∀ (n8 n10 n11 n39 n40 n41 n42 n43 n44 n45 n46 n47 n48 n49 n50 n51 n52 n53 n54 n55 n56 n57 n58 n59 n60 n61 n62 n63 n64 n65 n66 n67 n68 n69 n70 n71 n72 n73 n74 n75 n76 n77 n78 n79 : Value) (f2 : Nat), f < f2 → Seek W W1 x g s U h f2 g1 s1 l1 → Q (.exit 1) ⟨#[.pointer (some ⟨x, 0, none⟩), .int .i64 (p : Int), .slice (some ⟨cb, 0, none⟩) chars.length cc, v3, v4, v5, .int .i64 (f2 : Int), .int .i64 (rp : Int), n8, v9, n10, n11, v12, v13, v14, v15, v16, v17, v18, v19, v20, v21, v22, v23, v24, v25, v26, v27, v28, v29, v30, v31, v32, v33, v34, v35, v36, v37, v38, n39, n40, n41, n42, n43, n44, n45, n46, n47, n48, n49, n50, n51, n52, n53, n54, n55, n56, n57, n58, n59, n60, n61, n62, n63, n64, n65, n66, n67, n68, n69, n70, n71, n72, n73, n74, n75, n76, n77, n78, n79, v80, v81, v82, v83, v84, v85, v86, v87, v88, v89, v90, v91, v92, v93, v94, v95, v96, v97, v98, v99, v100, v101, v102, v103, v104, v105, v106, v107, v108, v109, v110, v111, v112, v113], []⟩ W1))
    (hG : Aside0 (∀ (n8 n10 n11 n39 n40 n41 n42 n43 n44 n45 n46 n47 n48 n49 n50 n51 n52 n53 n54 n55 n56 n57 n58 n59 n60 n61 n62 n63 n64 n65 n66 n67 n68 n69 n70 n71 n72 n73 n74 n75 n76 n77 n78 n79 : Value) (f2 : Nat), f < f2 → Seek W W1 x g s U h f2 g1 s1 l1 → Q (.goto 0) ⟨#[.pointer (some ⟨x, 0, none⟩), .int .i64 (p : Int), .slice (some ⟨cb, 0, none⟩) chars.length cc, v3, v4, v5, .int .i64 (f2 : Int), .int .i64 (rp : Int), n8, v9, n10, n11, v12, v13, v14, v15, v16, v17, v18, v19, v20, v21, v22, v23, v24, v25, v26, v27, v28, v29, v30, v31, v32, v33, v34, v35, v36, v37, v38, n39, n40, n41, n42, n43, n44, n45, n46, n47, n48, n49, n50, n51, n52, n53, n54, n55, n56, n57, n58, n59, n60, n61, n62, n63, n64, n65, n66, n67, n68, n69, n70, n71, n72, n73, n74, n75, n76, n77, n78, n79, v80, v81, v82, v83, v84, v85, v86, v87, v88, v89, v90, v91, v92, v93, v94, v95, v96, v97, v98, v99, v100, v101, v102, v103, v104, v105, v106, v107, v108, v109, v110, v111, v112, v113], []⟩ W1))
    (hX : Aside0 (∀ (n10 n11 n39 n40 n41 n42 n43 n44 n45 n46 n47 n48 n49 n50 n51 n52 n53 n54 n55 n56 n57 n58 n59 n60 n61 n62 n63 n64 n65 n66 n67 n68 n69 n70 n71 n72 n73 n74 n75 n76 n77 n78 n79 : Value) (f2 b : Nat), Found W W1 x g s U h g1 s1 l1 chars b → Q (.exit 0) ⟨#[.pointer (some ⟨x, 0, none⟩), .int .i64 (p : Int), .slice (some ⟨cb, 0, none⟩) chars.length cc, v3, v4, v5, .int .i64 (f2 : Int), .int .i64 (rp : Int), .int .i64 (b : Int), v9, n10, n11, v12, v13, v14, v15, v16, v17, v18, v19, v20, v21, v22, v23, v24, v25, v26, v27, v28, v29, v30, v31, v32, v33, v34, v35, v36, v37, v38, n39, n40, n41, n42, n43, n44, n45, n46, n47, n48, n49, n50, n51, n52, n53, n54, n55, n56, n57, n58, n59, n60, n61, n62, n63, n64, n65, n66, n67, n68, n69, n70, n71, n72, n73, n74, n75, n76, n77, n78, n79, v80, v81, v82, v83, v84, v85, v86, v87, v88, v89, v90, v91, v92, v93, v94, v95, v96, v97, v98, v99, v100, v101, v102, v103, v104, v105, v106, v107, v108, v109, v110, v111, v112, v113], []⟩ W1)) :
    Code.wp Tryz.prog vtail Q ⟨#[.pointer (some ⟨x, 0, none⟩), .int .i64 (p : Int), .slice (some ⟨cb, 0, none⟩) chars.length cc, v3, v4, v5, .int .i64 (f : Int), .int .i64 (rp : Int), v8, v9, v10, v11, v12, v13, v14, v15, v16, v17, v18, v19, v20, v21, v22, v23, v24, v25, v26, v27, v28, v29, v30, v31, v32, v33, v34, v35, v36, v37, v38, v39, v40, v41, v42, v43, v44, v45, v46, v47, v48, v49, v50, v51, v52, v53, v54, v55, v56, v57, v58, v59, v60, v61, v62, v63, v64, v65, v66, v67, v68, v69, v70, v71, v72, v73, v74, v75, v76, v77, v78, v79, v80, v81, v82, v83, v84, v85, v86, v87, v88, v89, v90, v91, v92, v93, v94, v95, v96, v97, v98, v99, v100, v101, v102, v103, v104, v105, v106, v107, v108, v109, v110, v111, v112, v113], []⟩ W1 := by
  conv => arg 2; whnf
  conv => arg 4; zeta
  have S := HS.out
  obtain ⟨f2, e2, q1, q2, q3, q4⟩ := next_free S.ring S.u (by rcases S.fr with h | ⟨a, b, c⟩; exact Or.inl h; exact (by rcases hfl with h | h; exact Or.inl h; exact Or.inr ⟨a, b, c, h⟩)) S.fu
  have hfn : f < s1.n := by omega
  have hfz : (f : Int) < (s1.n : Int) := by omega
  have bx := S.mem.box
  have cf : W1.cell? ⟨g1, f * 2 + 1, none⟩ = some (.int .i32 (-(f2 : Int))) := (S.mem.chk f hfn).trans (congrArg (fun v => some (Value.int .i32 v)) e2)
  have big := S.mem.big
  have hrow : Row W1 cb chars := HRow.out.step (S.kp.old cb HRow.out.lt (by rintro (e | e); exact cx e; exact cg e))
  have HR1 := Aside0.mk hrow
  have hnext : f2 ≤ U → Seek W W1 x g s U h f2 g1 s1 l1 := fun hu => ⟨S.same, S.mem, S.ring, S.gg, S.kp, S.n, S.lo, S.u, Or.inr ⟨by omega, q2, q3⟩, hu⟩
  have HN := Aside0.mk hnext
  have big2 : s1.n ≤ 2 * U + 60000 := S.n
  clear S e2 hrow hnext
  by_cases hb : f2 ≤ rp
  · have hbz : (f2 : Int) - (rp : Int) ≤ 0 := by omega
    go_wp2_with fail
    exact hC.out _ _ _ _ _ _ _ _ _ _ _ _ _ _ _ _ _ _ _ _ _ _ _ _ _ _ _ _ _ _ _ _ _ _ _ _ _ _ _ _ _ _ _ _ f2 q1 (HN.out (by omega))
  · have hbz : ¬ (f2 : Int) - (rp : Int) ≤ 0 := by omega
    obtain ⟨b, hbe⟩ : ∃ b : Nat, (f2 : Int) - (rp : Int) = (b : Int) := ⟨f2 - rp, by omega⟩
    have hb1 : 1 ≤ b := by omega
    have hb2 : b ≤ U + 1 := by omega
    have HBE : Aside0 (b + rp = f2) := ⟨by omega⟩
    go_upto_region 8 with fail
    try rw [hbe]
    clear hbe hbz
    go_wp2_with fail
    go_loopg [55] chars.length (fun kq y55 w' => ∃ j : Nat, y55 = .int .i64 j ∧ Aside0 (j + kq = chars.length) ∧ Aside0 (w' = W1) ∧ Aside0 (∀ i, i < j → b + (chars.getD i 0).toNat < s1.n → s1.C (b + (chars.getD i 0).toNat) < 0))
    case atStart => exact ⟨0, rfl, ⟨by omega⟩, ⟨rfl⟩, ⟨fun i hi => absurd hi (Nat.not_lt_zero _)⟩⟩
    case round =>
      obtain ⟨j, rfl, HJ, hw, HOK⟩ := hrel
      obtain rfl := hw.out
      clear hw
      have hj := HJ.out
      by_cases hjl : j < chars.length
      · have hjz : (j : Int) < (chars.length : Int) := by omega
        have rc := HR1.out.cell j hjl
        have hm : chars.getD j 0 ∈ chars := by rw [List.getD_eq_getElem?_getD, List.getElem?_eq_getElem hjl]; exact List.getElem_mem hjl
        have hc1 := HC.out _ hm
        have hc2 := HA.out _ hm
        obtain ⟨c, hc⟩ : ∃ c : Nat, chars.getD j 0 = (c : Int) := ⟨(chars.getD j 0).toNat, by omega⟩
        rw [hc] at rc hc1 hc2
        have HCJ := Aside0.mk hc
        clear hc hm
        cases gk with
        | zero => omega
        | succ kz =>
        have hrnd : (b + c < s1.n → s1.C (b + c) < 0) → ∀ i, i < j + 1 → b + (chars.getD i 0).toNat < s1.n → s1.C (b + (chars.getD i 0).toNat) < 0 := fun hk i hi => by
          rcases Nat.lt_or_ge i j with hlt | hge
          · exact HOK.out i hlt
          · obtain rfl : i = j := by omega
            rw [HCJ.out, Int.toNat_natCast]; exact hk
        have HRN := Aside0.mk hrnd
        clear hrnd
        by_cases hq : b + c < s1.n
        · have hqz : (b : Int) + (c : Int) < (s1.n : Int) := by omega
          have cq := HS.out.mem.chk (b + c) hq
          obtain ⟨cv, hcv⟩ : ∃ cv, s1.C (b + c) = cv := ⟨_, rfl⟩
          rw [hcv] at cq
          by_cases hu : cv < 0
          · have huz : ¬ cv ≥ 0 := by omega
            have HCV := Aside0.mk hcv
            clear hcv
            go_wp2_with fail
            go_roundg kz
            case measure => omega
            case rel => exact ⟨j + 1, congrArg (Value.int .i64) (by omega), ⟨by omega⟩, ⟨rfl⟩, ⟨HRN.out (fun _ => by rw [HCV.out]; exact hu)⟩⟩
          · have huz : cv ≥ 0 := by omega
            have hle := HS.out.u (b + c) ⟨by omega, hq, by omega⟩
            clear hcv
            go_wp2_with fail
            go_step3
            exact hG.out _ _ _ _ _ _ _ _ _ _ _ _ _ _ _ _ _ _ _ _ _ _ _ _ _ _ _ _ _ _ _ _ _ _ _ _ _ _ _ _ _ _ _ _ f2 q1 (HN.out (by have := HBE.out; omega))
        · have hqz : ¬ (b : Int) + (c : Int) < (s1.n : Int) := by omega
          go_wp2_with fail
          go_roundg kz
          case measure => omega
          case rel => exact ⟨j + 1, congrArg (Value.int .i64) (by omega), ⟨by omega⟩, ⟨rfl⟩, ⟨HRN.out (fun h => absurd h hq)⟩⟩
      · have hjz : ¬ (j : Int) < (chars.length : Int) := by omega
        go_wp2_with fail
        exact hX.out _ _ _ _ _ _ _ _ _ _ _ _ _ _ _ _ _ _ _ _ _ _ _ _ _ _ _ _ _ _ _ _ _ _ _ _ _ _ _ _ _ _ _ f2 b ⟨HS.out.same, HS.out.mem, HS.out.ring, HS.out.gg, HS.out.kp, HS.out.n, HS.out.lo, HS.out.u, hb1, hb2, (by have := HBE.out; omega), fun c hc hn => by
          obtain ⟨i, hi, e⟩ := List.getElem_of_mem hc
          have := HOK.out i (by omega)
          rw [List.getD_eq_getElem?_getD, List.getElem?_eq_getElem hi, Option.getD_some, e] at this
          exact this hn⟩
noncomputable def vhead : Code := pth [false, true, true, true, true, false, false, false, false, false] (Tryz.f80.body.getD .skip)
noncomputable def vbody : Code := pth [false, true, true, true, true, false, false, false, false] (Tryz.f80.body.getD .skip)
set_option maxHeartbeats 16000000 in
set_option maxRecDepth 100000 in
theorem seek_round (W : World) (x g p cb cc rp : Nat) (s : DA) (h U : Nat) (chars : List Int) (hU : 255 ≤ U) (hU2 : U ≤ 16777216) (HRow : Aside0 (Row W cb chars)) (cx : cb ≠ x) (cg : cb ≠ g) (h0 : 0 < chars.length) (hcc : chars.length ≤ 256) (HC : Aside0 (∀ c ∈ chars, 0 ≤ c ∧ c ≤ 255)) (HA : Aside0 (∀ c ∈ chars, (rp : Int) ≤ c)) (hr0 : chars.getD 0 0 = (rp : Int)) (hrp : rp ≤ 255) (f g1 l1 : Nat) (s1 : DA) (W1 : World) {Q : Exit → Act → World → Prop} {v3 v4 v5 v8 v9 v10 v11 v12 v13 v14 v15 v16 v17 v18 v19 v20 v21 v22 v23 v24 v25 v26 v27 v28 v29 v30 v31 v32 v33 v34 v35 v36 v37 v38 v39 v40 v41 v42 v43 v44 v45 v46 v47 v48 v49 v50 v51 v52 v53 v54 v55 v56 v57 v58 v59 v60 v61 v62 v63 v64 v65 v66 v67 v68 v69 v70 v71 v72 v73 v74 v75 v76 v77 v78 v79 v80 v81 v82 v83 v84 v85 v86 v87 v88 v89 v90 v91 v92 v93 v94 v95 v96 v97 v98 v99 v100 v101 v102 v103 v104 v105 v106 v107 v108 v109 v110 v111 v112 v113 : Value} (HS : Aside0 (Seek W W1 x g s U h f g1 s1 l1))
    (hC : Aside0 (∀ (n8 n10 n11 n19 n20 n21 n22 n23 n24 n25 n26 n27 n28 n29 n30 n31 n32 n33 n34 n35 n36 n37 n38 n39 n40 n41 n42 n43 n44 n45 n46 n47 n48 n49 n50 n51 n52 n53 n54 n55 n56 n57 n58 n59 n60 n61 n62 n63 n64 n65 n66 n67 n68 n69 n70 n71 n72 n73 n74 n75 n76 n77 n78 n79 : Value) (f2 g2 l2 : Nat) (s2 : DA) (W2 : World), f < f2 → Seek W W2 x g s U h f2 g2 s2 l2 → Q (.exit 1) ⟨#[.pointer (some ⟨x, 0, none⟩), .int .i64 (p : Int), .slice (some ⟨cb, 0, none⟩) chars.length cc, v3, v4, v5, .int .i64 (f2 : Int), .int .i64 (rp : Int), n8, v9, n10, n11, v12, v13, v14, v15, v16, v17, v18, n19, n20, n21, n22, n23, n24, n25, n26, n27, n28, n29, n30, n31, n32, n33, n34, n35, n36, n37, n38, n39, n40, n41, n42, n43, n44, n45, n46, n47, n48, n49, n50, n51, n52, n53, n54, n55, n56, n57, n58, n59, n60, n61, n62, n63, n64, n65, n66, n67, n68, n69, n70, n71, n72, n73, n74, n75, n76, n77, n78, n79, v80, v81, v82, v83, v84, v85, v86, v87, v88, v89, v90, v91, v92, v93, v94, v95, v96, v97, v98, v99, v100, v101, v102, v103, v104, v105, v106, v107, v108, v109, v110, v111, v112, v113], []⟩ W2))
    (hG : Aside0 (∀ (n8 n10 n11 n19 n20 n21 n22 n23 n24 n25 n26 n27 n28 n29 n30 n31 n32 n33 n34 n35 n36 n37 n38 n39 n40 n41 n42 n43 n44 n45 n46 n47 n48 n49 n50 n51 n52 n53 n54 n55 n56 n57 n58 n59 n60 n61 n62 n63 n64 n65 n66 n67 n68 n69 n70 n71 n72 n73 n74 n75 n76 n77 n78 n79 : Value) (f2 g2 l2 : Nat) (s2 : DA) (W2 : World), f < f2 → Seek W W2 x g s U h f2 g2 s2 l2 → Q (.goto 0) ⟨#[.pointer (some ⟨x, 0, none⟩), .int .i64 (p : Int), .slice (some ⟨cb, 0, none⟩) chars.length cc, v3, v4, v5, .int .i64 (f2 : Int), .int .i64 (rp : Int), n8, v9, n10, n11, v12, v13, v14, v15, v16, v17, v18, n19, n20, n21, n22, n23, n24, n25, n26, n27, n28, n29, n30, n31, n32, n33, n34, n35, n36, n37, n38, n39, n40, n41, n42, n43, n44, n45, n46, n47, n48, n49, n50, n51, n52, n53, n54, n55, n56, n57, n58, n59, n60, n61, n62, n63, n64, n65, n66, n67, n68, n69, n70, n71, n72, n73, n74, n75, n76, n77, n78, n79, v80, v81, v82, v83, v84, v85, v86, v87, v88, v89, v90, v91, v92, v93, v94, v95, v96, v97, v98, v99, v100, v101, v102, v103, v104, v105, v106, v107, v108, v109, v110, v111, v112, v113], []⟩ W2))
    (hX : Aside0 (∀ (n10 n11 n19 n20 n21 n22 n23 n24 n25 n26 n27 n28 n29 n30 n31 n32 n33 n34 n35 n36 n37 n38 n39 n40 n41 n42 n43 n44 n45 n46 n47 n48 n49 n50 n51 n52 n53 n54 n55 n56 n57 n58 n59 n60 n61 n62 n63 n64 n65 n66 n67 n68 n69 n70 n71 n72 n73 n74 n75 n76 n77 n78 n79 : Value) (f2 b g2 l2 : Nat) (s2 : DA) (W2 : World), Found W W2 x g s U h g2 s2 l2 chars b → Q (.exit 0) ⟨#[.pointer (some ⟨x, 0, none⟩), .int .i64 (p : Int), .slice (some ⟨cb, 0, none⟩) chars.length cc, v3, v4, v5, .int .i64 (f2 : Int), .int .i64 (rp : Int), .int .i64 (b : Int), v9, n10, n11, v12, v13, v14, v15, v16, v17, v18, n19, n20, n21, n22, n23, n24, n25, n26, n27, n28, n29, n30, n31, n32, n33, n34, n35, n36, n37, n38, n39, n40, n41, n42, n43, n44, n45, n46, n47, n48, n49, n50, n51, n52, n53, n54, n55, n56, n57, n58, n59, n60, n61, n62, n63, n64, n65, n66, n67, n68, n69, n70, n71, n72, n73, n74, n75, n76, n77, n78, n79, v80, v81, v82, v83, v84, v85, v86, v87, v88, v89, v90, v91, v92, v93, v94, v95, v96, v97, v98, v99, v100, v101, v102, v103, v104, v105, v106, v107, v108, v109, v110, v111, v112, v113], []⟩ W2)) :
    Code.wp Tryz.prog vbody Q ⟨#[.pointer (some ⟨x, 0, none⟩), .int .i64 (p : Int), .slice (some ⟨cb, 0, none⟩) chars.length cc, v3, v4, v5, .int .i64 (f : Int), .int .i64 (rp : Int), v8, v9, v10, v11, v12, v13, v14, v15, v16, v17, v18, v19, v20, v21, v22, v23, v24, v25, v26, v27, v28, v29, v30, v31, v32, v33, v34, v35, v36, v37, v38, v39, v40, v41, v42, v43, v44, v45, v46, v47, v48, v49, v50, v51, v52, v53, v54, v55, v56, v57, v58, v59, v60, v61, v62, v63, v64, v65, v66, v67, v68, v69, v70, v71, v72, v73, v74, v75, v76, v77, v78, v79, v80, v81, v82, v83, v84, v85, v86, v87, v88, v89, v90, v91, v92, v93, v94, v95, v96, v97, v98, v99, v100, v101, v102, v103, v104, v105, v106, v107, v108, v109, v110, v111, v112, v113], []⟩ W1 := by
  show Code.wp Tryz.prog (Code.seq vhead vtail) Q _ W1
  refine wp_seq_k fun K hK_ => ?_
  have hK := Aside0.mk hK_
  clear hK_
  conv => arg 2; whnf
  conv => arg 4; zeta
  have S := HS.out
  have bx := S.mem.box
  have hn0 : 0 < s1.n := by have := S.lo; omega
  have cr := S.mem.chk 0 hn0
  rw [Nat.zero_mul, Nat.zero_add, S.ring.root] at cr
  have big := S.mem.big
  have r1 := S.ring.h1
  have r2 := S.ring.hl
  have r3 := S.ring.ln
  rcases S.fr with hf0 | ⟨ha, hb, hf⟩
  · have HF := Aside0.mk hf0
    subst hf0
    clear S
    go_wp2_with fail
    go_quiet (fail)
    go_wp2_with fail
    exact hK.out _ _ (seek_tail W x g p cb cc rp s h U chars hU hU2 HRow cx cg h0 hcc HC HA hr0 hrp 0 _ _ _ _ ⟨HS.out.drewN _⟩ (Or.inl rfl) ⟨fun n8 n10 n11 n39 n40 n41 n42 n43 n44 n45 n46 n47 n48 n49 n50 n51 n52 n53 n54 n55 n56 n57 n58 n59 n60 n61 n62 n63 n64 n65 n66 n67 n68 n69 n70 n71 n72 n73 n74 n75 n76 n77 n78 n79 f2 a b => hC.out _ _ _ _ _ _ _ _ _ _ _ _ _ _ _ _ _ _ _ _ _ _ _ _ _ _ _ _ _ _ _ _ _ _ _ _ _ _ _ _ _ _ _ _ _ _ _ _ _ _ _ _ _ _ _ _ _ _ _ _ _ _ _ _ f2 _ _ _ _ a b⟩ ⟨fun n8 n10 n11 n39 n40 n41 n42 n43 n44 n45 n46 n47 n48 n49 n50 n51 n52 n53 n54 n55 n56 n57 n58 n59 n60 n61 n62 n63 n64 n65 n66 n67 n68 n69 n70 n71 n72 n73 n74 n75 n76 n77 n78 n79 f2 a b => hG.out _ _ _ _ _ _ _ _ _ _ _ _ _ _ _ _ _ _ _ _ _ _ _ _ _ _ _ _ _ _ _ _ _ _ _ _ _ _ _ _ _ _ _ _ _ _ _ _ _ _ _ _ _ _ _ _ _ _ _ _ _ _ _ _ f2 _ _ _ _ a b⟩ ⟨fun n10 n11 n39 n40 n41 n42 n43 n44 n45 n46 n47 n48 n49 n50 n51 n52 n53 n54 n55 n56 n57 n58 n59 n60 n61 n62 n63 n64 n65 n66 n67 n68 n69 n70 n71 n72 n73 n74 n75 n76 n77 n78 n79 f2 b a => hX.out _ _ _ _ _ _ _ _ _ _ _ _ _ _ _ _ _ _ _ _ _ _ _ _ _ _ _ _ _ _ _ _ _ _ _ _ _ _ _ _ _ _ _ _ _ _ _ _ _ _ _ _ _ _ _ _ _ _ _ _ _ _ _ f2 b _ _ _ _ a⟩)
  · have hfz : ((f : Int) != 0) = true := by rw [bne_iff_ne]; omega
    have hfn : (f : Int) < (s1.n : Int) := by omega
    by_cases hl : f = l1
    · subst hl
      have cf : W1.cell? ⟨g1, f * 2 + 1, none⟩ = some (.int .i32 (-(h : Int))) := (S.mem.chk f hb).trans (congrArg (fun v => some (Value.int .i32 v)) S.ring.wc)
      have HE : Aside0 (∀ nq, Calls Tryz.prog 100 #[.pointer (some ⟨x, 0, none⟩)] (W1.drewN nq) fun e w' => Exp (W1.drewN nq) x (s1.grow h f) e w') := ⟨fun nq => expand_calls _ x g1 s1 h f (S.mem.drewN nq) S.ring (by have := S.lo; omega) (by have := last_end S.ring S.u S.fu; omega)⟩
      clear S
      go_wp2_with fail
      go_quiet (fail)
      go_wp2_with (go_at_call 100; (with_reducible refine (HE.out _).mono ?_); rintro e_ W2 hE; obtain ⟨rfl, g2, hS2⟩ := seek_grow (HS.out.drewN _) hE; have HS2 := Aside0.mk hS2; clear hE hS2)
      exact hK.out _ _ (seek_tail W x g p cb cc rp s h U chars hU hU2 HRow cx cg h0 hcc HC HA hr0 hrp f _ _ _ _ HS2 (Or.inr (by omega)) ⟨fun n8 n10 n11 n39 n40 n41 n42 n43 n44 n45 n46 n47 n48 n49 n50 n51 n52 n53 n54 n55 n56 n57 n58 n59 n60 n61 n62 n63 n64 n65 n66 n67 n68 n69 n70 n71 n72 n73 n74 n75 n76 n77 n78 n79 f2 a b => hC.out _ _ _ _ _ _ _ _ _ _ _ _ _ _ _ _ _ _ _ _ _ _ _ _ _ _ _ _ _ _ _ _ _ _ _ _ _ _ _ _ _ _ _ _ _ _ _ _ _ _ _ _ _ _ _ _ _ _ _ _ _ _ _ _ f2 _ _ _ _ a b⟩ ⟨fun n8 n10 n11 n39 n40 n41 n42 n43 n44 n45 n46 n47 n48 n49 n50 n51 n52 n53 n54 n55 n56 n57 n58 n59 n60 n61 n62 n63 n64 n65 n66 n67 n68 n69 n70 n71 n72 n73 n74 n75 n76 n77 n78 n79 f2 a b => hG.out _ _ _ _ _ _ _ _ _ _ _ _ _ _ _ _ _ _ _ _ _ _ _ _ _ _ _ _ _ _ _ _ _ _ _ _ _ _ _ _ _ _ _ _ _ _ _ _ _ _ _ _ _ _ _ _ _ _ _ _ _ _ _ _ f2 _ _ _ _ a b⟩ ⟨fun n10 n11 n39 n40 n41 n42 n43 n44 n45 n46 n47 n48 n49 n50 n51 n52 n53 n54 n55 n56 n57 n58 n59 n60 n61 n62 n63 n64 n65 n66 n67 n68 n69 n70 n71 n72 n73 n74 n75 n76 n77 n78 n79 f2 b a => hX.out _ _ _ _ _ _ _ _ _ _ _ _ _ _ _ _ _ _ _ _ _ _ _ _ _ _ _ _ _ _ _ _ _ _ _ _ _ _ _ _ _ _ _ _ _ _ _ _ _ _ _ _ _ _ _ _ _ _ _ _ _ _ _ f2 b _ _ _ _ a⟩)
    · obtain ⟨z, z1, z2, z3, z4, z5, z6⟩ := S.ring.nx f ha hb hf hl
      have hzh := S.ring.ge_h ha hf
      have cf : W1.cell? ⟨g1, f * 2 + 1, none⟩ = some (.int .i32 (-(z : Int))) := (S.mem.chk f hb).trans (congrArg (fun v => some (Value.int .i32 v)) z3)
      have hcmp : (-(z : Int) == -(h : Int)) = false := by rw [beq_eq_false_iff_ne]; omega
      clear S z3 z4 z5 z6
      go_wp2_with fail
      go_quiet (fail)
      go_wp2_with fail
      exact hK.out _ _ (seek_tail W x g p cb cc rp s h U chars hU hU2 HRow cx cg h0 hcc HC HA hr0 hrp f _ _ _ _ ⟨HS.out.drewN _⟩ (Or.inr hl) ⟨fun n8 n10 n11 n39 n40 n41 n42 n43 n44 n45 n46 n47 n48 n49 n50 n51 n52 n53 n54 n55 n56 n57 n58 n59 n60 n61 n62 n63 n64 n65 n66 n67 n68 n69 n70 n71 n72 n73 n74 n75 n76 n77 n78 n79 f2 a b => hC.out _ _ _ _ _ _ _ _ _ _ _ _ _ _ _ _ _ _ _ _ _ _ _ _ _ _ _ _ _ _ _ _ _ _ _ _ _ _ _ _ _ _ _ _ _ _ _ _ _ _ _ _ _ _ _ _ _ _ _ _ _ _ _ _ f2 _ _ _ _ a b⟩ ⟨fun n8 n10 n11 n39 n40 n41 n42 n43 n44 n45 n46 n47 n48 n49 n50 n51 n52 n53 n54 n55 n56 n57 n58 n59 n60 n61 n62 n63 n64 n65 n66 n67 n68 n69 n70 n71 n72 n73 n74 n75 n76 n77 n78 n79 f2 a b => hG.out _ _ _ _ _ _ _ _ _ _ _ _ _ _ _ _ _ _ _ _ _ _ _ _ _ _ _ _ _ _ _ _ _ _ _ _ _ _ _ _ _ _ _ _ _ _ _ _ _ _ _ _ _ _ _ _ _ _ _ _ _ _ _ _ f2 _ _ _ _ a b⟩ ⟨fun n10 n11 n39 n40 n41 n42 n43 n44 n45 n46 n47 n48 n49 n50 n51 n52 n53 n54 n55 n56 n57 n58 n59 n60 n61 n62 n63 n64 n65 n66 n67 n68 n69 n70 n71 n72 n73 n74 n75 n76 n77 n78 n79 f2 b a => hX.out _ _ _ _ _ _ _ _ _ _ _ _ _ _ _ _ _ _ _ _ _ _ _ _ _ _ _ _ _ _ _ _ _ _ _ _ _ _ _ _ _ _ _ _ _ _ _ _ _ _ _ _ _ _ _ _ _ _ _ _ _ _ _ f2 b _ _ _ _ a⟩)
noncomputable def vblock0 : Code := pth [false, true, true, true, true, false] (Tryz.f80.body.getD .skip)
set_option maxHeartbeats 16000000 in
set_option maxRecDepth 100000 in
theorem seek_loop (W : World) (x g p cb cc rp : Nat) (s : DA) (h U : Nat) (chars : List Int) (hU : 255 ≤ U) (hU2 : U ≤ 16777216) (HRow : Aside0 (Row W cb chars)) (cx : cb ≠ x) (cg : cb ≠ g) (h0 : 0 < chars.length) (hcc : chars.length ≤ 256) (HC : Aside0 (∀ c ∈ chars, 0 ≤ c ∧ c ≤ 255)) (HA : Aside0 (∀ c ∈ chars, (rp : Int) ≤ c)) (hr0 : chars.getD 0 0 = (rp : Int)) (hrp : rp ≤ 255) (f0 g1 l1 : Nat) (s1 : DA) (W1 : World) {Q : Exit → Act → World → Prop} {v3 v4 v5 v8 v9 v10 v11 v12 v13 v14 v15 v16 v17 v18 v19 v20 v21 v22 v23 v24 v25 v26 v27 v28 v29 v30 v31 v32 v33 v34 v35 v36 v37 v38 v39 v40 v41 v42 v43 v44 v45 v46 v47 v48 v49 v50 v51 v52 v53 v54 v55 v56 v57 v58 v59 v60 v61 v62 v63 v64 v65 v66 v67 v68 v69 v70 v71 v72 v73 v74 v75 v76 v77 v78 v79 v80 v81 v82 v83 v84 v85 v86 v87 v88 v89 v90 v91 v92 v93 v94 v95 v96 v97 v98 v99 v100 v101 v102 v103 v104 v105 v106 v107 v108 v109 v110 v111 v112 v113 : Value} (HS : Aside0 (Seek W W1 x g s U h f0 g1 s1 l1))
    (hG : Aside0 (∀ (n8 n10 n11 n19 n20 n21 n22 n23 n24 n25 n26 n27 n28 n29 n30 n31 n32 n33 n34 n35 n36 n37 n38 n39 n40 n41 n42 n43 n44 n45 n46 n47 n48 n49 n50 n51 n52 n53 n54 n55 n56 n57 n58 n59 n60 n61 n62 n63 n64 n65 n66 n67 n68 n69 n70 n71 n72 n73 n74 n75 n76 n77 n78 n79 : Value) (f2 g2 l2 : Nat) (s2 : DA) (W2 : World), f0 < f2 → Seek W W2 x g s U h f2 g2 s2 l2 → Q (.goto 0) ⟨#[.pointer (some ⟨x, 0, none⟩), .int .i64 (p : Int), .slice (some ⟨cb, 0, none⟩) chars.length cc, v3, v4, v5, .int .i64 (f2 : Int), .int .i64 (rp : Int), n8, v9, n10, n11, v12, v13, v14, v15, v16, v17, v18, n19, n20, n21, n22, n23, n24, n25, n26, n27, n28, n29, n30, n31, n32, n33, n34, n35, n36, n37, n38, n39, n40, n41, n42, n43, n44, n45, n46, n47, n48, n49, n50, n51, n52, n53, n54, n55, n56, n57, n58, n59, n60, n61, n62, n63, n64, n65, n66, n67, n68, n69, n70, n71, n72, n73, n74, n75, n76, n77, n78, n79, v80, v81, v82, v83, v84, v85, v86, v87, v88, v89, v90, v91, v92, v93, v94, v95, v96, v97, v98, v99, v100, v101, v102, v103, v104, v105, v106, v107, v108, v109, v110, v111, v112, v113], []⟩ W2))
    (hX : Aside0 (∀ (n10 n11 n19 n20 n21 n22 n23 n24 n25 n26 n27 n28 n29 n30 n31 n32 n33 n34 n35 n36 n37 n38 n39 n40 n41 n42 n43 n44 n45 n46 n47 n48 n49 n50 n51 n52 n53 n54 n55 n56 n57 n58 n59 n60 n61 n62 n63 n64 n65 n66 n67 n68 n69 n70 n71 n72 n73 n74 n75 n76 n77 n78 n79 : Value) (f2 b g2 l2 : Nat) (s2 : DA) (W2 : World), Found W W2 x g s U h g2 s2 l2 chars b → Q .normal ⟨#[.pointer (some ⟨x, 0, none⟩), .int .i64 (p : Int), .slice (some ⟨cb, 0, none⟩) chars.length cc, v3, v4, v5, .int .i64 (f2 : Int), .int .i64 (rp : Int), .int .i64 (b : Int), v9, n10, n11, v12, v13, v14, v15, v16, v17, v18, n19, n20, n21, n22, n23, n24, n25, n26, n27, n28, n29, n30, n31, n32, n33, n34, n35, n36, n37, n38, n39, n40, n41, n42, n43, n44, n45, n46, n47, n48, n49, n50, n51, n52, n53, n54, n55, n56, n57, n58, n59, n60, n61, n62, n63, n64, n65, n66, n67, n68, n69, n70, n71, n72, n73, n74, n75, n76, n77, n78, n79, v80, v81, v82, v83, v84, v85, v86, v87, v88, v89, v90, v91, v92, v93, v94, v95, v96, v97, v98, v99, v100, v101, v102, v103, v104, v105, v106, v107, v108, v109, v110, v111, v112, v113], []⟩ W2)) :
    Code.wp Tryz.prog vblock0 Q ⟨#[.pointer (some ⟨x, 0, none⟩), .int .i64 (p : Int), .slice (some ⟨cb, 0, none⟩) chars.length cc, v3, v4, v5, .int .i64 (f0 : Int), .int .i64 (rp : Int), v8, v9, v10, v11, v12, v13, v14, v15, v16, v17, v18, v19, v20, v21, v22, v23, v24, v25, v26, v27, v28, v29, v30, v31, v32, v33, v34, v35, v36, v37, v38, v39, v40, v41, v42, v43, v44, v45, v46, v47, v48, v49, v50, v51, v52, v53, v54, v55, v56, v57, v58, v59, v60, v61, v62, v63, v64, v65, v66, v67, v68, v69, v70, v71, v72, v73, v74, v75, v76, v77, v78, v79, v80, v81, v82, v83, v84, v85, v86, v87, v88, v89, v90, v91, v92, v93, v94, v95, v96, v97, v98, v99, v100, v101, v102, v103, v104, v105, v106, v107, v108, v109, v110, v111, v112, v113], []⟩ W1 := by
  conv => arg 2; whnf
  conv => arg 4; zeta
  go_wp2_with fail
  go_loopg [6] (U + 1) (fun kq y6 w' => ∃ (f g2 l2 : Nat) (s2 : DA), y6 = .int .i64 (f : Int) ∧ Aside0 (U + 1 ≤ f + kq ∧ f0 ≤ f) ∧ Aside0 (Seek W w' x g s U h f g2 s2 l2))
  case atStart => exact ⟨f0, g1, l1, s1, rfl, ⟨by omega⟩, HS⟩
  case round =>
    clear HS
    obtain ⟨f, g2, l2, s2, rfl, HM, HS⟩ := hrel
    have hm := HM.out
    go_upto_block 1 with fail
    refine wp_block ?_
    refine seek_round W x g p cb cc rp s h U chars hU hU2 HRow cx cg h0 hcc HC HA hr0 hrp f g2 l2 s2 _ HS ⟨?_⟩ ⟨?_⟩ ⟨?_⟩
    · intro n8 n10 n11 n19 n20 n21 n22 n23 n24 n25 n26 n27 n28 n29 n30 n31 n32 n33 n34 n35 n36 n37 n38 n39 n40 n41 n42 n43 n44 n45 n46 n47 n48 n49 n50 n51 n52 n53 n54 n55 n56 n57 n58 n59 n60 n61 n62 n63 n64 n65 n66 n67 n68 n69 n70 n71 n72 n73 n74 n75 n76 n77 n78 n79 f2 g3 l3 s3 W3 hlt hS
      have hfu := hS.fu
      have HS3 := Aside0.mk hS
      clear hS HS
      cases gk with
      | zero => omega
      | succ kz =>
      go_wp2_with fail
      go_roundg kz
      case measure => omega
      case rel => exact ⟨f2, g3, l3, s3, rfl, ⟨by omega⟩, HS3⟩
    · intro n8 n10 n11 n19 n20 n21 n22 n23 n24 n25 n26 n27 n28 n29 n30 n31 n32 n33 n34 n35 n36 n37 n38 n39 n40 n41 n42 n43 n44 n45 n46 n47 n48 n49 n50 n51 n52 n53 n54 n55 n56 n57 n58 n59 n60 n61 n62 n63 n64 n65 n66 n67 n68 n69 n70 n71 n72 n73 n74 n75 n76 n77 n78 n79 f2 g3 l3 s3 W3 hlt hS
      exact hG.out _ _ _ _ _ _ _ _ _ _ _ _ _ _ _ _ _ _ _ _ _ _ _ _ _ _ _ _ _ _ _ _ _ _ _ _ _ _ _ _ _ _ _ _ _ _ _ _ _ _ _ _ _ _ _ _ _ _ _ _ _ _ _ _ f2 g3 l3 s3 W3 (by omega) hS
    · intro n10 n11 n19 n20 n21 n22 n23 n24 n25 n26 n27 n28 n29 n30 n31 n32 n33 n34 n35 n36 n37 n38 n39 n40 n41 n42 n43 n44 n45 n46 n47 n48 n49 n50 n51 n52 n53 n54 n55 n56 n57 n58 n59 n60 n61 n62 n63 n64 n65 n66 n67 n68 n69 n70 n71 n72 n73 n74 n75 n76 n77 n78 n79 f2 b g3 l3 s3 W3 hF
      exact hX.out _ _ _ _ _ _ _ _ _ _ _ _ _ _ _ _ _ _ _ _ _ _ _ _ _ _ _ _ _ _ _ _ _ _ _ _ _ _ _ _ _ _ _ _ _ _ _ _ _ _ _ _ _ _ _ _ _ _ _ _ _ _ _ f2 b g3 l3 s3 W3 hF

end Go.Proofs.YtaejkbjepbifcabGreatDoor.Da
namespace Go.Proofs.YtaejkbjepbifcabGreatDoor.Da
open Go.RowKit Go.Proofs.YtaejkbjepbifcabGreatDoorW.PrintWords
set_option linter.unusedVariables false
set_option linter.unusedSimpArgs false
def Sought (W : World) (x g p U : Nat) (s : DA) (chars : List Int) (w' : World) : Prop :=
  ∃ g' s1 b, (g' = g ∨ W.heap.size ≤ g') ∧ Mem w' x g' s1 ∧ Kp W w' (fun k => k = x ∨ k = g) ∧ Mk s s1 p b chars ∧ (∃ h l, Ring s1 h l) ∧ Bd s1 (U + 512) ∧ b ≤ U + 1
structure Marked (W W' : World) (x g p U : Nat) (s : DA) (b g' : Nat) (s' : DA) (done : List Int) : Prop where
  mp : MkP s s' p b done
  mem : Mem W' x g' s'
  ring : ∃ h l, Ring s' h l
  gg : g' = g ∨ W.heap.size ≤ g'
  kp : Kp W W' (fun k => k = x ∨ k = g)
  n : s'.n ≤ 2 * U + 60600
  lo : 51200 ≤ s'.n
  u : ∀ i, s'.used i → i ≤ U + 256
  bn : b < s'.n
def Based (W W' : World) (x g p U : Nat) (s : DA) (chars : List Int) (g1 : Nat) : Prop :=
  ∃ b s', MkP s s' p b [] ∧ Mem W' x g1 s' ∧ (∃ h l, Ring s' h l) ∧ 1 ≤ b ∧ b ≤ U + 1 ∧ b < s'.n ∧ s'.n ≤ 2 * U + 60000 ∧ 51200 ≤ s'.n ∧ (∀ i, s'.used i → i ≤ U) ∧ (∀ c ∈ chars, ¬ s.used (b + c.toNat)) ∧ Kp W W' (fun k => k = x ∨ k = g) ∧ (g1 = g ∨ W.heap.size ≤ g1)
theorem MB_root {W W1 : World} {x g U h g1 l1 b : Nat} {s s1 : DA} {chars : List Int} (F : Found W W1 x g s U h g1 s1 l1 chars b) (hb : s.B 0 = 1) (hno : ∀ i, ¬ s.used i) : Based W W1 x g 0 U s chars g1 :=
  ⟨1, s1, MkP.root F.same hb, F.mem, ⟨_, _, F.ring⟩, by omega, by omega, by have := F.lo; omega, F.n, F.lo, F.u, fun c _ => hno _, F.kp, F.gg⟩
theorem MB_used {W W1 W2 : World} {x g U h g1 l1 b p : Nat} {s s1 : DA} {chars : List Int} (F : Found W W1 x g s U h g1 s1 l1 chars b) (hp : s.used p) (m : Mem W2 x g1 ⟨s1.n, upd s1.B p b, s1.C⟩) (k : Kp W1 W2 (fun k => k = g1)) : Based W W2 x g p U s chars g1 := by
  refine ⟨b, _, MkP.base F.same hp, m, ⟨_, _, ring_setB F.ring b (F.same.up hp).2.2⟩, F.b1, F.b2, F.bn, F.n, F.lo, fun i hi => F.u i hi, fun c hc hu => ?_, ?_, F.gg⟩
  · have h1 := F.same.up hu
    have := F.ok c hc h1.2.1
    have := h1.2.2
    omega
  · refine ⟨Nat.le_trans F.kp.size k.size, fun i hi hn => ?_, F.kp.env.trans k.env⟩
    rw [k.old i (Nat.lt_of_lt_of_le hi F.kp.size) (fun e => ?_), F.kp.old i hi hn]
    have e : i = g1 := e
    rcases F.gg with h | h
    · exact hn (Or.inr (e.trans h))
    · omega
theorem mark_free {s s2 : DA} {p b c : Nat} {d : List Int} (m : MkP s s2 p b d) (hs : ¬ s.used (b + c)) (hd : ∀ ch ∈ d, (c : Int) ≠ ch) (h0 : ∀ ch ∈ d, 0 ≤ ch) : ¬ s2.used (b + c) := by
  intro hu
  obtain ⟨_, ch, hc, e⟩ := m.only _ hu hs
  have := h0 ch hc
  exact hd ch hc (by omega)
theorem free_of {s : DA} {q : Nat} (h1 : 1 ≤ q) (h2 : q < s.n) (h : ¬ s.used q) : s.C q < 0 := by
  by_cases e : s.C q < 0
  · exact e
  · exact absurd ⟨h1, h2, by omega⟩ h
set_option maxRecDepth 100000 in
theorem sought_fin {W W' : World} {x g p U b g' : Nat} {s s' : DA} {chars : List Int} (M : Marked W W' x g p U s b g' s' chars) (h1 : 1 ≤ b) (h2 : b ≤ U + 1) : Sought W x g p U s chars W' := by
  have hn : s'.n ≤ 2 * (U + 512) + 60000 := by have := M.n; omega
  have hu : ∀ i, s'.used i → i ≤ U + 512 := fun i hi => by have := M.u i hi; omega
  exact ⟨g', s', b, M.gg, M.mem, M.kp, M.mp.fin h1, M.ring, ⟨hu, hn, M.lo⟩, h2⟩
theorem kp_both {W W1 W2 : World} {x g g1 : Nat} (h : Kp W W1 (fun k => k = x ∨ k = g)) (hg : g1 = g ∨ W.heap.size ≤ g1) (k : Kp W1 W2 (fun k => k = x ∨ k = g1)) : Kp W W2 (fun k => k = x ∨ k = g) :=
  ⟨Nat.le_trans h.size k.size, fun i hi hn => by
    rw [k.old i (Nat.lt_of_lt_of_le hi h.size) (fun e => ?_), h.old i hi hn]
    rcases e with e | e
    · exact hn (Or.inl e)
    · rcases hg with hg | hg
      · exact hn (Or.inr (e.trans hg))
      · omega, h.env.trans k.env⟩
theorem marked_grow {W W1 W2 : World} {x g p U b g1 : Nat} {s s1 : DA} {d : List Int} {h l : Nat} (M : Marked W W1 x g p U s b g1 s1 d) (r : Ring s1 h l) (hn : s1.n ≤ U + 256) (hp : p = 0 ∨ s.used p) {e : Ending} (E : Exp W1 x (s1.grow h l) e W2) :
    e = .returned (.tuple #[]) ∧ ∃ g2, Marked W W2 x g p U s b g2 (s1.grow h l) d := by
  obtain ⟨rfl, g2, hg, hm, hk⟩ := E
  have hlo := M.lo
  refine ⟨rfl, g2, M.mp.same hp (same_grow r (by omega)), hm, ⟨_, _, ring_grow r (by omega)⟩, Or.inr (Nat.le_trans M.kp.size hg), kp_both M.kp M.gg (hk.mono (fun _ _ h => Or.inl h)), ?_, ?_, fun i hi => M.u i ((same_grow r (by omega)).new i hi), ?_⟩
  · show 2 * s1.n ≤ _; omega
  · show 51200 ≤ 2 * s1.n; omega
  · have := M.bn; show b < 2 * s1.n; omega
theorem marked_step {W W1 W2 : World} {x g p U b g1 c : Nat} {s s1 : DA} {d : List Int} {h l : Nat} (hb : b ≤ U + 1) (hc : c ≤ 255) (hp : p = 0 ∨ s.used p) (M : Marked W W1 x g p U s b g1 s1 d) (r : Ring s1 h l) (q1 : 1 ≤ b + c) (q2 : b + c < s1.n) (hf : s1.C (b + c) < 0) (hs : ¬ s.used (b + c)) {e : Ending} (E : Chk W1 x g1 s1 (b + c) (p : Int) e W2) :
    e = .returned (.tuple #[]) ∧ ∃ g2 s2, Marked W W2 x g p U s b g2 s2 (d ++ [(c : Int)]) := by
  obtain ⟨rfl, g2, s2, hg, hm, hk, ht, hr, hn⟩ := E
  refine ⟨rfl, g2, s2, M.mp.take hp (by rw [Int.toNat_natCast]; exact ht) (by rw [Int.toNat_natCast]; exact hs), hm, hr, ?_, kp_both M.kp M.gg hk, ?_, Nat.le_trans M.lo ht.n, fun i hi => ?_, Nat.lt_of_lt_of_le M.bn ht.n⟩
  · rcases hg with h | h
    · rw [h]; exact M.gg
    · exact Or.inr (Nat.le_trans M.kp.size h)
  · rcases hn with h | ⟨h, he⟩
    · rw [h]; exact M.n
    · have := two_left r q1 q2 hf he (U + 256) M.u
      omega
  · rcases ht.new i hi with h | h
    · exact M.u i h
    · omega
noncomputable def vmark : Code := pth [false, true, true, true, true, true] (Tryz.f80.body.getD .skip)
set_option maxHeartbeats 16000000 in
set_option maxRecDepth 100000 in
theorem mark_part (W : World) (x g p cb cc rp : Nat) (s : DA) (h U : Nat) (chars : List Int) (hU : 255 ≤ U) (hU2 : U ≤ 16777216) (HRow : Aside0 (Row W cb chars)) (cx : cb ≠ x) (cg : cb ≠ g) (h0 : 0 < chars.length) (hcc : chars.length ≤ 256) (HC : Aside0 (∀ c ∈ chars, 0 ≤ c ∧ c ≤ 255)) (hr0 : chars.getD 0 0 = (rp : Int)) (hrp : rp ≤ 255) (hp : p ≤ 2147483647) (HP : Aside0 ((p = 0 ∧ s.B 0 = 1 ∧ ∀ i, ¬ s.used i) ∨ s.used p)) (HND : Aside0 (chars.Nodup)) (b g1 l1 : Nat) (s1 : DA) (W1 : World) {Q : Exit → Act → World → Prop} {v3 v4 v5 v6 v9 v10 v11 v12 v13 v14 v15 v16 v17 v18 v19 v20 v21 v22 v23 v24 v25 v26 v27 v28 v29 v30 v31 v32 v33 v34 v35 v36 v37 v38 v39 v40 v41 v42 v43 v44 v45 v46 v47 v48 v49 v50 v51 v52 v53 v54 v55 v56 v57 v58 v59 v60 v61 v62 v63 v64 v65 v66 v67 v68 v69 v70 v71 v72 v73 v74 v75 v76 v77 v78 v79 v80 v81 v82 v83 v84 v85 v86 v87 v88 v89 v90 v91 v92 v93 v94 v95 v96 v97 v98 v99 v100 v101 v102 v103 v104 v105 v106 v107 v108 v109 v110 v111 v112 v113 : Value} (HF : Aside0 (Found W W1 x g s U h g1 s1 l1 chars b))
    (hN : Aside0 (∀ (n13 n14 n80 n81 n82 n83 n84 n85 n86 n87 n88 n89 n90 n91 n92 n93 n94 n95 n96 n97 n98 n99 n100 n101 n102 n103 n104 n105 n106 n107 n108 n109 n110 n111 n112 n113 : Value) (W2 : World), Sought W x g p U s chars W2 → Q .normal ⟨#[.pointer (some ⟨x, 0, none⟩), .int .i64 (p : Int), .slice (some ⟨cb, 0, none⟩) chars.length cc, v3, v4, v5, v6, .int .i64 (rp : Int), .int .i64 (b : Int), v9, v10, v11, v12, n13, n14, v15, v16, v17, v18, v19, v20, v21, v22, v23, v24, v25, v26, v27, v28, v29, v30, v31, v32, v33, v34, v35, v36, v37, v38, v39, v40, v41, v42, v43, v44, v45, v46, v47, v48, v49, v50, v51, v52, v53, v54, v55, v56, v57, v58, v59, v60, v61, v62, v63, v64, v65, v66, v67, v68, v69, v70, v71, v72, v73, v74, v75, v76, v77, v78, v79, n80, n81, n82, n83, n84, n85, n86, n87, n88, n89, n90, n91, n92, n93, n94, n95, n96, n97, n98, n99, n100, n101, n102, n103, n104, n105, n106, n107, n108, n109, n110, n111, n112, n113], []⟩ W2)) :
    Code.wp Tryz.prog vmark Q ⟨#[.pointer (some ⟨x, 0, none⟩), .int .i64 (p : Int), .slice (some ⟨cb, 0, none⟩) chars.length cc, v3, v4, v5, v6, .int .i64 (rp : Int), .int .i64 (b : Int), v9, v10, v11, v12, v13, v14, v15, v16, v17, v18, v19, v20, v21, v22, v23, v24, v25, v26, v27, v28, v29, v30, v31, v32, v33, v34, v35, v36, v37, v38, v39, v40, v41, v42, v43, v44, v45, v46, v47, v48, v49, v50, v51, v52, v53, v54, v55, v56, v57, v58, v59, v60, v61, v62, v63, v64, v65, v66, v67, v68, v69, v70, v71, v72, v73, v74, v75, v76, v77, v78, v79, v80, v81, v82, v83, v84, v85, v86, v87, v88, v89, v90, v91, v92, v93, v94, v95, v96, v97, v98, v99, v100, v101, v102, v103, v104, v105, v106, v107, v108, v109, v110, v111, v112, v113], []⟩ W1 := by
  conv => arg 2; whnf
  conv => arg 4; zeta
  have hUz : (b : Int) ≤ 2147483647 := by have := HF.out.b2; omega
  go_upto_region 14 with fail
  go_cut [83] from 80 to 83 (fun y83 wc => Aside0 (Based W wc x g p U s chars g1))
  case first =>
    rcases HP.out with ⟨hp0, hb0, hno⟩ | hu
    · subst hp0
      have HB0 := Aside0.mk (MB_root HF.out hb0 hno)
      clear hb0 hno
      go_wp2_with (go_at_call 101; refine (setBase_root _ x _).mono ?_; rintro _ _ ⟨rfl, rfl⟩)
      go_meet
      case rel => exact HB0
    · have hu1 := HF.out.same.up hu
      have HU1 := Aside0.mk hu1
      have HU := Aside0.mk hu
      clear hu hu1
      have HC1 := Aside0.mk (setBase_used W1 x g1 p s1 (b : Int) HF.out.mem HU1.out (by omega) hUz)
      go_wp2_with (go_at_call 101; refine HC1.out.mono ?_; rintro _ W2 ⟨rfl, hm, hk⟩; have HB0 := Aside0.mk (MB_used HF.out HU.out hm hk); clear hm hk)
      go_meet
      case rel => exact HB0
  case rest =>
    have HB := hcut
    clear hcut
    clear HF
    obtain ⟨b2, sb, hmp, hmem, ⟨hr1, hr2, hring⟩, hb1, hb2, hbn, hn, hlo, hub, hfree, hkp, hgg⟩ := HB.out
    have S0 : Aside0 (Marked W wc x g p U s b2 g1 sb []) := ⟨⟨hmp, hmem, ⟨hr1, hr2, hring⟩, hgg, hkp, by omega, hlo, fun i hi => by have := hub i hi; omega, hbn⟩⟩
    have HFR := Aside0.mk hfree
    clear HB hmp hmem hring hn hlo hbn hub hfree hkp hgg
    go_wp2_with fail
    go_loopg [86] chars.length (fun kq y86 w' => ∃ (j g2 : Nat) (s2 : DA), y86 = .int .i64 (j : Int) ∧ Aside0 (j + kq = chars.length) ∧ Aside0 (Marked W w' x g p U s b2 g2 s2 (chars.take j)))
    case atStart => exact ⟨0, g1, sb, rfl, ⟨by omega⟩, S0⟩
    case round =>
      clear S0
      obtain ⟨j, g2, s2, rfl, HJ, HM⟩ := hrel
      have hj := HJ.out
      by_cases hjl : j < chars.length
      · have hjz : (j : Int) < (chars.length : Int) := by omega
        have M := HM.out
        have rc := (HRow.out.step (M.kp.old cb HRow.out.lt (by rintro (e | e); exact cx e; exact cg e))).cell j hjl
        have hm : chars.getD j 0 ∈ chars := by rw [List.getD_eq_getElem?_getD, List.getElem?_eq_getElem hjl]; exact List.getElem_mem hjl
        have hc1 := HC.out _ hm
        obtain ⟨c, hc⟩ : ∃ c : Nat, chars.getD j 0 = (c : Int) := ⟨(chars.getD j 0).toNat, by omega⟩
        rw [hc] at rc hc1 hm
        have hfr := HFR.out _ hm
        rw [Int.toNat_natCast] at hfr
        have htk : chars.take (j + 1) = chars.take j ++ [(c : Int)] := by
          rw [List.take_succ_eq_append_getElem hjl, ← hc, List.getD_eq_getElem?_getD, List.getElem?_eq_getElem hjl]; rfl
        have HTK := Aside0.mk htk
        have hnu := mark_free M.mp hfr (fun ch hch e => by
          have h1 := HND.out
          rw [← List.take_append_drop (j + 1) chars, htk] at h1
          have h2 := (List.nodup_append.1 (List.nodup_append.1 h1).1).2.2 ch hch (c : Int) (List.mem_singleton.2 rfl)
          exact h2 e.symm) (fun ch hch => (HC.out ch (List.mem_of_mem_take hch)).1)
        have HFQ := Aside0.mk hfr
        have HNU := Aside0.mk hnu
        have bx := M.mem.box
        have hpn : p < s2.n := by rcases HP.out with ⟨h, _⟩ | h; have := M.lo; omega; exact (M.mp.up h).2.1
        have hpz : (p : Int) < (s2.n : Int) := by omega
        have cp : wr.cell? ⟨g2, p * 2, none⟩ = some (.int .i32 (b2 : Int)) := (M.mem.base p hpn).trans (congrArg (fun v => some (Value.int .i32 v)) M.mp.bp)
        have big := M.mem.big
        obtain ⟨r1, r2, hring⟩ := M.ring
        have HRG := Aside0.mk hring
        have b2z : (b2 : Int) ≤ 2147483647 := by omega
        clear M hc hm hfr htk hnu hring
        cases gk with
        | zero => omega
        | succ kz =>
        by_cases hq : b2 + c < s2.n
        · have hqz : ¬ (b2 : Int) + (c : Int) ≥ (s2.n : Int) := by omega
          go_upto_region 21 with fail
          clear bx cp big hqz
          have hsc := setCheck_calls wr x g2 (b2 + c) s2 r1 r2 (p : Int) HM.out.mem HRG.out (by have := HM.out.lo; omega) (by have := HM.out.n; omega) (by omega) hq (free_of (by omega) hq HNU.out) (by omega) (by omega)
          rw [show ((b2 + c : Nat) : Int) = (b2 : Int) + (c : Int) from by omega] at hsc
          have HSC := Aside0.mk hsc
          clear hsc
          go_wp2_with (go_at_call 102; refine HSC.out.mono ?_; rintro e_ W2 hchk; obtain ⟨rfl, g3, s3, hM3⟩ := marked_step hb2 (by omega) (HP.out.imp (fun h => h.1) id) HM.out HRG.out (by omega) hq (free_of (by omega) hq HNU.out) HFQ.out hchk; have HM3 := Aside0.mk hM3; clear hchk hM3)
          go_roundg kz
          case measure => omega
          case rel => exact ⟨j + 1, g3, s3, congrArg (Value.int .i64) (by omega), ⟨by omega⟩, ⟨by rw [HTK.out]; exact HM3.out⟩⟩
        · have hqz : (b2 : Int) + (c : Int) ≥ (s2.n : Int) := by omega
          have hex := expand_calls wr x g2 s2 r1 r2 HM.out.mem HRG.out (by have := HM.out.lo; omega) (by omega)
          have HEX := Aside0.mk hex
          clear hex
          go_upto_region 21 with (go_at_call 100; refine HEX.out.mono ?_; rintro e_ Wg hexp; obtain ⟨rfl, g4, hM4⟩ := marked_grow HM.out HRG.out (by omega) (HP.out.imp (fun h => h.1) id) hexp; have HM4 := Aside0.mk hM4; clear hexp hM4)
          clear bx cp big hqz
          have hq4 : b2 + c < (s2.grow r1 r2).n := by show b2 + c < 2 * s2.n; have := HM.out.lo; have := HM.out.bn; omega
          have HNU4 : Aside0 (¬ (s2.grow r1 r2).used (b2 + c)) := ⟨fun h => HNU.out ((same_grow HRG.out (by have := HM.out.lo; omega)).new _ h)⟩
          have hsc := setCheck_calls Wg x g4 (b2 + c) (s2.grow r1 r2) r1 (2 * s2.n - 1) (p : Int) HM4.out.mem (ring_grow HRG.out (by have := HM.out.lo; omega)) (by have := HM4.out.lo; omega) (by have := HM4.out.n; omega) (by omega) hq4 (free_of (by omega) hq4 HNU4.out) (by omega) (by omega)
          rw [show ((b2 + c : Nat) : Int) = (b2 : Int) + (c : Int) from by omega] at hsc
          have HSC := Aside0.mk hsc
          clear hsc
          go_wp2_with (go_at_call 102; refine HSC.out.mono ?_; rintro e_ W2 hchk; obtain ⟨rfl, g3, s3, hM3⟩ := marked_step hb2 (by omega) (HP.out.imp (fun h => h.1) id) HM4.out (ring_grow HRG.out (by have := HM.out.lo; omega)) (by omega) hq4 (free_of (by omega) hq4 HNU4.out) HFQ.out hchk; have HM3 := Aside0.mk hM3; clear hchk hM3)
          go_roundg kz
          case measure => omega
          case rel => exact ⟨j + 1, g3, s3, congrArg (Value.int .i64) (by omega), ⟨by omega⟩, ⟨by rw [HTK.out]; exact HM3.out⟩⟩
      · have hjz : ¬ (j : Int) < (chars.length : Int) := by omega
        obtain rfl : j = chars.length := by omega
        go_wp2_with fail
        exact hN.out _ _ _ _ _ _ _ _ _ _ _ _ _ _ _ _ _ _ _ _ _ _ _ _ _ _ _ _ _ _ _ _ _ _ _ _ wr (by have h1 := HM.out; rw [List.take_length] at h1; exact sought_fin h1 hb1 hb2)

def SoughtE (W : World) (x g p U : Nat) (s : DA) (chars : List Int) (e : Ending) (w' : World) : Prop := e = .returned (.tuple #[]) ∧ Sought W x g p U s chars w'
set_option maxHeartbeats 16000000 in
set_option maxRecDepth 100000 in
theorem seek_calls (W : World) (x g p cb cc : Nat) (s : DA) (h l U : Nat) (chars : List Int) (m : Mem W x g s) (r : Ring s h l) (bd : Bd s U) (hU : 255 ≤ U) (hU2 : U ≤ 16777216) (hp : (p = 0 ∧ s.B 0 = 1 ∧ ∀ i, ¬ s.used i) ∨ s.used p)
    (row : Row W cb chars) (cx : cb ≠ x) (cg : cb ≠ g) (h0 : 0 < chars.length) (hcc : chars.length ≤ 256) (hch : ∀ c ∈ chars, 0 ≤ c ∧ c ≤ 255) (hasc : chars.Pairwise (· < ·)) :
    Calls Tryz.prog 80 #[.pointer (some ⟨x, 0, none⟩), .int .i64 (p : Int), .slice (some ⟨cb, 0, none⟩) chars.length cc] W fun e w' => SoughtE W x g p U s chars e w' := by
  have S0 : Aside0 (Seek W W x g s U h 0 g s l) := ⟨⟨Same.refl _, m, r, Or.inl rfl, Kp.self _ _, bd.n, bd.lo, bd.u, Or.inl rfl, Nat.zero_le _⟩⟩
  have HRow := Aside0.mk row
  have HP := Aside0.mk hp
  have HC := Aside0.mk hch
  have HND : Aside0 chars.Nodup := ⟨hasc.imp (fun h => by omega)⟩
  have hp2 : p ≤ 2147483647 := by rcases hp with ⟨h, _⟩ | h; omega; have := bd.u p h; omega
  have c0 := row.cell 0 h0
  have hc0 := hch (chars.getD 0 0) (by rw [List.getD_eq_getElem?_getD, List.getElem?_eq_getElem h0]; exact List.getElem_mem h0)
  obtain ⟨rp, hr0⟩ : ∃ rp : Nat, chars.getD 0 0 = (rp : Int) := ⟨(chars.getD 0 0).toNat, by omega⟩
  have HA : Aside0 (∀ c ∈ chars, (rp : Int) ≤ c) := ⟨fun c hc => by
    rw [← hr0]
    obtain ⟨i, hi, e⟩ := List.getElem_of_mem hc
    rw [List.getD_eq_getElem?_getD, List.getElem?_eq_getElem h0, Option.getD_some]
    by_cases h : i = 0
    · subst h; rw [← e]; exact Int.le_refl _
    · have := List.pairwise_iff_getElem.1 hasc 0 i h0 hi (by omega)
      rw [← e]; omega⟩
  rw [hr0] at c0 hc0
  have hrp : rp ≤ 255 := by omega
  have h0z : (0 : Int) < (chars.length : Int) := by omega
  clear m r hp row hch hasc bd
  go_enter Tryz.func80, Tryz.ntmps80
  refine wp_scope_jumps 0 (fun a' w' => ∃ (n8 n10 n11 n19 n20 n21 n22 n23 n24 n25 n26 n27 n28 n29 n30 n31 n32 n33 n34 n35 n36 n37 n38 n39 n40 n41 n42 n43 n44 n45 n46 n47 n48 n49 n50 n51 n52 n53 n54 n55 n56 n57 n58 n59 n60 n61 n62 n63 n64 n65 n66 n67 n68 n69 n70 n71 n72 n73 n74 n75 n76 n77 n78 n79 : Value) (f2 g2 l2 : Nat) (s2 : DA), a' = ⟨#[.pointer (some ⟨x, 0, none⟩), .int .i64 (p : Int), .slice (some ⟨cb, 0, none⟩) chars.length cc, undef, undef, undef, .int .i64 (f2 : Int), .int .i64 (rp : Int), n8, undef, n10, n11, undef, undef, undef, .slice (some ⟨cb, 0, none⟩) chars.length cc, .pointer (some ⟨cb, 0, none⟩), .int .u8 (rp : Int), .int .i64 (rp : Int), n19, n20, n21, n22, n23, n24, n25, n26, n27, n28, n29, n30, n31, n32, n33, n34, n35, n36, n37, n38, n39, n40, n41, n42, n43, n44, n45, n46, n47, n48, n49, n50, n51, n52, n53, n54, n55, n56, n57, n58, n59, n60, n61, n62, n63, n64, n65, n66, n67, n68, n69, n70, n71, n72, n73, n74, n75, n76, n77, n78, n79, undef, undef, undef, undef, undef, undef, undef, undef, undef, undef, undef, undef, undef, undef, undef, undef, undef, undef, undef, undef, undef, undef, undef, undef, undef, undef, undef, undef, undef, undef, undef, undef, undef, undef], []⟩ ∧ Seek W w' x g s U h f2 g2 s2 l2) (fun a' _ => U + 1 - (intOf (a'.tmps.getD 6 undef)).toNat) rfl ?_ ?_
  · refine wp_seq_k fun K hK_ => ?_
    have hK := Aside0.mk hK_
    clear hK_
    go_wp2_with fail
    refine hK.out _ _ ?_
    clear hK K
    refine wp_seq_k fun K hK_ => ?_
    have hK := Aside0.mk hK_
    clear hK_
    go_wp2_with fail
    refine hK.out _ _ ?_
    clear hK K
    refine wp_seq_k fun K hK_ => ?_
    have hK := Aside0.mk hK_
    clear hK_
    go_wp2_with fail
    refine hK.out _ _ ?_
    clear hK K
    refine wp_seq_k fun K hK_ => ?_
    have hK := Aside0.mk hK_
    clear hK_
    refine wp_label ?_
    refine hK.out _ _ ?_
    clear hK K
    refine wp_seq_k fun K hK_ => ?_
    have hK := Aside0.mk hK_
    clear hK_
    refine seek_loop W x g p cb cc rp s h U chars hU hU2 HRow cx cg h0 hcc HC HA hr0 hrp 0 _ _ _ _ S0 ⟨?_⟩ ⟨?_⟩
    · intro n8 n10 n11 n19 n20 n21 n22 n23 n24 n25 n26 n27 n28 n29 n30 n31 n32 n33 n34 n35 n36 n37 n38 n39 n40 n41 n42 n43 n44 n45 n46 n47 n48 n49 n50 n51 n52 n53 n54 n55 n56 n57 n58 n59 n60 n61 n62 n63 n64 n65 n66 n67 n68 n69 n70 n71 n72 n73 n74 n75 n76 n77 n78 n79 f2 g2 l2 s2 W2 hlt hS
      exact ⟨rfl, n8, n10, n11, n19, n20, n21, n22, n23, n24, n25, n26, n27, n28, n29, n30, n31, n32, n33, n34, n35, n36, n37, n38, n39, n40, n41, n42, n43, n44, n45, n46, n47, n48, n49, n50, n51, n52, n53, n54, n55, n56, n57, n58, n59, n60, n61, n62, n63, n64, n65, n66, n67, n68, n69, n70, n71, n72, n73, n74, n75, n76, n77, n78, n79, f2, g2, l2, s2, rfl, hS⟩
    · intro n10 n11 n19 n20 n21 n22 n23 n24 n25 n26 n27 n28 n29 n30 n31 n32 n33 n34 n35 n36 n37 n38 n39 n40 n41 n42 n43 n44 n45 n46 n47 n48 n49 n50 n51 n52 n53 n54 n55 n56 n57 n58 n59 n60 n61 n62 n63 n64 n65 n66 n67 n68 n69 n70 n71 n72 n73 n74 n75 n76 n77 n78 n79 f2 b g2 l2 s2 W2 hF
      refine hK.out _ _ (mark_part W x g p cb cc rp s h U chars hU hU2 HRow cx cg h0 hcc HC hr0 hrp hp2 HP HND b g2 l2 s2 W2 ⟨hF⟩ ⟨?_⟩)
      intro n13 n14 n80 n81 n82 n83 n84 n85 n86 n87 n88 n89 n90 n91 n92 n93 n94 n95 n96 n97 n98 n99 n100 n101 n102 n103 n104 n105 n106 n107 n108 n109 n110 n111 n112 n113 W3 hS3
      (try simp only [Exit.jump])
      go_end0
      exact ⟨rfl, hS3⟩

  · rintro a' w' ⟨n8, n10, n11, n19, n20, n21, n22, n23, n24, n25, n26, n27, n28, n29, n30, n31, n32, n33, n34, n35, n36, n37, n38, n39, n40, n41, n42, n43, n44, n45, n46, n47, n48, n49, n50, n51, n52, n53, n54, n55, n56, n57, n58, n59, n60, n61, n62, n63, n64, n65, n66, n67, n68, n69, n70, n71, n72, n73, n74, n75, n76, n77, n78, n79, f9, g9, l9, s9, rfl, hS9⟩
    have HS9 := Aside0.mk hS9
    clear hS9
    refine wp_seq_k fun K hK_ => ?_
    have hK := Aside0.mk hK_
    clear hK_
    refine wp_skip ?_
    refine hK.out _ _ ?_
    clear hK K
    refine wp_seq_k fun K hK_ => ?_
    have hK := Aside0.mk hK_
    clear hK_
    refine seek_loop W x g p cb cc rp s h U chars hU hU2 HRow cx cg h0 hcc HC HA hr0 hrp f9 _ _ _ _ HS9 ⟨?_⟩ ⟨?_⟩
    · intro n8 n10 n11 n19 n20 n21 n22 n23 n24 n25 n26 n27 n28 n29 n30 n31 n32 n33 n34 n35 n36 n37 n38 n39 n40 n41 n42 n43 n44 n45 n46 n47 n48 n49 n50 n51 n52 n53 n54 n55 n56 n57 n58 n59 n60 n61 n62 n63 n64 n65 n66 n67 n68 n69 n70 n71 n72 n73 n74 n75 n76 n77 n78 n79 f2 g2 l2 s2 W2 hlt hS
      exact ⟨rfl, ⟨n8, n10, n11, n19, n20, n21, n22, n23, n24, n25, n26, n27, n28, n29, n30, n31, n32, n33, n34, n35, n36, n37, n38, n39, n40, n41, n42, n43, n44, n45, n46, n47, n48, n49, n50, n51, n52, n53, n54, n55, n56, n57, n58, n59, n60, n61, n62, n63, n64, n65, n66, n67, n68, n69, n70, n71, n72, n73, n74, n75, n76, n77, n78, n79, f2, g2, l2, s2, rfl, hS⟩, by have := hS.fu; simp [intOf]; omega⟩
    · intro n10 n11 n19 n20 n21 n22 n23 n24 n25 n26 n27 n28 n29 n30 n31 n32 n33 n34 n35 n36 n37 n38 n39 n40 n41 n42 n43 n44 n45 n46 n47 n48 n49 n50 n51 n52 n53 n54 n55 n56 n57 n58 n59 n60 n61 n62 n63 n64 n65 n66 n67 n68 n69 n70 n71 n72 n73 n74 n75 n76 n77 n78 n79 f2 b g2 l2 s2 W2 hF
      refine hK.out _ _ (mark_part W x g p cb cc rp s h U chars hU hU2 HRow cx cg h0 hcc HC hr0 hrp hp2 HP HND b g2 l2 s2 W2 ⟨hF⟩ ⟨?_⟩)
      intro n13 n14 n80 n81 n82 n83 n84 n85 n86 n87 n88 n89 n90 n91 n92 n93 n94 n95 n96 n97 n98 n99 n100 n101 n102 n103 n104 n105 n106 n107 n108 n109 n110 n111 n112 n113 W3 hS3
      (try simp only [Exit.jump])
      go_end0
      exact ⟨rfl, hS3⟩

end Go.Proofs.YtaejkbjepbifcabGreatDoor.Da
namespace Go.Proofs.YtaejkbjepbifcabGreatDoor.Da
open Go.RowKit Go.Maps Go.ChangeShapes Go.Proofs.YtaejkbjepbifcabGreatDoorW.PrintWords
set_option linter.unusedVariables false
set_option linter.unusedSimpArgs false
structure Src (W : World) (kb ko : Nat) (ss : List ByteArray) (ib io : Nat) (ds : List Int) : Prop where
  kw : ∀ j, j < ss.length → W.cell? ⟨kb, ko + j, none⟩ = some (.string (ss.getD j ByteArray.empty))
  idc : ∀ j, j < ds.length → W.cell? ⟨ib, io + j, none⟩ = some (.int .i64 (ds.getD j 0))
  kl : kb < W.heap.size
  il : ib < W.heap.size
  len : ds.length = ss.length
  few : ss.length ≤ 1000000
  sz : ∀ t ∈ ss, t.size ≤ 1000000000
  dsb : ∀ d ∈ ds, 0 ≤ d ∧ d ≤ 2147483647
def BrC (W : World) (bb : Nat) (zs : List Nat) : Prop := bb < W.heap.size ∧ ∀ j, j < zs.length → W.cell? ⟨bb, j, none⟩ = some (.int .i64 (zs.getD j 0 : Nat))
theorem cell_old {W W' : World} {S : Nat → Prop} (k : Kp W W' S) {b o : Nat} (hb : b < W.heap.size) (hS : ¬ S b) : W'.cell? ⟨b, o, none⟩ = W.cell? ⟨b, o, none⟩ := by
  unfold World.cell?
  rw [k.old b hb hS]
theorem Src.step {W W' : World} {kb ko ib io : Nat} {ss : List ByteArray} {ds : List Int} {S : Nat → Prop} (h : Src W kb ko ss ib io ds) (k : Kp W W' S) (h1 : ¬ S kb) (h2 : ¬ S ib) : Src W' kb ko ss ib io ds :=
  ⟨fun j hj => (cell_old k h.kl h1).trans (h.kw j hj), fun j hj => (cell_old k h.il h2).trans (h.idc j hj), Nat.lt_of_lt_of_le h.kl k.size, Nat.lt_of_lt_of_le h.il k.size, h.len, h.few, h.sz, h.dsb⟩
theorem BrC.step {W W' : World} {bb : Nat} {zs : List Nat} {S : Nat → Prop} (h : BrC W bb zs) (k : Kp W W' S) (h1 : ¬ S bb) : BrC W' bb zs :=
  ⟨Nat.lt_of_lt_of_le h.1 k.size, fun j hj => (cell_old k h.1 h1).trans (h.2 j hj)⟩
def word (ss : List ByteArray) (z : Nat) : List Int := bs (ss.getD z ByteArray.empty)
def hd (ss : List ByteArray) (i z : Nat) : Int := head1 ((word ss z).drop i)
def keysOf (ss : List ByteArray) (ds : List Int) (i : Nat) (zs : List Nat) : Keys := zs.map (fun z => ((word ss z).drop i, ds.getD z 0))
def prs (ss : List ByteArray) (i : Nat) (zs : List Nat) : List (Int × Int) := zs.map (fun z => (hd ss i z, (z : Int)))
def below (ss : List ByteArray) (i : Nat) (zs : List Nat) (c : Int) : List Nat := zs.filter (fun z => hd ss i z == c)
theorem grp_below (ss : List ByteArray) (i : Nat) (zs : List Nat) (c : Int) (h : c ≠ 0) : grp (prs ss i zs) c = (below ss i zs c).map (fun z : Nat => (z : Int)) := by
  unfold grp prs below
  rw [if_neg h, List.filter_map, List.map_map]
  rfl
theorem sub_below (ss : List ByteArray) (ds : List Int) (i : Nat) (zs : List Nat) (c : Int) (h : c ≠ 0) : sub (keysOf ss ds i zs) c = keysOf ss ds (i + 1) (below ss i zs c) := by
  induction zs with
  | nil => rfl
  | cons z zs ih =>
    have e : keysOf ss ds i (z :: zs) = ((word ss z).drop i, ds.getD z 0) :: keysOf ss ds i zs := rfl
    rw [e]
    unfold below
    unfold sub at ih ⊢
    cases hw : (word ss z).drop i with
    | nil =>
      have hh : (hd ss i z == c) = false := by rw [beq_eq_false_iff_ne]; unfold hd; rw [hw]; exact fun e => h e.symm
      rw [List.filterMap_cons_none rfl, List.filter_cons_of_neg (by simp [hh]), ih]; rfl
    | cons d t =>
      have ht : (word ss z).drop (i + 1) = t := by rw [← List.tail_drop, hw]; rfl
      by_cases hc : d = c
      · have hh : (hd ss i z == c) = true := by rw [beq_iff_eq]; unfold hd; rw [hw]; exact hc
        rw [List.filterMap_cons_some (b := (t, ds.getD z 0)) (by simp [subk, hc]), List.filter_cons_of_pos (p := fun z => hd ss i z == c) hh, ih]
        show _ = ((word ss z).drop (i + 1), ds.getD z 0) :: _
        rw [ht]; rfl
      · have hh : (hd ss i z == c) = false := by rw [beq_eq_false_iff_ne]; unfold hd; rw [hw]; exact hc
        rw [List.filterMap_cons_none (by simp [subk, hc]), List.filter_cons_of_neg (by simp [hh]), ih]; rfl
theorem keys_ne {ss : List ByteArray} {ds : List Int} {i : Nat} {zs : List Nat} (h : zs ≠ []) : keysOf ss ds i zs ≠ [] := by
  intro e; exact h (List.map_eq_nil_iff.1 e)
theorem below_ne {ss : List ByteArray} {ds : List Int} {i : Nat} {zs : List Nat} {c : Int} (h : c ∈ letters (keysOf ss ds i zs)) : below ss i zs c ≠ [] := by
  obtain ⟨k, hk, e⟩ := (chs_letters _ c).1 h
  obtain ⟨z, hz, rfl⟩ := List.mem_map.1 hk
  intro e2
  have : z ∈ below ss i zs c := List.mem_filter.2 ⟨hz, by rw [beq_iff_eq]; exact e⟩
  rw [e2] at this
  cases this
theorem tot_below {ss : List ByteArray} {ds : List Int} {i : Nat} {zs : List Nat} {c : Int} (h0 : c ≠ 0) (h : c ∈ letters (keysOf ss ds i zs)) : tot (keysOf ss ds (i + 1) (below ss i zs c)) < tot (keysOf ss ds i zs) := by
  have h1 := tot_sub (keysOf ss ds i zs) c
  have h2 := all_at [c] (by simp) (keysOf ss ds i zs)
  have h3 : 0 < (sub (keysOf ss ds i zs) c).length := by
    rw [sub_below _ _ _ _ _ h0]
    exact List.length_pos_iff.2 (keys_ne (below_ne h))
  rw [sub_below _ _ _ _ _ h0] at h1 h3
  simp only [List.map_cons, List.map_nil, List.sum_cons, List.sum_nil] at h2
  omega
theorem here_keys {ss : List ByteArray} {ds : List Int} {i z : Nat} {zs : List Nat} (ha : Asc (keysOf ss ds i (z :: zs))) (hk : Okk (keysOf ss ds i (z :: zs))) (h0 : (0 : Int) ∈ letters (keysOf ss ds i (z :: zs))) : here (keysOf ss ds i (z :: zs)) = some (ds.getD z 0) := by
  have h := here_first ha ((word ss z).drop i, ds.getD z 0) (keysOf ss ds i zs) rfl h0 hk
  have h : (word ss z).drop i = [] := h
  unfold here keysOf
  rw [List.map_cons, List.find?_cons_of_pos (by rw [h]; rfl)]
  rfl
theorem Bd.up {s : DA} {U V : Nat} (h : Bd s U) (hv : U ≤ V) : Bd s V := ⟨fun i hi => Nat.le_trans (h.u i hi) hv, by have := h.n; omega, h.lo⟩
theorem mk_par {s s1 : DA} {p b : Nat} {chars : List Int} (m : Mk s s1 p b chars) (hp : p = 0 ∨ s.used p) (h : s.par) : s1.par := by
  intro i hi
  by_cases hs : s.used i
  · rw [m.cc i hs]
    rcases h i hs with h | ⟨r, e, hr⟩
    · exact Or.inl h
    · exact Or.inr ⟨r, e, m.up hr⟩
  · have := (m.only i hi hs).1
    rcases hp with rfl | hp
    · exact Or.inl this
    · exact Or.inr ⟨p, this, m.up hp⟩
theorem jn_par {s1 t : DA} {p b k : Nat} {chars : List Int} {L : Keys} (j : Jn s1 p b chars L k t) (h : s1.par) (hm : ∀ ch ∈ chars, s1.used (b + ch.toNat)) : t.par := by
  intro i hi
  by_cases hs : s1.used i
  · rw [j.cc i hs]
    rcases h i hs with h | ⟨r, e, hr⟩
    · exact Or.inl h
    · exact Or.inr ⟨r, e, j.up hr⟩
  · obtain ⟨r, e, h⟩ := j.new i hi hs
    rcases h with ⟨ch, hc, rfl⟩ | ⟨h, _⟩
    · exact Or.inr ⟨_, e, j.up (hm ch hc)⟩
    · exact Or.inr ⟨r, e, h⟩
def lives (L : Keys) (cs : List Int) : Nat := adds L (cs.filter (fun c => c != 0))
theorem lives_zero (L : Keys) (cs : List Int) : lives L (cs ++ [0]) = lives L cs := by simp [lives]
theorem lives_snoc (L : Keys) (cs : List Int) (c : Int) (h : c ≠ 0) : lives L (cs ++ [c]) = lives L cs + (1 + tot (sub L c)) := by simp [lives, adds, h]
theorem lives_le {L : Keys} (hk : Okk L) {cs : List Int} (h : cs.Nodup) (hc : ∀ c ∈ cs, c ∈ letters L) : lives L cs ≤ tot L := by
  refine adds_le _ (h.filter _) L (fun c hm => ?_)
  obtain ⟨hm, hz⟩ := List.mem_filter.1 hm
  have hz : c ≠ 0 := by simpa using hz
  obtain ⟨k, hk', e⟩ := (chs_letters L c).1 (hc c hm)
  obtain ⟨w, v⟩ := k
  cases w with
  | nil => exact absurd e.symm hz
  | cons d t =>
    have e : d = c := e
    subst e
    exact sub_ne hk'
theorem lives_mono (L : Keys) (cs : List Int) (j : Nat) : lives L (cs.take j) ≤ lives L cs := by
  rw [show lives L cs = lives L (cs.take j ++ cs.drop j) by rw [List.take_append_drop]]
  simp only [lives, adds, List.filter_append, List.map_append, List.sum_append]
  omega
end Go.Proofs.YtaejkbjepbifcabGreatDoor.Da
namespace Go.Proofs.YtaejkbjepbifcabGreatDoor.Da
open Go.RowKit Go.Maps Go.ChangeShapes Go.Proofs.YtaejkbjepbifcabGreatDoorW.PrintWords
set_option linter.unusedVariables false
set_option linter.unusedSimpArgs false
def AddE (W : World) (x g p U : Nat) (s : DA) (L : Keys) (e : Ending) (w' : World) : Prop :=
  e = .returned (.tuple #[]) ∧ ∃ g' s', (g' = g ∨ W.heap.size ≤ g') ∧ Mem w' x g' s' ∧ Kp W w' (fun k => k = x ∨ k = g) ∧ Fr s s' p ∧ Good s' p L ∧ s'.par ∧ (∃ h l, Ring s' h l) ∧ Bd s' (U + 512 * (1 + tot L))
structure Pre (W : World) (x g p U i bb kb ko ib io : Nat) (s : DA) (ss : List ByteArray) (ds : List Int) (zs : List Nat) : Prop where
  mem : Mem W x g s
  ring : ∃ h l, Ring s h l
  bd : Bd s U
  u : 255 ≤ U
  um : U + 512 * (1 + tot (keysOf ss ds i zs)) ≤ 16777216
  bare : s.bare p
  par : s.par
  pp : (p = 0 ∧ s.B 0 = 1 ∧ ∀ i, ¬ s.used i) ∨ s.used p
  src : Src W kb ko ss ib io ds
  br : BrC W bb zs
  ne : zs ≠ []
  zb : ∀ z ∈ zs, z < ss.length
  zl : zs.length ≤ 1000000
  ok : Okk (keysOf ss ds i zs)
  asc : Asc (keysOf ss ds i zs)
  ap : kb ≠ x ∧ kb ≠ g ∧ ib ≠ x ∧ ib ≠ g ∧ bb ≠ x ∧ bb ≠ g
  il : i ≤ 1000000000
def AddAt (m : Nat) : Prop := ∀ (W : World) (x g p U i bb kb ko ib io kc Nc Dc : Nat) (s : DA) (ss : List ByteArray) (ds : List Int) (zs : List Nat) (pv iv : Int), pv = (p : Int) → iv = (i : Int) → tot (keysOf ss ds i zs) < m → Pre W x g p U i bb kb ko ib io s ss ds zs →
  Calls Tryz.prog 68 #[.pointer (some ⟨x, 0, none⟩), .int .i64 pv, .int .i64 iv, .slice (some ⟨bb, 0, none⟩) zs.length kc, .slice (some ⟨kb, ko, none⟩) ss.length Nc, .slice (some ⟨ib, io, none⟩) ds.length Dc] W fun e w' => AddE W x g p U s (keysOf ss ds i zs) e w'
structure Cx (W1 : World) (x g p b U i bb kb ko ib io cb bm n : Nat) (s s1 : DA) (ss : List ByteArray) (ds : List Int) (zs : List Nat) (D : DataW Unit) : Prop where
  mkk : Mk s s1 p b (letters (keysOf ss ds i zs))
  bare : s.bare p
  par : s.par
  pp : p = 0 ∨ s.used p
  src : Src W1 kb ko ss ib io ds
  br : BrC W1 bb zs
  row : Row W1 cb (letters (keysOf ss ds i zs))
  og : OG W1 bm n D
  gdt : GD (prs ss i zs) D
  lt : bm < W1.heap.size
  nn : n ≤ 100000000
  xb : x < bm ∧ g < bm ∧ bm < cb
  ap : kb ≠ x ∧ kb ≠ g ∧ ib ≠ x ∧ ib ≠ g ∧ bb ≠ x ∧ bb ≠ g
  ne : zs ≠ []
  zb : ∀ z ∈ zs, z < ss.length
  zl : zs.length ≤ 1000000
  ok : Okk (keysOf ss ds i zs)
  asc : Asc (keysOf ss ds i zs)
  u : 255 ≤ U
  um : U + 512 * (1 + tot (keysOf ss ds i zs)) ≤ 16777216
  il : i ≤ 1000000000
  bu : b ≤ U + 1
structure L2 (W1 wr : World) (x g p b U : Nat) (s1 : DA) (L : Keys) (j g' : Nat) (t : DA) : Prop where
  gg : g' = g ∨ W1.heap.size ≤ g'
  mem : Mem wr x g' t
  kp : Kp W1 wr (fun k => k = x ∨ k = g)
  ring : ∃ h l, Ring t h l
  bd : Bd t (U + 512 * (1 + lives L ((letters L).take j)))
  jn : Jn s1 p b (letters L) L j t
section
variable {W1 wr : World} {x g p b U i bb kb ko ib io cb bm n j g' : Nat} {s s1 t : DA} {ss : List ByteArray} {ds : List Int} {zs : List Nat} {D : DataW Unit}
theorem Cx.nd (C : Cx W1 x g p b U i bb kb ko ib io cb bm n s s1 ss ds zs D) : (letters (keysOf ss ds i zs)).Nodup := (asc_letters C.asc C.ok).imp (fun h => by omega)
theorem L2.par (C : Cx W1 x g p b U i bb kb ko ib io cb bm n s s1 ss ds zs D) (H : L2 W1 wr x g p b U s1 (keysOf ss ds i zs) j g' t) : t.par := jn_par H.jn (mk_par C.mkk C.pp C.par) (fun ch h => (C.mkk.mm ch h).1)
theorem L2.um (C : Cx W1 x g p b U i bb kb ko ib io cb bm n s s1 ss ds zs D) (j : Nat) : lives (keysOf ss ds i zs) ((letters (keysOf ss ds i zs)).take j) ≤ tot (keysOf ss ds i zs) :=
  Nat.le_trans (lives_mono _ _ _) (lives_le C.ok C.nd (fun c h => h))
theorem L2.child (C : Cx W1 x g p b U i bb kb ko ib io cb bm n s s1 ss ds zs D) (H : L2 W1 wr x g p b U s1 (keysOf ss ds i zs) j g' t) {c : Nat} (hc : c ≠ 0) (hj : (letters (keysOf ss ds i zs))[j]? = some (c : Int)) {e : Ending} {W3 : World}
    (E : AddE wr x g' (b + c) (U + 512 * (1 + lives (keysOf ss ds i zs) ((letters (keysOf ss ds i zs)).take j))) t (keysOf ss ds (i + 1) (below ss i zs (c : Int))) e W3) : e = .returned (.tuple #[]) ∧ ∃ g3 t3, L2 W1 W3 x g p b U s1 (keysOf ss ds i zs) (j + 1) g3 t3 := by
  obtain ⟨rfl, g3, t3, hg, hm, hk, hf, hgood, hpar, hring, hbd⟩ := E
  have hcz : (c : Int) ≠ 0 := by omega
  rw [← sub_below _ _ _ _ _ hcz] at hgood hbd
  have hjl := (List.getElem?_eq_some_iff.1 hj).1
  refine ⟨rfl, g3, t3, ?_, hm, kp_both H.kp H.gg hk, hring, ?_, ?_⟩
  · rcases hg with h | h
    · rw [h]; exact H.gg
    · exact Or.inr (Nat.le_trans H.kp.size h)
  · have e1 : (letters (keysOf ss ds i zs)).take (j + 1) = (letters (keysOf ss ds i zs)).take j ++ [(c : Int)] := by
      rw [List.take_add_one, hj]; rfl
    rw [e1, lives_snoc _ _ _ hcz]
    exact hbd.up (by omega)
  · exact H.jn.child C.mkk C.pp C.ok C.nd hj (by omega) (fun c h => (letters_bd C.ok c h).1) (by rw [Int.toNat_natCast]; exact hf) (by rw [Int.toNat_natCast]; exact hgood)
theorem first_zero {l : List Int} (h : l.Pairwise (· < ·)) (h0 : ∀ c ∈ l, 0 ≤ c) {j : Nat} (hj : l[j]? = some 0) : j = 0 := by
  obtain ⟨hl, e⟩ := List.getElem?_eq_some_iff.1 hj
  rcases Nat.eq_zero_or_pos j with h1 | h1
  · exact h1
  · have := List.pairwise_iff_getElem.1 h 0 j (by omega) hl h1
    have := h0 _ (List.getElem_mem (show 0 < l.length by omega))
    omega
theorem kp_set {W W1 : World} {x g g1 : Nat} (h : Kp W W1 (fun k => k = x ∨ k = g)) (hg : g1 = g ∨ W.heap.size ≤ g1) (o : Nat) (v : Value) : Kp W (W1.setCell ⟨g1, o, none⟩ v) (fun k => k = x ∨ k = g) := by
  rcases hg with e | e
  · exact h.setCell _ _ (Or.inr e)
  · exact h.setNew _ _ e
theorem L2.fin (C : Cx W1 x g p b U i bb kb ko ib io cb bm n s s1 ss ds zs D) (H : L2 W1 wr x g p b U s1 (keysOf ss ds i zs) 0 g' t) (hj : (letters (keysOf ss ds i zs))[0]? = some 0) {z : Nat} {zr : List Nat} (hz : zs = z :: zr) (hd : 0 ≤ ds.getD z 0 ∧ ds.getD z 0 ≤ 2147483647) :
    L2 W1 (wr.setCell ⟨g', b * 2, none⟩ (.int .i32 (-(ds.getD z 0)))) x g p b U s1 (keysOf ss ds i zs) 1 g' ⟨t.n, upd t.B b (-(ds.getD z 0)), t.C⟩ := by
  have hm := C.mkk.mm 0 (List.mem_of_getElem? hj)
  have hu : t.used b := by have := H.jn.up hm.1; simpa using this
  have hl : 0 < (letters (keysOf ss ds i zs)).length := letters_ne (keys_ne C.ne)
  refine ⟨H.gg, H.mem.putB b hu.2.1 _ (by omega) (by omega), kp_set H.kp H.gg _ _, ?_, ?_, ?_⟩
  · obtain ⟨h, l, r⟩ := H.ring
    exact ⟨h, l, ring_setB r _ hu.2.2⟩
  · have e1 : (letters (keysOf ss ds i zs)).take 1 = (letters (keysOf ss ds i zs)).take 0 ++ [0] := by rw [List.take_add_one, hj]; rfl
    rw [e1, lives_zero]
    exact ⟨H.bd.u, H.bd.n, H.bd.lo⟩
  · exact H.jn.fin C.mkk C.nd (fun c h => (letters_bd C.ok c h).1) hj (by subst hz; exact here_keys C.asc C.ok (List.mem_of_getElem? hj))
theorem L2.all (C : Cx W1 x g p b U i bb kb ko ib io cb bm n s s1 ss ds zs D) (H : L2 W1 wr x g p b U s1 (keysOf ss ds i zs) (letters (keysOf ss ds i zs)).length g' t) {W : World} (k : Kp W W1 (fun _ => False)) (hg : g < W.heap.size) : AddE W x g p U s (keysOf ss ds i zs) (.returned (.tuple #[])) wr := by
  have hv : ∀ k ∈ keysOf ss ds i zs, 0 ≤ k.2 := by
    intro k hk
    obtain ⟨z, hz, rfl⟩ := List.mem_map.1 hk
    have hzl := C.zb z hz
    show 0 ≤ ds.getD z 0
    rw [List.getD_eq_getElem?_getD, List.getElem?_eq_getElem (by have := C.src.len; omega)]
    exact (C.src.dsb _ (List.getElem_mem _)).1
  obtain ⟨hf, hgood⟩ := H.jn.all C.mkk C.pp C.bare (fun c h => (letters_bd C.ok c h).1) C.ok (keys_ne C.ne) (chs_letters _) hv
  refine ⟨rfl, g', t, ?_, H.mem, ?_, hf, hgood, H.par C, H.ring, H.bd.up (by have := L2.um C (letters (keysOf ss ds i zs)).length; omega)⟩
  · rcases H.gg with h | h
    · exact Or.inl h
    · exact Or.inr (Nat.le_trans k.size h)
  · exact (k.trans H.kp).mono (fun i _ h => h.elim False.elim id)
theorem child_of (C : Cx W1 x g p b U i bb kb ko ib io cb bm n s s1 ss ds zs D) (H : L2 W1 wr x g p b U s1 (keysOf ss ds i zs) j g' t) {c : Nat} (hc : c ≠ 0) (hc2 : c ≤ 255) (hm : (c : Int) ∈ letters (keysOf ss ds i zs)) {v : Value} {ys : List Int} (hat : D.atKey (.int .u8 (c : Int)) .nil = rowDatum .i64 v ys) (hoi : OI wr bm v ys)
    (hsh : ∀ No : Nat → Prop, wr.Shuns bm No → ∀ g, v.ownBlock = some g → ¬ No g) :
    ∃ b2 k2, v = .slice (some ⟨b2, 0, none⟩) (below ss i zs (c : Int)).length k2 ∧ BrC wr b2 (below ss i zs (c : Int)) ∧ b2 ≠ x ∧ b2 ≠ g' := by
  have e := grp_eq C.gdt (by omega) (by omega) hat hoi
  rw [grp_below _ _ _ _ (by omega)] at e
  subst e
  have hne := below_ne hm
  have hpos := List.length_pos_iff.2 hne
  have s0 : W1.Shuns bm (fun _ => False) := fun es clock _ x _ g _ h => h
  have s1 := s0.reno (No' := fun g => W1.heap.size ≤ g) C.og (fun g h => Or.inr h)
  have s2 : wr.Shuns bm (fun g => W1.heap.size ≤ g) := fun es clock hb => s1 es clock ((H.kp.old bm C.lt (by have := C.xb; omega)).symm.trans hb)
  have hno := hsh _ s2
  rcases hoi.1.2 with ⟨h1, h2⟩ | ⟨g2, cap, cur, h1, h2, h3, h4, h5, h6, h7⟩
  · simp at h2; exact absurd h2 hne
  · subst h1
    have hlt := hno g2 rfl
    refine ⟨g2, cap, by simp, ⟨(Array.getElem?_eq_some_iff.1 h3).1, fun q hq => ?_⟩, by have := C.xb; omega, ?_⟩
    · have := hoi.1.cells (g := g2) rfl q (.int .i64 ((below ss i zs (c : Int)).getD q 0 : Nat)) (by
        rw [List.map_map, List.getElem?_map, List.getElem?_eq_getElem hq, List.getD_eq_getElem?_getD, List.getElem?_eq_getElem hq]; rfl)
      rw [show (⟨g2, 0, none⟩ : Addr).add q = ⟨g2, q, none⟩ by unfold Addr.add; split <;> simp_all] at this
      exact this
    · rcases H.gg with h | h
      · have := C.xb; omega
      · omega
theorem none_of (C : Cx W1 x g p b U i bb kb ko ib io cb bm n s s1 ss ds zs D) {v : Value} {ys : List Int} (hat : D.atKey (.int .u8 0) .nil = rowDatum .i64 v ys) (hoi : OI wr bm v ys) : ∃ a k2, v = .slice a 0 k2 := by
  have e := grp_eq C.gdt (by omega) (by omega) hat hoi
  rw [grp_zero] at e
  subst e
  rcases hoi.1.2 with ⟨h1, h2⟩ | ⟨g2, cap, cur, h1, h2, h3, h4, h5, h6, h7⟩
  · exact ⟨_, _, h1⟩
  · exact ⟨_, _, h1⟩
theorem child_pre (C : Cx W1 x g p b U i bb kb ko ib io cb bm n s s1 ss ds zs D) (H : L2 W1 wr x g p b U s1 (keysOf ss ds i zs) j g' t) {c : Nat} (hc : c ≠ 0) (hj : (letters (keysOf ss ds i zs))[j]? = some (c : Int)) {b2 : Nat} (hb : BrC wr b2 (below ss i zs (c : Int))) (h1 : b2 ≠ x) (h2 : b2 ≠ g') :
    Pre wr x g' (b + c) (U + 512 * (1 + lives (keysOf ss ds i zs) ((letters (keysOf ss ds i zs)).take j))) (i + 1) b2 kb ko ib io t ss ds (below ss i zs (c : Int)) := by
  have hcz : (c : Int) ≠ 0 := by omega
  have hmem := List.mem_of_getElem? hj
  have hm := C.mkk.mm _ hmem
  rw [Int.toNat_natCast] at hm
  have hu := H.jn.up hm.1
  have hbare := H.jn.td j (c : Int) (Nat.le_refl _) hj hcz
  rw [Int.toNat_natCast] at hbare
  have hsb := sub_below ss ds i zs (c : Int) hcz
  obtain ⟨a1, a2, a3, a4, a5, a6⟩ := C.ap
  have hl1 := L2.um C (j + 1)
  have e1 : (letters (keysOf ss ds i zs)).take (j + 1) = (letters (keysOf ss ds i zs)).take j ++ [(c : Int)] := by
    rw [List.take_add_one, hj]; rfl
  rw [e1, lives_snoc _ _ _ hcz, hsb] at hl1
  have hsrc := C.src.step H.kp (by rintro (h | h) <;> omega) (by rintro (h | h) <;> omega)
  have k1 := C.src.kl
  have k2 := C.src.il
  have hgg := H.gg
  have hil : i + 1 ≤ 1000000000 := by
    obtain ⟨k, hk, e⟩ := (chs_letters _ _).1 hmem
    obtain ⟨z, hz, rfl⟩ := List.mem_map.1 hk
    have hlt : i < (word ss z).length := by
      rcases Nat.lt_or_ge i (word ss z).length with h | h
      · exact h
      · rw [List.drop_eq_nil_of_le h] at e
        exact absurd e.symm hcz
    have hzl := C.zb z hz
    have := C.src.sz (ss.getD z ByteArray.empty) (by rw [List.getD_eq_getElem?_getD, List.getElem?_eq_getElem hzl]; exact List.getElem_mem hzl)
    unfold word at hlt
    rw [bs_len] at hlt
    omega
  refine ⟨H.mem, H.ring, H.bd, by have := C.u; omega, by have := C.um; omega, hbare, H.par C, Or.inr hu, hsrc, hb, below_ne hmem, fun z hz => C.zb z (List.mem_filter.1 hz).1, Nat.le_trans (List.length_filter_le _ _) C.zl, ?_, ?_, ⟨a1, by omega, a3, by omega, h1, h2⟩, hil⟩
  · rw [← hsb]; exact C.ok.sub _
  · rw [← hsb]; exact C.asc.sub _
end
end Go.Proofs.YtaejkbjepbifcabGreatDoor.Da
namespace Go.Proofs.YtaejkbjepbifcabGreatDoor.Da
open Go.RowKit Go.Maps Go.ChangeShapes Go.Proofs.YtaejkbjepbifcabGreatDoorW.PrintWords
set_option linter.unusedVariables false
set_option linter.unusedSimpArgs false
noncomputable def apush : Code := pth [true, true, false, true, false, false, true, true, false, false, true, true, true, true, false] (Tryz.f68.body.getD .skip)
set_option maxHeartbeats 16000000 in
set_option maxRecDepth 100000 in
theorem add_push (W w : World) (bm n : Nat) (P : List (Int × Int)) (D : DataW Unit) (cv : Value) (l : List Int) (c : Nat) (hc : c ≤ 255) (hlen : l.length ≤ 1000000) {Q : Exit → Act → World → Prop} {v0 v1 v2 v3 v4 v5 v6 v7 v8 v9 v10 v11 v13 v14 v15 v16 v18 v19 v20 v21 v22 v23 v24 v25 v26 v27 v28 v29 v30 v31 v32 v33 v34 v35 v36 v37 v38 v39 v40 v41 v42 v43 v44 v45 v46 v47 v48 v49 v50 v51 v52 v53 v54 v55 v56 v57 v58 v59 v60 v61 v62 v63 v64 v65 v66 v67 v68 v69 v70 v71 v72 v73 v74 v75 v76 v77 v78 v79 v80 v81 v82 v83 v84 v85 v86 v87 v88 v89 v90 v91 v92 v93 v94 v95 v96 v97 v98 v99 v100 v101 v102 v103 v104 v105 v106 v107 v108 v109 v110 v111 v112 v113 v114 v115 v116 v117 v118 v119 v120 v121 v122 v123 v124 v125 v126 v127 v128 v129 v130 v131 v132 v133 v134 v135 : Value} (HL : Aside0 (L1 W w bm n P D cv l))
    (hN : Aside0 (∀ (n18 n42 n43 n44 n45 n46 n47 n48 n49 n50 n51 n52 n53 n54 n55 n56 n57 n58 n59 cv' : Value) (w' : World), Aside0 (L1 W w' bm n P D cv' (push l (c : Int))) → Q .normal ⟨#[v0, v1, v2, v3, v4, v5, v6, v7, v8, v9, v10, v11, cv', v13, v14, v15, v16, .int .u8 (c : Int), n18, v19, v20, v21, v22, v23, v24, v25, v26, v27, v28, v29, v30, v31, v32, v33, v34, v35, v36, v37, v38, v39, v40, v41, n42, n43, n44, n45, n46, n47, n48, n49, n50, n51, n52, n53, n54, n55, n56, n57, n58, n59, v60, v61, v62, v63, v64, v65, v66, v67, v68, v69, v70, v71, v72, v73, v74, v75, v76, v77, v78, v79, v80, v81, v82, v83, v84, v85, v86, v87, v88, v89, v90, v91, v92, v93, v94, v95, v96, v97, v98, v99, v100, v101, v102, v103, v104, v105, v106, v107, v108, v109, v110, v111, v112, v113, v114, v115, v116, v117, v118, v119, v120, v121, v122, v123, v124, v125, v126, v127, v128, v129, v130, v131, v132, v133, v134, v135], []⟩ w')) :
    Code.wp Tryz.prog apush Q ⟨#[v0, v1, v2, v3, v4, v5, v6, v7, v8, v9, v10, v11, cv, v13, v14, v15, v16, .int .u8 (c : Int), v18, v19, v20, v21, v22, v23, v24, v25, v26, v27, v28, v29, v30, v31, v32, v33, v34, v35, v36, v37, v38, v39, v40, v41, v42, v43, v44, v45, v46, v47, v48, v49, v50, v51, v52, v53, v54, v55, v56, v57, v58, v59, v60, v61, v62, v63, v64, v65, v66, v67, v68, v69, v70, v71, v72, v73, v74, v75, v76, v77, v78, v79, v80, v81, v82, v83, v84, v85, v86, v87, v88, v89, v90, v91, v92, v93, v94, v95, v96, v97, v98, v99, v100, v101, v102, v103, v104, v105, v106, v107, v108, v109, v110, v111, v112, v113, v114, v115, v116, v117, v118, v119, v120, v121, v122, v123, v124, v125, v126, v127, v128, v129, v130, v131, v132, v133, v134, v135], []⟩ w := by
  conv => arg 2; whnf
  conv => arg 4; zeta
  obtain ⟨i0, hi, hz0, hz1, hz2⟩ := info_parts info_u8
  rcases HL.out.ch.2 with ⟨rfl, hl0⟩ | ⟨g, cap, cur, rfl, h2, h3, h4, h5, h6, h7⟩
  · have HPU : Aside0 (l ++ [(c : Int)] = push l (c : Int)) := ⟨by rw [List.length_eq_zero_iff.1 hl0]; rfl⟩
    go_wp2_with (first | (at_builtin; refine wpList_append_own_at _ rfl _ _ 46 rfl (bm + 1) 5 i0 (.int .u8 0) 1 1 Tryz.underlying46 hi hz0 hz1 hz2 rfl (by decide) _ _ _ rfl (HL.out.alloc _).ch ⟨w.heap.size, 0, none⟩ 1 1 [.int .u8 (c : Int)] rfl rfl (cell_one_new _ _ _) (ints_oneCell .u8 [(c : Int)]) (by unfold maxLen; omega) (by omega) (by have := HL.out.lt; rw [Own.size_alloc]; omega) ?_; intro v' w1 hown' hgrow hnil hloc) | go_in)
    exact hN.out _ _ _ _ _ _ _ _ _ _ _ _ _ _ _ _ _ _ _ _ _ ⟨by
        have h0 := (HL.out.alloc (.cells #[.int .u8 (c : Int)] 5)).push hown' hgrow (hloc.imp id (fun h => ⟨_, h, Nat.le_refl _⟩))
        exact HPU.out ▸ h0⟩
  · by_cases hl0 : l.length = 0
    · have HPU : Aside0 (l ++ [(c : Int)] = push l (c : Int)) := ⟨by rw [List.length_eq_zero_iff.1 hl0]; rfl⟩
      clear h3 h6 h7
      go_wp2_with (first | (at_builtin; refine wpList_append_own_at _ rfl _ _ 46 rfl (bm + 1) 5 i0 (.int .u8 0) 1 1 Tryz.underlying46 hi hz0 hz1 hz2 rfl (by decide) _ _ _ rfl (HL.out.alloc _).ch ⟨w.heap.size, 0, none⟩ 1 1 [.int .u8 (c : Int)] rfl rfl (cell_one_new _ _ _) (ints_oneCell .u8 [(c : Int)]) (by unfold maxLen; omega) (by omega) (by have := HL.out.lt; rw [Own.size_alloc]; omega) ?_; intro v' w1 hown' hgrow hnil hloc) | go_in)
      exact hN.out _ _ _ _ _ _ _ _ _ _ _ _ _ _ _ _ _ _ _ _ _ ⟨by
              have h0 := (HL.out.alloc (.cells #[.int .u8 (c : Int)] 5)).push hown' hgrow (hloc.imp id (fun h => ⟨_, h, Nat.le_refl _⟩))
              exact HPU.out ▸ h0⟩
    · obtain ⟨d, hd⟩ : ∃ d, l.getD (l.length - 1) 0 = d := ⟨_, rfl⟩
      have HD : Aside0 (l.getLast? = some d) := ⟨by rw [List.getLast?_eq_getElem?, ← hd, List.getD_eq_getElem?_getD, List.getElem?_eq_getElem (by omega)]; rfl⟩
      have hcell : w.cell? ⟨g, l.length - 1, none⟩ = some (.int .u8 d) := by
        have e : cur[l.length - 1]? = some (.int .u8 d) := by
          rw [← Array.getElem?_toList, ← List.getElem?_take_of_lt (show l.length - 1 < l.length * 1 by omega), h7, List.getElem?_map, List.getElem?_eq_getElem (by omega), ← hd, List.getD_eq_getElem?_getD, List.getElem?_eq_getElem (by omega)]
          rfl
        unfold World.cell?; simp [h3, e]
      have hlz : ¬ (l.length : Int) = 0 := by omega
      have hlb : ((l.length : Int) == 0) = false := by rw [beq_eq_false_iff_ne]; exact hlz
      have hle : (l.length : Int) - 1 = ((l.length - 1 : Nat) : Int) := by omega
      have hlt : ((l.length - 1 : Nat) : Int) < (l.length : Int) := by omega
      clear hd h3 h6 h7
      by_cases hdc : d = (c : Int)
      · have hne : (d != (c : Int)) = false := by rw [hdc]; simp
        have HPU : Aside0 (l = push l (c : Int)) := ⟨by unfold push; rw [HD.out, if_pos (by rw [hdc])]⟩
        clear hdc
        go_wp2_with fail
        exact hN.out _ _ _ _ _ _ _ _ _ _ _ _ _ _ _ _ _ _ _ _ _ ⟨HPU.out ▸ HL.out⟩
      · have hne : (d != (c : Int)) = true := by rw [bne_iff_ne]; exact hdc
        have HPU : Aside0 (l ++ [(c : Int)] = push l (c : Int)) := ⟨by unfold push; rw [HD.out, if_neg (fun h => hdc (Option.some.inj h))]⟩
        clear hdc
        go_wp2_with (first | (at_builtin; refine wpList_append_own_at _ rfl _ _ 46 rfl (bm + 1) 5 i0 (.int .u8 0) 1 1 Tryz.underlying46 hi hz0 hz1 hz2 rfl (by decide) _ _ _ rfl (HL.out.alloc _).ch ⟨w.heap.size, 0, none⟩ 1 1 [.int .u8 (c : Int)] rfl rfl (cell_one_new _ _ _) (ints_oneCell .u8 [(c : Int)]) (by unfold maxLen; omega) (by omega) (by have := HL.out.lt; rw [Own.size_alloc]; omega) ?_; intro v' w1 hown' hgrow hnil hloc) | go_in)
        exact hN.out _ _ _ _ _ _ _ _ _ _ _ _ _ _ _ _ _ _ _ _ _ ⟨by
                have h0 := (HL.out.alloc (.cells #[.int .u8 (c : Int)] 5)).push hown' hgrow (hloc.imp id (fun h => ⟨_, h, Nat.le_refl _⟩))
                exact HPU.out ▸ h0⟩
theorem no_new {W w : World} {bm n : Nat} {P : List (Int × Int)} {D : DataW Unit} {cv v v' : Value} {l : List Int} (h : L1 W w bm n P D cv l) (hsh : ∀ No : Nat → Prop, w.Shuns bm No → ∀ g, v.ownBlock = some g → ¬ No g)
    (hl : v'.ownBlock = v.ownBlock ∨ ∃ g, v'.ownBlock = some g ∧ w.heap.size ≤ g) : ∀ g, v'.ownBlock = some g → ¬ (cv.ownBlock = some g) := by
  intro g hg e
  rcases hl with h1 | ⟨g2, h1, h2⟩
  · rw [h1] at hg; exact hsh _ h.sh g hg e
  · rw [h1] at hg; cases hg
    have := (h.ch.lt _ e).2
    omega
noncomputable def amapp : Code := pth [true, true, false, true, false, false, true, true, false, false, true, true, true, true, true] (Tryz.f68.body.getD .skip)
set_option maxHeartbeats 16000000 in
set_option maxRecDepth 100000 in
theorem add_map (W w : World) (bm n : Nat) (P : List (Int × Int)) (D : DataW Unit) (cv : Value) (l : List Int) (c : Nat) (z : Int) (hc : c ≤ 255) (hz1_ : 0 ≤ z) (hz2_ : z ≤ 2147483647) (hlen : n ≤ 100000000) {Q : Exit → Act → World → Prop} {v0 v1 v2 v3 v4 v5 v6 v7 v8 v9 v10 v11 v12 v14 v16 v18 v19 v20 v21 v22 v23 v24 v25 v26 v27 v28 v29 v30 v31 v32 v33 v34 v35 v36 v37 v38 v39 v40 v41 v42 v43 v44 v45 v46 v47 v48 v49 v50 v51 v52 v53 v54 v55 v56 v57 v58 v59 v60 v61 v62 v63 v64 v65 v66 v67 v68 v69 v70 v71 v72 v73 v74 v75 v76 v77 v78 v79 v80 v81 v82 v83 v84 v85 v86 v87 v88 v89 v90 v91 v92 v93 v94 v95 v96 v97 v98 v99 v100 v101 v102 v103 v104 v105 v106 v107 v108 v109 v110 v111 v112 v113 v114 v115 v116 v117 v118 v119 v120 v121 v122 v123 v124 v125 v126 v127 v128 v129 v130 v131 v132 v133 v134 v135 : Value} (HL : Aside0 (L1 W w bm n P D cv l))
    (hN : Aside0 (∀ (n60 n61 n62 n63 n64 n65 n66 n67 n68 n69 : Value) (D' : DataW Unit) (w' : World), Aside0 (L1 W w' bm (n + 1) (P ++ [((c : Int), z)]) D' cv l) → Q .normal ⟨#[v0, v1, v2, v3, v4, v5, v6, v7, v8, v9, v10, v11, v12, .map (some bm), v14, .int .i64 z, v16, .int .u8 (c : Int), v18, v19, v20, v21, v22, v23, v24, v25, v26, v27, v28, v29, v30, v31, v32, v33, v34, v35, v36, v37, v38, v39, v40, v41, v42, v43, v44, v45, v46, v47, v48, v49, v50, v51, v52, v53, v54, v55, v56, v57, v58, v59, n60, n61, n62, n63, n64, n65, n66, n67, n68, n69, v70, v71, v72, v73, v74, v75, v76, v77, v78, v79, v80, v81, v82, v83, v84, v85, v86, v87, v88, v89, v90, v91, v92, v93, v94, v95, v96, v97, v98, v99, v100, v101, v102, v103, v104, v105, v106, v107, v108, v109, v110, v111, v112, v113, v114, v115, v116, v117, v118, v119, v120, v121, v122, v123, v124, v125, v126, v127, v128, v129, v130, v131, v132, v133, v134, v135], []⟩ w')) :
    Code.wp Tryz.prog amapp Q ⟨#[v0, v1, v2, v3, v4, v5, v6, v7, v8, v9, v10, v11, v12, .map (some bm), v14, .int .i64 z, v16, .int .u8 (c : Int), v18, v19, v20, v21, v22, v23, v24, v25, v26, v27, v28, v29, v30, v31, v32, v33, v34, v35, v36, v37, v38, v39, v40, v41, v42, v43, v44, v45, v46, v47, v48, v49, v50, v51, v52, v53, v54, v55, v56, v57, v58, v59, v60, v61, v62, v63, v64, v65, v66, v67, v68, v69, v70, v71, v72, v73, v74, v75, v76, v77, v78, v79, v80, v81, v82, v83, v84, v85, v86, v87, v88, v89, v90, v91, v92, v93, v94, v95, v96, v97, v98, v99, v100, v101, v102, v103, v104, v105, v106, v107, v108, v109, v110, v111, v112, v113, v114, v115, v116, v117, v118, v119, v120, v121, v122, v123, v124, v125, v126, v127, v128, v129, v130, v131, v132, v133, v134, v135], []⟩ w := by
  conv => arg 2; whnf
  conv => arg 4; zeta
  obtain ⟨i0, hi, hz0, hz1, hz2⟩ := info_parts info_int
  by_cases hc0 : c = 0
  · subst hc0
    go_wp2_with fail
    exact hN.out _ _ _ _ _ _ _ _ _ _ _ _ ⟨HL.out.zero z⟩
  · have hcn : ((c : Int) != 0) = true := by rw [bne_iff_ne]; omega
    have hkey : keyOf Tryz.prog 5 (.int .u8 (c : Int)) = some (.int .u8 (c : Int)) := keyOf_int_mk Tryz.underlying5 (WalkArith.wf_u8 (by omega))
    have hwz : (Lit.int .i64 z).wf = true := WalkArith.wf_i64 (by omega)
    go_wp2_with (first
      | (at_lookup; refine wpList_lookup_groups_shuns _ rfl _ _ 133 rfl 5 38 3 .i64 key_u8 Tryz.underlying133 (zero_ints _) (bm + 1) bm n D rfl HL.out.og (by unfold maxLen; omega) _ _ rfl hkey ?_; intro v zs hat hoi hzl hback hsh)
      | (at_builtin; refine wpList_append_own_at _ rfl _ _ 38 rfl (bm + 1) 3 i0 (.int .i64 0) 1 8 Tryz.underlying38 hi hz0 hz1 hz2 rfl (by decide) _ _ _ rfl (hoi.1.alloc _) ⟨w.heap.size, 0, none⟩ 1 1 [.int .i64 z] rfl rfl (cell_one_new _ _ _) (ints_oneCell .i64 [z]) (by unfold maxLen; omega) (by omega) (by have := HL.out.lt; rw [Own.size_alloc]; omega) ?_; intro v' w1 hown' hgrow hnil hloc
         have hall := (World.grownBy_alloc w (.cells #[.int .i64 z] 3) v.ownBlock).trans hgrow
         have hoi' := hoi.appended hown' hwz
         have hloc' : v'.ownBlock = v.ownBlock ∨ ∃ g, v'.ownBlock = some g ∧ w.heap.size ≤ g := hloc.imp id (fun h => ⟨_, h, by rw [Own.size_alloc]; omega⟩)
         have hno := no_new HL.out hsh hloc')
      | (at_mapUpdate; refine wpList_mapUpdate_back_shuns _ rfl _ _ _ 133 rfl key_u8 Tryz.underlying133 hkey HL.out.og (by unfold maxLen; omega) hoi HL.out.sh hno hback rfl rfl rfl hall hoi' (by simp; omega) hloc' ?_; intro w6 hown6 hgrow6 hsh6)
      | go_in)
    exact hN.out _ _ _ _ _ _ _ _ _ _ _ _ ⟨HL.out.store hoi hsh hall hown6 (gd_put HL.out.gdt (by omega) (grp_eq HL.out.gdt (by omega) (by omega) hat hoi) hoi') hgrow6 hsh6⟩
noncomputable def around : Code := pth [true, true, false, true, false, false, true, true, false, false] (Tryz.f68.body.getD .skip)
set_option maxHeartbeats 16000000 in
set_option maxRecDepth 100000 in
theorem add_round (W w : World) (bm n : Nat) (P : List (Int × Int)) (D : DataW Unit) (cv : Value) (l : List Int) (i j id k kc kb ko N Nc bb : Nat) (t : ByteArray) (hlen : l.length ≤ 1000000) (hn : n ≤ 100000000) (hj : j < k) (hid : id < N) (hN0 : N ≤ 100000000) (hts : t.size ≤ 1000000000) (hi_ : i ≤ 1000000000) (hbb : w.cell? ⟨bb, j, none⟩ = some (.int .i64 (id : Int))) (hkb : w.cell? ⟨kb, ko + id, none⟩ = some (.string t)) {Q : Exit → Act → World → Prop} {v0 v1 v3 v5 v6 v7 v8 v9 v10 v11 v14 v15 v16 v17 v18 v19 v20 v21 v22 v24 v26 v27 v28 v29 v30 v31 v32 v33 v34 v35 v36 v37 v38 v39 v40 v41 v42 v43 v44 v45 v46 v47 v48 v49 v50 v51 v52 v53 v54 v55 v56 v57 v58 v59 v60 v61 v62 v63 v64 v65 v66 v67 v68 v69 v70 v71 v72 v73 v74 v75 v76 v77 v78 v79 v80 v81 v82 v83 v84 v85 v86 v87 v88 v89 v90 v91 v92 v93 v94 v95 v96 v97 v98 v99 v100 v101 v102 v103 v104 v105 v106 v107 v108 v109 v110 v111 v112 v113 v114 v115 v116 v117 v118 v119 v120 v121 v122 v123 v124 v125 v126 v127 v128 v129 v130 v131 v132 v133 v134 v135 : Value} (HL : Aside0 (L1 W w bm n P D cv l))
    (hN : Aside0 (∀ (n15 n16 n17 n18 n27 n28 n29 n30 n31 n32 n33 n34 n35 n36 n37 n38 n39 n40 n41 n42 n43 n44 n45 n46 n47 n48 n49 n50 n51 n52 n53 n54 n55 n56 n57 n58 n59 n60 n61 n62 n63 n64 n65 n66 n67 n68 n69 cv' : Value) (D' : DataW Unit) (w' : World), Aside0 (L1 W w' bm (n + 1) (P ++ [(head1 ((bs t).drop i), (id : Int))]) D' cv' (push l (head1 ((bs t).drop i)))) → Q .normal ⟨#[v0, v1, .int .i64 (i : Int), v3, .slice (some ⟨kb, ko, none⟩) N Nc, v5, v6, v7, v8, v9, v10, v11, cv', .map (some bm), v14, n15, n16, n17, n18, v19, v20, v21, v22, .slice (some ⟨bb, 0, none⟩) k kc, v24, .int .i64 (j : Int), v26, n27, n28, n29, n30, n31, n32, n33, n34, n35, n36, n37, n38, n39, n40, n41, n42, n43, n44, n45, n46, n47, n48, n49, n50, n51, n52, n53, n54, n55, n56, n57, n58, n59, n60, n61, n62, n63, n64, n65, n66, n67, n68, n69, v70, v71, v72, v73, v74, v75, v76, v77, v78, v79, v80, v81, v82, v83, v84, v85, v86, v87, v88, v89, v90, v91, v92, v93, v94, v95, v96, v97, v98, v99, v100, v101, v102, v103, v104, v105, v106, v107, v108, v109, v110, v111, v112, v113, v114, v115, v116, v117, v118, v119, v120, v121, v122, v123, v124, v125, v126, v127, v128, v129, v130, v131, v132, v133, v134, v135], []⟩ w')) :
    Code.wp Tryz.prog around Q ⟨#[v0, v1, .int .i64 (i : Int), v3, .slice (some ⟨kb, ko, none⟩) N Nc, v5, v6, v7, v8, v9, v10, v11, cv, .map (some bm), v14, v15, v16, v17, v18, v19, v20, v21, v22, .slice (some ⟨bb, 0, none⟩) k kc, v24, .int .i64 (j : Int), v26, v27, v28, v29, v30, v31, v32, v33, v34, v35, v36, v37, v38, v39, v40, v41, v42, v43, v44, v45, v46, v47, v48, v49, v50, v51, v52, v53, v54, v55, v56, v57, v58, v59, v60, v61, v62, v63, v64, v65, v66, v67, v68, v69, v70, v71, v72, v73, v74, v75, v76, v77, v78, v79, v80, v81, v82, v83, v84, v85, v86, v87, v88, v89, v90, v91, v92, v93, v94, v95, v96, v97, v98, v99, v100, v101, v102, v103, v104, v105, v106, v107, v108, v109, v110, v111, v112, v113, v114, v115, v116, v117, v118, v119, v120, v121, v122, v123, v124, v125, v126, v127, v128, v129, v130, v131, v132, v133, v134, v135], []⟩ w := by
  conv => arg 2; whnf
  conv => arg 4; zeta
  have hjz : (j : Int) < (k : Int) := by omega
  have hidz : (id : Int) < (N : Int) := by omega
  have hcv := Lib.run_convert_string_bytes (P := Tryz.prog) w 9 46 5 t Tryz.underlying9 Tryz.underlying46 Tryz.underlying5
  have H1 := Aside0.mk (HL.out.below (below_bytes w 5 t))
  have hcell := fun h => Lib.bytesWorld_cell w 5 t i h
  obtain ⟨w1, hw1⟩ : ∃ w1, w1 = Lib.bytesWorld w 5 t := ⟨_, rfl⟩
  obtain ⟨gc, hgc⟩ : ∃ gc, gc = grownCap w t.size 0 5 := ⟨_, rfl⟩
  obtain ⟨y, hy⟩ : ∃ y, w.heap.size = y := ⟨_, rfl⟩
  rw [← hw1, ← hgc, hy] at hcv
  rw [← hw1] at H1 hcell
  rw [hy] at hcell
  clear hw1 hgc hy
  clear HL
  by_cases hi : t.size ≤ i
  · have hiz : (i : Int) ≥ (t.size : Int) := by omega
    have HHD : Aside0 (((0 : Nat) : Int) = head1 ((bs t).drop i)) := ⟨(head_end t i hi).symm⟩
    clear hcell
    refine wp_seq_k fun K hK_ => ?_
    have hK := Aside0.mk hK_
    clear hK_
    go_wp2_with fail
    refine hK.out _ _ ?_
    clear hK K
    refine wp_seq_k fun K hK_ => ?_
    have hK := Aside0.mk hK_
    clear hK_
    go_wp2_with fail
    refine hK.out _ _ ?_
    clear hK K
    refine wp_seq_k fun K hK_ => ?_
    have hK := Aside0.mk hK_
    clear hK_
    go_wp2_with fail
    refine hK.out _ _ ?_
    clear hK K
    refine wp_seq_k fun K hK_ => ?_
    have hK := Aside0.mk hK_
    clear hK_
    go_wp2_with fail
    refine hK.out _ _ ?_
    clear hK K
    clear hcv hbb hkb
    refine wp_seq_k fun K hK_ => ?_
    have hK := Aside0.mk hK_
    clear hK_
    refine add_push W w1 bm n P D cv l 0 (by omega) hlen H1 ⟨?_⟩
    intro n18 n42 n43 n44 n45 n46 n47 n48 n49 n50 n51 n52 n53 n54 n55 n56 n57 n58 n59 cv' w2 H2
    refine hK.out _ _ ?_
    clear hK
    refine add_map W w2 bm n P D cv' _ 0 (id : Int) (by omega) (by omega) (by omega) hn H2 ⟨?_⟩
    intro m60 m61 m62 m63 m64 m65 m66 m67 m68 m69 D' w3 H3
    exact hN.out _ _ _ _ _ _ _ _ _ _ _ _ _ _ _ _ _ _ _ _ _ _ _ _ _ _ _ _ _ _ _ _ _ _ _ _ _ _ _ _ _ _ _ _ _ _ _ cv' D' w3 ⟨HHD.out ▸ H3.out⟩
  · have hiz : ¬ (i : Int) ≥ (t.size : Int) := by omega
    have hil : (i : Int) < (t.size : Int) := by omega
    have hcell := hcell (by omega)
    have HHD0 := head_at t i (by omega)
    have hcb : (t.data.toList.getD i 0).toNat < 256 := UInt8.toNat_lt _
    obtain ⟨c, hc⟩ : ∃ c : Nat, (t.data.toList.getD i 0).toNat = c := ⟨_, rfl⟩
    rw [hc] at hcell HHD0 hcb
    have HHD := Aside0.mk HHD0.symm
    clear hc HHD0
    refine wp_seq_k fun K hK_ => ?_
    have hK := Aside0.mk hK_
    clear hK_
    go_wp2_with fail
    refine hK.out _ _ ?_
    clear hK K
    refine wp_seq_k fun K hK_ => ?_
    have hK := Aside0.mk hK_
    clear hK_
    go_wp2_with fail
    refine hK.out _ _ ?_
    clear hK K
    refine wp_seq_k fun K hK_ => ?_
    have hK := Aside0.mk hK_
    clear hK_
    go_wp2_with fail
    refine hK.out _ _ ?_
    clear hK K
    refine wp_seq_k fun K hK_ => ?_
    have hK := Aside0.mk hK_
    clear hK_
    go_wp2_with fail
    refine hK.out _ _ ?_
    clear hK K
    clear hcv hbb hkb
    refine wp_seq_k fun K hK_ => ?_
    have hK := Aside0.mk hK_
    clear hK_
    refine add_push W w1 bm n P D cv l c (by omega) hlen H1 ⟨?_⟩
    intro n18 n42 n43 n44 n45 n46 n47 n48 n49 n50 n51 n52 n53 n54 n55 n56 n57 n58 n59 cv' w2 H2
    refine hK.out _ _ ?_
    clear hK
    refine add_map W w2 bm n P D cv' _ c (id : Int) (by omega) (by omega) (by omega) hn H2 ⟨?_⟩
    intro m60 m61 m62 m63 m64 m65 m66 m67 m68 m69 D' w3 H3
    exact hN.out _ _ _ _ _ _ _ _ _ _ _ _ _ _ _ _ _ _ _ _ _ _ _ _ _ _ _ _ _ _ _ _ _ _ _ _ _ _ _ _ _ _ _ _ _ _ _ cv' D' w3 ⟨HHD.out ▸ H3.out⟩

end Go.Proofs.YtaejkbjepbifcabGreatDoor.Da
namespace Go.Proofs.YtaejkbjepbifcabGreatDoor.Da
open Go.RowKit Go.Maps Go.ChangeShapes Go.Proofs.YtaejkbjepbifcabGreatDoorW.PrintWords
set_option linter.unusedVariables false
set_option linter.unusedSimpArgs false
noncomputable def akid : Code := pth [true, true, true, true, true, false, false, true, true, false, false] (Tryz.f68.body.getD .skip)
theorem L2.drew {W1 wr : World} {x g p b U j g' : Nat} {s1 t : DA} {L : Keys} (h : L2 W1 wr x g p b U s1 L j g' t) : L2 W1 wr.drew x g p b U s1 L j g' t := ⟨h.gg, h.mem.drew, h.kp.drew, h.ring, h.bd, h.jn⟩
set_option maxHeartbeats 16000000 in
set_option maxRecDepth 100000 in
theorem add_kid (m : Nat) (HR : Aside0 (AddAt m)) (W1 wr : World) (x g p b U i bb kb ko ib io cb cc bm n kc Nc Dc j g' : Nat) (s s1 t : DA) (ss : List ByteArray) (ds : List Int) (zs : List Nat) (D : DataW Unit) (HT : Aside0 (tot (keysOf ss ds i zs) ≤ m)) (hjl : j < (letters (keysOf ss ds i zs)).length) (HC : Aside0 (Cx W1 x g p b U i bb kb ko ib io cb bm n s s1 ss ds zs D)) {Q : Exit → Act → World → Prop} {v6 v7 v8 v9 v10 v11 v12 v14 v15 v16 v17 v18 v19 v20 v21 v22 v23 v24 v25 v26 v27 v28 v29 v30 v31 v32 v33 v34 v35 v36 v37 v38 v39 v40 v41 v42 v43 v44 v45 v46 v47 v48 v49 v50 v51 v52 v53 v54 v55 v56 v57 v58 v59 v60 v61 v62 v63 v64 v65 v66 v67 v68 v69 v70 v71 v72 v73 v74 v76 v78 v79 v80 v81 v82 v83 v84 v85 v86 v87 v88 v89 v90 v91 v92 v93 v94 v95 v96 v97 v98 v99 v100 v101 v102 v103 v104 v105 v106 v107 v108 v109 v110 v111 v112 v113 v114 v115 v116 v117 v118 v119 v120 v121 v122 v123 v124 v125 v126 v127 v128 v129 v130 v131 v132 v133 v134 v135 : Value}
    (HS : Aside0 (L2 W1 wr x g p b U s1 (keysOf ss ds i zs) j g' t))
    (hN : Aside0 (∀ (n20 n21 n79 n80 n81 n82 n83 n84 n85 n86 n87 n88 n89 n90 n91 n92 n93 n94 n95 n96 n97 n98 n99 n100 n101 n102 n103 n104 n105 n106 n107 n108 n109 n110 n111 n112 n113 n114 n115 n116 n117 n118 n119 n120 n121 n122 n123 n124 n125 n126 n127 n128 n129 n130 n131 n132 n133 n134 : Value) (g3 : Nat) (t3 : DA) (W3 : World), Aside0 (L2 W1 W3 x g p b U s1 (keysOf ss ds i zs) (j + 1) g3 t3) → Q .normal ⟨#[.pointer (some ⟨x, 0, none⟩), .int .i64 (p : Int), .int .i64 (i : Int), .slice (some ⟨bb, 0, none⟩) zs.length kc, .slice (some ⟨kb, ko, none⟩) ss.length Nc, .slice (some ⟨ib, io, none⟩) ds.length Dc, v6, v7, v8, v9, v10, v11, v12, .map (some bm), v14, v15, v16, v17, v18, v19, n20, n21, v22, v23, v24, v25, v26, v27, v28, v29, v30, v31, v32, v33, v34, v35, v36, v37, v38, v39, v40, v41, v42, v43, v44, v45, v46, v47, v48, v49, v50, v51, v52, v53, v54, v55, v56, v57, v58, v59, v60, v61, v62, v63, v64, v65, v66, v67, v68, v69, v70, v71, v72, v73, v74, .slice (some ⟨cb, 0, none⟩) (letters (keysOf ss ds i zs)).length cc, v76, .int .i64 (j : Int), v78, n79, n80, n81, n82, n83, n84, n85, n86, n87, n88, n89, n90, n91, n92, n93, n94, n95, n96, n97, n98, n99, n100, n101, n102, n103, n104, n105, n106, n107, n108, n109, n110, n111, n112, n113, n114, n115, n116, n117, n118, n119, n120, n121, n122, n123, n124, n125, n126, n127, n128, n129, n130, n131, n132, n133, n134, v135], []⟩ W3)) :
    Code.wp Tryz.prog akid Q ⟨#[.pointer (some ⟨x, 0, none⟩), .int .i64 (p : Int), .int .i64 (i : Int), .slice (some ⟨bb, 0, none⟩) zs.length kc, .slice (some ⟨kb, ko, none⟩) ss.length Nc, .slice (some ⟨ib, io, none⟩) ds.length Dc, v6, v7, v8, v9, v10, v11, v12, .map (some bm), v14, v15, v16, v17, v18, v19, v20, v21, v22, v23, v24, v25, v26, v27, v28, v29, v30, v31, v32, v33, v34, v35, v36, v37, v38, v39, v40, v41, v42, v43, v44, v45, v46, v47, v48, v49, v50, v51, v52, v53, v54, v55, v56, v57, v58, v59, v60, v61, v62, v63, v64, v65, v66, v67, v68, v69, v70, v71, v72, v73, v74, .slice (some ⟨cb, 0, none⟩) (letters (keysOf ss ds i zs)).length cc, v76, .int .i64 (j : Int), v78, v79, v80, v81, v82, v83, v84, v85, v86, v87, v88, v89, v90, v91, v92, v93, v94, v95, v96, v97, v98, v99, v100, v101, v102, v103, v104, v105, v106, v107, v108, v109, v110, v111, v112, v113, v114, v115, v116, v117, v118, v119, v120, v121, v122, v123, v124, v125, v126, v127, v128, v129, v130, v131, v132, v133, v134, v135], []⟩ wr := by
  conv => arg 2; whnf
  conv => arg 4; zeta
  have C := HC.out
  have S := HS.out
  have hjz : (j : Int) < ((letters (keysOf ss ds i zs)).length : Int) := by omega
  have hkb : Row wr cb (letters (keysOf ss ds i zs)) := C.row.step (S.kp.old cb C.row.lt (by have := C.xb; omega))
  have rc := hkb.cell j hjl
  have hm : (letters (keysOf ss ds i zs)).getD j 0 ∈ letters (keysOf ss ds i zs) := by rw [List.getD_eq_getElem?_getD, List.getElem?_eq_getElem hjl]; exact List.getElem_mem hjl
  have hc1 := letters_bd C.ok _ hm
  have hj0 : (letters (keysOf ss ds i zs))[j]? = some ((letters (keysOf ss ds i zs)).getD j 0) := by rw [List.getD_eq_getElem?_getD, List.getElem?_eq_getElem hjl]; rfl
  obtain ⟨c, hc⟩ : ∃ c : Nat, (letters (keysOf ss ds i zs)).getD j 0 = (c : Int) := ⟨((letters (keysOf ss ds i zs)).getD j 0).toNat, by omega⟩
  rw [hc] at rc hm hc1 hj0
  have hmm := C.mkk.mm _ hm
  rw [Int.toNat_natCast] at hmm
  have hq := (S.jn.up hmm.1).2.1
  have bx := S.mem.box
  have hpn : p < t.n := by
    rcases C.pp with h | h
    · have := S.bd.lo; omega
    · exact (S.jn.up (C.mkk.up h)).2.1
  have hkid : ∀ ch ∈ letters (keysOf ss ds i zs), p ≠ b + ch.toNat := by
    intro ch hc e
    have hm := C.mkk.mm ch hc
    rcases C.pp with h | h
    · have := hm.1.1; omega
    · rw [e] at h; exact hm.2.2 h
  have hB : t.B p = (b : Int) := by
    rw [S.jn.bb p (by rcases C.pp with h | h; exact Or.inl h; exact Or.inr (C.mkk.up h)) hkid]
    exact C.mkk.bp
  have cp : wr.cell? ⟨g', p * 2, none⟩ = some (.int .i32 (b : Int)) := (S.mem.base p hpn).trans (congrArg (fun v => some (Value.int .i32 v)) hB)
  have hpz : (p : Int) < (t.n : Int) := by omega
  have hbu : b ≤ 16777216 := by have := C.bu; have := C.um; omega
  have big := S.mem.big
  have hn := C.nn
  have hilz : i ≤ 1000000000 := C.il
  have HOG : Aside0 (OG wr bm n D) := ⟨og_kp C.og S.kp C.xb.1 C.xb.2.1 C.lt⟩
  have hkey : keyOf Tryz.prog 5 (.int .u8 (c : Int)) = some (.int .u8 (c : Int)) := keyOf_int_mk Tryz.underlying5 (WalkArith.wf_u8 (by omega))
  have HJ0 := Aside0.mk hj0
  have HM := Aside0.mk hm
  by_cases hc0 : c = 0
  · subst hc0
    have hjj : j = 0 := first_zero (asc_letters C.asc C.ok) (fun c h => (letters_bd C.ok c h).1) hj0
    subst hjj
    obtain ⟨z, zr, hz⟩ : ∃ z zr, zs = z :: zr := by cases h : zs with
      | nil => exact absurd h C.ne
      | cons z zr => exact ⟨z, zr, rfl⟩
    have hzl : 0 < zs.length := List.length_pos_iff.2 C.ne
    have brs := (C.br.step S.kp (by have := C.ap; rintro (h | h) <;> omega)).2 0 hzl
    rw [show zs.getD 0 0 = z by rw [hz]; rfl] at brs
    have hzs : z < ss.length := C.zb z (by rw [hz]; exact List.mem_cons_self)
    have hzd : z < ds.length := by have := C.src.len; omega
    have idc := (C.src.step S.kp (by have := C.ap; rintro (h | h) <;> omega) (by have := C.ap; rintro (h | h) <;> omega)).idc z hzd
    have hdd : 0 ≤ ds.getD z 0 ∧ ds.getD z 0 ≤ 2147483647 := by
      rw [List.getD_eq_getElem?_getD, List.getElem?_eq_getElem hzd]; exact C.src.dsb _ (List.getElem_mem hzd)
    have HF := Aside0.mk (L2.fin C S.drew hj0 hz hdd)
    obtain ⟨d, hd⟩ : ∃ d, ds.getD z 0 = d := ⟨_, rfl⟩
    rw [hd] at idc hdd HF
    have HFR := Aside0.mk (S.mem.drew.froz (b * 2))
    have HTC := Aside0.mk (S.mem.drew.base b (by simpa using hq))
    have hzz : (z : Int) < (ds.length : Int) := by omega
    have hzl2 : (0 : Int) < (zs.length : Int) := by omega
    have hdl : ¬ (ds.length : Int) = 0 := by omega
    have hdlb : ((ds.length : Int) == 0) = false := by rw [beq_eq_false_iff_ne]; exact hdl
    have hqz : (b : Int) < (t.n : Int) := by omega
    clear C S hkb hc hm hc1 hj0 hmm hq hkid hB hz hd hjz hpn
    go_upto_region 24 with (first | (at_lookup; refine wpList_lookup_groups_shuns _ rfl _ _ 133 rfl 5 38 3 .i64 key_u8 Tryz.underlying133 (zero_ints _) (bm + 1) bm n D rfl HOG.out (by unfold maxLen; omega) _ _ rfl hkey ?_; intro v ys hat hoi hzl hback hsh; obtain ⟨a2, k2, hv⟩ := none_of HC.out hat hoi; clear hat hoi hzl hback hsh; subst hv) | go_in)
    clear HOG hkey rc hdl hdlb
    go_still_tail 14, (by kernel_rfl)
    change wpList _ _ _ _ _ wr.drew
    clear bx cp brs idc
    obtain ⟨D1, h_⟩ : ∃ w_, w_ = wr.drew := ⟨_, rfl⟩
    rw [← h_] at HF HFR HTC ⊢
    clear h_
    have tf := HFR.out
    have tc := HTC.out
    go_wp2_with fail
    exact hN.out _ _ _ _ _ _ _ _ _ _ _ _ _ _ _ _ _ _ _ _ _ _ _ _ _ _ _ _ _ _ _ _ _ _ _ _ _ _ _ _ _ _ _ _ _ _ _ _ _ _ _ _ _ _ _ _ _ _ _ _ _ HF
  · have hcn : ¬ ((below ss i zs (c : Int)).length : Int) = 0 := by have := List.length_pos_iff.2 (below_ne hm); omega
    have hcb : (((below ss i zs (c : Int)).length : Int) == 0) = false := by rw [beq_eq_false_iff_ne]; exact hcn
    have HTT : Aside0 (tot (keysOf ss ds (i + 1) (below ss i zs (c : Int))) < m) := ⟨Nat.lt_of_lt_of_le (tot_below (by omega) hm) HT.out⟩
    have hcl := (by omega : c ≤ 255)
    clear C S hkb hc hm hc1 hj0 hmm hq hkid hB hpn
    go_wp2_with (first | (at_lookup; refine wpList_lookup_groups_shuns _ rfl _ _ 133 rfl 5 38 3 .i64 key_u8 Tryz.underlying133 (zero_ints _) (bm + 1) bm n D rfl HOG.out (by unfold maxLen; omega) _ _ rfl hkey ?_; intro v ys hat hoi hzl hback hsh; obtain ⟨b2, k2, hv, hv2⟩ := child_of HC.out HS.out hc0 hcl HM.out hat hoi hsh; have HV := Aside0.mk hv2; clear hat hoi hzl hback hsh hv2; subst hv) | (go_at_call 68; refine (HR.out wr x g' (b + c) (U + 512 * (1 + lives (keysOf ss ds i zs) ((letters (keysOf ss ds i zs)).take j))) (i + 1) b2 kb ko ib io k2 Nc Dc t ss ds (below ss i zs (c : Int)) _ _ (by omega) (by omega) HTT.out (child_pre HC.out HS.out hc0 HJ0.out HV.out.1 HV.out.2.1 HV.out.2.2)).mono ?_; rintro e_ W3 hE; obtain ⟨rfl, g3, t3, hL3⟩ := HS.out.child HC.out hc0 HJ0.out hE; have HL3 := Aside0.mk hL3; clear hE hL3) | go_in)
    exact hN.out _ _ _ _ _ _ _ _ _ _ _ _ _ _ _ _ _ _ _ _ _ _ _ _ _ _ _ _ _ _ _ _ _ _ _ _ _ _ _ _ _ _ _ _ _ _ _ _ _ _ _ _ _ _ _ _ _ _ _ _ _ HL3

end Go.Proofs.YtaejkbjepbifcabGreatDoor.Da
namespace Go.Proofs.YtaejkbjepbifcabGreatDoor.Da
open Go.RowKit Go.Maps Go.ChangeShapes Go.Proofs.YtaejkbjepbifcabGreatDoorW.PrintWords
set_option linter.unusedVariables false
set_option linter.unusedSimpArgs false
theorem letters_len (L : Keys) : (letters L).length ≤ L.length := by
  have key : ∀ (n : Nat) (L : Keys), L.length = n → (letters L).length ≤ n := by
    intro n
    induction n with
    | zero => intro L h; rw [List.length_eq_zero_iff.1 h]; simp [letters]
    | succ n ih =>
      intro L h
      obtain ⟨M, k, rfl⟩ : ∃ M k, L = M ++ [k] := ⟨L.dropLast, L.getLast (by intro e; rw [e] at h; simp at h), (List.dropLast_concat_getLast _).symm⟩
      have := ih M (by simpa using h)
      rw [letters_snoc]
      unfold push
      split
      · omega
      · simp; omega
  exact key _ L rfl
theorem take_more {zs : List Nat} {j : Nat} (h : j < zs.length) : zs.take (j + 1) = zs.take j ++ [zs.getD j 0] := by
  rw [List.take_succ_eq_append_getElem h, List.getD_eq_getElem?_getD, List.getElem?_eq_getElem h]; rfl
theorem prs_more (ss : List ByteArray) (i : Nat) {zs : List Nat} {j : Nat} (h : j < zs.length) : prs ss i (zs.take (j + 1)) = prs ss i (zs.take j) ++ [(hd ss i (zs.getD j 0), ((zs.getD j 0 : Nat) : Int))] := by
  rw [take_more h]; simp [prs]
theorem letters_more (ss : List ByteArray) (ds : List Int) (i : Nat) {zs : List Nat} {j : Nat} (h : j < zs.length) : letters (keysOf ss ds i (zs.take (j + 1))) = push (letters (keysOf ss ds i (zs.take j))) (hd ss i (zs.getD j 0)) := by
  rw [take_more h]
  unfold keysOf
  rw [List.map_append]
  exact letters_snoc _ _
noncomputable def aloop : Code := pth [true, true, false, true] (Tryz.f68.body.getD .skip)
set_option maxHeartbeats 16000000 in
set_option maxRecDepth 100000 in
theorem add_loop (W w : World) (i bm bb kb ko ib io kc Nc : Nat) (ss : List ByteArray) (ds : List Int) (zs : List Nat) (HSR : Aside0 (Src W kb ko ss ib io ds)) (HBR : Aside0 (BrC W bb zs)) (HZB : Aside0 (∀ z ∈ zs, z < ss.length)) (hzl : zs.length ≤ 1000000) (hi_ : i ≤ 1000000000) {Q : Exit → Act → World → Prop} {v0 v1 v3 v5 v6 v7 v8 v9 v10 v11 v14 v15 v16 v17 v18 v19 v20 v21 v22 v26 v27 v28 v29 v30 v31 v32 v33 v34 v35 v36 v37 v38 v39 v40 v41 v42 v43 v44 v45 v46 v47 v48 v49 v50 v51 v52 v53 v54 v55 v56 v57 v58 v59 v60 v61 v62 v63 v64 v65 v66 v67 v68 v69 v70 v71 v72 v73 v74 v75 v76 v77 v78 v79 v80 v81 v82 v83 v84 v85 v86 v87 v88 v89 v90 v91 v92 v93 v94 v95 v96 v97 v98 v99 v100 v101 v102 v103 v104 v105 v106 v107 v108 v109 v110 v111 v112 v113 v114 v115 v116 v117 v118 v119 v120 v121 v122 v123 v124 v125 v126 v127 v128 v129 v130 v131 v132 v133 v134 v135 : Value}
    (HL : Aside0 (L1 W w bm 0 [] (.map []) (.slice none 0 0) []))
    (hN : Aside0 (∀ (n15 n16 n17 n18 n25 n26 n27 n28 n29 n30 n31 n32 n33 n34 n35 n36 n37 n38 n39 n40 n41 n42 n43 n44 n45 n46 n47 n48 n49 n50 n51 n52 n53 n54 n55 n56 n57 n58 n59 n60 n61 n62 n63 n64 n65 n66 n67 n68 n69 n70 cv' : Value) (D' : DataW Unit) (w' : World), Aside0 (L1 W w' bm zs.length (prs ss i zs) D' cv' (letters (keysOf ss ds i zs))) → Q .normal ⟨#[v0, v1, .int .i64 (i : Int), v3, .slice (some ⟨kb, ko, none⟩) ss.length Nc, v5, v6, v7, v8, v9, v10, v11, cv', .map (some bm), v14, n15, n16, n17, n18, v19, v20, v21, v22, .slice (some ⟨bb, 0, none⟩) zs.length kc, .int .i64 (zs.length : Int), n25, n26, n27, n28, n29, n30, n31, n32, n33, n34, n35, n36, n37, n38, n39, n40, n41, n42, n43, n44, n45, n46, n47, n48, n49, n50, n51, n52, n53, n54, n55, n56, n57, n58, n59, n60, n61, n62, n63, n64, n65, n66, n67, n68, n69, n70, v71, v72, v73, v74, v75, v76, v77, v78, v79, v80, v81, v82, v83, v84, v85, v86, v87, v88, v89, v90, v91, v92, v93, v94, v95, v96, v97, v98, v99, v100, v101, v102, v103, v104, v105, v106, v107, v108, v109, v110, v111, v112, v113, v114, v115, v116, v117, v118, v119, v120, v121, v122, v123, v124, v125, v126, v127, v128, v129, v130, v131, v132, v133, v134, v135], []⟩ w')) :
    Code.wp Tryz.prog aloop Q ⟨#[v0, v1, .int .i64 (i : Int), v3, .slice (some ⟨kb, ko, none⟩) ss.length Nc, v5, v6, v7, v8, v9, v10, v11, .slice none 0 0, .map (some bm), v14, v15, v16, v17, v18, v19, v20, v21, v22, .slice (some ⟨bb, 0, none⟩) zs.length kc, .int .i64 (zs.length : Int), .int .i64 0, v26, v27, v28, v29, v30, v31, v32, v33, v34, v35, v36, v37, v38, v39, v40, v41, v42, v43, v44, v45, v46, v47, v48, v49, v50, v51, v52, v53, v54, v55, v56, v57, v58, v59, v60, v61, v62, v63, v64, v65, v66, v67, v68, v69, v70, v71, v72, v73, v74, v75, v76, v77, v78, v79, v80, v81, v82, v83, v84, v85, v86, v87, v88, v89, v90, v91, v92, v93, v94, v95, v96, v97, v98, v99, v100, v101, v102, v103, v104, v105, v106, v107, v108, v109, v110, v111, v112, v113, v114, v115, v116, v117, v118, v119, v120, v121, v122, v123, v124, v125, v126, v127, v128, v129, v130, v131, v132, v133, v134, v135], []⟩ w := by
  conv => arg 2; whnf
  conv => arg 4; zeta
  have hfew := HSR.out.few
  go_wp2_with fail
  go_loopg [12, 25] zs.length (fun kq y12 y25 w' => ∃ (j : Nat) (D' : DataW Unit), y25 = .int .i64 (j : Int) ∧ Aside0 (j + kq = zs.length) ∧ Aside0 (L1 W w' bm j (prs ss i (zs.take j)) D' y12 (letters (keysOf ss ds i (zs.take j)))))
  case atStart => exact ⟨0, .map [], rfl, ⟨by omega⟩, HL⟩
  case round =>
    clear HL
    obtain ⟨j, D', rfl, HJ, HL⟩ := hrel
    have hj := HJ.out
    by_cases hjl : j < zs.length
    · have hjz : (j : Int) < (zs.length : Int) := by omega
      go_upto_block 1 with fail
      refine wp_block ?_
      have hz : zs.getD j 0 ∈ zs := by rw [List.getD_eq_getElem?_getD, List.getElem?_eq_getElem hjl]; exact List.getElem_mem hjl
      have hzs := HZB.out _ hz
      have hsz := HSR.out.sz (ss.getD (zs.getD j 0) ByteArray.empty) (by rw [List.getD_eq_getElem?_getD (l := ss), List.getElem?_eq_getElem hzs]; exact List.getElem_mem hzs)
      refine add_round W wr bm j _ D' _ _ i j (zs.getD j 0) zs.length kc kb ko ss.length Nc bb (ss.getD (zs.getD j 0) ByteArray.empty) (Nat.le_trans (letters_len _) (by simp [keysOf]; omega)) (by omega) hjl hzs (by omega) hsz hi_ ((HBR.out.step HL.out.kp id).2 j hjl) ((HSR.out.step HL.out.kp id id).kw _ hzs) HL ⟨?_⟩
      intro n15 n16 n17 n18 n27 n28 n29 n30 n31 n32 n33 n34 n35 n36 n37 n38 n39 n40 n41 n42 n43 n44 n45 n46 n47 n48 n49 n50 n51 n52 n53 n54 n55 n56 n57 n58 n59 n60 n61 n62 n63 n64 n65 n66 n67 n68 n69 cv2 D2 w2 H2
      have H3 : Aside0 (L1 W w2 bm (j + 1) (prs ss i (zs.take (j + 1))) D2 cv2 (letters (keysOf ss ds i (zs.take (j + 1))))) := ⟨by rw [prs_more _ _ hjl, letters_more _ _ _ hjl]; exact H2.out⟩
      clear H2 HL hz hzs hsz
      cases gk with
      | zero => omega
      | succ kz =>
      go_wp2_with fail
      go_roundg kz
      case measure => omega
      case rel => exact ⟨j + 1, D2, congrArg (Value.int .i64) (by omega), ⟨by omega⟩, H3⟩
    · have hjz : ¬ (j : Int) < (zs.length : Int) := by omega
      obtain rfl : j = zs.length := by omega
      have H3 : Aside0 (L1 W wr bm zs.length (prs ss i zs) D' _ (letters (keysOf ss ds i zs))) := ⟨by have h := HL.out; rw [List.take_length] at h; exact h⟩
      go_wp2_with fail
      exact hN.out _ _ _ _ _ _ _ _ _ _ _ _ _ _ _ _ _ _ _ _ _ _ _ _ _ _ _ _ _ _ _ _ _ _ _ _ _ _ _ _ _ _ _ _ _ _ _ _ _ _ _ D' wr H3

theorem l1_start (W : World) : L1 W (W.alloc (.map #[] 0)) W.heap.size 0 [] (.map []) (.slice none 0 0) [] :=
  ⟨(Kp.self W _).alloc _, Nat.le_refl _, by rw [Own.size_alloc]; omega, World.ownsGroups_made _ _ _ _ _, ⟨isMap_empty, fun c _ _ => by simp [gd, grp, DataW.atKey]⟩, World.ownsRow_nil _ _ _ _, World.Shuns_made _ _⟩
set_option maxHeartbeats 16000000 in
set_option maxRecDepth 100000 in
theorem add_step (m : Nat) (hR : AddAt m) : AddAt (m + 1) := by
  intro W x g p U i bb kb ko ib io kc Nc Dc s ss ds zs pv iv hpv hiv hm hP
  subst hpv
  subst hiv
  have HR := Aside0.mk hR
  have HP := Aside0.mk hP
  have HT : Aside0 (tot (keysOf ss ds i zs) ≤ m) := ⟨by omega⟩
  have HL0 := Aside0.mk (l1_start W)
  have hmm := @run_makeMap Tryz.prog
  clear hR hP hm
  go_enter Tryz.func68, Tryz.ntmps68
  refine wp_seq_k fun K hK_ => ?_
  have hK := Aside0.mk hK_
  clear hK_
  go_wp2_with fail
  refine hK.out _ _ ?_
  clear hK K
  refine wp_seq_k fun K hK_ => ?_
  have hK := Aside0.mk hK_
  clear hK_
  go_wp2_with fail
  refine hK.out _ _ ?_
  clear hK K
  refine wp_seq_k fun K hK_ => ?_
  have hK := Aside0.mk hK_
  clear hK_
  refine wp_seq_k fun K2 hK2_ => ?_
  have hK2 := Aside0.mk hK2_
  clear hK2_
  go_wp2_with fail
  refine hK2.out _ _ ?_
  clear hK2 K2
  refine add_loop W _ i W.heap.size bb kb ko ib io kc Nc ss ds zs ⟨HP.out.src⟩ ⟨HP.out.br⟩ ⟨HP.out.zb⟩ HP.out.zl HP.out.il HL0 ⟨?_⟩
  intro n15 n16 n17 n18 n25 n26 n27 n28 n29 n30 n31 n32 n33 n34 n35 n36 n37 n38 n39 n40 n41 n42 n43 n44 n45 n46 n47 n48 n49 n50 n51 n52 n53 n54 n55 n56 n57 n58 n59 n60 n61 n62 n63 n64 n65 n66 n67 n68 n69 n70 cv1 D1 w1 H1
  refine hK.out _ _ ?_
  clear hK K
  have P := HP.out
  rcases H1.out.ch.2 with ⟨_, h0⟩ | ⟨cb, cc, cur, rfl, h2, h3, h4, h5, h6, h7⟩
  · exact absurd h0 (by have := letters_ne (keys_ne (ss := ss) (ds := ds) (i := i) P.ne); omega)
  have hrow : Row w1 cb (letters (keysOf ss ds i zs)) := ⟨cur, _, h3, fun j hj => by
    rw [← Array.getElem?_toList, ← List.getElem?_take_of_lt (show j < (letters (keysOf ss ds i zs)).length * 1 by omega), h7, List.getElem?_map, List.getElem?_eq_getElem hj, List.getD_eq_getElem?_getD, List.getElem?_eq_getElem hj]; rfl⟩
  obtain ⟨hh, ll, hr⟩ := P.ring
  have hxl := P.mem.xlt
  have hgl := P.mem.toArr.lt
  have HSK := Aside0.mk (seek_calls w1 x g p cb cc s hh ll U (letters (keysOf ss ds i zs)) (P.mem.far H1.out.kp id id) hr P.bd P.u (by have := P.um; omega) P.pp hrow (by omega) (by omega) (letters_ne (keys_ne P.ne)) (asc_len (asc_letters P.asc P.ok) (letters_bd P.ok)) (letters_bd P.ok) (asc_letters P.asc P.ok))
  have HROW := Aside0.mk hrow
  clear P h3 h6 h7 hrow hr
  refine wp_seq_k fun K hK_ => ?_
  have hK := Aside0.mk hK_
  clear hK_
  go_wp2_with (go_at_call 80; refine HSK.out.mono ?_; rintro e_ w2 ⟨rfl, hS⟩; have HSO := Aside0.mk hS; clear hS)
  refine hK.out _ _ ?_
  clear hK K
  have P := HP.out
  obtain ⟨g1, s1, b, hg, hmem, hkp, hmk, hring, hbd, hb⟩ := HSO.out
  have HC : Aside0 (Cx w1 x g p b U i bb kb ko ib io cb W.heap.size zs.length s s1 ss ds zs D1) := ⟨⟨hmk, P.bare, P.par, P.pp.imp (fun h => h.1) id, P.src.step H1.out.kp id id, P.br.step H1.out.kp id, HROW.out, H1.out.og, H1.out.gdt, H1.out.lt, by have := P.zl; omega, ⟨hxl, hgl, by omega⟩, P.ap, P.ne, P.zb, P.zl, P.ok, P.asc, P.u, P.um, P.il, hb⟩⟩
  have HS0 : Aside0 (L2 w1 w2 x g p b U s1 (keysOf ss ds i zs) 0 g1 s1) := ⟨⟨hg, hmem, hkp, hring, hbd.up (Nat.add_le_add_left (Nat.mul_le_mul_left 512 (Nat.le_add_right 1 _)) U), Jn.start hmk (P.pp.imp (fun h => h.1) id) P.par⟩⟩
  have HKP := Aside0.mk H1.out.kp
  have hl256 := asc_len (asc_letters P.asc P.ok) (letters_bd P.ok)
  clear P HSO hg hmem hkp hmk hring hbd HL0 H1 HSK
  go_wp2_with fail
  go_loopg [77] (letters (keysOf ss ds i zs)).length (fun kq y77 w' => ∃ (j g' : Nat) (t : DA), y77 = .int .i64 (j : Int) ∧ Aside0 (j + kq = (letters (keysOf ss ds i zs)).length) ∧ Aside0 (L2 w1 w' x g p b U s1 (keysOf ss ds i zs) j g' t))
  case atStart => exact ⟨0, g1, s1, rfl, ⟨by omega⟩, HS0⟩
  case round =>
    clear HS0
    obtain ⟨j, g', t, rfl, HJ, HS⟩ := hrel
    have hj := HJ.out
    by_cases hjl : j < (letters (keysOf ss ds i zs)).length
    · have hjz : (j : Int) < ((letters (keysOf ss ds i zs)).length : Int) := by omega
      go_upto_block 3 with fail
      refine wp_block ?_
      refine add_kid m HR w1 wr x g p b U i bb kb ko ib io cb cc W.heap.size zs.length kc Nc Dc j g' s s1 t ss ds zs D1 HT hjl HC HS ⟨?_⟩
      intro n20 n21 n79 n80 n81 n82 n83 n84 n85 n86 n87 n88 n89 n90 n91 n92 n93 n94 n95 n96 n97 n98 n99 n100 n101 n102 n103 n104 n105 n106 n107 n108 n109 n110 n111 n112 n113 n114 n115 n116 n117 n118 n119 n120 n121 n122 n123 n124 n125 n126 n127 n128 n129 n130 n131 n132 n133 n134 g3 t3 w3 H3
      clear HS
      cases gk with
      | zero => omega
      | succ kz =>
      go_wp2_with fail
      go_roundg kz
      case measure => omega
      case rel => exact ⟨j + 1, g3, t3, congrArg (Value.int .i64) (by omega), ⟨by omega⟩, H3⟩
    · have hjz : ¬ (j : Int) < ((letters (keysOf ss ds i zs)).length : Int) := by omega
      obtain rfl : j = (letters (keysOf ss ds i zs)).length := by omega
      have hfin := Aside0.mk (L2.all HC.out HS.out HKP.out hgl)
      go_wp2_with fail
      (try simp only [Exit.jump])
      go_end0
      exact hfin.out
theorem add_at (m : Nat) : AddAt m := by
  induction m with
  | zero => intro W x g p U i bb kb ko ib io kc Nc Dc s ss ds zs pv iv _ _ h; exact absurd h (Nat.not_lt_zero _)
  | succ m ih => exact add_step m ih

end Go.Proofs.YtaejkbjepbifcabGreatDoor.Da
namespace Go.Proofs.YtaejkbjepbifcabGreatDoor.Da
open Go.RowKit Go.Proofs.YtaejkbjepbifcabGreatDoorW.PrintWords
set_option linter.unusedVariables false
set_option linter.unusedSimpArgs false
theorem fresh_box (W : World) (n : Nat) (hn : n ≤ 1073741824) : Mem ((W.alloc (.cells #[.slice (some ⟨W.heap.size + 1, 0, none⟩) n n] 50)).alloc (zeros n)) W.heap.size (W.heap.size + 1) ⟨n, fun _ => 0, fun _ => 0⟩ := by
  have e1 : (W.alloc (.cells #[.slice (some ⟨W.heap.size + 1, 0, none⟩) n n] 50)).heap.size = W.heap.size + 1 := Own.size_alloc _ _
  have a := arr_new (W.alloc (.cells #[.slice (some ⟨W.heap.size + 1, 0, none⟩) n n] 50)) n hn
  rw [e1] at a
  exact ⟨a, ((below_alloc (Below.refl _ _) _).block _ (by rw [e1]; omega)).trans (blk_new W _), by omega⟩
def Cut (W : World) (x g : Nat) (s : DA) (e : Ending) (w' : World) : Prop :=
  e = .returned (.tuple #[]) ∧ ∃ g' m, (g' = g ∨ W.heap.size ≤ g') ∧ 1 ≤ m ∧ m ≤ s.n ∧ (∀ j, m ≤ j → j < s.n → s.C j < 0) ∧ Mem w' x g' ⟨m, s.B, s.C⟩ ∧ Kp W w' (fun k => k = x)
set_option maxHeartbeats 8000000 in
set_option maxRecDepth 100000 in
theorem truncate_calls (W : World) (x g u : Nat) (s : DA) (m : Mem W x g s) (hu : s.used u) :
    Calls Tryz.prog 69 #[.pointer (some ⟨x, 0, none⟩)] W fun e w' => Cut W x g s e w' := by
  have M := Aside0.mk m
  have HU := Aside0.mk hu
  have bx := m.box
  have big := m.big
  have hun := hu.2.1
  clear m hu
  go_enter Tryz.func69, Tryz.ntmps69
  go_wp2_with fail
  go_loopg [2, 3] s.n (fun kq y2 y3 w' => ∃ i k : Nat, y2 = .int .i64 (k : Int) ∧ y3 = .int .i64 (i : Int) ∧ Aside0 (i + kq = s.n ∧ k + i = s.n) ∧ Aside0 (w' = W) ∧ Aside0 (∀ j, k ≤ j → j < s.n → s.C j < 0))
  case atStart => exact ⟨0, s.n, rfl, rfl, ⟨by omega⟩, ⟨rfl⟩, ⟨fun j h1 h2 => by omega⟩⟩
  case round =>
    obtain ⟨i, k, rfl, rfl, HI, hw, HF⟩ := hrel
    obtain rfl := hw.out
    clear hw
    obtain ⟨i1, i2⟩ := HI.out
    have hk : u < k := by
      rcases Nat.lt_or_ge u k with h | h
      · exact h
      · have := HF.out u h hun; have := HU.out.2.2; omega
    have hiz : (i : Int) < (s.n : Int) := by omega
    have hkz : (s.n : Int) - (i : Int) - 1 = ((k - 1 : Nat) : Int) := by omega
    have cz : wr.cell? ⟨g, (k - 1) * 2 + 1, none⟩ = _ := M.out.chk (k - 1) (by omega)
    obtain ⟨cv, hcv⟩ : ∃ cv, s.C (k - 1) = cv := ⟨_, rfl⟩
    rw [hcv] at cz
    have HCV := Aside0.mk hcv
    clear hcv
    have kb : ((k - 1 : Nat) : Int) < (s.n : Int) := by omega
    cases gk with
    | zero => omega
    | succ kz =>
    by_cases hc : cv < 0
    · go_wp2_with fail
      go_roundg kz
      case measure => omega
      case rel => exact ⟨i + 1, k - 1, congrArg (Value.int .i64) (by omega), congrArg (Value.int .i64) (by omega), ⟨by omega⟩, ⟨rfl⟩, ⟨fun j h1 h2 => by
        by_cases e : j = k - 1
        · rw [e, HCV.out]; exact hc
        · exact HF.out j (by omega) h2⟩⟩
    · by_cases hkn : k = s.n
      · have hkb : ((k : Int) == (s.n : Int)) = true := by rw [beq_iff_eq]; omega
        have HKN := Aside0.mk hkn
        clear hkn
        go_wp2_with fail
        exact bodyPost_ret (v := .tuple #[]) (by simp [results, Tryz.results69, go_sem]) rfl ⟨rfl, g, s.n, Or.inl rfl, by omega, Nat.le_refl _, fun j h1 h2 => by omega, M.out, Kp.self _ _⟩
      · have hkb : ((k : Int) == (s.n : Int)) = false := by rw [beq_eq_false_iff_ne]; omega
        have hmk : ∀ w : World, (Instr.makeSlice 50 (.int .i64 (k : Int)) (.int .i64 (k : Int))).run Tryz.prog w = .ok (.slice (some ⟨w.heap.size, 0, none⟩) k k) (w.alloc (zeros k)) := fun w => make_run w k (by omega)
        go_upto_region 9 with fail
        have M2_ := Aside0.mk (fresh_box wr k (by omega))
        have K_ : Aside0 (Kp wr ((wr.alloc (.cells #[.slice (some ⟨wr.heap.size + 1, 0, none⟩) k k] 50)).alloc (zeros k)) (fun _ => False)) := ⟨((Kp.self wr _).alloc _).alloc _⟩
        have M1_ := Aside0.mk (M.out.far K_.out id id)
        have hgl : g < wr.heap.size := M.out.toArr.lt
        have hxl : x < wr.heap.size := M.out.xlt
        obtain ⟨y, hy⟩ : ∃ y, wr.heap.size = y := ⟨_, rfl⟩
        rw [hy] at M2_ K_ M1_ hgl hxl ⊢
        have HY := Aside0.mk hy
        obtain ⟨W2, hW2⟩ : ∃ W2, W2 = (wr.alloc (.cells #[.slice (some ⟨y + 1, 0, none⟩) k k] 50)).alloc (zeros k) := ⟨_, rfl⟩
        rw [← hW2] at M2_ K_ M1_ ⊢
        clear hW2 bx hmk hkb hy cz
        have b1 := M1_.out.box
        have b2 := M2_.out.box
        obtain ⟨i0, hi0, _⟩ := Option.map_eq_some_iff.1 pair_info
        have hsl := cut_to (P := Tryz.prog) 50 109 .i64 Tryz.underlying50 hi0 (some ⟨g, 0, none⟩) s.n s.n (k : Int) (by omega) (by omega) (Nat.le_refl _)
        rw [Int.toNat_natCast] at hsl
        clear hi0
        go_still_tail 8, (by kernel_rfl)
        change wpList _ _ _ _ _ W2.drew
        clear b1 b2 hsl
        have K3 := Aside0.mk K_.out.drew
        have N1 := Aside0.mk M1_.out.drew
        have N2 := Aside0.mk M2_.out.drew
        obtain ⟨W3, hW3⟩ : ∃ W3, W3 = W2.drew := ⟨_, rfl⟩
        rw [← hW3] at K3 N1 N2 ⊢
        clear hW3 K_ M1_ M2_
        obtain ⟨row, hcp, ha⟩ := arr_copy W3 g (y + 1) k k k k s.n _ _ N1.out.toArr N2.out.toArr (by omega) (Nat.le_refl _) (Nat.min_self _)
        obtain ⟨W4, hW4⟩ : ∃ W4, W4 = W3.setRow (y + 1) row := ⟨_, rfl⟩
        rw [← hW4] at hcp ha
        have K4 : Aside0 (Kp wr W4 (fun _ => False)) := ⟨by rw [hW4]; exact K3.out.setRow _ _ (by have := HY.out; omega)⟩
        have P1 : Aside0 (Mem W4 x g s) := ⟨N1.out.step (by rw [hW4]; exact setRow_other _ _ _ _ (by omega)) (by rw [hW4]; exact setRow_other _ _ _ _ (by omega))⟩
        have P2 : Aside0 (Mem W4 y (y + 1) (s.over ⟨k, fun _ => 0, fun _ => 0⟩ k)) := ⟨ha, by rw [hW4, setRow_other _ _ _ _ (by omega)]; exact N2.out.bx, by omega⟩
        have hcp3 := hcp 3
        clear hW4 ha hcp K3 N1 N2
        have b1 := P1.out.box
        have b2 : W4.cell? ⟨y, 0, none⟩ = some (.slice (some ⟨y + 1, 0, none⟩) k k) := P2.out.box
        have f1 := P1.out.bfroz
        go_wp2_with fail
        go_end0
        refine ⟨rfl, y + 1, k, Or.inr (by have := HY.out; omega), by omega, by omega, HF.out, ?_, (K4.out.mono (T := fun k => k = x) (fun _ _ h => h.elim)).setCell ⟨x, 0, none⟩ _ (show x = x from rfl)⟩
        exact (P1.out.move P2.out.toArr (by omega)).ext rfl (fun j hj => by
          have hj' : j < k := hj
          show s.B j = (if j < k then s.B j else 0) ∧ s.C j = (if j < k then s.C j else 0)
          rw [if_pos hj', if_pos hj']; exact ⟨rfl, rfl⟩)
end Go.Proofs.YtaejkbjepbifcabGreatDoor.Da
namespace Go.Proofs.YtaejkbjepbifcabGreatDoor.Da
open Go.RowKit Go.Proofs.YtaejkbjepbifcabGreatDoorW.PrintWords
set_option linter.unusedVariables false
set_option linter.unusedSimpArgs false
def Init (W : World) (x : Nat) (e : Ending) (w' : World) : Prop := e = .returned (.tuple #[]) ∧ ∃ g, W.heap.size ≤ g ∧ Mem w' x g (DA.init 51200) ∧ Kp W w' (fun k => k = x)
theorem boxed {W : World} {x : Nat} {v : Value} (h : W.heap[x]? = some (.cells #[v] 50 (0, 0))) (n : Nat) (hn : n ≤ 1073741824) :
    Mem ((W.setCell ⟨x, 0, none⟩ (.slice (some ⟨W.heap.size, 0, none⟩) n n)).alloc (zeros n)) x W.heap.size ⟨n, fun _ => 0, fun _ => 0⟩ ∧ Kp W ((W.setCell ⟨x, 0, none⟩ (.slice (some ⟨W.heap.size, 0, none⟩) n n)).alloc (zeros n)) (fun k => k = x) := by
  have hs : (W.setCell ⟨x, 0, none⟩ (.slice (some ⟨W.heap.size, 0, none⟩) n n)).heap.size = W.heap.size := size_setCell _ _ _
  have hx := (Array.getElem?_eq_some_iff.1 h).1
  have a := arr_new (W.setCell ⟨x, 0, none⟩ (.slice (some ⟨W.heap.size, 0, none⟩) n n)) n hn
  rw [hs] at a
  exact ⟨⟨a, ((below_alloc (Below.refl _ _) _).block x (by rw [hs]; exact hx)).trans (setCell_heap h), by omega⟩, (((Kp.self W (fun k => k = x)).setCell ⟨x, 0, none⟩ _ (show x = x from rfl)).alloc _)⟩
set_option maxHeartbeats 8000000 in
set_option maxRecDepth 100000 in
theorem init_calls (W : World) (x : Nat) (v : Value) (hx : W.heap[x]? = some (.cells #[v] 50 (0, 0))) :
    Calls Tryz.prog 66 #[.pointer (some ⟨x, 0, none⟩)] W fun e w' => Init W x e w' := by
  have bx : W.cell? ⟨x, 0, none⟩ = some v := by unfold World.cell?; simp [hx]
  have bf : W.frozen? ⟨x, 0, none⟩ = false := by unfold World.frozen?; simp [hx]
  have hxl : x < W.heap.size := (Array.getElem?_eq_some_iff.1 hx).1
  obtain ⟨Z, hZ⟩ : ∃ Z, Z = zeros 51200 := ⟨_, rfl⟩
  have hmk : ∀ w : World, (Instr.makeSlice 50 (.int .i64 51200) (.int .i64 51200)).run Tryz.prog w = .ok (.slice (some ⟨w.heap.size, 0, none⟩) 51200 51200) (w.alloc Z) := fun w => by
    rw [hZ]; exact make_run w 51200 (by omega)
  have HA := Aside0.mk (boxed hx 51200 (by omega))
  rw [← hZ] at HA
  have HX := Aside0.mk hx
  clear hx hZ
  go_enter Tryz.func66, Tryz.ntmps66
  go_upto_region 1 with fail
  obtain ⟨g, hg⟩ : ∃ g, W.heap.size = g := ⟨_, rfl⟩
  obtain ⟨W1, hW1⟩ : ∃ W1, W1 = (W.setCell ⟨x, 0, none⟩ (.slice (some ⟨g, 0, none⟩) 51200 51200)).alloc Z := ⟨_, rfl⟩
  have hmk2 := HA.out
  rw [hg, ← hW1] at hmk2
  rw [hg, ← hW1]
  have HG := Aside0.mk hg
  have M := Aside0.mk hmk2.1
  have K := Aside0.mk hmk2.2
  clear HA hW1 hmk2 bx bf hmk HX hxl hg
  have hxg : x ≠ g := M.out.ne
  have hgx := hxg.symm
  have bx := M.out.box
  have t0 := M.out.base 0 (show 0 < 51200 by omega)
  have t1 := M.out.chk 0 (show 0 < 51200 by omega)
  rw [Nat.zero_mul] at t0
  rw [Nat.zero_mul, Nat.zero_add] at t1
  have f0 := M.out.froz 0
  have f1 := M.out.froz 1
  go_wp2_with fail
  have m1 := (M.out.putB 0 (show 0 < 51200 by omega) 1 (by omega) (by omega)).putC 0 (show 0 < 51200 by omega) (-1) (by omega) (by omega)
  have k1 := (K.out.setNew ⟨g, 0 * 2, none⟩ (.int .i32 1) (show W.heap.size ≤ g by have := HG.out; omega)).setNew ⟨g, 0 * 2 + 1, none⟩ (.int .i32 (-1)) (show W.heap.size ≤ g by have := HG.out; omega)
  rw [Nat.zero_mul, Nat.zero_add] at m1 k1
  obtain ⟨W2, hW2⟩ : ∃ W2, W2 = (W1.setCell ⟨g, 0, none⟩ (.int .i32 1)).setCell ⟨g, 1, none⟩ (.int .i32 (-1)) := ⟨_, rfl⟩
  rw [← hW2] at m1 k1 ⊢
  have M2 := Aside0.mk m1
  have K2 := Aside0.mk k1
  clear m1 k1 hW2 M K bx t0 t1 f0 f1
  go_loopg [3] 51199 (fun kq y3 w' => ∃ i : Nat, y3 = .int .i64 (i : Int) ∧ Aside0 (1 ≤ i ∧ i + kq = 51200) ∧ Aside0 (Mem w' x g ⟨51200, fun j => if j = 0 then 1 else if j < i then -((j : Int) - 1) else 0, fun j => if j = 0 then -1 else if j < i then -((j : Int) + 1) else 0⟩) ∧ Aside0 (Kp W w' (fun k => k = x)))
  case atStart => exact ⟨1, rfl, ⟨by omega⟩, ⟨M2.out.ext rfl (fun i hi => by
    show (if i = 0 then 1 else if i < 1 then -((i : Int) - 1) else 0) = upd (fun _ => 0) 0 1 i ∧ (if i = 0 then -1 else if i < 1 then -((i : Int) + 1) else 0) = upd (fun _ => 0) 0 (-1) i
    unfold upd
    by_cases h : i = 0
    · simp [h]
    · have : ¬ i < 1 := by omega
      simp [h, this])⟩, K2⟩
  case round =>
    clear M2 K2
    obtain ⟨i, rfl, HI, M, K⟩ := hrel
    obtain ⟨i1, i2⟩ := HI.out
    by_cases hi : i < 51200
    · have hiz : (i : Int) < 51200 := by omega
      have bx := M.out.box
      have c1 := M.out.base i hi
      have c2 := M.out.chk i hi
      have f1 := M.out.froz (i * 2)
      have f2 := M.out.froz (i * 2 + 1)
      cases gk with
      | zero => omega
      | succ kz =>
      go_wp2_with fail
      go_roundg kz
      case measure => omega
      case rel => exact ⟨i + 1, congrArg (Value.int .i64) (by omega), ⟨by omega⟩, ⟨((M.out.putB i hi (-((i : Int) - 1)) (by omega) (by omega)).putC i hi (-((i : Int) + 1)) (by omega) (by omega)).ext rfl (fun j hj => by
        show (if j = 0 then 1 else if j < i + 1 then -((j : Int) - 1) else 0) = upd (fun j => if j = 0 then 1 else if j < i then -((j : Int) - 1) else 0) i (-((i : Int) - 1)) j ∧ (if j = 0 then -1 else if j < i + 1 then -((j : Int) + 1) else 0) = upd (fun j => if j = 0 then -1 else if j < i then -((j : Int) + 1) else 0) i (-((i : Int) + 1)) j
        simp only [upd]
        by_cases e : j = i
        · subst e; rw [if_neg (by omega), if_pos (by omega), if_pos rfl, if_neg (by omega), if_pos (by omega), if_pos rfl]; exact ⟨rfl, rfl⟩
        · rw [if_neg e, if_neg e]
          by_cases h1 : j = 0
          · simp [h1]
          · by_cases h2 : j < i
            · rw [if_neg h1, if_neg h1, if_neg h1, if_neg h1, if_pos h2, if_pos h2, if_pos (by omega), if_pos (by omega)]; exact ⟨rfl, rfl⟩
            · rw [if_neg h1, if_neg h1, if_neg h1, if_neg h1, if_neg h2, if_neg h2, if_neg (by omega), if_neg (by omega)]; exact ⟨rfl, rfl⟩)⟩, ⟨(K.out.setNew _ _ (by have := HG.out; show W.heap.size ≤ g; omega)).setNew _ _ (by have := HG.out; show W.heap.size ≤ g; omega)⟩⟩
    · have hiz : ¬ (i : Int) < 51200 := by omega
      obtain rfl : i = 51200 := by omega
      have bx := M.out.box
      have c1 : wr.cell? ⟨g, 2, none⟩ = _ := M.out.base 1 (show 1 < 51200 by omega)
      have c2 : wr.cell? ⟨g, 102399, none⟩ = _ := M.out.chk 51199 (show 51199 < 51200 by omega)
      have f1 := M.out.froz 2
      have f2 := M.out.froz 102399
      go_wp2_with fail
      go_end0
      have a := (M.out.putB 1 (show 1 < 51200 by omega) (-51199) (by omega) (by omega)).putC 51199 (show 51199 < 51200 by omega) (-1) (by omega) (by omega)
      refine ⟨rfl, g, by have := HG.out; omega, a.ext rfl (fun j hj => ?_), (K.out.setNew _ _ (by have := HG.out; show W.heap.size ≤ g; omega)).setNew _ _ (by have := HG.out; show W.heap.size ≤ g; omega)⟩
      have hj' : j < 51200 := hj
      show (if j = 0 then 1 else if j = 1 then -(((51200 : Nat) : Int) - 1) else -((j : Int) - 1)) = upd (fun j => if j = 0 then 1 else if j < 51200 then -((j : Int) - 1) else 0) 1 (-51199) j ∧ (if j = 0 then -1 else if j = 51200 - 1 then -1 else -((j : Int) + 1)) = upd (fun j => if j = 0 then -1 else if j < 51200 then -((j : Int) + 1) else 0) 51199 (-1) j
      simp only [upd]
      constructor
      · by_cases h0 : j = 0
        · simp [h0]
        · by_cases h1 : j = 1
          · subst h1; rfl
          · rw [if_neg h0, if_neg h1, if_neg h1, if_neg h0, if_pos hj']
      · by_cases h0 : j = 0
        · simp [h0]
        · by_cases h1 : j = 51199
          · subst h1; rfl
          · rw [if_neg h0, if_neg (by omega), if_neg h1, if_neg h0, if_pos hj']
end Go.Proofs.YtaejkbjepbifcabGreatDoor.Da
namespace Go.Proofs.YtaejkbjepbifcabGreatDoor.Da
set_option linter.unusedVariables false
set_option linter.unusedSimpArgs false
theorem run_snoc (s : DA) (p : Nat) (w : List Int) (c : Int) : s.run p (w ++ [c]) = (s.run p w).bind (fun q => s.step q c) := by
  induction w generalizing p with
  | nil =>
    show (match s.step p c with | none => none | some q => s.run q []) = _
    cases h : s.step p c <;> simp [DA.run, h]
  | cons d w ih =>
    show (match s.step p d with | none => none | some q => s.run q (w ++ [c])) = (match s.step p d with | none => none | some q => s.run q w).bind _
    cases s.step p d with
    | none => rfl
    | some q => exact ih q
theorem subw_append (L : Keys) (a b : List Int) : subw L (a ++ b) = subw (subw L a) b := by
  induction a generalizing L with
  | nil => rfl
  | cons c a ih => exact ih (sub L c)
theorem subw_nil (w : List Int) : subw [] w = [] := by
  induction w with
  | nil => rfl
  | cons c w ih => exact ih
def hitAt (L : Keys) (w : List Int) (i : Nat) : Option Int := here (subw L (w.take (i + 1)))
def hitsTo (L : Keys) (w : List Int) : Nat → List (Int × Int)
  | 0 => []
  | k + 1 => hitsTo L w k ++ (match hitAt L w k with | none => [] | some v => [(v, (k : Int) + 1)])
structure Sk (s : DA) (L : Keys) (w : List Int) (i q : Nat) : Prop where
  run : s.run 0 (w.take i) = some q
  le : i ≤ w.length
theorem take_ok {w : List Int} (hw : Okw w) (i : Nat) : Okw (w.take i) := fun c h => hw c (List.mem_of_mem_take h)
theorem Sk.told {s : DA} {L : Keys} {w : List Int} {i q : Nat} (k : Sk s L w i q) (g : Good s 0 L) (hw : Okw w) : subw L (w.take i) ≠ [] ∧ s.term q = here (subw L (w.take i)) ∧ 1 ≤ s.B q := by
  have h := g (w.take i) (take_ok hw i)
  unfold Told at h
  rw [k.run] at h
  exact h
theorem take_succ {w : List Int} {i : Nat} (h : i < w.length) : w.take (i + 1) = w.take i ++ [w.getD i 0] := by
  rw [List.take_succ_eq_append_getElem h, List.getD_eq_getElem?_getD, List.getElem?_eq_getElem h]; rfl
theorem Sk.start (s : DA) (L : Keys) (w : List Int) : Sk s L w 0 0 := ⟨by simp [DA.run], Nat.zero_le _⟩
theorem Sk.go {s : DA} {L : Keys} {w : List Int} {i q r : Nat} (k : Sk s L w i q) (h : i < w.length) (hs : s.step q (w.getD i 0) = some r) : Sk s L w (i + 1) r :=
  ⟨by rw [take_succ h, run_snoc, k.run]; exact hs, h⟩
theorem Sk.hit {s : DA} {L : Keys} {w : List Int} {i r : Nat} (k : Sk s L w (i + 1) r) (g : Good s 0 L) (hw : Okw w) : hitAt L w i = s.term r := (k.told g hw).2.1.symm
theorem Sk.stop {s : DA} {L : Keys} {w : List Int} {i q : Nat} (k : Sk s L w i q) (g : Good s 0 L) (hw : Okw w) (h : i < w.length) (hs : s.step q (w.getD i 0) = none) : subw L (w.take (i + 1)) = [] := by
  have h2 := g (w.take (i + 1)) (take_ok hw _)
  unfold Told at h2
  rw [take_succ h, run_snoc, k.run] at h2
  simp only [Option.bind_some, hs] at h2
  rw [take_succ h]
  exact h2
theorem none_on {L : Keys} {w : List Int} {i : Nat} (h : subw L (w.take i) = []) {j : Nat} (hj : i ≤ j) : subw L (w.take j) = [] := by
  have e : w.take j = w.take i ++ (w.drop i).take (j - i) := by
    rw [← List.take_add]; congr 1; omega
  rw [e, subw_append, h, subw_nil]
theorem hits_stop {L : Keys} {w : List Int} {i : Nat} (h : subw L (w.take (i + 1)) = []) {j : Nat} (hj : i ≤ j) : hitsTo L w j = hitsTo L w i := by
  induction j with
  | zero => rw [show i = 0 by omega]
  | succ j ih =>
    by_cases e : i = j + 1
    · rw [e]
    · have := ih (by omega)
      have h0 : hitAt L w j = none := by
        unfold hitAt
        rw [none_on h (by omega)]; rfl
      simp only [hitsTo, h0, List.append_nil]
      exact this
theorem hits_none {L : Keys} {w : List Int} {i : Nat} (h : hitAt L w i = none) : hitsTo L w (i + 1) = hitsTo L w i := by
  simp only [hitsTo, h, List.append_nil]
theorem hits_some {L : Keys} {w : List Int} {i : Nat} {v : Int} (h : hitAt L w i = some v) : hitsTo L w (i + 1) = hitsTo L w i ++ [(v, (i : Int) + 1)] := by
  simp only [hitsTo, h]
theorem hits_len (L : Keys) (w : List Int) (k : Nat) : (hitsTo L w k).length ≤ k := by
  induction k with
  | zero => exact Nat.le_refl _
  | succ k ih =>
    simp only [hitsTo]
    cases hitAt L w k <;> simp <;> omega
def found (L : Keys) (w : List Int) : Option Int := if w = [] then none else here (subw L w)
theorem step_far {s : DA} {q : Nat} {c : Int} (h : (s.n : Int) ≤ s.B q + c) : s.step q c = none := by
  unfold DA.step
  rw [if_neg (fun e => by have := e.1; omega)]
theorem step_off {s : DA} {q : Nat} {c : Int} (h : s.C (s.B q + c).toNat ≠ (q : Int)) : s.step q c = none := by
  unfold DA.step
  rw [if_neg (fun e => h e.2)]
theorem step_on {s : DA} {q : Nat} {c : Int} (h1 : s.B q + c < (s.n : Int)) (h2 : s.C (s.B q + c).toNat = (q : Int)) : s.step q c = some (s.B q + c).toNat := by
  unfold DA.step
  rw [if_pos ⟨h1, h2⟩]
theorem term_far {s : DA} {q : Nat} (h : (s.n : Int) ≤ s.B q) : s.term q = none := by
  unfold DA.term
  rw [if_neg (fun e => by have := e.1.1; omega)]
theorem term_off {s : DA} {q : Nat} (h : s.C (s.B q).toNat ≠ (q : Int)) : s.term q = none := by
  unfold DA.term
  rw [if_neg (fun e => h e.1.2)]
theorem term_no {s : DA} {q : Nat} (h : 0 < s.B (s.B q).toNat) : s.term q = none := by
  unfold DA.term
  rw [if_neg (fun e => by have := e.2; omega)]
theorem term_on {s : DA} {q : Nat} (h1 : s.B q < (s.n : Int)) (h2 : s.C (s.B q).toNat = (q : Int)) (h3 : s.B (s.B q).toNat ≤ 0) : s.term q = some (-(s.B (s.B q).toNat)) := by
  unfold DA.term
  rw [if_pos ⟨⟨h1, h2⟩, h3⟩]
theorem cut_at {s : DA} {m : Nat} (hm : m ≤ s.n) (h : ∀ j, m ≤ j → j < s.n → s.C j < 0) (q : Int) (p : Nat) : DA.at_ ⟨m, s.B, s.C⟩ q p ↔ s.at_ q p := by
  constructor
  · rintro ⟨h1, h2⟩
    exact ⟨by have h1 : q < (m : Int) := h1; omega, h2⟩
  · rintro ⟨h1, h2⟩
    refine ⟨?_, h2⟩
    show q < (m : Int)
    rcases Int.lt_or_le q m with e | e
    · exact e
    · have := h q.toNat (by omega) (by omega)
      omega
theorem cut_step {s : DA} {m : Nat} (hm : m ≤ s.n) (h : ∀ j, m ≤ j → j < s.n → s.C j < 0) (p : Nat) (c : Int) : DA.step ⟨m, s.B, s.C⟩ p c = s.step p c := by
  unfold DA.step
  have := cut_at hm h (s.B p + c) p
  by_cases e : s.at_ (s.B p + c) p
  · rw [if_pos e, if_pos (this.2 e)]
  · rw [if_neg e, if_neg (fun k => e (this.1 k))]
theorem cut_run {s : DA} {m : Nat} (hm : m ≤ s.n) (h : ∀ j, m ≤ j → j < s.n → s.C j < 0) (w : List Int) : ∀ p, DA.run ⟨m, s.B, s.C⟩ p w = s.run p w := by
  induction w with
  | nil => intro p; rfl
  | cons c w ih =>
    intro p
    simp only [DA.run]
    rw [cut_step hm h]
    cases s.step p c with
    | none => rfl
    | some q => exact ih q
theorem cut_term {s : DA} {m : Nat} (hm : m ≤ s.n) (h : ∀ j, m ≤ j → j < s.n → s.C j < 0) (q : Nat) : DA.term ⟨m, s.B, s.C⟩ q = s.term q := by
  unfold DA.term
  have := cut_at hm h (s.B q) q
  by_cases e : s.at_ (s.B q) q
  · have e2 := this.2 e
    simp only [e, e2, true_and]
  · have e2 : ¬ DA.at_ ⟨m, s.B, s.C⟩ (s.B q) q := fun k => e (this.1 k)
    simp only [e, e2, false_and, if_false]
theorem cut_good {s : DA} {m p : Nat} {L : Keys} (hm : m ≤ s.n) (h : ∀ j, m ≤ j → j < s.n → s.C j < 0) (g : Good s p L) : Good ⟨m, s.B, s.C⟩ p L := by
  intro w hw
  have := g w hw
  unfold Told at this ⊢
  rw [cut_run hm h]
  cases e : s.run p w with
  | none => rw [e] at this; exact this
  | some q =>
    rw [e] at this
    simp only at this ⊢
    rw [cut_term hm h]
    exact this
end Go.Proofs.YtaejkbjepbifcabGreatDoor.Da
namespace Go.Proofs.YtaejkbjepbifcabGreatDoor.Da
open Go.RowKit Go.Maps Go.ChangeShapes Go.Proofs.YtaejkbjepbifcabGreatDoorW.PrintWords
set_option linter.unusedVariables false
set_option linter.unusedSimpArgs false
def keysAll (ss : List ByteArray) (ds : List Int) : Keys := keysOf ss ds 0 (List.range ss.length)
abbrev intZeros (n : Nat) : Obj := .cells (madeCells #[.int .i64 0] n) 3 (0, 0)
theorem make_ints (W : World) (n : Nat) (hn : n ≤ 1073741824) : (Instr.makeSlice 38 (.int .i64 (n : Int)) (.int .i64 (n : Int))).run Tryz.prog W = .ok (.slice (some ⟨W.heap.size, 0, none⟩) n n) (W.alloc (intZeros n)) := by
  obtain ⟨i, hi, hz⟩ := Option.map_eq_some_iff.1 info_int
  simp only [Prod.mk.injEq] at hz
  obtain ⟨h1, h2, h3⟩ := hz
  have := run_make (P := Tryz.prog) W 38 3 i _ Tryz.underlying38 hi h1 .i64 .i64 (n : Int) (n : Int) (by omega) (by omega) (by rw [h3]; omega) (by omega)
  rw [this, h2]
  simp only [Int.toNat_natCast, Nat.mul_one]
  rfl
structure BrS (W w : World) (bb n i : Nat) : Prop where
  kp : Kp W w (fun _ => False)
  ge : W.heap.size ≤ bb
  ar : ∃ cur, w.heap[bb]? = some (.cells cur 3 (0, 0)) ∧ cur.size = n ∧ ∀ q, q < i → cur[q]? = some (.int .i64 (q : Int))
theorem brs_start (W : World) (n : Nat) : BrS W (W.alloc (intZeros n)) W.heap.size n 0 := ⟨(Kp.self W _).alloc _, Nat.le_refl _, _, blk_new W _, by rw [size_madeCells], fun q h => absurd h (Nat.not_lt_zero _)⟩
theorem BrS.facts {W w : World} {bb n i : Nat} (h : BrS W w bb n i) (hi : i < n) : (∃ v, w.cell? ⟨bb, i, none⟩ = some v) ∧ w.frozen? ⟨bb, i, none⟩ = false := by
  obtain ⟨cur, h1, h2, h3⟩ := h.ar
  constructor
  · unfold World.cell?; simp [h1, h2, hi]
  · unfold World.frozen?; simp [h1]
theorem BrS.put {W w : World} {bb n i : Nat} (h : BrS W w bb n i) (hi : i < n) : BrS W (w.setCell ⟨bb, i, none⟩ (.int .i64 (i : Int))) bb n (i + 1) := by
  obtain ⟨cur, h1, h2, h3⟩ := h.ar
  refine ⟨h.kp.setNew _ _ h.ge, h.ge, _, setCell_heap h1, by simpa using h2, fun q hq => ?_⟩
  rw [Array.getElem?_setIfInBounds]
  by_cases e : i = q
  · subst e; rw [if_pos rfl, if_pos (by omega)]
  · rw [if_neg e]; exact h3 q (by omega)
theorem BrS.brc {W w : World} {bb n : Nat} (h : BrS W w bb n n) : BrC w bb (List.range n) := by
  obtain ⟨cur, h1, h2, h3⟩ := h.ar
  refine ⟨(Array.getElem?_eq_some_iff.1 h1).1, fun j hj => ?_⟩
  rw [List.length_range] at hj
  have e : (List.range n).getD j 0 = j := by rw [List.getD_eq_getElem?_getD, List.getElem?_range hj]; rfl
  rw [e]
  unfold World.cell?
  simp [h1, h3 j hj]
theorem not_used_init (i : Nat) : ¬ (DA.init 51200).used i := by
  rintro ⟨h1, h2, h3⟩
  have h2' : i < 51200 := h2
  simp only [DA.init] at h3
  rw [if_neg (by omega)] at h3
  split at h3 <;> omega
def BldP (W W' : World) (x g : Nat) (L : Keys) (g' : Nat) (s' : DA) : Prop := Arr W' g' s' ∧ Good s' 0 L ∧ 0 < s'.n ∧ (g' = g ∨ W.heap.size ≤ g') ∧ Kp W W' (fun k => k = x ∨ k = g)
theorem add_pre {W w : World} {x g bb kb ko ib io : Nat} {ss : List ByteArray} {ds : List Int} (M : Mem W x g (DA.init 51200)) (S : Src W kb ko ss ib io ds) (hne : ss ≠ []) (hok : Okk (keysAll ss ds)) (has : Asc (keysAll ss ds)) (ht : tot (keysAll ss ds) ≤ 32000) (ap : kb ≠ x ∧ kb ≠ g ∧ ib ≠ x ∧ ib ≠ g) (h : BrS W w bb ss.length ss.length) :
    Pre w x g 0 255 0 bb kb ko ib io (DA.init 51200) ss ds (List.range ss.length) := by
  have hx := M.xlt
  have hg := M.toArr.lt
  have hge := h.ge
  refine ⟨M.far h.kp id id, ⟨_, _, ring_init 51200 (by omega)⟩, ⟨fun i hi => absurd hi (not_used_init i), by show 51200 ≤ _; omega, by show 51200 ≤ 51200; omega⟩, Nat.le_refl _, ?_, fun i hi => absurd hi (not_used_init i), fun i hi => absurd hi (not_used_init i), Or.inl ⟨rfl, rfl, not_used_init⟩, S.step h.kp id id, h.brc, ?_, fun z hz => List.mem_range.1 hz, by rw [List.length_range]; exact S.few, hok, has, ⟨ap.1, ap.2.1, ap.2.2.1, ap.2.2.2, by omega, by omega⟩, by omega⟩
  · show 255 + 512 * (1 + tot (keysAll ss ds)) ≤ _
    omega
  · intro e
    have : (List.range ss.length).length = 0 := by rw [e]; rfl
    rw [List.length_range] at this
    exact hne (List.length_eq_zero_iff.1 this)
theorem good_used {s : DA} {L : Keys} (g : Good s 0 L) (hk : Okk L) : ∃ u, s.used u := by
  obtain ⟨q, h1, h2, h3⟩ := good_child g hk
  exact ⟨q.toNat, by omega, by omega, by omega⟩
theorem bld_done {W w1 w2 w3 : World} {x g bb : Nat} {ss : List ByteArray} {ds : List Int} {e e' : Ending} {U : Nat} (hk : Kp W w1 (fun _ => False)) (M : Mem W x g (DA.init 51200)) (hok : Okk (keysAll ss ds)) (E : AddE w1 x g 0 U (DA.init 51200) (keysAll ss ds) e w2) :
    ∃ g1 s1 u, Mem w2 x g1 s1 ∧ s1.used u ∧ (∀ e' w3, Cut w2 x g1 s1 e' w3 → e' = .returned (.tuple #[]) ∧ ∃ g' s', Mem w3 x g' s' ∧ BldP W w3 x g (keysAll ss ds) g' s') := by
  obtain ⟨_, g1, s1, hg, hm, hkp, hf, hgood, _, _, _⟩ := E
  obtain ⟨u, hu⟩ := good_used hgood hok
  refine ⟨g1, s1, u, hm, hu, ?_⟩
  rintro e' w3 ⟨rfl, g', m, hg', hm1, hm2, hcut, hmem, hkp2⟩
  refine ⟨rfl, g', _, hmem, hmem.toArr, cut_good hm2 hcut hgood, hm1, ?_, ?_⟩
  · have h1 := hk.size
    have h2 := hkp.size
    rcases hg' with h | h
    · rcases hg with h3 | h3
      · exact Or.inl (h.trans h3)
      · right; omega
    · right; omega
  · exact ((hk.trans hkp).trans hkp2).mono (fun i hi h => by rcases h with (h | h) | h; exact h.elim; exact h; exact Or.inl h)
noncomputable def btail : Code := pth [true, true, true, true, true, true] (Tryz.f48.body.getD .skip)
set_option maxHeartbeats 16000000 in
set_option maxRecDepth 100000 in
theorem bld_tail (w : World) (x g kb ko ib io Nc Dc : Nat) (ss : List ByteArray) (ds : List Int) (HM : Aside0 (Mem w x g (DA.init 51200))) (HSRC : Aside0 (Src w kb ko ss ib io ds)) (HNE : Aside0 (ss ≠ [])) (HOK : Aside0 (Okk (keysAll ss ds))) (HAS : Aside0 (Asc (keysAll ss ds))) (HT : Aside0 (tot (keysAll ss ds) ≤ 32000)) (HAP : Aside0 (kb ≠ x ∧ kb ≠ g ∧ ib ≠ x ∧ ib ≠ g)) {Q : Exit → Act → World → Prop} {v2 v3 v4 v5 v7 v8 v9 v10 v11 v12 v13 v14 v15 v16 v17 v18 v19 v20 v21 v22 v23 v24 v25 v26 v27 v28 v29 v30 v31 v32 v33 v34 v35 v36 v37 v38 v39 v40 v41 v42 v43 v44 v45 v46 v47 v48 v49 v50 v51 v52 v53 v54 v55 v56 v57 v58 v59 v60 v61 v62 v63 v64 v65 v66 v67 v68 v69 v70 v71 v72 v73 v74 v75 v76 v77 v78 v79 v80 : Value}
    (hN : Aside0 (∀ (n12 n13 n62 n63 n64 n65 n66 n67 n68 n69 n70 n71 n72 n73 n74 n75 n76 n77 n78 n79 n80 : Value) (g' : Nat) (s' : DA) (w' : World), Aside0 (BldP w w' x g (keysAll ss ds) g' s') → Q .ret ⟨#[.slice (some ⟨kb, ko, none⟩) ss.length Nc, .slice (some ⟨ib, io, none⟩) ss.length Dc, v2, v3, .slice (some ⟨g', 0, none⟩) s'.n s'.n, .nilIface, .pointer (some ⟨x, 0, none⟩), v7, v8, v9, v10, v11, n12, n13, v14, v15, v16, v17, v18, v19, v20, v21, v22, v23, v24, v25, v26, v27, v28, v29, v30, v31, v32, v33, v34, v35, v36, v37, v38, v39, v40, v41, v42, v43, v44, v45, v46, v47, v48, v49, v50, v51, v52, v53, v54, v55, v56, v57, v58, v59, v60, v61, n62, n63, n64, n65, n66, n67, n68, n69, n70, n71, n72, n73, n74, n75, n76, n77, n78, n79, n80], []⟩ w')) :
    Code.wp Tryz.prog btail Q ⟨#[.slice (some ⟨kb, ko, none⟩) ss.length Nc, .slice (some ⟨ib, io, none⟩) ss.length Dc, v2, v3, v4, v5, .pointer (some ⟨x, 0, none⟩), v7, v8, v9, v10, v11, v12, v13, v14, v15, v16, v17, v18, v19, v20, v21, v22, v23, v24, v25, v26, v27, v28, v29, v30, v31, v32, v33, v34, v35, v36, v37, v38, v39, v40, v41, v42, v43, v44, v45, v46, v47, v48, v49, v50, v51, v52, v53, v54, v55, v56, v57, v58, v59, v60, v61, v62, v63, v64, v65, v66, v67, v68, v69, v70, v71, v72, v73, v74, v75, v76, v77, v78, v79, v80], []⟩ w := by
  conv => arg 2; whnf
  conv => arg 4; zeta
  have hfew := HSRC.out.few
  obtain ⟨Z, hZ⟩ : ∃ Z, Z = intZeros ss.length := ⟨_, rfl⟩
  have hmk : ∀ w : World, (Instr.makeSlice 38 (.int .i64 (ss.length : Int)) (.int .i64 (ss.length : Int))).run Tryz.prog w = .ok (.slice (some ⟨w.heap.size, 0, none⟩) ss.length ss.length) (w.alloc Z) := fun w => by
    rw [hZ]; exact make_ints w ss.length (by omega)
  have hb := brs_start w ss.length
  rw [← hZ] at hb
  obtain ⟨bb, hbb⟩ : ∃ bb, w.heap.size = bb := ⟨_, rfl⟩
  have hge : bb = w.heap.size := hbb.symm
  have HGE := Aside0.mk hge
  rw [hbb] at hb
  have HB0 := Aside0.mk hb
  clear hZ hb hge
  go_upto_region 22 with fail
  try rw [hbb]
  clear hmk hbb
  go_wp2_with fail
  go_loopg [13, 67] ss.length (fun kq v13 v67 w' => ∃ (i : Nat), v67 = .int .i64 (i : Int) ∧ Aside0 (i + kq = ss.length) ∧ Aside0 (BrS w w' bb ss.length i))
  case atStart => exact ⟨0, rfl, ⟨by omega⟩, HB0⟩
  case round =>
    clear HB0
    obtain ⟨i, rfl, HI, HB⟩ := hrel
    have hi := HI.out
    by_cases hil : i < ss.length
    · have hiz : (i : Int) < (ss.length : Int) := by omega
      obtain ⟨⟨v, hc⟩, hf⟩ := HB.out.facts hil
      cases gk with
      | zero => omega
      | succ kz =>
      go_wp2_with fail
      go_roundg kz
      case measure => omega
      case rel => exact ⟨i + 1, congrArg (Value.int .i64) (by omega), ⟨by omega⟩, ⟨HB.out.put hil⟩⟩
    · have hiz : ¬ (i : Int) < (ss.length : Int) := by omega
      have hie : i = ss.length := by omega
      rw [hie] at HB
      have hadd := add_at (tot (keysAll ss ds) + 1) wr x g 0 255 0 bb kb ko ib io ss.length Nc Dc (DA.init 51200) ss ds (List.range ss.length) 0 0 rfl rfl (Nat.lt_succ_self _) (add_pre HM.out HSRC.out HNE.out HOK.out HAS.out HT.out HAP.out HB.out)
      rw [List.length_range, HSRC.out.len] at hadd
      have HADD := Aside0.mk hadd
      have HK := Aside0.mk HB.out.kp
      clear hadd hie
      go_wp2_with (first | (go_at_call 68; refine HADD.out.mono ?_; rintro e_ w2 hE; have HE := Aside0.mk hE; obtain rfl : e_ = .returned (.tuple #[]) := hE.1; clear hE; obtain ⟨g1, s1, u, hm, hu, hcut⟩ := bld_done (w3 := w2) (bb := bb) (e' := .returned (.tuple #[])) HK.out HM.out HOK.out HE.out; have HTR := Aside0.mk (truncate_calls w2 x g1 u s1 hm hu); have HCUT := Aside0.mk hcut; clear hm hu hcut) | (go_at_call 69; refine HTR.out.mono ?_; rintro e_ w3 hE; obtain ⟨rfl, g', s', hm3, hbld⟩ := HCUT.out _ _ hE; have HBLD := Aside0.mk hbld; have bx3 := hm3.box; clear hE hm3 hbld))
      exact hN.out _ _ _ _ _ _ _ _ _ _ _ _ _ _ _ _ _ _ _ _ _ g' s' _ HBLD
end Go.Proofs.YtaejkbjepbifcabGreatDoor.Da
namespace Go.Proofs.YtaejkbjepbifcabGreatDoor.Da
open Go.RowKit Go.Proofs.YtaejkbjepbifcabGreatDoorW.PrintWords
set_option linter.unusedVariables false
set_option linter.unusedSimpArgs false
def Cln (t : ByteArray) : Prop := Okw (bs t)
theorem run_lt {s : DA} (h0 : 0 < s.n) : ∀ (w : List Int) (p q : Nat), p < s.n → s.run p w = some q → q < s.n
  | [], p, q, hp, h => by cases h; exact hp
  | c :: w, p, q, hp, h => by
    simp only [DA.run] at h
    cases hs : s.step p c with
    | none => rw [hs] at h; cases h
    | some r =>
      rw [hs] at h
      refine run_lt h0 w r q ?_ h
      unfold DA.step at hs
      split at hs
      · rename_i e
        have e1 := e.1
        cases hs
        omega
      · cases hs
theorem Sk.lt {s : DA} {L : Keys} {w : List Int} {i q : Nat} (k : Sk s L w i q) (h0 : 0 < s.n) : q < s.n := run_lt h0 _ _ _ h0 k.run
theorem bs_get (t : ByteArray) (i : Nat) (h : i < t.size) : (bs t)[i]'(by rw [bs_len]; exact h) = ((t[i]'h).toNat : Int) := by
  simp only [bs, List.getElem_map]
  rfl
theorem bs_at (t : ByteArray) (i : Nat) (h : i < t.size) : (bs t).getD i 0 = ((t[i]'h).toNat : Int) := by
  rw [List.getD_eq_getElem?_getD, List.getElem?_eq_getElem (by rw [bs_len]; exact h)]
  exact bs_get t i h
theorem wrap_nat (b : Nat) (h : b ≤ 4294967296) : IntKind.i64.wrap (b : Int) = (b : Int) := IntWalk.i64_in _ (by omega)
theorem sum_nat (b c r : Nat) (h : b ≤ 4294967296) (hc : c ≤ 4294967296) (e : b + c = r) : IntKind.i64.wrap ((b : Int) + (c : Int)) = (r : Int) := by rw [IntWalk.i64_in _ (by omega)]; omega
def SrcE (s : DA) (L : Keys) (t : ByteArray) (e : Ending) : Prop :=
  ∃ (p q i : Int) (ok : Bool), e = .returned (.tuple #[.int .i64 p, .int .i64 q, .int .i64 i, .bool ok]) ∧ (if ok = true then bs t ≠ [] ∧ ∃ r : Nat, q = (r : Int) ∧ Sk s L (bs t) (bs t).length r else bs t = [] ∨ subw L (bs t) = [])
set_option maxHeartbeats 8000000 in
set_option maxRecDepth 100000 in
theorem search_calls (W : World) (x g : Nat) (s : DA) (L : Keys) (t : ByteArray) (M_ : Mem W x g s) (G_ : Good s 0 L) (C_ : Cln t) (hsz : t.size ≤ 1000000000) (hn : 0 < s.n) :
    Calls Tryz.prog 77 #[.pointer (some ⟨x, 0, none⟩), .string t] W fun e w' => SrcE s L t e ∧ Drawn0 W w' := by
  have M := Aside0.mk M_
  have G := Aside0.mk G_
  have C := Aside0.mk C_
  have bx := M_.box
  have big := M_.big
  clear M_ G_ C_
  by_cases hz : t.size = 0
  · go_enter Tryz.func77, Tryz.ntmps77
    go_wp2_with fail
    exact bodyPost_ret (by simp [results, Tryz.results77, go_sem]) rfl ⟨⟨0, 0, 0, false, rfl, by simp; left; exact List.length_eq_zero_iff.1 ((bs_len t).trans hz)⟩, Drawn0.refl _⟩
  · have hz2 : ((t.size : Int) == 0) = false := by rw [beq_eq_false_iff_ne]; omega
    go_enter Tryz.func77, Tryz.ntmps77
    go_wp2_with fail
    clear hz2
    go_loopg [4, 5, 6, 18] t.size (fun kq v4 v5 v6 v18 w' => ∃ (i q : Nat) (p j : Int), v4 = .int .i64 p ∧ v5 = .int .i64 (q : Int) ∧ v6 = .int .i64 j ∧ v18 = .int .i64 (i : Int) ∧ Aside0 (i + kq = t.size) ∧ Aside0 (Sk s L (bs t) i q) ∧ Drawn0 W w')
    case atStart => exact ⟨0, 0, 0, 0, rfl, rfl, rfl, rfl, ⟨by omega⟩, ⟨Sk.start _ _ _⟩, Drawn0.refl _⟩
    case round =>
      obtain ⟨i, q, p, j, rfl, rfl, rfl, rfl, HI, HS, ⟨m1, rfl⟩⟩ := hrel
      obtain hi := HI.out
      by_cases hlt : i < t.size
      · have hiz : (i : Int) < (t.size : Int) := by omega
        have hil : i < (bs t).length := by rw [bs_len]; exact hlt
        have h3 := (HS.out.told G.out C.out).2.2
        have hq : q < s.n := HS.out.lt hn
        have hcd : (bs t).getD i 0 = ((t[i]'hlt).toNat : Int) := bs_at t i hlt
        have hc0 := C.out _ (List.getElem_mem hil)
        rw [bs_get t i hlt] at hc0
        have hc1 := hc0.1
        have hc2 := hc0.2
        have hcn : (((t[i]'hlt).toNat : Int) == 0) = false := by rw [beq_eq_false_iff_ne]; omega
        have hi32 := M.out.i32 q hq
        obtain ⟨b, hb⟩ : ∃ b : Nat, s.B q = (b : Int) := ⟨(s.B q).toNat, by omega⟩
        have cb : W.cell? ⟨g, q * 2, none⟩ = some (.int .i32 (b : Int)) := (M.out.base q hq).trans (by rw [hb])
        obtain ⟨r, hr⟩ : ∃ r : Nat, b + (t[i]'hlt).toNat = r := ⟨_, rfl⟩
        have HR : Aside0 (s.B q + (bs t).getD i 0 = (r : Int)) := ⟨by omega⟩
        have hqz : (q : Int) < (s.n : Int) := by omega
        have hr0 : 0 ≤ (r : Int) := by omega
        have hsum := sum_nat b (t[i]'hlt).toNat r (by omega) (by omega) hr
        have hbw := wrap_nat b (by omega)
        clear hc0 hb hcd h3 hi32
        go_upto_region 8 with fail
        have hw := hsum
        have hwb := hbw
        clear hsum hbw
        go_quiet (fail)
        clear hw hwb
        by_cases hrn : r < s.n
        · have hrz : (r : Int) < (s.n : Int) := by omega
          have cr := M.out.chk r hrn
          obtain ⟨cv, hcv⟩ : ∃ cv, s.C r = cv := ⟨_, rfl⟩
          rw [hcv] at cr
          have hb3 := M.out.i32 r hrn
          rw [hcv] at hb3
          have hb4 := hb3.2.2.1
          have hb5 := hb3.2.2.2
          clear hb3
          have HCV := Aside0.mk hcv
          clear hcv
          by_cases hcq : cv = (q : Int)
          · have HC2 := Aside0.mk hcq
            subst hcq
            cases gk with
            | zero => omega
            | succ kz =>
            have hst : s.step q ((bs t).getD i 0) = some r := by
              have := step_on (s := s) (q := q) (c := (bs t).getD i 0) (by rw [HR.out]; exact hrz) (by rw [HR.out, Int.toNat_natCast]; exact HCV.out)
              rw [this, HR.out, Int.toNat_natCast]
            have HS2 := Aside0.mk (HS.out.go hil hst)
            clear hst
            go_wp2_with fail
            go_roundg kz
            case measure => omega
            case rel => exact ⟨i + 1, r, (q : Int), (i : Int), rfl, rfl, rfl, congrArg (Value.int .i64) (by omega), ⟨by omega⟩, HS2, (Drawn0.refl _).step _⟩
          · have hst : s.step q ((bs t).getD i 0) = none := step_off (by rw [HR.out, Int.toNat_natCast, HCV.out]; exact hcq)
            have HX := Aside0.mk (none_on (HS.out.stop G.out C.out hil hst) (show i + 1 ≤ (bs t).length by omega))
            clear hst
            have hcq2 : (cv == (q : Int)) = false := by rw [beq_eq_false_iff_ne]; exact hcq
            have hcq3 : (cv != (q : Int)) = true := by rw [bne, hcq2]; rfl
            go_wp2_with fail
            exact bodyPost_ret (v := .tuple #[.int .i64 (q : Int), .int .i64 (r : Int), .int .i64 (i : Int), .bool false]) (by simp [results, Tryz.results77, go_sem]) rfl ⟨⟨_, _, _, false, rfl, by simp; right; simpa using HX.out⟩, (Drawn0.refl _).step _⟩
        · have hrz : ¬ (r : Int) < (s.n : Int) := by omega
          have hst : s.step q ((bs t).getD i 0) = none := step_far (by rw [HR.out]; omega)
          have HX := Aside0.mk (none_on (HS.out.stop G.out C.out hil hst) (show i + 1 ≤ (bs t).length by omega))
          clear hst
          go_wp2_with fail
          exact bodyPost_ret (v := .tuple #[.int .i64 (q : Int), .int .i64 (r : Int), .int .i64 (i : Int), .bool false]) (by simp [results, Tryz.results77, go_sem]) rfl ⟨⟨_, _, _, false, rfl, by simp; right; simpa using HX.out⟩, (Drawn0.refl _).step _⟩
      · have hiz : ¬ (i : Int) < (t.size : Int) := by omega
        obtain rfl : i = t.size := by omega
        go_wp2_with fail
        exact bodyPost_ret (v := .tuple #[.int .i64 p, .int .i64 (q : Int), .int .i64 j, .bool true]) (by simp [results, Tryz.results77, go_sem]) rfl ⟨⟨_, _, _, true, rfl, by simp; exact ⟨fun e => by have := bs_len t; rw [e] at this; simp at this; omega, q, rfl, by rw [bs_len]; exact HS.out⟩⟩, (Drawn0.refl _).step _⟩
theorem mem_box {W : World} {g : Nat} {s : DA} (a : Arr W g s) : Mem (W.alloc (.cells #[.slice (some ⟨g, 0, none⟩) s.n s.n] 50)) W.heap.size g s :=
  ⟨a.step ((below_alloc (Below.refl _ _) _).block _ a.lt), blk_new W _, by have := a.lt; omega⟩
def fnd (L : Keys) (t : ByteArray) : Int × Bool := ((found L (bs t)).getD 0, !(bs t).isEmpty && !(subw L (bs t)).isEmpty)
def FndE (L : Keys) (t : ByteArray) (e : Ending) : Prop := e = .returned (.tuple #[.int .i64 (fnd L t).1, .bool (fnd L t).2])
theorem fnd_not {L : Keys} {t : ByteArray} (h : bs t = [] ∨ subw L (bs t) = []) : FndE L t (.returned (.tuple #[.int .i64 0, .bool false])) := by
  have e : fnd L t = (0, false) := by
    unfold fnd found
    rcases h with h | h
    · simp [h]
    · split
      · rename_i e; simp [e]
      · simp [h, here]
  unfold FndE; rw [e]
theorem fnd_half {L : Keys} {t : ByteArray} (h1 : bs t ≠ [] ∧ subw L (bs t) ≠ []) (h : found L (bs t) = none) : FndE L t (.returned (.tuple #[.int .i64 0, .bool true])) := by
  have e : fnd L t = (0, true) := by
    unfold fnd
    rw [h]
    simp [h1.1, h1.2]
  unfold FndE; rw [e]
theorem fnd_some {L : Keys} {t : ByteArray} {v : Int} (h1 : bs t ≠ [] ∧ subw L (bs t) ≠ []) (h : found L (bs t) = some v) : FndE L t (.returned (.tuple #[.int .i64 v, .bool true])) := by
  have e : fnd L t = (v, true) := by
    unfold fnd
    rw [h]
    simp [h1.1, h1.2]
  unfold FndE; rw [e]
theorem search_yes (W : World) (x g r : Nat) (s : DA) (L : Keys) (t : ByteArray) (M : Mem W x g s) (G : Good s 0 L) (C : Cln t) (hsz : t.size ≤ 1000000000) (hn : 0 < s.n) (k : Sk s L (bs t) (bs t).length r) (h0 : bs t ≠ []) :
    Calls Tryz.prog 77 #[.pointer (some ⟨x, 0, none⟩), .string t] W fun e w' => (∃ p i : Int, e = .returned (.tuple #[.int .i64 p, .int .i64 (r : Int), .int .i64 i, .bool true])) ∧ Drawn0 W w' := by
  refine (search_calls W x g s L t M G C hsz hn).mono ?_
  rintro e w' ⟨⟨p, q, i, ok, rfl, h⟩, hD⟩
  have ht := k.told G C
  cases ok with
  | false =>
    rw [if_neg (by simp)] at h
    rcases h with h | h
    · exact absurd h h0
    · rw [List.take_length] at ht; exact absurd h ht.1
  | true =>
    rw [if_pos rfl] at h
    obtain ⟨_, r', rfl, k'⟩ := h
    have : r' = r := by have h1 := k'.run; rw [k.run] at h1; exact (Option.some.inj h1).symm
    subst this
    exact ⟨⟨p, i, rfl⟩, hD⟩
theorem search_no (W : World) (x g : Nat) (s : DA) (L : Keys) (t : ByteArray) (M : Mem W x g s) (G : Good s 0 L) (C : Cln t) (hsz : t.size ≤ 1000000000) (hn : 0 < s.n) (h0 : bs t = [] ∨ subw L (bs t) = []) :
    Calls Tryz.prog 77 #[.pointer (some ⟨x, 0, none⟩), .string t] W fun e w' => (∃ p q i : Int, e = .returned (.tuple #[.int .i64 p, .int .i64 q, .int .i64 i, .bool false])) ∧ Drawn0 W w' := by
  refine (search_calls W x g s L t M G C hsz hn).mono ?_
  rintro e w' ⟨⟨p, q, i, ok, rfl, h⟩, hD⟩
  cases ok with
  | false => exact ⟨⟨p, q, i, rfl⟩, hD⟩
  | true =>
    rw [if_pos rfl] at h
    obtain ⟨hne, r', rfl, k'⟩ := h
    rcases h0 with h | h
    · exact absurd h hne
    · have := (k'.told G C).1
      rw [List.take_length] at this
      exact absurd h this
set_option maxHeartbeats 8000000 in
set_option maxRecDepth 100000 in
theorem find_calls (W : World) (g : Nat) (s : DA) (L : Keys) (t : ByteArray) (M_ : Arr W g s) (G_ : Good s 0 L) (C_ : Cln t) (hsz : t.size ≤ 1000000000) (hn : 0 < s.n) :
    Calls Tryz.prog 61 #[.slice (some ⟨g, 0, none⟩) s.n s.n, .string t] W fun e w' => FndE L t e ∧ Below W.heap.size W w' := by
  have MB := mem_box M_
  have bx := MB.box
  have big := MB.big
  have hB : Aside0 (Below W.heap.size W (W.alloc (.cells #[.slice (some ⟨g, 0, none⟩) s.n s.n] 50))) := ⟨below_alloc (Below.refl _ _) _⟩
  by_cases hyes : bs t ≠ [] ∧ ∃ r, Sk s L (bs t) (bs t).length r
  · obtain ⟨h0, r, k⟩ := hyes
    have HS := Aside0.mk (search_yes _ W.heap.size g r s L t MB G_ C_ hsz hn k h0)
    have ht := k.told G_ C_
    have hrn := k.lt hn
    rw [List.take_length] at ht
    have HF : Aside0 (found L (bs t) = s.term r) := ⟨by unfold found; rw [if_neg h0]; exact ht.2.1.symm⟩
    have HNE : Aside0 (bs t ≠ [] ∧ subw L (bs t) ≠ []) := ⟨⟨h0, ht.1⟩⟩
    have hi32 := MB.i32 r hrn
    obtain ⟨b, hb⟩ : ∃ b : Nat, s.B r = (b : Int) := ⟨(s.B r).toNat, by omega⟩
    have cb : (W.alloc (.cells #[.slice (some ⟨g, 0, none⟩) s.n s.n] 50)).cell? ⟨g, r * 2, none⟩ = some (.int .i32 (b : Int)) := (MB.base r hrn).trans (by rw [hb])
    have hb1 : b ≤ 2147483647 := by omega
    have hrz : (r : Int) < (s.n : Int) := by omega
    have HB := Aside0.mk hb
    have M := Aside0.mk MB
    clear MB G_ C_ M_ ht hi32 hb k h0
    by_cases hbn : b < s.n
    · have hbz : (b : Int) < (s.n : Int) := by omega
      have cc := M.out.chk b hbn
      have c0 := M.out.base b hbn
      have hi := M.out.i32 b hbn
      obtain ⟨cv, hcv⟩ : ∃ cv, s.C b = cv := ⟨_, rfl⟩
      obtain ⟨dv, hdv⟩ : ∃ dv, s.B b = dv := ⟨_, rfl⟩
      rw [hcv] at cc hi
      rw [hdv] at c0 hi
      obtain ⟨i1, i2, i3, i4⟩ := hi
      have HC := Aside0.mk hcv
      have HD := Aside0.mk hdv
      clear hcv hdv
      have ht1 : s.term r = if cv = (r : Int) ∧ dv ≤ 0 then some (-dv) else none := by
        by_cases e1 : cv = (r : Int)
        · by_cases e2 : dv ≤ 0
          · rw [if_pos ⟨e1, e2⟩, term_on (by rw [HB.out]; exact hbz) (by rw [HB.out, Int.toNat_natCast, HC.out]; exact e1) (by rw [HB.out, Int.toNat_natCast, HD.out]; exact e2), HB.out, Int.toNat_natCast, HD.out]
          · rw [if_neg (fun e => e2 e.2), term_no (by rw [HB.out, Int.toNat_natCast, HD.out]; omega)]
        · rw [if_neg (fun e => e1 e.1), term_off (by rw [HB.out, Int.toNat_natCast, HC.out]; exact e1)]
      rw [ht1] at HF
      clear ht1
      by_cases hcq : cv = (r : Int)
      · subst hcq
        by_cases hd : dv ≤ 0
        · rw [if_pos ⟨rfl, hd⟩] at HF
          have hdz : ¬ dv > 0 := by omega
          go_enter Tryz.func61, Tryz.ntmps61
          go_wp2_with (go_at_call 77; refine HS.out.mono ?_; rintro e_ w2 ⟨⟨p, i, rfl⟩, ⟨m1, rfl⟩⟩)
          exact bodyPost_ret (v := .tuple #[.int .i64 (-dv), .bool true]) (by simp [results, Tryz.results61, go_sem]) rfl ⟨fnd_some HNE.out HF.out, pw_below_drewN hB.out _⟩
        · rw [if_neg (fun e => hd e.2)] at HF
          have hdz : dv > 0 := by omega
          go_enter Tryz.func61, Tryz.ntmps61
          go_wp2_with (go_at_call 77; refine HS.out.mono ?_; rintro e_ w2 ⟨⟨p, i, rfl⟩, ⟨m1, rfl⟩⟩)
          exact bodyPost_ret (v := .tuple #[.int .i64 0, .bool true]) (by simp [results, Tryz.results61, go_sem]) rfl ⟨fnd_half HNE.out HF.out, pw_below_drewN hB.out _⟩
      · rw [if_neg (fun e => hcq e.1)] at HF
        have hcq2 : (cv == (r : Int)) = false := by rw [beq_eq_false_iff_ne]; exact hcq
        have hcq3 : (cv != (r : Int)) = true := by rw [bne, hcq2]; rfl
        go_enter Tryz.func61, Tryz.ntmps61
        go_wp2_with (go_at_call 77; refine HS.out.mono ?_; rintro e_ w2 ⟨⟨p, i, rfl⟩, ⟨m1, rfl⟩⟩)
        exact bodyPost_ret (v := .tuple #[.int .i64 0, .bool true]) (by simp [results, Tryz.results61, go_sem]) rfl ⟨fnd_half HNE.out HF.out, pw_below_drewN hB.out _⟩
    · have hbz : ¬ (b : Int) < (s.n : Int) := by omega
      rw [term_far (by rw [HB.out]; omega)] at HF
      go_enter Tryz.func61, Tryz.ntmps61
      go_wp2_with (go_at_call 77; refine HS.out.mono ?_; rintro e_ w2 ⟨⟨p, i, rfl⟩, ⟨m1, rfl⟩⟩)
      exact bodyPost_ret (v := .tuple #[.int .i64 0, .bool true]) (by simp [results, Tryz.results61, go_sem]) rfl ⟨fnd_half HNE.out HF.out, pw_below_drewN hB.out _⟩
  · have hno : bs t = [] ∨ subw L (bs t) = [] := by
      by_cases h0 : bs t = []
      · exact Or.inl h0
      · right
        have h := G_ (bs t) C_
        unfold Told at h
        cases hr : s.run 0 (bs t) with
        | none => rw [hr] at h; exact h
        | some r => exact absurd ⟨h0, r, ⟨by rw [List.take_length]; exact hr, Nat.le_refl _⟩⟩ hyes
    have HS := Aside0.mk (search_no _ W.heap.size g s L t MB G_ C_ hsz hn hno)
    have HF := Aside0.mk hno
    clear hno hyes MB G_ C_ M_
    go_enter Tryz.func61, Tryz.ntmps61
    go_wp2_with (go_at_call 77; refine HS.out.mono ?_; rintro e_ w2 ⟨⟨p, q, i, rfl⟩, ⟨m1, rfl⟩⟩)
    exact bodyPost_ret (v := .tuple #[.int .i64 0, .bool false]) (by simp [results, Tryz.results61, go_sem]) rfl ⟨fnd_not HF.out, pw_below_drewN hB.out _⟩
end Go.Proofs.YtaejkbjepbifcabGreatDoor.Da
namespace Go.Proofs.YtaejkbjepbifcabGreatDoor.Da
open Go.RowKit Go.Proofs.YtaejkbjepbifcabGreatDoorW.PrintWords
set_option linter.unusedVariables false
set_option linter.unusedSimpArgs false
end Go.Proofs.YtaejkbjepbifcabGreatDoor.Da
namespace Go.Proofs.YtaejkbjepbifcabGreatDoor.Da
open Go.RowKit Go.Proofs.YtaejkbjepbifcabGreatDoorW.PrintWords
set_option linter.unusedVariables false
set_option linter.unusedSimpArgs false
def CpsE (W w' : World) (L : Keys) (t : ByteArray) (e : Ending) : Prop := ∃ v1 v2 : Value, e = .returned (.tuple #[v1, v2]) ∧
  Kd.R (Kd.int .i64) 3 w' W.heap.size (fun k_ => some k_ ≠ v2.ownBlock) v1 ((hitsTo L (bs t) (bs t).length).map (·.1)) ∧ Kd.R (Kd.int .i64) 3 w' W.heap.size (fun k_ => some k_ ≠ v1.ownBlock) v2 ((hitsTo L (bs t) (bs t).length).map (·.2)) ∧ Below W.heap.size W w'
set_option maxHeartbeats 16000000 in
set_option maxRecDepth 100000 in
theorem cps_calls (W : World) (g : Nat) (s : DA) (L : Keys) (t : ByteArray) (M_ : Arr W g s) (G_ : Good s 0 L) (C_ : Cln t) (hsz : t.size ≤ 1000000000) (hn : 0 < s.n) :
    Calls Tryz.prog 62 #[.slice (some ⟨g, 0, none⟩) s.n s.n, .string t] W fun e w' => CpsE W w' L t e := by
  have HA0 := Aside0.mk M_
  have G := Aside0.mk G_
  have C := Aside0.mk C_
  have big := M_.big
  have HB0 := Aside0.mk (Below.refl W.heap.size W)
  clear M_ G_ C_
  go_enter Tryz.func62, Tryz.ntmps62
  go_wp2_with fail
  go_loopg [4, 5, 6, 7, 9] t.size (fun kq v4 v5 v6 v7 v9 w' => ∃ (i q : Nat) (p : Int) (x4 x5 : List Int), v6 = .int .i64 p ∧ v7 = .int .i64 (q : Int) ∧ v9 = .int .i64 (i : Int) ∧ Aside0 (i + kq = t.size) ∧ Aside0 (Sk s L (bs t) i q) ∧ Aside0 (x4 = (hitsTo L (bs t) i).map (·.1) ∧ x5 = (hitsTo L (bs t) i).map (·.2)) ∧ Aside0 (Kd.R (Kd.int .i64) 3 w' W.heap.size (fun k_ => some k_ ≠ v5.ownBlock) v4 x4) ∧ Aside0 (Kd.R (Kd.int .i64) 3 w' W.heap.size (fun k_ => some k_ ≠ v4.ownBlock) v5 x5) ∧ Aside0 (Below W.heap.size W w'))
  case atStart => exact ⟨0, 0, 0, [], [], rfl, rfl, rfl, ⟨by omega⟩, ⟨Sk.start _ _ _⟩, ⟨rfl, rfl⟩, ⟨Kd.R_nil _ _ _ _ _⟩, ⟨Kd.R_nil _ _ _ _ _⟩, HB0⟩
  case round =>
    clear HB0
    obtain ⟨i, q, p, x4, x5, rfl, rfl, rfl, HI, HS, HV, HO4, HO5, HB⟩ := hrel
    have hx4 : x4.length ≤ i := by rw [HV.out.1, List.length_map]; exact hits_len _ _ _
    have hx5 : x5.length ≤ i := by rw [HV.out.2, List.length_map]; exact hits_len _ _ _
    have HA : Aside0 (Arr wr g s) := ⟨HA0.out.step (HB.out.block g HA0.out.lt)⟩
    have hi := HI.out
    by_cases hlt : i < t.size
    · have hiz : (i : Int) < (t.size : Int) := by omega
      have hil : i < (bs t).length := by rw [bs_len]; exact hlt
      have h3 := (HS.out.told G.out C.out).2.2
      have hq : q < s.n := HS.out.lt hn
      have hcd : (bs t).getD i 0 = ((t[i]'hlt).toNat : Int) := bs_at t i hlt
      have hc0 := C.out _ (List.getElem_mem hil)
      rw [bs_get t i hlt] at hc0
      have hc1 := hc0.1
      have hc2 := hc0.2
      have hcn : (((t[i]'hlt).toNat : Int) == 0) = false := by rw [beq_eq_false_iff_ne]; omega
      have hi32 := HA.out.i32 q hq
      obtain ⟨b, hb⟩ : ∃ b : Nat, s.B q = (b : Int) := ⟨(s.B q).toNat, by omega⟩
      have cb : wr.cell? ⟨g, q * 2, none⟩ = some (.int .i32 (b : Int)) := (HA.out.base q hq).trans (by rw [hb])
      obtain ⟨r, hr⟩ : ∃ r : Nat, b + (t[i]'hlt).toNat = r := ⟨_, rfl⟩
      have HR : Aside0 (s.B q + (bs t).getD i 0 = (r : Int)) := ⟨by omega⟩
      have hqz : (q : Int) < (s.n : Int) := by omega
      have hr0 : 0 ≤ (r : Int) := by omega
      have hsum := sum_nat b (t[i]'hlt).toNat r (by omega) (by omega) hr
      have hbw := wrap_nat b (by omega)
      clear hc0 hb hcd h3 hi32
      go_upto_region 8 with fail
      have hw := hsum
      have hwb := hbw
      clear hsum hbw
      go_quiet (fail)
      clear hw hwb
      by_cases hrn : r < s.n
      · have hrz : (r : Int) < (s.n : Int) := by omega
        have cr : wr.cell? ⟨g, r * 2 + 1, none⟩ = _ := HA.out.chk r hrn
        obtain ⟨cv, hcv⟩ : ∃ cv, s.C r = cv := ⟨_, rfl⟩
        rw [hcv] at cr
        have hb3 := HA.out.i32 r hrn
        rw [hcv] at hb3
        have hb4 := hb3.2.2.1
        have hb5 := hb3.2.2.2
        clear hb3
        have HCV := Aside0.mk hcv
        clear hcv
        by_cases hcq : cv = (q : Int)
        · have HC2 := Aside0.mk hcq
          subst hcq
          have hst : s.step q ((bs t).getD i 0) = some r := by
            have := step_on (s := s) (q := q) (c := (bs t).getD i 0) (by rw [HR.out]; exact hrz) (by rw [HR.out, Int.toNat_natCast]; exact HCV.out)
            rw [this, HR.out, Int.toNat_natCast]
          have HS2 := Aside0.mk (HS.out.go hil hst)
          clear hst
          have h3 := (HS2.out.told G.out C.out).2.2
          have hi32 := HA.out.i32 r hrn
          obtain ⟨b2, hb2⟩ : ∃ b2 : Nat, s.B r = (b2 : Int) := ⟨(s.B r).toNat, by omega⟩
          have cb2 : wr.cell? ⟨g, r * 2, none⟩ = some (.int .i32 (b2 : Int)) := (HA.out.base r hrn).trans (by rw [hb2])
          have hb2n : b2 ≤ 2147483647 := by omega
          have HB2 := Aside0.mk hb2
          have HH : Aside0 (hitAt L (bs t) i = s.term r) := ⟨HS2.out.hit G.out C.out⟩
          clear h3 hi32 hb2
          cases gk with
          | zero => omega
          | succ kz =>
          by_cases hbn : b2 < s.n
          · have hbz : (b2 : Int) < (s.n : Int) := by omega
            have cc : wr.cell? ⟨g, b2 * 2 + 1, none⟩ = _ := HA.out.chk b2 hbn
            have cdv : wr.cell? ⟨g, b2 * 2, none⟩ = _ := HA.out.base b2 hbn
            have hi2 := HA.out.i32 b2 hbn
            obtain ⟨cw, hcw⟩ : ∃ cw, s.C b2 = cw := ⟨_, rfl⟩
            obtain ⟨dv, hdv⟩ : ∃ dv, s.B b2 = dv := ⟨_, rfl⟩
            rw [hcw] at cc hi2
            rw [hdv] at cdv hi2
            obtain ⟨i1, i2, i3, i4⟩ := hi2
            have ht1 : s.term r = if cw = (r : Int) ∧ dv ≤ 0 then some (-dv) else none := by
              by_cases e1 : cw = (r : Int)
              · by_cases e2 : dv ≤ 0
                · rw [if_pos ⟨e1, e2⟩, term_on (by rw [HB2.out]; exact hbz) (by rw [HB2.out, Int.toNat_natCast, hcw]; exact e1) (by rw [HB2.out, Int.toNat_natCast, hdv]; exact e2), HB2.out, Int.toNat_natCast, hdv]
                · rw [if_neg (fun e => e2 e.2), term_no (by rw [HB2.out, Int.toNat_natCast, hdv]; omega)]
              · rw [if_neg (fun e => e1 e.1), term_off (by rw [HB2.out, Int.toNat_natCast, hcw]; exact e1)]
            rw [ht1] at HH
            clear ht1 hcw hdv
            by_cases hcq2 : cw = (r : Int)
            · subst hcq2
              by_cases hd : dv ≤ 0
              · rw [if_pos ⟨rfl, hd⟩] at HH
                go_wp2_with (first | ((with_reducible refine gate_builtin (b := .append) (xs := #[.tmp 79, .tmp 87]) rfl ?_); at_builtin; refine Kd.R_append (Kd.int .i64) (w0 := W) W.heap.size rfl (.tmp 79) (.tmp 87) 38 3 (.int .i64 0) 8 rfl Tryz.underlying38 info_int rfl (by decide) (by omega) u4 x4 (-dv) [.int .i64 (-dv)] (fun k_ => some k_ ≠ (u5 : Value).ownBlock) (fun _ => False) rfl rfl ?aP (fun _ hk => hk.elim) ?aF ?aO ?aB ?aS ?aL ?_; (case aP => exact rfl); (case aB => exact (by repeat (first | (with_reducible first | exact HB.out | apply below_alloc | apply pw_below_drewN | apply below_drew1) | exact HB.out))); (case aF => exact (fun k_ hk => Kd.fresh' (Kd.R_lt (by (with_reducible repeat (first | apply Kd.R_alloc | apply Kd.R_drewN | apply Kd.R_drew)); exact HO5.out)) k_ hk)); (case aO => exact (by (with_reducible repeat (first | apply Kd.R_alloc | apply Kd.R_drewN | apply Kd.R_drew)); exact HO4.out)); (case aS => exact (below_size (by repeat (first | (with_reducible first | exact HB.out | apply below_alloc | apply pw_below_drewN | apply below_drew1) | exact HB.out)))); (case aL => omega); intro va wa ho hb hg hat; have n0_ := Aside0.mk (Kd.R_after (ok := (fun _ => True)) (by (with_reducible repeat (first | apply Kd.R_alloc | apply Kd.R_drewN | apply Kd.R_drew)); exact Kd.R_mono HO5.out (fun _ hk => ⟨trivial, hk⟩)) hg hat); have n1_ := Aside0.mk hb; have n2_ := Aside0.mk ho; clear HO5 HB HO4; have HO5 := n0_; have HB := n1_; have HOa := n2_; clear n0_ n1_ n2_; clear ho hb hg hat) | ((with_reducible refine gate_builtin (b := .append) (xs := #[.tmp 89, .tmp 92]) rfl ?_); at_builtin; refine Kd.R_append (Kd.int .i64) (w0 := W) W.heap.size rfl (.tmp 89) (.tmp 92) 38 3 (.int .i64 0) 8 rfl Tryz.underlying38 info_int rfl (by decide) (by omega) u5 x5 ((i : Int) + 1) [.int .i64 ((i : Int) + 1)] (fun k_ => some k_ ≠ (va : Value).ownBlock) (fun _ => False) rfl rfl ?aP (fun _ hk => hk.elim) ?aF ?aO ?aB ?aS ?aL ?_; (case aP => exact rfl); (case aB => exact (by repeat (first | (with_reducible first | exact HB.out | apply below_alloc | apply pw_below_drewN | apply below_drew1) | exact HB.out))); (case aF => exact (fun k_ hk => Kd.fresh' (Kd.R_lt (by (with_reducible repeat (first | apply Kd.R_alloc | apply Kd.R_drewN | apply Kd.R_drew)); exact HOa.out)) k_ hk)); (case aO => exact (by (with_reducible repeat (first | apply Kd.R_alloc | apply Kd.R_drewN | apply Kd.R_drew)); exact Kd.R_mono HO5.out (fun _ hk => hk.2))); (case aS => exact (below_size (by repeat (first | (with_reducible first | exact HB.out | apply below_alloc | apply pw_below_drewN | apply below_drew1) | exact HB.out)))); (case aL => omega); intro vb wb ho hb hg hat; have n0_ := Aside0.mk (Kd.R_after (ok := (fun _ => True)) (by (with_reducible repeat (first | apply Kd.R_alloc | apply Kd.R_drewN | apply Kd.R_drew)); exact Kd.R_mono HOa.out (fun _ hk => ⟨trivial, hk⟩)) hg hat); have n1_ := Aside0.mk hb; have n2_ := Aside0.mk ho; clear HOa HB HO5; have HOa := n0_; have HB := n1_; have HOb := n2_; clear n0_ n1_ n2_; clear ho hb hg hat))
                go_roundg kz
                case measure => omega
                case rel => exact ⟨i + 1, r, (q : Int), x4 ++ [-dv], x5 ++ [(i : Int) + 1], rfl, rfl, congrArg (Value.int .i64) (by omega), ⟨by omega⟩, HS2, ⟨by rw [hits_some HH.out, HV.out.1, HV.out.2]; simp⟩, ⟨Kd.R_mono HOa.out (fun _ hk => hk.2)⟩, HOb, HB⟩
              · rw [if_neg (fun e => hd e.2)] at HH
                have hdz : dv > 0 := by omega
                go_wp2_with fail
                go_roundg kz
                case measure => omega
                case rel => exact ⟨i + 1, r, (q : Int), x4, x5, rfl, rfl, congrArg (Value.int .i64) (by omega), ⟨by omega⟩, HS2, ⟨by rw [hits_none HH.out]; exact HV.out⟩, ⟨Kd.R_drewN HO4.out _⟩, ⟨Kd.R_drewN HO5.out _⟩, ⟨pw_below_drewN HB.out _⟩⟩
            · rw [if_neg (fun e => hcq2 e.1)] at HH
              have hcq3 : (cw == (r : Int)) = false := by rw [beq_eq_false_iff_ne]; exact hcq2
              go_wp2_with fail
              go_roundg kz
              case measure => omega
              case rel => exact ⟨i + 1, r, (q : Int), x4, x5, rfl, rfl, congrArg (Value.int .i64) (by omega), ⟨by omega⟩, HS2, ⟨by rw [hits_none HH.out]; exact HV.out⟩, ⟨Kd.R_drewN HO4.out _⟩, ⟨Kd.R_drewN HO5.out _⟩, ⟨pw_below_drewN HB.out _⟩⟩
          · have hbz : ¬ (b2 : Int) < (s.n : Int) := by omega
            rw [term_far (by rw [HB2.out]; omega)] at HH
            go_wp2_with fail
            go_roundg kz
            case measure => omega
            case rel => exact ⟨i + 1, r, (q : Int), x4, x5, rfl, rfl, congrArg (Value.int .i64) (by omega), ⟨by omega⟩, HS2, ⟨by rw [hits_none HH.out]; exact HV.out⟩, ⟨Kd.R_drewN HO4.out _⟩, ⟨Kd.R_drewN HO5.out _⟩, ⟨pw_below_drewN HB.out _⟩⟩
        · have hst : s.step q ((bs t).getD i 0) = none := step_off (by rw [HR.out, Int.toNat_natCast, HCV.out]; exact hcq)
          have HX := Aside0.mk (HS.out.stop G.out C.out hil hst)
          clear hst
          have hcq2 : (cv == (q : Int)) = false := by rw [beq_eq_false_iff_ne]; exact hcq
          have hcq3 : (cv != (q : Int)) = true := by rw [bne, hcq2]; rfl
          have hV1 := HV.out.1.trans (congrArg _ (hits_stop HX.out (show i ≤ (bs t).length by omega)).symm)
          have hV2 := HV.out.2.trans (congrArg _ (hits_stop HX.out (show i ≤ (bs t).length by omega)).symm)
          have HV1 := Aside0.mk hV1
          have HV2 := Aside0.mk hV2
          clear hV1 hV2
          go_wp2_with fail
          exact bodyPost_ret (v := .tuple #[u4, u5]) (by simp [results, Tryz.results62, go_sem]) rfl ⟨u4, u5, rfl, by rw [← HV1.out]; exact Kd.R_drewN HO4.out _, by rw [← HV2.out]; exact Kd.R_drewN HO5.out _, pw_below_drewN HB.out _⟩
      · have hrz : ¬ (r : Int) < (s.n : Int) := by omega
        have hst : s.step q ((bs t).getD i 0) = none := step_far (by rw [HR.out]; omega)
        have HX := Aside0.mk (HS.out.stop G.out C.out hil hst)
        clear hst
        have hV1 := HV.out.1.trans (congrArg _ (hits_stop HX.out (show i ≤ (bs t).length by omega)).symm)
        have hV2 := HV.out.2.trans (congrArg _ (hits_stop HX.out (show i ≤ (bs t).length by omega)).symm)
        have HV1 := Aside0.mk hV1
        have HV2 := Aside0.mk hV2
        clear hV1 hV2
        go_wp2_with fail
        exact bodyPost_ret (v := .tuple #[u4, u5]) (by simp [results, Tryz.results62, go_sem]) rfl ⟨u4, u5, rfl, by rw [← HV1.out]; exact Kd.R_drewN HO4.out _, by rw [← HV2.out]; exact Kd.R_drewN HO5.out _, pw_below_drewN HB.out _⟩
    · have hiz : ¬ (i : Int) < (t.size : Int) := by omega
      obtain rfl : i = t.size := by omega
      go_wp2_with fail
      exact bodyPost_ret (v := .tuple #[u4, u5]) (by simp [results, Tryz.results62, go_sem]) rfl ⟨u4, u5, rfl, by rw [bs_len, ← HV.out.1]; exact HO4.out, by rw [bs_len, ← HV.out.2]; exact HO5.out, HB.out⟩
end Go.Proofs.YtaejkbjepbifcabGreatDoor.Da
namespace Go.Proofs.YtaejkbjepbifcabGreatDoor.Da
open Go.RowKit Go.Proofs.YtaejkbjepbifcabGreatDoorW.PrintWords
set_option linter.unusedVariables false
set_option linter.unusedSimpArgs false
end Go.Proofs.YtaejkbjepbifcabGreatDoor.Da
namespace Go.Proofs.YtaejkbjepbifcabGreatDoor.Da
open Go.RowKit Go.Proofs.YtaejkbjepbifcabGreatDoorW.PrintWords
set_option linter.unusedVariables false
set_option linter.unusedSimpArgs false
theorem str_cell {W : World} {A : Option Addr} {ss : List ByteArray} (h : Kd.C Kd.string W A ss.length ss) (j : Nat) (hj : j < ss.length) : ∃ ad, A = some ad ∧ W.cell? (ad.add j) = some (.string (ss.getD j ByteArray.empty)) := by
  obtain ⟨ad, c, e, _, hK, hc0⟩ := Kd.C_get h ByteArray.empty (j : Int) (by omega) (by omega)
  have hK : c = [.string _] := hK
  subst hK
  have := hc0 0 _ rfl
  rw [Int.toNat_natCast] at this
  have e1 : (Kd.string).sz = 1 := rfl
  rw [e1, Nat.mul_one, Nat.add_zero] at this
  exact ⟨ad, e, this⟩
theorem cell_lt {w : World} {a : Addr} {v : Value} (h : w.cell? a = some v) : a.block < w.heap.size := by
  rcases Nat.lt_or_ge a.block w.heap.size with h1 | h1
  · exact h1
  · unfold World.cell? at h
    rw [Array.getElem?_eq_none h1] at h
    simp at h
section
variable {W w w' : World} {L : Keys} {ov : Value} {l : List ByteArray} {xb : Nat} {c0 c1 c2 c3 c4 cv : Value}
theorem kp_below {W w : World} (k : Kp W w (fun _ => False)) : Below W.heap.size W w := ⟨k.env.1, k.env.2.1, k.env.2.2, k.size, fun i hi => k.old i hi id⟩
end
end Go.Proofs.YtaejkbjepbifcabGreatDoor.Da
namespace Go.Proofs.YtaejkbjepbifcabGreatDoor.Da
open Go.RowKit Go.Maps Go.ChangeShapes Go.Proofs.YtaejkbjepbifcabGreatDoorW.PrintWords
set_option linter.unusedVariables false
set_option linter.unusedSimpArgs false
def BldE (W W' : World) (S : Nat → Prop) (L : Keys) (e : Ending) : Prop := ∃ g s, e = .returned (.tuple #[.slice (some ⟨g, 0, none⟩) s.n s.n, .nilIface]) ∧ Arr W' g s ∧ Good s 0 L ∧ 0 < s.n ∧ W.heap.size ≤ g ∧ Kp W W' S
theorem bld_end {W w w' : World} {x g g' : Nat} {s' : DA} {L : Keys} {S : Nat → Prop} (hk : Kp W w S) (hx : W.heap.size ≤ x) (hg : W.heap.size ≤ g) (h : BldP w w' x g L g' s') : BldE W w' S L (.returned (.tuple #[.slice (some ⟨g', 0, none⟩) s'.n s'.n, .nilIface])) := by
  obtain ⟨h1, h2, h3, h4, h5⟩ := h
  have := hk.size
  exact ⟨g', s', rfl, h1, h2, h3, by omega, (hk.trans h5).mono (fun i hi h => by rcases h with h | h | h; exact h; omega; omega)⟩
set_option maxHeartbeats 16000000 in
set_option maxRecDepth 100000 in
theorem build_sorted (W : World) (kb ko ib io Nc Dc k : Nat) (ss : List ByteArray) (ds : List Int) (HSRC : Src W kb ko ss ib io ds) (hr : Kd.C Kd.string W (some ⟨kb, ko, none⟩) ss.length ss) (hc : ss.length ≤ Nc) (hs : PB.slices_IsSorted_string_string.f k ss = some true) (hne : ss ≠ []) (hok : Okk (keysAll ss ds)) (has : Asc (keysAll ss ds)) (ht : tot (keysAll ss ds) ≤ 32000) :
    Calls Tryz.prog 48 #[.slice (some ⟨kb, ko, none⟩) ss.length Nc, .slice (some ⟨ib, io, none⟩) ds.length Dc] W fun e w' => BldE W w' (fun _ => False) (keysAll ss ds) e := by
  have HS0 := Aside0.mk HSRC
  have HR := Aside0.mk hr
  have HIS := Aside0.mk hs
  have HNE := Aside0.mk hne
  have HOK := Aside0.mk hok
  have HAS := Aside0.mk has
  have HT := Aside0.mk ht
  have hlen := HSRC.len
  have hpos : 0 < ss.length := List.length_pos_iff.2 hne
  have hl0 : ((ss.length : Int) == 0) = false := by rw [beq_eq_false_iff_ne]; omega
  have hl1 : ((ss.length : Int) != (ss.length : Int)) = false := by simp
  have hfew := HSRC.few
  have HLE := Aside0.mk hlen
  rw [hlen]
  clear HSRC hr hs hne hok has ht hlen
  go_enter Tryz.func48, Tryz.ntmps48
  refine wp_seq_k fun K hK_ => ?_
  have hK := Aside0.mk hK_
  clear hK_
  go_wp2_with fail
  refine hK.out _ _ ?_
  clear hK K
  refine wp_seq_k fun K hK_ => ?_
  have hK := Aside0.mk hK_
  clear hK_
  go_wp2_with fail
  refine hK.out _ _ ?_
  clear hK K
  have hz1 : (W.alloc (.cells #[] 109)).heap.size = W.heap.size + 1 := Own.size_alloc _ _
  obtain ⟨w1, hw1, hbx, hk1⟩ : ∃ w1, w1 = (W.alloc (.cells #[] 109)).alloc (.cells #[.slice (some ⟨W.heap.size, 0, none⟩) 0 0] 50) ∧ w1.heap[W.heap.size + 1]? = some (.cells #[.slice (some ⟨W.heap.size, 0, none⟩) 0 0] 50 (0, 0)) ∧ Kp W w1 (fun _ => False) := ⟨_, rfl, by rw [← hz1]; exact blk_new _ _, ((Kp.self W _).alloc _).alloc _⟩
  rw [← hw1]
  obtain ⟨x, hx⟩ : ∃ x, W.heap.size + 1 = x := ⟨_, rfl⟩
  rw [hx] at hbx ⊢
  have HX := Aside0.mk hx
  have HI := Aside0.mk (init_calls w1 x _ hbx)
  have HK1 := Aside0.mk hk1
  clear hw1 hbx hk1 hz1 hx
  refine wp_seq_k fun K hK_ => ?_
  have hK := Aside0.mk hK_
  clear hK_
  go_wp2_with (first | (go_at_call 66; refine HI.out.mono ?_; rintro e_ w2 ⟨rfl, g, hg, hM, hK⟩; have HM := Aside0.mk hM; have HG := Aside0.mk hg; have HK2 : Aside0 (Kp W w2 (fun _ => False)) := ⟨(HK1.out.trans hK).mono (fun i hi h => by have := HX.out; rcases h with h | h; exact h; omega)⟩; have HIS2 := Aside0.mk (PB.slices_IsSorted_string_string.calls k _ Nc ss true w2 (Kd.C_below HR.out (kp_below HK2.out)) hc HIS.out); clear hM hg hK) | (go_at_call 47; refine HIS2.out.mono ?_; rintro e_ w3 ⟨rfl, ⟨q3, rfl⟩⟩))
  refine hK.out _ _ ?_
  clear hK K
  refine wp_seq_k fun K hK_ => ?_
  have hK := Aside0.mk hK_
  clear hK_
  go_wp2_with fail
  refine hK.out _ _ ?_
  clear hK K
  refine wp_seq_k fun K hK_ => ?_
  have hK := Aside0.mk hK_
  clear hK_
  go_wp2_with fail
  refine hK.out _ _ ?_
  clear hK K
  refine wp_seq_k fun K hK_ => ?_
  have hK := Aside0.mk hK_
  clear hK_
  go_wp2_with (first | (go_at_call 66; refine HI.out.mono ?_; rintro e_ w2 ⟨rfl, g, hg, hM, hK⟩; have HM := Aside0.mk hM; have HG := Aside0.mk hg; have HK2 : Aside0 (Kp W w2 (fun _ => False)) := ⟨(HK1.out.trans hK).mono (fun i hi h => by have := HX.out; rcases h with h | h; exact h; omega)⟩; have HIS2 := Aside0.mk (PB.slices_IsSorted_string_string.calls k _ Nc ss true w2 (Kd.C_below HR.out (kp_below HK2.out)) hc HIS.out); clear hM hg hK) | (go_at_call 47; refine HIS2.out.mono ?_; rintro e_ w3 ⟨rfl, ⟨q3, rfl⟩⟩))
  refine hK.out _ _ ?_
  clear hK K
  have hm3 := HM.out.drewN q3
  have hk3 := HK2.out.drewN q3
  have hs3 := HS0.out.step hk3 id id
  have hg3 : W.heap.size ≤ g := by have := HK1.out.size; have := HG.out; omega
  have hap : kb ≠ x ∧ kb ≠ g ∧ ib ≠ x ∧ ib ≠ g := by
    have := HS0.out.kl
    have := HS0.out.il
    have := HX.out
    omega
  have HM3 := Aside0.mk hm3
  have HK3 := Aside0.mk hk3
  have HS3 := Aside0.mk hs3
  have HG3 := Aside0.mk hg3
  have HAP := Aside0.mk hap
  clear hm3 hk3 hs3 hg3 hap HM HK2 HIS2 HI HK1
  refine bld_tail _ x g kb ko ib io Nc Dc ss ds HM3 HS3 HNE HOK HAS HT HAP ⟨?_⟩
  intro n12 n13 n62 n63 n64 n65 n66 n67 n68 n69 n70 n71 n72 n73 n74 n75 n76 n77 n78 n79 n80 g' s' w' HB
  (try simp only [Exit.then, Exit.jump])
  exact bodyPost_ret (v := .tuple #[.slice (some ⟨g', 0, none⟩) s'.n s'.n, .nilIface]) (by simp [results, Tryz.results48, go_sem]) rfl (bld_end HK3.out (by have := HX.out; omega) HG3.out HB.out)
end Go.Proofs.YtaejkbjepbifcabGreatDoor.Da
namespace Go.Proofs.YtaejkbjepbifcabGreatDoor.Da
open Go.RowKit Go.Proofs.YtaejkbjepbifcabGreatDoorW.PrintWords
set_option linter.unusedVariables false
set_option linter.unusedSimpArgs false
theorem own_head {α : Type} {d : Kd α} {e : Nat} {w : World} {base : Nat} {ok : Nat → Prop} {v : Value} {xs : List α} (h : Kd.R d e w base ok v xs) (hne : xs ≠ []) : ∃ g c, v = .slice (some ⟨g, 0, none⟩) xs.length c ∧ base ≤ g ∧ g < w.heap.size ∧ xs.length ≤ c ∧ Kd.C d w (some ⟨g, 0, none⟩) xs.length xs := by
  obtain ⟨inner, ho⟩ := Kd.R_own h
  have hp : 0 < xs.length := List.length_pos_iff.2 hne
  rcases ho.2 with ⟨_, h0⟩ | ⟨g, cap, cur, rfl, h2, h3, h4, h5, h6, h7⟩
  · omega
  · obtain ⟨A, c, e1, l1, g1⟩ := Kd.R_reads h
    injection e1 with e1 e2 e3
    subst e1
    subst e3
    exact ⟨g, _, rfl, h2, (Array.getElem?_eq_some_iff.1 h3).1, l1, g1⟩
theorem add_at0 (g j : Nat) : (⟨g, 0, none⟩ : Addr).add j = ⟨g, 0 + j, none⟩ := by unfold Addr.add; split <;> simp_all
theorem int_cell {W : World} {A : Option Addr} {ds : List Int} (h : Kd.C (Kd.int .i64) W A ds.length ds) (j : Nat) (hj : j < ds.length) : ∃ ad, A = some ad ∧ W.cell? (ad.add j) = some (.int .i64 (ds.getD j 0)) := by
  obtain ⟨ad, c, e, _, hK, hc0⟩ := Kd.C_get h 0 (j : Int) (by omega) (by omega)
  have hK : c = [.int .i64 _] := hK
  subst hK
  have := hc0 0 _ rfl
  rw [Int.toNat_natCast] at this
  have e1 : (Kd.int .i64).sz = 1 := rfl
  rw [e1, Nat.mul_one, Nat.add_zero] at this
  exact ⟨ad, e, this⟩
structure KeysOk (ss : List ByteArray) (ds : List Int) : Prop where
  ne : ss ≠ []
  len : ds.length = ss.length
  few : ss.length ≤ 1000000
  sz : ∀ t ∈ ss, t.size ≤ 1000000000
  dsb : ∀ d ∈ ds, 0 ≤ d ∧ d ≤ 2147483647
  ok : Okk (keysAll ss ds)
  asc : Asc (keysAll ss ds)
  tot : tot (keysAll ss ds) ≤ 32000
theorem src_of {W : World} {kb ib : Nat} {ss : List ByteArray} {ds : List Int} (k : KeysOk ss ds) (h1 : Kd.C Kd.string W (some ⟨kb, 0, none⟩) ss.length ss) (h2 : Kd.C (Kd.int .i64) W (some ⟨ib, 0, none⟩) ds.length ds) (hk : kb < W.heap.size) (hi : ib < W.heap.size) : Src W kb 0 ss ib 0 ds :=
  ⟨fun j hj => by
    obtain ⟨ad, e, h⟩ := str_cell h1 j hj
    cases e
    rw [add_at0] at h
    exact h, fun j hj => by
    obtain ⟨ad, e, h⟩ := int_cell h2 j hj
    cases e
    rw [add_at0] at h
    exact h, hk, hi, k.len, k.few, k.sz, k.dsb⟩
theorem clone_strs (ss : List ByteArray) (h : ss.length ≤ 1000000) : PB.slices_Clone_string_string.f ss = some ss := by
  unfold PB.slices_Clone_string_string.f
  simp only [Option.bind_some, List.nil_append, List.length_nil, Nat.zero_add]
  rw [if_pos (by omega)]
end Go.Proofs.YtaejkbjepbifcabGreatDoor.Da
namespace Go.Proofs.YtaejkbjepbifcabGreatDoor.Da
open Go.RowKit Go.Proofs.YtaejkbjepbifcabGreatDoorW.PrintWords Go.Proofs.YtaejkbjepbifcabGreatDoor.Plain
set_option linter.unusedVariables false
set_option linter.unusedSimpArgs false
theorem wrap_up (i : Nat) (h : i ≤ 4611686018427387904) : wrap64 ((i : Int) + 1) = ((i + 1 : Nat) : Int) := by unfold wrap64; omega
theorem wrap_dn (i : Nat) (h0 : 1 ≤ i) (h : i ≤ 4611686018427387904) : wrap64 ((i : Int) - 1) = ((i - 1 : Nat) : Int) := by unfold wrap64; omega
theorem rdOf_nat {α : Type} (d : α) (l : List α) (i : Nat) : rdOf d l (i : Int) = l.getD i d := by unfold rdOf; rw [Int.toNat_natCast]
theorem getD_mem {α : Type} {l : List α} {i : Nat} (d : α) (h : i < l.length) : l.getD i d ∈ l := by
  rw [List.getD_eq_getElem?_getD, List.getElem?_eq_getElem h]; exact List.getElem_mem h
def wt (l : List ByteArray) : Nat := (l.map (fun t => t.size + 1)).sum
structure Ord (l : List ByteArray) (strict : Bool) : Prop where
  cln : ∀ t ∈ l, Cln t
  ne : ∀ t ∈ l, t.toList ≠ []
  up : ∀ i, i + 1 < l.length → Op.bytesLess (l.getD (i + 1) ByteArray.empty).toList (l.getD i ByteArray.empty).toList = false
  str : strict = true → ∀ i, i + 1 < l.length → (l.getD (i + 1) ByteArray.empty).toList ≠ (l.getD i ByteArray.empty).toList
  pos : l ≠ []
end Go.Proofs.YtaejkbjepbifcabGreatDoor.Da
namespace Go.Proofs.YtaejkbjepbifcabGreatDoor.Da
open Go.RowKit Go.Proofs.YtaejkbjepbifcabGreatDoorW.PrintWords Go.Proofs.YtaejkbjepbifcabGreatDoor.Plain
set_option linter.unusedVariables false
set_option linter.unusedSimpArgs false
theorem le_of_not : ∀ (x y : List UInt8), ¬ y < x → le (x.map (fun b => (b.toNat : Int))) (y.map (fun b => (b.toNat : Int)))
  | [], _, _ => trivial
  | a :: x, [], h => absurd (List.nil_lt_cons a x) h
  | a :: x, b :: y, h => by
    rw [List.cons_lt_cons_iff] at h
    show (a.toNat : Int) < b.toNat ∨ ((a.toNat : Int) = b.toNat ∧ le _ _)
    by_cases e : a = b
    · subst e
      exact Or.inr ⟨rfl, le_of_not x y (fun h2 => h (Or.inr ⟨rfl, h2⟩))⟩
    · left
      have h1 : ¬ b < a := fun h2 => h (Or.inl h2)
      rw [UInt8.lt_iff_toNat_lt] at h1
      have h2 : a.toNat ≠ b.toNat := fun h2 => e (UInt8.toNat_inj.1 h2)
      omega
theorem up_le {l : List ByteArray} (h : ∀ i, i + 1 < l.length → Op.bytesLess (l.getD (i + 1) ByteArray.empty).toList (l.getD i ByteArray.empty).toList = false) : ∀ d i, i + d < l.length → ¬ (l.getD (i + d) ByteArray.empty).toList < (l.getD i ByteArray.empty).toList
  | 0, i, _ => List.lt_irrefl _
  | d + 1, i, hd => by
    have ih := up_le h d i (by omega)
    have h1 := h (i + d) (by omega)
    rw [Own.bl_eq, decide_eq_false_iff_not] at h1
    rw [show i + (d + 1) = i + d + 1 by omega]
    have a : (l.getD i ByteArray.empty).toList ≤ (l.getD (i + d) ByteArray.empty).toList := List.not_lt.1 ih
    have b : (l.getD (i + d) ByteArray.empty).toList ≤ (l.getD (i + d + 1) ByteArray.empty).toList := List.not_lt.1 h1
    exact List.not_lt.2 (List.le_trans a b)
theorem le_words {l : List ByteArray} (h : ∀ i, i + 1 < l.length → Op.bytesLess (l.getD (i + 1) ByteArray.empty).toList (l.getD i ByteArray.empty).toList = false) {i j : Nat} (hij : i < j) (hj : j < l.length) : le (word l i) (word l j) := by
  have := up_le h (j - i) i (by omega)
  rw [show i + (j - i) = j by omega, Lib.toList_data, Lib.toList_data] at this
  exact le_of_not _ _ this
theorem wt_len (l : List ByteArray) : l.length ≤ wt l := by
  induction l with
  | nil => exact Nat.le_refl _
  | cons t l ih => simp only [wt, List.map_cons, List.sum_cons, List.length_cons] at ih ⊢; omega
theorem wt_mem {l : List ByteArray} {t : ByteArray} (h : t ∈ l) : t.size ≤ wt l := by
  induction l with
  | nil => cases h
  | cons u l ih =>
    simp only [wt, List.map_cons, List.sum_cons] at ih ⊢
    rcases List.mem_cons.1 h with rfl | h
    · omega
    · have := ih h; omega
theorem tot_wt (ss : List ByteArray) (ds : List Int) : tot (keysAll ss ds) ≤ wt ss := by
  have key : ∀ n, n ≤ ss.length → ((List.range n).map (fun z => (word ss z).length)).sum ≤ wt (ss.take n) := by
    intro n
    induction n with
    | zero => intro _; exact Nat.zero_le _
    | succ n ih =>
      intro hn
      have := ih (by omega)
      rw [List.range_succ, List.map_append, List.sum_append, List.take_succ_eq_append_getElem (by omega)]
      unfold wt at this ⊢
      rw [List.map_append, List.sum_append]
      have e : (word ss n).length = (ss[n]'(by omega)).size := by
        unfold word
        rw [bs_len, List.getD_eq_getElem?_getD, List.getElem?_eq_getElem (by omega)]; rfl
      simp only [List.map_cons, List.map_nil, List.sum_cons, List.sum_nil, e]
      omega
  have := key ss.length (Nat.le_refl _)
  rw [List.take_length] at this
  refine Nat.le_trans (Nat.le_of_eq ?_) this
  unfold tot keysAll keysOf
  rw [List.map_map]
  congr 1
theorem keys_ok2 {ss : List ByteArray} {ds : List Int} (hw : wt ss ≤ 4000) (hpos : ss ≠ []) (hcln : ∀ t ∈ ss, Cln t) (hup : ∀ i, i + 1 < ss.length → Op.bytesLess (ss.getD (i + 1) ByteArray.empty).toList (ss.getD i ByteArray.empty).toList = false) (hl : ds.length = ss.length) (hd : ∀ d ∈ ds, 0 ≤ d ∧ d ≤ 2147483647) : KeysOk ss ds := by
  have h1 := wt_len ss
  refine ⟨hpos, hl, by omega, fun t ht => by have := wt_mem ht; omega, hd, ?_, ?_, by have := tot_wt ss ds; omega⟩
  · intro k hk
    obtain ⟨z, hz, rfl⟩ := List.mem_map.1 hk
    show Okw ((word ss z).drop 0)
    rw [List.drop_zero]
    exact hcln _ (getD_mem _ (List.mem_range.1 hz))
  · show List.Pairwise _ ((List.range ss.length).map _)
    rw [List.pairwise_map]
    refine List.pairwise_lt_range.imp_of_mem (fun {a b} ha hb hab => ?_)
    show le ((word ss a).drop 0) ((word ss b).drop 0)
    rw [List.drop_zero, List.drop_zero]
    exact le_words hup hab (List.mem_range.1 hb)
theorem nan_f (a : ByteArray) : PB.cmp_isNaN_string.f a = some false := by simp [PB.cmp_isNaN_string.f]
theorem less_f (a b : ByteArray) : PB.cmp_Less_string.f a b = some (Op.bytesLess a.toList b.toList) := by simp [PB.cmp_Less_string.f, nan_f]
theorem sorted_key (l : List ByteArray) (hl : l.length ≤ 4611686018427387904) (h : ∀ i, i + 1 < l.length → Op.bytesLess (l.getD (i + 1) ByteArray.empty).toList (l.getD i ByteArray.empty).toList = false) : ∀ i, i < l.length → Ev (fun k => PB.slices_IsSorted_string_string.l0 k l (i : Int)) true
  | 0, hi => Ev.step (fun k => by rw [PB.slices_IsSorted_string_string.l0]) (evn (by omega) (Ev.now true))
  | i + 1, hi => by
    have ih := sorted_key l hl h i (by omega)
    have e : wrap64 (((i + 1 : Nat) : Int) - 1) = (i : Int) := by rw [wrap_dn (i + 1) (by omega) (by omega)]; rfl
    refine Ev.step (fun k => by rw [PB.slices_IsSorted_string_string.l0]) (evp (by omega) (evp (by omega) (evp (by omega) (evp (by rw [e]; omega) (evp (by rw [e]; omega) ?_)))))
    rw [e, rdOf_nat, rdOf_nat, less_f, h i hi]
    exact Ev.bind (Ev.now false) (evn (by simp) ih)
theorem sorted_ev (l : List ByteArray) (h0 : l ≠ []) (hl : l.length ≤ 4611686018427387904) (h : ∀ i, i + 1 < l.length → Op.bytesLess (l.getD (i + 1) ByteArray.empty).toList (l.getD i ByteArray.empty).toList = false) : ∃ k, PB.slices_IsSorted_string_string.f k l = some true := by
  have hp := List.length_pos_iff.2 h0
  have := sorted_key l hl h (l.length - 1) (by omega)
  have e : wrap64 ((l.length : Int) - 1) = ((l.length - 1 : Nat) : Int) := wrap_dn _ (by omega) hl
  obtain ⟨k, hk⟩ := this.rounds
  exact ⟨k, by unfold PB.slices_IsSorted_string_string.f; rw [e]; exact hk⟩
end Go.Proofs.YtaejkbjepbifcabGreatDoor.Da
namespace Go.Proofs.YtaejkbjepbifcabGreatDoor.Da
open Go.RowKit Go.Proofs.YtaejkbjepbifcabGreatDoorW.PrintWords Go.Proofs.YtaejkbjepbifcabGreatDoor.Plain
set_option linter.unusedVariables false
set_option linter.unusedSimpArgs false
abbrev ta : ByteArray := { data := #[97] }
theorem cln_a : Cln ta := by intro c hc; have : c = 97 := by simpa [bs, ta] using hc
                             subst this; unfold Okc; omega
theorem new1 {α : Type} {enc : α → Value} {h1 : ∀ x, (enc x).oneCell' = true} (w : World) (b : Nat) (hb : b = w.heap.size) (xs : List α) (e : TypeId) (cs : Array Value) (hcs : cs = (xs.map enc).toArray) (hm : xs.length ≤ 9223372036854775807) :
    (Kd.scalar enc h1).C (w.alloc (.cells cs e (0, 0))) (some ⟨b, 0, none⟩) xs.length xs := by
  subst hb
  exact Own.C_alloc_new w xs e (0, 0) cs hcs hm
theorem row_reads {α : Type} {d : Kd α} {e : Nat} {w : World} {base : Nat} {ok : Nat → Prop} {A : Option Addr} {n c : Nat} {xs : List α} (h : Kd.R d e w base ok (.slice A n c) xs) : xs.length ≤ c ∧ Kd.C d w A xs.length xs := by
  obtain ⟨A', c', e1, l1, g1⟩ := Kd.R_reads h
  cases e1
  exact ⟨l1, g1⟩
end Go.Proofs.YtaejkbjepbifcabGreatDoor.Da
namespace Go.Proofs.YtaejkbjepbifcabGreatDoor.Da
open Go.RowKit Go.Proofs.YtaejkbjepbifcabGreatDoorW.PrintWords Go.Proofs.YtaejkbjepbifcabGreatDoor.Plain
set_option linter.unusedVariables false
set_option linter.unusedSimpArgs false
end Go.Proofs.YtaejkbjepbifcabGreatDoor.Da
namespace Go.Proofs.YtaejkbjepbifcabGreatDoor.Da
open Go.RowKit Go.Maps Go.ChangeShapes Go.Proofs.YtaejkbjepbifcabGreatDoorW.PrintWords Go.Proofs.YtaejkbjepbifcabGreatDoor.Plain
set_option linter.unusedVariables false
set_option linter.unusedSimpArgs false
structure IxS where
  keys : List ByteArray
  ids : List Int
  pn : Int
  pw : ByteArray
  dup : Int → Int
def bump (f : Int → Int) (p : Int) : Int → Int := fun k => if k = p then f k + 1 else f k
def ixAgain (s : IxS) : IxS := ⟨s.keys, s.ids, s.pn, s.pw, bump s.dup s.pn⟩
def ixNew (s : IxS) (i : Int) (t : ByteArray) : IxS := ⟨s.keys ++ [t], s.ids ++ [i], i, t, s.dup⟩
def ixStep (s : IxS) (i : Nat) (t : ByteArray) : IxS := if t.toList = s.pw.toList then ixAgain s else ixNew s i t
def ixTo (ws : List ByteArray) : Nat → IxS
  | 0 => ⟨[], [], 0, ByteArray.empty, fun _ => 0⟩
  | i + 1 => ixStep (ixTo ws i) i (ws.getD i ByteArray.empty)
theorem ixTo_succ (ws : List ByteArray) (i : Nat) : ixTo ws (i + 1) = ixStep (ixTo ws i) i (ws.getD i ByteArray.empty) := rfl
structure IxI (ws : List ByteArray) (i : Nat) (s : IxS) : Prop where
  len : s.ids.length = s.keys.length
  few : s.keys.length ≤ i
  dup : ∀ k, 0 ≤ s.dup k ∧ s.dup k ≤ i
  at_ : ∀ k, s.dup k ≠ 0 → 0 ≤ k ∧ k < i
  sub : ∀ t ∈ s.keys, t ∈ ws
  wt_ : wt s.keys ≤ wt (ws.take i)
  idb : ∀ d ∈ s.ids, 0 ≤ d ∧ d < i
  pn : 0 ≤ s.pn ∧ s.pn ≤ i
  pi : 0 < i → s.pn < i
  pw : s.pw.toList = if i = 0 then [] else (ws.getD (i - 1) ByteArray.empty).toList
  last : s.keys ≠ [] → (s.keys.getD (s.keys.length - 1) ByteArray.empty).toList = s.pw.toList
  up : ∀ j, j + 1 < s.keys.length → Op.bytesLess (s.keys.getD (j + 1) ByteArray.empty).toList (s.keys.getD j ByteArray.empty).toList = false
theorem empty_list : ByteArray.empty.toList = [] := by rw [Lib.toList_data]; rfl
theorem wt_snoc (l : List ByteArray) (t : ByteArray) : wt (l ++ [t]) = wt l + (t.size + 1) := by simp [wt]
theorem take_getD (ws : List ByteArray) {i : Nat} (h : i < ws.length) : ws.take (i + 1) = ws.take i ++ [ws.getD i ByteArray.empty] := by
  rw [List.take_add_one, List.getElem?_eq_getElem h, List.getD_eq_getElem?_getD, List.getElem?_eq_getElem h]; rfl
theorem getD_app_l {α : Type} (a b : List α) (z : α) {j : Nat} (h : j < a.length) : (a ++ b).getD j z = a.getD j z := by
  rw [List.getD_eq_getElem?_getD, List.getD_eq_getElem?_getD, List.getElem?_append_left h]
theorem getD_app_at {α : Type} (a : List α) (x z : α) : (a ++ [x]).getD a.length z = x := by
  rw [List.getD_eq_getElem?_getD, List.getElem?_append_right (Nat.le_refl _)]; simp
theorem ix_inv (ws : List ByteArray) (hup : ∀ j, j + 1 < ws.length → Op.bytesLess (ws.getD (j + 1) ByteArray.empty).toList (ws.getD j ByteArray.empty).toList = false) : ∀ i, i ≤ ws.length → IxI ws i (ixTo ws i)
  | 0, _ => ⟨rfl, Nat.le_refl _, fun _ => ⟨Int.le_refl _, Int.le_refl _⟩, fun _ h => absurd rfl h, (fun _ h => by cases h), Nat.zero_le _, (fun _ h => by cases h), ⟨Int.le_refl _, Int.le_refl _⟩, fun h => absurd h (Nat.lt_irrefl _), empty_list, fun h => absurd rfl h, fun j h => absurd h (Nat.not_lt_zero _)⟩
  | i + 1, hi => by
    have I := ix_inv ws hup i (by omega)
    have hil : i < ws.length := by omega
    rw [ixTo_succ]
    generalize ixTo ws i = s at I
    obtain ⟨t, ht⟩ : ∃ t, ws.getD i ByteArray.empty = t := ⟨_, rfl⟩
    have htm : t ∈ ws := by rw [← ht]; exact getD_mem _ hil
    have hpw : (ws.getD (i + 1 - 1) ByteArray.empty).toList = t.toList := by rw [Nat.add_sub_cancel, ht]
    have hwt : wt (ws.take (i + 1)) = wt (ws.take i) + (t.size + 1) := by rw [take_getD ws hil, wt_snoc, ht]
    have hp := I.pn
    have hf := I.few
    rw [ht]
    unfold ixStep
    split
    · rename_i he
      refine ⟨I.len, by show s.keys.length ≤ _; omega, fun k => ?_, fun k hk => ?_, I.sub, by show wt s.keys ≤ _; have := I.wt_; omega, fun d hd => by have := I.idb d hd; omega, by show 0 ≤ s.pn ∧ s.pn ≤ _; omega, fun _ => by show s.pn < _; omega, ?_, I.last, I.up⟩
      · show 0 ≤ bump s.dup s.pn k ∧ bump s.dup s.pn k ≤ _
        have := I.dup k
        unfold bump
        split <;> omega
      · have hk : bump s.dup s.pn k ≠ 0 := hk
        unfold bump at hk
        split at hk
        · omega
        · have := I.at_ k hk; omega
      · rw [if_neg (by omega), hpw]; exact he.symm
    · rename_i he
      have hlast : s.keys ≠ [] → Op.bytesLess t.toList (s.keys.getD (s.keys.length - 1) ByteArray.empty).toList = false := by
        intro hne
        rw [I.last hne, I.pw]
        have h0 : i ≠ 0 := by
          intro h0
          have : s.keys.length = 0 := by omega
          exact hne (List.length_eq_zero_iff.1 this)
        rw [if_neg h0, ← ht]
        have := hup (i - 1) (by omega)
        rw [show i - 1 + 1 = i by omega] at this
        exact this
      refine ⟨by show (s.ids ++ [(i : Int)]).length = (s.keys ++ [t]).length; simp [I.len], by show (s.keys ++ [t]).length ≤ _; simp; omega, fun k => by have := I.dup k; show 0 ≤ s.dup k ∧ s.dup k ≤ _; omega, fun k hk => by have := I.at_ k hk; omega, ?_, by show wt (s.keys ++ [t]) ≤ _; rw [wt_snoc, hwt]; have := I.wt_; omega, ?_, by show 0 ≤ (i : Int) ∧ (i : Int) ≤ _; omega, fun _ => by show (i : Int) < _; omega, by rw [if_neg (by omega), hpw]; rfl, fun _ => ?_, fun j hj => ?_⟩
      · intro x hx
        rcases List.mem_append.1 hx with h | h
        · exact I.sub x h
        · rw [List.mem_singleton.1 h]; exact htm
      · intro d hd
        rcases List.mem_append.1 hd with h | h
        · have := I.idb d h; omega
        · rw [List.mem_singleton.1 h]; omega
      · show ((s.keys ++ [t]).getD ((s.keys ++ [t]).length - 1) ByteArray.empty).toList = t.toList
        rw [List.length_append, List.length_singleton, Nat.add_sub_cancel, getD_app_at]
      · have hj : j + 1 < (s.keys ++ [t]).length := hj
        rw [List.length_append, List.length_singleton] at hj
        show Op.bytesLess ((s.keys ++ [t]).getD (j + 1) ByteArray.empty).toList ((s.keys ++ [t]).getD j ByteArray.empty).toList = false
        by_cases e : j + 1 = s.keys.length
        · rw [e, getD_app_at, getD_app_l s.keys [t] ByteArray.empty (j := j) (by omega), show j = s.keys.length - 1 by omega]
          exact hlast (fun h0 => by rw [h0] at e; simp at e)
        · rw [getD_app_l _ _ _ (by omega), getD_app_l _ _ _ (by omega)]
          exact I.up j (by omega)
theorem ix_keys_ne (ws : List ByteArray) (h0 : ws ≠ []) (hne : ∀ t ∈ ws, t.toList ≠ []) : (ixTo ws ws.length).keys ≠ [] := by
  have key : ∀ i, 0 < i → i ≤ ws.length → (ixTo ws i).keys ≠ [] := by
    intro i
    induction i with
    | zero => intro h; exact absurd h (Nat.lt_irrefl _)
    | succ i ih =>
      intro _ hi
      rw [ixTo_succ]
      unfold ixStep
      split
      · rename_i he
        by_cases h : i = 0
        · subst h
          exact absurd (he.trans empty_list) (hne _ (getD_mem _ (by omega)))
        · exact ih (by omega) (by omega)
      · show _ ++ [_] ≠ []
        simp
  exact key _ (List.length_pos_iff.2 h0) (Nat.le_refl _)
theorem ix_ok {ws : List ByteArray} {st : Bool} (hw : wt ws ≤ 4000) (ho : Ord ws st) : KeysOk (ixTo ws ws.length).keys (ixTo ws ws.length).ids := by
  have I := ix_inv ws ho.up ws.length (Nat.le_refl _)
  have h1 := I.wt_
  rw [List.take_length] at h1
  have := wt_len ws
  exact keys_ok2 (by omega) (ix_keys_ne ws ho.pos ho.ne) (fun t ht => ho.cln t (I.sub t ht)) I.up I.len (fun d hd => by have := I.idb d hd; omega)
theorem ix_sorted {ws : List ByteArray} {st : Bool} (hw : wt ws ≤ 4000) (ho : Ord ws st) : ∃ k, PB.slices_IsSorted_string_string.f k (ixTo ws ws.length).keys = some true := by
  have I := ix_inv ws ho.up ws.length (Nat.le_refl _)
  have := I.few
  have := wt_len ws
  exact sorted_ev _ (ix_keys_ne ws ho.pos ho.ne) (by omega) I.up
structure DupD (D : DataW Unit) (f : Int → Int) : Prop where
  tidy : Tidy D
  at_ : ∀ k z, D.atKey (.int .i32 k) z = if f k = 0 then z else .lit (.int .i32 (f k))
theorem dup_start : DupD (.map []) (fun _ => 0) := ⟨tidy_empty, fun k z => by simp; rfl⟩
theorem DupD.bump {D : DataW Unit} {f : Int → Int} (h : DupD D f) (p : Int) (h0 : 0 ≤ f p) : DupD (D.put (.int .i32 p) (.lit (.int .i32 (f p + 1)))) (bump f p) := by
  refine ⟨h.tidy.put (by simp [Go.WideAt.IsKeyLit]) _, fun k z => ?_⟩
  unfold Da.bump
  by_cases e : k = p
  · subst e
    rw [if_pos rfl, if_neg (by omega), atKey_put_same h.tidy.isMap (by simp [Go.WideAt.IsKeyLit])]
  · rw [if_neg e, atKey_put_other (by intro h; injection h with _ h; exact e h), h.at_]
def run (id d : Int) : List Int := (List.range (d.toNat + 1)).map (fun j : Nat => id + (j : Int))
theorem run_len (id d : Int) : (run id d).length = d.toNat + 1 := by simp [run]
def idsAt (L : Keys) (f : Int → Int) (t : ByteArray) : List Int := if (fnd L t).2 = true then run (fnd L t).1 (f (fnd L t).1) else []
def hitsN (L : Keys) (t : ByteArray) : List (Int × Int) := hitsTo L (bs t) (bs t).length
def listsAt (L : Keys) (f : Int → Int) (t : ByteArray) : List (List Int) := (hitsN L t).map (fun h => run h.1 (f h.1))
def callsAt (f : Int → Int) (l : List (Int × Int)) : List PB.S93 := l.flatMap (fun h => (run h.1 (f h.1)).map (fun d => ⟨d, h.2⟩))
end Go.Proofs.YtaejkbjepbifcabGreatDoor.Da
namespace Go.Proofs.YtaejkbjepbifcabGreatDoor.Da
open Go.RowKit Go.Maps Go.ChangeShapes Go.WideMaps Go.Proofs.YtaejkbjepbifcabGreatDoorW.PrintWords
set_option linter.unusedVariables false
set_option linter.unusedSimpArgs false
theorem key_i32 : Keyed Tryz.prog 21 := int_keyed Tryz.underlying21
theorem zero_i32 (w : World) : (zeroValue 21).run Tryz.prog w = .ok (.int .i32 0) w := by kernel_rfl
theorem lit_eq {a b : Int} (h : (DataW.lit (.int .i32 a) : DataW Unit) = .lit (.int .i32 b)) : a = b := by injection h with h; injection h
theorem info_str : (Tryz.prog.info? 9).map (fun i => (i.zero, i.size, i.bytes)) = some (some (.string ByteArray.empty), 1, 16) := by kernel_rfl
abbrev OMap (w : World) (mb n : Nat) (D : DataW Unit) : Prop := w.ownsMap Tryz.prog 21 (plainElem (H := Unit) Tryz.prog 21) mb n D
def DupM (w : World) (mb : Nat) (f : Int → Int) : Prop := ∃ n D, n ≤ 1000000 ∧ OMap w mb n D ∧ DupD D f ∧ ∀ k, 0 ≤ f k ∧ f k ≤ 1000000
theorem own_mapD {w w' : World} {mb n : Nat} {D : DataW Unit} (h : OMap w mb n D) (e : w'.heap[mb]? = w.heap[mb]?) : OMap w' mb n D := by
  obtain ⟨es, clock, hb, F, hs, hD⟩ := h
  exact ⟨es, clock, e.trans hb, F, hs, hD⟩
theorem DupM.step {w w' : World} {mb : Nat} {f : Int → Int} (h : DupM w mb f) (e : w'.heap[mb]? = w.heap[mb]?) : DupM w' mb f := by
  obtain ⟨n, D, h1, h2, h3⟩ := h
  exact ⟨n, D, h1, own_mapD h2 e, h3⟩
theorem DupM.lt {w : World} {mb : Nat} {f : Int → Int} (h : DupM w mb f) : mb < w.heap.size := by
  obtain ⟨n, D, h1, h2, h3⟩ := h
  exact h2.lt
theorem DupM.look {w : World} {mb : Nat} {f : Int → Int} (h : DupM w mb f) (k : Int) (hk : 0 ≤ k ∧ k ≤ 2147483647) : (Instr.lookup 51 (.map (some mb)) (.int .i32 k) false).run Tryz.prog w = .ok (.int .i32 (f k)) w := by
  obtain ⟨n, D, h1, h2, h3, h4⟩ := h
  have hkey : keyOf Tryz.prog 21 (.int .i32 k) = some (.int .i32 k) := keyOf_int_mk Tryz.underlying21 (Go.WalkArith.wf_i32 (by omega))
  obtain ⟨c, hrun, hat, hwc⟩ := h2.lookup_int key_i32 Tryz.underlying51 Tryz.underlying21 (zero_i32 w) hkey
  rw [h3.at_] at hat
  rw [hrun]
  by_cases e : f k = 0
  · rw [if_pos e] at hat
    rw [← lit_eq hat, e]
  · rw [if_neg e] at hat
    rw [← lit_eq hat]
structure BxS (W w : World) (rb mb xb pb B : Nat) (s : IxS) (i : Nat) (v5 v6 : Value) : Prop where
  kp : Kp W w (fun _ => False)
  ge : W.heap.size ≤ rb ∧ rb < mb ∧ mb < xb ∧ xb < B ∧ B ≤ pb ∧ pb < w.heap.size
  res : w.heap[rb]? = some (.cells #[.slice none 0 0, .map none] 53 (0, 0))
  idx : w.heap[xb]? = some (.cells #[.slice none 0 0, .map (some mb)] 53 (0, 0))
  prv : w.heap[pb]? = some (.cells #[.int .i64 s.pn, .string s.pw] 98 (0, 0))
  mp : ∃ D, OMap w mb i D ∧ DupD D s.dup
  r5 : Kd.R Kd.string 9 w B (fun k => k ≠ pb ∧ some k ≠ v6.ownBlock) v5 s.keys
  r6 : Kd.R (Kd.int .i64) 3 w B (fun k => k ≠ pb ∧ some k ≠ v5.ownBlock) v6 s.ids
section
variable {W w w' : World} {rb mb xb pb B : Nat} {s : IxS} {i : Nat} {v5 v6 : Value}
theorem BxS.cells (h : BxS W w rb mb xb pb B s i v5 v6) : w.cell? ⟨pb, 0, none⟩ = some (.int .i64 s.pn) ∧ w.cell? ⟨pb, 1, none⟩ = some (.string s.pw) ∧ w.frozen? ⟨pb, 0, none⟩ = false ∧ w.frozen? ⟨pb, 1, none⟩ = false ∧ w.cell? ⟨xb, 0, none⟩ = some (.slice none 0 0) ∧ w.cell? ⟨xb, 1, none⟩ = some (.map (some mb)) ∧ w.frozen? ⟨xb, 0, none⟩ = false ∧ w.frozen? ⟨rb, 0, none⟩ = false := by
  have h1 := h.prv
  have h2 := h.idx
  have h3 := h.res
  unfold World.cell? World.frozen?
  simp [h1, h2, h3]
theorem BxS.look (h : BxS W w rb mb xb pb B s i v5 v6) (hp : 0 ≤ s.pn ∧ s.pn ≤ 2147483647) : (Instr.lookup 51 (.map (some mb)) (.int .i32 s.pn) false).run Tryz.prog w = .ok (.int .i32 (s.dup s.pn)) w := by
  obtain ⟨D, h2, h3⟩ := h.mp
  have hkey : keyOf Tryz.prog 21 (.int .i32 s.pn) = some (.int .i32 s.pn) := keyOf_int_mk Tryz.underlying21 (Go.WalkArith.wf_i32 (by omega))
  obtain ⟨c, hrun, hat, hwc⟩ := h2.lookup_int key_i32 Tryz.underlying51 Tryz.underlying21 (zero_i32 w) hkey
  rw [h3.at_] at hat
  rw [hrun]
  by_cases e : s.dup s.pn = 0
  · rw [if_pos e] at hat
    rw [← lit_eq hat, e]
  · rw [if_neg e] at hat
    rw [← lit_eq hat]
theorem BxS.kept (h : BxS W w rb mb xb pb B s i v5 v6) (k : Kp w w' (fun _ => False)) : BxS W w' rb mb xb pb B s i v5 v6 := by
  obtain ⟨g1, g2, g3, g4, g5, g6⟩ := h.ge
  obtain ⟨D, m1, m2⟩ := h.mp
  exact ⟨(h.kp.trans k).mono (fun i _ h => by rcases h with h | h <;> exact h), ⟨g1, g2, g3, g4, g5, Nat.lt_of_lt_of_le g6 k.size⟩, (k.old _ (by omega) id).trans h.res, (k.old _ (by omega) id).trans h.idx, (k.old _ (by omega) id).trans h.prv, ⟨D, own_mapD m1 (k.old _ (by omega) id), m2⟩, Kd.R_step h.r5 (fun j _ hl => k.old j hl id), Kd.R_step h.r6 (fun j _ hl => k.old j hl id)⟩
theorem BxS.up (h : BxS W w rb mb xb pb B s i v5 v6) : BxS W w rb mb xb pb B s (i + 1) v5 v6 := by
  obtain ⟨D, m1, m2⟩ := h.mp
  exact ⟨h.kp, h.ge, h.res, h.idx, h.prv, ⟨D, m1.mono (Nat.le_succ _), m2⟩, h.r5, h.r6⟩
theorem BxS.again2 {D : DataW Unit} (h : BxS W w rb mb xb pb B s i v5 v6) (h0 : 0 ≤ s.dup s.pn) (m2 : DupD D s.dup) (hm : OMap w' mb (i + 1) (D.put (.int .i32 s.pn) (.lit (.int .i32 (s.dup s.pn + 1))))) (hg : w.grownBy w' (some mb)) : BxS W w' rb mb xb pb B (ixAgain s) (i + 1) v5 v6 := by
  obtain ⟨g1, g2, g3, g4, g5, g6⟩ := h.ge
  have hb : ∀ j, j < w.heap.size → j ≠ mb → w'.heap[j]? = w.heap[j]? := fun j hj hn => hg.block j hj (fun e => hn (Option.some.inj e))
  refine ⟨kp_grown h.kp hg (fun j e => by cases e; omega), ⟨g1, g2, g3, g4, g5, Nat.lt_of_lt_of_le g6 hg.size⟩, (hb _ (by omega) (by omega)).trans h.res, (hb _ (by omega) (by omega)).trans h.idx, (hb _ (by omega) (by omega)).trans h.prv, ⟨_, hm, m2.bump _ h0⟩, ?_, ?_⟩
  · exact Kd.R_mono (Kd.R_step (Kd.R_bound h.r5) (fun j hj hl => hb j hl (by have := hj.2.1; omega))) (fun _ hk => hk.1)
  · exact Kd.R_mono (Kd.R_step (Kd.R_bound h.r6) (fun j hj hl => hb j hl (by have := hj.2.1; omega))) (fun _ hk => hk.1)
theorem BxS.note (h : BxS W w rb mb xb pb B s i v5 v6) (n : Int) (t : ByteArray) : BxS W ((w.setCell ⟨pb, 0, none⟩ (.int .i64 n)).setCell ⟨pb, 1, none⟩ (.string t)) rb mb xb pb B ⟨s.keys, s.ids, n, t, s.dup⟩ i v5 v6 := by
  obtain ⟨g1, g2, g3, g4, g5, g6⟩ := h.ge
  obtain ⟨D, m1, m2⟩ := h.mp
  have e1 := setCell_heap (i := 0) (v := .int .i64 n) h.prv
  have hb : ∀ j, j ≠ pb → ((w.setCell ⟨pb, 0, none⟩ (.int .i64 n)).setCell ⟨pb, 1, none⟩ (.string t)).heap[j]? = w.heap[j]? := fun j hn => (Below.heap_setCell _ _ _ _ (by show j ≠ pb; exact hn)).trans (Below.heap_setCell _ _ _ _ (by show j ≠ pb; exact hn))
  refine ⟨(h.kp.setNew _ _ (by show _ ≤ pb; omega)).setNew _ _ (by show _ ≤ pb; omega), ⟨g1, g2, g3, g4, g5, by rw [size_setCell, size_setCell]; exact g6⟩, (hb _ (by omega)).trans h.res, (hb _ (by omega)).trans h.idx, ?_, ⟨D, own_mapD m1 (hb _ (by omega)), m2⟩, Kd.R_far (Kd.R_far h.r5 (fun k hk => hk.1) _) (fun k hk => hk.1) _, Kd.R_far (Kd.R_far h.r6 (fun k hk => hk.1) _) (fun k hk => hk.1) _⟩
  exact (setCell_heap e1).trans (by rfl)
structure BxD (W w w' : World) (rb mb xb g n : Nat) (f : Int → Int) : Prop where
  kp : Kp W w' (fun _ => False)
  k2 : Kp w w' (fun j => j = xb)
  ge : W.heap.size ≤ rb ∧ rb < mb ∧ mb < xb ∧ xb < w.heap.size
  res : w'.heap[rb]? = some (.cells #[.slice none 0 0, .map none] 53 (0, 0))
  idx : w'.heap[xb]? = some (.cells #[.slice (some ⟨g, 0, none⟩) n n, .map (some mb)] 53 (0, 0))
theorem BxS.done (h : BxS W w rb mb xb pb B s i v5 v6) (g n : Nat) : BxD W w (w.setCell ⟨xb, 0, none⟩ (.slice (some ⟨g, 0, none⟩) n n)) rb mb xb g n s.dup := by
  obtain ⟨g1, g2, g3, g4, g5, g6⟩ := h.ge
  exact ⟨h.kp.setNew _ _ (by show _ ≤ xb; omega), (Kp.self w _).setCell _ _ rfl, ⟨g1, g2, g3, by omega⟩, (Below.heap_setCell _ _ _ _ (by show rb ≠ xb; omega)).trans h.res, (setCell_heap h.idx).trans (by rfl)⟩
theorem BxD.cells {W w w' : World} {rb mb xb g n : Nat} {f : Int → Int} (h : BxD W w w' rb mb xb g n f) : w'.cell? ⟨xb, 0, none⟩ = some (.slice (some ⟨g, 0, none⟩) n n) ∧ w'.cell? ⟨xb, 1, none⟩ = some (.map (some mb)) ∧ w'.frozen? ⟨rb, 0, none⟩ = false ∧ w'.frozen? ⟨rb, 1, none⟩ = false ∧ w'.cell? ⟨rb, 0, none⟩ = some (.slice none 0 0) ∧ w'.cell? ⟨rb, 1, none⟩ = some (.map none) := by
  have h2 := h.idx
  have h3 := h.res
  unfold World.cell? World.frozen?
  simp [h2, h3]
theorem BxD.ret {W w w' : World} {rb mb xb g n : Nat} {f : Int → Int} (h : BxD W w w' rb mb xb g n f) : ((w'.setCell ⟨rb, 0, none⟩ (.slice (some ⟨g, 0, none⟩) n n)).setCell ⟨rb, 1, none⟩ (.map (some mb))).cell? ⟨rb, 0, none⟩ = some (.slice (some ⟨g, 0, none⟩) n n) ∧ ((w'.setCell ⟨rb, 0, none⟩ (.slice (some ⟨g, 0, none⟩) n n)).setCell ⟨rb, 1, none⟩ (.map (some mb))).cell? ⟨rb, 1, none⟩ = some (.map (some mb)) ∧ Kp W ((w'.setCell ⟨rb, 0, none⟩ (.slice (some ⟨g, 0, none⟩) n n)).setCell ⟨rb, 1, none⟩ (.map (some mb))) (fun _ => False) ∧ Kp w ((w'.setCell ⟨rb, 0, none⟩ (.slice (some ⟨g, 0, none⟩) n n)).setCell ⟨rb, 1, none⟩ (.map (some mb))) (fun j => j = xb ∨ j = rb) := by
  have e1 := setCell_heap (i := 0) (v := .slice (some ⟨g, 0, none⟩) n n) h.res
  have e2 := setCell_heap (i := 1) (v := .map (some mb)) e1
  obtain ⟨g1, g2, g3, g4⟩ := h.ge
  refine ⟨by unfold World.cell?; simp [e2], by unfold World.cell?; simp [e2], (h.kp.setNew _ _ g1).setNew _ _ g1, ?_⟩
  exact ((h.k2.mono (T := fun j => j = xb ∨ j = rb) (fun j _ hj => .inl hj)).setCell _ _ (.inr rfl)).setCell _ _ (.inr rfl)
theorem BxS.key {t : ByteArray} {va : Value} (h : BxS W w rb mb xb pb B s i v5 v6) (hr : Kd.R Kd.string 9 w' B (fun k => k ≠ pb ∧ some k ≠ v6.ownBlock) va (s.keys ++ [t])) (hg : w.grownBy w' v5.ownBlock) (hat : va.ownBlock = v5.ownBlock ∨ ∃ b, va.ownBlock = some b ∧ w.heap.size ≤ b) : BxS W w' rb mb xb pb B ⟨s.keys ++ [t], s.ids, s.pn, s.pw, s.dup⟩ i va v6 := by
  obtain ⟨g1, g2, g3, g4, g5, g6⟩ := h.ge
  obtain ⟨D, m1, m2⟩ := h.mp
  have hv : ∀ j, v5.ownBlock = some j → B ≤ j ∧ j ≠ pb := fun j e => ⟨Kd.R_base h.r5 j e, (h.r5.1 j e).1⟩
  have hb : ∀ j, j < w.heap.size → (j < B ∨ j = pb) → w'.heap[j]? = w.heap[j]? := fun j hj hn => hg.block j hj (fun e => by have := hv j e.symm; omega)
  exact ⟨kp_grown h.kp hg (fun j e => by have := hv j e; omega), ⟨g1, g2, g3, g4, g5, Nat.lt_of_lt_of_le g6 hg.size⟩, (hb _ (by omega) (by omega)).trans h.res, (hb _ (by omega) (by omega)).trans h.idx, (hb _ (by omega) (by omega)).trans h.prv, ⟨D, own_mapD m1 (hb _ (by omega) (by omega)), m2⟩, hr, Kd.R_after h.r6 hg hat⟩
theorem BxS.id {d : Int} {va : Value} (h : BxS W w rb mb xb pb B s i v5 v6) (hr : Kd.R (Kd.int .i64) 3 w' B (fun k => k ≠ pb ∧ some k ≠ v5.ownBlock) va (s.ids ++ [d])) (hg : w.grownBy w' v6.ownBlock) (hat : va.ownBlock = v6.ownBlock ∨ ∃ b, va.ownBlock = some b ∧ w.heap.size ≤ b) : BxS W w' rb mb xb pb B ⟨s.keys, s.ids ++ [d], s.pn, s.pw, s.dup⟩ i v5 va := by
  obtain ⟨g1, g2, g3, g4, g5, g6⟩ := h.ge
  obtain ⟨D, m1, m2⟩ := h.mp
  have hv : ∀ j, v6.ownBlock = some j → B ≤ j ∧ j ≠ pb := fun j e => ⟨Kd.R_base h.r6 j e, (h.r6.1 j e).1⟩
  have hb : ∀ j, j < w.heap.size → (j < B ∨ j = pb) → w'.heap[j]? = w.heap[j]? := fun j hj hn => hg.block j hj (fun e => by have := hv j e.symm; omega)
  exact ⟨kp_grown h.kp hg (fun j e => by have := hv j e; omega), ⟨g1, g2, g3, g4, g5, Nat.lt_of_lt_of_le g6 hg.size⟩, (hb _ (by omega) (by omega)).trans h.res, (hb _ (by omega) (by omega)).trans h.idx, (hb _ (by omega) (by omega)).trans h.prv, ⟨D, own_mapD m1 (hb _ (by omega) (by omega)), m2⟩, Kd.R_after h.r5 hg hat, hr⟩
end
structure BxA (W w : World) (rb mb xb : Nat) : Prop where
  kp : Kp W w (fun _ => False)
  ge : W.heap.size ≤ rb ∧ rb < mb ∧ mb < xb ∧ xb < w.heap.size
  res : w.heap[rb]? = some (.cells #[.slice none 0 0, .map none] 53 (0, 0))
  idx : w.heap[xb]? = some (.cells #[.slice none 0 0, .map (some mb)] 53 (0, 0))
  mp : OMap w mb 0 (.map [])
theorem bxa_start (W : World) : BxA W (((W.alloc (.cells #[.slice none 0 0, .map none] 53)).alloc (.map #[] 0)).alloc (.cells #[.slice none 0 0, .map (some (W.heap.size + 1))] 53)) W.heap.size (W.heap.size + 1) (W.heap.size + 1 + 1) := by
  have e1 : (W.alloc (.cells #[.slice none 0 0, .map none] 53)).heap.size = W.heap.size + 1 := Own.size_alloc _ _
  have e2 : ((W.alloc (.cells #[.slice none 0 0, .map none] 53)).alloc (.map #[] 0)).heap.size = W.heap.size + 1 + 1 := by rw [Own.size_alloc, e1]
  have m0 := World.ownsMap_made (W.alloc (.cells #[.slice none 0 0, .map none] 53)) Tryz.prog 21 (plainElem (H := Unit) Tryz.prog 21)
  rw [e1] at m0
  have b1 := below_alloc (Below.refl _ (W.alloc (.cells #[.slice none 0 0, .map none] 53))) (.map #[] 0)
  have b2 := below_alloc (Below.refl _ ((W.alloc (.cells #[.slice none 0 0, .map none] 53)).alloc (.map #[] 0))) (.cells #[.slice none 0 0, .map (some (W.heap.size + 1))] 53)
  refine ⟨(((Kp.self W _).alloc _).alloc _).alloc _, ⟨Nat.le_refl _, by omega, by omega, by rw [Own.size_alloc, e2]; omega⟩, ?_, by rw [← e2]; exact blk_new _ _, m0.alloc _⟩
  exact (b2.block _ (by omega)).trans ((b1.block _ (by omega)).trans (blk_new W _))
theorem BxA.drewN {W w : World} {rb mb xb : Nat} (h : BxA W w rb mb xb) (q : Nat) : BxA W (w.drewN q) rb mb xb := ⟨h.kp.drewN q, h.ge, h.res, h.idx, own_mapD h.mp rfl⟩
theorem room_row {α : Type} {enc : α → Value} {h1 : ∀ x, (enc x).oneCell' = true} {e : Nat} {w : World} {base g n : Nat} {cur : Array Value} {ok : Nat → Prop} (hb : w.heap[g]? = some (.cells cur e (0, 0))) (hs : cur.size = n) (hn : n ≤ maxLen) (hg : base ≤ g) (hok : ok g) : (Kd.scalar enc h1).R e w base ok (.slice (some ⟨g, 0, none⟩) 0 n) ([] : List α) :=
  Kd.R_of_own ⟨rfl, .inr ⟨g, n, cur, rfl, hg, hb, Nat.zero_le _, hn, by omega, by simp [encs]⟩⟩ (fun k hk => by cases hk; exact hok)
abbrev strZeros (n : Nat) : Obj := .cells (madeCells #[.string ByteArray.empty] n) 9 (0, 0)
theorem bxs_start {W w : World} {rb mb xb n : Nat} (h : BxA W w rb mb xb) (hn : n ≤ 1000000) : BxS W (((w.alloc (strZeros n)).alloc (intZeros n)).alloc (.cells #[.int .i64 0, .string ByteArray.empty] 98)) rb mb xb (w.heap.size + 1 + 1) w.heap.size ⟨[], [], 0, ByteArray.empty, fun _ => 0⟩ 0 (.slice (some ⟨w.heap.size, 0, none⟩) 0 n) (.slice (some ⟨w.heap.size + 1, 0, none⟩) 0 n) := by
  obtain ⟨g1, g2, g3, g4⟩ := h.ge
  have e1 : (w.alloc (strZeros n)).heap.size = w.heap.size + 1 := Own.size_alloc _ _
  have e2 : ((w.alloc (strZeros n)).alloc (intZeros n)).heap.size = w.heap.size + 1 + 1 := by rw [Own.size_alloc, e1]
  have b1 := below_alloc (Below.refl _ w) (strZeros n)
  have b2 := below_alloc (Below.refl _ (w.alloc (strZeros n))) (intZeros n)
  have b3 := below_alloc (Below.refl _ ((w.alloc (strZeros n)).alloc (intZeros n))) (.cells #[.int .i64 0, .string ByteArray.empty] 98)
  have old : ∀ j, j < w.heap.size → (((w.alloc (strZeros n)).alloc (intZeros n)).alloc (.cells #[.int .i64 0, .string ByteArray.empty] 98)).heap[j]? = w.heap[j]? := fun j hj => (b3.block _ (by omega)).trans ((b2.block _ (by omega)).trans (b1.block _ hj))
  refine ⟨((h.kp.alloc _).alloc _).alloc _, ⟨g1, g2, g3, g4, by omega, by rw [Own.size_alloc, e2]; omega⟩, (old _ (by omega)).trans h.res, (old _ g4).trans h.idx, by rw [← e2]; exact blk_new _ _, ⟨_, own_mapD h.mp (old _ (by omega)), dup_start⟩, ?_, ?_⟩
  · exact room_row ((b3.block _ (by omega)).trans ((b2.block _ (by omega)).trans (blk_new w _))) (by rw [size_madeCells]) (by unfold maxLen; omega) (Nat.le_refl _) ⟨by omega, fun e => by have e2 : w.heap.size = w.heap.size + 1 := Option.some.inj e; omega⟩
  · refine room_row (g := w.heap.size + 1) ((b3.block _ (by omega)).trans (by rw [← e1]; exact blk_new _ _)) (by rw [size_madeCells]) (by unfold maxLen; omega) (by omega) ⟨by omega, fun e => by have e2 : w.heap.size + 1 = w.heap.size := Option.some.inj e; omega⟩
theorem make_room_ints (W : World) (n : Nat) (hn : n ≤ 1073741824) : (Instr.makeSlice 38 (.int .i64 0) (.int .i64 (n : Int))).run Tryz.prog W = .ok (.slice (some ⟨W.heap.size, 0, none⟩) 0 n) (W.alloc (intZeros n)) := by
  obtain ⟨i, hi, hz⟩ := Option.map_eq_some_iff.1 info_int
  simp only [Prod.mk.injEq] at hz
  obtain ⟨h1, h2, h3⟩ := hz
  have := run_make (P := Tryz.prog) W 38 3 i _ Tryz.underlying38 hi h1 .i64 .i64 0 (n : Int) (by omega) (by omega) (by rw [h3]; omega) (by omega)
  rw [this, h2]
  simp only [Int.toNat_natCast, Nat.mul_one]
  rfl
theorem make_room_strs (W : World) (n : Nat) (hn : n ≤ 1073741824) : (Instr.makeSlice 22 (.int .i64 0) (.int .i64 (n : Int))).run Tryz.prog W = .ok (.slice (some ⟨W.heap.size, 0, none⟩) 0 n) (W.alloc (strZeros n)) := by
  obtain ⟨i, hi, hz⟩ := Option.map_eq_some_iff.1 info_str
  simp only [Prod.mk.injEq] at hz
  obtain ⟨h1, h2, h3⟩ := hz
  have := run_make (P := Tryz.prog) W 22 9 i _ Tryz.underlying22 hi h1 .i64 .i64 0 (n : Int) (by omega) (by omega) (by rw [h3]; omega) (by omega)
  rw [this, h2]
  simp only [Int.toNat_natCast, Nat.mul_one]
  rfl
end Go.Proofs.YtaejkbjepbifcabGreatDoor.Da
namespace Go.Proofs.YtaejkbjepbifcabGreatDoor.Da
open Go.RowKit Go.Maps Go.ChangeShapes Go.WideMaps Go.Proofs.YtaejkbjepbifcabGreatDoorW.PrintWords
set_option linter.unusedVariables false
set_option linter.unusedSimpArgs false
structure IxW (w : World) (g : Nat) (s : DA) (mb : Nat) (L : Keys) (f : Int → Int) : Prop where
  arr : Arr w g s
  good : Good s 0 L
  pos : 0 < s.n
  dup : DupM w mb f
theorem IxW.kept {w w' : World} {g mb : Nat} {s : DA} {L : Keys} {f : Int → Int} {S : Nat → Prop} (h : IxW w g s mb L f) (k : Kp w w' S) (h1 : ¬ S g) (h2 : ¬ S mb) : IxW w' g s mb L f :=
  ⟨h.arr.step (k.old g h.arr.lt h1), h.good, h.pos, h.dup.step (k.old mb h.dup.lt h2)⟩
def IxE (W w' : World) (L : Keys) (f : Int → Int) (e : Ending) : Prop := ∃ g s mb, e = .returned (.tuple #[.agg #[.slice (some ⟨g, 0, none⟩) s.n s.n, .map (some mb)], .nilIface]) ∧ IxW w' g s mb L f ∧ W.heap.size ≤ g ∧ W.heap.size ≤ mb ∧ Kp W w' (fun _ => False)
set_option maxHeartbeats 16000000 in
set_option maxRecDepth 100000 in
theorem bix_calls (W : World) (A : Option Addr) (c k k2 : Nat) (ws : List ByteArray) (hr : Kd.C Kd.string W A ws.length ws) (hc : ws.length ≤ c) (hs : PB.slices_IsSorted_string_string.f k ws = some true) (hup : ∀ j, j + 1 < ws.length → Op.bytesLess (ws.getD (j + 1) ByteArray.empty).toList (ws.getD j ByteArray.empty).toList = false) (hs2 : PB.slices_IsSorted_string_string.f k2 (ixTo ws ws.length).keys = some true) (K_ : KeysOk (ixTo ws ws.length).keys (ixTo ws ws.length).ids) (hfew : ws.length ≤ 1000000) (hsz : ∀ t ∈ ws, t.size ≤ 1000000000) :
    Calls Tryz.prog 26 #[.slice A ws.length c] W fun e w' => IxE W w' (keysAll (ixTo ws ws.length).keys (ixTo ws ws.length).ids) (ixTo ws ws.length).dup e := by
  have HR := Aside0.mk hr
  have HC := Aside0.mk hc
  have HSO := Aside0.mk hs
  have HUP := Aside0.mk hup
  have HS2 := Aside0.mk hs2
  have HK := Aside0.mk K_
  have HSZ := Aside0.mk hsz
  have hmm := @run_makeMap Tryz.prog
  clear hr hc hs hup hs2 K_ hsz
  go_enter Tryz.func26, Tryz.ntmps26
  have hA1 := bxa_start W
  go_upto_region 2 with fail
  obtain ⟨w1, hw1⟩ : ∃ w1, w1 = ((W.alloc (Obj.cells #[Value.slice none 0 0, Value.map none] 53)).alloc (Obj.map #[] 0)).alloc (Obj.cells #[Value.slice none 0 0, Value.map (some (W.heap.size + 1))] 53) := ⟨_, rfl⟩
  rw [← hw1] at hA1 ⊢
  obtain ⟨rb, hrb⟩ : ∃ rb, W.heap.size = rb := ⟨_, rfl⟩
  rw [hrb] at hA1 ⊢
  obtain ⟨mb, hmb⟩ : ∃ mb, rb + 1 = mb := ⟨_, rfl⟩
  rw [hmb] at hA1 ⊢
  obtain ⟨xb, hxb⟩ : ∃ xb, mb + 1 = xb := ⟨_, rfl⟩
  rw [hxb] at hA1 ⊢
  have HA1 := Aside0.mk hA1
  have HW := Aside0.mk hrb
  have HSC := Aside0.mk (PB.slices_IsSorted_string_string.calls k A c ws true w1 (Kd.C_below HR.out (kp_below hA1.kp)) HC.out HSO.out)
  clear hA1 hw1 hrb hmb hxb
  go_upto_region 4 with (go_at_call 47; refine HSC.out.mono ?_; rintro e_ w2 ⟨rfl, ⟨q2, rfl⟩⟩)
  obtain ⟨w2, hw2⟩ : ∃ w2, w2 = w1.drewN q2 := ⟨_, rfl⟩
  have hA2 := HA1.out.drewN q2
  rw [← hw2] at hA2 ⊢
  have hS := bxs_start hA2 hfew
  obtain ⟨Z1, hZ1⟩ : ∃ Z1, Z1 = strZeros ws.length := ⟨_, rfl⟩
  obtain ⟨Z2, hZ2⟩ : ∃ Z2, Z2 = intZeros ws.length := ⟨_, rfl⟩
  have hmks : ∀ w : World, (Instr.makeSlice 22 (.int .i64 0) (.int .i64 (ws.length : Int))).run Tryz.prog w = .ok (.slice (some ⟨w.heap.size, 0, none⟩) 0 ws.length) (w.alloc Z1) := fun w => by
    rw [hZ1]; exact make_room_strs w ws.length (by omega)
  have hmki : ∀ w : World, (Instr.makeSlice 38 (.int .i64 0) (.int .i64 (ws.length : Int))).run Tryz.prog w = .ok (.slice (some ⟨w.heap.size, 0, none⟩) 0 ws.length) (w.alloc Z2) := fun w => by
    rw [hZ2]; exact make_room_ints w ws.length (by omega)
  rw [← hZ1, ← hZ2] at hS
  have HA2 := Aside0.mk hA2
  have HS := Aside0.mk hS
  clear hA2 hS hZ1 hZ2 hw2
  go_upto_region 7 with fail
  obtain ⟨w3, hw3⟩ : ∃ w3, w3 = ((w2.alloc Z1).alloc Z2).alloc (Obj.cells #[Value.int IntKind.i64 0, Value.string { data := #[] }] 98) := ⟨_, rfl⟩
  have hS := HS.out
  rw [show ((w2.alloc Z1).alloc Z2).alloc (Obj.cells #[Value.int IntKind.i64 0, Value.string ByteArray.empty] 98) = w3 from hw3.symm] at hS
  rw [← hw3]
  obtain ⟨B, hB⟩ : ∃ B, w2.heap.size = B := ⟨_, rfl⟩
  rw [hB] at hS ⊢
  obtain ⟨pb, hpb⟩ : ∃ pb, B + 1 + 1 = pb := ⟨_, rfl⟩
  rw [hpb] at hS ⊢
  have HS0 := Aside0.mk hS
  clear hw3 hS hB hpb HS hmks hmki HSC HA1 HA2 hmm
  go_wp2_with fail
  go_loopg [5, 6, 8, 9, 28] ws.length (fun kq v5 v6 v8 v9 v28 w' => ∃ (i : Nat), v28 = .int .i64 (i : Int) ∧ Aside0 (i + kq = ws.length) ∧ Aside0 (BxS W w' rb mb xb pb B (ixTo ws i) i v5 v6))
  case atStart => exact ⟨0, rfl, ⟨by omega⟩, HS0⟩
  case round =>
    clear HS0
    obtain ⟨i, rfl, HI, HS⟩ := hrel
    have hi := HI.out
    by_cases hil : i < ws.length
    · have hiz : (i : Int) < (ws.length : Int) := by omega
      obtain ⟨ad, hA, hcell⟩ := str_cell HR.out i hil
      subst hA
      have hcj : wr.cell? (ad.add i) = some (.string (ws.getD i ByteArray.empty)) := (World.cell?_of_block (HS.out.kp.old _ (cell_lt hcell) id)).trans hcell
      have hI := ix_inv ws HUP.out i (by omega)
      have hN := ixTo_succ ws i
      obtain ⟨t, ht⟩ : ∃ t, ws.getD i ByteArray.empty = t := ⟨_, rfl⟩
      obtain ⟨s, hs⟩ : ∃ s, ixTo ws i = s := ⟨_, rfl⟩
      rw [ht] at hcj hN
      rw [hs] at hI hN HS
      have hts : t.size ≤ 1000000000 := by rw [← ht]; exact HSZ.out _ (getD_mem _ hil)
      obtain ⟨c0, c1, z0, z1, _, d1, _, _⟩ := HS.out.cells
      have hp := hI.pn
      have hlen := hI.len
      have hfk := hI.few
      have hdp := hI.dup s.pn
      have hw1 : wrap32 s.pn = s.pn := by unfold wrap32; omega
      have hw2 : wrap32 (s.dup s.pn + 1) = s.dup s.pn + 1 := by unfold wrap32; omega
      have hlk := HS.out.look ⟨by omega, by omega⟩
      have HN := Aside0.mk hN
      clear hcell ht hs hN hI
      cases gk with
      | zero => omega
      | succ kz =>
      by_cases he : t.toList = s.pw.toList
      · have heb : (t.toList == s.pw.toList) = true := by rw [he]; simp
        obtain ⟨D, m1, m2⟩ := HS.out.mp
        have hkey : keyOf Tryz.prog 21 (.int .i32 s.pn) = some (.int .i32 s.pn) := keyOf_int_mk Tryz.underlying21 (Go.WalkArith.wf_i32 (by omega))
        have hval : plainElem (H := Unit) Tryz.prog 21 (.int .i32 (s.dup s.pn + 1)) = some (.lit (.int .i32 (s.dup s.pn + 1)), []) := plainElem_int Tryz.underlying21 (Go.WalkArith.wf_i32 (by omega))
        have HE := Aside0.mk he
        have M1 := Aside0.mk m1
        have M2 := Aside0.mk m2
        have HKY := Aside0.mk hkey
        have HVL := Aside0.mk hval
        clear he m1 m2 hkey hval
        go_wp2_with (first | (at_mapUpdate; refine wpList_mapUpdate_own _ rfl _ _ _ 51 rfl 21 21 key_i32 Tryz.underlying51 _ mb i _ rfl M1.out (by unfold maxLen; omega) _ _ _ rfl rfl HKY.out _ _ HVL.out ?_; intro w5 hown hgrow; have HS2 := Aside0.mk (HS.out.again2 hdp.1 M2.out hown hgrow); clear hown hgrow))
        go_roundg kz
        case measure => omega
        case rel => exact ⟨i + 1, congrArg (Value.int .i64) (by omega), ⟨by omega⟩, ⟨by rw [HN.out]; unfold ixStep; rw [if_pos HE.out]; exact HS2.out⟩⟩
      · have heb : (t.toList == s.pw.toList) = false := by rw [beq_eq_false_iff_ne]; exact he
        have HE := Aside0.mk he
        clear he hlk
        go_upto_region 14 with fail
        obtain ⟨wr2, hwr2⟩ : ∃ wr2, wr2 = (wr.setCell ⟨pb, 0, none⟩ (.int .i64 (i : Int))).setCell ⟨pb, 1, none⟩ (.string t) := ⟨_, rfl⟩
        have hS2 := HS.out.note (i : Int) t
        rw [← hwr2] at hS2 ⊢
        have HS2 := Aside0.mk hS2
        clear hwr2 hS2 c0 c1 z0 z1 d1
        go_wp2_with (first | ((with_reducible refine gate_builtin (b := .append) (xs := #[.tmp 48, .tmp 50]) rfl ?_); at_builtin; refine Kd.R_append (Kd.string) (w0 := wr2) B rfl (.tmp 48) (.tmp 50) 22 9 (.string ByteArray.empty) 16 rfl Tryz.underlying22 info_str rfl (by decide) (by omega) u5 s.keys (t) [.string t] (fun k_ => k_ ≠ pb ∧ some k_ ≠ (u6 : Value).ownBlock) (fun _ => False) rfl rfl rfl (fun _ hk => hk.elim) (fun k_ hk => ?_) HS2.out.r5 (Below.refl _ _) ?_ (by omega) ?_; (exact ⟨by have := HS2.out.ge; omega, Kd.fresh' (Kd.R_lt HS2.out.r6) k_ hk⟩); (have := HS2.out.ge; omega); (intro va wa ho hb hg hat; have HS3 := Aside0.mk (HS2.out.key ho hg hat); clear ho hb hg hat)) | ((with_reducible refine gate_builtin (b := .append) (xs := #[.tmp 52, .tmp 54]) rfl ?_); at_builtin; refine Kd.R_append (Kd.int .i64) (w0 := wa) B rfl (.tmp 52) (.tmp 54) 38 3 (.int .i64 0) 8 rfl Tryz.underlying38 info_int rfl (by decide) (by omega) u6 s.ids ((i : Int)) [.int .i64 (i : Int)] (fun k_ => k_ ≠ pb ∧ some k_ ≠ (va : Value).ownBlock) (fun _ => False) rfl rfl rfl (fun _ hk => hk.elim) (fun k_ hk => ?_) HS3.out.r6 (Below.refl _ _) ?_ (by omega) ?_; (exact ⟨by have := HS3.out.ge; omega, Kd.fresh' (Kd.R_lt HS3.out.r5) k_ hk⟩); (have := HS3.out.ge; omega); (intro vb wb ho hb hg hat; have HS4 := Aside0.mk (HS3.out.id ho hg hat); clear ho hb hg hat)))
        go_roundg kz
        case measure => omega
        case rel => exact ⟨i + 1, congrArg (Value.int .i64) (by omega), ⟨by omega⟩, ⟨by rw [HN.out]; unfold ixStep; rw [if_neg HE.out]; exact HS4.out.up⟩⟩
    · have hiz : ¬ (i : Int) < (ws.length : Int) := by omega
      have hie : i = ws.length := by omega
      subst hie
      obtain ⟨s, hs⟩ : ∃ s, ixTo ws ws.length = s := ⟨_, rfl⟩
      have hI := ix_inv ws HUP.out ws.length (Nat.le_refl _)
      have hkk := HK.out
      have hss := HS2.out
      rw [hs] at hI HS hkk hss
      have HSE := Aside0.mk hs
      have HI2 := Aside0.mk hI
      have HK3 := Aside0.mk hkk
      obtain ⟨kb, kc, rfl, b1, b2, b3, b4⟩ := own_head HS.out.r5 hkk.ne
      obtain ⟨ib, ic, rfl, d1, d2, d3, d4⟩ := own_head HS.out.r6 (fun e => hkk.ne (List.length_eq_zero_iff.1 (by rw [← hkk.len, e]; rfl)))
      have hb := build_sorted wr kb 0 ib 0 kc ic k2 s.keys s.ids (src_of hkk b4 d4 b2 d2) b4 b3 hss hkk.ne hkk.ok hkk.asc hkk.tot
      have HBS := Aside0.mk hb
      have HIL := Aside0.mk hI.len
      clear hb hkk hss b4 d4 hI hs
      go_upto_region 20 with (go_at_call 48; refine HBS.out.mono ?_; rintro e_ w6 ⟨g, sd, rfl, hA, hG, hn, hg, hK⟩; have HA := Aside0.mk hA; have HG := Aside0.mk hG; have HSB := Aside0.mk (HS.out.kept hK); have HKB := Aside0.mk hK; clear hA hG hK)
      obtain ⟨_, _, _, _, x0, x1, y0, y1⟩ := HSB.out.cells
      go_upto_region 21 with fail
      obtain ⟨w7, hw7⟩ : ∃ w7, w7 = w6.setCell ⟨xb, 0, none⟩ (.slice (some ⟨g, 0, none⟩) sd.n sd.n) := ⟨_, rfl⟩
      have hD := HSB.out.done g sd.n
      rw [← hw7] at hD ⊢
      have HD := Aside0.mk hD
      obtain ⟨x0, x1, y0, y1, r0, r1⟩ := hD.cells
      clear hw7 hD
      go_wp2_with fail
      obtain ⟨w8, hw8⟩ : ∃ w8, w8 = (w7.setCell ⟨rb, 0, none⟩ (.slice (some ⟨g, 0, none⟩) sd.n sd.n)).setCell ⟨rb, 1, none⟩ (.map (some mb)) := ⟨_, rfl⟩
      obtain ⟨q0, q1, kp8, kq8⟩ := HD.out.ret
      rw [← hw8] at q0 q1 kp8 kq8 ⊢
      have HQ := Aside0.mk kq8
      have HP := Aside0.mk kp8
      clear hw8 kp8 kq8 x0 x1 y0 y1 r0 r1
      refine bodyPost_ret (v := .tuple #[.agg #[.slice (some ⟨g, 0, none⟩) sd.n sd.n, .map (some mb)], .nilIface]) ?_ rfl ?_
      · simp [results, Tryz.results26, go_sem, q0, q1]
      · rw [HSE.out]
        have hge := HSB.out.ge
        have hgw := HS.out.ge
        obtain ⟨D, m1, m2⟩ := HSB.out.mp
        have hIx : IxW w6 g sd mb (keysAll s.keys s.ids) s.dup := ⟨HA.out, HG.out, hn, _, D, hfew, m1, m2, fun k => by have := HI2.out.dup k; omega⟩
        exact ⟨g, sd, mb, rfl, hIx.kept HQ.out (by omega) (by omega), by omega, by omega, HP.out⟩
end Go.Proofs.YtaejkbjepbifcabGreatDoor.Da
namespace Go.Proofs.YtaejkbjepbifcabGreatDoor.Da
open Go.RowKit Go.Maps Go.ChangeShapes Go.WideMaps Go.Proofs.YtaejkbjepbifcabGreatDoorW.PrintWords
set_option linter.unusedVariables false
set_option linter.unusedSimpArgs false
def KB (L : Keys) : Prop := ∀ x ∈ L, 0 ≤ x.2 ∧ x.2 ≤ 1000000
theorem KB.subw {L : Keys} (h : KB L) : ∀ w, KB (subw L w)
  | [] => h
  | c :: w => by
    refine KB.subw (L := sub L c) ?_ w
    intro x hx
    obtain ⟨a, ha, hs⟩ := List.mem_filterMap.1 hx
    obtain ⟨k, v⟩ := a
    unfold subk at hs
    have := h _ ha
    cases k with
    | nil => cases hs
    | cons d k =>
      simp only at hs
      split at hs
      · injection hs with hs; subst hs; exact this
      · cases hs
theorem KB.here {L : Keys} (h : KB L) {v : Int} (e : here L = some v) : 0 ≤ v ∧ v ≤ 1000000 := by
  unfold Da.here at e
  obtain ⟨x, hx, rfl⟩ := Option.map_eq_some_iff.1 e
  exact h x (List.mem_of_find?_eq_some hx)
theorem KB.fnd {L : Keys} (h : KB L) (t : ByteArray) : 0 ≤ (fnd L t).1 ∧ (fnd L t).1 ≤ 1000000 := by
  unfold Da.fnd found
  simp only
  split
  · simp
  · cases e : Da.here (Da.subw L (bs t)) with
    | none => simp
    | some v => exact (h.subw _).here e
theorem KB.hits {L : Keys} (h : KB L) (w : List Int) : ∀ n, ∀ x ∈ hitsTo L w n, (0 ≤ x.1 ∧ x.1 ≤ 1000000) ∧ 1 ≤ x.2 ∧ x.2 ≤ (n : Int)
  | 0, x, hx => by cases hx
  | n + 1, x, hx => by
    unfold hitsTo at hx
    rcases List.mem_append.1 hx with hx | hx
    · have := KB.hits h w n x hx
      exact ⟨this.1, this.2.1, by omega⟩
    · cases e : hitAt L w n with
      | none => rw [e] at hx; cases hx
      | some v =>
        rw [e] at hx
        have hx : x ∈ [(v, (n : Int) + 1)] := hx
        rw [List.mem_singleton.1 hx]
        exact ⟨(h.subw _).here e, by show 1 ≤ (n : Int) + 1; omega, by show (n : Int) + 1 ≤ _; omega⟩
theorem kb_all {ss : List ByteArray} {ds : List Int} (hl : ds.length = ss.length) (h : ∀ d ∈ ds, 0 ≤ d ∧ d ≤ 1000000) : KB (keysAll ss ds) := by
  intro x hx
  obtain ⟨z, hz, rfl⟩ := List.mem_map.1 hx
  exact h _ (getD_mem 0 (by rw [hl]; exact List.mem_range.1 hz))
theorem make_ints32 (W : World) (n : Nat) (hn : n ≤ 1073741824) : (Instr.makeSlice 38 (.int .i32 (n : Int)) (.int .i32 (n : Int))).run Tryz.prog W = .ok (.slice (some ⟨W.heap.size, 0, none⟩) n n) (W.alloc (intZeros n)) := by
  obtain ⟨i, hi, hz⟩ := Option.map_eq_some_iff.1 info_int
  simp only [Prod.mk.injEq] at hz
  obtain ⟨h1, h2, h3⟩ := hz
  have := run_make (P := Tryz.prog) W 38 3 i _ Tryz.underlying38 hi h1 .i32 .i32 (n : Int) (n : Int) (by omega) (by omega) (by rw [h3]; omega) (by omega)
  rw [this, h2]
  simp only [Int.toNat_natCast, Nat.mul_one]
  rfl
def filled (id : Int) (n i : Nat) : List Int := (List.range i).map (fun j : Nat => id + (j : Int)) ++ List.replicate (n - i) 0
theorem filled_len {id : Int} {n i : Nat} (h : i ≤ n) : (filled id n i).length = n := by simp [filled]; omega
theorem filled_set {id : Int} {n i : Nat} (h : i < n) : (filled id n i).set i (id + (i : Int)) = filled id n (i + 1) := by
  unfold filled
  obtain ⟨m, rfl⟩ : ∃ m, n = i + 1 + m := ⟨n - (i + 1), by omega⟩
  have e1 : i + 1 + m - i = m + 1 := by omega
  have e2 : i + 1 + m - (i + 1) = m := by omega
  rw [e1, e2, List.set_append_right _ _ (by simp)]
  simp only [List.length_map, List.length_range, Nat.sub_self, List.replicate_succ, List.set_cons_zero]
  rw [List.range_succ, List.map_append, List.append_assoc]
  rfl
theorem filled_all (id : Int) (d : Int) (n : Nat) (h : n = d.toNat + 1) : filled id n n = run id d := by
  unfold filled run
  rw [h, Nat.sub_self]
  simp
theorem new_row (w : World) (n : Nat) (hn : n ≤ 1000000000) (base : Nat) (hb : base ≤ w.heap.size) (ok : Nat → Prop) (hok : ok w.heap.size) : Kd.R (Kd.int .i64) 3 (w.alloc (intZeros n)) base ok (.slice (some ⟨w.heap.size, 0, none⟩) n n) (List.replicate n 0) := by
  refine Kd.R_of_own (enc := Value.int .i64) ?_ (fun k hk => by cases hk; exact hok)
  rw [List.length_replicate]
  refine ⟨by simp [encs], .inr ⟨w.heap.size, n, _, rfl, hb, blk_new w _, Nat.le_refl _, by unfold maxLen; omega, by rw [size_madeCells, Nat.mul_one], ?_⟩⟩
  rw [toList_madeCells_one]
  simp [encs]
structure FilS (W w : World) (bb : Nat) (id : Int) (n i : Nat) : Prop where
  le : i ≤ n
  ge : W.heap.size ≤ bb
  below : Below W.heap.size W w
  r : Kd.R (Kd.int .i64) 3 w W.heap.size (fun k => k = bb) (.slice (some ⟨bb, 0, none⟩) n n) (filled id n i)
theorem fils_start {W w : World} (hb : Below W.heap.size W w) (id : Int) (n : Nat) (hn : n ≤ 1000000000) : FilS W (w.alloc (intZeros n)) w.heap.size id n 0 :=
  ⟨Nat.zero_le _, hb.size, below_alloc hb _, new_row w n hn W.heap.size hb.size _ rfl⟩
theorem FilS.facts {W w : World} {bb n i : Nat} {id : Int} (h : FilS W w bb id n i) (hi : i < n) : (∃ v, w.cell? ⟨bb, i, none⟩ = some v) ∧ w.frozen? ⟨bb, i, none⟩ = false := by
  have ho := Kd.own_of_R h.r
  rcases ho.2 with ⟨h1, _⟩ | ⟨g, cap, cur, h1, h2, h3, h4, h5, h6, h7⟩
  · cases h1
  · injection h1 with e1 e2 e3
    injection e1 with e1
    injection e1 with e1
    subst e1
    have hl := filled_len (id := id) h.le
    constructor
    · unfold World.cell?
      have : i < cur.size := by omega
      simp [h3, this]
    · unfold World.frozen?; simp [h3]
theorem FilS.put {W w : World} {bb n i : Nat} {id : Int} (h : FilS W w bb id n i) (hi : i < n) : FilS W (w.setCell ⟨bb, i, none⟩ (.int .i64 (id + (i : Int)))) bb id n (i + 1) := by
  refine ⟨hi, h.ge, h.below.setCell h.ge _, ?_⟩
  rw [← filled_set hi]
  have := Kd.R_putn h.r (i : Int) (id + (i : Int))
  rw [Int.toNat_natCast] at this
  exact this
set_option maxHeartbeats 16000000 in
set_option maxRecDepth 100000 in
theorem isearch_calls (W : World) (g mb : Nat) (s : DA) (L : Keys) (f : Int → Int) (t : ByteArray) (X : IxW W g s mb L f) (KB_ : KB L) (C_ : Cln t) (hsz : t.size ≤ 1000000000) :
    Calls Tryz.prog 40 #[.agg #[.slice (some ⟨g, 0, none⟩) s.n s.n, .map (some mb)], .string t] W fun e w' => ∃ v, e = .returned v ∧ Kd.R (Kd.int .i64) 3 w' W.heap.size (fun _ => True) v (idsAt L f t) ∧ Below W.heap.size W w' := by
  have HX := Aside0.mk X
  have HKB := Aside0.mk KB_
  have C := Aside0.mk C_
  clear X KB_ C_
  go_enter Tryz.func40, Tryz.ntmps40
  go_upto_region 1 with fail
  obtain ⟨w1, hw1, hk1, bx⟩ : ∃ w1, w1 = W.alloc (.cells #[.slice (some ⟨g, 0, none⟩) s.n s.n, .map (some mb)] 53) ∧ Kp W w1 (fun _ => False) ∧ w1.heap[W.heap.size]? = some (.cells #[.slice (some ⟨g, 0, none⟩) s.n s.n, .map (some mb)] 53 (0, 0)) := ⟨_, rfl, (Kp.self W _).alloc _, blk_new _ _⟩
  rw [← hw1]
  obtain ⟨xb, hxb⟩ : ∃ xb, W.heap.size = xb := ⟨_, rfl⟩
  rw [hxb] at bx ⊢
  have HXB := Aside0.mk hxb
  have HX1 := Aside0.mk (HX.out.kept hk1 id id)
  have HK1 := Aside0.mk hk1
  have HF := Aside0.mk (find_calls w1 g s L t HX1.out.arr HX1.out.good C.out hsz HX1.out.pos)
  have x0 : w1.cell? ⟨xb, 0, none⟩ = some (.slice (some ⟨g, 0, none⟩) s.n s.n) := by unfold World.cell?; simp [bx]
  have HBX := Aside0.mk bx
  obtain ⟨iv, hid⟩ : ∃ iv, (fnd L t).1 = iv := ⟨_, rfl⟩
  have hbd := HKB.out.fnd t
  have hfd := HF.out
  unfold FndE at hfd
  have HIA : Aside0 (idsAt L f t = if (fnd L t).2 = true then run iv (f iv) else []) := ⟨by rw [← hid]; rfl⟩
  rw [hid] at hbd hfd
  obtain ⟨ok, hok⟩ : ∃ ok, (fnd L t).2 = ok := ⟨_, rfl⟩
  rw [hok] at HIA hfd
  have HFD := Aside0.mk hfd
  clear hw1 hk1 bx hxb hid hok hfd HF
  go_upto_region 2 with (go_at_call 61; refine HFD.out.mono ?_; rintro e_ w2 ⟨rfl, hB⟩; have HB2 := Aside0.mk hB; have HX2 := Aside0.mk (HX1.out.kept (Kp.below (S := fun _ => False) hB) id id); have x1 : w2.cell? ⟨xb, 1, none⟩ = some (.map (some mb)) := (by have hbx := (hB.block xb (Array.getElem?_eq_some_iff.1 HBX.out).1).trans HBX.out; unfold World.cell?; simp [hbx]); clear hB)
  cases ok with
  | false =>
    go_wp2_with fail
    refine bodyPost_ret (v := .slice none 0 0) (by simp [results, Tryz.results40, go_sem]) rfl ⟨_, rfl, ?_, below_step (kp_below HK1.out) HB2.out⟩
    rw [HIA.out]
    exact Kd.R_nil _ _ _ _ _
  | true =>
    have hdb : 0 ≤ f iv ∧ f iv ≤ 1000000 := by obtain ⟨_, _, _, _, _, h⟩ := HX2.out.dup; exact h iv
    have hlk := HX2.out.dup.look iv ⟨by omega, by omega⟩
    have hw1 : wrap32 iv = iv := by unfold wrap32; omega
    have hw2 : wrap32 (1 + f iv) = 1 + f iv := by unfold wrap32; omega
    obtain ⟨n, hn⟩ : ∃ n, n = (f iv).toNat + 1 := ⟨_, rfl⟩
    have hnz : (n : Int) = 1 + f iv := by omega
    have hnb : n ≤ 1000001 := by omega
    obtain ⟨Z, hZ⟩ : ∃ Z, Z = intZeros n := ⟨_, rfl⟩
    have hmk : ∀ w : World, (Instr.makeSlice 38 (.int .i32 (1 + f iv)) (.int .i32 (1 + f iv))).run Tryz.prog w = .ok (.slice (some ⟨w.heap.size, 0, none⟩) n n) (w.alloc Z) := fun w => by
      rw [hZ, ← hnz]; exact make_ints32 w n (by omega)
    have hfs := fils_start (below_step (kp_below HK1.out) HB2.out) iv n (by omega)
    rw [← hZ] at hfs
    have HFS := Aside0.mk hfs
    have HN := Aside0.mk hn
    clear hfs hn hZ hnz
    go_upto_region 6 with fail
    obtain ⟨w3, hw3⟩ : ∃ w3, w3 = w2.alloc Z := ⟨_, rfl⟩
    obtain ⟨bb, hbb⟩ : ∃ bb, w2.heap.size = bb := ⟨_, rfl⟩
    have hfs := HFS.out
    rw [← hw3, hbb] at hfs
    rw [← hw3, hbb]
    have HS0 := Aside0.mk hfs
    clear hfs hw3 hbb HFS hlk x1 hmk
    go_wp2_with fail
    go_loopg [9] n (fun kq v9 w' => ∃ (i : Nat), v9 = .int .i64 (i : Int) ∧ Aside0 (i + kq = n) ∧ Aside0 (FilS W w' bb iv n i))
    case atStart => exact ⟨0, rfl, ⟨by omega⟩, HS0⟩
    case round =>
      clear HS0
      obtain ⟨i, rfl, HI, HS⟩ := hrel
      have hi := HI.out
      by_cases hil : i < n
      · have hiz : (i : Int) < (n : Int) := by omega
        obtain ⟨⟨v, hc⟩, hf⟩ := HS.out.facts hil
        have hw3 : wrap64 (iv + (i : Int)) = iv + (i : Int) := by unfold wrap64; omega
        cases gk with
        | zero => omega
        | succ kz =>
        go_wp2_with fail
        go_roundg kz
        case measure => omega
        case rel => exact ⟨i + 1, congrArg (Value.int .i64) (by omega), ⟨by omega⟩, ⟨HS.out.put hil⟩⟩
      · have hiz : ¬ (i : Int) < (n : Int) := by omega
        have hie : i = n := by omega
        subst hie
        go_wp2_with fail
        refine bodyPost_ret (v := .slice (some ⟨bb, 0, none⟩) i i) (by simp [results, Tryz.results40, go_sem]) rfl ⟨_, rfl, ?_, HS.out.below⟩
        have e9 := HIA.out
        simp only [if_true] at e9
        rw [e9, ← filled_all iv (f iv) i HN.out]
        exact Kd.R_mono HS.out.r (fun _ _ => trivial)
end Go.Proofs.YtaejkbjepbifcabGreatDoor.Da
namespace Go.Proofs.YtaejkbjepbifcabGreatDoor.Da
open Go.RowKit Go.Maps Go.ChangeShapes Go.WideMaps Go.Proofs.YtaejkbjepbifcabGreatDoorW.PrintWords
set_option linter.unusedVariables false
set_option linter.unusedSimpArgs false
theorem info_ints : (Tryz.prog.info? 38).map (fun i => (i.zero, i.size, i.bytes)) = some (some (.slice none 0 0), 1, 24) := by kernel_rfl
def IcpE (W w' : World) (L : Keys) (f : Int → Int) (t : ByteArray) (e : Ending) : Prop := ∃ v1 v2 : Value, e = .returned (.tuple #[v1, v2]) ∧ Kd.R (Kd.int .i64) 3 w' W.heap.size (fun _ => True) v1 ((hitsN L t).map (·.2)) ∧ Kd.R (Kd.slice 3 (Kd.int .i64)) 38 w' W.heap.size (fun _ => True) v2 (listsAt L f t) ∧ Below W.heap.size W w'
structure LisS (W w : World) (v : Value) (l : List (List Int)) : Prop where
  below : Below W.heap.size W w
  r : Kd.R (Kd.slice 3 (Kd.int .i64)) 38 w W.heap.size (fun _ => True) v l
theorem listsAt_take (L : Keys) (f : Int → Int) (t : ByteArray) (i : Nat) (h : i < (hitsN L t).length) (x : Int × Int) (hx : (hitsN L t)[i]? = some x) : (listsAt L f t).take (i + 1) = (listsAt L f t).take i ++ [run x.1 (f x.1)] := by
  unfold listsAt
  rw [List.take_add_one, List.getElem?_map, hx]; rfl
set_option maxHeartbeats 16000000 in
set_option maxRecDepth 100000 in
theorem icp_calls (W : World) (g mb : Nat) (s : DA) (L : Keys) (f : Int → Int) (t : ByteArray) (X : IxW W g s mb L f) (KB_ : KB L) (C_ : Cln t) (hsz : t.size ≤ 1000000000) :
    Calls Tryz.prog 41 #[.agg #[.slice (some ⟨g, 0, none⟩) s.n s.n, .map (some mb)], .string t] W fun e w' => IcpE W w' L f t e := by
  have HX := Aside0.mk X
  have HKB := Aside0.mk KB_
  have C := Aside0.mk C_
  clear X KB_ C_
  go_enter Tryz.func41, Tryz.ntmps41
  go_upto_region 1 with fail
  obtain ⟨w1, hw1, hk1, bx⟩ : ∃ w1, w1 = W.alloc (.cells #[.slice (some ⟨g, 0, none⟩) s.n s.n, .map (some mb)] 53) ∧ Kp W w1 (fun _ => False) ∧ w1.heap[W.heap.size]? = some (.cells #[.slice (some ⟨g, 0, none⟩) s.n s.n, .map (some mb)] 53 (0, 0)) := ⟨_, rfl, (Kp.self W _).alloc _, blk_new _ _⟩
  rw [← hw1]
  obtain ⟨xb, hxb⟩ : ∃ xb, W.heap.size = xb := ⟨_, rfl⟩
  rw [hxb] at bx ⊢
  have HXB := Aside0.mk hxb
  have HX1 := Aside0.mk (HX.out.kept hk1 id id)
  have HK1 := Aside0.mk hk1
  have HF := Aside0.mk (cps_calls w1 g s L t HX1.out.arr HX1.out.good C.out hsz HX1.out.pos)
  have x0 : w1.cell? ⟨xb, 0, none⟩ = some (.slice (some ⟨g, 0, none⟩) s.n s.n) := by unfold World.cell?; simp [bx]
  have HBX := Aside0.mk bx
  clear hw1 hk1 bx hxb
  go_upto_region 2 with (go_at_call 62; refine HF.out.mono ?_; rintro e_ w2 ⟨v1, v2, rfl, hr1, hr2, hB⟩; have HB2 := Aside0.mk hB; have HX2 := Aside0.mk (HX1.out.kept (Kp.below (S := fun _ => False) hB) id id); have HBX2 : Aside0 (w2.heap[xb]? = some (.cells #[.slice (some ⟨g, 0, none⟩) s.n s.n, .map (some mb)] 53 (0, 0))) := ⟨(hB.block xb (Array.getElem?_eq_some_iff.1 HBX.out).1).trans HBX.out⟩; have HR1 := Aside0.mk hr1; have HR2 := Aside0.mk hr2; obtain ⟨A1, n1, rfl, l1, g1⟩ := Kd.R_reads hr1; have HC1 := Aside0.mk g1; clear hB hr1 hr2 l1 g1)
  obtain ⟨H, hH⟩ : ∃ H, H = hitsN L t := ⟨_, rfl⟩
  have hml : (hitsTo L (bs t) (bs t).length).length = H.length := by rw [hH]; rfl
  have hHl : H.length ≤ 1000000000 := by rw [hH]; have := hits_len L (bs t) (bs t).length; rw [bs_len] at this; unfold hitsN; rw [bs_len]; omega
  have hLl : (listsAt L f t).length = H.length := by unfold listsAt; rw [List.length_map, hH]
  have HS0 : Aside0 (LisS w2 w2 (.slice none 0 0) ((listsAt L f t).take 0)) := ⟨⟨Below.refl _ _, Kd.R_nil _ _ _ _ _⟩⟩
  have HHE := Aside0.mk hH
  have HLL := Aside0.mk hLl
  rw [hml]
  clear hml hLl hH x0
  go_wp2_with fail
  go_loopg [5, 8, 9, 10, 11, 21] H.length (fun kq v5 v8 v9 v10 v11 v21 w' => ∃ (i : Nat), v21 = .int .i64 (i : Int) ∧ Aside0 (i + kq = H.length) ∧ Aside0 (LisS w2 w' v5 ((listsAt L f t).take i)))
  case atStart => exact ⟨0, rfl, ⟨by omega⟩, HS0⟩
  case round =>
    clear HS0
    obtain ⟨i, rfl, HI, HS⟩ := hrel
    have hi := HI.out
    by_cases hil : i < H.length
    · have hiz : (i : Int) < (H.length : Int) := by omega
      obtain ⟨x, hx⟩ : ∃ x, H[i]? = some x := ⟨_, List.getElem?_eq_getElem hil⟩
      have hxm : x ∈ hitsN L t := by rw [← HHE.out]; exact List.mem_of_getElem? hx
      have hbd := (HKB.out.hits (bs t) _ x hxm).1
      have hT := listsAt_take L f t i (by rw [← HHE.out]; exact hil) x (by rw [← HHE.out]; exact hx)
      obtain ⟨ad, hA, hcell⟩ := int_cell HC1.out i (by rw [List.length_map]; rw [HHE.out] at hil; exact hil)
      have hgd : ((hitsTo L (bs t) (bs t).length).map (·.1)).getD i 0 = x.1 := by
        rw [HHE.out] at hx
        rw [List.getD_eq_getElem?_getD, List.getElem?_map]
        show (((hitsN L t)[i]?).map _).getD 0 = _
        rw [hx]; rfl
      rw [hgd] at hcell
      obtain ⟨iv, hiv⟩ : ∃ iv, x.1 = iv := ⟨_, rfl⟩
      rw [hiv] at hbd hT hcell
      subst hA
      have hcj : wr.cell? (ad.add i) = some (.int .i64 iv) := (World.cell?_of_block (HS.out.below.block _ (cell_lt hcell))).trans hcell
      have hXr := HX2.out.kept (Kp.below (S := fun _ => False) HS.out.below) id id
      have hbx := (HS.out.below.block xb (Array.getElem?_eq_some_iff.1 HBX2.out).1).trans HBX2.out
      have x1 : wr.cell? ⟨xb, 1, none⟩ = some (.map (some mb)) := by unfold World.cell?; simp [hbx]
      have hdb : 0 ≤ f iv ∧ f iv ≤ 1000000 := by obtain ⟨_, _, _, _, _, h⟩ := hXr.dup; exact h iv
      have hlk := hXr.dup.look iv ⟨by omega, by omega⟩
      have hw1 : wrap32 iv = iv := by unfold wrap32; omega
      have hw2 : wrap32 (1 + f iv) = 1 + f iv := by unfold wrap32; omega
      obtain ⟨n, hn⟩ : ∃ n, n = (f iv).toNat + 1 := ⟨_, rfl⟩
      have hnz : (n : Int) = 1 + f iv := by omega
      have hnb : n ≤ 1000001 := by omega
      obtain ⟨Z, hZ⟩ : ∃ Z, Z = intZeros n := ⟨_, rfl⟩
      have hmk : ∀ w : World, (Instr.makeSlice 38 (.int .i32 (1 + f iv)) (.int .i32 (1 + f iv))).run Tryz.prog w = .ok (.slice (some ⟨w.heap.size, 0, none⟩) n n) (w.alloc Z) := fun w => by
        rw [hZ, ← hnz]; exact make_ints32 w n (by omega)
      have hfs := fils_start (Below.refl wr.heap.size wr) iv n (by omega)
      rw [← hZ] at hfs
      have HFS := Aside0.mk hfs
      have HN := Aside0.mk hn
      have HTK := Aside0.mk hT
      clear hfs hn hZ hnz hx hxm hT hcell hgd hiv hXr hbx
      cases gk with
      | zero => omega
      | succ kz =>
      go_upto_region 7 with fail
      obtain ⟨w3, hw3⟩ : ∃ w3, w3 = wr.alloc Z := ⟨_, rfl⟩
      obtain ⟨bb, hbb⟩ : ∃ bb, wr.heap.size = bb := ⟨_, rfl⟩
      have hfs := HFS.out
      rw [← hw3, hbb] at hfs
      rw [← hw3, hbb]
      have HS1 := Aside0.mk hfs
      have HBB := Aside0.mk hbb
      clear hfs hw3 hbb HFS hlk x1 hmk hcj
      go_wp2_with fail
      go_loopg [11] n (fun kq v11 w' => ∃ (j : Nat), v11 = .int .i64 (j : Int) ∧ Aside0 (j + kq = n) ∧ Aside0 (FilS wr w' bb iv n j))
      case atStart => exact ⟨0, rfl, ⟨by omega⟩, HS1⟩
      case round =>
        clear HS1
        obtain ⟨j, rfl, HJ, HFl⟩ := hrel
        have hj := HJ.out
        by_cases hjl : j < n
        · have hjz : (j : Int) < (n : Int) := by omega
          obtain ⟨⟨v, hc⟩, hf⟩ := HFl.out.facts hjl
          have hw3 : wrap64 (iv + (j : Int)) = iv + (j : Int) := by unfold wrap64; omega
          cases gk with
          | zero => omega
          | succ kj =>
          go_wp2_with fail
          go_roundg kj
          case measure => omega
          case rel => exact ⟨j + 1, congrArg (Value.int .i64) (by omega), ⟨by omega⟩, ⟨HFl.out.put hjl⟩⟩
        · have hjz : ¬ (j : Int) < (n : Int) := by omega
          have hje : j = n := by omega
          have hrow := HFl.out.r
          rw [hje, filled_all iv (f iv) n HN.out] at hrow
          have HROW := Aside0.mk hrow
          have hrl : ((listsAt L f t).take i).length ≤ 1000000000 := by rw [List.length_take]; omega
          have hnn : n = (run iv (f iv)).length := by rw [run_len]; exact HN.out
          have HNN := Aside0.mk hnn
          clear hrow hje hnn
          go_wp2_with (first | ((with_reducible refine gate_builtin (b := .append) (xs := #[.tmp 45, .tmp 47]) rfl ?_); at_builtin; refine Kd.R_append (Kd.slice 3 (Kd.int .i64)) (w0 := w2) w2.heap.size rfl (.tmp 45) (.tmp 47) 39 38 (.slice none 0 0) 24 rfl Tryz.underlying39 info_ints rfl (by decide) (by omega) u5 ((listsAt L f t).take i) (run iv (f iv)) [.slice (some ⟨bb, 0, none⟩) n n] (fun _ => True) (fun k => k = bb) rfl rfl ⟨_, rfl, Kd.R_lower HROW.out HS.out.below.size⟩ (fun k hk => ⟨trivial, fun e => ?_⟩) (fun _ _ => trivial) (Kd.R_below HS.out.r HFl.out.below) (below_step HS.out.below HFl.out.below) ?_ (by omega) ?_; (have := Kd.R_lt HS.out.r _ e.symm; have := HBB.out; omega); (have := HS.out.below.size; have := HFl.out.below.size; omega); (intro va wa ho hb hg hat; have HLS : Aside0 (LisS w2 wa va ((listsAt L f t).take i ++ [run iv (f iv)])) := ⟨⟨hb, ho⟩⟩; clear ho hb hg hat)))
          go_roundg kz
          case measure => omega
          case rel => exact ⟨i + 1, congrArg (Value.int .i64) (by omega), ⟨by omega⟩, ⟨by rw [HTK.out]; exact HLS.out⟩⟩
    · have hiz : ¬ (i : Int) < (H.length : Int) := by omega
      have hie : i = H.length := by omega
      go_wp2_with fail
      have hr := HS.out.r
      rw [List.take_of_length_le (by rw [HLL.out]; omega)] at hr
      have hb := HS.out.below
      have hz : W.heap.size ≤ w2.heap.size := by have := HK1.out.size; have := HB2.out.size; omega
      exact bodyPost_ret (v := .tuple #[v2, u5]) (by simp [results, Tryz.results41, go_sem]) rfl ⟨v2, u5, rfl, Kd.R_below (Kd.R_lower (Kd.R_mono HR2.out (fun _ _ => trivial)) (by have := HK1.out.size; omega)) hb, Kd.R_lower hr hz, below_step (below_step (kp_below HK1.out) HB2.out) hb⟩
end Go.Proofs.YtaejkbjepbifcabGreatDoor.Da
