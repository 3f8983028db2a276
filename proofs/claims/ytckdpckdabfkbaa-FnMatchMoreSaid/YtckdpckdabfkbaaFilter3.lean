/- The walk that puts a list into the tree of a filter. -/
import Derived.Test.YtckdpckdabfkbaaFilter2
namespace Go.Proofs.Ytckdpckdabfkbaa.Filter
open Go.RowKit Go.Proofs.YtckdpckdabfkbaaW.PrintWords Go.Proofs.Ytckdpckdabfkbaa.Plain
set_option linter.unusedVariables false

/-- The arena lies somewhere, its root in block r. -/
def Lies (w : World) (base : Nat) (T : Ar) (r : Nat) : Prop := ∃ nb fv eb τ, Inv w base T nb fv eb τ ∧ nb 0 = r

set_option maxHeartbeats 4000000 in
set_option maxRecDepth 100000 in
theorem add_calls (w0 w : World) (base : Nat) (hbase : base = w0.heap.size) (hB : Below base w0 w) {T : Ar} {r : Nat} (h : Lies w base T r) (h0 : 0 < T.length)
    (A : Option Addr) (c : Nat) (fs : List ByteArray) (hC : Kd.C Kd.string w0 A fs.length fs) (hc : fs.length ≤ c) (hsz : T.length + fs.length ≤ 1000000000000) :
    Calls Try.prog 31 #[.pointer (some ⟨r, 0, none⟩), .slice A fs.length c] w fun e w' => (∃ v, e = .returned v) ∧ Below base w0 w' ∧ Lies w' base (put T 0 fs) r := by
  subst hbase
  have HC := Aside0.mk hC
  have HI := Aside0.mk h
  have HB0 := Aside0.mk hB
  clear hC h hB
  go_enter Try.func31, Try.ntmps31
  go_wp2
  go_loopg [4, 15] fs.length (fun kq v4 v15 w' => ∃ (i : Nat) (b : Nat), v15 = .int .i64 i ∧ v4 = .pointer (some ⟨b, 0, none⟩) ∧ Aside0 (Below w0.heap.size w0 w') ∧
    Aside0 (i + kq = fs.length ∧ ∃ (U : Ar) (n : Nat) (nb : Nat → Nat) (fv : Nat → Value) (eb : Nat → List Nat) (τ : Nat → Option (Nat × Nat)), Inv w' w0.heap.size U nb fv eb τ ∧ nb 0 = r ∧ nb n = b ∧ n < U.length ∧ U.length ≤ T.length + i ∧ put U n (fs.drop i) = put T 0 fs))
  case atStart =>
    obtain ⟨nb, fv, eb, τ, hI, hr⟩ := HI.out
    exact ⟨0, r, rfl, rfl, HB0, ⟨by omega, T, 0, nb, fv, eb, τ, hI, hr, hr, h0, by omega, rfl⟩⟩
  case round =>
    obtain ⟨i, b, rfl, rfl, HB, HK⟩ := hrel
    by_cases c1 : (i : Int) < (fs.length : Int)
    · have hi : i < fs.length := by omega
      obtain ⟨_, U, n, nb, fv, eb, τ, hI, hr, hb, hn, hU, hput⟩ := HK.out
      subst hb
      obtain ⟨s, hs⟩ : ∃ s, s = fs.getD i ByteArray.empty := ⟨_, rfl⟩
      obtain ⟨ad, rfl, hz⟩ := Kd.at_string (Kd.C_below HC.out HB.out) i (by omega) c1
      have hz' : wr.cell? (ad.add i) = some (.string s) := by rw [hs]; exact hz
      have hd : fs.drop i = s :: fs.drop (i + 1) := by
        rw [List.drop_eq_getElem_cons hi, hs, List.getD_eq_getElem?_getD, List.getElem?_eq_getElem hi]; rfl
      rw [hd] at hput
      simp only [put] at hput
      clear hz hs hd
      have I1 := Aside0.mk hI
      obtain ⟨a1, k1, e1, hk1, hC1, hcell1, hfz1, hn1, hl1⟩ := I1.out.at_node hn
      have P1 := Aside0.mk (has_calls wr a1 k1 (eb n) (fan U n) s (I1.out.len n hn) hC1 (fun j hj => ⟨_, (I1.out.edge n hn j hj).2.2⟩))
      have p1 : (0 : Int) ≤ i := by omega
      have c1b := decide_eq_true c1
      cases hj : hix (fan U n) s with
      | some j =>
        rw [hj] at hput
        simp only at hput
        have hh : hasI (fan U n) s = (j : Int) := by unfold hasI; rw [hj]
        rw [hh] at P1
        have hjl := hix_lt hj
        have hjl' : j < (eb n).length := by rw [I1.out.len n hn]; exact hjl
        obtain ⟨hτ, hkl, hblk⟩ := I1.out.edge n hn j hjl
        have HP := Aside0.mk hput
        clear hh hj hl1 hn1 hput hblk hτ hI
        obtain ⟨tl, htl⟩ : ∃ b, ((i : Int) == (fs.length : Int) - 1) = b := ⟨_, rfl⟩
        by_cases hleaf : fan U (kid U n j) = []
        · rw [if_pos hleaf] at HP
          go_wp2_with fail
          refine P1.out.mono ?_
          rintro _ W2 ⟨rfl, B2⟩
          have I2 := Aside0.mk (I1.out.below B2)
          have HB2 := Aside0.mk (HB.out.trans (B2.mono HB.out.size))
          obtain ⟨a2, k2, e2, hk2, hC2, hcell2, hfz2, hn2, hl2⟩ := I2.out.at_node hn
          obtain ⟨_, _, hblk2⟩ := I2.out.edge n hn j hjl
          obtain ⟨ad2, rfl, hy⟩ := ReadsOf.at_ (Kd.reads_of_C (enc := ptr) (d := 0) (h1 := fun _ => rfl) hC2) j (by omega) (by omega)
          obtain ⟨g, hg⟩ : ∃ g, g = (eb n).getD j 0 := ⟨_, rfl⟩
          have hy' : W2.cell? (ad2.add j) = some (.pointer (some ⟨g, 0, none⟩)) := by rw [hg]; exact hy
          rw [← hg] at hblk2
          have hx1 : W2.cell? ⟨g, 1, none⟩ = some (.pointer (some ⟨nb (kid U n j), 0, none⟩)) := blk_cell hblk2 1
          obtain ⟨a3, k3, e3, hk3, hC3, hcell3, hfz3, hn3, hl3⟩ := I2.out.at_node hkl
          have PL := Aside0.mk (leaf_calls W2 a3 (eb (kid U n j)).length k3 (decide (fan U (kid U n j) = [])) hn3 (by rw [decide_eq_true_iff]; exact hl3))
          clear hcell1 hfz1 hblk2 hy hC1 hC2 hC3 hfz2 hfz3 B2 hg hn3 hl3 hn2 hl2
          have p2 : (0 : Int) ≤ j := by omega
          have c2b : decide ((j : Int) < ((eb n).length : Int)) = true := decide_eq_true (by omega)
          clear hz'
          rw [decide_eq_true hleaf] at PL
          clear hleaf
          go_wp2_with fail
          refine PL.out.mono ?_
          rintro _ W3 ⟨rfl, B3⟩
          go_wp2_with fail
          go_returns
          exact ⟨⟨_, rfl⟩, HB2.out.trans (B3.mono HB2.out.size), nb, fv, eb, τ, by rw [← HP.out]; exact I2.out.below B3, hr⟩
        · rw [if_neg hleaf] at HP
          cases tl with
          | true =>
            rw [if_pos (List.drop_eq_nil_of_le (by have := beq_iff_eq.mp htl; omega))] at HP
            go_wp2_with fail
            refine P1.out.mono ?_
            rintro _ W2 ⟨rfl, B2⟩
            have I2 := Aside0.mk (I1.out.below B2)
            have HB2 := Aside0.mk (HB.out.trans (B2.mono HB.out.size))
            obtain ⟨a2, k2, e2, hk2, hC2, hcell2, hfz2, hn2, hl2⟩ := I2.out.at_node hn
            obtain ⟨_, _, hblk2⟩ := I2.out.edge n hn j hjl
            obtain ⟨ad2, rfl, hy⟩ := ReadsOf.at_ (Kd.reads_of_C (enc := ptr) (d := 0) (h1 := fun _ => rfl) hC2) j (by omega) (by omega)
            obtain ⟨g, hg⟩ : ∃ g, g = (eb n).getD j 0 := ⟨_, rfl⟩
            have hy' : W2.cell? (ad2.add j) = some (.pointer (some ⟨g, 0, none⟩)) := by rw [hg]; exact hy
            rw [← hg] at hblk2
            have hx1 : W2.cell? ⟨g, 1, none⟩ = some (.pointer (some ⟨nb (kid U n j), 0, none⟩)) := blk_cell hblk2 1
            obtain ⟨a3, k3, e3, hk3, hC3, hcell3, hfz3, hn3, hl3⟩ := I2.out.at_node hkl
            have PL := Aside0.mk (leaf_calls W2 a3 (eb (kid U n j)).length k3 (decide (fan U (kid U n j) = [])) hn3 (by rw [decide_eq_true_iff]; exact hl3))
            clear hcell1 hfz1 hblk2 hy hC1 hC2 hC3 hfz2 hfz3 B2 hg hn3 hl3 hn2 hl2
            have p2 : (0 : Int) ≤ j := by omega
            have c2b : decide ((j : Int) < ((eb n).length : Int)) = true := decide_eq_true (by omega)
            clear hz'
            rw [decide_eq_false hleaf] at PL
            clear hleaf
            go_wp2_with fail
            refine PL.out.mono ?_
            rintro _ W3 ⟨rfl, B3⟩
            have I3 := Aside0.mk (I2.out.below B3)
            have HB3 := Aside0.mk (HB2.out.trans (B3.mono HB2.out.size))
            obtain ⟨a4, k4, e4, hk4, hC4, hcell4, hfz4, hn4, hl4⟩ := I3.out.at_node hkl
            clear hn4 hl4 hC4
            go_wp2_with fail
            go_returns
            obtain ⟨hτ3, t3, ht3⟩ := I3.out.node _ hkl
            have hx := I3.out.clear hkl (X := W3.setCell ⟨nb (kid U n j), 0, none⟩ (.slice none 0 0)) (by simp [World.setCell]) (fun b _ hb => Below.heap_setCell _ _ _ _ hb) ⟨t3, blk_put ht3 0 _ rfl⟩
            rw [HP.out] at hx
            exact ⟨⟨_, rfl⟩, HB3.out.setCell (p := ⟨nb (kid U n j), 0, none⟩) (I3.out.lt _ _ hτ3).1 _, nb, _, _, τ, hx, hr⟩
          | false =>
            rw [if_neg (fun h_ => by have := beq_eq_false_iff_ne.mp htl; have := List.drop_eq_nil_iff.mp h_; omega)] at HP
            go_wp2_with fail
            refine P1.out.mono ?_
            rintro _ W2 ⟨rfl, B2⟩
            have I2 := Aside0.mk (I1.out.below B2)
            have HB2 := Aside0.mk (HB.out.trans (B2.mono HB.out.size))
            obtain ⟨a2, k2, e2, hk2, hC2, hcell2, hfz2, hn2, hl2⟩ := I2.out.at_node hn
            obtain ⟨_, _, hblk2⟩ := I2.out.edge n hn j hjl
            obtain ⟨ad2, rfl, hy⟩ := ReadsOf.at_ (Kd.reads_of_C (enc := ptr) (d := 0) (h1 := fun _ => rfl) hC2) j (by omega) (by omega)
            obtain ⟨g, hg⟩ : ∃ g, g = (eb n).getD j 0 := ⟨_, rfl⟩
            have hy' : W2.cell? (ad2.add j) = some (.pointer (some ⟨g, 0, none⟩)) := by rw [hg]; exact hy
            rw [← hg] at hblk2
            have hx1 : W2.cell? ⟨g, 1, none⟩ = some (.pointer (some ⟨nb (kid U n j), 0, none⟩)) := blk_cell hblk2 1
            obtain ⟨a3, k3, e3, hk3, hC3, hcell3, hfz3, hn3, hl3⟩ := I2.out.at_node hkl
            have PL := Aside0.mk (leaf_calls W2 a3 (eb (kid U n j)).length k3 (decide (fan U (kid U n j) = [])) hn3 (by rw [decide_eq_true_iff]; exact hl3))
            clear hcell1 hfz1 hblk2 hy hC1 hC2 hC3 hfz2 hfz3 B2 hg hn3 hl3 hn2 hl2
            have p2 : (0 : Int) ≤ j := by omega
            have c2b : decide ((j : Int) < ((eb n).length : Int)) = true := decide_eq_true (by omega)
            clear hz'
            rw [decide_eq_false hleaf] at PL
            clear hleaf
            go_wp2_with fail
            refine PL.out.mono ?_
            rintro _ W3 ⟨rfl, B3⟩
            have I3 := Aside0.mk (I2.out.below B3)
            have HB3 := Aside0.mk (HB2.out.trans (B3.mono HB2.out.size))
            go_wp2_with fail
            have HK' := HK.out.1
            cases gk with
            | zero => omega
            | succ k9 =>
              go_roundg k9
              case measure => omega
              case rel => exact ⟨i + 1, nb (kid U n j), rfl, rfl, HB3, ⟨by omega, U, kid U n j, nb, fv, eb, τ, I3.out, hr, rfl, hkl, by omega, HP.out⟩⟩
      | none =>
        rw [hj] at hput
        simp only at hput
        have hh : hasI (fan U n) s = -1 := by unfold hasI; rw [hj]
        rw [hh] at P1
        have HP := Aside0.mk hput
        clear hh hj hl1 hn1 hput hI
        obtain ⟨tl, htl⟩ : ∃ b, ((i : Int) == (fs.length : Int) - 1) = b := ⟨_, rfl⟩
        go_wp2_with fail
        refine P1.out.mono ?_
        rintro _ W2 ⟨rfl, B2⟩
        have I2 := Aside0.mk (I1.out.below B2)
        have HB2 := Aside0.mk (HB.out.trans (B2.mono HB.out.size))
        obtain ⟨a2, k2, e2, hk2, hC2, hcell2, hfz2, hn2, hl2⟩ := I2.out.at_node hn
        have E2 := Aside0.mk e2
        have hlt2 : nb n < W2.heap.size := (I2.out.lt _ _ (I2.out.node n hn).1).2
        have hne2 : nb n ≠ W2.heap.size := Nat.ne_of_lt hlt2
        have hne2' : W2.heap.size ≠ nb n := Ne.symm hne2
        clear hcell1 hfz1 hC1 hC2 B2 hn2 hl2 e2
        have HR : Aside0 (kP.R 59 W2 w0.heap.size (fun _ => True) (.slice a2 (eb n).length k2) (eb n)) := ⟨by rw [← E2.out]; exact Kd.R_mono (I2.out.row n hn) (fun _ _ => trivial)⟩
        have HW : Aside0 ((eb n).length < 1000000000000) := ⟨by rw [I2.out.len n hn]; have := I2.out.few n; omega⟩
        have HBW : Aside0 (w0.heap.size ≤ W2.heap.size) := ⟨HB2.out.size⟩
        have HT : Aside0 (∀ k, (Value.slice a2 (eb n).length k2).ownBlock = some k → τ k = some (n, 1)) := ⟨by rw [← E2.out]; exact fun k hk => (I2.out.row n hn).1 k hk⟩
        have HO1 : Aside0 (some (nb n) ≠ (Value.slice a2 (eb n).length k2).ownBlock) := ⟨fun e_ => by have h1_ := HT.out _ e_.symm; rw [(I2.out.node n hn).1] at h1_; simp at h1_⟩
        have HO2 : Aside0 (some W2.heap.size ≠ (Value.slice a2 (eb n).length k2).ownBlock) := ⟨fun e_ => by have h1_ := (I2.out.lt _ _ (HT.out _ e_.symm)).2; omega⟩
        obtain ⟨tn, hNb⟩ := (I2.out.node n hn).2
        rw [E2.out] at hNb
        have HN := Aside0.mk hNb
        clear hNb
        go_wp2_with (first | ((with_reducible refine gate_builtin (b := .append) (xs := #[.tmp 56, .tmp 57]) rfl ?_); at_builtin; refine Kd.R_append kP (w0 := w0) w0.heap.size rfl (.tmp 56) (.tmp 57) 48 59 (.pointer none) 8 rfl Try.underlying48 (by kernel_rfl) rfl (by decide) (by omega) (.slice a2 (eb n).length k2) (eb n) W2.heap.size [ptr W2.heap.size] (fun _ => True) (fun _ => False) rfl ?aX ?aP (fun _ h_ => h_.elim) (fun _ _ => trivial) ?aO ?aB ?aS ?aL ?aK; (case aX => first | rfl | (go_simp; done) | (go_simp; rfl)); (case aP => exact rfl); (case aO => exact Kd.R_alloc HR.out _); (case aB => exact below_alloc HB2.out _); (case aS => rw [Own.size_alloc]; have := HBW.out; omega); (case aL => have := HW.out; omega); intro v1 w1 hR1 hB1 hG1 hA1; have hN1 := blk_grown (blk_alloc HN.out _) hG1 HO1.out; have hE1 := blk_grown (blk_new W2 _) hG1 HO2.out; have hcA : w1.cell? ⟨nb n, 0, none⟩ = some (.slice a2 (eb n).length k2) := blk_cell hN1 0; have hfA := blk_frozen hN1 0; have hcE : w1.cell? ⟨W2.heap.size, 1, none⟩ = some (.pointer none) := blk_cell hE1 1; have hfE := blk_frozen hE1 1; have hltE := blk_lt hE1; obtain ⟨A9, c9, e9⟩ := Kd.R_slice hR1; subst e9; have HR1 := Aside0.mk hR1; have HB1 := Aside0.mk hB1; have HG1 := Aside0.mk hG1; have HA1 := Aside0.mk hA1; have HN1 := Aside0.mk hN1; have HE1 := Aside0.mk hE1; clear hR1 hB1 hG1 hA1 hN1 hE1))
        have HK' := HK.out.1
        have hsz1 : ((w1.setCell ⟨nb n, 0, none⟩ (.slice A9 ((eb n).length + 1) c9)).setCell ⟨W2.heap.size, 1, none⟩ (.pointer (some ⟨w1.heap.size, 0, none⟩))).heap.size = w1.heap.size := by simp [World.setCell]
        have hat : (Value.slice A9 ((eb n).length + 1) c9).ownBlock = (fv n).ownBlock ∨ ∃ b, (Value.slice A9 ((eb n).length + 1) c9).ownBlock = some b ∧ W2.heap.size < b := by
          rcases HA1.out with h_ | ⟨b, h1_, h2_⟩
          · left; rw [E2.out]; simpa using h_
          · right; rw [Own.size_alloc] at h2_; exact ⟨b, by simpa using h1_, by omega⟩
        have hrb : ∀ k, (Value.slice A9 ((eb n).length + 1) c9).ownBlock = some k → k ≠ nb n ∧ k ≠ W2.heap.size := fun k hk => by
          rcases hat with h_ | ⟨b, h1_, h2_⟩
          · rw [h_] at hk
            have h3_ : τ k = some (n, 1) := (I2.out.row n hn).1 k hk
            refine ⟨fun e_ => ?_, Nat.ne_of_lt (I2.out.lt _ _ h3_).2⟩
            rw [e_, (I2.out.node n hn).1] at h3_
            simp at h3_
          · rw [h1_] at hk
            have := Option.some.inj hk
            exact ⟨by omega, by omega⟩
        have hr1 := HR1.out
        rw [show (eb n ++ [W2.heap.size]).length = (eb n).length + 1 by simp] at hr1
        have hrow1 : kP.R 59 ((w1.setCell ⟨nb n, 0, none⟩ (.slice A9 ((eb n).length + 1) c9)).setCell ⟨W2.heap.size, 1, none⟩ (.pointer (some ⟨w1.heap.size, 0, none⟩))) w0.heap.size (fun _ => True) (.slice A9 ((eb n).length + 1) c9) (eb n ++ [W2.heap.size]) :=
          Kd.R_mono (Kd.R_move (Kd.R_tight rfl hr1) (fun k hk => by
            have h_ := hrb k hk.symm
            rw [Below.heap_setCell _ _ _ _ h_.2, Below.heap_setCell _ _ _ _ h_.1])) (fun _ _ => trivial)
        have hx := I2.out.grow hn (X := ((w1.setCell ⟨nb n, 0, none⟩ (.slice A9 ((eb n).length + 1) c9)).setCell ⟨W2.heap.size, 1, none⟩ (.pointer (some ⟨w1.heap.size, 0, none⟩))).alloc (.cells #[.slice none 0 0] 50))
          (g1 := W2.heap.size) (g3 := w1.heap.size) (v1 := .slice A9 ((eb n).length + 1) c9) (s := s)
          (by rw [Own.size_alloc, hsz1]; omega) HBW.out (Nat.le_refl _) (by omega)
          (fun b hb h1_ h2_ => by
            rw [Below.heap_alloc _ _ _ (by rw [hsz1]; omega), Below.heap_setCell _ _ _ _ (Nat.ne_of_lt hb), Below.heap_setCell _ _ _ _ h1_,
              HG1.out.block b (by rw [Own.size_alloc]; omega) (by rw [E2.out] at h2_; simpa using h2_), Below.heap_alloc _ _ _ hb])
          ⟨tn, blk_alloc (blk_far (blk_put HN1.out 0 _ rfl) hne2 _) _⟩
          (Kd.R_alloc hrow1 _)
          (by rcases hat with h_ | ⟨b, h1_, h2_⟩
              · exact .inl h_
              · exact .inr ⟨b, h1_, by omega⟩)
          (blk_alloc (blk_put (blk_far HE1.out hne2' _) 1 _ rfl) _)
          (by have := blk_new ((w1.setCell ⟨nb n, 0, none⟩ (.slice A9 ((eb n).length + 1) c9)).setCell ⟨W2.heap.size, 1, none⟩ (.pointer (some ⟨w1.heap.size, 0, none⟩))) (.cells #[.slice none 0 0] 50); rw [hsz1] at this; exact this)
        have hbx : Below w0.heap.size w0 (((w1.setCell ⟨nb n, 0, none⟩ (.slice A9 ((eb n).length + 1) c9)).setCell ⟨W2.heap.size, 1, none⟩ (.pointer (some ⟨w1.heap.size, 0, none⟩))).alloc (.cells #[.slice none 0 0] 50)) :=
          ((HB1.out.setCell (p := ⟨nb n, 0, none⟩) (I2.out.lt _ _ (I2.out.node n hn).1).1 _).setCell (p := ⟨W2.heap.size, 1, none⟩) HBW.out _).alloc (by rw [hsz1]; have := HBW.out; omega) _
        cases gk with
        | zero => omega
        | succ k9 =>
          go_roundg k9
          case measure => omega
          case rel => exact ⟨i + 1, w1.heap.size, rfl, rfl, ⟨hbx⟩, ⟨by omega, _, U.length, _, _, _, _, hx, by rw [if_neg (by omega)]; exact hr, by simp, by simp, by simp; omega, HP.out⟩⟩
    · have c1b := decide_eq_false c1
      obtain ⟨hk, U, n, nb, fv, eb, τ, hI, hr, hb, hn, hU, hput⟩ := HK.out
      rw [List.drop_eq_nil_of_le (by omega)] at hput
      simp only [put] at hput
      have HI2 := Aside0.mk hI
      clear hI hk hU
      go_wp2_with fail
      go_returns
      exact ⟨⟨_, rfl⟩, HB.out, nb, fv, eb, τ, by rw [← hput]; exact HI2.out, hr⟩
end Go.Proofs.Ytckdpckdabfkbaa.Filter
