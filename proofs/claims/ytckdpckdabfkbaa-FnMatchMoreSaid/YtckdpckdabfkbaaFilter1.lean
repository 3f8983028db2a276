/- The tree of a filter in memory; the walks that read it: has, isLeaf, Match. -/
import Derived.Test.YtckdpckdabfkbaaFilter0
namespace Go.Proofs.Ytckdpckdabfkbaa.Filter
open Go.RowKit Go.Proofs.YtckdpckdabfkbaaW.PrintWords Go.Proofs.Ytckdpckdabfkbaa.Plain
set_option linter.unusedVariables false

def ptr (b : Nat) : Value := .pointer (some ⟨b, 0, none⟩)
/-- A pointer to an edge. -/
def kP : Kd Nat := Kd.scalar ptr (fun _ => rfl)

/-- The arena A lies in w: node i in block nb i, its slice fv i, its edges in the blocks eb i; τ says which block is which. -/
structure Inv (w : World) (base : Nat) (A : Ar) (nb : Nat → Nat) (fv : Nat → Value) (eb : Nat → List Nat) (τ : Nat → Option (Nat × Nat)) : Prop where
  lt : ∀ b t, τ b = some t → base ≤ b ∧ b < w.heap.size
  node : ∀ i, i < A.length → τ (nb i) = some (i, 0) ∧ ∃ t, w.heap[nb i]? = some (.cells #[fv i] t (0, 0))
  row : ∀ i, i < A.length → kP.R 59 w base (fun k => τ k = some (i, 1)) (fv i) (eb i)
  nil : ∀ i, i < A.length → eb i = [] → fv i = .slice none 0 0
  len : ∀ i, i < A.length → (eb i).length = (fan A i).length
  few : ∀ i, (fan A i).length < A.length
  edge : ∀ i, i < A.length → ∀ j, j < (fan A i).length → τ ((eb i).getD j 0) = some (i, j + 2) ∧ kid A i j < A.length ∧
    w.heap[(eb i).getD j 0]? = some (.cells #[.string ((fan A i).getD j (ByteArray.empty, 0)).1, ptr (nb (kid A i j))] 58 (0, 0))

theorem Inv.move {w w' : World} {base : Nat} {A : Ar} {nb : Nat → Nat} {fv : Nat → Value} {eb : Nat → List Nat} {τ : Nat → Option (Nat × Nat)} (h : Inv w base A nb fv eb τ)
    (hs : w.heap.size ≤ w'.heap.size) (hb : ∀ b t, τ b = some t → w'.heap[b]? = w.heap[b]?) : Inv w' base A nb fv eb τ where
  lt := fun b t ht => ⟨(h.lt b t ht).1, Nat.lt_of_lt_of_le (h.lt b t ht).2 hs⟩
  node := fun i hi => ⟨(h.node i hi).1, by rw [hb _ _ (h.node i hi).1]; exact (h.node i hi).2⟩
  row := fun i hi => Kd.R_move (h.row i hi) (fun k hk => hb k _ hk)
  nil := h.nil
  len := h.len
  few := h.few
  edge := fun i hi j hj => ⟨(h.edge i hi j hj).1, (h.edge i hi j hj).2.1, by rw [hb _ _ (h.edge i hi j hj).1]; exact (h.edge i hi j hj).2.2⟩
theorem Inv.below {w w' : World} {base : Nat} {A : Ar} {nb : Nat → Nat} {fv : Nat → Value} {eb : Nat → List Nat} {τ : Nat → Option (Nat × Nat)} (h : Inv w base A nb fv eb τ)
    (hb : Below w.heap.size w w') : Inv w' base A nb fv eb τ := h.move hb.size (fun b t ht => hb.block b (h.lt b t ht).2)

def hasI (L : List (ByteArray × Nat)) (s : ByteArray) : Int := match hix L s with | some j => j | none => -1

theorem hix_none {L : List (ByteArray × Nat)} {s : ByteArray} (h : ∀ j, j < L.length → hit (L.getD j (ByteArray.empty, 0)).1 s = false) : hix L s = none := by
  unfold hix
  rw [List.findIdx?_eq_none_iff]
  intro x hx
  obtain ⟨j, hj, rfl⟩ := List.getElem_of_mem hx
  have := h j hj
  rw [List.getD_eq_getElem?_getD, List.getElem?_eq_getElem hj] at this
  exact this
theorem hix_some {L : List (ByteArray × Nat)} {s : ByteArray} {i : Nat} (hi : i < L.length) (h : ∀ j, j < i → hit (L.getD j (ByteArray.empty, 0)).1 s = false) (h1 : hit (L.getD i (ByteArray.empty, 0)).1 s = true) : hix L s = some i := by
  unfold hix
  rw [List.findIdx?_eq_some_iff_getElem]
  refine ⟨hi, ?_, fun j hj => ?_⟩
  · rw [List.getD_eq_getElem?_getD, List.getElem?_eq_getElem hi] at h1
    exact h1
  · have := h j hj
    rw [List.getD_eq_getElem?_getD, List.getElem?_eq_getElem (by omega)] at this
    simpa using this

set_option maxHeartbeats 4000000 in
set_option maxRecDepth 100000 in
theorem has_calls (w : World) (A : Option Addr) (c : Nat) (eb : List Nat) (L : List (ByteArray × Nat)) (s : ByteArray) (hlen : eb.length = L.length) (hC : kP.C w A eb.length eb)
    (he : ∀ j, j < L.length → ∃ v, w.heap[eb.getD j 0]? = some (.cells #[.string (L.getD j (ByteArray.empty, 0)).1, v] 58 (0, 0))) :
    Calls Try.prog 33 #[.agg #[.slice A eb.length c], .string s] w fun e w' => e = .returned (.int .i64 (hasI L s)) ∧ Below w.heap.size w w' := by
  have HC := Aside0.mk hC
  have HE := Aside0.mk he
  have HL := Aside0.mk hlen
  have HM : Aside0 (eb.length ≤ 9223372036854775807) := ⟨HC.out.2.1⟩
  clear hC he hlen
  go_enter Try.func33, Try.ntmps33
  go_wp2
  go_loopg [10] eb.length (fun kq v10 w' => ∃ (i : Nat), v10 = .int .i64 i ∧ Aside0 (i + kq = eb.length) ∧ Aside0 (∀ j, j < i → hit (L.getD j (ByteArray.empty, 0)).1 s = false) ∧ Aside0 (w' = w.alloc (.cells #[.slice A eb.length c] 50 (0, 0))))
  case atStart => exact ⟨0, rfl, ⟨by omega⟩, ⟨fun j hj => absurd hj (Nat.not_lt_zero j)⟩, ⟨rfl⟩⟩
  case round =>
    obtain ⟨i, rfl, ⟨hik⟩, ⟨hno⟩, ⟨hw⟩⟩ := hrel
    subst hw
    have HN := Aside0.mk hno
    have HK := Aside0.mk hik
    clear hno hik
    by_cases c1 : (i : Int) < (eb.length : Int)
    · have hi : i < L.length := by have := HL.out; omega
      obtain ⟨v, hv⟩ := HE.out i hi
      obtain ⟨g, hg⟩ : ∃ g, g = eb.getD i 0 := ⟨_, rfl⟩
      obtain ⟨x, hx⟩ : ∃ x, x = (L.getD i (ByteArray.empty, 0)).1 := ⟨_, rfl⟩
      rw [← hg, ← hx] at hv
      obtain ⟨ad, rfl, hz⟩ := ReadsOf.at_ (Kd.reads_of_C (enc := ptr) (d := 0) (h1 := fun _ => rfl) (Kd.C_alloc HC.out (.cells #[.slice A eb.length c] 50 (0, 0)))) i (by omega) c1
      have hz' : (w.alloc (.cells #[.slice (some ad) eb.length c] 50 (0, 0))).cell? (ad.add i) = some (.pointer (some ⟨g, 0, none⟩)) := by rw [hg]; exact hz
      have hy : (w.alloc (.cells #[.slice (some ad) eb.length c] 50 (0, 0))).cell? ⟨g, 0, none⟩ = some (.string x) := blk_cell (blk_alloc hv (.cells #[.slice (some ad) eb.length c] 50 (0, 0))) 0
      have HG := Aside0.mk hg
      have HX := Aside0.mk hx
      clear hv hz hg hx
      have p1 : (0 : Int) ≤ i := by omega
      have c1b := decide_eq_true c1
      have yes : hit x s = true → hasI L s = (i : Int) := fun h => by
        unfold hasI
        rw [hix_some hi HN.out (by rw [← HX.out]; exact h)]
      have no : hit x s = false → ∀ j, j < i + 1 → hit (L.getD j (ByteArray.empty, 0)).1 s = false := fun h j hj => by
        by_cases hji : j = i
        · rw [hji, ← HX.out]; exact h
        · exact HN.out j (by omega)
      have Y := Aside0.mk yes
      have N := Aside0.mk no
      clear yes no
      by_cases c2 : (x.toList == [0]) = true
      · go_wp2
        go_ret
        exact ⟨by rw [Y.out (by unfold hit; rw [c2]; rfl)]; rfl, below_alloc (Below.refl _ _) _⟩
      · replace c2 := Bool.eq_false_iff.mpr c2
        by_cases c3 : (x.toList == s.toList) = true
        · go_wp2
          go_ret
          exact ⟨by rw [Y.out (by unfold hit; rw [c2, c3]; rfl)]; rfl, below_alloc (Below.refl _ _) _⟩
        · replace c3 := Bool.eq_false_iff.mpr c3
          go_wp2
          have HM' := HM.out
          have HK' := HK.out
          cases gk with
          | zero => omega
          | succ k1 =>
            go_roundg k1
            case measure => omega
            case rel => exact ⟨i + 1, by rw [wrap_ok (by omega) (by omega)]; rfl, ⟨by omega⟩, ⟨N.out (by unfold hit; rw [c2, c3]; rfl)⟩, ⟨rfl⟩⟩
    · have c1b := decide_eq_false c1
      have e1 : hasI L s = -1 := by
        unfold hasI
        rw [hix_none (fun j hj => HN.out j (by have := HL.out; omega))]
      have E1 := Aside0.mk e1
      clear e1
      go_wp2
      go_ret
      exact ⟨by rw [E1.out]; rfl, below_alloc (Below.refl _ _) _⟩

theorem leaf_calls (w : World) (A : Option Addr) (n c : Nat) (b : Bool) (h0 : A = none → n = 0 ∧ c = 0) (hb : b = true ↔ A = none) :
    Calls Try.prog 34 #[.agg #[.slice A n c]] w fun e w' => e = .returned (.bool b) ∧ Below w.heap.size w w' := by
  cases A with
  | none =>
    obtain ⟨rfl, rfl⟩ := h0 rfl
    obtain rfl : b = true := hb.2 rfl
    have hnil := fun (w : World) => Lib.run_eql_slice_nil (P := Try.prog) w 48 59 none 0 0 0 0 Try.underlying48
    go_enter Try.func34, Try.ntmps34
    go_wp2
    go_ret
    exact ⟨rfl, below_alloc (Below.refl _ _) _⟩
  | some a =>
    obtain rfl : b = false := Bool.eq_false_iff.mpr (fun h => by cases hb.1 h)
    have hnil := fun (w : World) => Lib.run_eql_slice_nil (P := Try.prog) w 48 59 (some a) n c 0 0 Try.underlying48
    go_enter Try.func34, Try.ntmps34
    go_wp2
    go_ret
    exact ⟨rfl, below_alloc (Below.refl _ _) _⟩

/-- What a walk needs of one node. -/
theorem Inv.at_node {w : World} {base : Nat} {A : Ar} {nb : Nat → Nat} {fv : Nat → Value} {eb : Nat → List Nat} {τ : Nat → Option (Nat × Nat)} (h : Inv w base A nb fv eb τ) {n : Nat} (hn : n < A.length) :
    ∃ a c, fv n = .slice a (eb n).length c ∧ (eb n).length ≤ c ∧ kP.C w a (eb n).length (eb n) ∧ w.cell? ⟨nb n, 0, none⟩ = some (.slice a (eb n).length c) ∧ w.frozen? ⟨nb n, 0, none⟩ = false ∧ (a = none → (eb n).length = 0 ∧ c = 0) ∧ (fan A n = [] ↔ a = none) := by
  obtain ⟨a, c, e, hc, hC⟩ := Kd.R_reads (h.row n hn)
  obtain ⟨_, t, ht⟩ := h.node n hn
  refine ⟨a, c, e, hc, hC, by rw [← e]; exact blk_cell ht 0, blk_frozen ht 0, fun ha => ?_, ?_⟩
  · subst ha
    by_cases h0 : (eb n).length = 0
    · have := h.nil n hn (List.eq_nil_of_length_eq_zero h0)
      rw [e] at this
      injection this with _ _ h3
      exact ⟨h0, h3⟩
    · obtain ⟨_, h1, _⟩ := hC.2.2 (by omega)
      cases h1
  · constructor
    · intro hf
      have h0 : (eb n).length = 0 := by rw [h.len n hn, hf]; rfl
      have := h.nil n hn (List.eq_nil_of_length_eq_zero h0)
      rw [e] at this
      injection this
    · intro ha
      subst ha
      apply List.eq_nil_of_length_eq_zero
      rw [← h.len n hn]
      by_cases h0 : (eb n).length = 0
      · exact h0
      · obtain ⟨_, h1, _⟩ := hC.2.2 (by omega)
        cases h1

set_option maxHeartbeats 4000000 in
set_option maxRecDepth 100000 in
theorem match_calls (w : World) {base : Nat} {T : Ar} {nb : Nat → Nat} {fv : Nat → Value} {eb : Nat → List Nat} {τ : Nat → Option (Nat × Nat)} (h : Inv w base T nb fv eb τ) (h0 : 0 < T.length)
    (A : Option Addr) (c : Nat) (fs : List ByteArray) (hC : Kd.C Kd.string w A fs.length fs) (hc : fs.length ≤ c) :
    Calls Try.prog 29 #[.pointer (some ⟨nb 0, 0, none⟩), .slice A fs.length c] w fun e w' => e = .returned (.bool (mt T 0 fs)) ∧ Below w.heap.size w w' := by
  have HC := Aside0.mk hC
  have HI := Aside0.mk h
  have HM : Aside0 (fs.length ≤ 9223372036854775807) := ⟨HC.out.2.1⟩
  clear hC h
  obtain ⟨g0, hg0⟩ : ∃ g, g = nb 0 := ⟨_, rfl⟩
  rw [← hg0]
  have HG := Aside0.mk hg0
  clear hg0
  go_enter Try.func29, Try.ntmps29
  go_wp2
  go_loopg [5, 14] fs.length (fun kq v5 v14 w' => ∃ (i n : Nat), v14 = .int .i64 i ∧ v5 = .pointer (some ⟨nb n, 0, none⟩) ∧ Aside0 (i + kq = fs.length ∧ n < T.length ∧ mt T n (fs.drop i) = mt T 0 fs) ∧ Aside0 (Below w.heap.size w w'))
  case atStart => exact ⟨0, 0, rfl, by rw [HG.out], ⟨by omega, h0, rfl⟩, ⟨Below.refl _ _⟩⟩
  case round =>
    obtain ⟨i, n, rfl, rfl, HK, HB⟩ := hrel
    by_cases c1 : (i : Int) < (fs.length : Int)
    · have hi : i < fs.length := by omega
      have hn : n < T.length := HK.out.2.1
      have hmt : mt T n (fs.drop i) = mt T 0 fs := HK.out.2.2
      obtain ⟨s, hs⟩ : ∃ s, s = fs.getD i ByteArray.empty := ⟨_, rfl⟩
      obtain ⟨ad, rfl, hz⟩ := Kd.at_string (Kd.C_below HC.out HB.out) i (by omega) c1
      have hz' : wr.cell? (ad.add i) = some (.string s) := by rw [hs]; exact hz
      have hd : fs.drop i = s :: fs.drop (i + 1) := by
        rw [List.drop_eq_getElem_cons hi, hs, List.getD_eq_getElem?_getD, List.getElem?_eq_getElem hi]; rfl
      rw [hd] at hmt
      simp only [mt] at hmt
      clear hz hs hd
      have I1 := Aside0.mk (HI.out.below HB.out)
      obtain ⟨a1, k1, e1, hk1, hC1, hcell1, hfz1, hn1, hl1⟩ := I1.out.at_node hn
      have ec : has_calls wr a1 k1 (eb n) (fan T n) s (I1.out.len n hn) hC1 (fun j hj => ⟨_, (I1.out.edge n hn j hj).2.2⟩) = has_calls wr a1 k1 (eb n) (fan T n) s (I1.out.len n hn) hC1 (fun j hj => ⟨_, (I1.out.edge n hn j hj).2.2⟩) := rfl
      have P1 := Aside0.mk (has_calls wr a1 k1 (eb n) (fan T n) s (I1.out.len n hn) hC1 (fun j hj => ⟨_, (I1.out.edge n hn j hj).2.2⟩))
      clear ec
      cases hj : hix (fan T n) s with
      | none =>
        rw [hj] at hmt
        simp only at hmt
        have hh : hasI (fan T n) s = -1 := by unfold hasI; rw [hj]
        rw [hh] at P1
        have HMT := Aside0.mk hmt
        clear hh hj hl1 hn1 hC1 hmt
        have p1 : (0 : Int) ≤ i := by omega
        have c1b := decide_eq_true c1
        go_wp2_with fail
        refine P1.out.mono ?_
        rintro _ W2 ⟨rfl, B2⟩
        go_wp2_with fail
        go_ret
        exact ⟨by rw [← HMT.out]; rfl, HB.out.trans (B2.mono HB.out.size)⟩
      | some j =>
        rw [hj] at hmt
        simp only at hmt
        have hh : hasI (fan T n) s = (j : Int) := by unfold hasI; rw [hj]
        rw [hh] at P1
        have hjl := hix_lt hj
        have hjl' : j < (eb n).length := by rw [I1.out.len n hn]; exact hjl
        obtain ⟨hτ, hkl, hblk⟩ := I1.out.edge n hn j hjl
        have HMT := Aside0.mk hmt
        clear hh hj hl1 hn1 hmt
        have p1 : (0 : Int) ≤ i := by omega
        have c1b := decide_eq_true c1
        go_wp2_with fail
        refine P1.out.mono ?_
        rintro _ W2 ⟨rfl, B2⟩
        have B2' := Aside0.mk (HB.out.trans (B2.mono HB.out.size))
        have I2 := Aside0.mk (HI.out.below B2'.out)
        obtain ⟨a2, k2, e2, hk2, hC2, hcell2, hfz2, hn2, hl2⟩ := I2.out.at_node hn
        obtain ⟨_, _, hblk2⟩ := I2.out.edge n hn j hjl
        obtain ⟨ad2, rfl, hy⟩ := ReadsOf.at_ (Kd.reads_of_C (enc := ptr) (d := 0) (h1 := fun _ => rfl) hC2) j (by omega) (by omega)
        obtain ⟨g, hg⟩ : ∃ g, g = (eb n).getD j 0 := ⟨_, rfl⟩
        have hy' : W2.cell? (ad2.add j) = some (.pointer (some ⟨g, 0, none⟩)) := by rw [hg]; exact hy
        rw [← hg] at hblk2
        have hx1 : W2.cell? ⟨g, 1, none⟩ = some (.pointer (some ⟨nb (kid T n j), 0, none⟩)) := blk_cell hblk2 1
        obtain ⟨a3, k3, e3, hk3, hC3, hcell3, hfz3, hn3, hl3⟩ := I2.out.at_node hkl
        have PL := Aside0.mk (leaf_calls W2 a3 (eb (kid T n j)).length k3 (decide (fan T (kid T n j) = [])) hn3 (by rw [decide_eq_true_iff]; exact hl3))
        clear hcell1 hfz1 hblk hblk2 hτ hy hC1 hC2 hC3 hfz2 hfz3 B2 hg hn3 hl3 hn2 hl2
        have p2 : (0 : Int) ≤ j := by omega
        have c2b : decide ((j : Int) < ((eb n).length : Int)) = true := decide_eq_true (by omega)
        clear hz'
        by_cases hleaf : fan T (kid T n j) = []
        · rw [if_pos hleaf] at HMT
          rw [decide_eq_true hleaf] at PL
          clear hleaf
          go_wp2_with fail
          refine PL.out.mono ?_
          rintro _ W3 ⟨rfl, B3⟩
          go_wp2_with fail
          go_ret
          exact ⟨by rw [← HMT.out]; rfl, B2'.out.trans (B3.mono B2'.out.size)⟩
        · rw [if_neg hleaf] at HMT
          rw [decide_eq_false hleaf] at PL
          clear hleaf
          go_wp2_with fail
          refine PL.out.mono ?_
          rintro _ W3 ⟨rfl, B3⟩
          go_wp2_with fail
          have HM' := HM.out
          have HK' := HK.out.1
          cases gk with
          | zero => omega
          | succ k9 =>
            go_roundg k9
            case measure => omega
            case rel => exact ⟨i + 1, kid T n j, by rw [wrap_ok (by omega) (by omega)]; rfl, rfl, ⟨by omega, hkl, HMT.out⟩, ⟨B2'.out.trans (B3.mono B2'.out.size)⟩⟩
    · have c1b := decide_eq_false c1
      have hmt : false = mt T 0 fs := by
        rw [← HK.out.2.2, List.drop_eq_nil_of_le (by omega)]; rfl
      have HMT := Aside0.mk hmt
      clear hmt
      go_wp2_with fail
      go_ret
      exact ⟨by rw [← HMT.out]; rfl, HB.out⟩
end Go.Proofs.Ytckdpckdabfkbaa.Filter
