/- The walks that build a filter and use it: NewFeaturesFilter, impl.Match. -/
import Derived.Test.YtckdpckdabfkbaaFilter3
namespace Go.Proofs.Ytckdpckdabfkbaa.Filter
open Go.RowKit Go.Proofs.YtckdpckdabfkbaaW.PrintWords Go.Proofs.Ytckdpckdabfkbaa.Plain Go.Proofs.Ytckdpckdabfkbaa.PB
set_option linter.unusedVariables false

theorem put_length : ∀ (f : List ByteArray) (A : Ar) (n : Nat), A.length ≤ (put A n f).length ∧ (put A n f).length ≤ A.length + f.length
  | [], A, n => by simp [put]
  | s :: r, A, n => by
    simp only [put]
    split
    · split
      · simp
      · split
        · simp
        · rename_i j _ _ _
          have := put_length r A (kid A n j)
          simp only [List.length_cons]; omega
    · have := put_length r (A.set n (fan A n ++ [(s, A.length)]) ++ [[]]) A.length
      simp only [List.length_append, List.length_set, List.length_cons, List.length_nil] at this ⊢
      omega
def tot (l : List (List ByteArray)) : Nat := (l.map List.length).sum
theorem build_length : ∀ (l : List (List ByteArray)) (A : Ar), A.length ≤ (l.foldl (fun A f => put A 0 f) A).length ∧ (l.foldl (fun A f => put A 0 f) A).length ≤ A.length + tot l
  | [], A => by simp [tot]
  | f :: l, A => by
    have h1 := put_length f A 0
    have h2 := build_length l (put A 0 f)
    simp only [List.foldl_cons, tot, List.map_cons, List.sum_cons] at h2 ⊢
    omega
theorem build_snoc (l : List (List ByteArray)) (i : Nat) (hi : i < l.length) : build (l.take (i + 1)) = put (build (l.take i)) 0 (l.getD i []) := by
  unfold build
  rw [List.take_add_one, List.foldl_append, List.getElem?_eq_getElem hi, List.getD_eq_getElem?_getD, List.getElem?_eq_getElem hi]
  rfl
theorem tot_take (l : List (List ByteArray)) (i : Nat) (hi : i < l.length) : tot (l.take i) + (l.getD i []).length ≤ tot l := by
  have h : l = l.take i ++ (l.getD i [] :: l.drop (i + 1)) := by
    rw [List.getD_eq_getElem?_getD, List.getElem?_eq_getElem hi]
    simp
  have : tot l = tot (l.take i) + ((l.getD i []).length + tot (l.drop (i + 1))) := by
    conv => lhs; rw [h]
    simp [tot]
  omega
theorem lies_new (w : World) (t : Nat) : Lies (w.alloc (.cells #[.slice none 0 0] t (0, 0))) w.heap.size [[]] w.heap.size := by
  have ef : ∀ m, fan [[]] m = [] := fun m => by
    cases m with
    | zero => rfl
    | succ m => rfl
  refine ⟨fun _ => w.heap.size, fun _ => .slice none 0 0, fun _ => [], fun b => if b = w.heap.size then some (0, 0) else none, ⟨fun b t hb => ?_, fun i hi => ?_, fun i hi => Kd.R_nil _ _ _ _ _, fun _ _ _ => rfl, fun i hi => ?_, fun i => ?_, fun i hi j hj => ?_⟩, rfl⟩
  · by_cases h : b = w.heap.size
    · subst h; rw [Own.size_alloc]; omega
    · rw [if_neg h] at hb; cases hb
  · have : i = 0 := by simpa using hi
    subst this
    exact ⟨by simp, t, blk_new w _⟩
  · rw [ef]; rfl
  · rw [ef]; simp
  · rw [ef] at hj; simp at hj

set_option maxHeartbeats 4000000 in
set_option maxRecDepth 100000 in
theorem new_calls (w : World) (A : Option Addr) (c : Nat) (fl : List (List ByteArray)) (hC : Kd.C (Kd.slice 9 Kd.string) w A fl.length fl) (hc : fl.length ≤ c) (hsz : tot fl ≤ 900000000000) :
    Calls Try.prog 27 #[.slice A fl.length c] w fun e w' => ∃ r, e = .returned (.pointer (some ⟨r, 0, none⟩)) ∧ Below w.heap.size w w' ∧ Lies w' w.heap.size (build fl) r := by
  have HC := Aside0.mk hC
  have HM : Aside0 (fl.length ≤ 9223372036854775807) := ⟨HC.out.2.1⟩
  clear hC
  go_enter Try.func27, Try.ntmps27
  go_wp2
  go_loopg [8] fl.length (fun kq v8 w' => ∃ (i : Nat), v8 = .int .i64 i ∧ Aside0 (i + kq = fl.length) ∧ Aside0 (Below w.heap.size w w') ∧ Aside0 (Lies w' w.heap.size (build (fl.take i)) w.heap.size))
  case atStart => exact ⟨0, rfl, ⟨by omega⟩, ⟨below_alloc (Below.refl _ _) _⟩, ⟨lies_new w _⟩⟩
  case round =>
    obtain ⟨i, rfl, HK, HB, HI⟩ := hrel
    by_cases c1 : (i : Int) < (fl.length : Int)
    · have hi : i < fl.length := by omega
      obtain ⟨ad, B, cB, rfl, hx0, hl0, hC0⟩ := at_L1 (Kd.C_below HC.out HB.out) (i : Int) (by omega) c1
      obtain ⟨f, hf⟩ : ∃ f, f = fl.getD i [] := ⟨_, rfl⟩
      have hx : wr.cell? (ad.add i) = some (.slice B f.length cB) := by rw [hf]; exact hx0
      have hl : f.length ≤ cB := by rw [hf]; exact hl0
      -- the list's row as it was at the call
      obtain ⟨ad', B', cB', e', hx1, hl1, hC1⟩ := at_L1 HC.out (i : Int) (by omega) c1
      obtain rfl := Option.some.inj e'
      have hBB : B' = B := by
        have h_ := pw_cell_below HB.out hx1
        rw [hx0] at h_
        injection h_ with h_
        injection h_ with h1_
        exact h1_.symm
      subst hBB
      have PA_ := Aside0.mk (add_calls w wr w.heap.size rfl HB.out HI.out (by have := (build_length (fl.take i) [[]]).1; unfold build; simp at this; omega) B' cB f (by rw [hf]; exact hC1) hl
        (by have h1_ := (build_length (fl.take i) [[]]).2; have h2_ := tot_take fl i hi; rw [← hf] at h2_; unfold build; simp at h1_; omega))
      have HF := Aside0.mk hf
      have p1 : (0 : Int) ≤ i := by omega
      have c1b := decide_eq_true c1
      clear hx0 hl0 hC0 hx1 hl1 hC1 hf
      go_wp2_with fail
      refine PA_.out.mono ?_
      rintro _ W2 ⟨⟨v, rfl⟩, B2, I2⟩
      go_wp2_with fail
      have HM' := HM.out
      have HK' := HK.out
      cases gk with
      | zero => omega
      | succ k9 =>
        go_roundg k9
        case measure => omega
        case rel => exact ⟨i + 1, by rw [wrap_ok (by omega) (by omega)]; rfl, ⟨by omega⟩, ⟨B2⟩, ⟨by rw [build_snoc _ _ hi, ← HF.out]; exact I2⟩⟩
    · have c1b := decide_eq_false c1
      go_wp2_with fail
      go_ret
      refine ⟨_, rfl, HB.out, ?_⟩
      have := HI.out
      rwa [List.take_of_length_le (by omega)] at this

set_option maxHeartbeats 4000000 in
set_option maxRecDepth 100000 in
theorem implMatch_calls (k : Nat) (w : World) (A : Option Addr) (c : Nat) (fl : List (List ByteArray)) (B : Option Addr) (d : Nat) (xs : List (List ByteArray)) (hC : Kd.C (Kd.slice 9 Kd.string) w A fl.length fl) (hc : fl.length ≤ c)
    (hD : Kd.C (Kd.slice 9 Kd.string) w B xs.length xs) (hd : xs.length ≤ d) (hcp : impl_copied.f k fl = some fl) (hsz : tot fl ≤ 900000000000) (hx : xs.length ≤ 1000000000000) :
    Calls Try.prog 18 #[.slice A fl.length c, .slice B xs.length d] w fun e w' => ∃ v, e = .returned v ∧ Kd.R Kd.bool 4 w' w.heap.size (fun _ => True) v (xs.map (mt (build fl) 0)) ∧ Below w.heap.size w w' := by
  have HD := Aside0.mk hD
  have HP := Aside0.mk (impl_copied.calls k A c fl fl w hC hc hcp)
  have HX : Aside0 (xs.length ≤ 1000000000000) := ⟨hx⟩
  clear hC hD hcp hx
  go_enter Try.func18, Try.ntmps18
  go_wp2_with fail
  refine HP.out.mono ?_
  rintro _ W1 ⟨v1, rfl, hS, B1⟩
  obtain ⟨A1, c1, rfl, hl1, hC1⟩ := Kd.S_reads hS
  have HN := Aside0.mk (new_calls W1 A1 c1 fl hC1 hl1 hsz)
  have HB1 := Aside0.mk B1
  clear hS hC1 B1
  go_wp2_with fail
  refine HN.out.mono ?_
  rintro _ W2 ⟨r, rfl, B2, nb, fv, eb, τ, hI, hr⟩
  have HB2 := Aside0.mk (HB1.out.trans (B2.mono HB1.out.size))
  have HI := Aside0.mk hI
  have HS : Aside0 (w.heap.size ≤ W1.heap.size) := ⟨HB1.out.size⟩
  subst hr
  clear hI B2
  go_wp2_with fail
  go_loopg [6, 14] xs.length (fun kq v6 v14 w' => ∃ (i : Nat) (A2 : Option Addr) (c2 : Nat), v14 = .int .i64 i ∧ v6 = .slice A2 i c2 ∧ Aside0 (i + kq = xs.length) ∧ Aside0 (Kd.R Kd.bool 4 w' w.heap.size (fun k => τ k = none) (.slice A2 i c2) ((xs.take i).map (mt (build fl) 0))) ∧ Aside0 (Below w.heap.size w w') ∧ Aside0 (Inv w' W1.heap.size (build fl) nb fv eb τ))
  case atStart => exact ⟨0, none, 0, rfl, rfl, ⟨by omega⟩, ⟨Kd.R_nil _ _ _ _ _⟩, HB2, HI⟩
  case round =>
    obtain ⟨i, A2, c2, rfl, rfl, HK, HR, HB, HI2⟩ := hrel
    by_cases c1 : (i : Int) < (xs.length : Int)
    · have hi : i < xs.length := by omega
      obtain ⟨ad, E, cE, rfl, hx0, hl0, hC0⟩ := at_L1 (Kd.C_below HD.out HB.out) (i : Int) (by omega) c1
      obtain ⟨f, hf⟩ : ∃ f, f = xs.getD i [] := ⟨_, rfl⟩
      have hx : wr.cell? (ad.add i) = some (.slice E f.length cE) := by rw [hf]; exact hx0
      have hl : f.length ≤ cE := by rw [hf]; exact hl0
      have PM := Aside0.mk (match_calls wr HI2.out (by have := (build_length fl [[]]).1; unfold build; simp at this; omega) E cE f (by rw [hf]; exact hC0) hl)
      have HF := Aside0.mk hf
      have p1 : (0 : Int) ≤ i := by omega
      have c1b := decide_eq_true c1
      clear hx0 hl0 hC0 hf
      go_wp2_with fail
      refine PM.out.mono ?_
      rintro _ W3 ⟨rfl, B3⟩
      have HB3 := Aside0.mk (HB.out.trans (B3.mono HB.out.size))
      have HI3 := Aside0.mk (HI2.out.below B3)
      have HR3 := Aside0.mk (Kd.R_below HR.out B3)
      have HS3 : Aside0 (w.heap.size ≤ W3.heap.size) := ⟨HB3.out.size⟩
      clear B3
      have HX' := HX.out
      go_wp2_with (first | ((with_reducible refine gate_builtin (b := .append) (xs := #[.tmp 18, .tmp 22]) rfl ?_); at_builtin; refine Kd.R_append Kd.bool (w0 := w) w.heap.size rfl (.tmp 18) (.tmp 22) 34 4 (.bool false) 1 rfl Try.underlying34 (by kernel_rfl) rfl (by decide) (by omega) (.slice A2 i c2) ((xs.take i).map (mt (build fl) 0)) (mt (build fl) 0 f) [.bool (mt (build fl) 0 f)] (fun k => τ k = none) (fun _ => False) rfl ?aX ?aP (fun _ h_ => h_.elim) ?aF ?aO ?aB ?aS ?aL ?aK; (case aX => first | rfl | (go_simp; done) | (go_simp; rfl)); (case aP => exact rfl); (case aF => exact fun k_ hk_ => by cases ht_ : τ k_ with | none => rfl | some t_ => exact absurd (HI3.out.lt k_ t_ ht_).2 (by omega)); (case aO => exact HR3.out); (case aB => exact HB3.out); (case aS => exact HS3.out); (case aL => have := HX.out; simp; omega); intro v1 w1 hR1 hB1 hG1 hA1; obtain ⟨A9, c9, e9⟩ := Kd.R_slice hR1; subst e9; have HR1 := Aside0.mk hR1; have HB1' := Aside0.mk hB1; have HG1 := Aside0.mk hG1; clear hR1 hB1 hG1 hA1))
      have hlen : ((xs.take i).map (mt (build fl) 0) ++ [mt (build fl) 0 f]).length = i + 1 := by simp; omega
      have hR1 := HR1.out
      have HK' := HK.out
      rw [hlen] at hR1
      have hmap : (xs.take (i + 1)).map (mt (build fl) 0) = (xs.take i).map (mt (build fl) 0) ++ [mt (build fl) 0 f] := by
        rw [List.take_add_one, List.map_append, List.getElem?_eq_getElem hi, HF.out, List.getD_eq_getElem?_getD, List.getElem?_eq_getElem hi]; rfl
      have hmin : min i xs.length = i := Nat.min_eq_left (by omega)
      have hI9 := HI3.out.move HG1.out.size (fun b t ht => HG1.out.block b (HI3.out.lt b t ht).2 (fun e_ => by have h_ : τ b = none := HR3.out.1 b e_.symm; rw [ht] at h_; cases h_))
      cases gk with
      | zero => omega
      | succ k9 =>
        go_roundg k9
        case measure => omega
        case rel => exact ⟨i + 1, A9, c9, rfl, by rw [hmin], ⟨by omega⟩, ⟨by rw [hmap]; exact hR1⟩, HB1', ⟨hI9⟩⟩
    · have c1b := decide_eq_false c1
      go_wp2_with fail
      go_ret
      have hR := HR.out
      rw [List.take_of_length_le (by omega)] at hR
      exact ⟨_, rfl, Kd.R_mono hR (fun _ _ => trivial), HB.out⟩
end Go.Proofs.Ytckdpckdabfkbaa.Filter
