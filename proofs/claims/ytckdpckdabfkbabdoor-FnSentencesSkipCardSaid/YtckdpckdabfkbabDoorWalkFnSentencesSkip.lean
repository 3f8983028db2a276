/- laws.FnSentencesSkip: the walk. -/
import Derived.Test.YtckdpckdabfkbabDoorSkip
import Derived.Test.YtckdpckdabfkbabDoorParts
import Derived.Lib.OthersKept
import Derived.Test.YtckdpckdabfkbabDoorTabs
namespace Go.Proofs.YtckdpckdabfkbabDoor.Scan
open Go.RowKit Go.Proofs.YtckdpckdabfkbabDoorW.PrintWords Go.Proofs.YtckdpckdabfkbabDoor.Plain Go.Proofs.YtckdpckdabfkbabDoor.Num Go.Proofs.YtckdpckdabfkbabDoor.PC
set_option linter.unusedVariables false
set_option linter.unusedSimpArgs false
theorem NW.len {D : ByteArray} {p q : Nat} {X : List Int} (h : NW D p q X) : X.length ≤ q - p := by
  induction h with
  | refl => simp
  | space hp hr h t ih => have := t.le; omega
  | word hp hr h t ih => have := t.le; rw [List.length_append, seg_len]; omega
theorem outs_len (S : Sp) : ∀ (k : Nat) (D : ByteArray), (outs S k D).length ≤ k
  | 0, _ => by simp [outs]
  | k + 1, D => by
    rw [outs]
    split
    · simp
    · simp only [List.length_cons]; have := outs_len S k (rest D (scan S D true).adv); omega
set_option maxHeartbeats 16000000 in
set_option maxRecDepth 100000 in
theorem skip_calls (w : World) (S : Sp) (Ad Af : Option Addr) (cd cf : Nat) (D : ByteArray) (hd : (Kd.int .i32).C w Ad S.del.length S.del) (hcd : S.del.length ≤ cd) (hf : (Kd.int .i32).C w Af S.fol.length S.fol) (hcf : S.fol.length ≤ cf)
    (ht : Lib.Utf8Tabs 1 2 w) (hw : Lib.WhiteTab 0 w) (hgD : D.size ≤ 140737488351232) :
    Calls Tryd.prog 5 #[.agg (sv S Ad Af cd cf), .string D] w fun e w' => e = .returned (.bool true) ∧ Below w.heap.size w w' := by
  obtain ⟨del, fol, skip, dbl, most⟩ := S
  obtain ⟨w1, hw1⟩ : ∃ w1, w1 = w.alloc (.cells (sv ⟨del, fol, skip, dbl, most⟩ Ad Af cd cf) 38) := ⟨_, rfl⟩
  have HB : Aside0 (Below w.heap.size w w1) := ⟨by rw [hw1]; exact below_alloc (Below.refl _ _) _⟩
  have HX : Aside0 (w1.heap[w.heap.size]? = some (.cells (sv ⟨del, fol, skip, dbl, most⟩ Ad Af cd cf) 38 (0, 0))) := ⟨by rw [hw1]; exact blk_new w _⟩
  have HCD := Aside0.mk hd
  have HCF := Aside0.mk hf
  have HT := Aside0.mk ht
  have HW := Aside0.mk hw
  clear hd hf ht hw
  have z0 := cells_at HX.out 0 _ rfl; have z1 := cells_at HX.out 1 _ rfl; have z2 := cells_at HX.out 2 _ rfl; have z3 := cells_at HX.out 3 _ rfl; have z4 := cells_at HX.out 4 _ rfl
  go_enter Tryd.func5, Tryd.ntmps5
  go_wp2_with fail
  rw [← hw1]
  clear hw1
  by_cases hl1 : del.length ≤ 2147483647
  · by_cases hl2 : fol.length ≤ 2147483647
    · have hfb : (decide (del.length ≤ 2147483647) && decide (fol.length ≤ 2147483647)) = true := by simp [hl1, hl2]
      have HFT : Aside0 (laws_zzFits18.f del fol skip dbl most = some true) := ⟨by rw [fits_f, hfb]⟩
      clear hfb
      by_cases hD : D.size ≤ 2147483647
      · have hDb : ¬ (D.size : Int) > 2147483647 := by omega
        obtain ⟨rs, js, hjs⟩ := splits_ev del fol skip dbl most hl1 hl2
        have HSP := Aside0.mk (hjs js (Nat.le_refl _))
        clear hjs
        cases rs with
        | false =>
          go_wp2_with (first | (go_at_call 14; refine (laws_zzFits18.calls Ad cd del Af cf fol _ _ _ _ _ (Kd.C_below HCD.out HB.out) hcd (Kd.C_below HCF.out HB.out) hcf HFT.out).mono ?_; rintro _ W_ ⟨rfl, hb_⟩; have HB_ := Aside0.mk (HB.out.trans (hb_.mono HB.out.size)); have HX_ := Aside0.mk ((hb_.block _ (Array.getElem?_eq_some_iff.1 HX.out).1).trans HX.out); clear hb_ HB HX z0 z1 z2 z3 z4; have HB := HB_; have HX := HX_; clear HB_ HX_; have z0 := cells_at HX.out 0 _ rfl; have z1 := cells_at HX.out 1 _ rfl; have z2 := cells_at HX.out 2 _ rfl; have z3 := cells_at HX.out 3 _ rfl; have z4 := cells_at HX.out 4 _ rfl) | (go_at_call 15; refine (laws_splits.calls js Ad cd del Af cf fol _ _ _ _ _ (Kd.C_below HCD.out HB.out) hcd (Kd.C_below HCF.out HB.out) hcf HSP.out).mono ?_; rintro _ W_ ⟨rfl, hb_⟩; have HB_ := Aside0.mk (HB.out.trans (hb_.mono HB.out.size)); have HX_ := Aside0.mk ((hb_.block _ (Array.getElem?_eq_some_iff.1 HX.out).1).trans HX.out); clear hb_ HB HX z0 z1 z2 z3 z4; have HB := HB_; have HX := HX_; clear HB_ HX_; have z0 := cells_at HX.out 0 _ rfl; have z1 := cells_at HX.out 1 _ rfl; have z2 := cells_at HX.out 2 _ rfl; have z3 := cells_at HX.out 3 _ rfl; have z4 := cells_at HX.out 4 _ rfl) | (go_at_call 16; refine (readable_calls D _).mono ?_; rintro _ W_ ⟨rfl, hb_⟩; rw [hrd]; have HB_ := Aside0.mk (HB.out.trans (hb_.mono HB.out.size)); have HX_ := Aside0.mk ((hb_.block _ (Array.getElem?_eq_some_iff.1 HX.out).1).trans HX.out); clear hb_ HB HX z0 z1 z2 z3 z4; have HB := HB_; have HX := HX_; clear HB_ HX_; have z0 := cells_at HX.out 0 _ rfl; have z1 := cells_at HX.out 1 _ rfl; have z2 := cells_at HX.out 2 _ rfl; have z3 := cells_at HX.out 3 _ rfl; have z4 := cells_at HX.out 4 _ rfl) | (go_at_call 17; refine (parts_calls _ (Utf8Tabs_below HT.out HB.out) (WhiteTab_below HW.out HB.out)).mono ?_; rintro _ W_ ⟨rfl, hb_⟩; have HB_ := Aside0.mk (HB.out.trans (hb_.mono HB.out.size)); have HX_ := Aside0.mk ((hb_.block _ (Array.getElem?_eq_some_iff.1 HX.out).1).trans HX.out); clear hb_ HB HX z0 z1 z2 z3 z4; have HB := HB_; have HX := HX_; clear HB_ HX_; have z0 := cells_at HX.out 0 _ rfl; have z1 := cells_at HX.out 1 _ rfl; have z2 := cells_at HX.out 2 _ rfl; have z3 := cells_at HX.out 3 _ rfl; have z4 := cells_at HX.out 4 _ rfl))
          go_ret
          exact ⟨rfl, HB.out⟩
        | true =>
          cases hrd : rdb D with
          | false =>
            go_wp2_with (first | (go_at_call 14; refine (laws_zzFits18.calls Ad cd del Af cf fol _ _ _ _ _ (Kd.C_below HCD.out HB.out) hcd (Kd.C_below HCF.out HB.out) hcf HFT.out).mono ?_; rintro _ W_ ⟨rfl, hb_⟩; have HB_ := Aside0.mk (HB.out.trans (hb_.mono HB.out.size)); have HX_ := Aside0.mk ((hb_.block _ (Array.getElem?_eq_some_iff.1 HX.out).1).trans HX.out); clear hb_ HB HX z0 z1 z2 z3 z4; have HB := HB_; have HX := HX_; clear HB_ HX_; have z0 := cells_at HX.out 0 _ rfl; have z1 := cells_at HX.out 1 _ rfl; have z2 := cells_at HX.out 2 _ rfl; have z3 := cells_at HX.out 3 _ rfl; have z4 := cells_at HX.out 4 _ rfl) | (go_at_call 15; refine (laws_splits.calls js Ad cd del Af cf fol _ _ _ _ _ (Kd.C_below HCD.out HB.out) hcd (Kd.C_below HCF.out HB.out) hcf HSP.out).mono ?_; rintro _ W_ ⟨rfl, hb_⟩; have HB_ := Aside0.mk (HB.out.trans (hb_.mono HB.out.size)); have HX_ := Aside0.mk ((hb_.block _ (Array.getElem?_eq_some_iff.1 HX.out).1).trans HX.out); clear hb_ HB HX z0 z1 z2 z3 z4; have HB := HB_; have HX := HX_; clear HB_ HX_; have z0 := cells_at HX.out 0 _ rfl; have z1 := cells_at HX.out 1 _ rfl; have z2 := cells_at HX.out 2 _ rfl; have z3 := cells_at HX.out 3 _ rfl; have z4 := cells_at HX.out 4 _ rfl) | (go_at_call 16; refine (readable_calls D _).mono ?_; rintro _ W_ ⟨rfl, hb_⟩; rw [hrd]; have HB_ := Aside0.mk (HB.out.trans (hb_.mono HB.out.size)); have HX_ := Aside0.mk ((hb_.block _ (Array.getElem?_eq_some_iff.1 HX.out).1).trans HX.out); clear hb_ HB HX z0 z1 z2 z3 z4; have HB := HB_; have HX := HX_; clear HB_ HX_; have z0 := cells_at HX.out 0 _ rfl; have z1 := cells_at HX.out 1 _ rfl; have z2 := cells_at HX.out 2 _ rfl; have z3 := cells_at HX.out 3 _ rfl; have z4 := cells_at HX.out 4 _ rfl) | (go_at_call 17; refine (parts_calls _ (Utf8Tabs_below HT.out HB.out) (WhiteTab_below HW.out HB.out)).mono ?_; rintro _ W_ ⟨rfl, hb_⟩; have HB_ := Aside0.mk (HB.out.trans (hb_.mono HB.out.size)); have HX_ := Aside0.mk ((hb_.block _ (Array.getElem?_eq_some_iff.1 HX.out).1).trans HX.out); clear hb_ HB HX z0 z1 z2 z3 z4; have HB := HB_; have HX := HX_; clear HB_ HX_; have z0 := cells_at HX.out 0 _ rfl; have z1 := cells_at HX.out 1 _ rfl; have z2 := cells_at HX.out 2 _ rfl; have z3 := cells_at HX.out 3 _ rfl; have z4 := cells_at HX.out 4 _ rfl))
            go_ret
            exact ⟨rfl, HB.out⟩
          | true =>
            cases skip with
            | false =>
              go_wp2_with (first | (go_at_call 14; refine (laws_zzFits18.calls Ad cd del Af cf fol _ _ _ _ _ (Kd.C_below HCD.out HB.out) hcd (Kd.C_below HCF.out HB.out) hcf HFT.out).mono ?_; rintro _ W_ ⟨rfl, hb_⟩; have HB_ := Aside0.mk (HB.out.trans (hb_.mono HB.out.size)); have HX_ := Aside0.mk ((hb_.block _ (Array.getElem?_eq_some_iff.1 HX.out).1).trans HX.out); clear hb_ HB HX z0 z1 z2 z3 z4; have HB := HB_; have HX := HX_; clear HB_ HX_; have z0 := cells_at HX.out 0 _ rfl; have z1 := cells_at HX.out 1 _ rfl; have z2 := cells_at HX.out 2 _ rfl; have z3 := cells_at HX.out 3 _ rfl; have z4 := cells_at HX.out 4 _ rfl) | (go_at_call 15; refine (laws_splits.calls js Ad cd del Af cf fol _ _ _ _ _ (Kd.C_below HCD.out HB.out) hcd (Kd.C_below HCF.out HB.out) hcf HSP.out).mono ?_; rintro _ W_ ⟨rfl, hb_⟩; have HB_ := Aside0.mk (HB.out.trans (hb_.mono HB.out.size)); have HX_ := Aside0.mk ((hb_.block _ (Array.getElem?_eq_some_iff.1 HX.out).1).trans HX.out); clear hb_ HB HX z0 z1 z2 z3 z4; have HB := HB_; have HX := HX_; clear HB_ HX_; have z0 := cells_at HX.out 0 _ rfl; have z1 := cells_at HX.out 1 _ rfl; have z2 := cells_at HX.out 2 _ rfl; have z3 := cells_at HX.out 3 _ rfl; have z4 := cells_at HX.out 4 _ rfl) | (go_at_call 16; refine (readable_calls D _).mono ?_; rintro _ W_ ⟨rfl, hb_⟩; rw [hrd]; have HB_ := Aside0.mk (HB.out.trans (hb_.mono HB.out.size)); have HX_ := Aside0.mk ((hb_.block _ (Array.getElem?_eq_some_iff.1 HX.out).1).trans HX.out); clear hb_ HB HX z0 z1 z2 z3 z4; have HB := HB_; have HX := HX_; clear HB_ HX_; have z0 := cells_at HX.out 0 _ rfl; have z1 := cells_at HX.out 1 _ rfl; have z2 := cells_at HX.out 2 _ rfl; have z3 := cells_at HX.out 3 _ rfl; have z4 := cells_at HX.out 4 _ rfl) | (go_at_call 17; refine (parts_calls _ (Utf8Tabs_below HT.out HB.out) (WhiteTab_below HW.out HB.out)).mono ?_; rintro _ W_ ⟨rfl, hb_⟩; have HB_ := Aside0.mk (HB.out.trans (hb_.mono HB.out.size)); have HX_ := Aside0.mk ((hb_.block _ (Array.getElem?_eq_some_iff.1 HX.out).1).trans HX.out); clear hb_ HB HX z0 z1 z2 z3 z4; have HB := HB_; have HX := HX_; clear HB_ HX_; have z0 := cells_at HX.out 0 _ rfl; have z1 := cells_at HX.out 1 _ rfl; have z2 := cells_at HX.out 2 _ rfl; have z3 := cells_at HX.out 3 _ rfl; have z4 := cells_at HX.out 4 _ rfl))
              go_ret
              exact ⟨rfl, HB.out⟩
            | true =>
              cases dbl with
              | true =>
                go_wp2_with (first | (go_at_call 14; refine (laws_zzFits18.calls Ad cd del Af cf fol _ _ _ _ _ (Kd.C_below HCD.out HB.out) hcd (Kd.C_below HCF.out HB.out) hcf HFT.out).mono ?_; rintro _ W_ ⟨rfl, hb_⟩; have HB_ := Aside0.mk (HB.out.trans (hb_.mono HB.out.size)); have HX_ := Aside0.mk ((hb_.block _ (Array.getElem?_eq_some_iff.1 HX.out).1).trans HX.out); clear hb_ HB HX z0 z1 z2 z3 z4; have HB := HB_; have HX := HX_; clear HB_ HX_; have z0 := cells_at HX.out 0 _ rfl; have z1 := cells_at HX.out 1 _ rfl; have z2 := cells_at HX.out 2 _ rfl; have z3 := cells_at HX.out 3 _ rfl; have z4 := cells_at HX.out 4 _ rfl) | (go_at_call 15; refine (laws_splits.calls js Ad cd del Af cf fol _ _ _ _ _ (Kd.C_below HCD.out HB.out) hcd (Kd.C_below HCF.out HB.out) hcf HSP.out).mono ?_; rintro _ W_ ⟨rfl, hb_⟩; have HB_ := Aside0.mk (HB.out.trans (hb_.mono HB.out.size)); have HX_ := Aside0.mk ((hb_.block _ (Array.getElem?_eq_some_iff.1 HX.out).1).trans HX.out); clear hb_ HB HX z0 z1 z2 z3 z4; have HB := HB_; have HX := HX_; clear HB_ HX_; have z0 := cells_at HX.out 0 _ rfl; have z1 := cells_at HX.out 1 _ rfl; have z2 := cells_at HX.out 2 _ rfl; have z3 := cells_at HX.out 3 _ rfl; have z4 := cells_at HX.out 4 _ rfl) | (go_at_call 16; refine (readable_calls D _).mono ?_; rintro _ W_ ⟨rfl, hb_⟩; rw [hrd]; have HB_ := Aside0.mk (HB.out.trans (hb_.mono HB.out.size)); have HX_ := Aside0.mk ((hb_.block _ (Array.getElem?_eq_some_iff.1 HX.out).1).trans HX.out); clear hb_ HB HX z0 z1 z2 z3 z4; have HB := HB_; have HX := HX_; clear HB_ HX_; have z0 := cells_at HX.out 0 _ rfl; have z1 := cells_at HX.out 1 _ rfl; have z2 := cells_at HX.out 2 _ rfl; have z3 := cells_at HX.out 3 _ rfl; have z4 := cells_at HX.out 4 _ rfl) | (go_at_call 17; refine (parts_calls _ (Utf8Tabs_below HT.out HB.out) (WhiteTab_below HW.out HB.out)).mono ?_; rintro _ W_ ⟨rfl, hb_⟩; have HB_ := Aside0.mk (HB.out.trans (hb_.mono HB.out.size)); have HX_ := Aside0.mk ((hb_.block _ (Array.getElem?_eq_some_iff.1 HX.out).1).trans HX.out); clear hb_ HB HX z0 z1 z2 z3 z4; have HB := HB_; have HX := HX_; clear HB_ HX_; have z0 := cells_at HX.out 0 _ rfl; have z1 := cells_at HX.out 1 _ rfl; have z2 := cells_at HX.out 2 _ rfl; have z3 := cells_at HX.out 3 _ rfl; have z4 := cells_at HX.out 4 _ rfl))
                go_ret
                exact ⟨rfl, HB.out⟩
              | false =>
                go_wp2_with (first | (go_at_call 14; refine (laws_zzFits18.calls Ad cd del Af cf fol _ _ _ _ _ (Kd.C_below HCD.out HB.out) hcd (Kd.C_below HCF.out HB.out) hcf HFT.out).mono ?_; rintro _ W_ ⟨rfl, hb_⟩; have HB_ := Aside0.mk (HB.out.trans (hb_.mono HB.out.size)); have HX_ := Aside0.mk ((hb_.block _ (Array.getElem?_eq_some_iff.1 HX.out).1).trans HX.out); clear hb_ HB HX z0 z1 z2 z3 z4; have HB := HB_; have HX := HX_; clear HB_ HX_; have z0 := cells_at HX.out 0 _ rfl; have z1 := cells_at HX.out 1 _ rfl; have z2 := cells_at HX.out 2 _ rfl; have z3 := cells_at HX.out 3 _ rfl; have z4 := cells_at HX.out 4 _ rfl) | (go_at_call 15; refine (laws_splits.calls js Ad cd del Af cf fol _ _ _ _ _ (Kd.C_below HCD.out HB.out) hcd (Kd.C_below HCF.out HB.out) hcf HSP.out).mono ?_; rintro _ W_ ⟨rfl, hb_⟩; have HB_ := Aside0.mk (HB.out.trans (hb_.mono HB.out.size)); have HX_ := Aside0.mk ((hb_.block _ (Array.getElem?_eq_some_iff.1 HX.out).1).trans HX.out); clear hb_ HB HX z0 z1 z2 z3 z4; have HB := HB_; have HX := HX_; clear HB_ HX_; have z0 := cells_at HX.out 0 _ rfl; have z1 := cells_at HX.out 1 _ rfl; have z2 := cells_at HX.out 2 _ rfl; have z3 := cells_at HX.out 3 _ rfl; have z4 := cells_at HX.out 4 _ rfl) | (go_at_call 16; refine (readable_calls D _).mono ?_; rintro _ W_ ⟨rfl, hb_⟩; rw [hrd]; have HB_ := Aside0.mk (HB.out.trans (hb_.mono HB.out.size)); have HX_ := Aside0.mk ((hb_.block _ (Array.getElem?_eq_some_iff.1 HX.out).1).trans HX.out); clear hb_ HB HX z0 z1 z2 z3 z4; have HB := HB_; have HX := HX_; clear HB_ HX_; have z0 := cells_at HX.out 0 _ rfl; have z1 := cells_at HX.out 1 _ rfl; have z2 := cells_at HX.out 2 _ rfl; have z3 := cells_at HX.out 3 _ rfl; have z4 := cells_at HX.out 4 _ rfl) | (go_at_call 17; refine (parts_calls _ (Utf8Tabs_below HT.out HB.out) (WhiteTab_below HW.out HB.out)).mono ?_; rintro _ W_ ⟨rfl, hb_⟩; have HB_ := Aside0.mk (HB.out.trans (hb_.mono HB.out.size)); have HX_ := Aside0.mk ((hb_.block _ (Array.getElem?_eq_some_iff.1 HX.out).1).trans HX.out); clear hb_ HB HX z0 z1 z2 z3 z4; have HB := HB_; have HX := HX_; clear HB_ HX_; have z0 := cells_at HX.out 0 _ rfl; have z1 := cells_at HX.out 1 _ rfl; have z2 := cells_at HX.out 2 _ rfl; have z3 := cells_at HX.out 3 _ rfl; have z4 := cells_at HX.out 4 _ rfl))
                obtain ⟨it, hit⟩ : ∃ it, it = W_.heap.size := ⟨_, rfl⟩
                rw [← hit]
                have HIT : Aside0 (w.heap.size ≤ it) := ⟨by rw [hit]; exact HB.out.size⟩
                have HI0 : Aside0 ((W_.iter D 0).heap[it]? = some (.stringIter D 0)) := ⟨by rw [hit]; exact World.iter_heap W_ D 0⟩
                have HB0 : Aside0 (Below w.heap.size w (W_.iter D 0)) := ⟨HB.out.alloc HB.out.size _⟩
                have HX0 : Aside0 ((W_.iter D 0).heap[w.heap.size]? = some (.cells (sv ⟨del, fol, true, false, most⟩ Ad Af cd cf) 38 (0, 0))) := ⟨((below_alloc (Below.refl _ _) _).block _ (Array.getElem?_eq_some_iff.1 HX.out).1).trans HX.out⟩
                have hrd2 : noErr D (D.size + 1) 0 = true ∧ D.size ≤ 300 := by
                  unfold rdb at hrd
                  simpa using hrd
                obtain ⟨hne, h300⟩ := hrd2
                have HE0 := Aside0.mk hne
                clear hne hrd HB HX z0 z1 z2 z3 z4 hit
                go_loopg [5, 7] D.size (fun kq y5 y7 w' => ∃ (p : Nat) (Y : List Int), y5 = .string (strOfNums Y) ∧ Aside0 (D.size ≤ p + kq ∧ p ≤ D.size) ∧ Aside0 (NW D 0 p Y) ∧ Aside0 (noErr D (kq + 1) p = true) ∧ Aside0 (w'.heap[it]? = some (.stringIter D p)) ∧ Aside0 (Below w.heap.size w w') ∧ Aside0 (w'.heap[w.heap.size]? = some (.cells (sv ⟨del, fol, true, false, most⟩ Ad Af cd cf) 38 (0, 0))))
                case atStart => exact ⟨0, [], rfl, ⟨by omega⟩, ⟨.refl _⟩, HE0, HI0, HB0, HX0⟩
                case round =>
                  clear HI0 HB0 HX0 HE0
                  obtain ⟨p, Y, rfl, HM, HN, HE, HI, HB, HX⟩ := hrel
                  obtain ⟨m1, m2⟩ := HM.out
                  have z0 := cells_at HX.out 0 _ rfl; have z1 := cells_at HX.out 1 _ rfl; have z2 := cells_at HX.out 2 _ rfl; have z3 := cells_at HX.out 3 _ rfl; have z4 := cells_at HX.out 4 _ rfl
                  by_cases hp : p < D.size
                  · cases gk with
                    | zero => omega
                    | succ k =>
                    obtain ⟨q1, q2, q3⟩ := rn_size D p hp
                    obtain ⟨r, hr⟩ : ∃ r, (rn D p).1 = r := ⟨_, rfl⟩
                    obtain ⟨sz, hsz⟩ : ∃ sz, (rn D p).2 = sz := ⟨_, rfl⟩
                    have HRS : Aside0 (rn D p = (r, sz)) := ⟨by rw [← hr, ← hsz]⟩
                    rw [hr] at q3
                    rw [hsz] at q1 q2
                    have he := HE.out
                    rw [noErr, if_pos hp, HRS.out] at he
                    have hr5 : r ≠ 65533 := by intro e; rw [e] at he; simp at he
                    have HE2 : Aside0 (noErr D (k + 1) (p + sz) = true) := ⟨by simpa [hr5] using he⟩
                    have hnx : ∀ ty, (Instr.next (.pointer (some ⟨it, 0, none⟩)) true ty).run Tryd.prog wr = .ok (.tuple #[.bool true, .int .i64 p, .int .i32 r]) (wr.iterAt it D (p + sz)) := fun ty => by
                      have h := Lib.run_next_any_at (P := Tryd.prog) wr it D p ty HI.out hp
                      have h2 : Utf8.decode D p = (r, sz) := HRS.out
                      rw [h2] at h
                      exact h
                    have HI2 := Aside0.mk (Lib.iterAt_heap wr it D p (p + sz) HI.out)
                    have HB2 := Aside0.mk (Lib.below_iterAt HB.out HIT.out D (p + sz))
                    have HX2 := Aside0.mk ((Lib.iterAt_other wr it w.heap.size D (p + sz) (fun e => by have h1 := HI.out; rw [← e, HX.out] at h1; cases h1)).trans HX.out)
                    obtain ⟨Wi, hWi⟩ : ∃ Wi, Wi = wr.iterAt it D (p + sz) := ⟨_, rfl⟩
                    rw [← hWi] at hnx HI2 HB2 HX2
                    clear hWi hr hsz he HE HI HB HX z0 z1 z2 z3 z4
                    have HI := HI2
                    have HB := HB2
                    have HX := HX2
                    clear HI2 HB2 HX2
                    have z0 := cells_at HX.out 0 _ rfl; have z1 := cells_at HX.out 1 _ rfl; have z2 := cells_at HX.out 2 _ rfl; have z3 := cells_at HX.out 3 _ rfl; have z4 := cells_at HX.out 4 _ rfl
                    obtain ⟨jw, hjw⟩ := white_ev (r : Int)
                    have hwv : laws_white.f jw (r : Int) = some (decide (Wh (r : Int))) := hjw jw (Nat.le_refl _)
                    rw [wh_space] at hwv
                    clear hjw
                    cases hs : Lib.isSpaceZ r with
                    | true =>
                      have HWV : Aside0 (laws_white.f jw (r : Int) = some true) := ⟨by rw [hwv, hs]⟩
                      clear hwv
                      go_wp2_with (go_at_call 18; refine (laws_white.calls jw _ _ _ HWV.out).mono ?_; rintro _ W_ ⟨rfl, hd_⟩; have hb_ := hd_.below; clear hd_; have HI_ := Aside0.mk ((hb_.block _ (Array.getElem?_eq_some_iff.1 HI.out).1).trans HI.out); clear HI; have HI := HI_; clear HI_; have HB_ := Aside0.mk (HB.out.trans (hb_.mono HB.out.size)); have HX_ := Aside0.mk ((hb_.block _ (Array.getElem?_eq_some_iff.1 HX.out).1).trans HX.out); clear hb_ HB HX z0 z1 z2 z3 z4; have HB := HB_; have HX := HX_; clear HB_ HX_; have z0 := cells_at HX.out 0 _ rfl; have z1 := cells_at HX.out 1 _ rfl; have z2 := cells_at HX.out 2 _ rfl; have z3 := cells_at HX.out 3 _ rfl; have z4 := cells_at HX.out 4 _ rfl)
                      go_roundg k
                      case measure => omega
                      case rel => exact ⟨p + sz, Y, rfl, ⟨by omega⟩, ⟨by have := HN.out.trans (.space hp HRS.out hs (.refl _)); rwa [List.append_nil] at this⟩, HE2, HI, HB, HX⟩
                    | false =>
                      have HWV : Aside0 (laws_white.f jw (r : Int) = some false) := ⟨by rw [hwv, hs]⟩
                      clear hwv
                      have hlen := HN.out.len
                      have hen := rune_bytes hp HRS.out hr5
                      have hsum : (strOfNums Y).size + (strOfNums (seg D p sz)).size ≤ 9223372036854775807 := by rw [strOfNums_size, strOfNums_size, seg_len]; omega
                      go_wp2_with (go_at_call 18; refine (laws_white.calls jw _ _ _ HWV.out).mono ?_; rintro _ W_ ⟨rfl, hd_⟩; have hb_ := hd_.below; clear hd_; have HI_ := Aside0.mk ((hb_.block _ (Array.getElem?_eq_some_iff.1 HI.out).1).trans HI.out); clear HI; have HI := HI_; clear HI_; have HB_ := Aside0.mk (HB.out.trans (hb_.mono HB.out.size)); have HX_ := Aside0.mk ((hb_.block _ (Array.getElem?_eq_some_iff.1 HX.out).1).trans HX.out); clear hb_ HB HX z0 z1 z2 z3 z4; have HB := HB_; have HX := HX_; clear HB_ HX_; have z0 := cells_at HX.out 0 _ rfl; have z1 := cells_at HX.out 1 _ rfl; have z2 := cells_at HX.out 2 _ rfl; have z3 := cells_at HX.out 3 _ rfl; have z4 := cells_at HX.out 4 _ rfl)
                      go_roundg k
                      case measure => omega
                      case rel => exact ⟨p + sz, Y ++ seg D p sz, by rw [nums_append], ⟨by omega⟩, ⟨by have := HN.out.trans (.word hp HRS.out hs (.refl _)); rwa [List.append_nil] at this⟩, HE2, HI, HB, HX⟩
                  · have hnx : ∀ ty, (Instr.next (.pointer (some ⟨it, 0, none⟩)) true ty).run Tryd.prog wr = _ := fun ty => Lib.run_next_end_at wr it D p ty HI.out hp
                    obtain rfl : p = D.size := by omega
                    obtain ⟨X, hX, hcat⟩ := outs_cat ⟨del, fol, true, false, most⟩ rfl (D.size + 1) D ⟨#[]⟩ (by omega)
                    obtain rfl := HN.out.one hX
                    have hcat2 : catL ⟨#[]⟩ (outs ⟨del, fol, true, false, most⟩ (D.size + 1) D) = strOfNums Y := by rw [hcat]; apply ByteArray.ext; simp
                    have hol := outs_len ⟨del, fol, true, false, most⟩ (D.size + 1) D
                    have hlen := hX.len
                    obtain ⟨jj, hjj⟩ := joined_ev (outs ⟨del, fol, true, false, most⟩ (D.size + 1) D) (by omega) (by rw [hcat2, strOfNums_size]; omega)
                    have HJ := Aside0.mk (hjj jj (Nat.le_refl _))
                    rw [hcat2] at HJ
                    clear hjj hcat hcat2 hX HN HE
                    obtain ⟨T, hT⟩ : ∃ T, T = strOfNums Y := ⟨_, rfl⟩
                    rw [← hT] at HJ ⊢
                    clear hT HI
                    go_wp2_with (first | (go_at_call 20; refine (sents_calls _ ⟨del, fol, true, false, most⟩ Ad Af cd cf D (Kd.C_below HCD.out HB.out) hcd (Kd.C_below HCF.out HB.out) hcf hl1 hl2 (by omega) (Utf8Tabs_below HT.out HB.out) (WhiteTab_below HW.out HB.out)).mono ?_; rintro _ W_ ⟨v_, rfl, hr_, hb_⟩; obtain ⟨A_, c_, e_, l_, C_⟩ := Kd.R_reads hr_; subst e_; have HO := Aside0.mk C_; clear hr_ C_; have HB_ := Aside0.mk (HB.out.trans (hb_.mono HB.out.size)); have HX_ := Aside0.mk ((hb_.block _ (Array.getElem?_eq_some_iff.1 HX.out).1).trans HX.out); clear hb_ HB HX z0 z1 z2 z3 z4; have HB := HB_; have HX := HX_; clear HB_ HX_; have z0 := cells_at HX.out 0 _ rfl; have z1 := cells_at HX.out 1 _ rfl; have z2 := cells_at HX.out 2 _ rfl; have z3 := cells_at HX.out 3 _ rfl; have z4 := cells_at HX.out 4 _ rfl) | (go_at_call 19; refine (laws_joined.calls jj A_ c_ _ _ _ _ HO.out l_ HJ.out).mono ?_; rintro _ W_ ⟨rfl, hd_⟩; have hb_ := hd_.below; clear hd_; have HB_ := Aside0.mk (HB.out.trans (hb_.mono HB.out.size)); have HX_ := Aside0.mk ((hb_.block _ (Array.getElem?_eq_some_iff.1 HX.out).1).trans HX.out); clear hb_ HB HX z0 z1 z2 z3 z4; have HB := HB_; have HX := HX_; clear HB_ HX_; have z0 := cells_at HX.out 0 _ rfl; have z1 := cells_at HX.out 1 _ rfl; have z2 := cells_at HX.out 2 _ rfl; have z3 := cells_at HX.out 3 _ rfl; have z4 := cells_at HX.out 4 _ rfl) | (go_at_call 17; refine (parts_calls _ (Utf8Tabs_below HT.out HB.out) (WhiteTab_below HW.out HB.out)).mono ?_; rintro _ W_ ⟨rfl, hb_⟩; have HB_ := Aside0.mk (HB.out.trans (hb_.mono HB.out.size)); have HX_ := Aside0.mk ((hb_.block _ (Array.getElem?_eq_some_iff.1 HX.out).1).trans HX.out); clear hb_ HB HX z0 z1 z2 z3 z4; have HB := HB_; have HX := HX_; clear HB_ HX_; have z0 := cells_at HX.out 0 _ rfl; have z1 := cells_at HX.out 1 _ rfl; have z2 := cells_at HX.out 2 _ rfl; have z3 := cells_at HX.out 3 _ rfl; have z4 := cells_at HX.out 4 _ rfl))
                    go_ret
                    exact ⟨rfl, HB.out⟩
      · have hDb : (D.size : Int) > 2147483647 := by omega
        go_wp2_with (first | (go_at_call 14; refine (laws_zzFits18.calls Ad cd del Af cf fol _ _ _ _ _ (Kd.C_below HCD.out HB.out) hcd (Kd.C_below HCF.out HB.out) hcf HFT.out).mono ?_; rintro _ W_ ⟨rfl, hb_⟩; have HB_ := Aside0.mk (HB.out.trans (hb_.mono HB.out.size)); have HX_ := Aside0.mk ((hb_.block _ (Array.getElem?_eq_some_iff.1 HX.out).1).trans HX.out); clear hb_ HB HX z0 z1 z2 z3 z4; have HB := HB_; have HX := HX_; clear HB_ HX_; have z0 := cells_at HX.out 0 _ rfl; have z1 := cells_at HX.out 1 _ rfl; have z2 := cells_at HX.out 2 _ rfl; have z3 := cells_at HX.out 3 _ rfl; have z4 := cells_at HX.out 4 _ rfl) | (go_at_call 15; refine (laws_splits.calls js Ad cd del Af cf fol _ _ _ _ _ (Kd.C_below HCD.out HB.out) hcd (Kd.C_below HCF.out HB.out) hcf HSP.out).mono ?_; rintro _ W_ ⟨rfl, hb_⟩; have HB_ := Aside0.mk (HB.out.trans (hb_.mono HB.out.size)); have HX_ := Aside0.mk ((hb_.block _ (Array.getElem?_eq_some_iff.1 HX.out).1).trans HX.out); clear hb_ HB HX z0 z1 z2 z3 z4; have HB := HB_; have HX := HX_; clear HB_ HX_; have z0 := cells_at HX.out 0 _ rfl; have z1 := cells_at HX.out 1 _ rfl; have z2 := cells_at HX.out 2 _ rfl; have z3 := cells_at HX.out 3 _ rfl; have z4 := cells_at HX.out 4 _ rfl) | (go_at_call 16; refine (readable_calls D _).mono ?_; rintro _ W_ ⟨rfl, hb_⟩; rw [hrd]; have HB_ := Aside0.mk (HB.out.trans (hb_.mono HB.out.size)); have HX_ := Aside0.mk ((hb_.block _ (Array.getElem?_eq_some_iff.1 HX.out).1).trans HX.out); clear hb_ HB HX z0 z1 z2 z3 z4; have HB := HB_; have HX := HX_; clear HB_ HX_; have z0 := cells_at HX.out 0 _ rfl; have z1 := cells_at HX.out 1 _ rfl; have z2 := cells_at HX.out 2 _ rfl; have z3 := cells_at HX.out 3 _ rfl; have z4 := cells_at HX.out 4 _ rfl) | (go_at_call 17; refine (parts_calls _ (Utf8Tabs_below HT.out HB.out) (WhiteTab_below HW.out HB.out)).mono ?_; rintro _ W_ ⟨rfl, hb_⟩; have HB_ := Aside0.mk (HB.out.trans (hb_.mono HB.out.size)); have HX_ := Aside0.mk ((hb_.block _ (Array.getElem?_eq_some_iff.1 HX.out).1).trans HX.out); clear hb_ HB HX z0 z1 z2 z3 z4; have HB := HB_; have HX := HX_; clear HB_ HX_; have z0 := cells_at HX.out 0 _ rfl; have z1 := cells_at HX.out 1 _ rfl; have z2 := cells_at HX.out 2 _ rfl; have z3 := cells_at HX.out 3 _ rfl; have z4 := cells_at HX.out 4 _ rfl))
        go_ret
        exact ⟨rfl, HB.out⟩
    · have hfb : (decide (del.length ≤ 2147483647) && decide (fol.length ≤ 2147483647)) = false := by simp [hl2]
      have HFT : Aside0 (laws_zzFits18.f del fol skip dbl most = some false) := ⟨by rw [fits_f, hfb]⟩
      clear hfb
      go_wp2_with (first | (go_at_call 14; refine (laws_zzFits18.calls Ad cd del Af cf fol _ _ _ _ _ (Kd.C_below HCD.out HB.out) hcd (Kd.C_below HCF.out HB.out) hcf HFT.out).mono ?_; rintro _ W_ ⟨rfl, hb_⟩; have HB_ := Aside0.mk (HB.out.trans (hb_.mono HB.out.size)); have HX_ := Aside0.mk ((hb_.block _ (Array.getElem?_eq_some_iff.1 HX.out).1).trans HX.out); clear hb_ HB HX z0 z1 z2 z3 z4; have HB := HB_; have HX := HX_; clear HB_ HX_; have z0 := cells_at HX.out 0 _ rfl; have z1 := cells_at HX.out 1 _ rfl; have z2 := cells_at HX.out 2 _ rfl; have z3 := cells_at HX.out 3 _ rfl; have z4 := cells_at HX.out 4 _ rfl) | (go_at_call 15; refine (laws_splits.calls js Ad cd del Af cf fol _ _ _ _ _ (Kd.C_below HCD.out HB.out) hcd (Kd.C_below HCF.out HB.out) hcf HSP.out).mono ?_; rintro _ W_ ⟨rfl, hb_⟩; have HB_ := Aside0.mk (HB.out.trans (hb_.mono HB.out.size)); have HX_ := Aside0.mk ((hb_.block _ (Array.getElem?_eq_some_iff.1 HX.out).1).trans HX.out); clear hb_ HB HX z0 z1 z2 z3 z4; have HB := HB_; have HX := HX_; clear HB_ HX_; have z0 := cells_at HX.out 0 _ rfl; have z1 := cells_at HX.out 1 _ rfl; have z2 := cells_at HX.out 2 _ rfl; have z3 := cells_at HX.out 3 _ rfl; have z4 := cells_at HX.out 4 _ rfl) | (go_at_call 16; refine (readable_calls D _).mono ?_; rintro _ W_ ⟨rfl, hb_⟩; rw [hrd]; have HB_ := Aside0.mk (HB.out.trans (hb_.mono HB.out.size)); have HX_ := Aside0.mk ((hb_.block _ (Array.getElem?_eq_some_iff.1 HX.out).1).trans HX.out); clear hb_ HB HX z0 z1 z2 z3 z4; have HB := HB_; have HX := HX_; clear HB_ HX_; have z0 := cells_at HX.out 0 _ rfl; have z1 := cells_at HX.out 1 _ rfl; have z2 := cells_at HX.out 2 _ rfl; have z3 := cells_at HX.out 3 _ rfl; have z4 := cells_at HX.out 4 _ rfl) | (go_at_call 17; refine (parts_calls _ (Utf8Tabs_below HT.out HB.out) (WhiteTab_below HW.out HB.out)).mono ?_; rintro _ W_ ⟨rfl, hb_⟩; have HB_ := Aside0.mk (HB.out.trans (hb_.mono HB.out.size)); have HX_ := Aside0.mk ((hb_.block _ (Array.getElem?_eq_some_iff.1 HX.out).1).trans HX.out); clear hb_ HB HX z0 z1 z2 z3 z4; have HB := HB_; have HX := HX_; clear HB_ HX_; have z0 := cells_at HX.out 0 _ rfl; have z1 := cells_at HX.out 1 _ rfl; have z2 := cells_at HX.out 2 _ rfl; have z3 := cells_at HX.out 3 _ rfl; have z4 := cells_at HX.out 4 _ rfl))
      go_ret
      exact ⟨rfl, HB.out⟩
  · have hfb : (decide (del.length ≤ 2147483647) && decide (fol.length ≤ 2147483647)) = false := by simp [hl1]
    have HFT : Aside0 (laws_zzFits18.f del fol skip dbl most = some false) := ⟨by rw [fits_f, hfb]⟩
    clear hfb
    go_wp2_with (first | (go_at_call 14; refine (laws_zzFits18.calls Ad cd del Af cf fol _ _ _ _ _ (Kd.C_below HCD.out HB.out) hcd (Kd.C_below HCF.out HB.out) hcf HFT.out).mono ?_; rintro _ W_ ⟨rfl, hb_⟩; have HB_ := Aside0.mk (HB.out.trans (hb_.mono HB.out.size)); have HX_ := Aside0.mk ((hb_.block _ (Array.getElem?_eq_some_iff.1 HX.out).1).trans HX.out); clear hb_ HB HX z0 z1 z2 z3 z4; have HB := HB_; have HX := HX_; clear HB_ HX_; have z0 := cells_at HX.out 0 _ rfl; have z1 := cells_at HX.out 1 _ rfl; have z2 := cells_at HX.out 2 _ rfl; have z3 := cells_at HX.out 3 _ rfl; have z4 := cells_at HX.out 4 _ rfl) | (go_at_call 15; refine (laws_splits.calls js Ad cd del Af cf fol _ _ _ _ _ (Kd.C_below HCD.out HB.out) hcd (Kd.C_below HCF.out HB.out) hcf HSP.out).mono ?_; rintro _ W_ ⟨rfl, hb_⟩; have HB_ := Aside0.mk (HB.out.trans (hb_.mono HB.out.size)); have HX_ := Aside0.mk ((hb_.block _ (Array.getElem?_eq_some_iff.1 HX.out).1).trans HX.out); clear hb_ HB HX z0 z1 z2 z3 z4; have HB := HB_; have HX := HX_; clear HB_ HX_; have z0 := cells_at HX.out 0 _ rfl; have z1 := cells_at HX.out 1 _ rfl; have z2 := cells_at HX.out 2 _ rfl; have z3 := cells_at HX.out 3 _ rfl; have z4 := cells_at HX.out 4 _ rfl) | (go_at_call 16; refine (readable_calls D _).mono ?_; rintro _ W_ ⟨rfl, hb_⟩; rw [hrd]; have HB_ := Aside0.mk (HB.out.trans (hb_.mono HB.out.size)); have HX_ := Aside0.mk ((hb_.block _ (Array.getElem?_eq_some_iff.1 HX.out).1).trans HX.out); clear hb_ HB HX z0 z1 z2 z3 z4; have HB := HB_; have HX := HX_; clear HB_ HX_; have z0 := cells_at HX.out 0 _ rfl; have z1 := cells_at HX.out 1 _ rfl; have z2 := cells_at HX.out 2 _ rfl; have z3 := cells_at HX.out 3 _ rfl; have z4 := cells_at HX.out 4 _ rfl) | (go_at_call 17; refine (parts_calls _ (Utf8Tabs_below HT.out HB.out) (WhiteTab_below HW.out HB.out)).mono ?_; rintro _ W_ ⟨rfl, hb_⟩; have HB_ := Aside0.mk (HB.out.trans (hb_.mono HB.out.size)); have HX_ := Aside0.mk ((hb_.block _ (Array.getElem?_eq_some_iff.1 HX.out).1).trans HX.out); clear hb_ HB HX z0 z1 z2 z3 z4; have HB := HB_; have HX := HX_; clear HB_ HX_; have z0 := cells_at HX.out 0 _ rfl; have z1 := cells_at HX.out 1 _ rfl; have z2 := cells_at HX.out 2 _ rfl; have z3 := cells_at HX.out 3 _ rfl; have z4 := cells_at HX.out 4 _ rfl))
    go_ret
    exact ⟨rfl, HB.out⟩
theorem walk_skip (Aa0_0 : Option Addr) (ca0_0 : Nat) (a0_0 : (List Int)) (Aa0_1 : Option Addr) (ca0_1 : Nat) (a0_1 : (List Int)) (a0_2 : Bool) (a0_3 : Bool) (a0_4 : Int) (a1 : ByteArray) (w : World) (hL : laidMet Tryd.prog Rows.fnSentencesSkipRow.laid w) (hra0_0 : Kd.C (Kd.int .i32) w Aa0_0 a0_0.length a0_0) (hca0_0 : a0_0.length ≤ ca0_0) (hga0_0 : a0_0.length * 4 ≤ 140737488351232 ∧ ∀ y0 ∈ a0_0, (Lit.int .i32 y0).wf = true) (hra0_1 : Kd.C (Kd.int .i32) w Aa0_1 a0_1.length a0_1) (hca0_1 : a0_1.length ≤ ca0_1) (hga0_1 : a0_1.length * 4 ≤ 140737488351232 ∧ ∀ y0 ∈ a0_1, (Lit.int .i32 y0).wf = true) (hga0_4 : (Lit.int .i64 a0_4).wf = true) (hg1 : a1.size ≤ 140737488351232) :
    Calls Tryd.prog 5 #[.agg #[.slice Aa0_0 a0_0.length ca0_0, .slice Aa0_1 a0_1.length ca0_1, .bool a0_2, .bool a0_3, .int .i64 a0_4], .string a1] w fun e w' => e = .returned (.bool true) ∧ Below w.heap.size w w' := by
  have hT := Tabs.met hL (by rw [← Tabs.d3]; simp [Rows.fnSentencesSkipRow]) (by rw [← Tabs.d4]; simp [Rows.fnSentencesSkipRow]) (by rw [← Tabs.d6]; simp [Rows.fnSentencesSkipRow])
  exact skip_calls w ⟨a0_0, a0_1, a0_2, a0_3, a0_4⟩ Aa0_0 Aa0_1 ca0_0 ca0_1 a1 hra0_0 hca0_0 hra0_1 hca0_1 hT.1 hT.2 hg1
end Go.Proofs.YtckdpckdabfkbabDoor.Scan
