/- laws.parts. -/
import Derived.Test.YtckdpckdabfkbabDoorSents
namespace Go.Proofs.YtckdpckdabfkbabDoor.Scan
open Go.RowKit Go.Proofs.YtckdpckdabfkbabDoorW.PrintWords Go.Proofs.YtckdpckdabfkbabDoor.Plain Go.Proofs.YtckdpckdabfkbabDoor.Num Go.Proofs.YtckdpckdabfkbabDoor.PC
set_option linter.unusedVariables false
set_option linter.unusedSimpArgs false
def SP : Sp := ⟨[46], [], false, false, 100⟩
def D3 : ByteArray := ⟨#[97, 46, 98]⟩
def D1 : ByteArray := ⟨#[98]⟩
theorem g0 : rn D3 0 = (97, 1) := decode_ascii D3 0 (by decide) (by decide)
theorem g1 : rn D3 1 = (46, 1) := decode_ascii D3 1 (by decide) (by decide)
theorem g2 : rn D3 2 = (98, 1) := decode_ascii D3 2 (by decide) (by decide)
theorem g3 : rn D1 0 = (98, 1) := decode_ascii D1 0 (by decide) (by decide)
theorem rest2 : rest D3 2 = D1 := by
  have h : (D3.extract 2 D3.size).data = D3.data.extract 2 D3.size := by simp
  have h2 : D3.data.extract 2 D3.size = D1.data := by decide
  unfold rest
  rw [ByteArray.ext_iff, h, h2]
theorem rest1 : (rest D1 1).size = 0 := by rw [rest_size]; decide
theorem scan3 : scan SP D3 true = ⟨2, true, 0, ([] ++ seg D3 0 1) ++ seg D3 1 1⟩ := by
  show outer SP D3 true (3 + 1) 0 0 [] 0 true false = _
  rw [outer_b2 (by decide) g0 rfl rfl (by decide), outer_b3 (by decide) g1 rfl rfl (by decide), inner_5 (by decide) g2 rfl (by decide)]
theorem scan1 : scan SP D1 true = ⟨1, true, 0, [] ++ seg D1 0 1⟩ := by
  show outer SP D1 true (1 + 1) 0 0 [] 0 true false = _
  rw [outer_b2 (by decide) g3 rfl rfl (by decide), outer_end (by decide), if_pos rfl]
  rfl
theorem parts_outs : outs SP (D3.size + 1) D3 = [⟨#[97, 46]⟩, ⟨#[98]⟩] := by
  have h : D3.size + 1 = 2 + 1 + 1 := by decide
  rw [h]
  rw [outs, if_neg (by decide), scan3]
  simp only []
  rw [rest2, outs, if_neg (by decide), scan1]
  simp only []
  rw [outs_end (by rw [rest1]; decide)]
  rfl
theorem parts_same : laws_same_string.f 10 [⟨#[97, 46]⟩, ⟨#[98]⟩] [⟨#[97, 46]⟩, ⟨#[98]⟩] = some true := by kernel_rfl
theorem reps_map {α : Type} (enc : α → Value) (xs : List α) : Reps (fun x cs => cs = [enc x]) 1 xs (xs.map enc) := by
  refine ⟨by simp, fun j q hq => ?_⟩
  have hj := (List.getElem?_eq_some_iff.1 hq).1
  have hq2 : xs[j] = q := (List.getElem?_eq_some_iff.1 hq).2
  rw [Nat.mul_one]
  apply List.ext_getElem
  · simp; omega
  · intro i h1 h2
    simp at h2
    subst h2
    simp [hq2]
theorem lit_R {α : Type} (enc : α → Value) (h1 : ∀ x, (enc x).oneCell' = true) (W : World) (e : Nat) (xs : List α) (hm : xs.length ≤ 9223372036854775807) : (Kd.scalar enc h1).R e (W.alloc (.cells (xs.map enc).toArray e)) W.heap.size (fun _ => True) (.slice (some ⟨W.heap.size, 0, none⟩) xs.length xs.length) xs := by
  refine ⟨fun _ _ => trivial, xs.map enc, ?_, reps_map enc xs⟩
  have h2 := World.ownsRow_lit (base := W.heap.size) (e := e) (size := 1) W (xs.map enc).toArray xs.length (Nat.le_refl _) (by simpa [maxLen] using hm) (by simp)
  simp only [Kd.scalar] at h2 ⊢
  simpa using h2
theorem lit_C {α : Type} (enc : α → Value) (h1 : ∀ x, (enc x).oneCell' = true) (W : World) (e : Nat) (xs : List α) (hm : xs.length ≤ 9223372036854775807) : (Kd.scalar enc h1).C (W.alloc (.cells (xs.map enc).toArray e)) (some ⟨W.heap.size, 0, none⟩) xs.length xs :=
  (Kd.R_reads' (lit_R enc h1 W e xs hm)).2.2
set_option maxHeartbeats 8000000 in
set_option maxRecDepth 100000 in
theorem parts_calls (w : World) (ht : Lib.Utf8Tabs 1 2 w) (hw : Lib.WhiteTab 0 w) :
    Calls Tryd.prog 17 #[] w fun e w' => e = .returned (.bool true) ∧ Below w.heap.size w w' := by
  have HT := Aside0.mk ht
  have HW := Aside0.mk hw
  clear ht hw
  have HC : Aside0 ((Kd.int .i32).C (w.alloc (.cells #[.int .i32 46] 21)) (some ⟨w.heap.size, 0, none⟩) 1 [46]) := ⟨lit_C (Value.int .i32) (fun _ => rfl) w 21 [46] (by simp)⟩
  have HB : Aside0 (Below w.heap.size w (w.alloc (.cells #[.int .i32 46] 21))) := ⟨below_alloc (Below.refl _ _) _⟩
  obtain ⟨w3, hw3⟩ : ∃ w3, w3 = w.alloc (.cells #[.int .i32 46] 21) := ⟨_, rfl⟩
  rw [← hw3] at HC HB
  have HS := Aside0.mk (sents_calls w3 SP (some ⟨w.heap.size, 0, none⟩) none 1 0 D3 HC.out (Nat.le_refl _) (Kd.C_nil _ _) (Nat.le_refl _) (by simp [SP]) (by simp [SP]) (by decide) (Utf8Tabs_below HT.out HB.out) (WhiteTab_below HW.out HB.out))
  go_enter Tryd.func17, Tryd.ntmps17
  go_wp2_with fail
  rw [← hw3]
  clear hw3 HC
  refine HS.out.mono ?_
  rintro _ W4 ⟨v, rfl, hR, hB4⟩
  rw [parts_outs] at hR
  obtain ⟨A2, c2, e2, l2, C2⟩ := Kd.R_reads hR
  subst e2
  have HB4 : Aside0 (Below w.heap.size w W4) := ⟨HB.out.trans (hB4.mono HB.out.size)⟩
  obtain ⟨W5, hW5⟩ : ∃ W5, W5 = W4.alloc (.cells #[.string ⟨#[97, 46]⟩, .string ⟨#[98]⟩] 9) := ⟨_, rfl⟩
  have HC4 : Aside0 (Kd.string.C W5 (some ⟨W4.heap.size, 0, none⟩) 2 [⟨#[97, 46]⟩, ⟨#[98]⟩]) := ⟨by rw [hW5]; exact lit_C Value.string (fun _ => rfl) W4 9 [⟨#[97, 46]⟩, ⟨#[98]⟩] (by simp)⟩
  have HC3 : Aside0 (Kd.string.C W5 A2 2 [⟨#[97, 46]⟩, ⟨#[98]⟩]) := ⟨by rw [hW5]; exact Kd.C_alloc C2 _⟩
  have HB5 : Aside0 (Below w.heap.size w W5) := ⟨by rw [hW5]; exact HB4.out.alloc HB4.out.size _⟩
  have HQ := Aside0.mk (laws_same_string.calls 10 A2 c2 [⟨#[97, 46]⟩, ⟨#[98]⟩] (some ⟨W4.heap.size, 0, none⟩) 2 [⟨#[97, 46]⟩, ⟨#[98]⟩] true W5 HC3.out l2 HC4.out (Nat.le_refl _) parts_same)
  clear hR hB4 C2 HB HS HC3 HC4 HB4
  go_wp2_with fail
  rw [← hW5]
  clear hW5
  refine HQ.out.mono ?_
  rintro _ W6 ⟨rfl, hD⟩
  have HB6 : Aside0 (Below w.heap.size w W6) := ⟨HB5.out.trans (hD.below.mono HB5.out.size)⟩
  clear hD
  go_wp2_with fail
  go_ret
  exact ⟨rfl, HB6.out⟩
end Go.Proofs.YtckdpckdabfkbabDoor.Scan
