/- The sanity check of the laws on filters. -/
import Derived.Test.YtckdpckdabfkbaaFilter5
namespace Go.Proofs.Ytckdpckdabfkbaa.Filter
open Go.RowKit Go.Proofs.YtckdpckdabfkbaaW.PrintWords Go.Proofs.Ytckdpckdabfkbaa.Plain Go.Proofs.Ytckdpckdabfkbaa.PB
set_option linter.unusedVariables false
set_option linter.unusedSimpArgs false

theorem C_strings (w : World) (g : Nat) (hg : g = w.heap.size) (fr : Nat × Nat) (vs : List Value) (xs : List ByteArray) (hv : vs = xs.map Value.string) (hm : xs.length ≤ 1000000) :
    Kd.C Kd.string (w.alloc (.cells vs.toArray 9 fr)) (some ⟨g, 0, none⟩) xs.length xs := by
  subst hg hv
  exact Own.C_alloc_new (enc := Value.string) (h1 := fun _ => rfl) w xs 9 fr _ rfl (by omega)
theorem C_lists (w : World) (g : Nat) (hg : g = w.heap.size) (fr : Nat × Nat) (vs : List Value) (xs : List (List ByteArray)) (hl : vs.length = xs.length) (hm : xs.length ≤ 1000000)
    (hk : ∀ (j : Nat) (p : List ByteArray) (u : Value), xs[j]? = some p → vs[j]? = some u → ∃ A c, u = .slice A p.length c ∧ p.length ≤ c ∧ Kd.C Kd.string w A p.length p) :
    Kd.C (Kd.slice 9 Kd.string) (w.alloc (.cells vs.toArray 22 fr)) (some ⟨g, 0, none⟩) xs.length xs :=
  Own.C_new1 rfl w g hg 22 fr vs xs hl (by omega) (fun j p u hp hu => by
    obtain ⟨A, c, rfl, hc, hC⟩ := hk j p u hp hu
    exact ⟨A, c, rfl, hc, Kd.C_alloc hC _⟩)

def bn : ByteArray := ⟨#[110]⟩
def bx : ByteArray := ⟨#[120]⟩
def bv : ByteArray := ⟨#[118]⟩

abbrev w1 (w : World) : World := w.alloc (.cells #[.string bn] 9)
abbrev w2 (w : World) : World := (w1 w).alloc (.cells #[.slice (some ⟨w.heap.size, 0, none⟩) 1 1] 22)
abbrev w3 (w : World) : World := (w2 w).alloc (.cells #[.string bn, .string bx] 9)
abbrev w4 (w : World) : World := (w3 w).alloc (.cells #[.string bv] 9)
abbrev w5 (w : World) : World := (w4 w).alloc (.cells #[.slice (some ⟨w.heap.size + 1 + 1, 0, none⟩) 2 2, .slice (some ⟨w.heap.size + 1 + 1 + 1, 0, none⟩) 1 1] 22)
theorem rows (w : World) : Kd.C (Kd.slice 9 Kd.string) (w5 w) (some ⟨w.heap.size + 1, 0, none⟩) 1 [[bn]] ∧ Kd.C (Kd.slice 9 Kd.string) (w5 w) (some ⟨w.heap.size + 1 + 1 + 1 + 1, 0, none⟩) 2 [[bn, bx], [bv]] := by
  have h1 := C_strings w w.heap.size rfl (0, 0) [.string bn] [bn] rfl (by decide)
  have h2 := C_lists (w1 w) (w.heap.size + 1) (by simp [w1, Own.size_alloc]) (0, 0) [.slice (some ⟨w.heap.size, 0, none⟩) 1 1] [[bn]] rfl (by decide) (fun j p u hp hu => by
    match j with
    | 0 =>
      simp only [List.getElem?_cons_zero, Option.some.injEq] at hp hu
      subst hp hu
      exact ⟨_, _, rfl, Nat.le_refl _, h1⟩
    | j + 1 => simp at hp)
  have h3 := C_strings (w2 w) (w.heap.size + 1 + 1) (by simp [w1, w2, Own.size_alloc]) (0, 0) [.string bn, .string bx] [bn, bx] rfl (by decide)
  have h4 := C_strings (w3 w) (w.heap.size + 1 + 1 + 1) (by simp [w1, w2, w3, Own.size_alloc]) (0, 0) [.string bv] [bv] rfl (by decide)
  have h5 := C_lists (w4 w) (w.heap.size + 1 + 1 + 1 + 1) (by simp [w1, w2, w3, w4, Own.size_alloc]) (0, 0) [.slice (some ⟨w.heap.size + 1 + 1, 0, none⟩) 2 2, .slice (some ⟨w.heap.size + 1 + 1 + 1, 0, none⟩) 1 1] [[bn, bx], [bv]] rfl (by decide) (fun j p u hp hu => by
    match j with
    | 0 =>
      simp only [List.getElem?_cons_zero, Option.some.injEq] at hp hu
      subst hp hu
      exact ⟨_, _, rfl, Nat.le_refl _, Kd.C_alloc h3 _⟩
    | 1 =>
      simp only [List.getElem?_cons_succ, List.getElem?_cons_zero, Option.some.injEq] at hp hu
      subst hp hu
      exact ⟨_, _, rfl, Nat.le_refl _, h4⟩
    | j + 2 => simp at hp)
  exact ⟨Kd.C_alloc (Kd.C_alloc (Kd.C_alloc h2 _) _) _, h5⟩

set_option maxHeartbeats 4000000 in
set_option maxRecDepth 100000 in
theorem takes_calls (w : World) : Calls Try.prog 17 #[] w fun e w' => e = .returned (.bool true) ∧ Below w.heap.size w w' := by
  go_enter Try.func17, Try.ntmps17
  go_wp2_with fail
  obtain ⟨r1, r2⟩ := rows w
  refine (implMatch_calls 5 (w5 w) _ 1 [[bn]] _ 2 [[bn, bx], [bv]] r1 (by decide) r2 (by decide) (by decide +kernel) (by decide) (by decide)).mono ?_
  rintro _ W2 ⟨v, rfl, hR, B2⟩
  obtain ⟨A2, c2, rfl, hl2, hC2⟩ := Kd.R_reads hR
  have hm : [[bn, bx], [bv]].map (mt (build [[bn]]) 0) = [true, false] := by decide +kernel
  rw [hm] at hC2
  have HC2 := Aside0.mk hC2
  have HB : Aside0 (Below w.heap.size w W2) := ⟨(below_alloc (below_alloc (below_alloc (below_alloc (below_alloc (Below.refl _ _) _) _) _) _) _).trans (B2.mono (by simp only [Own.size_alloc]; omega))⟩
  have HL2 : Aside0 (2 ≤ c2) := ⟨by simpa using hl2⟩
  clear r1 r2 hR B2 hC2 hl2 hm
  go_wp2_with fail
  refine (laws_same_bool.calls 5 A2 c2 [true, false] (some ⟨W2.heap.size, 0, none⟩) 2 [true, false] true _ (Kd.C_alloc HC2.out _) HL2.out
    (Own.C_alloc_new (enc := Value.bool) (h1 := fun _ => rfl) W2 [true, false] 4 (0, 0) _ rfl (by decide)) (by decide) same_ev).mono ?_
  rintro _ W3 ⟨rfl, ⟨n3, rfl⟩⟩
  go_wp2_with fail
  go_ret
  exact ⟨rfl, pw_below_drewN (below_alloc HB.out _) n3⟩
end Go.Proofs.Ytckdpckdabfkbaa.Filter
