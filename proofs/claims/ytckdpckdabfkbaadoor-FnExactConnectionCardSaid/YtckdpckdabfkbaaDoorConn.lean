/- A table of costs: written, read. -/
import Derived.Deep.DeepMust
import Derived.Outline
import Derived.Test.YtckdpckdabfkbaaDoorIO
namespace Go.Proofs.YtckdpckdabfkbaaDoor.Num
open Go.RowKit Go.Proofs.YtckdpckdabfkbaaDoorW.PrintWords Go.Proofs.YtckdpckdabfkbaaDoor.Plain
set_option linter.unusedVariables false
set_option linter.unusedSimpArgs false

/-- What is written of a table when i costs are. -/
def wct (R C : Int) (vec : List Int) (i : Nat) : List Int := leb 8 (R % 18446744073709551616) ++ leb 8 (C % 18446744073709551616) ++ (vec.take i).flatMap fun v => leb 2 (v % 18446744073709551616)
theorem wct_len (R C : Int) (vec : List Int) (i : Nat) : (wct R C vec i).length = 16 + 2 * min i vec.length := by
  have : ∀ l : List Int, (l.flatMap fun v => leb 2 (v % 18446744073709551616)).length = 2 * l.length := fun l => by
    induction l with
    | nil => rfl
    | cons a l ih => simp [List.flatMap_cons, ih, leb_length]; omega
  simp [wct, leb_length, this]
  omega
theorem wct_succ (R C : Int) (vec : List Int) (i : Nat) (v : Int) (h : vec[i]? = some v) : wct R C vec (i + 1) = wct R C vec i ++ leb 2 (v % 18446744073709551616) := by
  simp [wct, List.take_add_one, h]

set_option maxHeartbeats 8000000 in
set_option maxRecDepth 100000 in
theorem tableTo_calls (w : World) (R C : Int) (A : Option Addr) (c : Nat) (vec : List Int) (hC : (Kd.int .i16).C w A vec.length vec) (hc : vec.length ≤ c) (hl : vec.length ≤ 1000000000000)
    (B b : Nat) (hI : Lib.IsBuffer 49 5 B b [] w) (hS : B ≤ w.heap.size) (hA : ∀ a, A = some a → a.block ≠ b ∧ ∃ cs t, w.heap[a.block]? = some (.cells cs t (0, 0)) ∧ t ≠ 5) :
    Calls Tryd.prog 15 #[.agg #[.int .i64 R, .int .i64 C, .slice A vec.length c], .iface 54 (.pointer (some ⟨b, 0, none⟩))] w fun e w' =>
      e = .returned (.tuple #[.int .i64 ((16 + 2 * vec.length : Nat) : Int), .nilIface]) ∧ Lib.IsBuffer 49 5 B b (u8s (wct R C vec vec.length)) w' ∧ Below B w w' := by
  obtain ⟨w1, hw1⟩ : ∃ w1, w1 = w.alloc (.cells #[.int .i64 R, .int .i64 C, .slice A vec.length c] 44) := ⟨_, rfl⟩
  have hbl : b < w.heap.size := hI.lt
  have hT : w1.heap[w.heap.size]? = some (.cells #[.int .i64 R, .int .i64 C, .slice A vec.length c] 44 (0, 0)) := by rw [hw1]; exact blk_new w _
  have HT := Aside0.mk (othC (w := w1) (b := b) (a := ⟨w.heap.size, 0, none⟩) ⟨by simp; omega, _, _, hT, by decide⟩)
  have HC : Aside0 ((Kd.int .i16).C w1 A vec.length vec) := ⟨by rw [hw1]; exact Kd.C_alloc hC _⟩
  have HI : Aside0 (Lib.IsBuffer 49 5 B b (u8s []) w1) := ⟨by rw [hw1]; exact bufAlloc hI _⟩
  have HS : Aside0 (B ≤ w1.heap.size) := ⟨by rw [hw1, Own.size_alloc]; omega⟩
  have HA : Aside0 (∀ a, A = some a → a.block ≠ b ∧ ∃ cs t, w1.heap[a.block]? = some (.cells cs t (0, 0)) ∧ t ≠ 5) := ⟨fun a ha => by
    obtain ⟨h1, cs, t, h2, h3⟩ := hA a ha
    exact ⟨h1, cs, t, by rw [hw1]; exact blk_alloc h2 _, h3⟩⟩
  have HB0 : Aside0 (Below B w w1) := ⟨by rw [hw1]; exact (Below.refl _ _).alloc hS _⟩
  have HN : Aside0 (vec.length ≤ 1000000000000) := ⟨hl⟩
  have Z0 := Aside0.mk (cells_at hT 0 _ rfl)
  have Z1 := Aside0.mk (cells_at hT 1 _ rfl)
  have Z2 := Aside0.mk (cells_at hT 2 _ rfl)
  have HO := Aside0.mk (Lib.OthersKept.refl 5 (some b) w1)
  have HB := Aside0.mk (Below.refl B w1)
  have z0 : w1.cell? ⟨w.heap.size, 0, none⟩ = some (.int .i64 R) := Z0.out
  have z1 : w1.cell? ⟨w.heap.size, 1, none⟩ = some (.int .i64 C) := Z1.out
  have z2 : w1.cell? ⟨w.heap.size, 2, none⟩ = some (.slice A vec.length c) := Z2.out
  clear hC hI hS hA hT
  go_enter Tryd.func15, Tryd.ntmps15
  go_wp2_with fail
  rw [← hw1]
  clear hw1
  go_wp2_with (first | (go_at_call 21; go_must (refine (write64 B b _ _ _ HI.out HS.out (u8s_one _) (by simp [u8s, leb_length])).mono ?_; rintro _ W_ ⟨rfl, hI_, hB_, hO_⟩; rw [← u8s_app] at hI_; have HI_ := Aside0.mk hI_; have HB_ := Aside0.mk (HB.out.trans hB_); have HS_ := Aside0.mk (Nat.le_trans HS.out hB_.size); have HO_ := Aside0.mk (HO.out.trans hO_); have z0_ := HT.out _ HO_.out _ _ Z0.out rfl; have z1_ := HT.out _ HO_.out _ _ Z1.out rfl; have z2_ := HT.out _ HO_.out _ _ Z2.out rfl; clear HI HB HS HO z0 z1 z2 hI_ hB_ hO_; have HI := HI_; have HB := HB_; have HS := HS_; have HO := HO_; have z0 := z0_; have z1 := z1_; have z2 := z2_; clear HI_ HB_ HS_ HO_ z0_ z1_ z2_)) | (go_at_call 22; refine (size64 _ _).mono ?_; rintro _ _ ⟨rfl, rfl⟩))
  go_loopg [4, 39] vec.length (fun kq v4 v39 w' => ∃ (i : Nat), v39 = .int .i64 i ∧ v4 = .int .i64 ((16 + 2 * i : Nat) : Int) ∧ Aside0 (i + kq = vec.length) ∧ Aside0 (Lib.IsBuffer 49 5 B b (u8s (wct R C vec i)) w') ∧ Aside0 (Below B w1 w') ∧ Aside0 (B ≤ w'.heap.size) ∧ Aside0 (Lib.OthersKept 5 (some b) w1 w'))
  case atStart => exact ⟨0, rfl, rfl, ⟨by omega⟩, ⟨by have := HI.out; simpa [wct] using this⟩, HB, HS, HO⟩
  case round =>
    clear z0 z1 z2
    obtain ⟨i, rfl, rfl, HK, HI, HB, HS, HO⟩ := hrel
    have z0 := HT.out _ HO.out _ _ Z0.out rfl
    have z1 := HT.out _ HO.out _ _ Z1.out rfl
    have z2 := HT.out _ HO.out _ _ Z2.out rfl
    by_cases c1 : (i : Int) < (vec.length : Int)
    · have hi : i < vec.length := by omega
      obtain ⟨ad, rfl⟩ : ∃ ad, A = some ad := by
        obtain ⟨ad, e, _⟩ := HC.out.2.2 (by omega)
        exact ⟨ad, e⟩
      obtain ⟨v, hv⟩ : ∃ v, v = vec[i] := ⟨_, rfl⟩
      have HM : Aside0 (vec[i]? = some v) := ⟨by rw [hv]; exact List.getElem?_eq_getElem hi⟩
      have Y0 := Aside0.mk (C_cells HC.out i v HM.out)
      have HZ := Aside0.mk (othC (HA.out ad rfl))
      have y := HZ.out _ HO.out _ _ Y0.out (add_block ad i)
      clear hv
      have p1 : (0 : Int) ≤ i := by omega
      have c1b := decide_eq_true c1
      have HN' := HN.out
      go_wp2_with (first | (go_at_call 23; go_must (refine (write16 B b _ _ _ HI.out HS.out (u8s_one _) (by have := HN.out; simp [u8s, wct_len]; omega)).mono ?_; rintro _ W_ ⟨rfl, hI_, hB_, hO_⟩; rw [← u8s_app] at hI_; have HI_ := Aside0.mk hI_; have HB_ := Aside0.mk (HB.out.trans hB_); have HS_ := Aside0.mk (Nat.le_trans HS.out hB_.size); have HO_ := Aside0.mk (HO.out.trans hO_); have z0_ := HT.out _ HO_.out _ _ Z0.out rfl; have z1_ := HT.out _ HO_.out _ _ Z1.out rfl; have z2_ := HT.out _ HO_.out _ _ Z2.out rfl; have y_ := HZ.out _ HO_.out _ _ Y0.out (add_block ad i); clear HI HB HS HO z0 z1 z2 y hI_ hB_ hO_; have HI := HI_; have HB := HB_; have HS := HS_; have HO := HO_; have z0 := z0_; have z1 := z1_; have z2 := z2_; have y := y_; clear HI_ HB_ HS_ HO_ z0_ z1_ z2_ y_)) | (go_at_call 24; refine (size16 _ _).mono ?_; rintro _ _ ⟨rfl, rfl⟩))
      have HK' := HK.out
      cases gk with
      | zero => omega
      | succ k9 =>
        go_roundg k9
        case measure => omega
        case rel => exact ⟨i + 1, int_eq (by first | omega | (rw [wrap_ok (by omega) (by omega)]; omega)), int_eq (by first | omega | (rw [wrap_ok (by omega) (by omega)]; omega)), ⟨by omega⟩, ⟨by rw [wct_succ _ _ _ _ _ HM.out]; exact HI.out⟩, HB, HS, HO⟩
    · have c1b := decide_eq_false c1
      obtain rfl : i = vec.length := by have := HK.out; omega
      go_wp2_with fail
      go_ret2
      exact ⟨rfl, HI.out, HB0.out.trans HB.out⟩
end Go.Proofs.YtckdpckdabfkbaaDoor.Num
