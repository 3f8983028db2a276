/- The walks over tries and what they compute: part 4 of several, put together by a program. -/
import Derived.Test.YtaejkbjepbifcabDoorJ3
import Derived.Test.YtaejkbjepbifcabDoorJ0
import Derived.Laws.Rows
import Derived.Laws.MakeOwn
import Derived.Test.YtaejkbjepbifcabDoorJ2
import Derived.Test.YtaejkbjepbifcabDoorRows
import Derived.LaidLaws
import Derived.LaidMore
import Derived.Stop.ErrReads
import Derived.RowKitTokens
namespace Go.Proofs.YtaejkbjepbifcabDoor.Num
open Go.RowKit Go.Proofs.YtaejkbjepbifcabDoorW.PrintWords Go.Proofs.YtaejkbjepbifcabDoor.Plain
set_option linter.unusedVariables false
set_option linter.unusedSimpArgs false

/-- The bytes of a cell, and of the first i cells with their number ahead. -/
def cby (s : Da.DA) (i : Nat) : List Int := leb 4 (s.B i % 18446744073709551616) ++ leb 4 (s.C i % 18446744073709551616)
def wrtD (s : Da.DA) (i : Nat) : List Int := leb 8 ((s.n : Int) % 18446744073709551616) ++ (List.range i).flatMap (cby s)
theorem wrtD_len (s : Da.DA) (i : Nat) : (wrtD s i).length = 8 + 8 * i := by
  have : ∀ i, ((List.range i).flatMap (cby s)).length = 8 * i := fun i => by
    induction i with
    | zero => rfl
    | succ i ih => rw [List.range_succ, List.flatMap_append, List.length_append, ih]; simp [cby, leb_length]; omega
  simp [wrtD, leb_length, this]
theorem wrtD_succ (s : Da.DA) (i : Nat) : wrtD s (i + 1) = wrtD s i ++ leb 4 (s.B i % 18446744073709551616) ++ leb 4 (s.C i % 18446744073709551616) := by
  simp [wrtD, List.range_succ, cby]

theorem oth_thru {w wr W : World} {b : Nat} (h : Lib.OthersKept 5 (some b) w wr) (x : Obj) (h1 : Lib.OthersKept 5 (some b) (wr.alloc x) W) : Lib.OthersKept 5 (some b) w W :=
  fun k o hk hne ht => h1 k o (by rw [Below.heap_alloc _ _ _ (blk_lt (h k o hk hne ht))]; exact h k o hk hne ht) hne ht
theorem oth_kept {w W : World} {b k : Nat} {cs : Array Value} {t : TypeId} (h : Lib.OthersKept 5 (some b) w W) (hk : w.heap[k]? = some (.cells cs t (0, 0))) (hb : b ≠ k) (ht : t ≠ 5) : W.heap[k]? = some (.cells cs t (0, 0)) :=
  h k _ hk (by simp only [ne_eq, Option.some.injEq]; omega) (fun c fz e => by injection e with _ e; exact ht e)
set_option maxHeartbeats 8000000 in
set_option maxRecDepth 100000 in
theorem writeTo_calls (w : World) (g : Nat) (s : Da.DA) (m : Da.Arr w g s) (B b : Nat) (hI : Lib.IsBuffer 61 5 B b [] w) (hS : B ≤ w.heap.size) (hg : g ≠ b) :
    Calls Tryd.prog 20 #[.slice (some ⟨g, 0, none⟩) s.n s.n, .iface 64 (.pointer (some ⟨b, 0, none⟩))] w fun e w' =>
      e = .returned (.tuple #[.int .i64 ((8 + 8 * s.n : Nat) : Int), .nilIface]) ∧ Lib.IsBuffer 61 5 B b (u8s (wrtD s s.n)) w' ∧ Below B w w' ∧ Lib.OthersKept 5 (some b) w w' := by
  have HC := Aside0.mk m
  have HI := Aside0.mk hI
  have HS := Aside0.mk hS
  have HN : Aside0 (s.n ≤ 1073741824) := ⟨m.big⟩
  have HG : Aside0 (∀ W, Lib.OthersKept 5 (some b) w W → W.heap[g]? = w.heap[g]?) := ⟨fun W hO => by
    obtain ⟨cells, h, _⟩ := m.ar
    rw [h]; exact hO g _ h (by simpa using hg) (fun c fz e => by injection e with _ e; exact absurd e (by decide))⟩
  have hlen : (0 : Int) ≤ s.n := by omega
  clear m hI hS hg
  go_enter Tryd.func20, Tryd.ntmps20
  go_wp2_with (first | (go_at_call 35; refine (write64 B b _ _ _ HI.out HS.out (by simp) (by simp)).mono ?_; rintro _ W0 ⟨rfl, hI_, hB_, hO_⟩; have HI_ := Aside0.mk hI_; have HB := Aside0.mk hB_; have HO := Aside0.mk hO_; have HS_ := Aside0.mk (Nat.le_trans HS.out hB_.size); clear HI HS hI_ hB_ hO_; have HI := HI_; have HS := HS_; clear HI_ HS_) | (go_at_call 36; refine (size64 _ _).mono ?_; rintro _ _ ⟨rfl, rfl⟩))
  go_loopg [4, 27] s.n (fun kq v4 v27 w' => ∃ (i : Nat), v27 = .int .i64 i ∧ v4 = .int .i64 ((8 + 8 * i : Nat) : Int) ∧ Aside0 (i + kq = s.n) ∧ Aside0 (Lib.IsBuffer 61 5 B b (u8s (wrtD s i)) w') ∧ Aside0 (Below B w w') ∧ Aside0 (B ≤ w'.heap.size) ∧ Aside0 (Lib.OthersKept 5 (some b) w w'))
  case atStart => exact ⟨0, rfl, rfl, ⟨by omega⟩, ⟨by have := HI.out; simpa [wrtD] using this⟩, HB, HS, HO⟩
  case round =>
    obtain ⟨i, rfl, rfl, HK, HI, HB, HS, HO⟩ := hrel
    by_cases c1 : (i : Int) < (s.n : Int)
    · have hgw := HG.out _ HO.out
      have y0 : wr.cell? ⟨g, i * 2, none⟩ = some (.int .i32 (s.B i)) := (cell_block (p := ⟨g, i * 2, none⟩) hgw).trans (HC.out.base i (by omega))
      have y1 : wr.cell? ⟨g, i * 2 + 1, none⟩ = some (.int .i32 (s.C i)) := (cell_block (p := ⟨g, i * 2 + 1, none⟩) hgw).trans (HC.out.chk i (by omega))
      have p1 : (0 : Int) ≤ i := by omega
      have c1b := decide_eq_true c1
      clear hgw
      have HN' := HN.out
      have e0 : wrap64 ((8 + 8 * i : Nat) : Int) = ((8 + 8 * i : Nat) : Int) := by rw [wrap_ok (by omega) (by omega)]
      have hbl : b < wr.heap.size := HI.out.lt
      have WR1 := Aside0.mk (write32 B b (u8s (wrtD s i)) (s.B i) (wr.alloc (.cells #[.int .i32 (s.B i), .int .i32 (s.C i)] 82)) (bufAlloc HI.out _) (by rw [Own.size_alloc]; have := HS.out; omega) (u8s_one _) (by have := HN.out; simp only [u8s, List.length_map, wrtD_len]; omega))
      go_wp2_with (first | (go_at_call 37; with_reducible refine Calls.mono WR2.out ?_; rintro _ W2 ⟨rfl, hI2, hB2, hO2⟩; rw [← u8s_app] at hI2; have HI2 := Aside0.mk hI2; have HB2 := Aside0.mk (HB1.out.trans hB2); have HS2 := Aside0.mk (Nat.le_trans HS1.out hB2.size); have HO2 := Aside0.mk (HO1.out.trans hO2); have z3 : W2.cell? ⟨wr.heap.size, 1, none⟩ = some (.int .i32 (s.C i)) := cells_at (oth_kept hO2 HBX.out (by omega) (by decide)) 1 _ rfl; clear hI2 hB2 hO2 z2) | (go_at_call 37; with_reducible refine Calls.mono WR1.out ?_; rintro _ W1 ⟨rfl, hI1, hB1, hO1⟩; rw [← u8s_app] at hI1; have HI1 := Aside0.mk hI1; have HB1 := Aside0.mk ((HB.out.alloc HS.out _).trans hB1); have HS1 : Aside0 (B ≤ W1.heap.size) := ⟨Nat.le_trans (by rw [Own.size_alloc]; have := HS.out; omega) hB1.size⟩; have HO1 := Aside0.mk (oth_thru HO.out _ hO1); have HBX := Aside0.mk (oth_kept hO1 (blk_new wr _) (by omega) (by decide)); have WR2 := Aside0.mk (write32 B b _ (s.C i) W1 HI1.out HS1.out (u8s_one _) (by have := HN.out; simp only [u8s, List.length_map, List.length_append, leb_length, wrtD_len]; omega)); have z1 : W1.cell? ⟨wr.heap.size, 0, none⟩ = some (.int .i32 (s.B i)) := cells_at HBX.out 0 _ rfl; have z2 : W1.cell? ⟨wr.heap.size, 1, none⟩ = some (.int .i32 (s.C i)) := cells_at HBX.out 1 _ rfl; clear hI1 hB1 hO1) | (go_at_call 38; refine (size32 _ _).mono ?_; rintro _ _ ⟨rfl, rfl⟩))
      have HK' := HK.out
      cases gk with
      | zero => omega
      | succ k9 =>
        go_roundg k9
        case measure => omega
        case rel => exact ⟨i + 1, int_eq (by omega), int_eq (by omega), ⟨by omega⟩, ⟨by rw [wrtD_succ]; exact HI2.out⟩, HB2, HS2, HO2⟩
    · have c1b := decide_eq_false c1
      obtain rfl : i = s.n := by have := HK.out; omega
      go_wp2_with fail
      go_ret2
      exact ⟨rfl, HI.out, HB.out, HO.out⟩
end Go.Proofs.YtaejkbjepbifcabDoor.Num
namespace Go.Proofs.YtaejkbjepbifcabDoor.Num
open Go.RowKit Go.Proofs.YtaejkbjepbifcabDoorW.PrintWords Go.Proofs.YtaejkbjepbifcabDoor.Plain
set_option linter.unusedVariables false
set_option linter.unusedSimpArgs false

/-- What trie.Read answers: all l rows, or an error. -/
def RdD (w : World) (r : Nat) (a : Addr) (n c l : Nat) (data : List Int) (e : Ending) (w' : World) : Prop :=
  (∃ G, e = .returned (.tuple #[.slice (some ⟨G, 0, none⟩) l l, .nilIface]) ∧ 8 + 8 * l ≤ n ∧ RS w w' r a n c 8 data G (l * 2) 82 (l * 2)) ∨
  (∃ v t x, e = .returned (.tuple #[v, .iface t x]) ∧ n < 8 + 8 * l ∧ Kp w w' (fun y => y = r))
theorem zeros_rcells (n : Nat) (data : List Int) : Da.zeros n = .cells (rcells 8 data (n * 2) 0) 82 := by
  unfold Da.zeros
  congr 1
  apply Array.ext
  · simp [rcells_size, size_madeCells]
  · intro j h1 h2
    have hj : j < n * 2 := by simpa [rcells_size] using h2
    apply Option.some.inj
    rw [← Array.getElem?_eq_getElem, ← Array.getElem?_eq_getElem, Da.madeCells_at _ _ hj, rcells_get _ _ _ _ _ hj]
    simp
theorem make_da (W : World) (l : Nat) (data : List Int) (hl : l ≤ 1073741824) :
    (Instr.makeSlice 51 (.int .i64 l) (.int .i64 l)).run Tryd.prog W = .ok (.slice (some ⟨W.heap.size, 0, none⟩) l l) (W.alloc (.cells (rcells 8 data (l * 2) 0) 82)) := by
  rw [← zeros_rcells]; exact Da.make_run W l (by omega)

set_option maxHeartbeats 8000000 in
set_option maxRecDepth 100000 in
theorem readDA_calls (w : World) (r : Nat) (a : Addr) (n c l : Nat) (pr : Int) (data : List Int) (x : Ctx w r a n c data) (hr : w.heap[r]? = some (rdr (some a) n c 0 pr))
    (h8 : 8 ≤ n) (hl : wrap64 (valb ((data.drop 0).take 8)) = l) (hln : l ≤ n) (hlb : l ≤ 1073741824) :
    Calls Tryd.prog 24 #[.iface 69 (.pointer (some ⟨r, 0, none⟩))] w (RdD w r a n c l data) := by
  have X := Aside0.mk x
  have HN : Aside0 (n ≤ 1000000000000) := ⟨x.few⟩
  have R1 := Aside0.mk (read64_ok (w.alloc (.cells #[.int .i64 0] 2)) r a n c 0 pr data w.heap.size 0 0 (blk_alloc hr _) (Kd.C_alloc x.row _) x.bytes h8 x.cap x.few x.ne (by rw [Own.size_alloc]; have := x.lt; omega)
    (cells_at (blk_new w _) 0 _ rfl) (froz_at (blk_new w _) 0) (by have := x.rlt; omega))
  have HL := Aside0.mk hl
  have MK := Aside0.mk fun (W : World) => make_da W l data hlb
  clear x hr hl
  go_enter Tryd.func24, Tryd.ntmps24
  go_wp2_with fail
  with_reducible refine Calls.mono R1.out ?_
  rintro _ W2 ⟨rfl, hk, h1, h2⟩
  have hL : W2.heap[w.heap.size]? = some (.cells #[.int .i64 l] 2 (0, 0)) := by
    rw [h2]
    exact blk_put (blk_new w _) 0 _ (by rw [HL.out]; rfl)
  have hk2 : Kp w W2 (fun y => y = r) := ⟨Nat.le_trans (by rw [Own.size_alloc]; omega) hk.1, fun i hi hS => by
    rw [hk.2 i (by rw [Own.size_alloc]; omega) (by rintro (h | h); exact hS h; omega), Below.heap_alloc _ _ _ hi], Env.trans (show Env w _ from ⟨rfl, rfl, rfl⟩) hk.env⟩
  have y0 : W2.cell? ⟨w.heap.size, 0, none⟩ = some (.int .i64 l) := cells_at hL 0 _ rfl
  have hmk := MK.out
  have HS0 : Aside0 (RS w (W2.alloc (.cells (rcells 8 data (l * 2) 0) 82)) r a n c 8 data W2.heap.size (l * 2) 82 0) :=
    ⟨⟨blk_alloc h1 _, blk_new W2 _, ⟨by rw [Own.size_alloc]; have := hk2.1; omega, fun i hi hS => by rw [Below.heap_alloc _ _ _ (Nat.lt_of_lt_of_le hi hk2.1)]; exact hk2.2 i hi hS, hk2.env.trans ⟨rfl, rfl, rfl⟩⟩, hk2.1⟩⟩
  obtain ⟨G, hG⟩ : ∃ G, G = W2.heap.size := ⟨_, rfl⟩
  clear hk hk2 h1 h2 hL
  go_wp2_with fail
  rw [← hG] at HS0 ⊢
  obtain ⟨W3, hW3⟩ : ∃ W3, W3 = W2.alloc (.cells (rcells 8 data (l * 2) 0) 82) := ⟨_, rfl⟩
  rw [← hW3] at HS0 ⊢
  clear hW3 hG hmk MK y0 R1
  go_loopg [20] l (fun kq v20 w' => ∃ (i : Nat), v20 = .int .i64 i ∧ Aside0 (i + kq = l) ∧ Aside0 (RS w w' r a n c 8 data G (l * 2) 82 (i * 2)) ∧ Aside0 (8 + 8 * i ≤ n))
  case atStart => exact ⟨0, rfl, ⟨by omega⟩, HS0, ⟨by omega⟩⟩
  case round =>
    obtain ⟨i, rfl, HK, HS, HF⟩ := hrel
    by_cases c1 : (i : Int) < (l : Int)
    · have p1 : (0 : Int) ≤ i := by omega
      have c1b := decide_eq_true c1
      by_cases f1 : 8 + 4 * (i * 2) + 4 ≤ n
      · have f1' := f1
        have S1 := Aside0.mk (HS.out.step_ok X.out (by omega) (by omega))
        go_wp2_with fail
        with_reducible refine Calls.mono S1.out ?_
        rintro _ W4 ⟨rfl, hS⟩
        have HS2 := Aside0.mk hS
        clear hS
        by_cases f2 : 8 + 4 * (i * 2 + 1) + 4 ≤ n
        · have f2' := f2
          have S2 := Aside0.mk (HS2.out.step_ok X.out (by omega) (by omega))
          go_wp2_with fail
          with_reducible refine Calls.mono S2.out ?_
          rintro _ W5 ⟨rfl, hS⟩
          have HS3 := Aside0.mk hS
          clear hS
          go_wp2_with fail
          have HK' := HK.out
          have HN' := HN.out
          cases gk with
          | zero => omega
          | succ k9 =>
            go_roundg k9
            case measure => omega
            case rel => exact ⟨i + 1, int_eq (by first | omega | (rw [wrap_ok (by omega) (by omega)]; omega)), ⟨by omega⟩, ⟨by rw [show (i + 1) * 2 = i * 2 + 1 + 1 by omega]; exact HS3.out⟩, ⟨by omega⟩⟩
        · have f2' := f2
          have S2 := Aside0.mk (HS2.out.step_short X.out (by omega) (by omega) (by have := HF.out; omega))
          go_wp2_with fail
          with_reducible refine Calls.mono S2.out ?_
          rintro _ W5 ⟨t, y, rfl, hK⟩
          have HKK := Aside0.mk hK
          clear hK
          go_wp2_with fail
          go_ret2
          exact .inr ⟨_, t, y, rfl, by omega, HKK.out⟩
      · have f1' := f1
        have S1 := Aside0.mk (HS.out.step_short X.out (by omega) (by omega) (by have := HF.out; omega))
        go_wp2_with fail
        with_reducible refine Calls.mono S1.out ?_
        rintro _ W4 ⟨t, y, rfl, hK⟩
        have HKK := Aside0.mk hK
        clear hK
        go_wp2_with fail
        go_ret2
        exact .inr ⟨_, t, y, rfl, by omega, HKK.out⟩
    · have c1b := decide_eq_false c1
      obtain rfl : i = l := by have := HK.out; omega
      go_wp2_with fail
      go_ret2
      exact .inl ⟨G, rfl, HF.out, HS.out⟩

set_option maxHeartbeats 4000000 in
theorem readDA_tiny (w : World) (r : Nat) (A : Option Addr) (n c : Nat) (pr : Int) (data : List Int) (hs : Snt w)
    (hr : w.heap[r]? = some (rdr A n c 0 pr)) (hC : (Kd.int .u8).C w A n data) (h8 : n < 8) (hnc : n ≤ c) (hra : ∀ a, A = some a → 0 < n → r ≠ a.block ∧ a.block < w.heap.size)
    (hg : 1 ≠ r ∧ 2 ≠ r) :
    Calls Tryd.prog 24 #[.iface 69 (.pointer (some ⟨r, 0, none⟩))] w fun e w' => (∃ v t x, e = .returned (.tuple #[v, .iface t x])) ∧ Kp w w' (fun y => y = r) := by
  have hE : 1 < w.heap.size := by obtain ⟨a, h⟩ := hs.eof; exact blk_lt_cell h
  have hU : 2 < w.heap.size := by obtain ⟨t, x, h⟩ := hs.bad; exact blk_lt_cell h
  have R1 := Aside0.mk (read64_short (w.alloc (.cells #[.int .i64 0] 2)) r A n c 0 pr data w.heap.size 0 0 (hs.move (Below.heap_alloc _ _ _ hE) (Below.heap_alloc _ _ _ hU)) (blk_alloc hr _) (Kd.C_alloc hC _) (by omega) (by omega) hnc (by omega)
    (fun a ha h0 => ⟨(hra a ha h0).1, by rw [Own.size_alloc]; have := (hra a ha h0).2; omega⟩) (cells_at (blk_new w _) 0 _ rfl) hg)
  clear hs hr hC hra hg
  go_enter Tryd.func24, Tryd.ntmps24
  go_wp2_with fail
  with_reducible refine Calls.mono R1.out ?_
  rintro _ W2 ⟨t, x, rfl, hk⟩
  have HK := Aside0.mk hk
  clear hk
  go_wp2_with fail
  go_ret2
  have hz : w.heap.size ≤ W2.heap.size := Nat.le_trans (by rw [Own.size_alloc]; omega) HK.out.1
  exact ⟨⟨_, t, x, rfl⟩, by rw [Own.size_alloc]; omega, fun i hi hS => by rw [Below.heap_alloc _ _ _ (Nat.lt_of_lt_of_le hi hz), HK.out.2 i (by rw [Own.size_alloc]; omega) hS, Below.heap_alloc _ _ _ hi], Env.trans (show Env w _ from ⟨rfl, rfl, rfl⟩) (HK.out.env.trans ⟨rfl, rfl, rfl⟩)⟩
end Go.Proofs.YtaejkbjepbifcabDoor.Num
namespace Go.Proofs.YtaejkbjepbifcabDoor.Num
open Go.RowKit Go.Proofs.YtaejkbjepbifcabDoorW.PrintWords Go.Proofs.YtaejkbjepbifcabDoor.Plain
set_option linter.unusedVariables false
set_option linter.unusedSimpArgs false

theorem valb_leb4 (u : Int) (h : 0 ≤ u) : valb (leb 4 u) = u % 4294967296 := by
  rw [leb4]; simp only [valb]; omega
theorem valb_leb8 (u : Int) (h : 0 ≤ u) (h2 : u < 18446744073709551616) : valb (leb 8 u) = u := by
  rw [leb8]; simp only [valb]; omega
theorem back32 (b : Int) (h : -2147483647 ≤ b) (h2 : b ≤ 2147483647) : wrap32 (valb (leb 4 (b % 18446744073709551616))) = b := by
  rw [valb_leb4 _ (by omega)]; unfold wrap32; omega
theorem cby_at (s : Da.DA) (n i : Nat) (hi : i < n) : ∃ r, (List.range n).flatMap (cby s) = (List.range i).flatMap (cby s) ++ (cby s i ++ r) := by
  obtain ⟨m, rfl⟩ : ∃ m, n = i + (m + 1) := ⟨n - i - 1, by omega⟩
  rw [List.range_add, List.flatMap_append, List.range_succ_eq_map, List.map_cons, List.flatMap_cons]
  exact ⟨_, rfl⟩
theorem wrtD_at (s : Da.DA) (n i : Nat) (hi : i < n) : ((wrtD s n).drop (8 + 8 * i)).take 4 = leb 4 (s.B i % 18446744073709551616) ∧ ((wrtD s n).drop (8 + 8 * i + 4)).take 4 = leb 4 (s.C i % 18446744073709551616) := by
  obtain ⟨r, hr⟩ := cby_at s n i hi
  have hw : wrtD s n = wrtD s i ++ (leb 4 (s.B i % 18446744073709551616) ++ (leb 4 (s.C i % 18446744073709551616) ++ r)) := by
    unfold wrtD
    rw [hr]; simp only [cby, List.append_assoc]
  have hl := wrtD_len s i
  rw [hw]
  constructor
  · rw [List.drop_left' hl, List.take_left' (leb_length 4 _)]
  · rw [← List.drop_drop, List.drop_left' hl, List.drop_left' (leb_length 4 _), List.take_left' (leb_length 4 _)]
theorem wrtD_head (s : Da.DA) (n : Nat) (h : s.n ≤ 1073741824) : valb ((wrtD s n).take 8) = s.n := by
  unfold wrtD
  rw [List.take_left' (leb_length 8 _), valb_leb8 _ (by omega) (by omega)]
  omega
theorem val_B (s : Da.DA) (n i : Nat) (hi : i < n) (h : -2147483647 ≤ s.B i ∧ s.B i ≤ 2147483647) : val 8 (wrtD s n) (i * 2) = s.B i := by
  unfold val
  rw [show 8 + 4 * (i * 2) = 8 + 8 * i by omega, (wrtD_at s n i hi).1, back32 _ h.1 h.2]
theorem val_C (s : Da.DA) (n i : Nat) (hi : i < n) (h : -2147483647 ≤ s.C i ∧ s.C i ≤ 2147483647) : val 8 (wrtD s n) (i * 2 + 1) = s.C i := by
  unfold val
  rw [show 8 + 4 * (i * 2 + 1) = 8 + 8 * i + 4 by omega, (wrtD_at s n i hi).2, back32 _ h.1 h.2]
theorem wrtD_bytes (s : Da.DA) (n : Nat) : ∀ x ∈ wrtD s n, 0 ≤ x ∧ x < 256 := fun x hx => by
  unfold wrtD at hx
  rcases List.mem_append.1 hx with h | h
  · exact leb_one 8 _ x h
  · obtain ⟨i, _, h⟩ := List.mem_flatMap.1 h
    unfold cby at h
    rcases List.mem_append.1 h with h | h
    · exact leb_one 4 _ x h
    · exact leb_one 4 _ x h
/-- What a double array holds fits. -/
def Small (s : Da.DA) : Prop := (∀ i, i < s.n → -2147483647 ≤ s.B i ∧ s.B i ≤ 2147483647 ∧ -2147483647 ≤ s.C i ∧ s.C i ≤ 2147483647) ∧ s.n ≤ 1073741824
theorem arr_of {W : World} {G : Nat} {s : Da.DA} (hs : Small s) (h : W.heap[G]? = some (.cells (rcells 8 (wrtD s s.n) (s.n * 2) (s.n * 2)) 82 (0, 0))) : Da.Arr W G s :=
  ⟨⟨_, h, rcells_size _ _ _ _, fun i hi => ⟨by
    rw [rcells_get _ _ _ _ _ (by omega), if_pos (by omega), val_B s s.n i hi ⟨(hs.1 i hi).1, (hs.1 i hi).2.1⟩], by
    rw [rcells_get _ _ _ _ _ (by omega), if_pos (by omega), val_C s s.n i hi ⟨(hs.1 i hi).2.2.1, (hs.1 i hi).2.2.2⟩]⟩⟩, hs.1, hs.2⟩
end Go.Proofs.YtaejkbjepbifcabDoor.Num
namespace Go.Proofs.YtaejkbjepbifcabDoor.Num
open Go.RowKit Go.Proofs.YtaejkbjepbifcabDoorW.PrintWords Go.Proofs.YtaejkbjepbifcabDoor.Plain Go.Proofs.YtaejkbjepbifcabDoor.PB
set_option linter.unusedVariables false
set_option linter.unusedSimpArgs false

theorem sizedB_true {data : List Int} {l : Nat} (h : valb (data.take 8) = l) (hl : l ≤ data.length) : sizedB data = true := by
  unfold sizedB; rw [h, decide_eq_true (show (l : Int) ≤ data.length by omega), Bool.or_true]
theorem sizedB_tiny {data : List Int} (h : data.length < 8) : sizedB data = true := by
  unfold sizedB; rw [decide_eq_true h, Bool.true_or]
theorem sizedB_false {data : List Int} {l : Nat} (h8 : ¬ data.length < 8) (h : valb (data.take 8) = l) (hl : ¬ l ≤ data.length) : sizedB data = false := by
  unfold sizedB
  rw [h, decide_eq_false (show ¬ (l : Int) ≤ data.length by omega), decide_eq_false h8]; rfl

set_option maxHeartbeats 8000000 in
set_option maxRecDepth 100000 in
theorem trieRead_ok (w : World) (A Ai : Option Addr) (c ci : Nat) (data : List Int) (s : Da.DA) (L : Da.Keys) (ts : List ByteArray) (hs : Snt w) (hC : (Kd.int .u8).C w A data.length data) (hc : data.length ≤ c) (he : data = wrtD s s.n) (hsm : Small s) (hG : Da.Good s 0 L) (h0 : 0 < s.n) (hr : Kd.C Kd.string w Ai ts.length ts) (hI : Da.InsOk ts) :
    Calls Tryd.prog 12 #[.slice A data.length c, .slice Ai ts.length ci] w fun e w' => Da.AskE w w' L ts e := by
  have hb : ∀ x ∈ data, 0 ≤ x ∧ x < 256 := by rw [he]; exact wrtD_bytes s s.n
  have hlen : data.length = 8 + 8 * s.n := by rw [he]; exact wrtD_len s s.n
  have hbig := hsm.2
  have hv : valb (data.take 8) = s.n := by rw [he]; exact wrtD_head s s.n hbig
  obtain ⟨kS, eS⟩ := sized_ev data hb (by omega)
  have HZ := Aside0.mk (impl_sized.calls kS A c data (sizedB data) w hC hc (eS _ (Nat.le_refl _)))
  rw [sizedB_true hv (by omega)] at HZ
  clear eS
  have HC := Aside0.mk hC
  have HS := Aside0.mk hs
  have HBy := Aside0.mk hb
  have HE := Aside0.mk he
  have HV := Aside0.mk hv
  have HSM := Aside0.mk hsm
  have HG := Aside0.mk hG
  have HR := Aside0.mk hr
  have HI := Aside0.mk hI
  clear hC hs hb he hv hsm hG hr hI
  obtain ⟨a, rfl⟩ : ∃ a, A = some a := by
    obtain ⟨a, e, _⟩ := HC.out.2.2 (by omega)
    exact ⟨a, e⟩
  have hla := C_lt HC.out rfl (by omega)
  have T1 := Aside0.mk fun (q : Nat) => readDA_calls ((w.drewN q).alloc (rdr (some a) data.length c 0 (-1))) w.heap.size a data.length c s.n (-1) data
    ⟨Kd.C_alloc (Kd.C_drewN HC.out q) _, HBy.out, hc, by omega, by omega, by rw [Own.size_alloc]; exact Nat.lt_succ_of_lt hla, by rw [Own.size_alloc]; exact Nat.lt_succ_self _, sntAlloc (w := w.drewN q) (HS.out.move rfl rfl) _, (sntNe HS.out).1, (sntNe HS.out).2⟩
    (blk_new (w.drewN q) _) (by omega) (by rw [List.drop_zero, HV.out, wrap_ok (by omega) (by omega)]) (by omega) hbig
  have HLEN := Aside0.mk hlen
  clear hla hlen
  go_enter Tryd.func12, Tryd.ntmps12
  go_wp2_with fail
  with_reducible refine Calls.mono HZ.out ?_
  rintro _ W1 ⟨rfl, ⟨⟨q, rfl⟩⟩⟩
  go_wp2_with (go_at_call 25; refine (newReader _ _ _ _).mono ?_; rintro _ _ ⟨rfl, rfl⟩)
  with_reducible refine Calls.mono (T1.out q) ?_
  rintro _ W2 (⟨G, rfl, hfit, hrs⟩ | ⟨v, t, x, rfl, hshort, hk⟩)
  · have hB2 : Below w.heap.size w W2 := below_kept (below_alloc (pw_below_drewN (Below.refl _ _) q) _) (Nat.le_refl _) hrs.kept
    have hrow := hrs.row
    rw [HE.out] at hrow
    have T2 := Aside0.mk (Da.ask_calls W2 G ci s L ts Ai (arr_of HSM.out hrow) HG.out h0 HI.out.2 (Kd.C_below HR.out hB2) HI.out.1)
    have HB2 := Aside0.mk hB2
    clear hrs hB2 hrow T1 HZ
    go_wp2_with fail
    with_reducible refine Calls.mono T2.out ?_
    rintro _ W3 ⟨ov, rfl, hR, hB⟩
    have HR3 := Aside0.mk hR
    have HB3 := Aside0.mk hB
    clear hR hB T2
    go_wp2_with fail
    go_ret2
    exact ⟨ov, rfl, Kd.R_lower HR3.out HB2.out.size, HB2.out.trans (HB3.out.mono HB2.out.size)⟩
  · exfalso; have := HLEN.out; omega

set_option maxHeartbeats 8000000 in
set_option maxRecDepth 100000 in
theorem trieRead_short (w : World) (A Ai : Option Addr) (c ci n l : Nat) (data : List Int) (hs : Snt w) (hC : (Kd.int .u8).C w A data.length data) (hc : data.length ≤ c) (hb : ∀ x ∈ data, 0 ≤ x ∧ x < 256) (hn : data.length ≤ 100000000000) (hsh : data.length < 8 ∨ (valb (data.take 8) = l ∧ l ≤ 1073741824 ∧ data.length < 8 + 8 * l)) :
    Calls Tryd.prog 12 #[.slice A data.length c, .slice Ai n ci] w fun e w' => e = .returned (.tuple #[.slice none 0 0, .int .i64 1]) ∧ Below w.heap.size w w' := by
  obtain ⟨kS, eS⟩ := sized_ev data hb (by omega)
  have HZ := Aside0.mk (impl_sized.calls kS A c data (sizedB data) w hC hc (eS _ (Nat.le_refl _)))
  clear eS
  have HC := Aside0.mk hC
  have HS := Aside0.mk hs
  have HBy := Aside0.mk hb
  clear hC hs hb
  by_cases h8 : data.length < 8
  · rw [sizedB_tiny h8] at HZ
    go_enter Tryd.func12, Tryd.ntmps12
    go_wp2_with fail
    with_reducible refine Calls.mono HZ.out ?_
    rintro _ W1 ⟨rfl, ⟨⟨q, rfl⟩⟩⟩
    have T1 := Aside0.mk fun (q : Nat) => readDA_tiny ((w.drewN q).alloc (rdr A data.length c 0 (-1))) w.heap.size A data.length c (-1) data (sntAlloc (w := w.drewN q) (HS.out.move rfl rfl) _) (blk_new (w.drewN q) _) (Kd.C_alloc (Kd.C_drewN HC.out q) _) h8 hc
      (fun a ha h0 => by
        have h_ := C_lt HC.out ha h0
        exact ⟨by omega, by rw [Own.size_alloc]; exact Nat.lt_succ_of_lt h_⟩) (sntNe HS.out)
    clear hsh
    go_wp2_with (go_at_call 25; refine (newReader _ _ _ _).mono ?_; rintro _ _ ⟨rfl, rfl⟩)
    with_reducible refine Calls.mono (T1.out q) ?_
    rintro _ W2 ⟨⟨v, t, x, rfl⟩, hk⟩
    have HK := Aside0.mk hk
    clear hk T1
    go_wp2_with fail
    go_ret2
    exact ⟨rfl, below_kept (below_alloc (pw_below_drewN (Below.refl _ _) q) _) (Nat.le_refl _) HK.out⟩
  · obtain ⟨hl, hlb, hsh⟩ := hsh.resolve_left h8
    have HL := Aside0.mk hl
    by_cases hln : l ≤ data.length
    · rw [sizedB_true hl hln] at HZ
      clear hl
      obtain ⟨a, rfl⟩ : ∃ a, A = some a := by
        obtain ⟨a, e, _⟩ := HC.out.2.2 (by omega)
        exact ⟨a, e⟩
      have hla := C_lt HC.out rfl (by omega)
      have T1 := Aside0.mk fun (q : Nat) => readDA_calls ((w.drewN q).alloc (rdr (some a) data.length c 0 (-1))) w.heap.size a data.length c l (-1) data
        ⟨Kd.C_alloc (Kd.C_drewN HC.out q) _, HBy.out, hc, by omega, by omega, by rw [Own.size_alloc]; exact Nat.lt_succ_of_lt hla, by rw [Own.size_alloc]; exact Nat.lt_succ_self _, sntAlloc (w := w.drewN q) (HS.out.move rfl rfl) _, (sntNe HS.out).1, (sntNe HS.out).2⟩
        (blk_new (w.drewN q) _) (by omega) (by rw [List.drop_zero, HL.out, wrap_ok (by omega) (by omega)]) hln hlb
      clear hla
      go_enter Tryd.func12, Tryd.ntmps12
      go_wp2_with fail
      with_reducible refine Calls.mono HZ.out ?_
      rintro _ W1 ⟨rfl, ⟨⟨q, rfl⟩⟩⟩
      go_wp2_with (go_at_call 25; refine (newReader _ _ _ _).mono ?_; rintro _ _ ⟨rfl, rfl⟩)
      with_reducible refine Calls.mono (T1.out q) ?_
      rintro _ W2 (⟨G, rfl, hfit, hrs⟩ | ⟨v, t, x, rfl, hshort, hk⟩)
      · exfalso; omega
      · have HK := Aside0.mk hk
        clear hk T1
        go_wp2_with fail
        go_ret2
        exact ⟨rfl, below_kept (below_alloc (pw_below_drewN (Below.refl _ _) q) _) (Nat.le_refl _) HK.out⟩
    · rw [sizedB_false h8 hl hln] at HZ
      clear hl
      go_enter Tryd.func12, Tryd.ntmps12
      go_wp2_with fail
      with_reducible refine Calls.mono HZ.out ?_
      rintro _ W1 ⟨rfl, ⟨⟨q, rfl⟩⟩⟩
      go_wp2_with fail
      go_ret2
      exact ⟨rfl, pw_below_drewN (Below.refl _ _) q⟩
end Go.Proofs.YtaejkbjepbifcabDoor.Num
namespace Go.Proofs.YtaejkbjepbifcabDoor.Num
open Go.RowKit Go.Proofs.YtaejkbjepbifcabDoorW.PrintWords Go.Proofs.YtaejkbjepbifcabDoor.Plain Go.Proofs.YtaejkbjepbifcabDoor.PB
set_option linter.unusedVariables false
set_option linter.unusedSimpArgs false

theorem arr_alloc {w : World} {g : Nat} {s : Da.DA} (h : Da.Arr w g s) (x : Obj) : Da.Arr (w.alloc x) g s := by
  obtain ⟨⟨cells, h1, e⟩, h2, h3⟩ := h
  exact ⟨⟨cells, blk_alloc h1 _, e⟩, h2, h3⟩
/-- What TrieBytes hands back: the bytes of a double array that is good for the keys. -/
def Told (L : Da.Keys) (data : List Int) : Prop := ∃ s, data = wrtD s s.n ∧ Small s ∧ Da.Good s 0 L ∧ 0 < s.n
def TBy (w w' : World) (L : Da.Keys) (e : Ending) : Prop := ∃ (A : Option Addr) (c : Nat) (data : List Int), e = .returned (.tuple #[.slice A data.length c, .int .i64 0]) ∧ Aside0 (Told L data) ∧ Aside0 ((Kd.int .u8).C w' A data.length data) ∧ Aside0 (data.length ≤ c) ∧ Below w.heap.size w w'
set_option maxHeartbeats 8000000 in
set_option maxRecDepth 100000 in
theorem trieBytes_calls (W : World) (A0 A1 : Option Addr) (c0 c1 k : Nat) (ss : List ByteArray) (ds : List Int) (hr0 : Kd.C Kd.string W A0 ss.length ss) (hc0 : ss.length ≤ c0) (hr1 : Kd.C (Kd.int .i64) W A1 ds.length ds) (hc1 : ds.length ≤ c1) (hs : PB.slices_IsSorted_string_string.f k ss = some true) (K : Da.KeysOk ss ds) :
    Calls Tryd.prog 11 #[.slice A0 ss.length c0, .slice A1 ds.length c1] W fun e w' => TBy W w' (Da.keysAll ss ds) e := by
  have HR1 := Aside0.mk hr1
  have HC1 := Aside0.mk hc1
  have HK := Aside0.mk K
  have HS := Aside0.mk hs
  have h1 := Aside0.mk (PB.slices_Clone_string_string.calls A0 c0 ss ss W hr0 hc0 (Da.clone_strs ss K.few))
  clear hr0 hr1 hc1 hs K
  go_enter Tryd.func11, Tryd.ntmps11
  go_wp2_with (first | (go_at_call 18; refine h1.out.mono ?_; rintro e_ w1 ⟨v1, rfl, hv, hB⟩; have HB1 := Aside0.mk hB; have HV1 := Aside0.mk hv; have h2 := Aside0.mk (PB.slices_Clone_int_int.calls A1 c1 ds ds w1 (Kd.C_below HR1.out hB) HC1.out (Da.clone_ints ds (by rw [HK.out.len]; exact HK.out.few))); obtain ⟨kb, kc, rfl, b1, b2, b3, b4⟩ := Da.own_head hv HK.out.ne; have HKB := Aside0.mk b4; clear hB hv b4) | (go_at_call 19; refine h2.out.mono ?_; rintro e_ w2 ⟨v2, rfl, hv, hB⟩; have HB2 := Aside0.mk hB; have HV2 := Aside0.mk hv; obtain ⟨ib, ic, rfl, d1, d2, d3, d4⟩ := Da.own_head hv (fun e => HK.out.ne (List.length_eq_zero_iff.1 (by rw [← HK.out.len, e]; rfl))); have HIB := Aside0.mk d4; have hkb2 := Kd.C_below HKB.out hB; have h3 := Aside0.mk (Da.build_sorted w2 kb 0 ib 0 kc ic k ss ds (Da.src_of HK.out hkb2 d4 (by have := hB.size; omega) d2) hkb2 b3 HS.out HK.out.ne HK.out.ok HK.out.asc HK.out.tot); clear hB hv d4 hkb2) | (go_at_call 17; refine h3.out.mono ?_; rintro e_ w3 ⟨g, s, rfl, hA, hG, hn, hg, hK⟩; have HB3 := Aside0.mk (Da.kp_below hK); have HSM : Aside0 (Small s ∧ Da.Good s 0 (Da.keysAll ss ds) ∧ 0 < s.n) := ⟨⟨hA.i32, hA.big⟩, hG, hn⟩; have HA := Aside0.mk hA; have h4 := Aside0.mk (writeTo_calls (w3.alloc (.cells #[.slice none 0 0, .int .i64 0, .int .i8 0] 61)) g s (arr_alloc hA _) w3.heap.size w3.heap.size (Lib.fresh_isBuffer 61 5 w3) (by rw [Own.size_alloc]; omega) (by have := hA.lt; omega)); clear hA hG hK) | (go_at_call 20; with_reducible refine Calls.mono h4.out ?_; rintro e_ w4 ⟨rfl, hI4, hB4, -⟩; have HI4 := Aside0.mk hI4; have HB4 := Aside0.mk hB4; have hlen : (u8s (wrtD s s.n)).length = 8 + 8 * s.n := (by simp only [u8s, List.length_map, wrtD_len]); have HL := Aside0.mk hlen; clear hI4 hB4 hlen) | (go_at_call 21; refine (Tryd.Buffer_Len w3.heap.size w3.heap.size _ _ HI4.out).mono ?_; rw [HL.out]; rintro _ _ ⟨rfl, n3, rfl⟩) | (go_at_call 22; refine (Tryd.Buffer_Bytes w3.heap.size w3.heap.size _ _ (bufDrewN HI4.out _)).mono ?_; rintro _ _ ⟨v4, rfl, hv4, n4, rfl⟩; have HV := Aside0.mk hv4; clear hv4))
  have hb3 := below_step (w := W) (below_step (w := W) HB1.out HB2.out) HB3.out
  have hb4 : Below w3.heap.size w3 w4 := (below_alloc (Below.refl _ _) _).trans HB4.out
  have hR := bytes_R HV.out
  rw [drewN_add] at hR
  obtain ⟨A, c, rfl, hc, hC, -⟩ := R_row hR
  have HCC := Aside0.mk hC
  have HHC := Aside0.mk hc
  have HBB := Aside0.mk (pw_below_drewN (below_step (w := W) hb3 hb4) (n3 + n4))
  clear hb3 hb4 hR hC hc
  go_ret2
  exact ⟨A, c, wrtD s s.n, rfl, ⟨s, rfl, HSM.out⟩, HCC, HHC, HBB.out⟩
end Go.Proofs.YtaejkbjepbifcabDoor.Num
namespace Go.Proofs.YtaejkbjepbifcabDoor.Num
open Go.RowKit Go.ChangeShapes Go.WideShapes
theorem err_cells : Tryd.prog.cellsOf 106 = 1 := by kernel_rfl
theorem str_cells : Tryd.prog.cellsOf 9 = 1 := by kernel_rfl
theorem err_row (u : TypeId) (h : Tryd.prog.typeName? 3 u = some ("*" ++ "errors.errorString")) : u = 104 :=
  typeName_ptr_named (nm := "errors.errorString") (by kernel_rfl) (by kernel_rfl) (by decide) u h
theorem g_short : Tryd.prog.globalNamed "io.ErrShortBuffer" = some 0 := by kernel_rfl
theorem g_eof : Tryd.prog.globalNamed "io.EOF" = some 1 := by kernel_rfl
theorem g_bad : Tryd.prog.globalNamed "io.ErrUnexpectedEOF" = some 2 := by kernel_rfl
theorem ty_short : (Tryd.prog.globals[0]?).map (·.type) = some 53 := by kernel_rfl
theorem ty_eof : (Tryd.prog.globals[1]?).map (·.type) = some 53 := by kernel_rfl
theorem ty_bad : (Tryd.prog.globals[2]?).map (·.type) = some 53 := by kernel_rfl

set_option maxRecDepth 100000 in
theorem snt_of_laid {W : World} (h : laidMet Tryd.prog [("io.ErrShortBuffer", Rows.laid_io_ErrShortBuffer), ("io.EOF", Rows.laid_io_EOF), ("io.ErrUnexpectedEOF", Rows.laid_io_ErrUnexpectedEOF)] W) : Snt W := by
  obtain ⟨ps, ⟨g0, t0, cs0, f0, p0, q0, hg0, ht0, hv0, hd0, ⟨g1, t1, cs1, f1, p1, q1, hg1, ht1, hv1, hd1, ⟨g2, t2, cs2, f2, p2, q2, hg2, ht2, hv2, hd2, hq2, e2⟩, e1⟩, e0⟩, hnd, hrows⟩ := h
  obtain rfl := Option.some.inj (g_short.symm.trans hg0)
  obtain rfl := Option.some.inj (g_eof.symm.trans hg1)
  obtain rfl := Option.some.inj (g_bad.symm.trans hg2)
  obtain rfl := Option.some.inj (ty_short.symm.trans ht0)
  obtain rfl := Option.some.inj (ty_eof.symm.trans ht1)
  obtain rfl := Option.some.inj (ty_bad.symm.trans ht2)
  have hq2' : q2 = [] := hq2
  subst hq2'
  subst e2
  subst e1
  subst e0
  obtain ⟨l1⟩ := cs1
  obtain ⟨l2⟩ := cs2
  have ok1 : ∀ u v, l1 = [.iface u v] → Value.okWide Tryd.prog W .any 0 u v := fun u v e => by
    subst e
    exact (hrows 1 0 (by simp [MemPlace.row])).2 u v (by simpa using World.var?_cell hg1 hv1 0)
  have ok2 : ∀ u v, l2 = [.iface u v] → Value.okWide Tryd.prog W .any 0 u v := fun u v e => by
    subst e
    exact (hrows 2 0 (by simp [MemPlace.row])).2 u v (by simpa using World.var?_cell hg2 hv2 0)
  have T1 := fun hrow => errorString_of_trod Tryd.underlying53 hrow Tryd.underlying104 Tryd.underlying106 rfl rfl Tryd.underlying9 err_cells str_cells hd1 ok1
  obtain ⟨a1, s1, rfl, _⟩ := T1 (fun u hu => err_row u (hu.trans (by decide)))
  have T2 := fun hrow => errorString_of_trod Tryd.underlying53 hrow Tryd.underlying104 Tryd.underlying106 rfl rfl Tryd.underlying9 err_cells str_cells hd2 ok2
  obtain ⟨a2, s2, rfl, _⟩ := T2 (fun u hu => err_row u (hu.trans (by decide)))
  exact ⟨⟨a1, by simpa using World.var?_cell hg1 hv1 0⟩, ⟨_, _, by simpa using World.var?_cell hg2 hv2 0⟩⟩
end Go.Proofs.YtaejkbjepbifcabDoor.Num
