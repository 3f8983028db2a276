/- A table of costs, read. -/
import Derived.Deep.DeepMust
import Derived.Outline
import Derived.Test.YtckdpckdabfkbaaDoorConn
import Derived.Laws.MakeOwn
namespace Go.Proofs.YtckdpckdabfkbaaDoor.Num
open Go.RowKit Go.Proofs.YtckdpckdabfkbaaDoorW.PrintWords Go.Proofs.YtckdpckdabfkbaaDoor.Plain
set_option linter.unusedVariables false
set_option linter.unusedSimpArgs false

theorem i16_info : (Tryd.prog.info? 45).map (fun i => (i.zero, i.size, i.bytes)) = some (some (.int .i16 0), 1, 2) := by kernel_rfl
theorem make_i16 (W : World) (l b : Nat) (data : List Int) (hl : l ≤ 1000000) :
    (Instr.makeSlice 42 (.int .i64 l) (.int .i64 l)).run Tryd.prog W = .ok (.slice (some ⟨W.heap.size, 0, none⟩) l l) (W.alloc (.cells (rcells b data l 0) 45)) := by
  obtain ⟨i, hi, hz⟩ := Option.map_eq_some_iff.1 i16_info
  simp only [Prod.mk.injEq] at hz
  obtain ⟨h1, h2, h3⟩ := hz
  have := run_make (P := Tryd.prog) W 42 45 i _ Tryd.underlying42 hi h1 .i64 .i64 (l : Int) (l : Int) (by omega) (by omega) (by rw [h3]; omega) (by omega)
  rw [this, h2]
  have e : (Value.int .i16 0).cells = #[.int .i16 0] := rfl
  simp only [Int.toNat_natCast, e, made_one, rcells_zero]
/-- What reading a table answers. -/
def TR (w : World) (r R C N : Nat) (data : List Int) (e : Ending) (w' : World) : Prop :=
  ∃ G, e = .returned (.tuple #[.agg #[.int .i64 R, .int .i64 C, .slice (some ⟨G, 0, none⟩) N N], .nilIface]) ∧ w'.heap[G]? = some (.cells (rcells 16 data N N) 45 (0, 0)) ∧ Kp w w' (fun x => x = r) ∧ w.heap.size ≤ G

set_option maxHeartbeats 8000000 in
set_option maxRecDepth 100000 in
theorem readTable_calls (w : World) (r : Nat) (a : Addr) (n c R C N : Nat) (pr : Int) (data : List Int) (x : Ctx w r a n c data) (hr : w.heap[r]? = some (rdr (some a) n c 0 pr))
    (hR : wrap64 (valb ((data.drop 0).take 8)) = R) (hC : wrap64 (valb ((data.drop 8).take 8)) = C) (hN : (R : Int) * C = N) (hNs : N ≤ 100000) (hn : n = 16 + 2 * N) :
    Calls Tryd.prog 17 #[.iface 58 (.pointer (some ⟨r, 0, none⟩))] w (TR w r R C N data) := by
  have X := Aside0.mk x
  obtain ⟨w2, hw2⟩ : ∃ w2, w2 = (w.alloc (.cells #[.int .i64 0, .int .i64 0, .slice none 0 0] 44)).alloc (.cells #[.int .i64 0, .int .i64 0, .slice none 0 0] 44) := ⟨_, rfl⟩
  have hK2 : w2.heap[w.heap.size]? = some (.cells #[.int .i64 0, .int .i64 0, .slice none 0 0] 44 (0, 0)) := by rw [hw2]; exact blk_alloc (blk_new w _) _
  have hL2 : w2.heap[w.heap.size + 1]? = some (.cells #[.int .i64 0, .int .i64 0, .slice none 0 0] 44 (0, 0)) := by
    have := blk_new (w.alloc (.cells #[.int .i64 0, .int .i64 0, .slice none 0 0] 44)) (.cells #[.int .i64 0, .int .i64 0, .slice none 0 0] 44)
    rw [Own.size_alloc] at this
    rw [hw2]; exact this
  have hs2 : w2.heap.size = w.heap.size + 2 := by rw [hw2, Own.size_alloc, Own.size_alloc]
  have hold2 : ∀ k, k < w.heap.size → w2.heap[k]? = w.heap[k]? := fun k hk => by rw [hw2, Below.heap_alloc _ _ _ (by rw [Own.size_alloc]; omega), Below.heap_alloc _ _ _ hk]
  have he2 : Env w w2 := by rw [hw2]; exact ⟨rfl, rfl, rfl⟩
  have hC2 : (Kd.int .u8).C w2 (some a) n data := by rw [hw2]; exact Kd.C_alloc (Kd.C_alloc x.row _) _
  have hr2 : w2.heap[r]? = some (rdr (some a) n c 0 pr) := (hold2 r x.rlt).trans hr
  have R1 := Aside0.mk (read64_ok w2 r a n c 0 pr data (w.heap.size + 1) 0 0 hr2 hC2 x.bytes (by omega) x.cap x.few x.ne (by have := x.lt; omega) (cells_at hL2 0 _ rfl) (froz_at hL2 0) (by have := x.rlt; omega))
  have MK := Aside0.mk fun (W : World) => make_i16 W N 16 data (by omega)
  have HR := Aside0.mk hR
  have HC := Aside0.mk hC
  have HN := Aside0.mk hN
  have Hn := Aside0.mk hn
  have H2 := Aside0.mk (And.intro hs2 (And.intro hold2 (And.intro he2 hC2)))
  clear hr hR hC hN hs2 hold2 he2 hC2 hr2 hn x
  go_enter Tryd.func17, Tryd.ntmps17
  go_wp2_with fail
  rw [← hw2]
  clear hw2
  with_reducible refine Calls.mono R1.out ?_
  rintro _ W3 ⟨rfl, hk, h1, h2⟩
  have hL3 : W3.heap[w.heap.size + 1]? = some (.cells #[.int .i64 R, .int .i64 0, .slice none 0 0] 44 (0, 0)) := by
    rw [h2]; exact blk_put hL2 0 _ (by rw [HR.out]; rfl)
  have hK3 : W3.heap[w.heap.size]? = some (.cells #[.int .i64 0, .int .i64 0, .slice none 0 0] 44 (0, 0)) := by
    rw [hk.2 _ (blk_lt hK2) (by have := X.out.rlt; rintro (h | h) <;> omega)]; exact hK2
  have hk3 : Kp w W3 (fun y => y = r) := ⟨Nat.le_trans (by have := H2.out.1; omega) hk.1, fun i hi hS => by
    rw [hk.2 i (by have := H2.out.1; omega) (by rintro (h | h); exact hS h; omega)]; exact H2.out.2.1 i hi, H2.out.2.2.1.trans hk.env⟩
  have R2 := Aside0.mk (read64_ok W3 r a n c 8 (-1) data (w.heap.size + 1) 1 0 h1 (X.out.rowAt hk3) X.out.bytes (by have := Hn.out; omega) X.out.cap X.out.few X.out.ne (by have := X.out.lt; have := hk3.1; omega) (cells_at hL3 1 _ rfl) (froz_at hL3 1) (by have := X.out.rlt; omega))
  have HL3 := Aside0.mk hL3
  have HK3 := Aside0.mk hK3
  have Hk3 := Aside0.mk hk3
  clear hk h1 h2 hL3 hK3 hk3 R1 hL2 hK2
  go_wp2_with fail
  with_reducible refine Calls.mono R2.out ?_
  rintro _ W4 ⟨rfl, hk, h1, h2⟩
  have hL4 : W4.heap[w.heap.size + 1]? = some (.cells #[.int .i64 R, .int .i64 C, .slice none 0 0] 44 (0, 0)) := by
    rw [h2]; exact blk_put HL3.out 1 _ (by rw [HC.out]; rfl)
  have hK4 : W4.heap[w.heap.size]? = some (.cells #[.int .i64 0, .int .i64 0, .slice none 0 0] 44 (0, 0)) := by
    rw [hk.2 _ (blk_lt HK3.out) (by have := X.out.rlt; rintro (h | h) <;> omega)]; exact HK3.out
  have hk4 : Kp w W4 (fun y => y = r) := ⟨Nat.le_trans Hk3.out.1 hk.1, fun i hi hS => by
    rw [hk.2 i (by have := Hk3.out.1; omega) (by rintro (h | h); exact hS h; omega)]; exact Hk3.out.2 i hi hS, Hk3.out.env.trans hk.env⟩
  have y0 : W4.cell? ⟨w.heap.size + 1, 0, none⟩ = some (.int .i64 R) := cells_at hL4 0 _ rfl
  have y1 : W4.cell? ⟨w.heap.size + 1, 1, none⟩ = some (.int .i64 C) := cells_at hL4 1 _ rfl
  have y2 : W4.cell? ⟨w.heap.size + 1, 2, none⟩ = some (.slice none 0 0) := cells_at hL4 2 _ rfl
  have f2 := froz_at hL4 2
  have hmul : IntKind.i64.wrap ((R : Int) * C) = N := by rw [HN.out, IntKind.wrap_i64]; omega
  have hmk := MK.out
  have HL4 := Aside0.mk hL4
  have HK4 := Aside0.mk hK4
  have Hk4 := Aside0.mk hk4
  have H4r := Aside0.mk h1
  have hlt : w.heap.size + 1 < W4.heap.size := blk_lt hL4
  have y2a : (W4.alloc (.cells (rcells 16 data N 0) 45)).cell? ⟨w.heap.size + 1, 2, none⟩ = some (.slice none 0 0) := cells_at (blk_alloc hL4 _) 2 _ rfl
  have f2a : (W4.alloc (.cells (rcells 16 data N 0) 45)).frozen? ⟨w.heap.size + 1, 2, none⟩ = false := froz_at (blk_alloc hL4 _) 2
  clear hk h1 h2 hL4 hK4 hk4 R2
  go_wp2_with fail
  obtain ⟨W5, hW5⟩ : ∃ W5, W5 = (W4.setCell ⟨w.heap.size + 1, 2, none⟩ (.slice (some ⟨W4.heap.size, 0, none⟩) N N)).alloc (.cells (rcells 16 data N 0) 45) := ⟨_, rfl⟩
  rw [← hW5]
  obtain ⟨G, hG⟩ : ∃ G, G = W4.heap.size := ⟨_, rfl⟩
  have hL5 : W5.heap[w.heap.size + 1]? = some (.cells #[.int .i64 R, .int .i64 C, .slice (some ⟨G, 0, none⟩) N N] 44 (0, 0)) := by
    rw [hW5, hG]; exact blk_alloc (blk_put HL4.out 2 _ rfl) _
  have hK5 : W5.heap[w.heap.size]? = some (.cells #[.int .i64 0, .int .i64 0, .slice none 0 0] 44 (0, 0)) := by
    rw [hW5]; exact blk_alloc (blk_far HK4.out (p := ⟨w.heap.size + 1, 2, none⟩) (by simp) _) _
  have hG5 : W5.heap[G]? = some (.cells (rcells 16 data N 0) 45 (0, 0)) := by
    have h_ := blk_new (W4.setCell ⟨w.heap.size + 1, 2, none⟩ (.slice (some ⟨W4.heap.size, 0, none⟩) N N)) (.cells (rcells 16 data N 0) 45)
    rw [size_setCell] at h_
    rw [hW5, hG]; exact h_
  have hr5 : W5.heap[r]? = some (rdr (some a) n c 16 (-1)) := by
    rw [hW5]; exact blk_alloc (blk_far H4r.out (p := ⟨w.heap.size + 1, 2, none⟩) (by have := X.out.rlt; simp; omega) _) _
  have hk5 : Kp w W5 (fun y => y = r) := ⟨by rw [hW5, Own.size_alloc, size_setCell]; have := Hk4.out.1; omega, fun i hi hS => by
    rw [hW5, Below.heap_alloc _ _ _ (by rw [size_setCell]; have := Hk4.out.1; omega), Below.heap_setCell _ _ _ _ (by simp; omega)]; exact Hk4.out.2 i hi hS, Hk4.out.env.trans (by rw [hW5]; exact ⟨rfl, rfl, rfl⟩)⟩
  have HI5 := Aside0.mk (And.intro hL5 (And.intro hK5 (And.intro hG5 (And.intro hr5 hk5))))
  have hg2 : w.heap.size + 2 ≤ G := by omega
  have z2 : W5.cell? ⟨w.heap.size + 1, 2, none⟩ = some (.slice (some ⟨G, 0, none⟩) N N) := cells_at hL5 2 _ rfl
  rw [← hG]
  clear hW5 hlt hG hL5 hK5 hG5 hr5 hk5 hmk MK y0 y1 y2 f2 y2a f2a hmul HL4 HK4 Hk4 H4r HL3 HK3 Hk3
  go_wp2_with fail
  go_loopg [33] N (fun kq v33 w' => ∃ i : Nat, v33 = .int .i64 i ∧ Aside0 (i + kq = N) ∧ Aside0 (w'.heap[w.heap.size + 1]? = some (.cells #[.int .i64 R, .int .i64 C, .slice (some ⟨G, 0, none⟩) N N] 44 (0, 0)) ∧ w'.heap[w.heap.size]? = some (.cells #[.int .i64 0, .int .i64 0, .slice none 0 0] 44 (0, 0)) ∧
    w'.heap[G]? = some (.cells (rcells 16 data N i) 45 (0, 0)) ∧ w'.heap[r]? = some (rdr (some a) n c (16 + 2 * i) (-1)) ∧ Kp w w' (fun y => y = r)))
  case atStart => exact ⟨0, rfl, ⟨by omega⟩, HI5⟩
  case round =>
    clear z2
    obtain ⟨i, rfl, HK, HI⟩ := hrel
    have z0 : wr.cell? ⟨w.heap.size + 1, 0, none⟩ = some (.int .i64 R) := cells_at HI.out.1 0 _ rfl
    have z1 : wr.cell? ⟨w.heap.size + 1, 1, none⟩ = some (.int .i64 C) := cells_at HI.out.1 1 _ rfl
    have z2 : wr.cell? ⟨w.heap.size + 1, 2, none⟩ = some (.slice (some ⟨G, 0, none⟩) N N) := cells_at HI.out.1 2 _ rfl
    by_cases c1 : (i : Int) < (N : Int)
    · have hi : i < N := by omega
      have p1 : (0 : Int) ≤ i := by omega
      have c1b := decide_eq_true c1
      have S := Aside0.mk (read16_ok wr r a n c (16 + 2 * i) (-1) data G i 0 HI.out.2.2.2.1 (X.out.rowAt HI.out.2.2.2.2) X.out.bytes (by have := Hn.out; omega) X.out.cap X.out.few X.out.ne (by have := X.out.lt; have := HI.out.2.2.2.2.1; omega)
        (cells_at HI.out.2.2.1 i _ (by rw [rcells_get _ _ _ _ _ hi]; simp)) (froz_at HI.out.2.2.1 i) (by have := X.out.rlt; omega))
      go_wp2_with fail
      with_reducible refine Calls.mono S.out ?_
      rintro _ W6 ⟨rfl, hk, h1, h2⟩
      have HI6 : Aside0 (W6.heap[w.heap.size + 1]? = some (.cells #[.int .i64 R, .int .i64 C, .slice (some ⟨G, 0, none⟩) N N] 44 (0, 0)) ∧ W6.heap[w.heap.size]? = some (.cells #[.int .i64 0, .int .i64 0, .slice none 0 0] 44 (0, 0)) ∧
          W6.heap[G]? = some (.cells (rcells 16 data N (i + 1)) 45 (0, 0)) ∧ W6.heap[r]? = some (rdr (some a) n c (16 + 2 * (i + 1)) (-1)) ∧ Kp w W6 (fun y => y = r)) := ⟨by
        have hrl := X.out.rlt
        refine ⟨?_, ?_, ?_, by rw [show 16 + 2 * (i + 1) = 16 + 2 * i + 2 by omega]; exact h1, ?_⟩
        · rw [hk.2 _ (blk_lt HI.out.1) (by rintro (h | h) <;> omega)]; exact HI.out.1
        · rw [hk.2 _ (blk_lt HI.out.2.1) (by rintro (h | h) <;> omega)]; exact HI.out.2.1
        · rw [h2]; exact blk_put HI.out.2.2.1 i _ (rcells_set 16 data N i hi)
        · exact ⟨Nat.le_trans HI.out.2.2.2.2.1 hk.1, fun j hj hS => by
            rw [hk.2 j (Nat.lt_of_lt_of_le hj HI.out.2.2.2.2.1) (by rintro (h | h); exact hS h; omega)]; exact HI.out.2.2.2.2.2 j hj hS, HI.out.2.2.2.2.env.trans hk.env⟩⟩
      clear hk h1 h2 z0 z1 z2 S
      go_wp2_with fail
      have HK' := HK.out
      cases gk with
      | zero => omega
      | succ k9 =>
        go_roundg k9
        case measure => omega
        case rel => exact ⟨i + 1, int_eq (by first | omega | (rw [wrap_ok (by omega) (by omega)]; omega)), ⟨by omega⟩, HI6⟩
    · have c1b := decide_eq_false c1
      obtain rfl : i = N := by have := HK.out; omega
      have k0 : wr.cell? ⟨w.heap.size, 0, none⟩ = some (.int .i64 0) := cells_at HI.out.2.1 0 _ rfl
      have k1 : wr.cell? ⟨w.heap.size, 1, none⟩ = some (.int .i64 0) := cells_at HI.out.2.1 1 _ rfl
      have k2 : wr.cell? ⟨w.heap.size, 2, none⟩ = some (.slice none 0 0) := cells_at HI.out.2.1 2 _ rfl
      have g0 := froz_at HI.out.2.1 0
      have g1 := froz_at HI.out.2.1 1
      have g2 := froz_at HI.out.2.1 2
      go_wp2_with fail
      obtain ⟨W8, hW8⟩ : ∃ W8, W8 = (((wr.setCell ⟨w.heap.size, 0, none⟩ (.int .i64 R)).setCell ⟨w.heap.size, 1, none⟩ (.int .i64 C)).setCell ⟨w.heap.size, 2, none⟩ (.slice (some ⟨G, 0, none⟩) i i)) := ⟨_, rfl⟩
      rw [← hW8]
      have hK8 : W8.heap[w.heap.size]? = some (.cells #[.int .i64 R, .int .i64 C, .slice (some ⟨G, 0, none⟩) i i] 44 (0, 0)) := by
        rw [hW8]; exact blk_put (blk_put (blk_put HI.out.2.1 0 _ rfl) 1 _ rfl) 2 _ rfl
      have q0 : W8.cell? ⟨w.heap.size, 0, none⟩ = some (.int .i64 R) := cells_at hK8 0 _ rfl
      have q1 : W8.cell? ⟨w.heap.size, 1, none⟩ = some (.int .i64 C) := cells_at hK8 1 _ rfl
      have q2 : W8.cell? ⟨w.heap.size, 2, none⟩ = some (.slice (some ⟨G, 0, none⟩) i i) := cells_at hK8 2 _ rfl
      have hG8 : W8.heap[G]? = some (.cells (rcells 16 data i i) 45 (0, 0)) := by
        rw [hW8, Below.heap_setCell _ _ _ _ (by simp; omega), Below.heap_setCell _ _ _ _ (by simp; omega), Below.heap_setCell _ _ _ _ (by simp; omega)]; exact HI.out.2.2.1
      have hk8 : Kp w W8 (fun y => y = r) := ⟨by rw [hW8, size_setCell, size_setCell, size_setCell]; exact HI.out.2.2.2.2.1, fun j hj hS => by
        rw [hW8, Below.heap_setCell _ _ _ _ (by simp; omega), Below.heap_setCell _ _ _ _ (by simp; omega), Below.heap_setCell _ _ _ _ (by simp; omega)]; exact HI.out.2.2.2.2.2 j hj hS, HI.out.2.2.2.2.env.trans (by rw [hW8]; exact ⟨rfl, rfl, rfl⟩)⟩
      clear hW8 z0 z1 z2 k0 k1 k2 g0 g1 g2
      exact bodyPost_ret (v := .tuple #[.agg #[.int .i64 R, .int .i64 C, .slice (some ⟨G, 0, none⟩) i i], .nilIface]) (by simp [results, Tryd.results17, go_sem, q0, q1, q2]) rfl ⟨G, rfl, hG8, hk8, by omega⟩
end Go.Proofs.YtckdpckdabfkbaaDoor.Num
