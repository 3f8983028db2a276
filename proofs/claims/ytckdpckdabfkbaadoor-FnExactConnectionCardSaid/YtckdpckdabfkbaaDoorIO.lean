/- What the laws that write to a buffer and read of a reader share. -/
import Derived.Test.YtckdpckdabfkbaaDoorRow16
namespace Go.Proofs.YtckdpckdabfkbaaDoor.Num
open Go.RowKit Go.Proofs.YtckdpckdabfkbaaDoorW.PrintWords Go.Proofs.YtckdpckdabfkbaaDoor.Plain
set_option linter.unusedVariables false
set_option linter.unusedSimpArgs false

theorem add_plus (a : Addr) (j k : Nat) (hk : 0 < k) : a.add (j + k) = ⟨(a.add j).block, (a.add j).off + k, none⟩ := by
  unfold Addr.add
  rw [if_neg (by omega)]
  by_cases h : j = 0
  · subst h; simp
  · simp [h]; omega
theorem int_eq {k : IntKind} {a b : Int} (h : a = b) : Value.int k a = .int k b := by rw [h]
theorem u8s_app (a b : List Int) : u8s (a ++ b) = u8s a ++ u8s b := by simp [u8s]
theorem othC {w : World} {b : Nat} {a : Addr} (h : a.block ≠ b ∧ ∃ cs t, w.heap[a.block]? = some (.cells cs t (0, 0)) ∧ t ≠ 5) :
    ∀ W, Lib.OthersKept 5 (some b) w W → ∀ p v, w.cell? p = some v → p.block = a.block → W.cell? p = some v := fun W hO p v hv hq => by
  obtain ⟨h1, cs, t, h2, h3⟩ := h
  rw [← hv]
  exact cell_block (by rw [hq, h2]; exact hO _ _ h2 (by simpa using h1) (fun c fz e => by injection e with _ e; exact h3 e))
theorem R_row {α : Type} {d : Kd α} {e base : Nat} {w : World} {ok : Nat → Prop} {v : Value} {xs : List α} (h : d.R e w base ok v xs) :
    ∃ A c, v = .slice A xs.length c ∧ xs.length ≤ c ∧ d.C w A xs.length xs ∧ ∀ a, A = some a → base ≤ a.block ∧ ∃ cs, w.heap[a.block]? = some (.cells cs e (0, 0)) := by
  obtain ⟨A, c, e1, hc, hC⟩ := Kd.R_reads h
  refine ⟨A, c, e1, hc, hC, fun a ha => ?_⟩
  obtain ⟨_, inner, ho, _⟩ := h
  have hk : v.ownBlock = some a.block := by rw [e1, ha]; rfl
  exact ⟨own_base ho _ hk, own_typed ho _ hk⟩
theorem bytes_R {w : World} {base : Nat} {v : Value} {l : List Int} (h : w.ownsRow base 5 1 v (u8s l).length (u8s l)) : (Kd.int .u8).R 5 w base (fun _ => True) v l := by
  have e : (u8s l).length = l.length := by simp [u8s]
  rw [e] at h
  exact Kd.R_of_own (enc := Value.int .u8) (h1 := fun _ => rfl) h (fun _ _ => trivial)
theorem newReader (w : World) (A : Option Addr) (n c : Nat) :
    Calls Tryd.prog 18 #[.slice A n c] w fun e w' => e = .returned (.pointer (some ⟨w.heap.size, 0, none⟩)) ∧ w' = w.alloc (rdr A n c 0 (-1)) := by
  go_enter Tryd.func18, Tryd.ntmps18
  go_wp2
  go_ret
  exact ⟨rfl, rfl⟩
theorem below_kept {w W W' : World} {r : Nat} (hb : Below w.heap.size w W) (hr : w.heap.size ≤ r) (hk : Kp W W' (fun y => y = r)) : Below w.heap.size w W' :=
  ⟨hk.env.1.trans hb.os, hk.env.2.1.trans hb.tape, hk.env.2.2.trans hb.output, Nat.le_trans hb.size hk.size, fun k hlt => (hk.old k (Nat.lt_of_lt_of_le hlt hb.size) (by omega)).trans (hb.block k hlt)⟩
theorem sntAlloc {w : World} (h : Snt w) (o : Obj) : Snt (w.alloc o) := by
  have hE : 2 < w.heap.size := by obtain ⟨a, h⟩ := h.eof; exact blk_lt_cell h
  have hU : 3 < w.heap.size := by obtain ⟨t, x, h⟩ := h.bad; exact blk_lt_cell h
  exact h.move (Below.heap_alloc _ _ _ hE) (Below.heap_alloc _ _ _ hU)
theorem sntNe {w : World} (h : Snt w) : 2 ≠ w.heap.size ∧ 3 ≠ w.heap.size := by
  have hE : 2 < w.heap.size := by obtain ⟨a, h⟩ := h.eof; exact blk_lt_cell h
  have hU : 3 < w.heap.size := by obtain ⟨t, x, h⟩ := h.bad; exact blk_lt_cell h
  exact ⟨by omega, by omega⟩
theorem C_lt {k : IntKind} {w : World} {A : Option Addr} {n : Nat} {xs : List Int} (h : (Kd.int k).C w A n xs) {a : Addr} (ha : A = some a) (h0 : 0 < n) : a.block < w.heap.size := by
  subst ha
  have hlt : 0 < xs.length := by rw [h.1]; exact h0
  have := blk_lt_cell (C_cells h 0 _ (List.getElem?_eq_getElem hlt))
  rwa [add_block] at this
theorem Snt.below {w W : World} (h : Snt w) (hb : Below w.heap.size w W) : Snt W := by
  have hE : 2 < w.heap.size := by obtain ⟨a, h⟩ := h.eof; exact blk_lt_cell h
  have hU : 3 < w.heap.size := by obtain ⟨t, x, h⟩ := h.bad; exact blk_lt_cell h
  exact h.move (hb.block _ hE) (hb.block _ hU)
end Go.Proofs.YtckdpckdabfkbaaDoor.Num
