/- A row of numbers of 16 bits that is read of a reader, one behind the other. -/
import Derived.Test.YtckdpckdabfkbabDoorNum2
namespace Go.Proofs.YtckdpckdabfkbabDoor.Num
open Go.RowKit Go.Proofs.YtckdpckdabfkbabDoorW.PrintWords Go.Proofs.YtckdpckdabfkbabDoor.Plain
set_option linter.unusedVariables false
set_option linter.unusedSimpArgs false

/-- The j-th number of 16 bits from place b on. -/
def val (b : Nat) (data : List Int) (j : Nat) : Int := IntKind.i16.wrap (valb ((data.drop (b + 2 * j)).take 2))
/-- A row of N numbers of which q are read. -/
def rcells (b : Nat) (data : List Int) (N q : Nat) : Array Value := (Array.range N).map fun j => .int .i16 (if j < q then val b data j else 0)
theorem rcells_size (b : Nat) (data : List Int) (N q : Nat) : (rcells b data N q).size = N := by simp [rcells]
theorem rcells_get (b : Nat) (data : List Int) (N q j : Nat) (hj : j < N) : (rcells b data N q)[j]? = some (.int .i16 (if j < q then val b data j else 0)) := by
  rw [rcells, Array.getElem?_map, Array.getElem?_range]
  simp [hj]
theorem rcells_set (b : Nat) (data : List Int) (N q : Nat) (hq : q < N) : (rcells b data N q).setIfInBounds q (.int .i16 (val b data q)) = rcells b data N (q + 1) := by
  apply Array.ext_getElem?
  intro j
  rw [Array.getElem?_setIfInBounds]
  by_cases hj : j < N
  · rw [rcells_get _ _ _ _ _ hj, rcells_get _ _ _ _ _ hj, rcells_size]
    by_cases h : q = j
    · subst h; simp [hj]
    · rw [if_neg h]
      have : (j < q) = (j < q + 1) := by apply propext; omega
      simp only [this]
  · rw [if_neg (by omega), Array.getElem?_eq_none (by rw [rcells_size]; omega), Array.getElem?_eq_none (by rw [rcells_size]; omega)]
theorem rcells_zero (b : Nat) (data : List Int) (N : Nat) : rcells b data N 0 = (Array.range N).map fun _ => .int .i16 0 := by simp [rcells]
theorem made_three (l : Nat) : madeCells #[.int .i16 0, .int .i16 0, .int .i16 0] (l * 3) = (Array.range (l * 3)).map fun _ => Value.int .i16 0 := by
  unfold madeCells
  apply Array.ext
  · simp
  · intro j h1 h2
    simp only [Array.getElem_map, Array.getElem_range]
    have : j % 3 = 0 ∨ j % 3 = 1 ∨ j % 3 = 2 := by omega
    rcases this with h | h | h <;> simp [h]
theorem made_one (l : Nat) : madeCells #[.int .i16 0] (l * 1) = (Array.range l).map fun _ => Value.int .i16 0 := by
  unfold madeCells
  apply Array.ext
  · simp
  · intro j h1 h2
    simp [Nat.mod_one]

structure Ctx (w0 : World) (r : Nat) (a : Addr) (n c : Nat) (data : List Int) : Prop where
  row : (Kd.int .u8).C w0 (some a) n data
  bytes : ∀ x ∈ data, 0 ≤ x ∧ x < 256
  cap : n ≤ c
  few : n ≤ 1000000000000
  ne : r ≠ a.block
  lt : a.block < w0.heap.size
  rlt : r < w0.heap.size
  snt : Snt w0
  eof : 4 ≠ r
  bad : 5 ≠ r
structure RS (w0 W : World) (r : Nat) (a : Addr) (n c b : Nat) (data : List Int) (G N e q : Nat) : Prop where
  rd : W.heap[r]? = some (rdr (some a) n c (b + 2 * q) (-1))
  row : W.heap[G]? = some (.cells (rcells b data N q) e (0, 0))
  kept : Kp w0 W (fun x => x = r)
  new : w0.heap.size ≤ G

theorem Ctx.rowAt {w0 W : World} {r : Nat} {a : Addr} {n c : Nat} {data : List Int} (h : Ctx w0 r a n c data) (k : Kp w0 W (fun x => x = r)) : (Kd.int .u8).C W (some a) n data := by
  have hb : W.heap[a.block]? = w0.heap[a.block]? := k.2 _ h.lt (fun e => h.ne e.symm)
  refine ⟨h.row.1, h.row.2.1, fun h0 => ?_⟩
  obtain ⟨ad, e, hc⟩ := h.row.2.2 h0
  obtain rfl := Option.some.inj e
  refine ⟨a, rfl, fun j p hj => ?_⟩
  obtain ⟨cc, h1, h2, h3⟩ := hc j p hj
  exact ⟨cc, h1, h2, fun i u hu => (cell_block (by rw [add_block]; exact hb)).trans (h3 i u hu)⟩
theorem Ctx.sntAt {w0 W : World} {r : Nat} {a : Addr} {n c : Nat} {data : List Int} (h : Ctx w0 r a n c data) (k : Kp w0 W (fun x => x = r)) : Snt W := by
  have hE : 4 < w0.heap.size := by obtain ⟨a, h⟩ := h.snt.eof; exact blk_lt_cell h
  have hU : 5 < w0.heap.size := by obtain ⟨t, x, h⟩ := h.snt.bad; exact blk_lt_cell h
  exact h.snt.move (k.2 _ hE h.eof) (k.2 _ hU h.bad)
theorem Kp.thru {w0 w w' : World} {S : Nat → Prop} (k : Kp w0 w S) (h : Kp w w' S) : Kp w0 w' S :=
  ⟨Nat.le_trans k.1 h.1, fun i hi hS => (h.2 i (Nat.lt_of_lt_of_le hi k.1) hS).trans (k.2 i hi hS), k.env.trans h.env⟩

section
variable {w0 W : World} {r : Nat} {a : Addr} {n c b : Nat} {data : List Int} {G N e q : Nat}
theorem RS.step_ok (h : RS w0 W r a n c b data G N e q) (x : Ctx w0 r a n c data) (hq : q < N) (hi : b + 2 * q + 2 ≤ n) :
    Calls Tryd.prog 45 #[.iface 63 (.pointer (some ⟨r, 0, none⟩)), .pointer (some ⟨G, q, none⟩)] W fun e' w' => e' = .returned .nilIface ∧ RS w0 w' r a n c b data G N e (q + 1) := by
  have hG : r ≠ G := by have := x.rlt; have := h.new; omega
  refine (read16_ok W r a n c (b + 2 * q) (-1) data G q 0 h.rd (x.rowAt h.kept) x.bytes hi x.cap x.few x.ne (Nat.lt_of_lt_of_le x.lt h.kept.1)
    (cells_at h.row q _ (by rw [rcells_get _ _ _ _ _ hq]; simp)) (froz_at h.row q) hG).mono ?_
  rintro e' w' ⟨he, hk, h1, h2⟩
  refine ⟨he, by rw [show b + 2 * (q + 1) = b + 2 * q + 2 by omega]; exact h1, ?_, ?_, h.new⟩
  · rw [h2]
    exact blk_put h.row q _ (rcells_set b data N q hq)
  · exact ⟨Nat.le_trans h.kept.1 hk.1, fun i hi hS => by
      rw [hk.2 i (Nat.lt_of_lt_of_le hi h.kept.1) (by rintro (h' | h'); exact hS h'; have := h.new; omega)]
      exact h.kept.2 i hi hS, h.kept.env.trans hk.env⟩
theorem RS.step_short (h : RS w0 W r a n c b data G N e q) (x : Ctx w0 r a n c data) (hq : q < N) (hi : n < b + 2 * q + 2) (hin : b + 2 * q ≤ n) :
    Calls Tryd.prog 45 #[.iface 63 (.pointer (some ⟨r, 0, none⟩)), .pointer (some ⟨G, q, none⟩)] W (ShortE w0 (fun x => x = r)) := by
  refine (read16_short W r (some a) n c (b + 2 * q) (-1) data G q 0 (x.sntAt h.kept) h.rd (x.rowAt h.kept) hi hin x.cap x.few (fun a' ha _ => by obtain rfl := Option.some.inj ha; exact ⟨x.ne, Nat.lt_of_lt_of_le x.lt h.kept.1⟩)
    (cells_at h.row q _ (by rw [rcells_get _ _ _ _ _ hq]; simp)) ⟨x.eof, x.bad⟩).mono ?_
  rintro e' w' ⟨t, y, he, hk⟩
  exact ⟨t, y, he, Kp.thru h.kept hk⟩
end
end Go.Proofs.YtckdpckdabfkbabDoor.Num
