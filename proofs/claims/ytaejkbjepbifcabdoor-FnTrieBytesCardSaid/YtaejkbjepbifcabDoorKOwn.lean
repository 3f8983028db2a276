/- Small lemmas for walks: a new row of scalars, marked or not, reads as its list. -/
import Derived.Test.YtaejkbjepbifcabDoorWWords
import Derived.Test.YtaejkbjepbifcabDoorKMore
import Derived.Laws.MakeOwn
import Derived.Lib.SlBytesConst
import Derived.WalkSpells
namespace Go.Proofs.YtaejkbjepbifcabDoor.Own
open Go.RowKit Go.Proofs.YtaejkbjepbifcabDoorW.PrintWords

theorem alloc_cell (w : World) (cs : Array Value) (e : TypeId) (fr : Nat × Nat) (i : Nat) : (w.alloc (.cells cs e fr)).cell? ⟨w.heap.size, i, none⟩ = cs[i]? := by
  unfold World.cell? World.alloc; simp

/-- A row of scalars that has just been laid reads as its list. -/
theorem C_alloc_new {α : Type} {enc : α → Value} {h1 : ∀ x, (enc x).oneCell' = true} (w : World) (xs : List α) (e : TypeId) (fr : Nat × Nat) (cs : Array Value) (hcs : cs = (xs.map enc).toArray) (hm : xs.length ≤ 9223372036854775807) :
    (Kd.scalar enc h1).C (w.alloc (.cells cs e fr)) (some ⟨w.heap.size, 0, none⟩) xs.length xs := by
  subst hcs
  refine ⟨rfl, hm, fun _ => ⟨_, rfl, fun j p hj => ⟨[enc p], rfl, rfl, fun i u hu => ?_⟩⟩⟩
  cases i with
  | succ i => simp at hu
  | zero =>
    simp at hu
    subst hu
    have : (⟨w.heap.size, 0, none⟩ : Addr).add (j * (Kd.scalar enc h1).sz + 0) = ⟨w.heap.size, j, none⟩ := by
      have : (Kd.scalar enc h1).sz = 1 := rfl
      rw [this]
      unfold Addr.add
      by_cases h : j = 0 <;> simp [h]
    rw [this, alloc_cell]
    simp [hj]

theorem size_alloc (w : World) (o : Obj) : (w.alloc o).heap.size = w.heap.size + 1 := by unfold World.alloc; simp

/-- A row of one-cell elements that has just been laid reads as its list. -/
theorem C_new1 {α : Type} {d : Kd α} (hd : d.sz = 1) (w : World) (g : Nat) (hg : g = w.heap.size) (e : TypeId) (fr : Nat × Nat) (vs : List Value) (xs : List α) (hl : vs.length = xs.length) (hm : xs.length ≤ 9223372036854775807)
    (hk : ∀ (j : Nat) (p : α) (u : Value), xs[j]? = some p → vs[j]? = some u → d.K (w.alloc (.cells vs.toArray e fr)) p [u]) :
    d.C (w.alloc (.cells vs.toArray e fr)) (some ⟨g, 0, none⟩) xs.length xs := by
  subst hg
  refine ⟨rfl, hm, fun _ => ⟨_, rfl, fun j p hj => ?_⟩⟩
  have hlt : j < xs.length := (List.getElem?_eq_some_iff.1 hj).1
  have hu : vs[j]? = some (vs[j]'(by omega)) := List.getElem?_eq_getElem _
  refine ⟨[vs[j]'(by omega)], by rw [hd]; rfl, hk j p _ hj hu, fun i u h => ?_⟩
  cases i with
  | succ i => simp at h
  | zero =>
    simp at h
    subst h
    have : (⟨w.heap.size, 0, none⟩ : Addr).add (j * d.sz + 0) = ⟨w.heap.size, j, none⟩ := by
      rw [hd]
      unfold Addr.add
      by_cases h : j = 0 <;> simp [h]
    rw [this, alloc_cell]
    simp

theorem isEmpty_bne (l : List UInt8) : l.isEmpty = !(l != []) := by cases l <;> rfl

/-- An error as its flag tells: none, or one. -/
def IsErr (b : Bool) (v : Value) : Prop := if b = true then ∃ t x, v = .iface t x else v = .nilIface
theorem isErr_nil : IsErr false .nilIface := by simp [IsErr]
theorem isErr_some (t : TypeId) (x : Value) : IsErr true (.iface t x) := by simp [IsErr]
theorem isErr_false {v : Value} (h : IsErr false v) : v = .nilIface := by simpa [IsErr] using h
theorem isErr_true {v : Value} (h : IsErr true v) : ∃ t x, v = .iface t x := by simpa [IsErr] using h

section
variable {P : Program} {ops : Array Oper} {rest : List Oper} {o : Oper} {a : Act} {Q : Exit → Act → World → Prop} {α : Type}
open Go.Proofs.YtaejkbjepbifcabDoorW.PrintWords.Kd
/-- make([]T, 0, n): a row of one's own without elements. -/
theorem R_make0 (d : Kd α) {w0 W : World} (base e : Nat) (hgd : o.guard = none) {N : Tmp} (_hd : o.dst = some N) (t : TypeId) (x y : Operand) (ho : o.op = .makeSlice t x y) (n : Int) (hx : a.eval x = .int .i64 0) (hy : a.eval y = .int .i64 n)
    (ht : P.underlying t = some (.slice e)) (z : Value) (bytes : Nat) (hinfo : (P.info? e).map (fun i => (i.zero, i.size, i.bytes)) = some (some z, d.sz, bytes)) (_hz : z.cells.size = d.sz) (_hs0 : 0 < d.sz) (hb0 : 0 < bytes)
    {ok okp : Nat → Prop} (_hok : ∀ k, okp k → ok k) (hfresh : ok W.heap.size) (h0 : 0 ≤ n) (hl : n.toNat * bytes ≤ 281474976710656) (HB : Below base w0 W) (hbase : base ≤ W.heap.size)
    (h : ∀ v1 w1, d.R e w1 base ok v1 [] → Below base w0 w1 → W.grownBy w1 none → (∃ b, v1.ownBlock = some b ∧ W.heap.size ≤ b) → wpList P ops Q rest (a.put o.dst v1) w1) : wpList P ops Q (o :: rest) a W := by
  obtain ⟨m, rfl⟩ := Int.eq_ofNat_of_zero_le h0
  simp only [Int.toNat_natCast] at hl
  obtain ⟨i0, hi, hzz⟩ := Option.map_eq_some_iff.1 hinfo
  simp only [Prod.mk.injEq] at hzz
  obtain ⟨hz0, hz1, hz2⟩ := hzz
  have hm : m ≤ 281474976710656 := Nat.le_trans (Nat.le_mul_of_pos_right _ hb0) hl
  have hr := run_make (P := P) W t e i0 z ht hi hz0 .i64 .i64 0 (m : Int) (by omega) (by omega)
    (by
      have h3 : ((i0.bytes * m : Nat) : Int) ≤ 281474976710656 := by rw [hz2, Nat.mul_comm]; omega
      rwa [Int.natCast_mul] at h3) (by omega)
  simp only [Int.toNat_natCast, Int.toNat_zero] at hr
  rw [hz1] at hr
  have hrun : (execOp a.eval o).run P W = .ok (.value (.slice (some ⟨W.heap.size, 0, none⟩) 0 m)) (W.alloc (.cells (madeCells z.cells (m * d.sz)) e)) := by simp [execOp, ho, hx, hy, hr]
  refine event_run hgd hrun (h _ _ ⟨fun k hk => ?_, [], ⟨by simp, .inr ⟨W.heap.size, m, _, rfl, hbase, heap_alloc_new W _, Nat.zero_le _, by unfold maxLen; omega, ?_, by simp⟩⟩, Reps.none _ _⟩ (HB.alloc hbase _) (World.grownBy_alloc W _ none) ⟨W.heap.size, by simp [Value.ownBlock], Nat.le_refl _⟩)
  · have : W.heap.size = k := by simpa [Value.ownBlock] using hk
    subst this
    exact hfresh
  · simp [size_madeCells]
theorem S_make0 (d : Kd α) {w0 W : World} (base e : Nat) (hgd : o.guard = none) {N : Tmp} (hd : o.dst = some N) (t : TypeId) (x y : Operand) (ho : o.op = .makeSlice t x y) (n : Int) (hx : a.eval x = .int .i64 0) (hy : a.eval y = .int .i64 n)
    (ht : P.underlying t = some (.slice e)) (z : Value) (bytes : Nat) (hinfo : (P.info? e).map (fun i => (i.zero, i.size, i.bytes)) = some (some z, d.sz, bytes)) (hz : z.cells.size = d.sz) (hs0 : 0 < d.sz) (hb0 : 0 < bytes)
    {ok okp : Nat → Prop} (_hok : ∀ k, okp k → ok k) (hfresh : ok W.heap.size) (h0 : 0 ≤ n) (hl : n.toNat * bytes ≤ 281474976710656) (HB : Below base w0 W) (hbase : base ≤ W.heap.size)
    (h : ∀ v1 w1, S d e w1 base ok v1 [] → Below base w0 w1 → W.grownBy w1 none → (∃ b, v1.ownBlock = some b ∧ W.heap.size ≤ b) → wpList P ops Q rest (a.put o.dst v1) w1) : wpList P ops Q (o :: rest) a W :=
  R_make0 (bare d) base e hgd hd t x y ho n hx hy ht z bytes hinfo hz hs0 hb0 (ok := ok) (okp := ok) (fun _ hk => hk) hfresh h0 hl HB hbase (fun v1 w1 hr => h v1 w1 (S_bare hr))
theorem N_make0 (d : Kd α) {w0 W : World} (base e : Nat) (hgd : o.guard = none) {N' : Tmp} (hd : o.dst = some N') (t : TypeId) (x y : Operand) (ho : o.op = .makeSlice t x y) (n : Int) (hx : a.eval x = .int .i64 0) (hy : a.eval y = .int .i64 n)
    (ht : P.underlying t = some (.slice e)) (z : Value) (bytes : Nat) (hinfo : (P.info? e).map (fun i => (i.zero, i.size, i.bytes)) = some (some z, d.sz, bytes)) (hz : z.cells.size = d.sz) (hs0 : 0 < d.sz) (hb0 : 0 < bytes)
    {ok okp : Nat → Prop} (hok : ∀ k, okp k → ok k) (hfresh : ok W.heap.size) (h0 : 0 ≤ n) (hl : n.toNat * bytes ≤ 281474976710656) (HB : Below base w0 W) (hbase : base ≤ W.heap.size)
    (h : ∀ v1 w1, Kd.N d e w1 base ok v1 [] → Below base w0 w1 → W.grownBy w1 none → (∃ b, v1.ownBlock = some b ∧ W.heap.size ≤ b) → wpList P ops Q rest (a.put o.dst v1) w1) : wpList P ops Q (o :: rest) a W :=
  R_make0 d base e hgd hd t x y ho n hx hy ht z bytes hinfo hz hs0 hb0 (ok := ok) (okp := okp) hok hfresh h0 hl HB hbase (fun v1 w1 hr => h v1 w1 (R_N hr))
end

/-- The order of texts is that of their bytes. -/
theorem bl_eq : ∀ (x y : List UInt8), Op.bytesLess x y = decide (x < y)
  | [], [] => by simp [Op.bytesLess]
  | _ :: _, [] => by simp [Op.bytesLess]
  | [], _ :: _ => by simp [Op.bytesLess]
  | a :: x, b :: y => by
    rw [Op.bytesLess, bl_eq x y]
    simp only [List.cons_lt_cons_iff]
    by_cases h1 : a < b <;> by_cases h2 : a = b <;> by_cases h3 : x < y <;> simp [h1, h2, h3]
end Go.Proofs.YtaejkbjepbifcabDoor.Own
