/- One scan of sentences: what it computes, and the memory that it turns. -/
import Derived.Test.YtckdpckdabfkbabDoorDec
import Derived.Test.YtckdpckdabfkbabDoorRow16
import Derived.Test.YtckdpckdabfkbabDoorPCx
namespace Go.Proofs.YtckdpckdabfkbabDoor.Scan
open Go.RowKit Go.Proofs.YtckdpckdabfkbabDoorW.PrintWords Go.Proofs.YtckdpckdabfkbabDoor.Plain Go.Proofs.YtckdpckdabfkbabDoor.Num
set_option linter.unusedVariables false
set_option linter.unusedSimpArgs false

def by' (D : ByteArray) (j : Nat) : Int := ((D.get! j).toNat : Int)
def seg (D : ByteArray) (p k : Nat) : List Int := (List.range k).map fun i => by' D (p + i)
theorem seg_len (D : ByteArray) (p k : Nat) : (seg D p k).length = k := by simp [seg]
theorem seg_succ (D : ByteArray) (p k : Nat) : seg D p (k + 1) = seg D p k ++ [by' D (p + k)] := by simp [seg, List.range_succ]
theorem seg_zero (D : ByteArray) (p : Nat) : seg D p 0 = [] := rfl
/-- What lies at place j when 'out' was moved to s. -/
def mem (D : ByteArray) (s : Nat) (out : List Int) (j : Nat) : Int := if s ≤ j ∧ j < s + out.length then out.getD (j - s) 0 else by' D j
theorem mem_far (D : ByteArray) (s : Nat) (out : List Int) (j : Nat) (h : s + out.length ≤ j) : mem D s out j = by' D j := by
  unfold mem; rw [if_neg (by omega)]
theorem mem_nil (D : ByteArray) (s j : Nat) : mem D s [] j = by' D j := by
  unfold mem; rw [if_neg (by simp)]
theorem mem_add (D : ByteArray) (s : Nat) (out : List Int) (x : Int) (j : Nat) : mem D s (out ++ [x]) j = if j = s + out.length then x else mem D s out j := by
  unfold mem
  by_cases h : j = s + out.length
  · subst h
    rw [if_pos (by simp), if_pos rfl]
    simp
  · rw [if_neg h]
    by_cases h2 : s ≤ j ∧ j < s + out.length
    · rw [if_pos (by simp; omega), if_pos h2, List.getD_eq_getElem?_getD, List.getElem?_append_left (by omega), ← List.getD_eq_getElem?_getD]
    · rw [if_neg (by simp; omega), if_neg h2]
theorem mem_same (D : ByteArray) (s : Nat) (out : List Int) (p : Nat) (hp : s + out.length = p) (k j : Nat) : mem D s (out ++ seg D p k) j = mem D s out j := by
  induction k with
  | zero => simp [seg_zero]
  | succ k ih =>
    rw [seg_succ, ← List.append_assoc, mem_add]
    by_cases h : j = s + (out ++ seg D p k).length
    · rw [if_pos h, h]
      rw [List.length_append, seg_len] at *
      rw [mem_far _ _ _ _ (by omega)]
      congr 1
      omega
    · rw [if_neg h, ih]

/-- The rune at a place, and its length. -/
def rn (D : ByteArray) (p : Nat) : Nat × Nat := Utf8.decode D p
theorem decN_size (n b0 b1 b2 b3 : Nat) (hn : 0 < n) : 1 ≤ (Lib.decodeN n b0 b1 b2 b3).2 ∧ (Lib.decodeN n b0 b1 b2 b3).2 ≤ n ∧ (b0 < 256 → (Lib.decodeN n b0 b1 b2 b3).1 ≤ 1114111) := by
  unfold Lib.decodeN
  refine ⟨?_, ?_, fun h => ?_⟩ <;> (repeat' split) <;> first | omega | (simp only [] at *; omega)
theorem rn_size (D : ByteArray) (p : Nat) (hp : p < D.size) : 1 ≤ (rn D p).2 ∧ p + (rn D p).2 ≤ D.size ∧ (rn D p).1 ≤ 1114111 := by
  unfold rn
  rw [Lib.decode_at]
  have := decN_size (D.size - p) (D.get! p).toNat (D.get! (p + 1)).toNat (D.get! (p + 2)).toNat (D.get! (p + 3)).toNat (by omega)
  have h2 := this.2.2 (UInt8.toNat_lt _)
  omega

structure Sp where
  del : List Int
  fol : List Int
  skip : Bool
  dbl : Bool
  most : Int
def Sp.sp (S : Sp) (r : Nat) : Bool := S.skip && Lib.isSpaceZ r
def Sp.isD (S : Sp) (r : Nat) : Bool := decide ((r : Int) ∈ S.del)
def Sp.isF (S : Sp) (r : Nat) : Bool := decide ((r : Int) ∈ S.fol)
def Sp.lf (S : Sp) (r : Nat) : Bool := S.dbl && decide ((r : Int) = 10)
/-- Behind the end of a sentence: what goes with it. -/
def inner (S : Sp) (D : ByteArray) : Nat → Nat → List Int → Bool → Nat × List Int
  | 0, p, out, _ => (p, out)
  | k + 1, p, out, nn =>
    if p < D.size then
      if S.sp (rn D p).1 then (if S.lf (rn D p).1 then (if nn then (p + (rn D p).2, out) else inner S D k (p + (rn D p).2) out true) else inner S D k (p + (rn D p).2) out nn)
      else if S.isD (rn D p).1 then inner S D k (p + (rn D p).2) (out ++ seg D p (rn D p).2) nn
      else if S.isF (rn D p).1 then inner S D k (p + (rn D p).2) (out ++ seg D p (rn D p).2) nn
      else (p, out)
    else (p, out)
structure Res where
  adv : Nat
  tok : Bool
  start : Nat
  out : List Int
def outer (S : Sp) (D : ByteArray) (fin : Bool) : Nat → Nat → Nat → List Int → Nat → Bool → Bool → Res
  | 0, p, start, out, _, _, _ => ⟨p, true, start, out⟩
  | k + 1, p, start, out, cnt, head, nn =>
    if p < D.size then
      if S.sp (rn D p).1 then
        if head then outer S D fin k (p + (rn D p).2) (p + (rn D p).2) [] cnt true nn
        else if S.isD (rn D p).1 then ⟨p + (rn D p).2, true, start, out⟩
        else if S.lf (rn D p).1 then (if nn then ⟨p + (rn D p).2, true, start, out⟩ else outer S D fin k (p + (rn D p).2) start out cnt false true)
        else outer S D fin k (p + (rn D p).2) start out cnt false false
      else
        if S.lf (rn D p).1 && nn then ⟨p + (rn D p).2, true, start, out ++ seg D p (rn D p).2⟩
        else if (!S.isD (rn D p).1) && decide (((cnt + 1 : Nat) : Int) < S.most) then outer S D fin k (p + (rn D p).2) start (out ++ seg D p (rn D p).2) (cnt + 1) false (S.lf (rn D p).1 || nn)
        else ⟨(inner S D k (p + (rn D p).2) (out ++ seg D p (rn D p).2) false).1, true, start, (inner S D k (p + (rn D p).2) (out ++ seg D p (rn D p).2) false).2⟩
    else if fin then ⟨D.size, true, start, out⟩ else ⟨start, false, start, out⟩
/-- One scan (of bytes that there are). -/
def scan (S : Sp) (D : ByteArray) (fin : Bool) : Res := outer S D fin (D.size + 1) 0 0 [] 0 true false
/-- What lies in the row afterwards. -/
def Res.mem (D : ByteArray) (R : Res) (j : Nat) : Int := if R.tok = false ∧ R.start + R.out.length ≤ j then 32 else Scan.mem D R.start R.out j

theorem Kp.after {w1 W W' : World} {S : Nat → Prop} (h : Kp w1 W S) (k : Kp W W' S) : Kp w1 W' S := Kp.thru h k
theorem Kp.self (w : World) (S : Nat → Prop) : Kp w w S := ⟨Nat.le_refl _, fun _ _ _ => rfl, rfl, rfl, rfl⟩
theorem Kp.below {w W : World} {S : Nat → Prop} (h : Below w.heap.size w W) : Kp w W S := ⟨h.size, fun i hi _ => h.block i hi, h.os, h.tape, h.output⟩
/-- A block of cells; a mark lies behind its last cell. -/
def Blk (W : World) (b : Nat) (cs : Array Value) (t : TypeId) : Prop := ∃ z, W.heap[b]? = some (.cells cs t z) ∧ (z = (0, 0) ∨ cs.size ≤ z.1)
theorem Blk.cell {W : World} {b : Nat} {cs : Array Value} {t : TypeId} (h : Blk W b cs t) (i : Nat) (v : Value) (hv : cs[i]? = some v) : W.cell? ⟨b, i, none⟩ = some v := by
  obtain ⟨z, h, _⟩ := h
  unfold World.cell?; simp [h, hv]
theorem Blk.froz {W : World} {b : Nat} {cs : Array Value} {t : TypeId} (h : Blk W b cs t) (i : Nat) (hi : i < cs.size) : W.frozen? ⟨b, i, none⟩ = false := by
  obtain ⟨⟨lo, hi'⟩, h, hz⟩ := h
  unfold World.frozen?
  rcases hz with hz | hz
  · cases hz; simp [h]
  · simp only [h]
    have : ¬ lo ≤ i := by have : cs.size ≤ lo := hz; omega
    simp [this]
theorem Blk.put {W : World} {b : Nat} {cs : Array Value} {t : TypeId} (h : Blk W b cs t) (i : Nat) (u : Value) : Blk (W.setCell ⟨b, i, none⟩ u) b (cs.setIfInBounds i u) t := by
  obtain ⟨z, h, hz⟩ := h
  refine ⟨z, ?_, by simpa using hz⟩
  have hlt := (Array.getElem?_eq_some_iff.1 h).1
  have he := (Array.getElem?_eq_some_iff.1 h).2
  simp only [World.setCell, Array.getElem?_modify, if_true, h, Option.map_some]
  rfl
theorem Blk.lt {W : World} {b : Nat} {cs : Array Value} {t : TypeId} (h : Blk W b cs t) : b < W.heap.size := by
  obtain ⟨z, h, _⟩ := h
  exact (Array.getElem?_eq_some_iff.1 h).1
/-- The row of bytes at a. -/
def Row (W : World) (b off n : Nat) (f : Nat → Int) : Prop := ∃ cs t, Blk W b cs t ∧ ∀ j, j < n → cs[off + j]? = some (.int .u8 (f j))
structure SI (w1 W : World) (b off n : Nat) (f : Nat → Int) : Prop where
  kept : Kp w1 W (fun x => x = b)
  row : Row W b off n f
theorem SI.cell {w1 W : World} {b off n : Nat} {f : Nat → Int} (h : SI w1 W b off n f) (j : Nat) (hj : j < n) : W.cell? ⟨b, off + j, none⟩ = some (.int .u8 (f j)) := by
  obtain ⟨cs, t, h1, h2⟩ := h.row
  exact h1.cell _ _ (h2 j hj)
theorem SI.froz {w1 W : World} {b off n : Nat} {f : Nat → Int} (h : SI w1 W b off n f) (j : Nat) (hj : j < n) : W.frozen? ⟨b, off + j, none⟩ = false := by
  obtain ⟨cs, t, h1, h2⟩ := h.row
  exact h1.froz _ (Array.getElem?_eq_some_iff.1 (h2 j hj)).1
theorem SI.lt {w1 W : World} {b off n : Nat} {f : Nat → Int} (h : SI w1 W b off n f) : b < W.heap.size := by
  obtain ⟨cs, t, h1, h2⟩ := h.row
  exact h1.lt
theorem SI.step {w1 W W' : World} {b off n : Nat} {f : Nat → Int} (h : SI w1 W b off n f) (hb : Below W.heap.size W W') : SI w1 W' b off n f := by
  have hl := h.lt
  obtain ⟨cs, t, ⟨z, h1, hz⟩, h2⟩ := h.row
  exact ⟨Kp.after h.kept (Kp.below hb), cs, t, ⟨z, (hb.block b hl).trans h1, hz⟩, h2⟩
theorem SI.drew {w1 W : World} {b off n : Nat} {f : Nat → Int} (h : SI w1 W b off n f) (q : Nat) : SI w1 (W.drewN q) b off n f := ⟨h.kept.toN q, h.row⟩
theorem SI.put {w1 W : World} {b off n : Nat} {f g : Nat → Int} (h : SI w1 W b off n f) (hb : b < w1.heap.size) (i : Nat) (hi : i < n) (x : Int) (hg : ∀ j, j < n → g j = if j = i then x else f j) :
    SI w1 (W.setCell ⟨b, off + i, none⟩ (.int .u8 x)) b off n g := by
  obtain ⟨cs, t, h1, h2⟩ := h.row
  have hlt : off + i < cs.size := (Array.getElem?_eq_some_iff.1 (h2 i hi)).1
  have h3 := h1.put (off + i) (.int .u8 x)
  refine ⟨⟨?_, fun k hk hne => ?_, h.kept.env⟩, cs.setIfInBounds (off + i) (.int .u8 x), t, h3, fun j hj => ?_⟩
  · rw [size_setCell]; exact h.kept.size
  · rw [← h.kept.old k hk hne]
    exact Below.heap_setCell _ _ _ _ hne
  · rw [Array.getElem?_setIfInBounds, hg j hj]
    by_cases e : j = i
    · subst e; rw [if_pos rfl, if_pos rfl, if_pos hlt]
    · rw [if_neg (by omega), if_neg e]; exact h2 j hj
end Go.Proofs.YtckdpckdabfkbabDoor.Scan
