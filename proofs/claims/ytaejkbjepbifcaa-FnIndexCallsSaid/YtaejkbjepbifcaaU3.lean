/- The walks over tries and what they compute: part 3 of several, put together by a program. -/
import Derived.Test.YtaejkbjepbifcaaU2
import Derived.Maps.Own
import Derived.Maps.Views
import Derived.Test.YtaejkbjepbifcaaU0
import Derived.Maps.OwnOps
import Derived.WalkArith
import Derived.Test.YtaejkbjepbifcaaU1
import Derived.Laws.OwnMore
import Derived.Deep.CutBlock
import Derived.Deep.DeepMust
import Derived.Outline
import Derived.Test.YtaejkbjepbifcaaProg
import Derived.Below
import Derived.Deep.Draws
import Derived.Deep.AppendLies
import Derived.Maps.AppendAt
import Derived.OwnWalk
import Derived.Laws.BytesArg
import Derived.Laws.MakeOwn
import Derived.Deep.OwnRows
import Derived.Tactics
import Derived.Lib.ConvBytes
import Derived.Laws.Slices
import Derived.WalkKit
import Derived.KernelRfl
import Derived.RowKit3
import Derived.Deep.LoopGhost
import Derived.Deep.QuietTactic
import Derived.BigQuiet
import Derived.WideLaws
import Derived.Deep.DeepCutAuto
import Derived.Deep.RegionHeld3
import Derived.Laws.Rows
import Derived.Lib.AppendStr
import Derived.ArgAppend
import Derived.Laws.IdiomCopy
import Derived.OrdersHeld
import Derived.Laws.BitsLemmas
import Derived.RowKit
import Derived.WalkSpells
import Derived.Test.YtaejkbjepbifcaaKOwn
import Derived.Test.YtaejkbjepbifcaaKWords
import Derived.Test.YtaejkbjepbifcaaKLast
import Derived.Test.YtaejkbjepbifcaaKTab
import Derived.Test.YtaejkbjepbifcaaKFour
import Derived.Test.YtaejkbjepbifcaaKQPut
import Derived.Test.YtaejkbjepbifcaaKApart
import Derived.Test.YtaejkbjepbifcaaKArr
import Derived.Test.YtaejkbjepbifcaaKZeros
import Derived.Test.YtaejkbjepbifcaaKFoot
import Derived.Test.YtaejkbjepbifcaaKKept
import Derived.Test.YtaejkbjepbifcaaKShare
import Derived.Test.YtaejkbjepbifcaaKN
import Derived.Test.YtaejkbjepbifcaaKFootNe
import Derived.Test.YtaejkbjepbifcaaKAt
import Derived.Test.YtaejkbjepbifcaaKEqStruct
import Derived.Test.YtaejkbjepbifcaaKRepsOne
import Derived.Test.YtaejkbjepbifcaaKInv
import Derived.Test.YtaejkbjepbifcaaKInvWords
import Derived.Test.YtaejkbjepbifcaaKGuard
import Derived.Test.YtaejkbjepbifcaaKNEv
import Derived.Test.YtaejkbjepbifcaaKMore
namespace Go.Proofs.Ytaejkbjepbifcaa.Da
open Go.RowKit Go.Maps Go.ChangeShapes Go.Proofs.YtaejkbjepbifcaaW.PrintWords Go.Proofs.Ytaejkbjepbifcaa.Plain
set_option linter.unusedVariables false
set_option linter.unusedSimpArgs false
/-- What has been gathered of the words so far. -/
structure IxS where
  keys : List ByteArray
  ids : List Int
  pn : Int
  pw : ByteArray
  dup : Int → Int
def bump (f : Int → Int) (p : Int) : Int → Int := fun k => if k = p then f k + 1 else f k
def ixAgain (s : IxS) : IxS := ⟨s.keys, s.ids, s.pn, s.pw, bump s.dup s.pn⟩
def ixNew (s : IxS) (i : Int) (t : ByteArray) : IxS := ⟨s.keys ++ [t], s.ids ++ [i], i, t, s.dup⟩
def ixStep (s : IxS) (i : Nat) (t : ByteArray) : IxS := if t.toList = s.pw.toList then ixAgain s else ixNew s i t
def ixTo (ws : List ByteArray) : Nat → IxS
  | 0 => ⟨[], [], 0, ByteArray.empty, fun _ => 0⟩
  | i + 1 => ixStep (ixTo ws i) i (ws.getD i ByteArray.empty)
theorem ixTo_succ (ws : List ByteArray) (i : Nat) : ixTo ws (i + 1) = ixStep (ixTo ws i) i (ws.getD i ByteArray.empty) := rfl
/-- What is told of it. -/
structure IxI (ws : List ByteArray) (i : Nat) (s : IxS) : Prop where
  len : s.ids.length = s.keys.length
  few : s.keys.length ≤ i
  dup : ∀ k, 0 ≤ s.dup k ∧ s.dup k ≤ i
  at_ : ∀ k, s.dup k ≠ 0 → 0 ≤ k ∧ k < i
  sub : ∀ t ∈ s.keys, t ∈ ws
  wt_ : wt s.keys ≤ wt (ws.take i)
  idb : ∀ d ∈ s.ids, 0 ≤ d ∧ d < i
  pn : 0 ≤ s.pn ∧ s.pn ≤ i
  pi : 0 < i → s.pn < i
  pw : s.pw.toList = if i = 0 then [] else (ws.getD (i - 1) ByteArray.empty).toList
  last : s.keys ≠ [] → (s.keys.getD (s.keys.length - 1) ByteArray.empty).toList = s.pw.toList
  up : ∀ j, j + 1 < s.keys.length → Op.bytesLess (s.keys.getD (j + 1) ByteArray.empty).toList (s.keys.getD j ByteArray.empty).toList = false
theorem empty_list : ByteArray.empty.toList = [] := by rw [Lib.toList_data]; rfl
theorem wt_snoc (l : List ByteArray) (t : ByteArray) : wt (l ++ [t]) = wt l + (t.size + 1) := by simp [wt]
theorem take_getD (ws : List ByteArray) {i : Nat} (h : i < ws.length) : ws.take (i + 1) = ws.take i ++ [ws.getD i ByteArray.empty] := by
  rw [List.take_add_one, List.getElem?_eq_getElem h, List.getD_eq_getElem?_getD, List.getElem?_eq_getElem h]; rfl
theorem getD_app_l {α : Type} (a b : List α) (z : α) {j : Nat} (h : j < a.length) : (a ++ b).getD j z = a.getD j z := by
  rw [List.getD_eq_getElem?_getD, List.getD_eq_getElem?_getD, List.getElem?_append_left h]
theorem getD_app_at {α : Type} (a : List α) (x z : α) : (a ++ [x]).getD a.length z = x := by
  rw [List.getD_eq_getElem?_getD, List.getElem?_append_right (Nat.le_refl _)]; simp
theorem ix_inv (ws : List ByteArray) (hup : ∀ j, j + 1 < ws.length → Op.bytesLess (ws.getD (j + 1) ByteArray.empty).toList (ws.getD j ByteArray.empty).toList = false) : ∀ i, i ≤ ws.length → IxI ws i (ixTo ws i)
  | 0, _ => ⟨rfl, Nat.le_refl _, fun _ => ⟨Int.le_refl _, Int.le_refl _⟩, fun _ h => absurd rfl h, (fun _ h => by cases h), Nat.zero_le _, (fun _ h => by cases h), ⟨Int.le_refl _, Int.le_refl _⟩, fun h => absurd h (Nat.lt_irrefl _), empty_list, fun h => absurd rfl h, fun j h => absurd h (Nat.not_lt_zero _)⟩
  | i + 1, hi => by
    have I := ix_inv ws hup i (by omega)
    have hil : i < ws.length := by omega
    rw [ixTo_succ]
    generalize ixTo ws i = s at I
    obtain ⟨t, ht⟩ : ∃ t, ws.getD i ByteArray.empty = t := ⟨_, rfl⟩
    have htm : t ∈ ws := by rw [← ht]; exact getD_mem _ hil
    have hpw : (ws.getD (i + 1 - 1) ByteArray.empty).toList = t.toList := by rw [Nat.add_sub_cancel, ht]
    have hwt : wt (ws.take (i + 1)) = wt (ws.take i) + (t.size + 1) := by rw [take_getD ws hil, wt_snoc, ht]
    have hp := I.pn
    have hf := I.few
    rw [ht]
    unfold ixStep
    split
    · rename_i he
      refine ⟨I.len, by show s.keys.length ≤ _; omega, fun k => ?_, fun k hk => ?_, I.sub, by show wt s.keys ≤ _; have := I.wt_; omega, fun d hd => by have := I.idb d hd; omega, by show 0 ≤ s.pn ∧ s.pn ≤ _; omega, fun _ => by show s.pn < _; omega, ?_, I.last, I.up⟩
      · show 0 ≤ bump s.dup s.pn k ∧ bump s.dup s.pn k ≤ _
        have := I.dup k
        unfold bump
        split <;> omega
      · have hk : bump s.dup s.pn k ≠ 0 := hk
        unfold bump at hk
        split at hk
        · omega
        · have := I.at_ k hk; omega
      · rw [if_neg (by omega), hpw]; exact he.symm
    · rename_i he
      have hlast : s.keys ≠ [] → Op.bytesLess t.toList (s.keys.getD (s.keys.length - 1) ByteArray.empty).toList = false := by
        intro hne
        rw [I.last hne, I.pw]
        have h0 : i ≠ 0 := by
          intro h0
          have : s.keys.length = 0 := by omega
          exact hne (List.length_eq_zero_iff.1 this)
        rw [if_neg h0, ← ht]
        have := hup (i - 1) (by omega)
        rw [show i - 1 + 1 = i by omega] at this
        exact this
      refine ⟨by show (s.ids ++ [(i : Int)]).length = (s.keys ++ [t]).length; simp [I.len], by show (s.keys ++ [t]).length ≤ _; simp; omega, fun k => by have := I.dup k; show 0 ≤ s.dup k ∧ s.dup k ≤ _; omega, fun k hk => by have := I.at_ k hk; omega, ?_, by show wt (s.keys ++ [t]) ≤ _; rw [wt_snoc, hwt]; have := I.wt_; omega, ?_, by show 0 ≤ (i : Int) ∧ (i : Int) ≤ _; omega, fun _ => by show (i : Int) < _; omega, by rw [if_neg (by omega), hpw]; rfl, fun _ => ?_, fun j hj => ?_⟩
      · intro x hx
        rcases List.mem_append.1 hx with h | h
        · exact I.sub x h
        · rw [List.mem_singleton.1 h]; exact htm
      · intro d hd
        rcases List.mem_append.1 hd with h | h
        · have := I.idb d h; omega
        · rw [List.mem_singleton.1 h]; omega
      · show ((s.keys ++ [t]).getD ((s.keys ++ [t]).length - 1) ByteArray.empty).toList = t.toList
        rw [List.length_append, List.length_singleton, Nat.add_sub_cancel, getD_app_at]
      · have hj : j + 1 < (s.keys ++ [t]).length := hj
        rw [List.length_append, List.length_singleton] at hj
        show Op.bytesLess ((s.keys ++ [t]).getD (j + 1) ByteArray.empty).toList ((s.keys ++ [t]).getD j ByteArray.empty).toList = false
        by_cases e : j + 1 = s.keys.length
        · rw [e, getD_app_at, getD_app_l s.keys [t] ByteArray.empty (j := j) (by omega), show j = s.keys.length - 1 by omega]
          exact hlast (fun h0 => by rw [h0] at e; simp at e)
        · rw [getD_app_l _ _ _ (by omega), getD_app_l _ _ _ (by omega)]
          exact I.up j (by omega)
theorem ix_keys_ne (ws : List ByteArray) (h0 : ws ≠ []) (hne : ∀ t ∈ ws, t.toList ≠ []) : (ixTo ws ws.length).keys ≠ [] := by
  have key : ∀ i, 0 < i → i ≤ ws.length → (ixTo ws i).keys ≠ [] := by
    intro i
    induction i with
    | zero => intro h; exact absurd h (Nat.lt_irrefl _)
    | succ i ih =>
      intro _ hi
      rw [ixTo_succ]
      unfold ixStep
      split
      · rename_i he
        by_cases h : i = 0
        · subst h
          exact absurd (he.trans empty_list) (hne _ (getD_mem _ (by omega)))
        · exact ih (by omega) (by omega)
      · show _ ++ [_] ≠ []
        simp
  exact key _ (List.length_pos_iff.2 h0) (Nat.le_refl _)
theorem ix_ok {ws : List ByteArray} {st : Bool} (hw : wt ws ≤ 4000) (ho : Ord ws st) : KeysOk (ixTo ws ws.length).keys (ixTo ws ws.length).ids := by
  have I := ix_inv ws ho.up ws.length (Nat.le_refl _)
  have h1 := I.wt_
  rw [List.take_length] at h1
  have := wt_len ws
  exact keys_ok2 (by omega) (ix_keys_ne ws ho.pos ho.ne) (fun t ht => ho.cln t (I.sub t ht)) I.up I.len (fun d hd => by have := I.idb d hd; omega)
theorem ix_sorted {ws : List ByteArray} {st : Bool} (hw : wt ws ≤ 4000) (ho : Ord ws st) : ∃ k, PB.slices_IsSorted_string_string.f k (ixTo ws ws.length).keys = some true := by
  have I := ix_inv ws ho.up ws.length (Nat.le_refl _)
  have := I.few
  have := wt_len ws
  exact sorted_ev _ (ix_keys_ne ws ho.pos ho.ne) (by omega) I.up
/-- A map that tells how often a key comes again. -/
structure DupD (D : DataW Unit) (f : Int → Int) : Prop where
  tidy : Tidy D
  at_ : ∀ k z, D.atKey (.int .i32 k) z = if f k = 0 then z else .lit (.int .i32 (f k))
theorem dup_start : DupD (.map []) (fun _ => 0) := ⟨tidy_empty, fun k z => by simp; rfl⟩
theorem DupD.bump {D : DataW Unit} {f : Int → Int} (h : DupD D f) (p : Int) (h0 : 0 ≤ f p) : DupD (D.put (.int .i32 p) (.lit (.int .i32 (f p + 1)))) (bump f p) := by
  refine ⟨h.tidy.put (by simp [Go.WideAt.IsKeyLit]) _, fun k z => ?_⟩
  unfold Da.bump
  by_cases e : k = p
  · subst e
    rw [if_pos rfl, if_neg (by omega), atKey_put_same h.tidy.isMap (by simp [Go.WideAt.IsKeyLit])]
  · rw [if_neg e, atKey_put_other (by intro h; injection h with _ h; exact e h), h.at_]
/-- The places of a key. -/
def run (id d : Int) : List Int := (List.range (d.toNat + 1)).map (fun j : Nat => id + (j : Int))
theorem run_len (id d : Int) : (run id d).length = d.toNat + 1 := by simp [run]
def idsAt (L : Keys) (f : Int → Int) (t : ByteArray) : List Int := if (fnd L t).2 = true then run (fnd L t).1 (f (fnd L t).1) else []
def hitsN (L : Keys) (t : ByteArray) : List (Int × Int) := hitsTo L (bs t) (bs t).length
def listsAt (L : Keys) (f : Int → Int) (t : ByteArray) : List (List Int) := (hitsN L t).map (fun h => run h.1 (f h.1))
def callsAt (f : Int → Int) (l : List (Int × Int)) : List PB.S39 := l.flatMap (fun h => (run h.1 (f h.1)).map (fun d => ⟨d, h.2⟩))
end Go.Proofs.Ytaejkbjepbifcaa.Da
namespace Go.Proofs.Ytaejkbjepbifcaa.Da
open Go.RowKit Go.Maps Go.ChangeShapes Go.WideMaps Go.Proofs.YtaejkbjepbifcaaW.PrintWords
set_option linter.unusedVariables false
set_option linter.unusedSimpArgs false
theorem key_i32 : Keyed Try.prog 21 := int_keyed Try.underlying21
theorem zero_i32 (w : World) : (zeroValue 21).run Try.prog w = .ok (.int .i32 0) w := by kernel_rfl
theorem lit_eq {a b : Int} (h : (DataW.lit (.int .i32 a) : DataW Unit) = .lit (.int .i32 b)) : a = b := by injection h with h; injection h
theorem info_str : (Try.prog.info? 9).map (fun i => (i.zero, i.size, i.bytes)) = some (some (.string ByteArray.empty), 1, 16) := by kernel_rfl
abbrev OMap (w : World) (mb n : Nat) (D : DataW Unit) : Prop := w.ownsMap Try.prog 21 (plainElem (H := Unit) Try.prog 21) mb n D
/-- A map of how often keys come again lies in a block. -/
def DupM (w : World) (mb : Nat) (f : Int → Int) : Prop := ∃ n D, n ≤ 1000000 ∧ OMap w mb n D ∧ DupD D f ∧ ∀ k, 0 ≤ f k ∧ f k ≤ 1000000
theorem own_mapD {w w' : World} {mb n : Nat} {D : DataW Unit} (h : OMap w mb n D) (e : w'.heap[mb]? = w.heap[mb]?) : OMap w' mb n D := by
  obtain ⟨es, clock, hb, F, hs, hD⟩ := h
  exact ⟨es, clock, e.trans hb, F, hs, hD⟩
theorem DupM.step {w w' : World} {mb : Nat} {f : Int → Int} (h : DupM w mb f) (e : w'.heap[mb]? = w.heap[mb]?) : DupM w' mb f := by
  obtain ⟨n, D, h1, h2, h3⟩ := h
  exact ⟨n, D, h1, own_mapD h2 e, h3⟩
theorem DupM.lt {w : World} {mb : Nat} {f : Int → Int} (h : DupM w mb f) : mb < w.heap.size := by
  obtain ⟨n, D, h1, h2, h3⟩ := h
  exact h2.lt
/-- The look-up. -/
theorem DupM.look {w : World} {mb : Nat} {f : Int → Int} (h : DupM w mb f) (k : Int) (hk : 0 ≤ k ∧ k ≤ 2147483647) : (Instr.lookup 93 (.map (some mb)) (.int .i32 k) false).run Try.prog w = .ok (.int .i32 (f k)) w := by
  obtain ⟨n, D, h1, h2, h3, h4⟩ := h
  have hkey : keyOf Try.prog 21 (.int .i32 k) = some (.int .i32 k) := keyOf_int_mk Try.underlying21 (Go.WalkArith.wf_i32 (by omega))
  obtain ⟨c, hrun, hat, hwc⟩ := h2.lookup_int key_i32 Try.underlying93 Try.underlying21 (zero_i32 w) hkey
  rw [h3.at_] at hat
  rw [hrun]
  by_cases e : f k = 0
  · rw [if_pos e] at hat
    rw [← lit_eq hat, e]
  · rw [if_neg e] at hat
    rw [← lit_eq hat]
/-- What lies in memory behind so many words. -/
structure BxS (W w : World) (rb mb xb pb B : Nat) (s : IxS) (i : Nat) (v5 v6 : Value) : Prop where
  kp : Kp W w (fun _ => False)
  ge : W.heap.size ≤ rb ∧ rb < mb ∧ mb < xb ∧ xb < B ∧ B ≤ pb ∧ pb < w.heap.size
  res : w.heap[rb]? = some (.cells #[.slice none 0 0, .map none] 95 (0, 0))
  idx : w.heap[xb]? = some (.cells #[.slice none 0 0, .map (some mb)] 95 (0, 0))
  prv : w.heap[pb]? = some (.cells #[.int .i64 s.pn, .string s.pw] 112 (0, 0))
  mp : ∃ D, OMap w mb i D ∧ DupD D s.dup
  r5 : Kd.R Kd.string 9 w B (fun k => k ≠ pb ∧ some k ≠ v6.ownBlock) v5 s.keys
  r6 : Kd.R (Kd.int .i64) 3 w B (fun k => k ≠ pb ∧ some k ≠ v5.ownBlock) v6 s.ids
section
variable {W w w' : World} {rb mb xb pb B : Nat} {s : IxS} {i : Nat} {v5 v6 : Value}
theorem BxS.cells (h : BxS W w rb mb xb pb B s i v5 v6) : w.cell? ⟨pb, 0, none⟩ = some (.int .i64 s.pn) ∧ w.cell? ⟨pb, 1, none⟩ = some (.string s.pw) ∧ w.frozen? ⟨pb, 0, none⟩ = false ∧ w.frozen? ⟨pb, 1, none⟩ = false ∧ w.cell? ⟨xb, 0, none⟩ = some (.slice none 0 0) ∧ w.cell? ⟨xb, 1, none⟩ = some (.map (some mb)) ∧ w.frozen? ⟨xb, 0, none⟩ = false ∧ w.frozen? ⟨rb, 0, none⟩ = false := by
  have h1 := h.prv
  have h2 := h.idx
  have h3 := h.res
  unfold World.cell? World.frozen?
  simp [h1, h2, h3]
theorem BxS.look (h : BxS W w rb mb xb pb B s i v5 v6) (hp : 0 ≤ s.pn ∧ s.pn ≤ 2147483647) : (Instr.lookup 93 (.map (some mb)) (.int .i32 s.pn) false).run Try.prog w = .ok (.int .i32 (s.dup s.pn)) w := by
  obtain ⟨D, h2, h3⟩ := h.mp
  have hkey : keyOf Try.prog 21 (.int .i32 s.pn) = some (.int .i32 s.pn) := keyOf_int_mk Try.underlying21 (Go.WalkArith.wf_i32 (by omega))
  obtain ⟨c, hrun, hat, hwc⟩ := h2.lookup_int key_i32 Try.underlying93 Try.underlying21 (zero_i32 w) hkey
  rw [h3.at_] at hat
  rw [hrun]
  by_cases e : s.dup s.pn = 0
  · rw [if_pos e] at hat
    rw [← lit_eq hat, e]
  · rw [if_neg e] at hat
    rw [← lit_eq hat]
theorem BxS.kept (h : BxS W w rb mb xb pb B s i v5 v6) (k : Kp w w' (fun _ => False)) : BxS W w' rb mb xb pb B s i v5 v6 := by
  obtain ⟨g1, g2, g3, g4, g5, g6⟩ := h.ge
  obtain ⟨D, m1, m2⟩ := h.mp
  exact ⟨(h.kp.trans k).mono (fun i _ h => by rcases h with h | h <;> exact h), ⟨g1, g2, g3, g4, g5, Nat.lt_of_lt_of_le g6 k.size⟩, (k.old _ (by omega) id).trans h.res, (k.old _ (by omega) id).trans h.idx, (k.old _ (by omega) id).trans h.prv, ⟨D, own_mapD m1 (k.old _ (by omega) id), m2⟩, Kd.R_step h.r5 (fun j _ hl => k.old j hl id), Kd.R_step h.r6 (fun j _ hl => k.old j hl id)⟩
theorem BxS.drewN (h : BxS W w rb mb xb pb B s i v5 v6) (q : Nat) : BxS W (w.drewN q) rb mb xb pb B s i v5 v6 := h.kept ((Kp.self w _).drewN q)
theorem BxS.up (h : BxS W w rb mb xb pb B s i v5 v6) : BxS W w rb mb xb pb B s (i + 1) v5 v6 := by
  obtain ⟨D, m1, m2⟩ := h.mp
  exact ⟨h.kp, h.ge, h.res, h.idx, h.prv, ⟨D, m1.mono (Nat.le_succ _), m2⟩, h.r5, h.r6⟩
/-- The key comes again. -/
theorem BxS.again2 {D : DataW Unit} (h : BxS W w rb mb xb pb B s i v5 v6) (h0 : 0 ≤ s.dup s.pn) (m2 : DupD D s.dup) (hm : OMap w' mb (i + 1) (D.put (.int .i32 s.pn) (.lit (.int .i32 (s.dup s.pn + 1))))) (hg : w.grownBy w' (some mb)) : BxS W w' rb mb xb pb B (ixAgain s) (i + 1) v5 v6 := by
  obtain ⟨g1, g2, g3, g4, g5, g6⟩ := h.ge
  have hb : ∀ j, j < w.heap.size → j ≠ mb → w'.heap[j]? = w.heap[j]? := fun j hj hn => hg.block j hj (fun e => hn (Option.some.inj e))
  refine ⟨kp_grown h.kp hg (fun j e => by cases e; omega), ⟨g1, g2, g3, g4, g5, Nat.lt_of_lt_of_le g6 hg.size⟩, (hb _ (by omega) (by omega)).trans h.res, (hb _ (by omega) (by omega)).trans h.idx, (hb _ (by omega) (by omega)).trans h.prv, ⟨_, hm, m2.bump _ h0⟩, ?_, ?_⟩
  · exact Kd.R_mono (Kd.R_step (Kd.R_bound h.r5) (fun j hj hl => hb j hl (by have := hj.2.1; omega))) (fun _ hk => hk.1)
  · exact Kd.R_mono (Kd.R_step (Kd.R_bound h.r6) (fun j hj hl => hb j hl (by have := hj.2.1; omega))) (fun _ hk => hk.1)
/-- The last key and its place are noted. -/
theorem BxS.note (h : BxS W w rb mb xb pb B s i v5 v6) (n : Int) (t : ByteArray) : BxS W ((w.setCell ⟨pb, 0, none⟩ (.int .i64 n)).setCell ⟨pb, 1, none⟩ (.string t)) rb mb xb pb B ⟨s.keys, s.ids, n, t, s.dup⟩ i v5 v6 := by
  obtain ⟨g1, g2, g3, g4, g5, g6⟩ := h.ge
  obtain ⟨D, m1, m2⟩ := h.mp
  have e1 := setCell_heap (i := 0) (v := .int .i64 n) h.prv
  have hb : ∀ j, j ≠ pb → ((w.setCell ⟨pb, 0, none⟩ (.int .i64 n)).setCell ⟨pb, 1, none⟩ (.string t)).heap[j]? = w.heap[j]? := fun j hn => (Below.heap_setCell _ _ _ _ (by show j ≠ pb; exact hn)).trans (Below.heap_setCell _ _ _ _ (by show j ≠ pb; exact hn))
  refine ⟨(h.kp.setNew _ _ (by show _ ≤ pb; omega)).setNew _ _ (by show _ ≤ pb; omega), ⟨g1, g2, g3, g4, g5, by rw [size_setCell, size_setCell]; exact g6⟩, (hb _ (by omega)).trans h.res, (hb _ (by omega)).trans h.idx, ?_, ⟨D, own_mapD m1 (hb _ (by omega)), m2⟩, Kd.R_far (Kd.R_far h.r5 (fun k hk => hk.1) _) (fun k hk => hk.1) _, Kd.R_far (Kd.R_far h.r6 (fun k hk => hk.1) _) (fun k hk => hk.1) _⟩
  exact (setCell_heap e1).trans (by rfl)
/-- The array is noted. -/
structure BxD (W w w' : World) (rb mb xb g n : Nat) (f : Int → Int) : Prop where
  kp : Kp W w' (fun _ => False)
  k2 : Kp w w' (fun j => j = xb)
  ge : W.heap.size ≤ rb ∧ rb < mb ∧ mb < xb ∧ xb < w.heap.size
  res : w'.heap[rb]? = some (.cells #[.slice none 0 0, .map none] 95 (0, 0))
  idx : w'.heap[xb]? = some (.cells #[.slice (some ⟨g, 0, none⟩) n n, .map (some mb)] 95 (0, 0))
theorem BxS.done (h : BxS W w rb mb xb pb B s i v5 v6) (g n : Nat) : BxD W w (w.setCell ⟨xb, 0, none⟩ (.slice (some ⟨g, 0, none⟩) n n)) rb mb xb g n s.dup := by
  obtain ⟨g1, g2, g3, g4, g5, g6⟩ := h.ge
  exact ⟨h.kp.setNew _ _ (by show _ ≤ xb; omega), (Kp.self w _).setCell _ _ rfl, ⟨g1, g2, g3, by omega⟩, (Below.heap_setCell _ _ _ _ (by show rb ≠ xb; omega)).trans h.res, (setCell_heap h.idx).trans (by rfl)⟩
theorem BxD.cells {W w w' : World} {rb mb xb g n : Nat} {f : Int → Int} (h : BxD W w w' rb mb xb g n f) : w'.cell? ⟨xb, 0, none⟩ = some (.slice (some ⟨g, 0, none⟩) n n) ∧ w'.cell? ⟨xb, 1, none⟩ = some (.map (some mb)) ∧ w'.frozen? ⟨rb, 0, none⟩ = false ∧ w'.frozen? ⟨rb, 1, none⟩ = false ∧ w'.cell? ⟨rb, 0, none⟩ = some (.slice none 0 0) ∧ w'.cell? ⟨rb, 1, none⟩ = some (.map none) := by
  have h2 := h.idx
  have h3 := h.res
  unfold World.cell? World.frozen?
  simp [h2, h3]
theorem BxD.ret {W w w' : World} {rb mb xb g n : Nat} {f : Int → Int} (h : BxD W w w' rb mb xb g n f) : ((w'.setCell ⟨rb, 0, none⟩ (.slice (some ⟨g, 0, none⟩) n n)).setCell ⟨rb, 1, none⟩ (.map (some mb))).cell? ⟨rb, 0, none⟩ = some (.slice (some ⟨g, 0, none⟩) n n) ∧ ((w'.setCell ⟨rb, 0, none⟩ (.slice (some ⟨g, 0, none⟩) n n)).setCell ⟨rb, 1, none⟩ (.map (some mb))).cell? ⟨rb, 1, none⟩ = some (.map (some mb)) ∧ Kp W ((w'.setCell ⟨rb, 0, none⟩ (.slice (some ⟨g, 0, none⟩) n n)).setCell ⟨rb, 1, none⟩ (.map (some mb))) (fun _ => False) ∧ Kp w ((w'.setCell ⟨rb, 0, none⟩ (.slice (some ⟨g, 0, none⟩) n n)).setCell ⟨rb, 1, none⟩ (.map (some mb))) (fun j => j = xb ∨ j = rb) := by
  have e1 := setCell_heap (i := 0) (v := .slice (some ⟨g, 0, none⟩) n n) h.res
  have e2 := setCell_heap (i := 1) (v := .map (some mb)) e1
  obtain ⟨g1, g2, g3, g4⟩ := h.ge
  refine ⟨by unfold World.cell?; simp [e2], by unfold World.cell?; simp [e2], (h.kp.setNew _ _ g1).setNew _ _ g1, ?_⟩
  exact ((h.k2.mono (T := fun j => j = xb ∨ j = rb) (fun j _ hj => .inl hj)).setCell _ _ (.inr rfl)).setCell _ _ (.inr rfl)
/-- A key more. -/
theorem BxS.key {t : ByteArray} {va : Value} (h : BxS W w rb mb xb pb B s i v5 v6) (hr : Kd.R Kd.string 9 w' B (fun k => k ≠ pb ∧ some k ≠ v6.ownBlock) va (s.keys ++ [t])) (hg : w.grownBy w' v5.ownBlock) (hat : va.ownBlock = v5.ownBlock ∨ ∃ b, va.ownBlock = some b ∧ w.heap.size ≤ b) : BxS W w' rb mb xb pb B ⟨s.keys ++ [t], s.ids, s.pn, s.pw, s.dup⟩ i va v6 := by
  obtain ⟨g1, g2, g3, g4, g5, g6⟩ := h.ge
  obtain ⟨D, m1, m2⟩ := h.mp
  have hv : ∀ j, v5.ownBlock = some j → B ≤ j ∧ j ≠ pb := fun j e => ⟨Kd.R_base h.r5 j e, (h.r5.1 j e).1⟩
  have hb : ∀ j, j < w.heap.size → (j < B ∨ j = pb) → w'.heap[j]? = w.heap[j]? := fun j hj hn => hg.block j hj (fun e => by have := hv j e.symm; omega)
  exact ⟨kp_grown h.kp hg (fun j e => by have := hv j e; omega), ⟨g1, g2, g3, g4, g5, Nat.lt_of_lt_of_le g6 hg.size⟩, (hb _ (by omega) (by omega)).trans h.res, (hb _ (by omega) (by omega)).trans h.idx, (hb _ (by omega) (by omega)).trans h.prv, ⟨D, own_mapD m1 (hb _ (by omega) (by omega)), m2⟩, hr, Kd.R_after h.r6 hg hat⟩
/-- A place more. -/
theorem BxS.id {d : Int} {va : Value} (h : BxS W w rb mb xb pb B s i v5 v6) (hr : Kd.R (Kd.int .i64) 3 w' B (fun k => k ≠ pb ∧ some k ≠ v5.ownBlock) va (s.ids ++ [d])) (hg : w.grownBy w' v6.ownBlock) (hat : va.ownBlock = v6.ownBlock ∨ ∃ b, va.ownBlock = some b ∧ w.heap.size ≤ b) : BxS W w' rb mb xb pb B ⟨s.keys, s.ids ++ [d], s.pn, s.pw, s.dup⟩ i v5 va := by
  obtain ⟨g1, g2, g3, g4, g5, g6⟩ := h.ge
  obtain ⟨D, m1, m2⟩ := h.mp
  have hv : ∀ j, v6.ownBlock = some j → B ≤ j ∧ j ≠ pb := fun j e => ⟨Kd.R_base h.r6 j e, (h.r6.1 j e).1⟩
  have hb : ∀ j, j < w.heap.size → (j < B ∨ j = pb) → w'.heap[j]? = w.heap[j]? := fun j hj hn => hg.block j hj (fun e => by have := hv j e.symm; omega)
  exact ⟨kp_grown h.kp hg (fun j e => by have := hv j e; omega), ⟨g1, g2, g3, g4, g5, Nat.lt_of_lt_of_le g6 hg.size⟩, (hb _ (by omega) (by omega)).trans h.res, (hb _ (by omega) (by omega)).trans h.idx, (hb _ (by omega) (by omega)).trans h.prv, ⟨D, own_mapD m1 (hb _ (by omega) (by omega)), m2⟩, Kd.R_after h.r5 hg hat, hr⟩
end
/-- Ahead of the words. -/
structure BxA (W w : World) (rb mb xb : Nat) : Prop where
  kp : Kp W w (fun _ => False)
  ge : W.heap.size ≤ rb ∧ rb < mb ∧ mb < xb ∧ xb < w.heap.size
  res : w.heap[rb]? = some (.cells #[.slice none 0 0, .map none] 95 (0, 0))
  idx : w.heap[xb]? = some (.cells #[.slice none 0 0, .map (some mb)] 95 (0, 0))
  mp : OMap w mb 0 (.map [])
theorem bxa_start (W : World) : BxA W (((W.alloc (.cells #[.slice none 0 0, .map none] 95)).alloc (.map #[] 0)).alloc (.cells #[.slice none 0 0, .map (some (W.heap.size + 1))] 95)) W.heap.size (W.heap.size + 1) (W.heap.size + 1 + 1) := by
  have e1 : (W.alloc (.cells #[.slice none 0 0, .map none] 95)).heap.size = W.heap.size + 1 := Own.size_alloc _ _
  have e2 : ((W.alloc (.cells #[.slice none 0 0, .map none] 95)).alloc (.map #[] 0)).heap.size = W.heap.size + 1 + 1 := by rw [Own.size_alloc, e1]
  have m0 := World.ownsMap_made (W.alloc (.cells #[.slice none 0 0, .map none] 95)) Try.prog 21 (plainElem (H := Unit) Try.prog 21)
  rw [e1] at m0
  have b1 := below_alloc (Below.refl _ (W.alloc (.cells #[.slice none 0 0, .map none] 95))) (.map #[] 0)
  have b2 := below_alloc (Below.refl _ ((W.alloc (.cells #[.slice none 0 0, .map none] 95)).alloc (.map #[] 0))) (.cells #[.slice none 0 0, .map (some (W.heap.size + 1))] 95)
  refine ⟨(((Kp.self W _).alloc _).alloc _).alloc _, ⟨Nat.le_refl _, by omega, by omega, by rw [Own.size_alloc, e2]; omega⟩, ?_, by rw [← e2]; exact blk_new _ _, m0.alloc _⟩
  exact (b2.block _ (by omega)).trans ((b1.block _ (by omega)).trans (blk_new W _))
theorem BxA.drewN {W w : World} {rb mb xb : Nat} (h : BxA W w rb mb xb) (q : Nat) : BxA W (w.drewN q) rb mb xb := ⟨h.kp.drewN q, h.ge, h.res, h.idx, own_mapD h.mp rfl⟩
/-- A new row of no elements with room. -/
theorem room_row {α : Type} {enc : α → Value} {h1 : ∀ x, (enc x).oneCell' = true} {e : Nat} {w : World} {base g n : Nat} {cur : Array Value} {ok : Nat → Prop} (hb : w.heap[g]? = some (.cells cur e (0, 0))) (hs : cur.size = n) (hn : n ≤ maxLen) (hg : base ≤ g) (hok : ok g) : (Kd.scalar enc h1).R e w base ok (.slice (some ⟨g, 0, none⟩) 0 n) ([] : List α) :=
  Kd.R_of_own ⟨rfl, .inr ⟨g, n, cur, rfl, hg, hb, Nat.zero_le _, hn, by omega, by simp [encs]⟩⟩ (fun k hk => by cases hk; exact hok)
abbrev strZeros (n : Nat) : Obj := .cells (madeCells #[.string ByteArray.empty] n) 9 (0, 0)
theorem bxs_start {W w : World} {rb mb xb n : Nat} (h : BxA W w rb mb xb) (hn : n ≤ 1000000) : BxS W (((w.alloc (strZeros n)).alloc (intZeros n)).alloc (.cells #[.int .i64 0, .string ByteArray.empty] 112)) rb mb xb (w.heap.size + 1 + 1) w.heap.size ⟨[], [], 0, ByteArray.empty, fun _ => 0⟩ 0 (.slice (some ⟨w.heap.size, 0, none⟩) 0 n) (.slice (some ⟨w.heap.size + 1, 0, none⟩) 0 n) := by
  obtain ⟨g1, g2, g3, g4⟩ := h.ge
  have e1 : (w.alloc (strZeros n)).heap.size = w.heap.size + 1 := Own.size_alloc _ _
  have e2 : ((w.alloc (strZeros n)).alloc (intZeros n)).heap.size = w.heap.size + 1 + 1 := by rw [Own.size_alloc, e1]
  have b1 := below_alloc (Below.refl _ w) (strZeros n)
  have b2 := below_alloc (Below.refl _ (w.alloc (strZeros n))) (intZeros n)
  have b3 := below_alloc (Below.refl _ ((w.alloc (strZeros n)).alloc (intZeros n))) (.cells #[.int .i64 0, .string ByteArray.empty] 112)
  have old : ∀ j, j < w.heap.size → (((w.alloc (strZeros n)).alloc (intZeros n)).alloc (.cells #[.int .i64 0, .string ByteArray.empty] 112)).heap[j]? = w.heap[j]? := fun j hj => (b3.block _ (by omega)).trans ((b2.block _ (by omega)).trans (b1.block _ hj))
  refine ⟨((h.kp.alloc _).alloc _).alloc _, ⟨g1, g2, g3, g4, by omega, by rw [Own.size_alloc, e2]; omega⟩, (old _ (by omega)).trans h.res, (old _ g4).trans h.idx, by rw [← e2]; exact blk_new _ _, ⟨_, own_mapD h.mp (old _ (by omega)), dup_start⟩, ?_, ?_⟩
  · exact room_row ((b3.block _ (by omega)).trans ((b2.block _ (by omega)).trans (blk_new w _))) (by rw [size_madeCells]) (by unfold maxLen; omega) (Nat.le_refl _) ⟨by omega, fun e => by have e2 : w.heap.size = w.heap.size + 1 := Option.some.inj e; omega⟩
  · refine room_row (g := w.heap.size + 1) ((b3.block _ (by omega)).trans (by rw [← e1]; exact blk_new _ _)) (by rw [size_madeCells]) (by unfold maxLen; omega) (by omega) ⟨by omega, fun e => by have e2 : w.heap.size + 1 = w.heap.size := Option.some.inj e; omega⟩
theorem make_room_ints (W : World) (n : Nat) (hn : n ≤ 1073741824) : (Instr.makeSlice 23 (.int .i64 0) (.int .i64 (n : Int))).run Try.prog W = .ok (.slice (some ⟨W.heap.size, 0, none⟩) 0 n) (W.alloc (intZeros n)) := by
  obtain ⟨i, hi, hz⟩ := Option.map_eq_some_iff.1 info_int
  simp only [Prod.mk.injEq] at hz
  obtain ⟨h1, h2, h3⟩ := hz
  have := run_make (P := Try.prog) W 23 3 i _ Try.underlying23 hi h1 .i64 .i64 0 (n : Int) (by omega) (by omega) (by rw [h3]; omega) (by omega)
  rw [this, h2]
  simp only [Int.toNat_natCast, Nat.mul_one]
  rfl
theorem make_room_strs (W : World) (n : Nat) (hn : n ≤ 1073741824) : (Instr.makeSlice 22 (.int .i64 0) (.int .i64 (n : Int))).run Try.prog W = .ok (.slice (some ⟨W.heap.size, 0, none⟩) 0 n) (W.alloc (strZeros n)) := by
  obtain ⟨i, hi, hz⟩ := Option.map_eq_some_iff.1 info_str
  simp only [Prod.mk.injEq] at hz
  obtain ⟨h1, h2, h3⟩ := hz
  have := run_make (P := Try.prog) W 22 9 i _ Try.underlying22 hi h1 .i64 .i64 0 (n : Int) (by omega) (by omega) (by rw [h3]; omega) (by omega)
  rw [this, h2]
  simp only [Int.toNat_natCast, Nat.mul_one]
  rfl
end Go.Proofs.Ytaejkbjepbifcaa.Da
namespace Go.Proofs.Ytaejkbjepbifcaa.Da
open Go.RowKit Go.Maps Go.ChangeShapes Go.WideMaps Go.Proofs.YtaejkbjepbifcaaW.PrintWords
set_option linter.unusedVariables false
set_option linter.unusedSimpArgs false
/-- An index as it lies in memory. -/
structure IxW (w : World) (g : Nat) (s : DA) (mb : Nat) (L : Keys) (f : Int → Int) : Prop where
  arr : Arr w g s
  good : Good s 0 L
  pos : 0 < s.n
  dup : DupM w mb f
theorem IxW.kept {w w' : World} {g mb : Nat} {s : DA} {L : Keys} {f : Int → Int} {S : Nat → Prop} (h : IxW w g s mb L f) (k : Kp w w' S) (h1 : ¬ S g) (h2 : ¬ S mb) : IxW w' g s mb L f :=
  ⟨h.arr.step (k.old g h.arr.lt h1), h.good, h.pos, h.dup.step (k.old mb h.dup.lt h2)⟩
def IxE (W w' : World) (L : Keys) (f : Int → Int) (e : Ending) : Prop := ∃ g s mb, e = .returned (.tuple #[.agg #[.slice (some ⟨g, 0, none⟩) s.n s.n, .map (some mb)], .nilIface]) ∧ IxW w' g s mb L f ∧ W.heap.size ≤ g ∧ W.heap.size ≤ mb ∧ Kp W w' (fun _ => False)
set_option maxHeartbeats 16000000 in
set_option maxRecDepth 100000 in
theorem bix_calls (W : World) (A : Option Addr) (c k k2 : Nat) (ws : List ByteArray) (hr : Kd.C Kd.string W A ws.length ws) (hc : ws.length ≤ c) (hs : PB.slices_IsSorted_string_string.f k ws = some true) (hup : ∀ j, j + 1 < ws.length → Op.bytesLess (ws.getD (j + 1) ByteArray.empty).toList (ws.getD j ByteArray.empty).toList = false) (hs2 : PB.slices_IsSorted_string_string.f k2 (ixTo ws ws.length).keys = some true) (K_ : KeysOk (ixTo ws ws.length).keys (ixTo ws ws.length).ids) (hfew : ws.length ≤ 1000000) (hsz : ∀ t ∈ ws, t.size ≤ 1000000000) :
    Calls Try.prog 55 #[.slice A ws.length c] W fun e w' => IxE W w' (keysAll (ixTo ws ws.length).keys (ixTo ws ws.length).ids) (ixTo ws ws.length).dup e := by
  have HR := Aside0.mk hr
  have HC := Aside0.mk hc
  have HSO := Aside0.mk hs
  have HUP := Aside0.mk hup
  have HS2 := Aside0.mk hs2
  have HK := Aside0.mk K_
  have HSZ := Aside0.mk hsz
  have hmm := @run_makeMap Try.prog
  clear hr hc hs hup hs2 K_ hsz
  go_enter Try.func55, Try.ntmps55
  have hA1 := bxa_start W
  go_upto_region 2 with fail
  obtain ⟨w1, hw1⟩ : ∃ w1, w1 = ((W.alloc (Obj.cells #[Value.slice none 0 0, Value.map none] 95)).alloc (Obj.map #[] 0)).alloc (Obj.cells #[Value.slice none 0 0, Value.map (some (W.heap.size + 1))] 95) := ⟨_, rfl⟩
  rw [← hw1] at hA1 ⊢
  obtain ⟨rb, hrb⟩ : ∃ rb, W.heap.size = rb := ⟨_, rfl⟩
  rw [hrb] at hA1 ⊢
  obtain ⟨mb, hmb⟩ : ∃ mb, rb + 1 = mb := ⟨_, rfl⟩
  rw [hmb] at hA1 ⊢
  obtain ⟨xb, hxb⟩ : ∃ xb, mb + 1 = xb := ⟨_, rfl⟩
  rw [hxb] at hA1 ⊢
  have HA1 := Aside0.mk hA1
  have HW := Aside0.mk hrb
  have HSC := Aside0.mk (PB.slices_IsSorted_string_string.calls k A c ws true w1 (Kd.C_below HR.out (kp_below hA1.kp)) HC.out HSO.out)
  clear hA1 hw1 hrb hmb hxb
  go_upto_region 4 with (go_at_call 39; refine HSC.out.mono ?_; rintro e_ w2 ⟨rfl, ⟨q2, rfl⟩⟩)
  obtain ⟨w2, hw2⟩ : ∃ w2, w2 = w1.drewN q2 := ⟨_, rfl⟩
  have hA2 := HA1.out.drewN q2
  rw [← hw2] at hA2 ⊢
  have hS := bxs_start hA2 hfew
  obtain ⟨Z1, hZ1⟩ : ∃ Z1, Z1 = strZeros ws.length := ⟨_, rfl⟩
  obtain ⟨Z2, hZ2⟩ : ∃ Z2, Z2 = intZeros ws.length := ⟨_, rfl⟩
  have hmks : ∀ w : World, (Instr.makeSlice 22 (.int .i64 0) (.int .i64 (ws.length : Int))).run Try.prog w = .ok (.slice (some ⟨w.heap.size, 0, none⟩) 0 ws.length) (w.alloc Z1) := fun w => by
    rw [hZ1]; exact make_room_strs w ws.length (by omega)
  have hmki : ∀ w : World, (Instr.makeSlice 23 (.int .i64 0) (.int .i64 (ws.length : Int))).run Try.prog w = .ok (.slice (some ⟨w.heap.size, 0, none⟩) 0 ws.length) (w.alloc Z2) := fun w => by
    rw [hZ2]; exact make_room_ints w ws.length (by omega)
  rw [← hZ1, ← hZ2] at hS
  have HA2 := Aside0.mk hA2
  have HS := Aside0.mk hS
  clear hA2 hS hZ1 hZ2 hw2
  go_upto_region 7 with fail
  obtain ⟨w3, hw3⟩ : ∃ w3, w3 = ((w2.alloc Z1).alloc Z2).alloc (Obj.cells #[Value.int IntKind.i64 0, Value.string { data := #[] }] 112) := ⟨_, rfl⟩
  have hS := HS.out
  rw [show ((w2.alloc Z1).alloc Z2).alloc (Obj.cells #[Value.int IntKind.i64 0, Value.string ByteArray.empty] 112) = w3 from hw3.symm] at hS
  rw [← hw3]
  obtain ⟨B, hB⟩ : ∃ B, w2.heap.size = B := ⟨_, rfl⟩
  rw [hB] at hS ⊢
  obtain ⟨pb, hpb⟩ : ∃ pb, B + 1 + 1 = pb := ⟨_, rfl⟩
  rw [hpb] at hS ⊢
  have HS0 := Aside0.mk hS
  clear hw3 hS hB hpb HS hmks hmki HSC HA1 HA2 hmm
  go_wp2_with fail
  go_loopg [5, 6, 8, 9, 28] ws.length (fun kq v5 v6 v8 v9 v28 w' => ∃ (i : Nat), v28 = .int .i64 (i : Int) ∧ Aside0 (i + kq = ws.length) ∧ Aside0 (BxS W w' rb mb xb pb B (ixTo ws i) i v5 v6))
  case atStart => exact ⟨0, rfl, ⟨by omega⟩, HS0⟩
  case round =>
    clear HS0
    obtain ⟨i, rfl, HI, HS⟩ := hrel
    have hi := HI.out
    by_cases hil : i < ws.length
    · have hiz : (i : Int) < (ws.length : Int) := by omega
      obtain ⟨ad, hA, hcell⟩ := str_cell HR.out i hil
      subst hA
      have hcj : wr.cell? (ad.add i) = some (.string (ws.getD i ByteArray.empty)) := (World.cell?_of_block (HS.out.kp.old _ (cell_lt hcell) id)).trans hcell
      have hI := ix_inv ws HUP.out i (by omega)
      have hN := ixTo_succ ws i
      obtain ⟨t, ht⟩ : ∃ t, ws.getD i ByteArray.empty = t := ⟨_, rfl⟩
      obtain ⟨s, hs⟩ : ∃ s, ixTo ws i = s := ⟨_, rfl⟩
      rw [ht] at hcj hN
      rw [hs] at hI hN HS
      have hts : t.size ≤ 1000000000 := by rw [← ht]; exact HSZ.out _ (getD_mem _ hil)
      obtain ⟨c0, c1, z0, z1, _, d1, _, _⟩ := HS.out.cells
      have hp := hI.pn
      have hlen := hI.len
      have hfk := hI.few
      have hdp := hI.dup s.pn
      have hw1 : wrap32 s.pn = s.pn := by unfold wrap32; omega
      have hw2 : wrap32 (s.dup s.pn + 1) = s.dup s.pn + 1 := by unfold wrap32; omega
      have hlk := HS.out.look ⟨by omega, by omega⟩
      have HN := Aside0.mk hN
      clear hcell ht hs hN hI
      cases gk with
      | zero => omega
      | succ kz =>
      by_cases he : t.toList = s.pw.toList
      · have heb : (t.toList == s.pw.toList) = true := by rw [he]; simp
        obtain ⟨D, m1, m2⟩ := HS.out.mp
        have hkey : keyOf Try.prog 21 (.int .i32 s.pn) = some (.int .i32 s.pn) := keyOf_int_mk Try.underlying21 (Go.WalkArith.wf_i32 (by omega))
        have hval : plainElem (H := Unit) Try.prog 21 (.int .i32 (s.dup s.pn + 1)) = some (.lit (.int .i32 (s.dup s.pn + 1)), []) := plainElem_int Try.underlying21 (Go.WalkArith.wf_i32 (by omega))
        have HE := Aside0.mk he
        have M1 := Aside0.mk m1
        have M2 := Aside0.mk m2
        have HKY := Aside0.mk hkey
        have HVL := Aside0.mk hval
        clear he m1 m2 hkey hval
        go_wp2_with (first | (at_mapUpdate; refine wpList_mapUpdate_own _ rfl _ _ _ 93 rfl 21 21 key_i32 Try.underlying93 _ mb i _ rfl M1.out (by unfold maxLen; omega) _ _ _ rfl rfl HKY.out _ _ HVL.out ?_; intro w5 hown hgrow; have HS2 := Aside0.mk (HS.out.again2 hdp.1 M2.out hown hgrow); clear hown hgrow))
        go_roundg kz
        case measure => omega
        case rel => exact ⟨i + 1, congrArg (Value.int .i64) (by omega), ⟨by omega⟩, ⟨by rw [HN.out]; unfold ixStep; rw [if_pos HE.out]; exact HS2.out⟩⟩
      · have heb : (t.toList == s.pw.toList) = false := by rw [beq_eq_false_iff_ne]; exact he
        have HE := Aside0.mk he
        clear he hlk
        go_upto_region 14 with fail
        obtain ⟨wr2, hwr2⟩ : ∃ wr2, wr2 = (wr.setCell ⟨pb, 0, none⟩ (.int .i64 (i : Int))).setCell ⟨pb, 1, none⟩ (.string t) := ⟨_, rfl⟩
        have hS2 := HS.out.note (i : Int) t
        rw [← hwr2] at hS2 ⊢
        have HS2 := Aside0.mk hS2
        clear hwr2 hS2 c0 c1 z0 z1 d1
        go_wp2_with (first | ((with_reducible refine gate_builtin (b := .append) (xs := #[.tmp 48, .tmp 50]) rfl ?_); at_builtin; refine Kd.R_append (Kd.string) (w0 := wr2) B rfl (.tmp 48) (.tmp 50) 22 9 (.string ByteArray.empty) 16 rfl Try.underlying22 info_str rfl (by decide) (by omega) u5 s.keys (t) [.string t] (fun k_ => k_ ≠ pb ∧ some k_ ≠ (u6 : Value).ownBlock) (fun _ => False) rfl rfl rfl (fun _ hk => hk.elim) (fun k_ hk => ?_) HS2.out.r5 (Below.refl _ _) ?_ (by omega) ?_; (exact ⟨by have := HS2.out.ge; omega, Kd.fresh' (Kd.R_lt HS2.out.r6) k_ hk⟩); (have := HS2.out.ge; omega); (intro va wa ho hb hg hat; have HS3 := Aside0.mk (HS2.out.key ho hg hat); clear ho hb hg hat)) | ((with_reducible refine gate_builtin (b := .append) (xs := #[.tmp 52, .tmp 54]) rfl ?_); at_builtin; refine Kd.R_append (Kd.int .i64) (w0 := wa) B rfl (.tmp 52) (.tmp 54) 23 3 (.int .i64 0) 8 rfl Try.underlying23 info_int rfl (by decide) (by omega) u6 s.ids ((i : Int)) [.int .i64 (i : Int)] (fun k_ => k_ ≠ pb ∧ some k_ ≠ (va : Value).ownBlock) (fun _ => False) rfl rfl rfl (fun _ hk => hk.elim) (fun k_ hk => ?_) HS3.out.r6 (Below.refl _ _) ?_ (by omega) ?_; (exact ⟨by have := HS3.out.ge; omega, Kd.fresh' (Kd.R_lt HS3.out.r5) k_ hk⟩); (have := HS3.out.ge; omega); (intro vb wb ho hb hg hat; have HS4 := Aside0.mk (HS3.out.id ho hg hat); clear ho hb hg hat)))
        go_roundg kz
        case measure => omega
        case rel => exact ⟨i + 1, congrArg (Value.int .i64) (by omega), ⟨by omega⟩, ⟨by rw [HN.out]; unfold ixStep; rw [if_neg HE.out]; exact HS4.out.up⟩⟩
    · have hiz : ¬ (i : Int) < (ws.length : Int) := by omega
      have hie : i = ws.length := by omega
      subst hie
      obtain ⟨s, hs⟩ : ∃ s, ixTo ws ws.length = s := ⟨_, rfl⟩
      have hI := ix_inv ws HUP.out ws.length (Nat.le_refl _)
      have hkk := HK.out
      have hss := HS2.out
      rw [hs] at hI HS hkk hss
      have HSE := Aside0.mk hs
      have HI2 := Aside0.mk hI
      have HK3 := Aside0.mk hkk
      obtain ⟨kb, kc, rfl, b1, b2, b3, b4⟩ := own_head HS.out.r5 hkk.ne
      obtain ⟨ib, ic, rfl, d1, d2, d3, d4⟩ := own_head HS.out.r6 (fun e => hkk.ne (List.length_eq_zero_iff.1 (by rw [← hkk.len, e]; rfl)))
      have hb := build_sorted wr kb 0 ib 0 kc ic k2 s.keys s.ids (src_of hkk b4 d4 b2 d2) b4 b3 hss hkk.ne hkk.ok hkk.asc hkk.tot
      have HBS := Aside0.mk hb
      have HIL := Aside0.mk hI.len
      clear hb hkk hss b4 d4 hI hs
      go_upto_region 20 with (go_at_call 26; refine HBS.out.mono ?_; rintro e_ w6 ⟨g, sd, rfl, hA, hG, hn, hg, hK⟩; have HA := Aside0.mk hA; have HG := Aside0.mk hG; have HSB := Aside0.mk (HS.out.kept hK); have HKB := Aside0.mk hK; clear hA hG hK)
      obtain ⟨_, _, _, _, x0, x1, y0, y1⟩ := HSB.out.cells
      go_upto_region 21 with fail
      obtain ⟨w7, hw7⟩ : ∃ w7, w7 = w6.setCell ⟨xb, 0, none⟩ (.slice (some ⟨g, 0, none⟩) sd.n sd.n) := ⟨_, rfl⟩
      have hD := HSB.out.done g sd.n
      rw [← hw7] at hD ⊢
      have HD := Aside0.mk hD
      obtain ⟨x0, x1, y0, y1, r0, r1⟩ := hD.cells
      clear hw7 hD
      go_wp2_with fail
      obtain ⟨w8, hw8⟩ : ∃ w8, w8 = (w7.setCell ⟨rb, 0, none⟩ (.slice (some ⟨g, 0, none⟩) sd.n sd.n)).setCell ⟨rb, 1, none⟩ (.map (some mb)) := ⟨_, rfl⟩
      obtain ⟨q0, q1, kp8, kq8⟩ := HD.out.ret
      rw [← hw8] at q0 q1 kp8 kq8 ⊢
      have HQ := Aside0.mk kq8
      have HP := Aside0.mk kp8
      clear hw8 kp8 kq8 x0 x1 y0 y1 r0 r1
      refine bodyPost_ret (v := .tuple #[.agg #[.slice (some ⟨g, 0, none⟩) sd.n sd.n, .map (some mb)], .nilIface]) ?_ rfl ?_
      · simp [results, Try.results55, go_sem, q0, q1]
      · rw [HSE.out]
        have hge := HSB.out.ge
        have hgw := HS.out.ge
        obtain ⟨D, m1, m2⟩ := HSB.out.mp
        have hIx : IxW w6 g sd mb (keysAll s.keys s.ids) s.dup := ⟨HA.out, HG.out, hn, _, D, hfew, m1, m2, fun k => by have := HI2.out.dup k; omega⟩
        exact ⟨g, sd, mb, rfl, hIx.kept HQ.out (by omega) (by omega), by omega, by omega, HP.out⟩
end Go.Proofs.Ytaejkbjepbifcaa.Da
namespace Go.Proofs.Ytaejkbjepbifcaa.Da
open Go.RowKit Go.Maps Go.ChangeShapes Go.WideMaps Go.Proofs.YtaejkbjepbifcaaW.PrintWords
set_option linter.unusedVariables false
set_option linter.unusedSimpArgs false
/-- Identifiers that fit. -/
def KB (L : Keys) : Prop := ∀ x ∈ L, 0 ≤ x.2 ∧ x.2 ≤ 1000000
theorem KB.subw {L : Keys} (h : KB L) : ∀ w, KB (subw L w)
  | [] => h
  | c :: w => by
    refine KB.subw (L := sub L c) ?_ w
    intro x hx
    obtain ⟨a, ha, hs⟩ := List.mem_filterMap.1 hx
    obtain ⟨k, v⟩ := a
    unfold subk at hs
    have := h _ ha
    cases k with
    | nil => cases hs
    | cons d k =>
      simp only at hs
      split at hs
      · injection hs with hs; subst hs; exact this
      · cases hs
theorem KB.here {L : Keys} (h : KB L) {v : Int} (e : here L = some v) : 0 ≤ v ∧ v ≤ 1000000 := by
  unfold Da.here at e
  obtain ⟨x, hx, rfl⟩ := Option.map_eq_some_iff.1 e
  exact h x (List.mem_of_find?_eq_some hx)
theorem KB.fnd {L : Keys} (h : KB L) (t : ByteArray) : 0 ≤ (fnd L t).1 ∧ (fnd L t).1 ≤ 1000000 := by
  unfold Da.fnd found
  simp only
  split
  · simp
  · cases e : Da.here (Da.subw L (bs t)) with
    | none => simp
    | some v => exact (h.subw _).here e
theorem KB.hits {L : Keys} (h : KB L) (w : List Int) : ∀ n, ∀ x ∈ hitsTo L w n, (0 ≤ x.1 ∧ x.1 ≤ 1000000) ∧ 1 ≤ x.2 ∧ x.2 ≤ (n : Int)
  | 0, x, hx => by cases hx
  | n + 1, x, hx => by
    unfold hitsTo at hx
    rcases List.mem_append.1 hx with hx | hx
    · have := KB.hits h w n x hx
      exact ⟨this.1, this.2.1, by omega⟩
    · cases e : hitAt L w n with
      | none => rw [e] at hx; cases hx
      | some v =>
        rw [e] at hx
        have hx : x ∈ [(v, (n : Int) + 1)] := hx
        rw [List.mem_singleton.1 hx]
        exact ⟨(h.subw _).here e, by show 1 ≤ (n : Int) + 1; omega, by show (n : Int) + 1 ≤ _; omega⟩
theorem kb_all {ss : List ByteArray} {ds : List Int} (hl : ds.length = ss.length) (h : ∀ d ∈ ds, 0 ≤ d ∧ d ≤ 1000000) : KB (keysAll ss ds) := by
  intro x hx
  obtain ⟨z, hz, rfl⟩ := List.mem_map.1 hx
  exact h _ (getD_mem 0 (by rw [hl]; exact List.mem_range.1 hz))
theorem make_ints32 (W : World) (n : Nat) (hn : n ≤ 1073741824) : (Instr.makeSlice 23 (.int .i32 (n : Int)) (.int .i32 (n : Int))).run Try.prog W = .ok (.slice (some ⟨W.heap.size, 0, none⟩) n n) (W.alloc (intZeros n)) := by
  obtain ⟨i, hi, hz⟩ := Option.map_eq_some_iff.1 info_int
  simp only [Prod.mk.injEq] at hz
  obtain ⟨h1, h2, h3⟩ := hz
  have := run_make (P := Try.prog) W 23 3 i _ Try.underlying23 hi h1 .i32 .i32 (n : Int) (n : Int) (by omega) (by omega) (by rw [h3]; omega) (by omega)
  rw [this, h2]
  simp only [Int.toNat_natCast, Nat.mul_one]
  rfl
/-- A row of places that is being filled. -/
def filled (id : Int) (n i : Nat) : List Int := (List.range i).map (fun j : Nat => id + (j : Int)) ++ List.replicate (n - i) 0
theorem filled_len {id : Int} {n i : Nat} (h : i ≤ n) : (filled id n i).length = n := by simp [filled]; omega
theorem filled_set {id : Int} {n i : Nat} (h : i < n) : (filled id n i).set i (id + (i : Int)) = filled id n (i + 1) := by
  unfold filled
  obtain ⟨m, rfl⟩ : ∃ m, n = i + 1 + m := ⟨n - (i + 1), by omega⟩
  have e1 : i + 1 + m - i = m + 1 := by omega
  have e2 : i + 1 + m - (i + 1) = m := by omega
  rw [e1, e2, List.set_append_right _ _ (by simp)]
  simp only [List.length_map, List.length_range, Nat.sub_self, List.replicate_succ, List.set_cons_zero]
  rw [List.range_succ, List.map_append, List.append_assoc]
  rfl
theorem filled_all (id : Int) (d : Int) (n : Nat) (h : n = d.toNat + 1) : filled id n n = run id d := by
  unfold filled run
  rw [h, Nat.sub_self]
  simp
theorem new_row (w : World) (n : Nat) (hn : n ≤ 1000000000) (base : Nat) (hb : base ≤ w.heap.size) (ok : Nat → Prop) (hok : ok w.heap.size) : Kd.R (Kd.int .i64) 3 (w.alloc (intZeros n)) base ok (.slice (some ⟨w.heap.size, 0, none⟩) n n) (List.replicate n 0) := by
  refine Kd.R_of_own (enc := Value.int .i64) ?_ (fun k hk => by cases hk; exact hok)
  rw [List.length_replicate]
  refine ⟨by simp [encs], .inr ⟨w.heap.size, n, _, rfl, hb, blk_new w _, Nat.le_refl _, by unfold maxLen; omega, by rw [size_madeCells, Nat.mul_one], ?_⟩⟩
  rw [toList_madeCells_one]
  simp [encs]
/-- The loop that fills a row. -/
structure FilS (W w : World) (bb : Nat) (id : Int) (n i : Nat) : Prop where
  le : i ≤ n
  ge : W.heap.size ≤ bb
  below : Below W.heap.size W w
  r : Kd.R (Kd.int .i64) 3 w W.heap.size (fun k => k = bb) (.slice (some ⟨bb, 0, none⟩) n n) (filled id n i)
theorem fils_start {W w : World} (hb : Below W.heap.size W w) (id : Int) (n : Nat) (hn : n ≤ 1000000000) : FilS W (w.alloc (intZeros n)) w.heap.size id n 0 :=
  ⟨Nat.zero_le _, hb.size, below_alloc hb _, new_row w n hn W.heap.size hb.size _ rfl⟩
theorem FilS.facts {W w : World} {bb n i : Nat} {id : Int} (h : FilS W w bb id n i) (hi : i < n) : (∃ v, w.cell? ⟨bb, i, none⟩ = some v) ∧ w.frozen? ⟨bb, i, none⟩ = false := by
  have ho := Kd.own_of_R h.r
  rcases ho.2 with ⟨h1, _⟩ | ⟨g, cap, cur, h1, h2, h3, h4, h5, h6, h7⟩
  · cases h1
  · injection h1 with e1 e2 e3
    injection e1 with e1
    injection e1 with e1
    subst e1
    have hl := filled_len (id := id) h.le
    constructor
    · unfold World.cell?
      have : i < cur.size := by omega
      simp [h3, this]
    · unfold World.frozen?; simp [h3]
theorem FilS.put {W w : World} {bb n i : Nat} {id : Int} (h : FilS W w bb id n i) (hi : i < n) : FilS W (w.setCell ⟨bb, i, none⟩ (.int .i64 (id + (i : Int)))) bb id n (i + 1) := by
  refine ⟨hi, h.ge, h.below.setCell h.ge _, ?_⟩
  rw [← filled_set hi]
  have := Kd.R_putn h.r (i : Int) (id + (i : Int))
  rw [Int.toNat_natCast] at this
  exact this
set_option maxHeartbeats 16000000 in
set_option maxRecDepth 100000 in
theorem isearch_calls (W : World) (g mb : Nat) (s : DA) (L : Keys) (f : Int → Int) (t : ByteArray) (X : IxW W g s mb L f) (KB_ : KB L) (C_ : Cln t) (hsz : t.size ≤ 1000000000) :
    Calls Try.prog 64 #[.agg #[.slice (some ⟨g, 0, none⟩) s.n s.n, .map (some mb)], .string t] W fun e w' => ∃ v, e = .returned v ∧ Kd.R (Kd.int .i64) 3 w' W.heap.size (fun _ => True) v (idsAt L f t) ∧ Below W.heap.size W w' := by
  have HX := Aside0.mk X
  have HKB := Aside0.mk KB_
  have C := Aside0.mk C_
  clear X KB_ C_
  go_enter Try.func64, Try.ntmps64
  go_upto_region 1 with fail
  obtain ⟨w1, hw1, hk1, bx⟩ : ∃ w1, w1 = W.alloc (.cells #[.slice (some ⟨g, 0, none⟩) s.n s.n, .map (some mb)] 95) ∧ Kp W w1 (fun _ => False) ∧ w1.heap[W.heap.size]? = some (.cells #[.slice (some ⟨g, 0, none⟩) s.n s.n, .map (some mb)] 95 (0, 0)) := ⟨_, rfl, (Kp.self W _).alloc _, blk_new _ _⟩
  rw [← hw1]
  obtain ⟨xb, hxb⟩ : ∃ xb, W.heap.size = xb := ⟨_, rfl⟩
  rw [hxb] at bx ⊢
  have HXB := Aside0.mk hxb
  have HX1 := Aside0.mk (HX.out.kept hk1 id id)
  have HK1 := Aside0.mk hk1
  have HF := Aside0.mk (find_calls w1 g s L t HX1.out.arr HX1.out.good C.out hsz HX1.out.pos)
  have x0 : w1.cell? ⟨xb, 0, none⟩ = some (.slice (some ⟨g, 0, none⟩) s.n s.n) := by unfold World.cell?; simp [bx]
  have HBX := Aside0.mk bx
  obtain ⟨iv, hid⟩ : ∃ iv, (fnd L t).1 = iv := ⟨_, rfl⟩
  have hbd := HKB.out.fnd t
  have hfd := HF.out
  unfold FndE at hfd
  have HIA : Aside0 (idsAt L f t = if (fnd L t).2 = true then run iv (f iv) else []) := ⟨by rw [← hid]; rfl⟩
  rw [hid] at hbd hfd
  obtain ⟨ok, hok⟩ : ∃ ok, (fnd L t).2 = ok := ⟨_, rfl⟩
  rw [hok] at HIA hfd
  have HFD := Aside0.mk hfd
  clear hw1 hk1 bx hxb hid hok hfd HF
  go_upto_region 2 with (go_at_call 44; refine HFD.out.mono ?_; rintro e_ w2 ⟨rfl, hB⟩; have HB2 := Aside0.mk hB; have HX2 := Aside0.mk (HX1.out.kept (Kp.below (S := fun _ => False) hB) id id); have x1 : w2.cell? ⟨xb, 1, none⟩ = some (.map (some mb)) := (by have hbx := (hB.block xb (Array.getElem?_eq_some_iff.1 HBX.out).1).trans HBX.out; unfold World.cell?; simp [hbx]); clear hB)
  cases ok with
  | false =>
    go_wp2_with fail
    refine bodyPost_ret (v := .slice none 0 0) (by simp [results, Try.results64, go_sem]) rfl ⟨_, rfl, ?_, below_step (kp_below HK1.out) HB2.out⟩
    rw [HIA.out]
    exact Kd.R_nil _ _ _ _ _
  | true =>
    have hdb : 0 ≤ f iv ∧ f iv ≤ 1000000 := by obtain ⟨_, _, _, _, _, h⟩ := HX2.out.dup; exact h iv
    have hlk := HX2.out.dup.look iv ⟨by omega, by omega⟩
    have hw1 : wrap32 iv = iv := by unfold wrap32; omega
    have hw2 : wrap32 (1 + f iv) = 1 + f iv := by unfold wrap32; omega
    obtain ⟨n, hn⟩ : ∃ n, n = (f iv).toNat + 1 := ⟨_, rfl⟩
    have hnz : (n : Int) = 1 + f iv := by omega
    have hnb : n ≤ 1000001 := by omega
    obtain ⟨Z, hZ⟩ : ∃ Z, Z = intZeros n := ⟨_, rfl⟩
    have hmk : ∀ w : World, (Instr.makeSlice 23 (.int .i32 (1 + f iv)) (.int .i32 (1 + f iv))).run Try.prog w = .ok (.slice (some ⟨w.heap.size, 0, none⟩) n n) (w.alloc Z) := fun w => by
      rw [hZ, ← hnz]; exact make_ints32 w n (by omega)
    have hfs := fils_start (below_step (kp_below HK1.out) HB2.out) iv n (by omega)
    rw [← hZ] at hfs
    have HFS := Aside0.mk hfs
    have HN := Aside0.mk hn
    clear hfs hn hZ hnz
    go_upto_region 6 with fail
    obtain ⟨w3, hw3⟩ : ∃ w3, w3 = w2.alloc Z := ⟨_, rfl⟩
    obtain ⟨bb, hbb⟩ : ∃ bb, w2.heap.size = bb := ⟨_, rfl⟩
    have hfs := HFS.out
    rw [← hw3, hbb] at hfs
    rw [← hw3, hbb]
    have HS0 := Aside0.mk hfs
    clear hfs hw3 hbb HFS hlk x1 hmk
    go_wp2_with fail
    go_loopg [9] n (fun kq v9 w' => ∃ (i : Nat), v9 = .int .i64 (i : Int) ∧ Aside0 (i + kq = n) ∧ Aside0 (FilS W w' bb iv n i))
    case atStart => exact ⟨0, rfl, ⟨by omega⟩, HS0⟩
    case round =>
      clear HS0
      obtain ⟨i, rfl, HI, HS⟩ := hrel
      have hi := HI.out
      by_cases hil : i < n
      · have hiz : (i : Int) < (n : Int) := by omega
        obtain ⟨⟨v, hc⟩, hf⟩ := HS.out.facts hil
        have hw3 : wrap64 (iv + (i : Int)) = iv + (i : Int) := by unfold wrap64; omega
        cases gk with
        | zero => omega
        | succ kz =>
        go_wp2_with fail
        go_roundg kz
        case measure => omega
        case rel => exact ⟨i + 1, congrArg (Value.int .i64) (by omega), ⟨by omega⟩, ⟨HS.out.put hil⟩⟩
      · have hiz : ¬ (i : Int) < (n : Int) := by omega
        have hie : i = n := by omega
        subst hie
        go_wp2_with fail
        refine bodyPost_ret (v := .slice (some ⟨bb, 0, none⟩) i i) (by simp [results, Try.results64, go_sem]) rfl ⟨_, rfl, ?_, HS.out.below⟩
        have e9 := HIA.out
        simp only [if_true] at e9
        rw [e9, ← filled_all iv (f iv) i HN.out]
        exact Kd.R_mono HS.out.r (fun _ _ => trivial)
end Go.Proofs.Ytaejkbjepbifcaa.Da
namespace Go.Proofs.Ytaejkbjepbifcaa.Da
open Go.RowKit Go.Maps Go.ChangeShapes Go.WideMaps Go.Proofs.YtaejkbjepbifcaaW.PrintWords
set_option linter.unusedVariables false
set_option linter.unusedSimpArgs false
theorem info_ints : (Try.prog.info? 23).map (fun i => (i.zero, i.size, i.bytes)) = some (some (.slice none 0 0), 1, 24) := by kernel_rfl
def IcpE (W w' : World) (L : Keys) (f : Int → Int) (t : ByteArray) (e : Ending) : Prop := ∃ v1 v2 : Value, e = .returned (.tuple #[v1, v2]) ∧ Kd.R (Kd.int .i64) 3 w' W.heap.size (fun _ => True) v1 ((hitsN L t).map (·.2)) ∧ Kd.R (Kd.slice 3 (Kd.int .i64)) 23 w' W.heap.size (fun _ => True) v2 (listsAt L f t) ∧ Below W.heap.size W w'
/-- So many lists have been made. -/
structure LisS (W w : World) (v : Value) (l : List (List Int)) : Prop where
  below : Below W.heap.size W w
  r : Kd.R (Kd.slice 3 (Kd.int .i64)) 23 w W.heap.size (fun _ => True) v l
theorem listsAt_take (L : Keys) (f : Int → Int) (t : ByteArray) (i : Nat) (h : i < (hitsN L t).length) (x : Int × Int) (hx : (hitsN L t)[i]? = some x) : (listsAt L f t).take (i + 1) = (listsAt L f t).take i ++ [run x.1 (f x.1)] := by
  unfold listsAt
  rw [List.take_add_one, List.getElem?_map, hx]; rfl
set_option maxHeartbeats 16000000 in
set_option maxRecDepth 100000 in
theorem icp_calls (W : World) (g mb : Nat) (s : DA) (L : Keys) (f : Int → Int) (t : ByteArray) (X : IxW W g s mb L f) (KB_ : KB L) (C_ : Cln t) (hsz : t.size ≤ 1000000000) :
    Calls Try.prog 65 #[.agg #[.slice (some ⟨g, 0, none⟩) s.n s.n, .map (some mb)], .string t] W fun e w' => IcpE W w' L f t e := by
  have HX := Aside0.mk X
  have HKB := Aside0.mk KB_
  have C := Aside0.mk C_
  clear X KB_ C_
  go_enter Try.func65, Try.ntmps65
  go_upto_region 1 with fail
  obtain ⟨w1, hw1, hk1, bx⟩ : ∃ w1, w1 = W.alloc (.cells #[.slice (some ⟨g, 0, none⟩) s.n s.n, .map (some mb)] 95) ∧ Kp W w1 (fun _ => False) ∧ w1.heap[W.heap.size]? = some (.cells #[.slice (some ⟨g, 0, none⟩) s.n s.n, .map (some mb)] 95 (0, 0)) := ⟨_, rfl, (Kp.self W _).alloc _, blk_new _ _⟩
  rw [← hw1]
  obtain ⟨xb, hxb⟩ : ∃ xb, W.heap.size = xb := ⟨_, rfl⟩
  rw [hxb] at bx ⊢
  have HXB := Aside0.mk hxb
  have HX1 := Aside0.mk (HX.out.kept hk1 id id)
  have HK1 := Aside0.mk hk1
  have HF := Aside0.mk (cps_calls w1 g s L t HX1.out.arr HX1.out.good C.out hsz HX1.out.pos)
  have x0 : w1.cell? ⟨xb, 0, none⟩ = some (.slice (some ⟨g, 0, none⟩) s.n s.n) := by unfold World.cell?; simp [bx]
  have HBX := Aside0.mk bx
  clear hw1 hk1 bx hxb
  go_upto_region 2 with (go_at_call 47; refine HF.out.mono ?_; rintro e_ w2 ⟨v1, v2, rfl, hr1, hr2, hB⟩; have HB2 := Aside0.mk hB; have HX2 := Aside0.mk (HX1.out.kept (Kp.below (S := fun _ => False) hB) id id); have HBX2 : Aside0 (w2.heap[xb]? = some (.cells #[.slice (some ⟨g, 0, none⟩) s.n s.n, .map (some mb)] 95 (0, 0))) := ⟨(hB.block xb (Array.getElem?_eq_some_iff.1 HBX.out).1).trans HBX.out⟩; have HR1 := Aside0.mk hr1; have HR2 := Aside0.mk hr2; obtain ⟨A1, n1, rfl, l1, g1⟩ := Kd.R_reads hr1; have HC1 := Aside0.mk g1; clear hB hr1 hr2 l1 g1)
  obtain ⟨H, hH⟩ : ∃ H, H = hitsN L t := ⟨_, rfl⟩
  have hml : (hitsTo L (bs t) (bs t).length).length = H.length := by rw [hH]; rfl
  have hHl : H.length ≤ 1000000000 := by rw [hH]; have := hits_len L (bs t) (bs t).length; rw [bs_len] at this; unfold hitsN; rw [bs_len]; omega
  have hLl : (listsAt L f t).length = H.length := by unfold listsAt; rw [List.length_map, hH]
  have HS0 : Aside0 (LisS w2 w2 (.slice none 0 0) ((listsAt L f t).take 0)) := ⟨⟨Below.refl _ _, Kd.R_nil _ _ _ _ _⟩⟩
  have HHE := Aside0.mk hH
  have HLL := Aside0.mk hLl
  rw [hml]
  clear hml hLl hH x0
  go_wp2_with fail
  go_loopg [5, 8, 9, 10, 11, 21] H.length (fun kq v5 v8 v9 v10 v11 v21 w' => ∃ (i : Nat), v21 = .int .i64 (i : Int) ∧ Aside0 (i + kq = H.length) ∧ Aside0 (LisS w2 w' v5 ((listsAt L f t).take i)))
  case atStart => exact ⟨0, rfl, ⟨by omega⟩, HS0⟩
  case round =>
    clear HS0
    obtain ⟨i, rfl, HI, HS⟩ := hrel
    have hi := HI.out
    by_cases hil : i < H.length
    · have hiz : (i : Int) < (H.length : Int) := by omega
      obtain ⟨x, hx⟩ : ∃ x, H[i]? = some x := ⟨_, List.getElem?_eq_getElem hil⟩
      have hxm : x ∈ hitsN L t := by rw [← HHE.out]; exact List.mem_of_getElem? hx
      have hbd := (HKB.out.hits (bs t) _ x hxm).1
      have hT := listsAt_take L f t i (by rw [← HHE.out]; exact hil) x (by rw [← HHE.out]; exact hx)
      obtain ⟨ad, hA, hcell⟩ := int_cell HC1.out i (by rw [List.length_map]; rw [HHE.out] at hil; exact hil)
      have hgd : ((hitsTo L (bs t) (bs t).length).map (·.1)).getD i 0 = x.1 := by
        rw [HHE.out] at hx
        rw [List.getD_eq_getElem?_getD, List.getElem?_map]
        show (((hitsN L t)[i]?).map _).getD 0 = _
        rw [hx]; rfl
      rw [hgd] at hcell
      obtain ⟨iv, hiv⟩ : ∃ iv, x.1 = iv := ⟨_, rfl⟩
      rw [hiv] at hbd hT hcell
      subst hA
      have hcj : wr.cell? (ad.add i) = some (.int .i64 iv) := (World.cell?_of_block (HS.out.below.block _ (cell_lt hcell))).trans hcell
      have hXr := HX2.out.kept (Kp.below (S := fun _ => False) HS.out.below) id id
      have hbx := (HS.out.below.block xb (Array.getElem?_eq_some_iff.1 HBX2.out).1).trans HBX2.out
      have x1 : wr.cell? ⟨xb, 1, none⟩ = some (.map (some mb)) := by unfold World.cell?; simp [hbx]
      have hdb : 0 ≤ f iv ∧ f iv ≤ 1000000 := by obtain ⟨_, _, _, _, _, h⟩ := hXr.dup; exact h iv
      have hlk := hXr.dup.look iv ⟨by omega, by omega⟩
      have hw1 : wrap32 iv = iv := by unfold wrap32; omega
      have hw2 : wrap32 (1 + f iv) = 1 + f iv := by unfold wrap32; omega
      obtain ⟨n, hn⟩ : ∃ n, n = (f iv).toNat + 1 := ⟨_, rfl⟩
      have hnz : (n : Int) = 1 + f iv := by omega
      have hnb : n ≤ 1000001 := by omega
      obtain ⟨Z, hZ⟩ : ∃ Z, Z = intZeros n := ⟨_, rfl⟩
      have hmk : ∀ w : World, (Instr.makeSlice 23 (.int .i32 (1 + f iv)) (.int .i32 (1 + f iv))).run Try.prog w = .ok (.slice (some ⟨w.heap.size, 0, none⟩) n n) (w.alloc Z) := fun w => by
        rw [hZ, ← hnz]; exact make_ints32 w n (by omega)
      have hfs := fils_start (Below.refl wr.heap.size wr) iv n (by omega)
      rw [← hZ] at hfs
      have HFS := Aside0.mk hfs
      have HN := Aside0.mk hn
      have HTK := Aside0.mk hT
      clear hfs hn hZ hnz hx hxm hT hcell hgd hiv hXr hbx
      cases gk with
      | zero => omega
      | succ kz =>
      go_upto_region 7 with fail
      obtain ⟨w3, hw3⟩ : ∃ w3, w3 = wr.alloc Z := ⟨_, rfl⟩
      obtain ⟨bb, hbb⟩ : ∃ bb, wr.heap.size = bb := ⟨_, rfl⟩
      have hfs := HFS.out
      rw [← hw3, hbb] at hfs
      rw [← hw3, hbb]
      have HS1 := Aside0.mk hfs
      have HBB := Aside0.mk hbb
      clear hfs hw3 hbb HFS hlk x1 hmk hcj
      go_wp2_with fail
      go_loopg [11] n (fun kq v11 w' => ∃ (j : Nat), v11 = .int .i64 (j : Int) ∧ Aside0 (j + kq = n) ∧ Aside0 (FilS wr w' bb iv n j))
      case atStart => exact ⟨0, rfl, ⟨by omega⟩, HS1⟩
      case round =>
        clear HS1
        obtain ⟨j, rfl, HJ, HFl⟩ := hrel
        have hj := HJ.out
        by_cases hjl : j < n
        · have hjz : (j : Int) < (n : Int) := by omega
          obtain ⟨⟨v, hc⟩, hf⟩ := HFl.out.facts hjl
          have hw3 : wrap64 (iv + (j : Int)) = iv + (j : Int) := by unfold wrap64; omega
          cases gk with
          | zero => omega
          | succ kj =>
          go_wp2_with fail
          go_roundg kj
          case measure => omega
          case rel => exact ⟨j + 1, congrArg (Value.int .i64) (by omega), ⟨by omega⟩, ⟨HFl.out.put hjl⟩⟩
        · have hjz : ¬ (j : Int) < (n : Int) := by omega
          have hje : j = n := by omega
          have hrow := HFl.out.r
          rw [hje, filled_all iv (f iv) n HN.out] at hrow
          have HROW := Aside0.mk hrow
          have hrl : ((listsAt L f t).take i).length ≤ 1000000000 := by rw [List.length_take]; omega
          have hnn : n = (run iv (f iv)).length := by rw [run_len]; exact HN.out
          have HNN := Aside0.mk hnn
          clear hrow hje hnn
          go_wp2_with (first | ((with_reducible refine gate_builtin (b := .append) (xs := #[.tmp 45, .tmp 47]) rfl ?_); at_builtin; refine Kd.R_append (Kd.slice 3 (Kd.int .i64)) (w0 := w2) w2.heap.size rfl (.tmp 45) (.tmp 47) 53 23 (.slice none 0 0) 24 rfl Try.underlying53 info_ints rfl (by decide) (by omega) u5 ((listsAt L f t).take i) (run iv (f iv)) [.slice (some ⟨bb, 0, none⟩) n n] (fun _ => True) (fun k => k = bb) rfl rfl ⟨_, rfl, Kd.R_lower HROW.out HS.out.below.size⟩ (fun k hk => ⟨trivial, fun e => ?_⟩) (fun _ _ => trivial) (Kd.R_below HS.out.r HFl.out.below) (below_step HS.out.below HFl.out.below) ?_ (by omega) ?_; (have := Kd.R_lt HS.out.r _ e.symm; have := HBB.out; omega); (have := HS.out.below.size; have := HFl.out.below.size; omega); (intro va wa ho hb hg hat; have HLS : Aside0 (LisS w2 wa va ((listsAt L f t).take i ++ [run iv (f iv)])) := ⟨⟨hb, ho⟩⟩; clear ho hb hg hat)))
          go_roundg kz
          case measure => omega
          case rel => exact ⟨i + 1, congrArg (Value.int .i64) (by omega), ⟨by omega⟩, ⟨by rw [HTK.out]; exact HLS.out⟩⟩
    · have hiz : ¬ (i : Int) < (H.length : Int) := by omega
      have hie : i = H.length := by omega
      go_wp2_with fail
      have hr := HS.out.r
      rw [List.take_of_length_le (by rw [HLL.out]; omega)] at hr
      have hb := HS.out.below
      have hz : W.heap.size ≤ w2.heap.size := by have := HK1.out.size; have := HB2.out.size; omega
      exact bodyPost_ret (v := .tuple #[v2, u5]) (by simp [results, Try.results65, go_sem]) rfl ⟨v2, u5, rfl, Kd.R_below (Kd.R_lower (Kd.R_mono HR2.out (fun _ _ => trivial)) (by have := HK1.out.size; omega)) hb, Kd.R_lower hr hz, below_step (below_step (kp_below HK1.out) HB2.out) hb⟩
end Go.Proofs.Ytaejkbjepbifcaa.Da
namespace Go.Proofs.Ytaejkbjepbifcaa.Da
open Go.RowKit Go.Maps Go.ChangeShapes Go.WideMaps Go.Proofs.YtaejkbjepbifcaaW.PrintWords
set_option linter.unusedVariables false
set_option linter.unusedSimpArgs false
/-- The box of an answer. -/
def IBox (W : World) (xb : Nat) (c0 c1 c2 cv : Value) : Prop := W.heap[xb]? = some (.cells #[c0, c1, c2, cv] 55 (0, 0))
section
variable {W W' : World} {xb : Nat} {c0 c1 c2 cv : Value}
theorem IBox.set0 (h : IBox W xb c0 c1 c2 cv) (v : Value) : IBox (W.setCell ⟨xb, 0, none⟩ v) xb v c1 c2 cv := (setCell_heap h).trans (by rfl)
theorem IBox.set1 (h : IBox W xb c0 c1 c2 cv) (v : Value) : IBox (W.setCell ⟨xb, 1, none⟩ v) xb c0 v c2 cv := (setCell_heap h).trans (by rfl)
theorem IBox.set2 (h : IBox W xb c0 c1 c2 cv) (v : Value) : IBox (W.setCell ⟨xb, 2, none⟩ v) xb c0 c1 v cv := (setCell_heap h).trans (by rfl)
theorem IBox.set3 (h : IBox W xb c0 c1 c2 cv) (v : Value) : IBox (W.setCell ⟨xb, 3, none⟩ v) xb c0 c1 c2 v := (setCell_heap h).trans (by rfl)
theorem IBox.cell3 (h : IBox W xb c0 c1 c2 cv) : W.cell? ⟨xb, 3, none⟩ = some cv := by unfold IBox at h; unfold World.cell?; simp [h]
theorem IBox.cells (h : IBox W xb c0 c1 c2 cv) : W.cell? ⟨xb, 0, none⟩ = some c0 ∧ W.cell? ⟨xb, 1, none⟩ = some c1 ∧ W.cell? ⟨xb, 2, none⟩ = some c2 ∧ W.cell? ⟨xb, 3, none⟩ = some cv := by unfold IBox at h; unfold World.cell?; simp [h]
theorem IBox.froz (h : IBox W xb c0 c1 c2 cv) (i : Nat) : W.frozen? ⟨xb, i, none⟩ = false := by unfold IBox at h; unfold World.frozen?; simp [h]
theorem IBox.lt (h : IBox W xb c0 c1 c2 cv) : xb < W.heap.size := (Array.getElem?_eq_some_iff.1 h).1
theorem IBox.step (h : IBox W xb c0 c1 c2 cv) (e : W'.heap[xb]? = W.heap[xb]?) : IBox W' xb c0 c1 c2 cv := e.trans h
end
/-- These are told. -/
def TelE (W w' : World) (xb B : Nat) (c0 c1 c2 : Value) (xs : List PB.S39) : Prop := ∃ cv, IBox w' xb c0 c1 c2 cv ∧ Kd.R PB.k39 39 w' B (fun _ => True) cv xs ∧ Kp W w' (fun k => k = xb ∨ B ≤ k)
set_option maxHeartbeats 16000000 in
set_option maxRecDepth 100000 in
theorem itell_calls (W : World) (xb B : Nat) (id l : Int) (c0 c1 c2 cv : Value) (xs : List PB.S39) (hx : IBox W xb c0 c1 c2 cv) (hlt : xb < B) (hBs : B ≤ W.heap.size) (hR : Kd.R PB.k39 39 W B (fun _ => True) cv xs) (hl : xs.length ≤ 1000000000) :
    Calls Try.prog 67 #[.int .i64 id, .int .i64 l, .pointer (some ⟨xb, 0, none⟩)] W fun e w' => e = .returned (.tuple #[]) ∧ TelE W w' xb B c0 c1 c2 (xs ++ [⟨id, l⟩]) := by
  have HX := Aside0.mk hx
  have HR := Aside0.mk hR
  have c5 := hx.cell3
  have f5 := hx.froz 3
  clear hx hR
  go_enter Try.func67, Try.ntmps67
  go_wp2_with ((with_reducible refine gate_builtin (b := .append) (xs := #[.tmp 6, .tmp 10]) rfl ?_); at_builtin; refine Kd.R_append PB.k39 (w0 := W) B rfl (.tmp 6) (.tmp 10) 32 39 (.agg #[.int .i64 0, .int .i64 0]) 16 rfl Try.underlying32 PB.info39 rfl (by decide) (by omega) cv xs (⟨id, l⟩ : PB.S39) [.int .i64 id, .int .i64 l] (fun _ => True) (fun _ => False) rfl rfl (PB.k39_mkM _ _ _ _) (fun _ hk => hk.elim) (fun _ _ => trivial) HR.out (Below.refl _ _) hBs (by omega) ?_; intro va wa ho hb hg hat; have hx2 : IBox wa xb c0 c1 c2 cv := HX.out.step (hb.block xb hlt); have f5w := hx2.froz 3; have c5w := hx2.cell3; have HX2 := Aside0.mk hx2; clear hx2; obtain ⟨Av, kv, rfl⟩ := Kd.R_slice ho; simp only [List.length_append, List.length_cons, List.length_nil, Nat.zero_add] at ho; have HO := Aside0.mk ho; have HB := Aside0.mk hb; have HG := Aside0.mk hg; clear ho hb hg hat)
  go_end0
  refine ⟨rfl, _, HX2.out.set3 _, Kd.R_mono (Kd.R_far (p := ⟨xb, 3, none⟩) (Kd.R_mono (Kd.R_bound HO.out) (ok' := fun k => k ≠ xb) (fun k hk => by have := hk.2.1; omega)) (fun k hk => hk) _) (fun _ _ => trivial), ?_⟩
  refine Kp.setCell ?_ _ _ (Or.inl rfl)
  exact ⟨HB.out.size, fun i hi hn => HG.out.block i hi (fun e => hn (Or.inr (Kd.R_base HR.out i e.symm))), HG.out.os, HG.out.tape, HG.out.output⟩
/-- The boxes of the closure of the index. -/
structure CloB (W : World) (ib fb xb g n mb : Nat) : Prop where
  idx : W.heap[ib]? = some (.cells #[.slice (some ⟨g, 0, none⟩) n n, .map (some mb)] 95 (0, 0))
  fn : W.heap[fb]? = some (.cells #[.func (Fn.func 67) #[] #[.pointer (some ⟨xb, 0, none⟩)]] 87 (0, 0))
  ne : ib ≠ xb ∧ fb ≠ xb ∧ mb ≠ xb
theorem CloB.cells {W : World} {ib fb xb g n mb : Nat} (h : CloB W ib fb xb g n mb) : W.cell? ⟨ib, 0, none⟩ = some (.slice (some ⟨g, 0, none⟩) n n) ∧ W.cell? ⟨ib, 1, none⟩ = some (.map (some mb)) ∧ W.cell? ⟨fb, 0, none⟩ = some (.func (Fn.func 67) #[] #[.pointer (some ⟨xb, 0, none⟩)]) := by
  have h1 := h.idx
  have h2 := h.fn
  unfold World.cell?
  simp [h1, h2]
theorem CloB.kept {W w : World} {ib fb xb g n mb : Nat} {S : Nat → Prop} (h : CloB W ib fb xb g n mb) (k : Kp W w S) (h1 : ¬ S ib) (h2 : ¬ S fb) : CloB w ib fb xb g n mb :=
  ⟨(k.old _ (Array.getElem?_eq_some_iff.1 h.idx).1 h1).trans h.idx, (k.old _ (Array.getElem?_eq_some_iff.1 h.fn).1 h2).trans h.fn, h.ne⟩
theorem TelE.start {W : World} {xb B : Nat} {c0 c1 c2 cv : Value} {xs : List PB.S39} (hx : IBox W xb c0 c1 c2 cv) (hR : Kd.R PB.k39 39 W B (fun _ => True) cv xs) : TelE W W xb B c0 c1 c2 xs := ⟨cv, hx, hR, Kp.self _ _⟩
theorem TelE.then {W w w' : World} {xb B : Nat} {c0 c1 c2 : Value} {xs ys : List PB.S39} (k : Kp W w (fun k => k = xb ∨ B ≤ k)) (h : TelE w w' xb B c0 c1 c2 ys) : TelE W w' xb B c0 c1 c2 ys := by
  obtain ⟨cv, h1, h2, h3⟩ := h
  exact ⟨cv, h1, h2, (k.trans h3).mono (fun i _ hi => by rcases hi with hi | hi <;> exact hi)⟩
theorem run_take (id d l : Int) (j : Nat) (hj : j < d.toNat + 1) : ((run id d).take (j + 1)).map (fun x => (⟨x, l⟩ : PB.S39)) = ((run id d).take j).map (fun x => (⟨x, l⟩ : PB.S39)) ++ [⟨id + (j : Int), l⟩] := by
  unfold run
  rw [List.take_add_one, List.getElem?_map, List.getElem?_range hj, List.map_append]
  rfl
set_option maxHeartbeats 16000000 in
set_option maxRecDepth 100000 in
theorem itells_calls (W : World) (ib fb xb B g n mb : Nat) (iv l : Int) (f : Int → Int) (c0 c1 c2 cv : Value) (xs : List PB.S39) (hb : CloB W ib fb xb g n mb) (hD : DupM W mb f) (hx : IBox W xb c0 c1 c2 cv) (hlt : xb < B) (hBs : B ≤ W.heap.size) (hib : ib < B ∧ fb < B ∧ mb < B) (hR : Kd.R PB.k39 39 W B (fun _ => True) cv xs) (hl : xs.length ≤ 900000000) (hiv : 0 ≤ iv ∧ iv ≤ 1000000) :
    Calls Try.prog 82 #[.int .i64 iv, .int .i64 l, .pointer (some ⟨ib, 0, none⟩), .pointer (some ⟨fb, 0, none⟩)] W fun e w' => e = .returned (.tuple #[]) ∧ TelE W w' xb B c0 c1 c2 (xs ++ (run iv (f iv)).map (fun d => (⟨d, l⟩ : PB.S39))) := by
  have HCB := Aside0.mk hb
  have HT0 : Aside0 (TelE W W xb B c0 c1 c2 (xs ++ ((run iv (f iv)).take 0).map (fun x => (⟨x, l⟩ : PB.S39)))) := ⟨by simpa using TelE.start hx hR⟩
  have hdb : 0 ≤ f iv ∧ f iv ≤ 1000000 := by obtain ⟨_, _, _, _, _, h⟩ := hD; exact h iv
  have hlk := hD.look iv ⟨by omega, by omega⟩
  obtain ⟨_, x1, _⟩ := hb.cells
  have hw1 : wrap32 iv = iv := by unfold wrap32; omega
  have hw2 : wrap64 (iv + f iv) = iv + f iv := by unfold wrap64; omega
  have hw3 : wrap64 (iv + f iv + 1) = iv + f iv + 1 := by unfold wrap64; omega
  obtain ⟨m, hm⟩ : ∃ m, m = (f iv).toNat + 1 := ⟨_, rfl⟩
  have hmz : (m : Int) = f iv + 1 := by omega
  have HM := Aside0.mk hm
  clear hb hD hx hR hm
  go_enter Try.func82, Try.ntmps82
  go_wp2_with fail
  go_loopg [7] m (fun kq v7 w' => ∃ (j : Nat), v7 = .int .i64 (iv + (j : Int)) ∧ Aside0 (j + kq = m) ∧ Aside0 (TelE W w' xb B c0 c1 c2 (xs ++ ((run iv (f iv)).take j).map (fun x => (⟨x, l⟩ : PB.S39)))))
  case atStart => exact ⟨0, by simp, ⟨by omega⟩, HT0⟩
  case round =>
    clear HT0 hlk
    obtain ⟨j, rfl, HJ, HT⟩ := hrel
    have hj := HJ.out
    by_cases hjl : j < m
    · have hjz : iv + (j : Int) < iv + f iv + 1 := by omega
      have hw4 : wrap64 (iv + (j : Int) + 1) = iv + ((j + 1 : Nat) : Int) := by unfold wrap64; omega
      obtain ⟨cw, i1, i2, i3⟩ := HT.out
      obtain ⟨_, _, x2⟩ := (HCB.out.kept i3 (by have := HCB.out.ne; omega) (by have := HCB.out.ne; omega)).cells
      have hll : (xs ++ ((run iv (f iv)).take j).map (fun x => (⟨x, l⟩ : PB.S39))).length ≤ 1000000000 := by simp; omega
      have HTL := Aside0.mk (itell_calls wr xb B (iv + (j : Int)) l c0 c1 c2 cw _ i1 hlt (by have := i3.size; omega) i2 hll)
      have HI3 := Aside0.mk i3
      have HRT := Aside0.mk (run_take iv (f iv) l j (by have := HM.out; omega))
      clear i1 i2 i3 hll
      cases gk with
      | zero => omega
      | succ kz =>
      go_wp2_with (go_at_call 67; refine HTL.out.mono ?_; rintro e_ w2 ⟨rfl, hT⟩; have HT2 := Aside0.mk hT; clear hT)
      go_roundg kz
      case measure => omega
      case rel => exact ⟨j + 1, congrArg (Value.int .i64) (by first | omega | exact hw4), ⟨by omega⟩, ⟨by rw [HRT.out, ← List.append_assoc]; exact TelE.then (xs := []) HI3.out HT2.out⟩⟩
    · have hjz : ¬ iv + (j : Int) < iv + f iv + 1 := by omega
      have hje : j = (run iv (f iv)).length := by rw [run_len]; have := HM.out; omega
      go_wp2_with fail
      go_end0
      have h := HT.out
      rw [List.take_of_length_le (by omega)] at h
      exact ⟨rfl, h⟩
/-- So many have been told. -/
def CbI (W w' : World) (xb : Nat) (c0 c1 c2 : Value) (xs : List PB.S39) : Prop := ∃ cv, IBox w' xb c0 c1 c2 cv ∧ Kd.R PB.k39 39 w' W.heap.size (fun _ => True) cv xs ∧ Kp W w' (fun k => k = xb)
theorem CbI.drewN {W w' : World} {xb : Nat} {c0 c1 c2 : Value} {xs : List PB.S39} (h : CbI W w' xb c0 c1 c2 xs) (q : Nat) : CbI W (w'.drewN q) xb c0 c1 c2 xs := by
  obtain ⟨cv, h1, h2, h3⟩ := h
  exact ⟨cv, h1.step rfl, Kd.R_drewN h2 _, h3.drewN _⟩
theorem CbI.tell {W w' w2 : World} {xb : Nat} {c0 c1 c2 : Value} {xs : List PB.S39} (hk : Kp W w' (fun k => k = xb)) (h : TelE w' w2 xb W.heap.size c0 c1 c2 xs) : CbI W w2 xb c0 c1 c2 xs := by
  obtain ⟨cv, h1, h2, h3⟩ := h
  exact ⟨cv, h1, h2, (hk.trans h3).mono (fun i hi h => by rcases h with h | h | h; exact h; exact h; omega)⟩
theorem callsAt_snoc (f : Int → Int) (l : List (Int × Int)) (x : Int × Int) : callsAt f (l ++ [x]) = callsAt f l ++ (run x.1 (f x.1)).map (fun d => (⟨d, x.2⟩ : PB.S39)) := by simp [callsAt]
/-- The calls are not too many. -/
theorem callsAt_len (f : Int → Int) (M : Nat) (hf : ∀ k, 0 ≤ f k ∧ f k ≤ (M : Int)) : ∀ l : List (Int × Int), (callsAt f l).length ≤ l.length * (M + 1)
  | [] => by simp [callsAt]
  | x :: l => by
    have ih := callsAt_len f M hf l
    have e : (callsAt f (x :: l)).length = (run x.1 (f x.1)).length + (callsAt f l).length := by simp [callsAt]
    have h1 := (hf x.1).2
    rw [e, run_len, List.length_cons, Nat.add_mul, Nat.one_mul]
    omega
set_option maxHeartbeats 16000000 in
set_option maxRecDepth 100000 in
theorem icb_calls (W : World) (g ib fb xb mb M : Nat) (s : DA) (L : Keys) (f : Int → Int) (t : ByteArray) (c0 c1 c2 : Value) (X : IxW W g s mb L f) (KB_ : KB L) (C_ : Cln t) (hsz : t.size ≤ 1000000000) (hb : CloB W ib fb xb g s.n mb) (hx : IBox W xb c0 c1 c2 (.slice none 0 0)) (hgx : g ≠ xb) (hf : ∀ k, 0 ≤ f k ∧ f k ≤ (M : Int)) (hM : (t.size + 1) * (M + 1) ≤ 800000000) :
    Calls Try.prog 48 #[.slice (some ⟨g, 0, none⟩) s.n s.n, .string t, .func (Fn.func 82) #[] #[.pointer (some ⟨ib, 0, none⟩), .pointer (some ⟨fb, 0, none⟩)]] W fun e w' => e = .returned (.tuple #[]) ∧ CbI W w' xb c0 c1 c2 (callsAt f (hitsN L t)) := by
  have HA0 := Aside0.mk X.arr
  have HX0 := Aside0.mk X
  have HKB := Aside0.mk KB_
  have HCB := Aside0.mk hb
  have G := Aside0.mk X.good
  have C := Aside0.mk C_
  have big := X.arr.big
  have hn := X.pos
  have hxl := hx.lt
  have HBI : Aside0 (ib < W.heap.size ∧ fb < W.heap.size ∧ mb < W.heap.size) := ⟨(Array.getElem?_eq_some_iff.1 hb.idx).1, (Array.getElem?_eq_some_iff.1 hb.fn).1, X.dup.lt⟩
  have HF := Aside0.mk hf
  have HC0 : Aside0 (CbI W W xb c0 c1 c2 []) := ⟨⟨_, hx, Kd.R_nil _ _ _ _ _, Kp.self _ _⟩⟩
  clear X KB_ C_ hx hb hf
  go_enter Try.func48, Try.ntmps48
  go_wp2_with fail
  go_loopg [6, 7, 9, 15] t.size (fun kq v6 v7 v9 v15 w' => ∃ (i q : Nat) (p : Int) (xs : List PB.S39), v6 = .int .i64 p ∧ v7 = .int .i64 (q : Int) ∧ v15 = .int .i64 (i : Int) ∧ Aside0 (i + kq = t.size) ∧ Aside0 (Sk s L (bs t) i q) ∧ Aside0 (xs = callsAt f (hitsTo L (bs t) i)) ∧ Aside0 (CbI W w' xb c0 c1 c2 xs))
  case atStart => exact ⟨0, 0, 0, [], rfl, rfl, rfl, ⟨by omega⟩, ⟨Sk.start _ _ _⟩, ⟨rfl⟩, HC0⟩
  case round =>
    clear HC0
    obtain ⟨i, q, p, xs, rfl, rfl, rfl, HI, HS, HV, HCI⟩ := hrel
    have hxs : xs.length ≤ 800000000 := by
      rw [HV.out]
      refine Nat.le_trans (callsAt_len f M HF.out _) (Nat.le_trans (Nat.mul_le_mul_right _ (Nat.le_trans (hits_len L (bs t) i) ?_)) hM)
      have := HI.out
      omega
    have HA : Aside0 (Arr wr g s) := ⟨HA0.out.step (by obtain ⟨_, _, _, hk⟩ := HCI.out; exact hk.old g HA0.out.lt hgx)⟩
    have hi := HI.out
    by_cases hlt : i < t.size
    · have hiz : (i : Int) < (t.size : Int) := by omega
      have hil : i < (bs t).length := by rw [bs_len]; exact hlt
      have h3 := (HS.out.told G.out C.out).2.2
      have hq : q < s.n := HS.out.lt hn
      have hcd : (bs t).getD i 0 = ((t[i]'hlt).toNat : Int) := bs_at t i hlt
      have hc0 := C.out _ (List.getElem_mem hil)
      rw [bs_get t i hlt] at hc0
      have hc1 := hc0.1
      have hc2 := hc0.2
      have hcn : (((t[i]'hlt).toNat : Int) == 0) = false := by rw [beq_eq_false_iff_ne]; omega
      have hi32 := HA.out.i32 q hq
      obtain ⟨b, hb⟩ : ∃ b : Nat, s.B q = (b : Int) := ⟨(s.B q).toNat, by omega⟩
      have cb : wr.cell? ⟨g, q * 2, none⟩ = some (.int .i32 (b : Int)) := (HA.out.base q hq).trans (by rw [hb])
      obtain ⟨r, hr⟩ : ∃ r : Nat, b + (t[i]'hlt).toNat = r := ⟨_, rfl⟩
      have HR : Aside0 (s.B q + (bs t).getD i 0 = (r : Int)) := ⟨by omega⟩
      have hqz : (q : Int) < (s.n : Int) := by omega
      have hr0 : 0 ≤ (r : Int) := by omega
      have hsum := sum_nat b (t[i]'hlt).toNat r (by omega) (by omega) hr
      have hbw := wrap_nat b (by omega)
      clear hc0 hb hcd h3 hi32
      go_upto_region 7 with fail
      have hw := hsum
      have hwb := hbw
      clear hsum hbw
      go_quiet (fail)
      clear hw hwb
      by_cases hrn : r < s.n
      · have hrz : (r : Int) < (s.n : Int) := by omega
        have cr : wr.cell? ⟨g, r * 2 + 1, none⟩ = _ := HA.out.chk r hrn
        obtain ⟨cv, hcv⟩ : ∃ cv, s.C r = cv := ⟨_, rfl⟩
        rw [hcv] at cr
        have hb3 := HA.out.i32 r hrn
        rw [hcv] at hb3
        have hb4 := hb3.2.2.1
        have hb5 := hb3.2.2.2
        clear hb3
        have HCV := Aside0.mk hcv
        clear hcv
        by_cases hcq : cv = (q : Int)
        · have HC2 := Aside0.mk hcq
          subst hcq
          have hst : s.step q ((bs t).getD i 0) = some r := by
            have := step_on (s := s) (q := q) (c := (bs t).getD i 0) (by rw [HR.out]; exact hrz) (by rw [HR.out, Int.toNat_natCast]; exact HCV.out)
            rw [this, HR.out, Int.toNat_natCast]
          have HS2 := Aside0.mk (HS.out.go hil hst)
          clear hst
          have h3 := (HS2.out.told G.out C.out).2.2
          have hi32 := HA.out.i32 r hrn
          obtain ⟨b2, hb2⟩ : ∃ b2 : Nat, s.B r = (b2 : Int) := ⟨(s.B r).toNat, by omega⟩
          have cb2 : wr.cell? ⟨g, r * 2, none⟩ = some (.int .i32 (b2 : Int)) := (HA.out.base r hrn).trans (by rw [hb2])
          have hb2n : b2 ≤ 2147483647 := by omega
          have HB2 := Aside0.mk hb2
          have HH : Aside0 (hitAt L (bs t) i = s.term r) := ⟨HS2.out.hit G.out C.out⟩
          clear h3 hi32 hb2
          cases gk with
          | zero => omega
          | succ kz =>
          by_cases hbn : b2 < s.n
          · have hbz : (b2 : Int) < (s.n : Int) := by omega
            have cc : wr.cell? ⟨g, b2 * 2 + 1, none⟩ = _ := HA.out.chk b2 hbn
            have cdv : wr.cell? ⟨g, b2 * 2, none⟩ = _ := HA.out.base b2 hbn
            have hi2 := HA.out.i32 b2 hbn
            obtain ⟨cw, hcw⟩ : ∃ cw, s.C b2 = cw := ⟨_, rfl⟩
            obtain ⟨dv, hdv⟩ : ∃ dv, s.B b2 = dv := ⟨_, rfl⟩
            rw [hcw] at cc hi2
            rw [hdv] at cdv hi2
            obtain ⟨i1, i2, i3, i4⟩ := hi2
            have ht1 : s.term r = if cw = (r : Int) ∧ dv ≤ 0 then some (-dv) else none := by
              by_cases e1 : cw = (r : Int)
              · by_cases e2 : dv ≤ 0
                · rw [if_pos ⟨e1, e2⟩, term_on (by rw [HB2.out]; exact hbz) (by rw [HB2.out, Int.toNat_natCast, hcw]; exact e1) (by rw [HB2.out, Int.toNat_natCast, hdv]; exact e2), HB2.out, Int.toNat_natCast, hdv]
                · rw [if_neg (fun e => e2 e.2), term_no (by rw [HB2.out, Int.toNat_natCast, hdv]; omega)]
              · rw [if_neg (fun e => e1 e.1), term_off (by rw [HB2.out, Int.toNat_natCast, hcw]; exact e1)]
            rw [ht1] at HH
            clear ht1 hcw hdv
            by_cases hcq2 : cw = (r : Int)
            · subst hcq2
              by_cases hd : dv ≤ 0
              · rw [if_pos ⟨rfl, hd⟩] at HH
                have HCB2 := Aside0.mk (HCI.out.drewN nq)
                obtain ⟨cv, g1, g2, g3⟩ := HCB2.out
                have HG3 := Aside0.mk g3
                have hbd : 0 ≤ -dv ∧ -dv ≤ 1000000 := (HKB.out.hits (bs t) (i + 1) (-dv, (i : Int) + 1) (by rw [hits_some HH.out]; simp)).1
                have HT := Aside0.mk (itells_calls _ ib fb xb W.heap.size g s.n mb (-dv) ((i : Int) + 1) f c0 c1 c2 cv xs (HCB.out.kept g3 (by have := HCB.out.ne; omega) (by have := HCB.out.ne; omega)) (HX0.out.dup.step (g3.old mb HBI.out.2.2 (by have := HCB.out.ne; omega))) g1 hxl g3.size HBI.out g2 (by omega) hbd)
                clear g1 g2 g3 hbd
                go_wp2_with (go_at_call 82; refine HT.out.mono ?_; rintro e_ w2 ⟨rfl, hT⟩; have HT2 := Aside0.mk hT; clear hT)
                go_roundg kz
                case measure => omega
                case rel => exact ⟨i + 1, r, (q : Int), _, rfl, rfl, congrArg (Value.int .i64) (by omega), ⟨by omega⟩, HS2, ⟨by rw [HV.out, hits_some HH.out, callsAt_snoc]⟩, ⟨CbI.tell HG3.out HT2.out⟩⟩
              · rw [if_neg (fun e => hd e.2)] at HH
                have hdz : dv > 0 := by omega
                go_wp2_with fail
                go_roundg kz
                case measure => omega
                case rel => exact ⟨i + 1, r, (q : Int), xs, rfl, rfl, congrArg (Value.int .i64) (by omega), ⟨by omega⟩, HS2, ⟨by rw [HV.out]; exact congrArg (callsAt f) (hits_none HH.out).symm⟩, ⟨HCI.out.drewN _⟩⟩
            · rw [if_neg (fun e => hcq2 e.1)] at HH
              have hcq3 : (cw == (r : Int)) = false := by rw [beq_eq_false_iff_ne]; exact hcq2
              go_wp2_with fail
              go_roundg kz
              case measure => omega
              case rel => exact ⟨i + 1, r, (q : Int), xs, rfl, rfl, congrArg (Value.int .i64) (by omega), ⟨by omega⟩, HS2, ⟨by rw [HV.out]; exact congrArg (callsAt f) (hits_none HH.out).symm⟩, ⟨HCI.out.drewN _⟩⟩
          · have hbz : ¬ (b2 : Int) < (s.n : Int) := by omega
            rw [term_far (by rw [HB2.out]; omega)] at HH
            go_wp2_with fail
            go_roundg kz
            case measure => omega
            case rel => exact ⟨i + 1, r, (q : Int), xs, rfl, rfl, congrArg (Value.int .i64) (by omega), ⟨by omega⟩, HS2, ⟨by rw [HV.out]; exact congrArg (callsAt f) (hits_none HH.out).symm⟩, ⟨HCI.out.drewN _⟩⟩
        · have hst : s.step q ((bs t).getD i 0) = none := step_off (by rw [HR.out, Int.toNat_natCast, HCV.out]; exact hcq)
          have HX := Aside0.mk (HS.out.stop G.out C.out hil hst)
          clear hst
          have hcq2 : (cv == (q : Int)) = false := by rw [beq_eq_false_iff_ne]; exact hcq
          have hcq3 : (cv != (q : Int)) = true := by rw [bne, hcq2]; rfl
          have hV1 := HV.out.trans (congrArg (callsAt f) (hits_stop HX.out (show i ≤ (bs t).length by omega)).symm)
          have HV1 := Aside0.mk hV1
          clear hV1
          go_wp2_with fail
          go_end0
          refine ⟨rfl, ?_⟩
          have h := HCI.out.drewN nq
          rw [HV1.out] at h
          exact h
      · have hrz : ¬ (r : Int) < (s.n : Int) := by omega
        have hst : s.step q ((bs t).getD i 0) = none := step_far (by rw [HR.out]; omega)
        have HX := Aside0.mk (HS.out.stop G.out C.out hil hst)
        clear hst
        have hV1 := HV.out.trans (congrArg (callsAt f) (hits_stop HX.out (show i ≤ (bs t).length by omega)).symm)
        have HV1 := Aside0.mk hV1
        clear hV1
        go_wp2_with fail
        go_end0
        refine ⟨rfl, ?_⟩
        have h := HCI.out.drewN nq
        rw [HV1.out] at h
        exact h
    · have hiz : ¬ (i : Int) < (t.size : Int) := by omega
      obtain rfl : i = t.size := by omega
      go_wp2_with fail
      go_end0
      refine ⟨rfl, ?_⟩
      have h := HCI.out
      rw [HV.out, ← bs_len] at h
      exact h
end Go.Proofs.Ytaejkbjepbifcaa.Da
namespace Go.Proofs.Ytaejkbjepbifcaa.Da
open Go.RowKit Go.Maps Go.ChangeShapes Go.WideMaps Go.Proofs.YtaejkbjepbifcaaW.PrintWords
set_option linter.unusedVariables false
set_option linter.unusedSimpArgs false
/-- An answer. -/
structure IA where
  f0 : List Int
  f1 : List Int
  f2 : List (List Int)
  f3 : List PB.S39
def kIA : Kd IA := Kd.iso (Kd.pair (Kd.slice 3 (Kd.int .i64)) (Kd.pair (Kd.slice 3 (Kd.int .i64)) (Kd.pair (Kd.slice 23 (Kd.slice 3 (Kd.int .i64))) (Kd.slice 39 PB.k39)))) (fun x : IA => (x.f0, x.f1, x.f2, x.f3))
theorem kIA_mkM (w : World) (base : Nat) (ok : Nat → Prop) (x : IA) {v0 v1 v2 v3 : Value} (g0 : (Kd.int .i64).R 3 w base ok v0 x.f0) (g1 : (Kd.int .i64).R 3 w base ok v1 x.f1) (g2 : (Kd.slice 3 (Kd.int .i64)).R 23 w base ok v2 x.f2) (g3 : PB.k39.R 39 w base ok v3 x.f3) : kIA.M w base ok x [v0, v1, v2, v3] :=
  ⟨[v0], [v1, v2, v3], rfl, ⟨v0, rfl, g0⟩, ⟨[v1], [v2, v3], rfl, ⟨v1, rfl, g1⟩, ⟨[v2], [v3], rfl, ⟨v2, rfl, g2⟩, ⟨v3, rfl, g3⟩⟩⟩⟩
theorem ia_info : (Try.prog.info? 55).map (fun i => (i.zero, i.size, i.bytes)) = some (some (.agg #[.slice none 0 0, .slice none 0 0, .slice none 0 0, .slice none 0 0]), 4, 96) := by kernel_rfl
def ians (L : Keys) (f : Int → Int) (t : ByteArray) : IA := ⟨idsAt L f t, (hitsN L t).map (·.2), listsAt L f t, callsAt f (hitsN L t)⟩
theorem CbI.lower {W w w' : World} {xb : Nat} {c0 c1 c2 : Value} {xs : List PB.S39} (k : Kp W w (fun _ => False)) (h : CbI w w' xb c0 c1 c2 xs) : CbI W w' xb c0 c1 c2 xs := by
  obtain ⟨cv, h1, h2, h3⟩ := h
  exact ⟨cv, h1, Kd.R_lower h2 k.size, (k.trans h3).mono (fun i _ hi => hi.resolve_left id)⟩
set_option maxHeartbeats 16000000 in
set_option maxRecDepth 100000 in
theorem icpb_calls (W : World) (g xb mb M : Nat) (s : DA) (L : Keys) (f : Int → Int) (t : ByteArray) (c0 c1 c2 : Value) (X : IxW W g s mb L f) (KB_ : KB L) (C_ : Cln t) (hsz : t.size ≤ 1000000000) (hx : IBox W xb c0 c1 c2 (.slice none 0 0)) (hgx : g ≠ xb ∧ mb ≠ xb) (hf : ∀ k, 0 ≤ f k ∧ f k ≤ (M : Int)) (hM : (t.size + 1) * (M + 1) ≤ 800000000) :
    Calls Try.prog 66 #[.agg #[.slice (some ⟨g, 0, none⟩) s.n s.n, .map (some mb)], .string t, .func (Fn.func 67) #[] #[.pointer (some ⟨xb, 0, none⟩)]] W fun e w' => e = .returned (.tuple #[]) ∧ CbI W w' xb c0 c1 c2 (callsAt f (hitsN L t)) := by
  have hmf : ∀ (fn : Fn) (first cap : Array Value) (w : World), (Instr.makeFunc fn first cap).run Try.prog w = .ok (.func fn first cap) w := fun _ _ _ _ => rfl
  have HXl := Aside0.mk hx.lt
  have hk1 : Kp W ((W.alloc (.cells #[.slice (some ⟨g, 0, none⟩) s.n s.n, .map (some mb)] 95)).alloc (.cells #[.func (Fn.func 67) #[] #[.pointer (some ⟨xb, 0, none⟩)]] 87)) (fun _ => False) := ((Kp.self W _).alloc _).alloc _
  have e1 : (W.alloc (.cells #[.slice (some ⟨g, 0, none⟩) s.n s.n, .map (some mb)] 95)).heap.size = W.heap.size + 1 := Own.size_alloc _ _
  have b1 := (below_alloc (Below.refl _ (W.alloc (.cells #[.slice (some ⟨g, 0, none⟩) s.n s.n, .map (some mb)] 95))) (.cells #[.func (Fn.func 67) #[] #[.pointer (some ⟨xb, 0, none⟩)]] 87)).block W.heap.size (by omega)
  have n1 := b1.trans (blk_new W _)
  have n2 := blk_new (W.alloc (.cells #[.slice (some ⟨g, 0, none⟩) s.n s.n, .map (some mb)] 95)) (.cells #[.func (Fn.func 67) #[] #[.pointer (some ⟨xb, 0, none⟩)]] 87)
  rw [e1] at n2
  obtain ⟨w1, hw1⟩ : ∃ w1, w1 = (W.alloc (.cells #[.slice (some ⟨g, 0, none⟩) s.n s.n, .map (some mb)] 95)).alloc (.cells #[.func (Fn.func 67) #[] #[.pointer (some ⟨xb, 0, none⟩)]] 87) := ⟨_, rfl⟩
  rw [← hw1] at hk1 n1 n2
  have HCB : Aside0 (CloB w1 W.heap.size (W.heap.size + 1) xb g s.n mb) := ⟨⟨n1, n2, by have := HXl.out; omega⟩⟩
  have hcc := Aside0.mk (icb_calls w1 g W.heap.size (W.heap.size + 1) xb mb M s L f t c0 c1 c2 (X.kept hk1 id id) KB_ C_ hsz HCB.out (hx.step (hk1.old _ hx.lt id)) hgx.1 hf hM)
  have x0 := HCB.out.cells.1
  have HK1 := Aside0.mk hk1
  clear hk1 e1 b1 n1 n2 X KB_ C_ hx hf
  go_enter Try.func66, Try.ntmps66
  go_upto_region 1 with fail
  rw [← hw1]
  clear hw1
  go_wp2_with (go_at_call 48; refine hcc.out.mono ?_; rintro e_ w2 ⟨rfl, hC⟩; have HC := Aside0.mk hC; clear hC)
  go_end0
  exact ⟨rfl, HC.out.lower HK1.out⟩
/-- The deferred function finds no panic. -/
theorem iask1_idle (p q : Addr) (w : World) :
    CallsD Try.prog 63 #[.pointer (some p), .pointer (some q)] .returning w fun e u' w' => e = .returned (.tuple #[]) ∧ u' = .returning ∧ w' = w := by
  refine callsD_of_wpS Try.func63 rfl fun c₀ cs hu => ?_
  apply wpS_seq
  apply wpS_region
  simp [wpOpsS, go_sem, recoverD, hu, Try.ntmps63, Exit.thenS]
  refine wpS_cond (t := false) (by simp [Act.eval, Array.replicate]) ?_
  simp only [Bool.false_eq_true, if_false]
  refine wpS_of_wp (wp_skip ?_)
  cases c₀
  simp_all [bodyPostS, results, Try.results63]
/-- So many inputs have been asked. -/
structure JskS (W w : World) (g n mb : Nat) (L : Keys) (f : Int → Int) (ov : Value) (l : List ByteArray) : Prop where
  kp : Kp W w (fun _ => False)
  b : w.heap[W.heap.size]? = some (.cells #[.slice (some ⟨g, 0, none⟩) n n, .map (some mb)] 95 (0, 0))
  o : w.heap[W.heap.size + 1]? = some (.cells #[ov] 73 (0, 0))
  e : w.heap[W.heap.size + 1 + 1]? = some (.cells #[.int .i64 0] 3 (0, 0))
  r : Kd.R kIA 55 w (W.heap.size + 3) (fun _ => True) ov (l.map (ians L f))
theorem jsks_start (W : World) (g n mb : Nat) (L : Keys) (f : Int → Int) : JskS W (((W.alloc (.cells #[.slice (some ⟨g, 0, none⟩) n n, .map (some mb)] 95)).alloc (.cells #[.slice none 0 0] 73)).alloc (.cells #[.int .i64 0] 3)) g n mb L f (.slice none 0 0) [] := by
  obtain ⟨w1, h1⟩ : ∃ w1, w1 = W.alloc (.cells #[.slice (some ⟨g, 0, none⟩) n n, .map (some mb)] 95) := ⟨_, rfl⟩
  have e1 : w1.heap.size = W.heap.size + 1 := by rw [h1]; exact Own.size_alloc _ _
  have n1 : w1.heap[W.heap.size]? = some (.cells #[.slice (some ⟨g, 0, none⟩) n n, .map (some mb)] 95 (0, 0)) := by rw [h1]; exact blk_new W _
  have k1 : Kp W w1 (fun _ => False) := by rw [h1]; exact (Kp.self W _).alloc _
  rw [← h1]
  obtain ⟨w2, h2⟩ : ∃ w2, w2 = w1.alloc (.cells #[.slice none 0 0] 73) := ⟨_, rfl⟩
  have e2 : w2.heap.size = W.heap.size + 1 + 1 := by rw [h2, Own.size_alloc, e1]
  have b2 := below_alloc (Below.refl _ w1) (.cells #[.slice none 0 0] 73)
  have n2 : w2.heap[W.heap.size + 1]? = some (.cells #[.slice none 0 0] 73 (0, 0)) := by rw [h2, ← e1]; exact blk_new w1 _
  rw [← h2] at b2 ⊢
  have b3 := below_alloc (Below.refl _ w2) (.cells #[.int .i64 0] 3)
  refine ⟨(k1.then b2).alloc _, (b3.block _ (by omega)).trans ((b2.block _ (by omega)).trans n1), (b3.block _ (by omega)).trans n2, by rw [← e2]; exact blk_new _ _, Kd.R_nil _ _ _ _ _⟩
def JskE (W w' : World) (L : Keys) (f : Int → Int) (ss : List ByteArray) (e : Ending) : Prop := ∃ ov, e = .returned (.tuple #[ov, .int .i64 0]) ∧ Kd.R kIA 55 w' W.heap.size (fun _ => True) ov (ss.map (ians L f)) ∧ Below W.heap.size W w'
/-- In the middle of an input. -/
structure MidI (W w : World) (g n mb : Nat) (L : Keys) (f : Int → Int) (ov : Value) (l : List ByteArray) (xb : Nat) (c0 c1 c2 cv : Value) : Prop where
  kp : Kp W w (fun _ => False)
  b : w.heap[W.heap.size]? = some (.cells #[.slice (some ⟨g, 0, none⟩) n n, .map (some mb)] 95 (0, 0))
  o : w.heap[W.heap.size + 1]? = some (.cells #[ov] 73 (0, 0))
  e : w.heap[W.heap.size + 1 + 1]? = some (.cells #[.int .i64 0] 3 (0, 0))
  r : Kd.R kIA 55 w (W.heap.size + 3) (fun k => k < xb) ov (l.map (ians L f))
  bx : IBox w xb c0 c1 c2 cv
  ge : W.heap.size + 3 ≤ xb
section
variable {W w w' : World} {g n mb : Nat} {L : Keys} {f : Int → Int} {ov : Value} {l : List ByteArray} {xb : Nat} {c0 c1 c2 cv : Value}
theorem MidI.start (h : JskS W w g n mb L f ov l) : MidI W (w.alloc (.cells #[.slice none 0 0, .slice none 0 0, .slice none 0 0, .slice none 0 0] 55)) g n mb L f ov l w.heap.size (.slice none 0 0) (.slice none 0 0) (.slice none 0 0) (.slice none 0 0) := by
  have hb := below_alloc (Below.refl w.heap.size w) (.cells #[.slice none 0 0, .slice none 0 0, .slice none 0 0, .slice none 0 0] 55)
  have l1 := (Array.getElem?_eq_some_iff.1 h.e).1
  exact ⟨h.kp.alloc _, (hb.block _ (by omega)).trans h.b, (hb.block _ (by omega)).trans h.o, (hb.block _ (by omega)).trans h.e, Kd.R_below (Kd.R_mono (Kd.R_bound h.r) (fun k hk => hk.2.2.1)) hb, blk_new _ _, by omega⟩
theorem MidI.below (h : MidI W w g n mb L f ov l xb c0 c1 c2 cv) (hb : Below w.heap.size w w') : MidI W w' g n mb L f ov l xb c0 c1 c2 cv := by
  have l1 := (Array.getElem?_eq_some_iff.1 h.e).1
  exact ⟨h.kp.then hb, (hb.block _ (by omega)).trans h.b, (hb.block _ (by omega)).trans h.o, (hb.block _ l1).trans h.e, Kd.R_below h.r hb, h.bx.step (hb.block _ h.bx.lt), h.ge⟩
theorem MidI.put (h : MidI W w g n mb L f ov l xb c0 c1 c2 cv) {d0 d1 d2 dv : Value} (i : Nat) (v : Value) (hb : IBox (w.setCell ⟨xb, i, none⟩ v) xb d0 d1 d2 dv) : MidI W (w.setCell ⟨xb, i, none⟩ v) g n mb L f ov l xb d0 d1 d2 dv := by
  have hg := h.ge
  exact ⟨h.kp.setNew _ _ (by show W.heap.size ≤ xb; omega), (Below.heap_setCell _ _ _ _ (by show _ ≠ xb; omega)).trans h.b, (Below.heap_setCell _ _ _ _ (by show _ ≠ xb; omega)).trans h.o, (Below.heap_setCell _ _ _ _ (by show _ ≠ xb; omega)).trans h.e, Kd.R_far h.r (fun k hk => by show k ≠ xb; omega) _, hb, h.ge⟩
theorem MidI.set0 (h : MidI W w g n mb L f ov l xb c0 c1 c2 cv) (v : Value) : MidI W (w.setCell ⟨xb, 0, none⟩ v) g n mb L f ov l xb v c1 c2 cv := h.put 0 v (h.bx.set0 v)
theorem MidI.set1 (h : MidI W w g n mb L f ov l xb c0 c1 c2 cv) (v : Value) : MidI W (w.setCell ⟨xb, 1, none⟩ v) g n mb L f ov l xb c0 v c2 cv := h.put 1 v (h.bx.set1 v)
theorem MidI.set2 (h : MidI W w g n mb L f ov l xb c0 c1 c2 cv) (v : Value) : MidI W (w.setCell ⟨xb, 2, none⟩ v) g n mb L f ov l xb c0 c1 v cv := h.put 2 v (h.bx.set2 v)
theorem MidI.idx (h : MidI W w g n mb L f ov l xb c0 c1 c2 cv) : w.cell? ⟨W.heap.size, 0, none⟩ = some (.slice (some ⟨g, 0, none⟩) n n) ∧ w.cell? ⟨W.heap.size, 1, none⟩ = some (.map (some mb)) := by
  have := h.b
  unfold World.cell?
  simp [this]
theorem MidI.cb (h : MidI W w g n mb L f ov l xb c0 c1 c2 cv) {dv : Value} (k : Kp w w' (fun k => k = xb)) (hb : IBox w' xb c0 c1 c2 dv) : MidI W w' g n mb L f ov l xb c0 c1 c2 dv := by
  have hg := h.ge
  have l1 := (Array.getElem?_eq_some_iff.1 h.e).1
  exact ⟨(h.kp.trans k).mono (fun i hi hx => by rcases hx with hx | hx; exact hx; omega), (k.old _ (by omega) (by omega)).trans h.b, (k.old _ (by omega) (by omega)).trans h.o, (k.old _ l1 (by omega)).trans h.e, Kd.R_step h.r (fun i hi hl => k.old i hl (by omega)), hb, h.ge⟩
theorem rowI_cb {α : Type} {k : Kd α} {e base : Nat} {v : Value} {xs : List α} (h : k.R e w base (fun k => xb < k) v xs) (kk : Kp w w' (fun k => k = xb)) : k.R e w' base (fun k => xb < k) v xs :=
  Kd.R_step h (fun i hi hl => kk.old i hl (by omega))
theorem rowI_new {α : Type} {k : Kd α} {e b base : Nat} {v : Value} {xs : List α} (h : k.R e w b (fun _ => True) v xs) (h1 : xb < b) (h2 : base ≤ b) : k.R e w base (fun k => xb < k) v xs :=
  Kd.R_lower (Kd.R_mono (Kd.R_bound h) (fun i hi => Nat.lt_of_lt_of_le h1 hi.2.1)) h2
theorem rowI_set {α : Type} {k : Kd α} {e base : Nat} {v : Value} {xs : List α} (h : k.R e w base (fun k => xb < k) v xs) (i : Nat) (u : Value) : k.R e (w.setCell ⟨xb, i, none⟩ u) base (fun k => xb < k) v xs :=
  Kd.R_far (p := ⟨xb, i, none⟩) h (fun k hk => by show k ≠ xb; omega) _
/-- The input is done. -/
theorem MidI.done (h : MidI W w g n mb L f ov l xb c0 c1 c2 cv) {va : Value} {t : ByteArray} (hb : Below (W.heap.size + 3) w w') (hr : Kd.R kIA 55 w' (W.heap.size + 3) (fun _ => True) va (l.map (ians L f) ++ [ians L f t])) : JskS W (w'.setCell ⟨W.heap.size + 1, 0, none⟩ va) g n mb L f va (l ++ [t]) := by
  have hg := h.ge
  have hk : Kp W w' (fun _ => False) := ⟨Nat.le_trans h.kp.size hb.size, fun i hi hn => (hb.block i (by omega)).trans (h.kp.old i hi hn), h.kp.env.trans ⟨hb.os, hb.tape, hb.output⟩⟩
  refine ⟨hk.setNew _ _ (by show _ ≤ W.heap.size + 1; omega), ?_, ?_, ?_, ?_⟩
  · exact (Below.heap_setCell _ _ _ _ (by show _ ≠ W.heap.size + 1; omega)).trans ((hb.block _ (by omega)).trans h.b)
  · rw [setCell_heap ((hb.block _ (by omega)).trans h.o)]; rfl
  · exact (Below.heap_setCell _ _ _ _ (by show _ ≠ W.heap.size + 1; omega)).trans ((hb.block _ (by omega)).trans h.e)
  · rw [List.map_append]
    exact Kd.R_mono (Kd.R_far (p := ⟨W.heap.size + 1, 0, none⟩) (Kd.R_mono (Kd.R_bound hr) (ok' := fun k => k ≠ W.heap.size + 1) (fun k hk => by have := hk.2.1; omega)) (fun k hk => hk) _) (fun _ _ => trivial)
theorem MidI.out (h : MidI W w g n mb L f ov l xb c0 c1 c2 cv) : w.cell? ⟨W.heap.size + 1, 0, none⟩ = some ov ∧ w.frozen? ⟨W.heap.size + 1, 0, none⟩ = false := by
  have := h.o
  constructor
  · unfold World.cell?; simp [this]
  · unfold World.frozen?; simp [this]
theorem MidI.out2 (h : MidI W w g n mb L f ov l xb c0 c1 c2 cv) (hb : Below (W.heap.size + 3) w w') : w'.cell? ⟨W.heap.size + 1, 0, none⟩ = some ov ∧ w'.frozen? ⟨W.heap.size + 1, 0, none⟩ = false := by
  have := (hb.block (W.heap.size + 1) (by omega)).trans h.o
  constructor
  · unfold World.cell?; simp [this]
  · unfold World.frozen?; simp [this]
theorem JskS.outs (h : JskS W w g n mb L f ov l) : w.cell? ⟨W.heap.size + 1, 0, none⟩ = some ov ∧ w.frozen? ⟨W.heap.size + 1, 0, none⟩ = false ∧ w.cell? ⟨W.heap.size + 1 + 1, 0, none⟩ = some (.int .i64 0) ∧ w.frozen? ⟨W.heap.size + 1 + 1, 0, none⟩ = false := by
  have h1 := h.o
  have h2 := h.e
  unfold World.cell? World.frozen?
  refine ⟨?_, ?_, ?_, ?_⟩
  · simp [h1]
  · simp [h1]
  · simp [h2]
  · simp [h2]
theorem JskS.fin (h : JskS W w g n mb L f ov l) : JskE W ((w.setCell ⟨W.heap.size + 1, 0, none⟩ ov).setCell ⟨W.heap.size + 1 + 1, 0, none⟩ (.int .i64 0)) L f l (.returned (.tuple #[ov, .int .i64 0])) := by
  refine ⟨ov, rfl, ?_, ((kp_below h.kp).setCell (Nat.le_succ _) _).setCell (by show W.heap.size ≤ W.heap.size + 1 + 1; omega) _⟩
  have h1 := Kd.R_mono (Kd.R_bound h.r) (ok' := fun k => W.heap.size + 3 ≤ k) (fun k hk => hk.2.1)
  exact Kd.R_mono (Kd.R_lower (Kd.R_far (p := ⟨W.heap.size + 1 + 1, 0, none⟩) (Kd.R_far (p := ⟨W.heap.size + 1, 0, none⟩) h1 (fun k hk => by show k ≠ W.heap.size + 1; omega) _) (fun k hk => by show k ≠ W.heap.size + 1 + 1; omega) _) (by omega)) (fun _ _ => trivial)
theorem JskS.sl (h : JskS W w g n mb L f ov l) : ∃ A c, ov = .slice A l.length c := by
  obtain ⟨A, c, e⟩ := Kd.R_slice h.r
  exact ⟨A, c, by rw [e, List.length_map]⟩
end
set_option maxHeartbeats 16000000 in
set_option maxRecDepth 100000 in
theorem jsk_calls (W : World) (g mb ci M : Nat) (s : DA) (L : Keys) (f : Int → Int) (ss : List ByteArray) (A : Option Addr) (X : IxW W g s mb L f) (KB_ : KB L) (hC : ∀ t ∈ ss, Cln t ∧ t.size ≤ 1000000000 ∧ (t.size + 1) * (M + 1) ≤ 800000000) (hf : ∀ k, 0 ≤ f k ∧ f k ≤ (M : Int)) (hr : Kd.C Kd.string W A ss.length ss) (hfew : ss.length ≤ 1000000) :
    Calls Try.prog 56 #[.agg #[.slice (some ⟨g, 0, none⟩) s.n s.n, .map (some mb)], .slice A ss.length ci] W fun e w' => JskE W w' L f ss e := by
  have hmf : ∀ (fn : Fn) (first cap : Array Value) (w : World), (Instr.makeFunc fn first cap).run Try.prog w = .ok (.func fn first cap) w := fun _ _ _ _ => rfl
  have HX0 := Aside0.mk X
  have HKB := Aside0.mk KB_
  have HC := Aside0.mk hC
  have HFB := Aside0.mk hf
  have HR := Aside0.mk hr
  clear X KB_ hC hf hr
  go_enter_defers Try.func56, Try.ntmps56
  go_wp2_with fail
  go_loopg [7, 8, 12] ss.length (fun kq v7 v8 v12 w' => ∃ (j : Nat) (ov : Value), v12 = .int .i64 (j : Int) ∧ Aside0 (j + kq = ss.length) ∧ Aside0 (JskS W w' g s.n mb L f ov (ss.take j)))
  case atStart => exact ⟨0, _, rfl, ⟨by omega⟩, ⟨jsks_start W g s.n mb L f⟩⟩
  case round =>
    obtain ⟨j, ov, rfl, HJ, HS⟩ := hrel
    have hj := HJ.out
    by_cases hjl : j < ss.length
    · have hjz : (j : Int) < (ss.length : Int) := by omega
      obtain ⟨ad, hA, hcell⟩ := str_cell HR.out j hjl
      subst hA
      have hcj : wr.cell? (ad.add j) = some (.string (ss.getD j ByteArray.empty)) := (World.cell?_of_block (HS.out.kp.old _ (cell_lt hcell) id)).trans hcell
      have hm : ss.getD j ByteArray.empty ∈ ss := getD_mem _ hjl
      obtain ⟨ht1, ht2, ht3⟩ := HC.out _ hm
      obtain ⟨t, ht⟩ : ∃ t, ss.getD j ByteArray.empty = t := ⟨_, rfl⟩
      rw [ht] at hcj ht1 ht2 ht3
      have HT1 := Aside0.mk ht1
      have HT3 := Aside0.mk ht3
      have HT := Aside0.mk ht
      clear ht1 ht ht3 hm hcell
      go_upto_region 6 with fail
      obtain ⟨w1, hw1, hm1⟩ : ∃ w1, w1 = _ ∧ MidI W w1 g s.n mb L f ov (ss.take j) wr.heap.size _ _ _ _ := ⟨_, rfl, MidI.start HS.out⟩
      rw [← hw1]
      have hxb : W.heap.size + 3 ≤ wr.heap.size := hm1.ge
      have hgm : g < wr.heap.size ∧ mb < wr.heap.size := by have := HS.out.kp.size; have := HX0.out.arr.lt; have := HX0.out.dup.lt; omega
      obtain ⟨xb, hxbe⟩ : ∃ xb, wr.heap.size = xb := ⟨_, rfl⟩
      rw [hxbe] at hm1 hxb hgm ⊢
      have HM := Aside0.mk hm1
      have hF := Aside0.mk (isearch_calls w1 g mb s L f t (HX0.out.kept hm1.kp id id) HKB.out HT1.out ht2)
      obtain ⟨b0, b1⟩ := hm1.idx
      have HXB : Aside0 (wr.heap.size = xb) := ⟨hxbe⟩
      have HGM := Aside0.mk hgm
      clear hw1 hm1 hxbe hgm
      go_upto_region 7 with (go_at_call 64; refine hF.out.mono ?_; rintro e_ w2 ⟨va, rfl, hr, hB⟩; have hm2 := HM.out.below hB; have HM2 := Aside0.mk hm2; obtain ⟨k0, k1, k2, k3⟩ := hm2.bx.cells; have z0 := hm2.bx.froz 0; have HRA := Aside0.mk (rowI_new (base := W.heap.size + 3) hr HM.out.bx.lt (by have := HM.out.bx.lt; omega)); obtain ⟨Aa, na, rfl⟩ := Kd.R_slice hr; clear hB hm2 hr)
      obtain ⟨w3, hw3, hm3, hra3⟩ : ∃ w3, w3 = w2.setCell ⟨xb, 0, none⟩ (.slice Aa (idsAt L f t).length na) ∧ MidI W w3 g s.n mb L f ov (ss.take j) xb _ _ _ _ ∧ Kd.R (Kd.int .i64) 3 w3 (W.heap.size + 3) (fun k => xb < k) (.slice Aa (idsAt L f t).length na) (idsAt L f t) := ⟨_, rfl, HM2.out.set0 _, rowI_set HRA.out _ _⟩
      rw [← hw3]
      clear hw3 b0 b1
      have HM3 := Aside0.mk hm3
      have HRA3 := Aside0.mk hra3
      have hF := Aside0.mk (icp_calls w3 g mb s L f t (HX0.out.kept hm3.kp id id) HKB.out HT1.out ht2)
      obtain ⟨b0, b1⟩ := hm3.idx
      clear HM2 hm3 hra3 k0 k1 k2 k3 z0 HM HRA
      go_upto_region 8 with (go_at_call 65; refine hF.out.mono ?_; rintro e_ w4 ⟨v1, v2, rfl, hr1, hr2, hB⟩; have hm4 := HM3.out.below hB; have HM4 := Aside0.mk hm4; obtain ⟨k0, k1, k2, k3⟩ := hm4.bx.cells; have z1 := hm4.bx.froz 1; have z2 := hm4.bx.froz 2; have HRA4 := Aside0.mk (Kd.R_below HRA3.out hB); have HR1 := Aside0.mk (rowI_new (base := W.heap.size + 3) hr1 HM3.out.bx.lt (by have := HM3.out.bx.lt; omega)); have HR2 := Aside0.mk (rowI_new (base := W.heap.size + 3) hr2 HM3.out.bx.lt (by have := HM3.out.bx.lt; omega)); obtain ⟨A1, n1, rfl⟩ := Kd.R_slice hr1; obtain ⟨A2, n2, rfl⟩ := Kd.R_slice hr2; clear hB hm4 hr1 hr2)
      obtain ⟨w5, hw5, hm5, hra5, hrb5, hrc5⟩ : ∃ w5, w5 = (w4.setCell ⟨xb, 1, none⟩ (.slice A1 (hitsN L t).length n1)).setCell ⟨xb, 2, none⟩ (.slice A2 (listsAt L f t).length n2) ∧ MidI W w5 g s.n mb L f ov (ss.take j) xb (.slice Aa (idsAt L f t).length na) (.slice A1 (hitsN L t).length n1) (.slice A2 (listsAt L f t).length n2) (.slice none 0 0) ∧ Kd.R (Kd.int .i64) 3 w5 (W.heap.size + 3) (fun k => xb < k) (.slice Aa (idsAt L f t).length na) (idsAt L f t) ∧ Kd.R (Kd.int .i64) 3 w5 (W.heap.size + 3) (fun k => xb < k) (.slice A1 (hitsN L t).length n1) ((hitsN L t).map (·.2)) ∧ Kd.R (Kd.slice 3 (Kd.int .i64)) 23 w5 (W.heap.size + 3) (fun k => xb < k) (.slice A2 (listsAt L f t).length n2) (listsAt L f t) := ⟨_, rfl, (HM4.out.set1 _).set2 _, rowI_set (rowI_set HRA4.out _ _) _ _, by have h := rowI_set (rowI_set HR1.out 1 (.slice A1 (hitsN L t).length n1)) 2 (.slice A2 (listsAt L f t).length n2); rw [List.length_map] at h; exact h, rowI_set (rowI_set HR2.out _ _) _ _⟩
      have hw5' := hw5
      unfold hitsN at hw5'
      first | rw [← hw5] | rw [← hw5']
      clear hw5 hw5' b0 b1
      have HM5 := Aside0.mk hm5
      have HRA5 := Aside0.mk hra5
      have HRB5 := Aside0.mk hrb5
      have HRC5 := Aside0.mk hrc5
      have hl5 := hm5.bx.lt
      have HL5 := Aside0.mk hl5
      have hF := Aside0.mk (icpb_calls w5 g xb mb M s L f t _ _ _ (HX0.out.kept hm5.kp id id) HKB.out HT1.out ht2 hm5.bx (by have := HGM.out; omega) HFB.out HT3.out)
      obtain ⟨b0, b1⟩ := hm5.idx
      clear HM4 HRA4 HR1 HR2 hm5 hra5 hrb5 hrc5 hl5 k0 k1 k2 k3 z1 z2 HM3 HRA3
      go_upto_region 9 with (go_at_call 66; refine hF.out.mono ?_; rintro e_ w9 ⟨rfl, hC9⟩; have HC9 := Aside0.mk hC9; clear hC9)
      obtain ⟨cv, g1, g2, g3⟩ := HC9.out
      have hm9 := HM5.out.cb g3 g1
      have HM9 := Aside0.mk hm9
      have HRA9 := Aside0.mk (rowI_cb HRA5.out g3)
      have HRB9 := Aside0.mk (rowI_cb HRB5.out g3)
      have HRC9 := Aside0.mk (rowI_cb HRC5.out g3)
      have HV9 := Aside0.mk (rowI_new g2 HL5.out (show W.heap.size + 3 ≤ w5.heap.size by have := HL5.out; omega))
      obtain ⟨k0, k1, k2, k3⟩ := hm9.bx.cells
      have ko := hm9.out.1
      have zo := hm9.out.2
      have hlt9 := hm9.bx.lt
      have hsz9 : W.heap.size + 3 ≤ w9.heap.size := by omega
      obtain ⟨Ac, nc, rfl⟩ := Kd.R_slice HV9.out
      have hOK : ∀ k, (xb < k) → True ∧ some k ≠ ov.ownBlock := fun k hk => ⟨trivial, fun e => by have := hm9.r.1 k e.symm; omega⟩
      have HOK := Aside0.mk hOK
      have hl34 : ((ss.take j).map (ians L f)).length ≤ 1000000 := by simp; omega
      clear HC9 g1 g2 g3 hm9 HM5 HRA5 HRB5 HRC5 HL5 hlt9 hOK b0 b1
      cases gk with
      | zero => omega
      | succ kz =>
      go_wp2_with (first | ((with_reducible refine gate_builtin (b := .append) (xs := #[.tmp 32, .tmp 34]) rfl ?_); at_builtin; go_must (refine Kd.R_append kIA (w0 := w9) (W.heap.size + 3) rfl (.tmp 32) (.tmp 34) 73 55 (.agg #[.slice none 0 0, .slice none 0 0, .slice none 0 0, .slice none 0 0]) 96 rfl Try.underlying73 ia_info rfl (by decide) (by omega) _ _ (ians L f t) [_, _, _, _] (fun _ => True) (fun k => xb < k) rfl rfl (kIA_mkM _ _ _ (ians L f t) HRA9.out HRB9.out HRC9.out HV9.out) HOK.out (fun _ _ => trivial) (Kd.R_mono HM9.out.r (fun _ _ => trivial)) (Below.refl _ _) hsz9 (by omega) ?_); intro va wa ho hb hg hat; obtain ⟨k9, z9⟩ := HM9.out.out2 hb; have HD := Aside0.mk (HM9.out.done hb ho); obtain ⟨Ab, nb, rfl⟩ := Kd.R_slice ho; clear ho hb hg hat ko zo) | fail)
      go_roundg kz
      case measure => omega
      case rel => exact ⟨j + 1, _, congrArg (Value.int .i64) (by omega), ⟨by omega⟩, ⟨by rw [List.take_succ_eq_append_getElem hjl, show ss[j] = t by rw [← HT.out, List.getD_eq_getElem?_getD, List.getElem?_eq_getElem hjl]; rfl]; have h9 := HD.out; simp only [List.length_append, List.length_map, List.length_take, List.length_cons, List.length_nil, Nat.zero_add] at h9; exact h9⟩⟩
    · have hjz : ¬ (j : Int) < (ss.length : Int) := by omega
      have hjj : j = ss.length := by omega
      subst hjj
      have hs := HS.out
      rw [List.take_length] at hs
      obtain ⟨Ao, no, rfl⟩ := hs.sl
      have HSF := Aside0.mk hs
      obtain ⟨q1, q2, q3, q4⟩ := hs.outs
      clear hs HS
      go_wp2_with fail
      refine leaves_cons (f := 63) (args := #[.pointer (some ⟨W.heap.size + 1, 0, none⟩), .pointer (some ⟨W.heap.size + 1 + 1, 0, none⟩)]) (by simp) (by simp [go_sem]) ?_
      refine (iask1_idle _ _ _).mono ?_
      rintro e u' w'' ⟨rfl, rfl, rfl⟩
      simp [Leaves, settle, results, Try.results56, go_sem, q1, q2, q3, q4]
      exact HSF.out.fin
end Go.Proofs.Ytaejkbjepbifcaa.Da
namespace Go.Proofs.Ytaejkbjepbifcaa.PI
open Go.RowKit Go.Proofs.YtaejkbjepbifcaaW.PrintWords Go.Proofs.YtaejkbjepbifcaaW.PrintLast Go.Proofs.YtaejkbjepbifcaaW.PrintMore
attribute [local go_sem] max2_int min2_int max_two min_two max_three min_three max_four min_four   -- for this text's walks alone
set_option linter.unusedVariables false
set_option linter.unusedSimpArgs false



def errW : Option Int → Value
  | none => .nilIface
  | some c => .iface 0 (.int .i64 c)
theorem errW_none : errW none = .nilIface := rfl
theorem errW_some (c : Int) : errW (some c) = .iface 0 (.int .i64 c) := rfl

-- the values' own types

end Go.Proofs.Ytaejkbjepbifcaa.PI
namespace Go.Proofs.Ytaejkbjepbifcaa.PI
open Go.RowKit Go.Proofs.YtaejkbjepbifcaaW.PrintWords Go.Proofs.YtaejkbjepbifcaaW.PrintLast Go.Proofs.YtaejkbjepbifcaaW.PrintMore
attribute [local go_sem] max2_int min2_int max_two min_two max_three min_three max_four min_four   -- for this text's walks alone
set_option linter.unusedVariables false
set_option linter.unusedSimpArgs false

/-! ### laws_same_int: function 36 -/
def laws_same_int.l0 : Nat → List Int → List Int → Int → Int → Option (Bool)
  | 0, _, _, _, _ => none
  | k + 1, x0, x1, x12, x13 => if x13 < x12 then (if 0 ≤ x13 then (if x13 < (x0.length : Int) then (if x13 < (x1.length : Int) then (if (rd x0 x13) = (rd x1 x13) then (laws_same_int.l0 k x0 x1 x12 (wrap64 (x13 + 1))) else (some false)) else (none)) else (none)) else (none)) else (some true)
def laws_same_int.f (k : Nat) (l0 : List Int) (l1 : List Int) : Option (Bool) := if (l0.length : Int) = (l1.length : Int) then (laws_same_int.l0 k l0 l1 (l0.length : Int) 0) else (some false)
theorem laws_same_int.mono_l : ∀ k, (∀ y0 y1 y2 y3, LeO (laws_same_int.l0 k y0 y1 y2 y3) (laws_same_int.l0 (k + 1) y0 y1 y2 y3))
  | 0 => fun _ _ _ _ r h => by simp [laws_same_int.l0] at h
  | k + 1 => by
    have ih0 := laws_same_int.mono_l k
    · intro y0 y1 y2 y3
      unfold laws_same_int.l0
      repeat' first
      | (with_reducible exact ih0 _ _ _ _)
      | (with_reducible exact LeO.refl _)
      | (with_reducible exact LeO.none _)
      | (with_reducible refine LeO.ite ?_ ?_)
      | (with_reducible refine LeO.bind ?_ (fun _ => ?_))
      | exact ih0 _ _ _ _
      | exact LeO.none _
      | refine LeO.ite ?_ ?_
      | refine LeO.bind ?_ (fun _ => ?_)
theorem laws_same_int.mono : ∀ a0 a1 k, LeO (laws_same_int.f k a0 a1) (laws_same_int.f (k + 1) a0 a1) := by
  intro a0 a1 k
  have ih0 := laws_same_int.mono_l k
  unfold laws_same_int.f
  repeat' first
      | (with_reducible exact ih0 _ _ _ _)
      | (with_reducible exact LeO.refl _)
      | (with_reducible exact LeO.none _)
      | (with_reducible refine LeO.ite ?_ ?_)
      | (with_reducible refine LeO.bind ?_ (fun _ => ?_))
      | exact ih0 _ _ _ _
      | exact LeO.none _
      | refine LeO.ite ?_ ?_
      | refine LeO.bind ?_ (fun _ => ?_)
set_option maxHeartbeats 8000000 in
set_option maxRecDepth 100000 in
theorem laws_same_int.calls (k : Nat) (A0 : Option Addr) (c0 : Nat) (l0 : List Int) (A1 : Option Addr) (c1 : Nat) (l1 : List Int) (r : Bool) (w : World) (hr0 : Kd.C (Kd.int .i64) w A0 l0.length l0) (hc0 : l0.length ≤ c0) (hr1 : Kd.C (Kd.int .i64) w A1 l1.length l1) (hc1 : l1.length ≤ c1) (h : laws_same_int.f k l0 l1 = some r) :
    Calls Try.prog 36 #[.slice A0 l0.length c0, .slice A1 l1.length c1] w fun e w' => e = .returned (.bool r) ∧ Drawn0 w w' := by
  have HR0 := Aside0.mk hr0
  have HC0 := Aside0.mk hc0
  clear hr0 hc0
  have HR1 := Aside0.mk hr1
  have HC1 := Aside0.mk hc1
  clear hr1 hc1
  have H : (if (l0.length : Int) = (l1.length : Int) then (laws_same_int.l0 k l0 l1 (l0.length : Int) 0) else (some false)) = some r := h
  clear h
  by_cases c3 : (l0.length : Int) = (l1.length : Int)
  · rw [if_pos c3] at H
    have c3b0 : ((l0.length : Int) == (l1.length : Int)) = true := beq_iff_eq.mpr c3
    have c3b1 : ((l0.length : Int) != (l1.length : Int)) = false := bne_eq_false_iff_eq.mpr c3
    have c3b2 : (l0.length == l1.length) = true := by first | simpa using c3 | (simp at c3 ⊢; omega)
    clear c3
    have H' := Aside0.mk H
    clear H
    go_enter Try.func36, Try.ntmps36
    go_wp2
    repeat (go_quiet (fail); try go_wp2)
    go_loopg [13] k (fun kq v13 w' => ∃ (x13_1 : Int), v13 = .int .i64 x13_1 ∧ Aside0 (laws_same_int.l0 kq l0 l1 (l0.length : Int) x13_1 = some r) ∧ Aside0 (kq ≤ k) ∧ Drawn0 w w')
    case atStart => exact ⟨(0), (by first | rfl | (simp; done) | (simp [*]; done)), H', ⟨Nat.le_refl _⟩, by repeat (first | exact Drawn0.refl _ | apply Drawn0.step)⟩
    case round =>
      clear H'
      try clear c1
      try clear p2
      try clear c3
      try clear c3b0
      try clear c3b1
      try clear c3b2
      obtain ⟨x13_1, rfl, HA, HK1, ⟨m1, rfl⟩⟩ := hrel
      cases gk with
      | zero => exact absurd HA.out (by simp [laws_same_int.l0])
      | succ k1 =>
        have H := HA.out
        clear HA
        simp only [laws_same_int.l0] at H
        by_cases c4 : x13_1 < (l0.length : Int)
        · rw [if_pos c4] at H
          have c4b0 : decide (x13_1 < (l0.length : Int)) = true := decide_eq_true c4
          clear c4
          by_cases c5 : 0 ≤ x13_1
          · rw [if_pos c5] at H
            have c5b0 : decide (0 ≤ x13_1) = true := decide_eq_true c5
            clear c5
            by_cases c6 : x13_1 < (l0.length : Int)
            · rw [if_pos c6] at H
              have c6b0 : decide (x13_1 < (l0.length : Int)) = true := decide_eq_true c6
              clear c6
              by_cases c7 : x13_1 < (l1.length : Int)
              · rw [if_pos c7] at H
                have c7b0 : decide (x13_1 < (l1.length : Int)) = true := decide_eq_true c7
                clear c7
                by_cases c8 : (rd l0 x13_1) = (rd l1 x13_1)
                · rw [if_pos c8] at H
                  have c8b0 : ((rd l0 x13_1) == (rd l1 x13_1)) = true := beq_iff_eq.mpr c8
                  have c8b1 : ((rd l0 x13_1) != (rd l1 x13_1)) = false := bne_eq_false_iff_eq.mpr c8
                  clear c8
                  have H' := Aside0.mk H
                  clear H
                  have p101 : 0 ≤ (x13_1 : Int) := of_decide_eq_true (by first | (with_reducible assumption) | assumption)
                  have q101 : x13_1 < (l0.length : Int) := of_decide_eq_true (by first | (with_reducible assumption) | assumption)
                  obtain ⟨ad101, e101, hx101_0⟩ := Kd.at_int HR0.out x13_1 p101 q101
                  cases e101
                  replace p101 := eq_true p101
                  replace q101 := eq_true q101
                  have p102 : 0 ≤ (x13_1 : Int) := of_decide_eq_true (by first | (with_reducible assumption) | assumption)
                  have q102 : x13_1 < (l1.length : Int) := of_decide_eq_true (by first | (with_reducible assumption) | assumption)
                  obtain ⟨ad102, e102, hx102_0⟩ := Kd.at_int HR1.out x13_1 p102 q102
                  cases e102
                  replace p102 := eq_true p102
                  replace q102 := eq_true q102
                  go_wp2
                  repeat (go_quiet (fail); try go_wp2)
                  go_roundg k1
                  case measure => have := HK1.out; omega
                  case rel => exact ⟨(wrap64 (x13_1 + 1)), (by first | rfl | (simp; done) | (simp [*]; done)), H', ⟨by have := HK1.out; omega⟩, by repeat (first | exact Drawn0.refl _ | apply Drawn0.step)⟩
                · rw [if_neg c8] at H
                  have c8b0 : ((rd l0 x13_1) == (rd l1 x13_1)) = false := beq_eq_false_iff_ne.mpr c8
                  have c8b1 : ((rd l0 x13_1) != (rd l1 x13_1)) = true := bne_iff_ne.mpr c8
                  obtain rfl := Option.some.inj H
                  have p101 : 0 ≤ (x13_1 : Int) := of_decide_eq_true (by first | (with_reducible assumption) | assumption)
                  have q101 : x13_1 < (l0.length : Int) := of_decide_eq_true (by first | (with_reducible assumption) | assumption)
                  obtain ⟨ad101, e101, hx101_0⟩ := Kd.at_int HR0.out x13_1 p101 q101
                  cases e101
                  replace p101 := eq_true p101
                  replace q101 := eq_true q101
                  have p102 : 0 ≤ (x13_1 : Int) := of_decide_eq_true (by first | (with_reducible assumption) | assumption)
                  have q102 : x13_1 < (l1.length : Int) := of_decide_eq_true (by first | (with_reducible assumption) | assumption)
                  obtain ⟨ad102, e102, hx102_0⟩ := Kd.at_int HR1.out x13_1 p102 q102
                  cases e102
                  replace p102 := eq_true p102
                  replace q102 := eq_true q102
                  go_wp2
                  repeat (go_quiet (fail); try go_wp2)
                  go_ret
                  exact ⟨by first | rfl | (simp; done) | (simp [*]; done) | (simp [Own.isEmpty_bne]; done), by repeat (first | exact Drawn0.refl _ | apply Drawn0.step)⟩
              · rw [if_neg c7] at H
                exact absurd H (by simp)
            · rw [if_neg c6] at H
              exact absurd H (by simp)
          · rw [if_neg c5] at H
            exact absurd H (by simp)
        · rw [if_neg c4] at H
          have c4b0 : decide (x13_1 < (l0.length : Int)) = false := decide_eq_false c4
          clear c4
          obtain rfl := Option.some.inj H
          go_wp2
          repeat (go_quiet (fail); try go_wp2)
          go_ret
          exact ⟨by first | rfl | (simp; done) | (simp [*]; done) | (simp [Own.isEmpty_bne]; done), by repeat (first | exact Drawn0.refl _ | apply Drawn0.step)⟩
  · rw [if_neg c3] at H
    have c3b0 : ((l0.length : Int) == (l1.length : Int)) = false := beq_eq_false_iff_ne.mpr c3
    have c3b1 : ((l0.length : Int) != (l1.length : Int)) = true := bne_iff_ne.mpr c3
    have c3b2 : (l0.length == l1.length) = false := by first | simpa using c3 | (simp at c3 ⊢; omega)
    obtain rfl := Option.some.inj H
    go_enter Try.func36, Try.ntmps36
    go_wp2
    repeat (go_quiet (fail); try go_wp2)
    go_ret
    exact ⟨by first | rfl | (simp; done) | (simp [*]; done) | (simp [Own.isEmpty_bne]; done), by repeat (first | exact Drawn0.refl _ | apply Drawn0.step)⟩

/-- THE ONE PURE STATEMENT of laws_same_int: yours. -/
def laws_same_int.Pure : Prop := ∀ (l0 : List Int) (l1 : List Int), l0.length ≤ maxLen → l0.length * 8 ≤ 140737488351232 → (∀ x ∈ l0, (Lit.int .i64 x).wf = true) → l1.length ≤ maxLen → l1.length * 8 ≤ 140737488351232 → (∀ x ∈ l1, (Lit.int .i64 x).wf = true) → ∃ k, laws_same_int.f k l0 l1 = some true
theorem laws_same_int.walk (P : laws_same_int.Pure) (a0 : Option Addr) (len0 cap0 : Nat) (z0 : List Int) (a1 : Option Addr) (len1 cap1 : Nat) (z1 : List Int) (w : World) (w0 : (a0 = none ∧ len0 = 0 ∧ cap0 = 0 ∧ z0 = []) ∨ ∃ x, a0 = some x ∧ len0 ≤ cap0 ∧ cap0 ≤ maxLen ∧ z0.length = cap0 ∧ (∀ i, i < z0.length → w.cell? (x.add i) = some (.int .i64 (z0.getD i 0))) ∧ ∀ n ∈ z0, (Lit.int .i64 n).wf = true) (y0 : len0 * 8 ≤ 140737488351232) (w1 : (a1 = none ∧ len1 = 0 ∧ cap1 = 0 ∧ z1 = []) ∨ ∃ x, a1 = some x ∧ len1 ≤ cap1 ∧ cap1 ≤ maxLen ∧ z1.length = cap1 ∧ (∀ i, i < z1.length → w.cell? (x.add i) = some (.int .i64 (z1.getD i 0))) ∧ ∀ n ∈ z1, (Lit.int .i64 n).wf = true) (y1 : len1 * 8 ≤ 140737488351232) :
    Calls Try.prog 36 #[.slice a0 len0 cap0, .slice a1 len1 cap1] w fun e w' => e = .returned (.bool true) ∧ Below w.heap.size w w' := by
  obtain ⟨l0, rfl, hr0, hm0, hw0, hc0⟩ := ReadsInt.ofRowC w0
  obtain ⟨l1, rfl, hr1, hm1, hw1, hc1⟩ := ReadsInt.ofRowC w1
  obtain ⟨k, h⟩ := P l0 l1 hm0 y0 hw0 hm1 y1 hw1
  refine (laws_same_int.calls k _ _ l0 _ _ l1 true w (Kd.C_of_reads (d := (0 : Int)) (h1 := fun _ => rfl) hr0) hc0 (Kd.C_of_reads (d := (0 : Int)) (h1 := fun _ => rfl) hr1) hc1 h).mono ?_
  rintro e w' ⟨rfl, hd⟩
  exact ⟨rfl, hd.below⟩

end Go.Proofs.Ytaejkbjepbifcaa.PI
namespace Go.Proofs.Ytaejkbjepbifcaa.Da
open Go.RowKit Go.Maps Go.ChangeShapes Go.Proofs.YtaejkbjepbifcaaW.PrintWords Go.Proofs.Ytaejkbjepbifcaa.Plain
set_option linter.unusedVariables false
set_option linter.unusedSimpArgs false
/-- What is asked of words. -/
structure WordsOk (k k2 : Nat) (ws : List ByteArray) : Prop where
  srt : PB.slices_IsSorted_string_string.f k ws = some true
  up : ∀ j, j + 1 < ws.length → Op.bytesLess (ws.getD (j + 1) ByteArray.empty).toList (ws.getD j ByteArray.empty).toList = false
  srt2 : PB.slices_IsSorted_string_string.f k2 (ixTo ws ws.length).keys = some true
  ok : KeysOk (ixTo ws ws.length).keys (ixTo ws ws.length).ids
  few : ws.length ≤ 4000
  sz : ∀ t ∈ ws, t.size ≤ 1000000000
def ixL (ws : List ByteArray) : Keys := keysAll (ixTo ws ws.length).keys (ixTo ws ws.length).ids
def ixF (ws : List ByteArray) : Int → Int := (ixTo ws ws.length).dup
theorem words_ok {ws : List ByteArray} {st : Bool} (hw : wt ws ≤ 4000) (ho : Ord ws st) : ∃ k k2, WordsOk k k2 ws := by
  have hl := wt_len ws
  obtain ⟨k, hk⟩ := sorted_ev ws ho.pos (by omega) ho.up
  obtain ⟨k2, hk2⟩ := ix_sorted hw ho
  exact ⟨k, k2, hk, ho.up, hk2, ix_ok hw ho, by omega, fun t ht => by have := wt_mem ht; omega⟩
theorem WordsOk.kb {k k2 : Nat} {ws : List ByteArray} (h : WordsOk k k2 ws) : KB (ixL ws) := by
  have I := ix_inv ws h.up ws.length (Nat.le_refl _)
  have := h.few
  exact kb_all I.len (fun d hd => by have := I.idb d hd; omega)
theorem WordsOk.fb {k k2 : Nat} {ws : List ByteArray} (h : WordsOk k k2 ws) : ∀ x, 0 ≤ ixF ws x ∧ ixF ws x ≤ ((4000 : Nat) : Int) := by
  have I := ix_inv ws h.up ws.length (Nat.le_refl _)
  have := h.few
  intro x
  have := I.dup x
  unfold ixF
  omega
/-- What is asked of texts. -/
def TxsOk (l : List ByteArray) : Prop := l.length ≤ 1000000 ∧ ∀ t ∈ l, Cln t ∧ t.size ≤ 4000
set_option maxHeartbeats 16000000 in
set_option maxRecDepth 100000 in
theorem index_calls (W : World) (A0 A1 : Option Addr) (c0 c1 k k2 : Nat) (ws ts : List ByteArray) (hr0 : Kd.C Kd.string W A0 ws.length ws) (hc0 : ws.length ≤ c0) (hr1 : Kd.C Kd.string W A1 ts.length ts) (hw : WordsOk k k2 ws) (hT : TxsOk ts) :
    Calls Try.prog 35 #[.slice A0 ws.length c0, .slice A1 ts.length c1] W fun e w' => JskE W w' (ixL ws) (ixF ws) ts e := by
  have HR1 := Aside0.mk hr1
  have HW := Aside0.mk hw
  have HT := Aside0.mk hT
  have hfew := hw.few
  have HNE : Aside0 (ws ≠ []) := ⟨fun e => hw.ok.ne (by rw [e]; rfl)⟩
  have h1 := Aside0.mk (PB.slices_Clone_string_string.calls A0 c0 ws ws W hr0 hc0 (clone_strs ws (by omega)))
  clear hr0 hr1 hw hT
  go_enter Try.func35, Try.ntmps35
  go_upto_region 2 with (first | (go_at_call 27; refine h1.out.mono ?_; rintro e_ w1 ⟨v1, rfl, hv, hB⟩; have HB1 := Aside0.mk hB; obtain ⟨kb, kc, rfl, b1, b2, b3, b4⟩ := own_head hv HNE.out; have h2 := Aside0.mk (bix_calls w1 (some ⟨kb, 0, none⟩) kc k k2 ws b4 b3 HW.out.srt HW.out.up HW.out.srt2 HW.out.ok (by omega) HW.out.sz); clear hB hv b4) | (go_at_call 55; refine h2.out.mono ?_; rintro e_ w2 ⟨g, s, mb, rfl, hX, hg, hm, hK⟩; have HX := Aside0.mk hX; have HK := Aside0.mk hK; clear hX hK))
  have hb2 := below_step HB1.out (kp_below HK.out)
  obtain ⟨w3, hw3, hk3, bx⟩ : ∃ w3, w3 = w2.alloc (.cells #[.slice (some ⟨g, 0, none⟩) s.n s.n, .map (some mb)] 95) ∧ Kp w2 w3 (fun _ => False) ∧ w3.heap[w2.heap.size]? = some (.cells #[.slice (some ⟨g, 0, none⟩) s.n s.n, .map (some mb)] 95 (0, 0)) := ⟨_, rfl, (Kp.self w2 _).alloc _, blk_new _ _⟩
  rw [← hw3]
  obtain ⟨xb, hxb⟩ : ∃ xb, w2.heap.size = xb := ⟨_, rfl⟩
  rw [hxb] at bx ⊢
  have x0 : w3.cell? ⟨xb, 0, none⟩ = some (.slice (some ⟨g, 0, none⟩) s.n s.n) := by unfold World.cell?; simp [bx]
  have x1 : w3.cell? ⟨xb, 1, none⟩ = some (.map (some mb)) := by unfold World.cell?; simp [bx]
  have hb3 := below_step hb2 (kp_below hk3)
  have h4 := Aside0.mk (jsk_calls w3 g mb c1 4000 s (ixL ws) (ixF ws) ts A1 (HX.out.kept hk3 id id) HW.out.kb (fun t ht => ⟨(HT.out.2 t ht).1, by have := (HT.out.2 t ht).2; omega, Nat.le_trans (Nat.mul_le_mul_right _ (Nat.succ_le_succ (HT.out.2 t ht).2)) (by decide)⟩) HW.out.fb (Kd.C_below HR1.out hb3) HT.out.1)
  have HB3 := Aside0.mk hb3
  clear hw3 hk3 bx hxb hb2 hb3
  go_wp2_with (go_at_call 56; refine h4.out.mono ?_; rintro e_ w4 ⟨ov, rfl, hR, hB⟩; have HR4 := Aside0.mk hR; have HB4 := Aside0.mk hB; clear hR hB)
  exact bodyPost_ret (v := .tuple #[ov, .int .i64 0]) (by simp [results, Try.results35, go_sem]) rfl ⟨ov, rfl, Kd.R_lower HR4.out HB3.out.size, below_step HB3.out HB4.out⟩
/-- An answer in a row. -/
theorem ia_at {w : World} {base g c : Nat} {ok : Nat → Prop} {l : List IA} (h : Kd.R kIA 55 w base ok (.slice (some ⟨g, 0, none⟩) l.length c) l) (j : Nat) (hj : j < l.length) (a : IA) (ha : l[j]? = some a) :
    ∃ A0 c0 A1 c1 A2 c2 A3 c3, w.cell? ⟨g, j * 4, none⟩ = some (.slice A0 a.f0.length c0) ∧ w.cell? ⟨g, j * 4 + 1, none⟩ = some (.slice A1 a.f1.length c1) ∧ w.cell? ⟨g, j * 4 + 2, none⟩ = some (.slice A2 a.f2.length c2) ∧ w.cell? ⟨g, j * 4 + 3, none⟩ = some (.slice A3 a.f3.length c3) ∧
      Kd.R (Kd.int .i64) 3 w base ok (.slice A0 a.f0.length c0) a.f0 ∧ Kd.R (Kd.int .i64) 3 w base ok (.slice A1 a.f1.length c1) a.f1 ∧ Kd.R (Kd.slice 3 (Kd.int .i64)) 23 w base ok (.slice A2 a.f2.length c2) a.f2 ∧ Kd.R PB.k39 39 w base ok (.slice A3 a.f3.length c3) a.f3 := by
  obtain ⟨_, hR⟩ := h
  obtain ⟨A, c', e1, l1, hr⟩ := OwnRow.reads hR
  cases e1
  obtain ⟨ad, e2, hx⟩ := hr.2.2 (by omega)
  cases e2
  obtain ⟨cs, _, hM, hc⟩ := hx j a ha
  obtain ⟨_, _, rfl, ⟨v0, rfl, g0⟩, ⟨_, _, rfl, ⟨v1, rfl, g1⟩, ⟨_, _, rfl, ⟨v2, rfl, g2⟩, ⟨v3, rfl, g3⟩⟩⟩⟩ := hM
  obtain ⟨A0, c0, rfl⟩ := Kd.R_slice g0
  obtain ⟨A1, c1, rfl⟩ := Kd.R_slice g1
  obtain ⟨A2, c2, rfl⟩ := Kd.R_slice g2
  obtain ⟨A3, c3, rfl⟩ := Kd.R_slice g3
  have e3 : ∀ i, (⟨g, 0, none⟩ : Addr).add (j * kIA.sz + i) = ⟨g, j * 4 + i, none⟩ := fun i => by
    show (⟨g, 0, none⟩ : Addr).add (j * 4 + i) = _
    rw [add_at0, Nat.zero_add]
  refine ⟨A0, c0, A1, c1, A2, c2, A3, c3, ?_, ?_, ?_, ?_, Kd.R_mono g0 (fun k hk => hk.1), Kd.R_mono g1 (fun k hk => hk.1), Kd.R_mono g2 (fun k hk => hk.1), Kd.R_mono g3 (fun k hk => hk.1)⟩
  · have := hc 0 _ rfl; rw [e3] at this; exact this
  · have := hc 1 _ rfl; rw [e3] at this; exact this
  · have := hc 2 _ rfl; rw [e3] at this; exact this
  · have := hc 3 _ rfl; rw [e3] at this; exact this
/-- Its rows. -/
structure RowsI (w : World) (base : Nat) (a : IA) (A0 A1 A2 A3 : Option Addr) (c0 c1 c2 c3 : Nat) : Prop where
  r0 : Kd.R (Kd.int .i64) 3 w base (fun _ => True) (.slice A0 a.f0.length c0) a.f0
  r1 : Kd.R (Kd.int .i64) 3 w base (fun _ => True) (.slice A1 a.f1.length c1) a.f1
  r2 : Kd.R (Kd.slice 3 (Kd.int .i64)) 23 w base (fun _ => True) (.slice A2 a.f2.length c2) a.f2
  r3 : Kd.R PB.k39 39 w base (fun _ => True) (.slice A3 a.f3.length c3) a.f3
theorem rowI_far {α : Type} {k : Kd α} {e : Nat} {w : World} {base xb i : Nat} {v u : Value} {xs : List α} (h : Kd.R k e w base (fun _ => True) v xs) (hb : xb < base) : Kd.R k e (w.setCell ⟨xb, i, none⟩ u) base (fun _ => True) v xs :=
  Kd.R_mono (Kd.R_far (p := ⟨xb, i, none⟩) (Kd.R_mono (Kd.R_bound h) (ok' := fun k => k ≠ xb) (fun k hk => by have := hk.2.1; omega)) (fun k hk => hk) u) (fun _ _ => trivial)
theorem RowsI.far {w : World} {base xb i : Nat} {a : IA} {A0 A1 A2 A3 : Option Addr} {c0 c1 c2 c3 : Nat} {u : Value} (h : RowsI w base a A0 A1 A2 A3 c0 c1 c2 c3) (hb : xb < base) : RowsI (w.setCell ⟨xb, i, none⟩ u) base a A0 A1 A2 A3 c0 c1 c2 c3 :=
  ⟨rowI_far h.r0 hb, rowI_far h.r1 hb, rowI_far h.r2 hb, rowI_far h.r3 hb⟩
theorem RowsI.lower {w : World} {base base' : Nat} {a : IA} {A0 A1 A2 A3 : Option Addr} {c0 c1 c2 c3 : Nat} (h : RowsI w base a A0 A1 A2 A3 c0 c1 c2 c3) (hb : base' ≤ base) : RowsI w base' a A0 A1 A2 A3 c0 c1 c2 c3 :=
  ⟨Kd.R_lower h.r0 hb, Kd.R_lower h.r1 hb, Kd.R_lower h.r2 hb, Kd.R_lower h.r3 hb⟩
/-- What laws.index hands back. -/
def IxA (W w' : World) (a : IA) (e : Ending) : Prop := ∃ A0 A1 A2 A3 c0 c1 c2 c3, e = .returned (.tuple #[.agg #[.slice A0 a.f0.length c0, .slice A1 a.f1.length c1, .slice A2 a.f2.length c2, .slice A3 a.f3.length c3], .bool true]) ∧ RowsI w' W.heap.size a A0 A1 A2 A3 c0 c1 c2 c3 ∧ Below W.heap.size W w'
set_option maxHeartbeats 16000000 in
set_option maxRecDepth 100000 in
theorem lindex_calls (W : World) (A0 : Option Addr) (c0 k k2 : Nat) (ws : List ByteArray) (s : ByteArray) (a : IA) (ha : ians (ixL ws) (ixF ws) s = a) (hr0 : Kd.C Kd.string W A0 ws.length ws) (hc0 : ws.length ≤ c0) (hw : WordsOk k k2 ws) (hI : Cln s ∧ s.size ≤ 4000) :
    Calls Try.prog 24 #[.slice A0 ws.length c0, .string s] W fun e w' => IxA W w' a e := by
  have HR0 := Aside0.mk hr0
  have HC0 := Aside0.mk hc0
  have HW := Aside0.mk hw
  have HI := Aside0.mk hI
  have HAE := Aside0.mk ha
  clear hr0 hc0 hw hI ha
  go_enter Try.func24, Try.ntmps24
  have HT : Aside0 (∀ (w1 : World) (b : Nat), b = w1.heap.size → Below W.heap.size W w1 → Calls Try.prog 35 #[.slice A0 ws.length c0, .slice (some ⟨b, 0, none⟩) 1 1] (w1.alloc (.cells #[.string s] 9)) fun e w' => ∃ g c B0 d0 B1 d1 B2 d2 B3 d3, e = .returned (.tuple #[.slice (some ⟨g, 0, none⟩) 1 c, .int .i64 0]) ∧ (w'.cell? ⟨g, 0, none⟩ = some (.slice B0 a.f0.length d0) ∧ w'.cell? ⟨g, 1, none⟩ = some (.slice B1 a.f1.length d1) ∧ w'.cell? ⟨g, 2, none⟩ = some (.slice B2 a.f2.length d2) ∧ w'.cell? ⟨g, 3, none⟩ = some (.slice B3 a.f3.length d3)) ∧
      Aside0 (RowsI w' (w1.heap.size + 1) a B0 B1 B2 B3 d0 d1 d2 d3) ∧ Aside0 (g ≠ W.heap.size) ∧ Aside0 (Below (w1.heap.size + 1) (w1.alloc (.cells #[.string s] 9)) w')) := ⟨fun w1 b hbe hb => by
    subst hbe
    have hb2 := below_alloc hb (.cells #[.string s] 9)
    refine (index_calls _ A0 (some ⟨w1.heap.size, 0, none⟩) c0 1 k k2 ws [s] (Kd.C_below HR0.out hb2) HC0.out (Own.C_alloc_new w1 [s] 9 (0, 0) _ rfl (by simp)) HW.out ⟨by simp, fun t ht => by rw [List.mem_singleton.1 ht]; exact HI.out⟩).mono ?_
    rintro e w' ⟨ov, rfl, hR, hB⟩
    have hz : (w1.alloc (.cells #[.string s] 9)).heap.size = w1.heap.size + 1 := Own.size_alloc _ _
    rw [hz] at hR hB
    obtain ⟨g, c, rfl, hg0, hg, _, _⟩ := own_head hR (by simp)
    obtain ⟨B0, d0, B1, d1, B2, d2, B3, d3, h0, h1, h2, h3, g0, g1, g2, g3⟩ := ia_at hR 0 (by simp) a (by rw [← HAE.out]; rfl)
    simp only [Nat.zero_mul, Nat.zero_add] at h0 h1 h2 h3
    have hz2 := hb.size
    exact ⟨g, c, B0, d0, B1, d1, B2, d2, B3, d3, rfl, ⟨h0, h1, h2, h3⟩, ⟨g0, g1, g2, g3⟩, ⟨by omega⟩, ⟨hB⟩⟩⟩
  go_upto_region 2 with (go_at_call 35; refine (HT.out _ _ (Own.size_alloc _ _).symm (below_alloc (Below.refl _ _) _)).mono ?_; rintro e_ w2 ⟨g, c, B0, d0, B1, d1, B2, d2, B3, d3, rfl, ⟨k0, k1, k2, k3⟩, HC, HNE, HB⟩)
  have hb1 : (W.alloc (.cells #[.slice none 0 0, .slice none 0 0, .slice none 0 0, .slice none 0 0] 55)).heap.size = W.heap.size + 1 := Own.size_alloc _ _
  have hbx : IBox w2 W.heap.size (.slice none 0 0) (.slice none 0 0) (.slice none 0 0) (.slice none 0 0) :=
    (HB.out.block _ (by omega)).trans (((below_alloc (Below.refl _ _) _).block _ (by omega)).trans (blk_new W _))
  obtain ⟨x0, x1, x2, x3⟩ := hbx.cells
  have f0 := hbx.froz 0
  have f1 := hbx.froz 1
  have f2 := hbx.froz 2
  have f3 := hbx.froz 3
  have HBW : Aside0 (Below W.heap.size W w2) := ⟨below_weaken (below_alloc (below_alloc (Below.refl _ _) _) _) (by omega) HB.out⟩
  rw [hb1] at HC
  have HRW := Aside0.mk HC.out
  clear hbx hb1 HC HB HT
  go_wp2_with fail
  have k1 : W.heap.size < W.heap.size + 1 + 1 := by omega
  refine bodyPost_ret (v := .tuple #[.agg #[.slice B0 a.f0.length d0, .slice B1 a.f1.length d1, .slice B2 a.f2.length d2, .slice B3 a.f3.length d3], .bool true]) (by simp [results, Try.results24, go_sem, x0, x1, x2, x3]) rfl ⟨B0, B1, B2, B3, d0, d1, d2, d3, rfl, ((((HRW.out.far k1).far k1).far k1).far k1).lower (by omega), ?_⟩
  exact (((HBW.out.setCell (Nat.le_refl _) _).setCell (Nat.le_refl _) _).setCell (Nat.le_refl _) _).setCell (Nat.le_refl _) _
/-- 'a' twice. -/
theorem aa_ord : Ord [ta, ta] false := by
  refine ⟨?_, ?_, ?_, (fun h => by cases h), by simp⟩
  · intro t ht
    simp only [List.mem_cons, List.not_mem_nil, or_false, or_self] at ht
    rw [ht]; exact cln_a
  · intro t ht
    simp only [List.mem_cons, List.not_mem_nil, or_false, or_self] at ht
    rw [ht, Lib.toList_data]; decide
  · intro i hi
    obtain rfl : i = 0 := by simp at hi; omega
    rw [Lib.toList_data, Lib.toList_data]; decide
theorem aa_ans : (ians (ixL [ta, ta]) (ixF [ta, ta]) ta).f0 = [0, 1] ∧ (ians (ixL [ta, ta]) (ixF [ta, ta]) ta).f1 = [1] := by
  have e : ixTo [ta, ta] [ta, ta].length = ⟨[ta], [0], 0, ta, bump (fun _ => 0) 0⟩ := by
    have e1 : ixTo [ta, ta] 1 = ⟨[ta], [0], 0, ta, fun _ => 0⟩ := by
      rw [ixTo_succ]
      unfold ixStep
      rw [if_neg (by rw [Lib.toList_data]; show ¬ _ = ByteArray.empty.toList; rw [empty_list]; decide)]
      rfl
    show ixTo [ta, ta] 2 = _
    rw [ixTo_succ, e1]
    unfold ixStep
    rw [if_pos (show ([ta, ta].getD 1 ByteArray.empty).toList = ta.toList from rfl)]
    rfl
  have e2 : ixL [ta, ta] = keysAll [ta] [0] := by unfold ixL; rw [e]
  have e3 : ixF [ta, ta] = bump (fun _ => 0) 0 := by unfold ixF; rw [e]
  rw [e2, e3]
  constructor
  · rfl
  · rfl
theorem sameI_key (l : List Int) (hl : l.length ≤ 4611686018427387904) : ∀ d i, i + d = l.length → Ev (fun k => PI.laws_same_int.l0 k l l (l.length : Int) (i : Int)) true
  | 0, i, h => Ev.step (fun k => by rw [PI.laws_same_int.l0]) (evn (by omega) (Ev.now true))
  | d + 1, i, h => by
    have ih := sameI_key l hl d (i + 1) (by omega)
    exact Ev.step (fun k => by rw [PI.laws_same_int.l0]) (evp (by omega) (evp (by omega) (evp (by omega) (evp (by omega) (evp rfl (by rw [wrap_up i (by omega)]; exact ih))))))
theorem sameI_ev (l : List Int) (hl : l.length ≤ 4611686018427387904) : Ev (fun k => PI.laws_same_int.f k l l) true := by
  have := sameI_key l hl l.length 0 (by omega)
  exact evp rfl this
set_option maxHeartbeats 16000000 in
set_option maxRecDepth 100000 in
theorem indexes_calls (W : World) : Calls Try.prog 23 #[] W fun e w' => e = .returned (.bool true) ∧ Below W.heap.size W w' := by
  obtain ⟨k, k2, hw⟩ := words_ok (ws := [ta, ta]) (by decide) aa_ord
  obtain ⟨e1, e2⟩ := aa_ans
  obtain ⟨ks, hks⟩ := (sameI_ev [0, 1] (by simp)).rounds
  obtain ⟨kt, hkt⟩ := (sameI_ev [1] (by simp)).rounds
  have HW := Aside0.mk hw
  have HKS := Aside0.mk hks
  have HKT := Aside0.mk hkt
  obtain ⟨a, ha⟩ : ∃ a, ians (ixL [ta, ta]) (ixF [ta, ta]) ta = a := ⟨_, rfl⟩
  rw [ha] at e1 e2
  have HAE := Aside0.mk ha
  have HT : Aside0 (∀ (w : World) (b0 b1 : Nat), Kd.C Kd.string w (some ⟨b0, 0, none⟩) 2 [ta, ta] → Kd.C Kd.string w (some ⟨b1, 0, none⟩) 1 [ta] →
      Calls Try.prog 35 #[.slice (some ⟨b0, 0, none⟩) 2 2, .slice (some ⟨b1, 0, none⟩) 1 1] w fun e w' => ∃ g c B0 d0 B1 d1 B2 d2 B3 d3, e = .returned (.tuple #[.slice (some ⟨g, 0, none⟩) 1 c, .int .i64 0]) ∧ (w'.cell? ⟨g, 0, none⟩ = some (.slice B0 2 d0) ∧ w'.cell? ⟨g, 1, none⟩ = some (.slice B1 1 d1) ∧ w'.cell? ⟨g, 2, none⟩ = some (.slice B2 a.f2.length d2) ∧ w'.cell? ⟨g, 3, none⟩ = some (.slice B3 a.f3.length d3)) ∧ Aside0 (Kd.R (Kd.int .i64) 3 w' w.heap.size (fun _ => True) (.slice B0 2 d0) [0, 1]) ∧ Aside0 (Kd.R (Kd.int .i64) 3 w' w.heap.size (fun _ => True) (.slice B1 1 d1) [1]) ∧ Aside0 (Below w.heap.size w w')) := ⟨fun w b0 b1 h0 h1 => by
    refine (index_calls w (some ⟨b0, 0, none⟩) (some ⟨b1, 0, none⟩) 2 1 k k2 [ta, ta] [ta] h0 (by simp) h1 HW.out ⟨by simp, fun t ht => by rw [List.mem_singleton.1 ht]; exact ⟨cln_a, by decide⟩⟩).mono ?_
    rintro e w' ⟨ov, rfl, hR, hB⟩
    obtain ⟨g, c, rfl, hg0, hg, _, _⟩ := own_head hR (by simp)
    obtain ⟨B0, d0, B1, d1, B2, d2, B3, d3, h0, h1, h2, h3, g0, g1, g2, g3⟩ := ia_at hR 0 (by simp) a (by rw [← HAE.out]; rfl)
    simp only [Nat.zero_mul, Nat.zero_add] at h0 h1 h2 h3
    rw [e1] at h0 g0
    rw [e2] at h1 g1
    exact ⟨g, c, B0, d0, B1, d1, B2, d2, B3, d3, rfl, ⟨h0, h1, h2, h3⟩, ⟨g0⟩, ⟨g1⟩, ⟨hB⟩⟩⟩
  clear hw hks hkt ha e1 e2
  go_enter Try.func23, Try.ntmps23
  go_upto_region 2 with (go_at_call 35; refine (HT.out _ _ _ (Kd.C_below (new1 _ _ rfl [ta, ta] _ _ rfl (by simp)) (below_alloc (Below.refl _ _) _)) (new1 _ _ (Own.size_alloc _ _).symm [ta] _ _ rfl (by simp))).mono ?_; rintro e_ w2 ⟨g, c, B0, d0, B1, d1, B2, d2, B3, d3, rfl, ⟨k0, k1, k2, k3⟩, HC0, HC1, HB⟩)
  obtain ⟨hl0, hC0⟩ := row_reads HC0.out
  obtain ⟨hl1, hC1⟩ := row_reads HC1.out
  have HL0 := Aside0.mk hl0
  have HL1 := Aside0.mk hl1
  have HD0 := Aside0.mk hC0
  have HD1 := Aside0.mk hC1
  have HBW : Aside0 (Below W.heap.size W w2) := ⟨below_step (below_alloc (below_alloc (Below.refl _ _) _) _) HB.out⟩
  clear hl0 hC0 hl1 hC1 HC0 HC1 HB HT
  have HQ0 : Aside0 (∀ (w1 : World) (b : Nat), b = w1.heap.size → Below w2.heap.size w2 w1 → Calls Try.prog 36 #[.slice B0 2 d0, .slice (some ⟨b, 0, none⟩) 2 2] (w1.alloc (.cells #[.int .i64 0, .int .i64 1] 3)) fun e w' => e = .returned (.bool true) ∧ Drawn0 (w1.alloc (.cells #[.int .i64 0, .int .i64 1] 3)) w') := ⟨fun w1 b hb hB => PI.laws_same_int.calls ks B0 d0 [0, 1] _ 2 [0, 1] true _ (Kd.C_below HD0.out (below_alloc hB _)) HL0.out (new1 _ _ hb [0, 1] _ _ rfl (by simp)) (by simp) HKS.out⟩
  have HQ1 : Aside0 (∀ (w1 : World) (b : Nat), b = w1.heap.size → Below w2.heap.size w2 w1 → Calls Try.prog 36 #[.slice B1 1 d1, .slice (some ⟨b, 0, none⟩) 1 1] (w1.alloc (.cells #[.int .i64 1] 3)) fun e w' => e = .returned (.bool true) ∧ Drawn0 (w1.alloc (.cells #[.int .i64 1] 3)) w') := ⟨fun w1 b hb hB => PI.laws_same_int.calls kt B1 d1 [1] _ 1 [1] true _ (Kd.C_below HD1.out (below_alloc hB _)) HL1.out (new1 _ _ hb [1] _ _ rfl (by simp)) (by simp) HKT.out⟩
  clear HKS HKT HD0 HD1 HL0 HL1 HW HAE
  go_wp2_with (first | (go_at_call 36; (with_reducible refine Calls.mono (HQ0.out _ _ rfl (by repeat (first | (with_reducible first | exact Below.refl _ _ | apply below_alloc | apply pw_below_drewN | apply below_drew1) | exact Below.refl _ _))) ?_); rintro e_ w3 ⟨rfl, ⟨q3, rfl⟩⟩; have k1b := (World.cell?_of_block (w := w2) ((pw_below_drewN (below_alloc (Below.refl _ w2) (.cells #[.int .i64 0, .int .i64 1] 3)) q3).block g (cell_lt k1))).trans k1) | (go_at_call 36; refine (HQ1.out ((w2.alloc (.cells #[.int .i64 0, .int .i64 1] 3)).drewN q3) _ (Own.size_alloc _ _).symm (by repeat (first | (with_reducible first | exact Below.refl _ _ | apply below_alloc | apply pw_below_drewN | apply below_drew1) | exact Below.refl _ _))).mono ?_; rintro e_ w4 ⟨rfl, ⟨q4, rfl⟩⟩))
  go_ret
  exact ⟨rfl, by repeat (first | (with_reducible first | exact HBW.out | apply below_alloc | apply pw_below_drewN | apply below_drew1) | exact HBW.out)⟩
end Go.Proofs.Ytaejkbjepbifcaa.Da
