/- The walks over tries and what they compute: part 4 of several, put together by a program. -/
import Derived.Test.YtaejkbjepbifcabGreatDoorP3
import Derived.Deep.CutBlock
import Derived.Test.YtaejkbjepbifcabGreatDoorP0
import Derived.Test.YtaejkbjepbifcabGreatDoorP1
import Derived.Test.YtaejkbjepbifcabGreatDoorP2
import Derived.Test.YtaejkbjepbifcabGreatDoorProg
import Derived.Test.YtaejkbjepbifcabGreatDoorKOwn
import Derived.Test.YtaejkbjepbifcabGreatDoorKPlain
import Derived.Deep.LoopGhost
import Derived.Handy
import Derived.Laws.CopyRow
import Derived.LaidEql
import Derived.StillTailTactics
import Derived.Deep.QuietTactic
import Derived.BigQuiet
import Derived.Deep.RegionWith
import Derived.Test.YtaejkbjepbifcabGreatDoorShelf
import Derived.LoopN
import Derived.Lib.EndianBits
import Derived.Lib.Buffer
import Derived.Laws.Rows
import Derived.Laws.MakeOwn
import Derived.BigCall
import Derived.BigGuard
import Derived.Deep.DeepMust
import Derived.Outline
import Derived.Laws.Bits64b
import Derived.Sort.LotD5
import Derived.Sort.LotD1
import Derived.Shelf.Sort.Plain
namespace Go.Proofs.YtaejkbjepbifcabGreatDoor.Da
open Go.RowKit Go.Maps Go.ChangeShapes Go.WideMaps Go.Proofs.YtaejkbjepbifcabGreatDoorW.PrintWords
set_option linter.unusedVariables false
set_option linter.unusedSimpArgs false
def IBox (W : World) (xb : Nat) (c0 c1 c2 cv : Value) : Prop := W.heap[xb]? = some (.cells #[c0, c1, c2, cv] 42 (0, 0))
section
variable {W W' : World} {xb : Nat} {c0 c1 c2 cv : Value}
theorem IBox.set0 (h : IBox W xb c0 c1 c2 cv) (v : Value) : IBox (W.setCell ⟨xb, 0, none⟩ v) xb v c1 c2 cv := (setCell_heap h).trans (by rfl)
theorem IBox.set1 (h : IBox W xb c0 c1 c2 cv) (v : Value) : IBox (W.setCell ⟨xb, 1, none⟩ v) xb c0 v c2 cv := (setCell_heap h).trans (by rfl)
theorem IBox.set2 (h : IBox W xb c0 c1 c2 cv) (v : Value) : IBox (W.setCell ⟨xb, 2, none⟩ v) xb c0 c1 v cv := (setCell_heap h).trans (by rfl)
theorem IBox.set3 (h : IBox W xb c0 c1 c2 cv) (v : Value) : IBox (W.setCell ⟨xb, 3, none⟩ v) xb c0 c1 c2 v := (setCell_heap h).trans (by rfl)
theorem IBox.cell3 (h : IBox W xb c0 c1 c2 cv) : W.cell? ⟨xb, 3, none⟩ = some cv := by unfold IBox at h; unfold World.cell?; simp [h]
theorem IBox.cells (h : IBox W xb c0 c1 c2 cv) : W.cell? ⟨xb, 0, none⟩ = some c0 ∧ W.cell? ⟨xb, 1, none⟩ = some c1 ∧ W.cell? ⟨xb, 2, none⟩ = some c2 ∧ W.cell? ⟨xb, 3, none⟩ = some cv := by unfold IBox at h; unfold World.cell?; simp [h]
theorem IBox.froz (h : IBox W xb c0 c1 c2 cv) (i : Nat) : W.frozen? ⟨xb, i, none⟩ = false := by unfold IBox at h; unfold World.frozen?; simp [h]
theorem IBox.lt (h : IBox W xb c0 c1 c2 cv) : xb < W.heap.size := (Array.getElem?_eq_some_iff.1 h).1
theorem IBox.step (h : IBox W xb c0 c1 c2 cv) (e : W'.heap[xb]? = W.heap[xb]?) : IBox W' xb c0 c1 c2 cv := e.trans h
end
theorem info_hit : (Tryz.prog.info? 93).map (fun i => (i.zero, i.size, i.bytes)) = some (some (.agg #[(.int .i64 0), (.int .i64 0)]), 2, 16) := by kernel_rfl
def TelE (W w' : World) (xb B : Nat) (c0 c1 c2 : Value) (xs : List PB.S93) : Prop := ∃ cv, IBox w' xb c0 c1 c2 cv ∧ Kd.R PB.k93 93 w' B (fun _ => True) cv xs ∧ Kp W w' (fun k => k = xb ∨ B ≤ k)
set_option maxHeartbeats 16000000 in
set_option maxRecDepth 100000 in
theorem itell_calls (W : World) (xb B : Nat) (id l : Int) (c0 c1 c2 cv : Value) (xs : List PB.S93) (hx : IBox W xb c0 c1 c2 cv) (hlt : xb < B) (hBs : B ≤ W.heap.size) (hR : Kd.R PB.k93 93 W B (fun _ => True) cv xs) (hl : xs.length ≤ 1000000000) :
    Calls Tryz.prog 43 #[.int .i64 id, .int .i64 l, .pointer (some ⟨xb, 0, none⟩)] W fun e w' => e = .returned (.tuple #[]) ∧ TelE W w' xb B c0 c1 c2 (xs ++ [⟨id, l⟩]) := by
  have HX := Aside0.mk hx
  have HR := Aside0.mk hR
  have c5 := hx.cell3
  have f5 := hx.froz 3
  clear hx hR
  go_enter Tryz.func43, Tryz.ntmps43
  go_wp2_with ((with_reducible refine gate_builtin (b := .append) (xs := #[.tmp 6, .tmp 10]) rfl ?_); at_builtin; refine Kd.R_append PB.k93 (w0 := W) B rfl (.tmp 6) (.tmp 10) 40 93 (.agg #[.int .i64 0, .int .i64 0]) 16 rfl Tryz.underlying40 info_hit rfl (by decide) (by omega) cv xs (⟨id, l⟩ : PB.S93) [.int .i64 id, .int .i64 l] (fun _ => True) (fun _ => False) rfl rfl (PB.k93_mkM _ _ _ _) (fun _ hk => hk.elim) (fun _ _ => trivial) HR.out (Below.refl _ _) hBs (by omega) ?_; intro va wa ho hb hg hat; have hx2 : IBox wa xb c0 c1 c2 cv := HX.out.step (hb.block xb hlt); have f5w := hx2.froz 3; have c5w := hx2.cell3; have HX2 := Aside0.mk hx2; clear hx2; obtain ⟨Av, kv, rfl⟩ := Kd.R_slice ho; simp only [List.length_append, List.length_cons, List.length_nil, Nat.zero_add] at ho; have HO := Aside0.mk ho; have HB := Aside0.mk hb; have HG := Aside0.mk hg; clear ho hb hg hat)
  go_end0
  refine ⟨rfl, _, HX2.out.set3 _, Kd.R_mono (Kd.R_far (p := ⟨xb, 3, none⟩) (Kd.R_mono (Kd.R_bound HO.out) (ok' := fun k => k ≠ xb) (fun k hk => by have := hk.2.1; omega)) (fun k hk => hk) _) (fun _ _ => trivial), ?_⟩
  refine Kp.setCell ?_ _ _ (Or.inl rfl)
  exact ⟨HB.out.size, fun i hi hn => HG.out.block i hi (fun e => hn (Or.inr (Kd.R_base HR.out i e.symm))), HG.out.os, HG.out.tape, HG.out.output⟩
structure CloB (W : World) (ib fb xb g n mb : Nat) : Prop where
  idx : W.heap[ib]? = some (.cells #[.slice (some ⟨g, 0, none⟩) n n, .map (some mb)] 53 (0, 0))
  fn : W.heap[fb]? = some (.cells #[.func (Fn.func 43) #[] #[.pointer (some ⟨xb, 0, none⟩)]] 94 (0, 0))
  ne : ib ≠ xb ∧ fb ≠ xb ∧ mb ≠ xb
theorem CloB.cells {W : World} {ib fb xb g n mb : Nat} (h : CloB W ib fb xb g n mb) : W.cell? ⟨ib, 0, none⟩ = some (.slice (some ⟨g, 0, none⟩) n n) ∧ W.cell? ⟨ib, 1, none⟩ = some (.map (some mb)) ∧ W.cell? ⟨fb, 0, none⟩ = some (.func (Fn.func 43) #[] #[.pointer (some ⟨xb, 0, none⟩)]) := by
  have h1 := h.idx
  have h2 := h.fn
  unfold World.cell?
  simp [h1, h2]
theorem CloB.kept {W w : World} {ib fb xb g n mb : Nat} {S : Nat → Prop} (h : CloB W ib fb xb g n mb) (k : Kp W w S) (h1 : ¬ S ib) (h2 : ¬ S fb) : CloB w ib fb xb g n mb :=
  ⟨(k.old _ (Array.getElem?_eq_some_iff.1 h.idx).1 h1).trans h.idx, (k.old _ (Array.getElem?_eq_some_iff.1 h.fn).1 h2).trans h.fn, h.ne⟩
theorem TelE.start {W : World} {xb B : Nat} {c0 c1 c2 cv : Value} {xs : List PB.S93} (hx : IBox W xb c0 c1 c2 cv) (hR : Kd.R PB.k93 93 W B (fun _ => True) cv xs) : TelE W W xb B c0 c1 c2 xs := ⟨cv, hx, hR, Kp.self _ _⟩
theorem TelE.then {W w w' : World} {xb B : Nat} {c0 c1 c2 : Value} {xs ys : List PB.S93} (k : Kp W w (fun k => k = xb ∨ B ≤ k)) (h : TelE w w' xb B c0 c1 c2 ys) : TelE W w' xb B c0 c1 c2 ys := by
  obtain ⟨cv, h1, h2, h3⟩ := h
  exact ⟨cv, h1, h2, (k.trans h3).mono (fun i _ hi => by rcases hi with hi | hi <;> exact hi)⟩
theorem run_take (id d l : Int) (j : Nat) (hj : j < d.toNat + 1) : ((run id d).take (j + 1)).map (fun x => (⟨x, l⟩ : PB.S93)) = ((run id d).take j).map (fun x => (⟨x, l⟩ : PB.S93)) ++ [⟨id + (j : Int), l⟩] := by
  unfold run
  rw [List.take_add_one, List.getElem?_map, List.getElem?_range hj, List.map_append]
  rfl
set_option maxHeartbeats 16000000 in
set_option maxRecDepth 100000 in
theorem itells_calls (W : World) (ib fb xb B g n mb : Nat) (iv l : Int) (f : Int → Int) (c0 c1 c2 cv : Value) (xs : List PB.S93) (hb : CloB W ib fb xb g n mb) (hD : DupM W mb f) (hx : IBox W xb c0 c1 c2 cv) (hlt : xb < B) (hBs : B ≤ W.heap.size) (hib : ib < B ∧ fb < B ∧ mb < B) (hR : Kd.R PB.k93 93 W B (fun _ => True) cv xs) (hl : xs.length ≤ 900000000) (hiv : 0 ≤ iv ∧ iv ≤ 1000000) :
    Calls Tryz.prog 64 #[.int .i64 iv, .int .i64 l, .pointer (some ⟨ib, 0, none⟩), .pointer (some ⟨fb, 0, none⟩)] W fun e w' => e = .returned (.tuple #[]) ∧ TelE W w' xb B c0 c1 c2 (xs ++ (run iv (f iv)).map (fun d => (⟨d, l⟩ : PB.S93))) := by
  have HCB := Aside0.mk hb
  have HT0 : Aside0 (TelE W W xb B c0 c1 c2 (xs ++ ((run iv (f iv)).take 0).map (fun x => (⟨x, l⟩ : PB.S93)))) := ⟨by simpa using TelE.start hx hR⟩
  have hdb : 0 ≤ f iv ∧ f iv ≤ 1000000 := by obtain ⟨_, _, _, _, _, h⟩ := hD; exact h iv
  have hlk := hD.look iv ⟨by omega, by omega⟩
  obtain ⟨_, x1, _⟩ := hb.cells
  have hw1 : wrap32 iv = iv := by unfold wrap32; omega
  have hw2 : wrap64 (iv + f iv) = iv + f iv := by unfold wrap64; omega
  have hw3 : wrap64 (iv + f iv + 1) = iv + f iv + 1 := by unfold wrap64; omega
  obtain ⟨m, hm⟩ : ∃ m, m = (f iv).toNat + 1 := ⟨_, rfl⟩
  have hmz : (m : Int) = f iv + 1 := by omega
  have HM := Aside0.mk hm
  clear hb hD hx hR hm
  go_enter Tryz.func64, Tryz.ntmps64
  go_wp2_with fail
  go_loopg [7] m (fun kq v7 w' => ∃ (j : Nat), v7 = .int .i64 (iv + (j : Int)) ∧ Aside0 (j + kq = m) ∧ Aside0 (TelE W w' xb B c0 c1 c2 (xs ++ ((run iv (f iv)).take j).map (fun x => (⟨x, l⟩ : PB.S93)))))
  case atStart => exact ⟨0, by simp, ⟨by omega⟩, HT0⟩
  case round =>
    clear HT0 hlk
    obtain ⟨j, rfl, HJ, HT⟩ := hrel
    have hj := HJ.out
    by_cases hjl : j < m
    · have hjz : iv + (j : Int) < iv + f iv + 1 := by omega
      have hw4 : wrap64 (iv + (j : Int) + 1) = iv + ((j + 1 : Nat) : Int) := by unfold wrap64; omega
      obtain ⟨cw, i1, i2, i3⟩ := HT.out
      obtain ⟨_, _, x2⟩ := (HCB.out.kept i3 (by have := HCB.out.ne; omega) (by have := HCB.out.ne; omega)).cells
      have hll : (xs ++ ((run iv (f iv)).take j).map (fun x => (⟨x, l⟩ : PB.S93))).length ≤ 1000000000 := by simp; omega
      have HTL := Aside0.mk (itell_calls wr xb B (iv + (j : Int)) l c0 c1 c2 cw _ i1 hlt (by have := i3.size; omega) i2 hll)
      have HI3 := Aside0.mk i3
      have HRT := Aside0.mk (run_take iv (f iv) l j (by have := HM.out; omega))
      clear i1 i2 i3 hll
      cases gk with
      | zero => omega
      | succ kz =>
      go_wp2_with (go_at_call 43; refine HTL.out.mono ?_; rintro e_ w2 ⟨rfl, hT⟩; have HT2 := Aside0.mk hT; clear hT)
      go_roundg kz
      case measure => omega
      case rel => exact ⟨j + 1, congrArg (Value.int .i64) (by first | omega | exact hw4), ⟨by omega⟩, ⟨by rw [HRT.out, ← List.append_assoc]; exact TelE.then (xs := []) HI3.out HT2.out⟩⟩
    · have hjz : ¬ iv + (j : Int) < iv + f iv + 1 := by omega
      have hje : j = (run iv (f iv)).length := by rw [run_len]; have := HM.out; omega
      go_wp2_with fail
      go_end0
      have h := HT.out
      rw [List.take_of_length_le (by omega)] at h
      exact ⟨rfl, h⟩
def CbI (W w' : World) (xb : Nat) (c0 c1 c2 : Value) (xs : List PB.S93) : Prop := ∃ cv, IBox w' xb c0 c1 c2 cv ∧ Kd.R PB.k93 93 w' W.heap.size (fun _ => True) cv xs ∧ Kp W w' (fun k => k = xb)
theorem CbI.drewN {W w' : World} {xb : Nat} {c0 c1 c2 : Value} {xs : List PB.S93} (h : CbI W w' xb c0 c1 c2 xs) (q : Nat) : CbI W (w'.drewN q) xb c0 c1 c2 xs := by
  obtain ⟨cv, h1, h2, h3⟩ := h
  exact ⟨cv, h1.step rfl, Kd.R_drewN h2 _, h3.drewN _⟩
theorem CbI.tell {W w' w2 : World} {xb : Nat} {c0 c1 c2 : Value} {xs : List PB.S93} (hk : Kp W w' (fun k => k = xb)) (h : TelE w' w2 xb W.heap.size c0 c1 c2 xs) : CbI W w2 xb c0 c1 c2 xs := by
  obtain ⟨cv, h1, h2, h3⟩ := h
  exact ⟨cv, h1, h2, (hk.trans h3).mono (fun i hi h => by rcases h with h | h | h; exact h; exact h; omega)⟩
theorem callsAt_snoc (f : Int → Int) (l : List (Int × Int)) (x : Int × Int) : callsAt f (l ++ [x]) = callsAt f l ++ (run x.1 (f x.1)).map (fun d => (⟨d, x.2⟩ : PB.S93)) := by simp [callsAt]
theorem callsAt_len (f : Int → Int) (M : Nat) (hf : ∀ k, 0 ≤ f k ∧ f k ≤ (M : Int)) : ∀ l : List (Int × Int), (callsAt f l).length ≤ l.length * (M + 1)
  | [] => by simp [callsAt]
  | x :: l => by
    have ih := callsAt_len f M hf l
    have e : (callsAt f (x :: l)).length = (run x.1 (f x.1)).length + (callsAt f l).length := by simp [callsAt]
    have h1 := (hf x.1).2
    rw [e, run_len, List.length_cons, Nat.add_mul, Nat.one_mul]
    omega
set_option maxHeartbeats 16000000 in
set_option maxRecDepth 100000 in
theorem icb_calls (W : World) (g ib fb xb mb M : Nat) (s : DA) (L : Keys) (f : Int → Int) (t : ByteArray) (c0 c1 c2 : Value) (X : IxW W g s mb L f) (KB_ : KB L) (C_ : Cln t) (hsz : t.size ≤ 1000000000) (hb : CloB W ib fb xb g s.n mb) (hx : IBox W xb c0 c1 c2 (.slice none 0 0)) (hgx : g ≠ xb) (hf : ∀ k, 0 ≤ f k ∧ f k ≤ (M : Int)) (hM : (t.size + 1) * (M + 1) ≤ 800000000) :
    Calls Tryz.prog 63 #[.slice (some ⟨g, 0, none⟩) s.n s.n, .string t, .func (Fn.func 64) #[] #[.pointer (some ⟨ib, 0, none⟩), .pointer (some ⟨fb, 0, none⟩)]] W fun e w' => e = .returned (.tuple #[]) ∧ CbI W w' xb c0 c1 c2 (callsAt f (hitsN L t)) := by
  have HA0 := Aside0.mk X.arr
  have HX0 := Aside0.mk X
  have HKB := Aside0.mk KB_
  have HCB := Aside0.mk hb
  have G := Aside0.mk X.good
  have C := Aside0.mk C_
  have big := X.arr.big
  have hn := X.pos
  have hxl := hx.lt
  have HBI : Aside0 (ib < W.heap.size ∧ fb < W.heap.size ∧ mb < W.heap.size) := ⟨(Array.getElem?_eq_some_iff.1 hb.idx).1, (Array.getElem?_eq_some_iff.1 hb.fn).1, X.dup.lt⟩
  have HF := Aside0.mk hf
  have HC0 : Aside0 (CbI W W xb c0 c1 c2 []) := ⟨⟨_, hx, Kd.R_nil _ _ _ _ _, Kp.self _ _⟩⟩
  clear X KB_ C_ hx hb hf
  go_enter Tryz.func63, Tryz.ntmps63
  go_wp2_with fail
  go_loopg [6, 7, 9, 15] t.size (fun kq v6 v7 v9 v15 w' => ∃ (i q : Nat) (p : Int) (xs : List PB.S93), v6 = .int .i64 p ∧ v7 = .int .i64 (q : Int) ∧ v15 = .int .i64 (i : Int) ∧ Aside0 (i + kq = t.size) ∧ Aside0 (Sk s L (bs t) i q) ∧ Aside0 (xs = callsAt f (hitsTo L (bs t) i)) ∧ Aside0 (CbI W w' xb c0 c1 c2 xs))
  case atStart => exact ⟨0, 0, 0, [], rfl, rfl, rfl, ⟨by omega⟩, ⟨Sk.start _ _ _⟩, ⟨rfl⟩, HC0⟩
  case round =>
    clear HC0
    obtain ⟨i, q, p, xs, rfl, rfl, rfl, HI, HS, HV, HCI⟩ := hrel
    have hxs : xs.length ≤ 800000000 := by
      rw [HV.out]
      refine Nat.le_trans (callsAt_len f M HF.out _) (Nat.le_trans (Nat.mul_le_mul_right _ (Nat.le_trans (hits_len L (bs t) i) ?_)) hM)
      have := HI.out
      omega
    have HA : Aside0 (Arr wr g s) := ⟨HA0.out.step (by obtain ⟨_, _, _, hk⟩ := HCI.out; exact hk.old g HA0.out.lt hgx)⟩
    have hi := HI.out
    by_cases hlt : i < t.size
    · have hiz : (i : Int) < (t.size : Int) := by omega
      have hil : i < (bs t).length := by rw [bs_len]; exact hlt
      have h3 := (HS.out.told G.out C.out).2.2
      have hq : q < s.n := HS.out.lt hn
      have hcd : (bs t).getD i 0 = ((t[i]'hlt).toNat : Int) := bs_at t i hlt
      have hc0 := C.out _ (List.getElem_mem hil)
      rw [bs_get t i hlt] at hc0
      have hc1 := hc0.1
      have hc2 := hc0.2
      have hcn : (((t[i]'hlt).toNat : Int) == 0) = false := by rw [beq_eq_false_iff_ne]; omega
      have hi32 := HA.out.i32 q hq
      obtain ⟨b, hb⟩ : ∃ b : Nat, s.B q = (b : Int) := ⟨(s.B q).toNat, by omega⟩
      have cb : wr.cell? ⟨g, q * 2, none⟩ = some (.int .i32 (b : Int)) := (HA.out.base q hq).trans (by rw [hb])
      obtain ⟨r, hr⟩ : ∃ r : Nat, b + (t[i]'hlt).toNat = r := ⟨_, rfl⟩
      have HR : Aside0 (s.B q + (bs t).getD i 0 = (r : Int)) := ⟨by omega⟩
      have hqz : (q : Int) < (s.n : Int) := by omega
      have hr0 : 0 ≤ (r : Int) := by omega
      have hsum := sum_nat b (t[i]'hlt).toNat r (by omega) (by omega) hr
      have hbw := wrap_nat b (by omega)
      clear hc0 hb hcd h3 hi32
      go_upto_region 7 with fail
      have hw := hsum
      have hwb := hbw
      clear hsum hbw
      go_quiet (fail)
      clear hw hwb
      by_cases hrn : r < s.n
      · have hrz : (r : Int) < (s.n : Int) := by omega
        have cr : wr.cell? ⟨g, r * 2 + 1, none⟩ = _ := HA.out.chk r hrn
        obtain ⟨cv, hcv⟩ : ∃ cv, s.C r = cv := ⟨_, rfl⟩
        rw [hcv] at cr
        have hb3 := HA.out.i32 r hrn
        rw [hcv] at hb3
        have hb4 := hb3.2.2.1
        have hb5 := hb3.2.2.2
        clear hb3
        have HCV := Aside0.mk hcv
        clear hcv
        by_cases hcq : cv = (q : Int)
        · have HC2 := Aside0.mk hcq
          subst hcq
          have hst : s.step q ((bs t).getD i 0) = some r := by
            have := step_on (s := s) (q := q) (c := (bs t).getD i 0) (by rw [HR.out]; exact hrz) (by rw [HR.out, Int.toNat_natCast]; exact HCV.out)
            rw [this, HR.out, Int.toNat_natCast]
          have HS2 := Aside0.mk (HS.out.go hil hst)
          clear hst
          have h3 := (HS2.out.told G.out C.out).2.2
          have hi32 := HA.out.i32 r hrn
          obtain ⟨b2, hb2⟩ : ∃ b2 : Nat, s.B r = (b2 : Int) := ⟨(s.B r).toNat, by omega⟩
          have cb2 : wr.cell? ⟨g, r * 2, none⟩ = some (.int .i32 (b2 : Int)) := (HA.out.base r hrn).trans (by rw [hb2])
          have hb2n : b2 ≤ 2147483647 := by omega
          have HB2 := Aside0.mk hb2
          have HH : Aside0 (hitAt L (bs t) i = s.term r) := ⟨HS2.out.hit G.out C.out⟩
          clear h3 hi32 hb2
          cases gk with
          | zero => omega
          | succ kz =>
          by_cases hbn : b2 < s.n
          · have hbz : (b2 : Int) < (s.n : Int) := by omega
            have cc : wr.cell? ⟨g, b2 * 2 + 1, none⟩ = _ := HA.out.chk b2 hbn
            have cdv : wr.cell? ⟨g, b2 * 2, none⟩ = _ := HA.out.base b2 hbn
            have hi2 := HA.out.i32 b2 hbn
            obtain ⟨cw, hcw⟩ : ∃ cw, s.C b2 = cw := ⟨_, rfl⟩
            obtain ⟨dv, hdv⟩ : ∃ dv, s.B b2 = dv := ⟨_, rfl⟩
            rw [hcw] at cc hi2
            rw [hdv] at cdv hi2
            obtain ⟨i1, i2, i3, i4⟩ := hi2
            have ht1 : s.term r = if cw = (r : Int) ∧ dv ≤ 0 then some (-dv) else none := by
              by_cases e1 : cw = (r : Int)
              · by_cases e2 : dv ≤ 0
                · rw [if_pos ⟨e1, e2⟩, term_on (by rw [HB2.out]; exact hbz) (by rw [HB2.out, Int.toNat_natCast, hcw]; exact e1) (by rw [HB2.out, Int.toNat_natCast, hdv]; exact e2), HB2.out, Int.toNat_natCast, hdv]
                · rw [if_neg (fun e => e2 e.2), term_no (by rw [HB2.out, Int.toNat_natCast, hdv]; omega)]
              · rw [if_neg (fun e => e1 e.1), term_off (by rw [HB2.out, Int.toNat_natCast, hcw]; exact e1)]
            rw [ht1] at HH
            clear ht1 hcw hdv
            by_cases hcq2 : cw = (r : Int)
            · subst hcq2
              by_cases hd : dv ≤ 0
              · rw [if_pos ⟨rfl, hd⟩] at HH
                have HCB2 := Aside0.mk (HCI.out.drewN nq)
                obtain ⟨cv, g1, g2, g3⟩ := HCB2.out
                have HG3 := Aside0.mk g3
                have hbd : 0 ≤ -dv ∧ -dv ≤ 1000000 := (HKB.out.hits (bs t) (i + 1) (-dv, (i : Int) + 1) (by rw [hits_some HH.out]; simp)).1
                have HT := Aside0.mk (itells_calls _ ib fb xb W.heap.size g s.n mb (-dv) ((i : Int) + 1) f c0 c1 c2 cv xs (HCB.out.kept g3 (by have := HCB.out.ne; omega) (by have := HCB.out.ne; omega)) (HX0.out.dup.step (g3.old mb HBI.out.2.2 (by have := HCB.out.ne; omega))) g1 hxl g3.size HBI.out g2 (by omega) hbd)
                clear g1 g2 g3 hbd
                go_wp2_with (go_at_call 64; refine HT.out.mono ?_; rintro e_ w2 ⟨rfl, hT⟩; have HT2 := Aside0.mk hT; clear hT)
                go_roundg kz
                case measure => omega
                case rel => exact ⟨i + 1, r, (q : Int), _, rfl, rfl, congrArg (Value.int .i64) (by omega), ⟨by omega⟩, HS2, ⟨by rw [HV.out, hits_some HH.out, callsAt_snoc]⟩, ⟨CbI.tell HG3.out HT2.out⟩⟩
              · rw [if_neg (fun e => hd e.2)] at HH
                have hdz : dv > 0 := by omega
                go_wp2_with fail
                go_roundg kz
                case measure => omega
                case rel => exact ⟨i + 1, r, (q : Int), xs, rfl, rfl, congrArg (Value.int .i64) (by omega), ⟨by omega⟩, HS2, ⟨by rw [HV.out]; exact congrArg (callsAt f) (hits_none HH.out).symm⟩, ⟨HCI.out.drewN _⟩⟩
            · rw [if_neg (fun e => hcq2 e.1)] at HH
              have hcq3 : (cw == (r : Int)) = false := by rw [beq_eq_false_iff_ne]; exact hcq2
              go_wp2_with fail
              go_roundg kz
              case measure => omega
              case rel => exact ⟨i + 1, r, (q : Int), xs, rfl, rfl, congrArg (Value.int .i64) (by omega), ⟨by omega⟩, HS2, ⟨by rw [HV.out]; exact congrArg (callsAt f) (hits_none HH.out).symm⟩, ⟨HCI.out.drewN _⟩⟩
          · have hbz : ¬ (b2 : Int) < (s.n : Int) := by omega
            rw [term_far (by rw [HB2.out]; omega)] at HH
            go_wp2_with fail
            go_roundg kz
            case measure => omega
            case rel => exact ⟨i + 1, r, (q : Int), xs, rfl, rfl, congrArg (Value.int .i64) (by omega), ⟨by omega⟩, HS2, ⟨by rw [HV.out]; exact congrArg (callsAt f) (hits_none HH.out).symm⟩, ⟨HCI.out.drewN _⟩⟩
        · have hst : s.step q ((bs t).getD i 0) = none := step_off (by rw [HR.out, Int.toNat_natCast, HCV.out]; exact hcq)
          have HX := Aside0.mk (HS.out.stop G.out C.out hil hst)
          clear hst
          have hcq2 : (cv == (q : Int)) = false := by rw [beq_eq_false_iff_ne]; exact hcq
          have hcq3 : (cv != (q : Int)) = true := by rw [bne, hcq2]; rfl
          have hV1 := HV.out.trans (congrArg (callsAt f) (hits_stop HX.out (show i ≤ (bs t).length by omega)).symm)
          have HV1 := Aside0.mk hV1
          clear hV1
          go_wp2_with fail
          go_end0
          refine ⟨rfl, ?_⟩
          have h := HCI.out.drewN nq
          rw [HV1.out] at h
          exact h
      · have hrz : ¬ (r : Int) < (s.n : Int) := by omega
        have hst : s.step q ((bs t).getD i 0) = none := step_far (by rw [HR.out]; omega)
        have HX := Aside0.mk (HS.out.stop G.out C.out hil hst)
        clear hst
        have hV1 := HV.out.trans (congrArg (callsAt f) (hits_stop HX.out (show i ≤ (bs t).length by omega)).symm)
        have HV1 := Aside0.mk hV1
        clear hV1
        go_wp2_with fail
        go_end0
        refine ⟨rfl, ?_⟩
        have h := HCI.out.drewN nq
        rw [HV1.out] at h
        exact h
    · have hiz : ¬ (i : Int) < (t.size : Int) := by omega
      obtain rfl : i = t.size := by omega
      go_wp2_with fail
      go_end0
      refine ⟨rfl, ?_⟩
      have h := HCI.out
      rw [HV.out, ← bs_len] at h
      exact h
end Go.Proofs.YtaejkbjepbifcabGreatDoor.Da
namespace Go.Proofs.YtaejkbjepbifcabGreatDoor.Da
open Go.RowKit Go.Maps Go.ChangeShapes Go.WideMaps Go.Proofs.YtaejkbjepbifcabGreatDoorW.PrintWords
set_option linter.unusedVariables false
set_option linter.unusedSimpArgs false
structure IA where
  f0 : List Int
  f1 : List Int
  f2 : List (List Int)
  f3 : List PB.S93
def kIA : Kd IA := Kd.iso (Kd.pair (Kd.slice 3 (Kd.int .i64)) (Kd.pair (Kd.slice 3 (Kd.int .i64)) (Kd.pair (Kd.slice 38 (Kd.slice 3 (Kd.int .i64))) (Kd.slice 93 PB.k93)))) (fun x : IA => (x.f0, x.f1, x.f2, x.f3))
theorem kIA_mkM (w : World) (base : Nat) (ok : Nat → Prop) (x : IA) {v0 v1 v2 v3 : Value} (g0 : (Kd.int .i64).R 3 w base ok v0 x.f0) (g1 : (Kd.int .i64).R 3 w base ok v1 x.f1) (g2 : (Kd.slice 3 (Kd.int .i64)).R 38 w base ok v2 x.f2) (g3 : PB.k93.R 93 w base ok v3 x.f3) : kIA.M w base ok x [v0, v1, v2, v3] :=
  ⟨[v0], [v1, v2, v3], rfl, ⟨v0, rfl, g0⟩, ⟨[v1], [v2, v3], rfl, ⟨v1, rfl, g1⟩, ⟨[v2], [v3], rfl, ⟨v2, rfl, g2⟩, ⟨v3, rfl, g3⟩⟩⟩⟩
theorem ia_info : (Tryz.prog.info? 42).map (fun i => (i.zero, i.size, i.bytes)) = some (some (.agg #[.slice none 0 0, .slice none 0 0, .slice none 0 0, .slice none 0 0]), 4, 96) := by kernel_rfl
def ians (L : Keys) (f : Int → Int) (t : ByteArray) : IA := ⟨idsAt L f t, (hitsN L t).map (·.2), listsAt L f t, callsAt f (hitsN L t)⟩
theorem CbI.lower {W w w' : World} {xb : Nat} {c0 c1 c2 : Value} {xs : List PB.S93} (k : Kp W w (fun _ => False)) (h : CbI w w' xb c0 c1 c2 xs) : CbI W w' xb c0 c1 c2 xs := by
  obtain ⟨cv, h1, h2, h3⟩ := h
  exact ⟨cv, h1, Kd.R_lower h2 k.size, (k.trans h3).mono (fun i _ hi => hi.resolve_left id)⟩
set_option maxHeartbeats 16000000 in
set_option maxRecDepth 100000 in
theorem icpb_calls (W : World) (g xb mb M : Nat) (s : DA) (L : Keys) (f : Int → Int) (t : ByteArray) (c0 c1 c2 : Value) (X : IxW W g s mb L f) (KB_ : KB L) (C_ : Cln t) (hsz : t.size ≤ 1000000000) (hx : IBox W xb c0 c1 c2 (.slice none 0 0)) (hgx : g ≠ xb ∧ mb ≠ xb) (hf : ∀ k, 0 ≤ f k ∧ f k ≤ (M : Int)) (hM : (t.size + 1) * (M + 1) ≤ 800000000) :
    Calls Tryz.prog 42 #[.agg #[.slice (some ⟨g, 0, none⟩) s.n s.n, .map (some mb)], .string t, .func (Fn.func 43) #[] #[.pointer (some ⟨xb, 0, none⟩)]] W fun e w' => e = .returned (.tuple #[]) ∧ CbI W w' xb c0 c1 c2 (callsAt f (hitsN L t)) := by
  have hmf : ∀ (fn : Fn) (first cap : Array Value) (w : World), (Instr.makeFunc fn first cap).run Tryz.prog w = .ok (.func fn first cap) w := fun _ _ _ _ => rfl
  have HXl := Aside0.mk hx.lt
  have hk1 : Kp W ((W.alloc (.cells #[.slice (some ⟨g, 0, none⟩) s.n s.n, .map (some mb)] 53)).alloc (.cells #[.func (Fn.func 43) #[] #[.pointer (some ⟨xb, 0, none⟩)]] 94)) (fun _ => False) := ((Kp.self W _).alloc _).alloc _
  have e1 : (W.alloc (.cells #[.slice (some ⟨g, 0, none⟩) s.n s.n, .map (some mb)] 53)).heap.size = W.heap.size + 1 := Own.size_alloc _ _
  have b1 := (below_alloc (Below.refl _ (W.alloc (.cells #[.slice (some ⟨g, 0, none⟩) s.n s.n, .map (some mb)] 53))) (.cells #[.func (Fn.func 43) #[] #[.pointer (some ⟨xb, 0, none⟩)]] 94)).block W.heap.size (by omega)
  have n1 := b1.trans (blk_new W _)
  have n2 := blk_new (W.alloc (.cells #[.slice (some ⟨g, 0, none⟩) s.n s.n, .map (some mb)] 53)) (.cells #[.func (Fn.func 43) #[] #[.pointer (some ⟨xb, 0, none⟩)]] 94)
  rw [e1] at n2
  obtain ⟨w1, hw1⟩ : ∃ w1, w1 = (W.alloc (.cells #[.slice (some ⟨g, 0, none⟩) s.n s.n, .map (some mb)] 53)).alloc (.cells #[.func (Fn.func 43) #[] #[.pointer (some ⟨xb, 0, none⟩)]] 94) := ⟨_, rfl⟩
  rw [← hw1] at hk1 n1 n2
  have HCB : Aside0 (CloB w1 W.heap.size (W.heap.size + 1) xb g s.n mb) := ⟨⟨n1, n2, by have := HXl.out; omega⟩⟩
  have hcc := Aside0.mk (icb_calls w1 g W.heap.size (W.heap.size + 1) xb mb M s L f t c0 c1 c2 (X.kept hk1 id id) KB_ C_ hsz HCB.out (hx.step (hk1.old _ hx.lt id)) hgx.1 hf hM)
  have x0 := HCB.out.cells.1
  have HK1 := Aside0.mk hk1
  clear hk1 e1 b1 n1 n2 X KB_ C_ hx hf
  go_enter Tryz.func42, Tryz.ntmps42
  go_upto_region 1 with fail
  rw [← hw1]
  clear hw1
  go_wp2_with (go_at_call 63; refine hcc.out.mono ?_; rintro e_ w2 ⟨rfl, hC⟩; have HC := Aside0.mk hC; clear hC)
  go_end0
  exact ⟨rfl, HC.out.lower HK1.out⟩
theorem iask1_idle (p q : Addr) (w : World) :
    CallsD Tryz.prog 39 #[.pointer (some p), .pointer (some q)] .returning w fun e u' w' => e = .returned (.tuple #[]) ∧ u' = .returning ∧ w' = w := by
  refine callsD_of_wpS Tryz.func39 rfl fun c₀ cs hu => ?_
  apply wpS_seq
  apply wpS_region
  simp [wpOpsS, go_sem, recoverD, hu, Tryz.ntmps39, Exit.thenS]
  refine wpS_cond (t := false) (by simp [Act.eval, Array.replicate]) ?_
  simp only [Bool.false_eq_true, if_false]
  refine wpS_of_wp (wp_skip ?_)
  cases c₀
  simp_all [bodyPostS, results, Tryz.results39]
structure JskS (W w : World) (g n mb : Nat) (L : Keys) (f : Int → Int) (ov : Value) (l : List ByteArray) : Prop where
  kp : Kp W w (fun _ => False)
  b : w.heap[W.heap.size]? = some (.cells #[.slice (some ⟨g, 0, none⟩) n n, .map (some mb)] 53 (0, 0))
  o : w.heap[W.heap.size + 1]? = some (.cells #[ov] 26 (0, 0))
  e : w.heap[W.heap.size + 1 + 1]? = some (.cells #[.int .i64 0] 3 (0, 0))
  r : Kd.R kIA 42 w (W.heap.size + 3) (fun _ => True) ov (l.map (ians L f))
theorem jsks_start (W : World) (g n mb : Nat) (L : Keys) (f : Int → Int) : JskS W (((W.alloc (.cells #[.slice (some ⟨g, 0, none⟩) n n, .map (some mb)] 53)).alloc (.cells #[.slice none 0 0] 26)).alloc (.cells #[.int .i64 0] 3)) g n mb L f (.slice none 0 0) [] := by
  obtain ⟨w1, h1⟩ : ∃ w1, w1 = W.alloc (.cells #[.slice (some ⟨g, 0, none⟩) n n, .map (some mb)] 53) := ⟨_, rfl⟩
  have e1 : w1.heap.size = W.heap.size + 1 := by rw [h1]; exact Own.size_alloc _ _
  have n1 : w1.heap[W.heap.size]? = some (.cells #[.slice (some ⟨g, 0, none⟩) n n, .map (some mb)] 53 (0, 0)) := by rw [h1]; exact blk_new W _
  have k1 : Kp W w1 (fun _ => False) := by rw [h1]; exact (Kp.self W _).alloc _
  rw [← h1]
  obtain ⟨w2, h2⟩ : ∃ w2, w2 = w1.alloc (.cells #[.slice none 0 0] 26) := ⟨_, rfl⟩
  have e2 : w2.heap.size = W.heap.size + 1 + 1 := by rw [h2, Own.size_alloc, e1]
  have b2 := below_alloc (Below.refl _ w1) (.cells #[.slice none 0 0] 26)
  have n2 : w2.heap[W.heap.size + 1]? = some (.cells #[.slice none 0 0] 26 (0, 0)) := by rw [h2, ← e1]; exact blk_new w1 _
  rw [← h2] at b2 ⊢
  have b3 := below_alloc (Below.refl _ w2) (.cells #[.int .i64 0] 3)
  refine ⟨(k1.then b2).alloc _, (b3.block _ (by omega)).trans ((b2.block _ (by omega)).trans n1), (b3.block _ (by omega)).trans n2, by rw [← e2]; exact blk_new _ _, Kd.R_nil _ _ _ _ _⟩
def JskE (W w' : World) (L : Keys) (f : Int → Int) (ss : List ByteArray) (e : Ending) : Prop := ∃ ov, e = .returned (.tuple #[ov, .int .i64 0]) ∧ Kd.R kIA 42 w' W.heap.size (fun _ => True) ov (ss.map (ians L f)) ∧ Below W.heap.size W w'
structure MidI (W w : World) (g n mb : Nat) (L : Keys) (f : Int → Int) (ov : Value) (l : List ByteArray) (xb : Nat) (c0 c1 c2 cv : Value) : Prop where
  kp : Kp W w (fun _ => False)
  b : w.heap[W.heap.size]? = some (.cells #[.slice (some ⟨g, 0, none⟩) n n, .map (some mb)] 53 (0, 0))
  o : w.heap[W.heap.size + 1]? = some (.cells #[ov] 26 (0, 0))
  e : w.heap[W.heap.size + 1 + 1]? = some (.cells #[.int .i64 0] 3 (0, 0))
  r : Kd.R kIA 42 w (W.heap.size + 3) (fun k => k < xb) ov (l.map (ians L f))
  bx : IBox w xb c0 c1 c2 cv
  ge : W.heap.size + 3 ≤ xb
section
variable {W w w' : World} {g n mb : Nat} {L : Keys} {f : Int → Int} {ov : Value} {l : List ByteArray} {xb : Nat} {c0 c1 c2 cv : Value}
theorem MidI.start (h : JskS W w g n mb L f ov l) : MidI W (w.alloc (.cells #[.slice none 0 0, .slice none 0 0, .slice none 0 0, .slice none 0 0] 42)) g n mb L f ov l w.heap.size (.slice none 0 0) (.slice none 0 0) (.slice none 0 0) (.slice none 0 0) := by
  have hb := below_alloc (Below.refl w.heap.size w) (.cells #[.slice none 0 0, .slice none 0 0, .slice none 0 0, .slice none 0 0] 42)
  have l1 := (Array.getElem?_eq_some_iff.1 h.e).1
  exact ⟨h.kp.alloc _, (hb.block _ (by omega)).trans h.b, (hb.block _ (by omega)).trans h.o, (hb.block _ (by omega)).trans h.e, Kd.R_below (Kd.R_mono (Kd.R_bound h.r) (fun k hk => hk.2.2.1)) hb, blk_new _ _, by omega⟩
theorem MidI.below (h : MidI W w g n mb L f ov l xb c0 c1 c2 cv) (hb : Below w.heap.size w w') : MidI W w' g n mb L f ov l xb c0 c1 c2 cv := by
  have l1 := (Array.getElem?_eq_some_iff.1 h.e).1
  exact ⟨h.kp.then hb, (hb.block _ (by omega)).trans h.b, (hb.block _ (by omega)).trans h.o, (hb.block _ l1).trans h.e, Kd.R_below h.r hb, h.bx.step (hb.block _ h.bx.lt), h.ge⟩
theorem MidI.put (h : MidI W w g n mb L f ov l xb c0 c1 c2 cv) {d0 d1 d2 dv : Value} (i : Nat) (v : Value) (hb : IBox (w.setCell ⟨xb, i, none⟩ v) xb d0 d1 d2 dv) : MidI W (w.setCell ⟨xb, i, none⟩ v) g n mb L f ov l xb d0 d1 d2 dv := by
  have hg := h.ge
  exact ⟨h.kp.setNew _ _ (by show W.heap.size ≤ xb; omega), (Below.heap_setCell _ _ _ _ (by show _ ≠ xb; omega)).trans h.b, (Below.heap_setCell _ _ _ _ (by show _ ≠ xb; omega)).trans h.o, (Below.heap_setCell _ _ _ _ (by show _ ≠ xb; omega)).trans h.e, Kd.R_far h.r (fun k hk => by show k ≠ xb; omega) _, hb, h.ge⟩
theorem MidI.set0 (h : MidI W w g n mb L f ov l xb c0 c1 c2 cv) (v : Value) : MidI W (w.setCell ⟨xb, 0, none⟩ v) g n mb L f ov l xb v c1 c2 cv := h.put 0 v (h.bx.set0 v)
theorem MidI.set1 (h : MidI W w g n mb L f ov l xb c0 c1 c2 cv) (v : Value) : MidI W (w.setCell ⟨xb, 1, none⟩ v) g n mb L f ov l xb c0 v c2 cv := h.put 1 v (h.bx.set1 v)
theorem MidI.set2 (h : MidI W w g n mb L f ov l xb c0 c1 c2 cv) (v : Value) : MidI W (w.setCell ⟨xb, 2, none⟩ v) g n mb L f ov l xb c0 c1 v cv := h.put 2 v (h.bx.set2 v)
theorem MidI.idx (h : MidI W w g n mb L f ov l xb c0 c1 c2 cv) : w.cell? ⟨W.heap.size, 0, none⟩ = some (.slice (some ⟨g, 0, none⟩) n n) ∧ w.cell? ⟨W.heap.size, 1, none⟩ = some (.map (some mb)) := by
  have := h.b
  unfold World.cell?
  simp [this]
theorem MidI.cb (h : MidI W w g n mb L f ov l xb c0 c1 c2 cv) {dv : Value} (k : Kp w w' (fun k => k = xb)) (hb : IBox w' xb c0 c1 c2 dv) : MidI W w' g n mb L f ov l xb c0 c1 c2 dv := by
  have hg := h.ge
  have l1 := (Array.getElem?_eq_some_iff.1 h.e).1
  exact ⟨(h.kp.trans k).mono (fun i hi hx => by rcases hx with hx | hx; exact hx; omega), (k.old _ (by omega) (by omega)).trans h.b, (k.old _ (by omega) (by omega)).trans h.o, (k.old _ l1 (by omega)).trans h.e, Kd.R_step h.r (fun i hi hl => k.old i hl (by omega)), hb, h.ge⟩
theorem rowI_cb {α : Type} {k : Kd α} {e base : Nat} {v : Value} {xs : List α} (h : k.R e w base (fun k => xb < k) v xs) (kk : Kp w w' (fun k => k = xb)) : k.R e w' base (fun k => xb < k) v xs :=
  Kd.R_step h (fun i hi hl => kk.old i hl (by omega))
theorem rowI_new {α : Type} {k : Kd α} {e b base : Nat} {v : Value} {xs : List α} (h : k.R e w b (fun _ => True) v xs) (h1 : xb < b) (h2 : base ≤ b) : k.R e w base (fun k => xb < k) v xs :=
  Kd.R_lower (Kd.R_mono (Kd.R_bound h) (fun i hi => Nat.lt_of_lt_of_le h1 hi.2.1)) h2
theorem rowI_set {α : Type} {k : Kd α} {e base : Nat} {v : Value} {xs : List α} (h : k.R e w base (fun k => xb < k) v xs) (i : Nat) (u : Value) : k.R e (w.setCell ⟨xb, i, none⟩ u) base (fun k => xb < k) v xs :=
  Kd.R_far (p := ⟨xb, i, none⟩) h (fun k hk => by show k ≠ xb; omega) _
theorem MidI.done (h : MidI W w g n mb L f ov l xb c0 c1 c2 cv) {va : Value} {t : ByteArray} (hb : Below (W.heap.size + 3) w w') (hr : Kd.R kIA 42 w' (W.heap.size + 3) (fun _ => True) va (l.map (ians L f) ++ [ians L f t])) : JskS W (w'.setCell ⟨W.heap.size + 1, 0, none⟩ va) g n mb L f va (l ++ [t]) := by
  have hg := h.ge
  have hk : Kp W w' (fun _ => False) := ⟨Nat.le_trans h.kp.size hb.size, fun i hi hn => (hb.block i (by omega)).trans (h.kp.old i hi hn), h.kp.env.trans ⟨hb.os, hb.tape, hb.output⟩⟩
  refine ⟨hk.setNew _ _ (by show _ ≤ W.heap.size + 1; omega), ?_, ?_, ?_, ?_⟩
  · exact (Below.heap_setCell _ _ _ _ (by show _ ≠ W.heap.size + 1; omega)).trans ((hb.block _ (by omega)).trans h.b)
  · rw [setCell_heap ((hb.block _ (by omega)).trans h.o)]; rfl
  · exact (Below.heap_setCell _ _ _ _ (by show _ ≠ W.heap.size + 1; omega)).trans ((hb.block _ (by omega)).trans h.e)
  · rw [List.map_append]
    exact Kd.R_mono (Kd.R_far (p := ⟨W.heap.size + 1, 0, none⟩) (Kd.R_mono (Kd.R_bound hr) (ok' := fun k => k ≠ W.heap.size + 1) (fun k hk => by have := hk.2.1; omega)) (fun k hk => hk) _) (fun _ _ => trivial)
theorem MidI.out (h : MidI W w g n mb L f ov l xb c0 c1 c2 cv) : w.cell? ⟨W.heap.size + 1, 0, none⟩ = some ov ∧ w.frozen? ⟨W.heap.size + 1, 0, none⟩ = false := by
  have := h.o
  constructor
  · unfold World.cell?; simp [this]
  · unfold World.frozen?; simp [this]
theorem MidI.out2 (h : MidI W w g n mb L f ov l xb c0 c1 c2 cv) (hb : Below (W.heap.size + 3) w w') : w'.cell? ⟨W.heap.size + 1, 0, none⟩ = some ov ∧ w'.frozen? ⟨W.heap.size + 1, 0, none⟩ = false := by
  have := (hb.block (W.heap.size + 1) (by omega)).trans h.o
  constructor
  · unfold World.cell?; simp [this]
  · unfold World.frozen?; simp [this]
theorem JskS.outs (h : JskS W w g n mb L f ov l) : w.cell? ⟨W.heap.size + 1, 0, none⟩ = some ov ∧ w.frozen? ⟨W.heap.size + 1, 0, none⟩ = false ∧ w.cell? ⟨W.heap.size + 1 + 1, 0, none⟩ = some (.int .i64 0) ∧ w.frozen? ⟨W.heap.size + 1 + 1, 0, none⟩ = false := by
  have h1 := h.o
  have h2 := h.e
  unfold World.cell? World.frozen?
  refine ⟨?_, ?_, ?_, ?_⟩
  · simp [h1]
  · simp [h1]
  · simp [h2]
  · simp [h2]
theorem JskS.fin (h : JskS W w g n mb L f ov l) : JskE W ((w.setCell ⟨W.heap.size + 1, 0, none⟩ ov).setCell ⟨W.heap.size + 1 + 1, 0, none⟩ (.int .i64 0)) L f l (.returned (.tuple #[ov, .int .i64 0])) := by
  refine ⟨ov, rfl, ?_, ((kp_below h.kp).setCell (Nat.le_succ _) _).setCell (by show W.heap.size ≤ W.heap.size + 1 + 1; omega) _⟩
  have h1 := Kd.R_mono (Kd.R_bound h.r) (ok' := fun k => W.heap.size + 3 ≤ k) (fun k hk => hk.2.1)
  exact Kd.R_mono (Kd.R_lower (Kd.R_far (p := ⟨W.heap.size + 1 + 1, 0, none⟩) (Kd.R_far (p := ⟨W.heap.size + 1, 0, none⟩) h1 (fun k hk => by show k ≠ W.heap.size + 1; omega) _) (fun k hk => by show k ≠ W.heap.size + 1 + 1; omega) _) (by omega)) (fun _ _ => trivial)
theorem JskS.sl (h : JskS W w g n mb L f ov l) : ∃ A c, ov = .slice A l.length c := by
  obtain ⟨A, c, e⟩ := Kd.R_slice h.r
  exact ⟨A, c, by rw [e, List.length_map]⟩
end
set_option maxHeartbeats 16000000 in
set_option maxRecDepth 100000 in
theorem jsk_calls (W : World) (g mb ci M : Nat) (s : DA) (L : Keys) (f : Int → Int) (ss : List ByteArray) (A : Option Addr) (X : IxW W g s mb L f) (KB_ : KB L) (hC : ∀ t ∈ ss, Cln t ∧ t.size ≤ 1000000000 ∧ (t.size + 1) * (M + 1) ≤ 800000000) (hf : ∀ k, 0 ≤ f k ∧ f k ≤ (M : Int)) (hr : Kd.C Kd.string W A ss.length ss) (hfew : ss.length ≤ 1000000) :
    Calls Tryz.prog 22 #[.agg #[.slice (some ⟨g, 0, none⟩) s.n s.n, .map (some mb)], .slice A ss.length ci] W fun e w' => JskE W w' L f ss e := by
  have hmf : ∀ (fn : Fn) (first cap : Array Value) (w : World), (Instr.makeFunc fn first cap).run Tryz.prog w = .ok (.func fn first cap) w := fun _ _ _ _ => rfl
  have HX0 := Aside0.mk X
  have HKB := Aside0.mk KB_
  have HC := Aside0.mk hC
  have HFB := Aside0.mk hf
  have HR := Aside0.mk hr
  clear X KB_ hC hf hr
  go_enter_defers Tryz.func22, Tryz.ntmps22
  go_wp2_with fail
  go_loopg [7, 8, 12] ss.length (fun kq v7 v8 v12 w' => ∃ (j : Nat) (ov : Value), v12 = .int .i64 (j : Int) ∧ Aside0 (j + kq = ss.length) ∧ Aside0 (JskS W w' g s.n mb L f ov (ss.take j)))
  case atStart => exact ⟨0, _, rfl, ⟨by omega⟩, ⟨jsks_start W g s.n mb L f⟩⟩
  case round =>
    obtain ⟨j, ov, rfl, HJ, HS⟩ := hrel
    have hj := HJ.out
    by_cases hjl : j < ss.length
    · have hjz : (j : Int) < (ss.length : Int) := by omega
      obtain ⟨ad, hA, hcell⟩ := str_cell HR.out j hjl
      subst hA
      have hcj : wr.cell? (ad.add j) = some (.string (ss.getD j ByteArray.empty)) := (World.cell?_of_block (HS.out.kp.old _ (cell_lt hcell) id)).trans hcell
      have hm : ss.getD j ByteArray.empty ∈ ss := getD_mem _ hjl
      obtain ⟨ht1, ht2, ht3⟩ := HC.out _ hm
      obtain ⟨t, ht⟩ : ∃ t, ss.getD j ByteArray.empty = t := ⟨_, rfl⟩
      rw [ht] at hcj ht1 ht2 ht3
      have HT1 := Aside0.mk ht1
      have HT3 := Aside0.mk ht3
      have HT := Aside0.mk ht
      clear ht1 ht ht3 hm hcell
      go_upto_region 6 with fail
      obtain ⟨w1, hw1, hm1⟩ : ∃ w1, w1 = _ ∧ MidI W w1 g s.n mb L f ov (ss.take j) wr.heap.size _ _ _ _ := ⟨_, rfl, MidI.start HS.out⟩
      rw [← hw1]
      have hxb : W.heap.size + 3 ≤ wr.heap.size := hm1.ge
      have hgm : g < wr.heap.size ∧ mb < wr.heap.size := by have := HS.out.kp.size; have := HX0.out.arr.lt; have := HX0.out.dup.lt; omega
      obtain ⟨xb, hxbe⟩ : ∃ xb, wr.heap.size = xb := ⟨_, rfl⟩
      rw [hxbe] at hm1 hxb hgm ⊢
      have HM := Aside0.mk hm1
      have hF := Aside0.mk (isearch_calls w1 g mb s L f t (HX0.out.kept hm1.kp id id) HKB.out HT1.out ht2)
      obtain ⟨b0, b1⟩ := hm1.idx
      have HXB : Aside0 (wr.heap.size = xb) := ⟨hxbe⟩
      have HGM := Aside0.mk hgm
      clear hw1 hm1 hxbe hgm
      go_upto_region 7 with (go_at_call 40; refine hF.out.mono ?_; rintro e_ w2 ⟨va, rfl, hr, hB⟩; have hm2 := HM.out.below hB; have HM2 := Aside0.mk hm2; obtain ⟨k0, k1, k2, k3⟩ := hm2.bx.cells; have z0 := hm2.bx.froz 0; have HRA := Aside0.mk (rowI_new (base := W.heap.size + 3) hr HM.out.bx.lt (by have := HM.out.bx.lt; omega)); obtain ⟨Aa, na, rfl⟩ := Kd.R_slice hr; clear hB hm2 hr)
      obtain ⟨w3, hw3, hm3, hra3⟩ : ∃ w3, w3 = w2.setCell ⟨xb, 0, none⟩ (.slice Aa (idsAt L f t).length na) ∧ MidI W w3 g s.n mb L f ov (ss.take j) xb _ _ _ _ ∧ Kd.R (Kd.int .i64) 3 w3 (W.heap.size + 3) (fun k => xb < k) (.slice Aa (idsAt L f t).length na) (idsAt L f t) := ⟨_, rfl, HM2.out.set0 _, rowI_set HRA.out _ _⟩
      rw [← hw3]
      clear hw3 b0 b1
      have HM3 := Aside0.mk hm3
      have HRA3 := Aside0.mk hra3
      have hF := Aside0.mk (icp_calls w3 g mb s L f t (HX0.out.kept hm3.kp id id) HKB.out HT1.out ht2)
      obtain ⟨b0, b1⟩ := hm3.idx
      clear HM2 hm3 hra3 k0 k1 k2 k3 z0 HM HRA
      go_upto_region 8 with (go_at_call 41; refine hF.out.mono ?_; rintro e_ w4 ⟨v1, v2, rfl, hr1, hr2, hB⟩; have hm4 := HM3.out.below hB; have HM4 := Aside0.mk hm4; obtain ⟨k0, k1, k2, k3⟩ := hm4.bx.cells; have z1 := hm4.bx.froz 1; have z2 := hm4.bx.froz 2; have HRA4 := Aside0.mk (Kd.R_below HRA3.out hB); have HR1 := Aside0.mk (rowI_new (base := W.heap.size + 3) hr1 HM3.out.bx.lt (by have := HM3.out.bx.lt; omega)); have HR2 := Aside0.mk (rowI_new (base := W.heap.size + 3) hr2 HM3.out.bx.lt (by have := HM3.out.bx.lt; omega)); obtain ⟨A1, n1, rfl⟩ := Kd.R_slice hr1; obtain ⟨A2, n2, rfl⟩ := Kd.R_slice hr2; clear hB hm4 hr1 hr2)
      obtain ⟨w5, hw5, hm5, hra5, hrb5, hrc5⟩ : ∃ w5, w5 = (w4.setCell ⟨xb, 1, none⟩ (.slice A1 (hitsN L t).length n1)).setCell ⟨xb, 2, none⟩ (.slice A2 (listsAt L f t).length n2) ∧ MidI W w5 g s.n mb L f ov (ss.take j) xb (.slice Aa (idsAt L f t).length na) (.slice A1 (hitsN L t).length n1) (.slice A2 (listsAt L f t).length n2) (.slice none 0 0) ∧ Kd.R (Kd.int .i64) 3 w5 (W.heap.size + 3) (fun k => xb < k) (.slice Aa (idsAt L f t).length na) (idsAt L f t) ∧ Kd.R (Kd.int .i64) 3 w5 (W.heap.size + 3) (fun k => xb < k) (.slice A1 (hitsN L t).length n1) ((hitsN L t).map (·.2)) ∧ Kd.R (Kd.slice 3 (Kd.int .i64)) 38 w5 (W.heap.size + 3) (fun k => xb < k) (.slice A2 (listsAt L f t).length n2) (listsAt L f t) := ⟨_, rfl, (HM4.out.set1 _).set2 _, rowI_set (rowI_set HRA4.out _ _) _ _, by have h := rowI_set (rowI_set HR1.out 1 (.slice A1 (hitsN L t).length n1)) 2 (.slice A2 (listsAt L f t).length n2); rw [List.length_map] at h; exact h, rowI_set (rowI_set HR2.out _ _) _ _⟩
      have hw5' := hw5
      unfold hitsN at hw5'
      first | rw [← hw5] | rw [← hw5']
      clear hw5 hw5' b0 b1
      have HM5 := Aside0.mk hm5
      have HRA5 := Aside0.mk hra5
      have HRB5 := Aside0.mk hrb5
      have HRC5 := Aside0.mk hrc5
      have hl5 := hm5.bx.lt
      have HL5 := Aside0.mk hl5
      have hF := Aside0.mk (icpb_calls w5 g xb mb M s L f t _ _ _ (HX0.out.kept hm5.kp id id) HKB.out HT1.out ht2 hm5.bx (by have := HGM.out; omega) HFB.out HT3.out)
      obtain ⟨b0, b1⟩ := hm5.idx
      clear HM4 HRA4 HR1 HR2 hm5 hra5 hrb5 hrc5 hl5 k0 k1 k2 k3 z1 z2 HM3 HRA3
      go_upto_region 9 with (go_at_call 42; refine hF.out.mono ?_; rintro e_ w9 ⟨rfl, hC9⟩; have HC9 := Aside0.mk hC9; clear hC9)
      obtain ⟨cv, g1, g2, g3⟩ := HC9.out
      have hm9 := HM5.out.cb g3 g1
      have HM9 := Aside0.mk hm9
      have HRA9 := Aside0.mk (rowI_cb HRA5.out g3)
      have HRB9 := Aside0.mk (rowI_cb HRB5.out g3)
      have HRC9 := Aside0.mk (rowI_cb HRC5.out g3)
      have HV9 := Aside0.mk (rowI_new g2 HL5.out (show W.heap.size + 3 ≤ w5.heap.size by have := HL5.out; omega))
      obtain ⟨k0, k1, k2, k3⟩ := hm9.bx.cells
      have ko := hm9.out.1
      have zo := hm9.out.2
      have hlt9 := hm9.bx.lt
      have hsz9 : W.heap.size + 3 ≤ w9.heap.size := by omega
      obtain ⟨Ac, nc, rfl⟩ := Kd.R_slice HV9.out
      have hOK : ∀ k, (xb < k) → True ∧ some k ≠ ov.ownBlock := fun k hk => ⟨trivial, fun e => by have := hm9.r.1 k e.symm; omega⟩
      have HOK := Aside0.mk hOK
      have hl34 : ((ss.take j).map (ians L f)).length ≤ 1000000 := by simp; omega
      clear HC9 g1 g2 g3 hm9 HM5 HRA5 HRB5 HRC5 HL5 hlt9 hOK b0 b1
      cases gk with
      | zero => omega
      | succ kz =>
      go_wp2_with (first | ((with_reducible refine gate_builtin (b := .append) (xs := #[.tmp 32, .tmp 34]) rfl ?_); at_builtin; refine Kd.R_append kIA (w0 := w9) (W.heap.size + 3) rfl (.tmp 32) (.tmp 34) 26 42 (.agg #[.slice none 0 0, .slice none 0 0, .slice none 0 0, .slice none 0 0]) 96 rfl Tryz.underlying26 ia_info rfl (by decide) (by omega) _ _ (ians L f t) [_, _, _, _] (fun _ => True) (fun k => xb < k) rfl rfl (kIA_mkM _ _ _ (ians L f t) HRA9.out HRB9.out HRC9.out HV9.out) HOK.out (fun _ _ => trivial) (Kd.R_mono HM9.out.r (fun _ _ => trivial)) (Below.refl _ _) hsz9 (by omega) ?_; intro va wa ho hb hg hat; obtain ⟨k9, z9⟩ := HM9.out.out2 hb; have HD := Aside0.mk (HM9.out.done hb ho); obtain ⟨Ab, nb, rfl⟩ := Kd.R_slice ho; clear ho hb hg hat ko zo) | fail)
      go_roundg kz
      case measure => omega
      case rel => exact ⟨j + 1, _, congrArg (Value.int .i64) (by omega), ⟨by omega⟩, ⟨by rw [List.take_succ_eq_append_getElem hjl, show ss[j] = t by rw [← HT.out, List.getD_eq_getElem?_getD, List.getElem?_eq_getElem hjl]; rfl]; have h9 := HD.out; simp only [List.length_append, List.length_map, List.length_take, List.length_cons, List.length_nil, Nat.zero_add] at h9; exact h9⟩⟩
    · have hjz : ¬ (j : Int) < (ss.length : Int) := by omega
      have hjj : j = ss.length := by omega
      subst hjj
      have hs := HS.out
      rw [List.take_length] at hs
      obtain ⟨Ao, no, rfl⟩ := hs.sl
      have HSF := Aside0.mk hs
      obtain ⟨q1, q2, q3, q4⟩ := hs.outs
      clear hs HS
      go_wp2_with fail
      refine leaves_cons (f := 39) (args := #[.pointer (some ⟨W.heap.size + 1, 0, none⟩), .pointer (some ⟨W.heap.size + 1 + 1, 0, none⟩)]) (by simp) (by simp [go_sem]) ?_
      refine (iask1_idle _ _ _).mono ?_
      rintro e u' w'' ⟨rfl, rfl, rfl⟩
      simp [Leaves, settle, results, Tryz.results22, go_sem, q1, q2, q3, q4]
      exact HSF.out.fin
end Go.Proofs.YtaejkbjepbifcabGreatDoor.Da
namespace Go.Proofs.YtaejkbjepbifcabGreatDoor.Da
open Go.RowKit Go.Maps Go.ChangeShapes Go.Proofs.YtaejkbjepbifcabGreatDoorW.PrintWords Go.Proofs.YtaejkbjepbifcabGreatDoor.Plain
set_option linter.unusedVariables false
set_option linter.unusedSimpArgs false
structure WordsOk (k k2 : Nat) (ws : List ByteArray) : Prop where
  srt : PB.slices_IsSorted_string_string.f k ws = some true
  up : ∀ j, j + 1 < ws.length → Op.bytesLess (ws.getD (j + 1) ByteArray.empty).toList (ws.getD j ByteArray.empty).toList = false
  srt2 : PB.slices_IsSorted_string_string.f k2 (ixTo ws ws.length).keys = some true
  ok : KeysOk (ixTo ws ws.length).keys (ixTo ws ws.length).ids
  few : ws.length ≤ 4000
  sz : ∀ t ∈ ws, t.size ≤ 1000000000
def ixL (ws : List ByteArray) : Keys := keysAll (ixTo ws ws.length).keys (ixTo ws ws.length).ids
def ixF (ws : List ByteArray) : Int → Int := (ixTo ws ws.length).dup
theorem words_ok {ws : List ByteArray} {st : Bool} (hw : wt ws ≤ 4000) (ho : Ord ws st) : ∃ k k2, WordsOk k k2 ws := by
  have hl := wt_len ws
  obtain ⟨k, hk⟩ := sorted_ev ws ho.pos (by omega) ho.up
  obtain ⟨k2, hk2⟩ := ix_sorted hw ho
  exact ⟨k, k2, hk, ho.up, hk2, ix_ok hw ho, by omega, fun t ht => by have := wt_mem ht; omega⟩
theorem WordsOk.kb {k k2 : Nat} {ws : List ByteArray} (h : WordsOk k k2 ws) : KB (ixL ws) := by
  have I := ix_inv ws h.up ws.length (Nat.le_refl _)
  have := h.few
  exact kb_all I.len (fun d hd => by have := I.idb d hd; omega)
theorem WordsOk.fb {k k2 : Nat} {ws : List ByteArray} (h : WordsOk k k2 ws) : ∀ x, 0 ≤ ixF ws x ∧ ixF ws x ≤ ((4000 : Nat) : Int) := by
  have I := ix_inv ws h.up ws.length (Nat.le_refl _)
  have := h.few
  intro x
  have := I.dup x
  unfold ixF
  omega
def TxsOk (l : List ByteArray) : Prop := l.length ≤ 1000000 ∧ ∀ t ∈ l, Cln t ∧ t.size ≤ 4000
set_option maxHeartbeats 16000000 in
set_option maxRecDepth 100000 in
theorem index_calls (W : World) (A0 A1 : Option Addr) (c0 c1 k k2 : Nat) (ws ts : List ByteArray) (hr0 : Kd.C Kd.string W A0 ws.length ws) (hc0 : ws.length ≤ c0) (hr1 : Kd.C Kd.string W A1 ts.length ts) (hw : WordsOk k k2 ws) (hT : TxsOk ts) :
    Calls Tryz.prog 14 #[.slice A0 ws.length c0, .slice A1 ts.length c1] W fun e w' => JskE W w' (ixL ws) (ixF ws) ts e := by
  have HR1 := Aside0.mk hr1
  have HW := Aside0.mk hw
  have HT := Aside0.mk hT
  have hfew := hw.few
  have HNE : Aside0 (ws ≠ []) := ⟨fun e => hw.ok.ne (by rw [e]; rfl)⟩
  have h1 := Aside0.mk (PB.slices_Clone_string_string.calls A0 c0 ws ws W hr0 hc0 (clone_strs ws (by omega)))
  clear hr0 hr1 hw hT
  go_enter Tryz.func14, Tryz.ntmps14
  go_upto_region 2 with (first | (go_at_call 27; refine h1.out.mono ?_; rintro e_ w1 ⟨v1, rfl, hv, hB⟩; have HB1 := Aside0.mk hB; obtain ⟨kb, kc, rfl, b1, b2, b3, b4⟩ := own_head hv HNE.out; have h2 := Aside0.mk (bix_calls w1 (some ⟨kb, 0, none⟩) kc k k2 ws b4 b3 HW.out.srt HW.out.up HW.out.srt2 HW.out.ok (by omega) HW.out.sz); clear hB hv b4) | (go_at_call 26; refine h2.out.mono ?_; rintro e_ w2 ⟨g, s, mb, rfl, hX, hg, hm, hK⟩; have HX := Aside0.mk hX; have HK := Aside0.mk hK; clear hX hK))
  have hb2 := below_step HB1.out (kp_below HK.out)
  obtain ⟨w3, hw3, hk3, bx⟩ : ∃ w3, w3 = w2.alloc (.cells #[.slice (some ⟨g, 0, none⟩) s.n s.n, .map (some mb)] 53) ∧ Kp w2 w3 (fun _ => False) ∧ w3.heap[w2.heap.size]? = some (.cells #[.slice (some ⟨g, 0, none⟩) s.n s.n, .map (some mb)] 53 (0, 0)) := ⟨_, rfl, (Kp.self w2 _).alloc _, blk_new _ _⟩
  rw [← hw3]
  obtain ⟨xb, hxb⟩ : ∃ xb, w2.heap.size = xb := ⟨_, rfl⟩
  rw [hxb] at bx ⊢
  have x0 : w3.cell? ⟨xb, 0, none⟩ = some (.slice (some ⟨g, 0, none⟩) s.n s.n) := by unfold World.cell?; simp [bx]
  have x1 : w3.cell? ⟨xb, 1, none⟩ = some (.map (some mb)) := by unfold World.cell?; simp [bx]
  have hb3 := below_step hb2 (kp_below hk3)
  have h4 := Aside0.mk (jsk_calls w3 g mb c1 4000 s (ixL ws) (ixF ws) ts A1 (HX.out.kept hk3 id id) HW.out.kb (fun t ht => ⟨(HT.out.2 t ht).1, by have := (HT.out.2 t ht).2; omega, Nat.le_trans (Nat.mul_le_mul_right _ (Nat.succ_le_succ (HT.out.2 t ht).2)) (by decide)⟩) HW.out.fb (Kd.C_below HR1.out hb3) HT.out.1)
  have HB3 := Aside0.mk hb3
  clear hw3 hk3 bx hxb hb2 hb3
  go_wp2_with (go_at_call 22; refine h4.out.mono ?_; rintro e_ w4 ⟨ov, rfl, hR, hB⟩; have HR4 := Aside0.mk hR; have HB4 := Aside0.mk hB; clear hR hB)
  exact bodyPost_ret (v := .tuple #[ov, .int .i64 0]) (by simp [results, Tryz.results14, go_sem]) rfl ⟨ov, rfl, Kd.R_lower HR4.out HB3.out.size, below_step HB3.out HB4.out⟩
theorem ia_at {w : World} {base g c : Nat} {ok : Nat → Prop} {l : List IA} (h : Kd.R kIA 42 w base ok (.slice (some ⟨g, 0, none⟩) l.length c) l) (j : Nat) (hj : j < l.length) (a : IA) (ha : l[j]? = some a) :
    ∃ A0 c0 A1 c1 A2 c2 A3 c3, w.cell? ⟨g, j * 4, none⟩ = some (.slice A0 a.f0.length c0) ∧ w.cell? ⟨g, j * 4 + 1, none⟩ = some (.slice A1 a.f1.length c1) ∧ w.cell? ⟨g, j * 4 + 2, none⟩ = some (.slice A2 a.f2.length c2) ∧ w.cell? ⟨g, j * 4 + 3, none⟩ = some (.slice A3 a.f3.length c3) ∧
      Kd.R (Kd.int .i64) 3 w base ok (.slice A0 a.f0.length c0) a.f0 ∧ Kd.R (Kd.int .i64) 3 w base ok (.slice A1 a.f1.length c1) a.f1 ∧ Kd.R (Kd.slice 3 (Kd.int .i64)) 38 w base ok (.slice A2 a.f2.length c2) a.f2 ∧ Kd.R PB.k93 93 w base ok (.slice A3 a.f3.length c3) a.f3 := by
  obtain ⟨_, hR⟩ := h
  obtain ⟨A, c', e1, l1, hr⟩ := OwnRow.reads hR
  cases e1
  obtain ⟨ad, e2, hx⟩ := hr.2.2 (by omega)
  cases e2
  obtain ⟨cs, _, hM, hc⟩ := hx j a ha
  obtain ⟨_, _, rfl, ⟨v0, rfl, g0⟩, ⟨_, _, rfl, ⟨v1, rfl, g1⟩, ⟨_, _, rfl, ⟨v2, rfl, g2⟩, ⟨v3, rfl, g3⟩⟩⟩⟩ := hM
  obtain ⟨A0, c0, rfl⟩ := Kd.R_slice g0
  obtain ⟨A1, c1, rfl⟩ := Kd.R_slice g1
  obtain ⟨A2, c2, rfl⟩ := Kd.R_slice g2
  obtain ⟨A3, c3, rfl⟩ := Kd.R_slice g3
  have e3 : ∀ i, (⟨g, 0, none⟩ : Addr).add (j * kIA.sz + i) = ⟨g, j * 4 + i, none⟩ := fun i => by
    show (⟨g, 0, none⟩ : Addr).add (j * 4 + i) = _
    rw [add_at0, Nat.zero_add]
  refine ⟨A0, c0, A1, c1, A2, c2, A3, c3, ?_, ?_, ?_, ?_, Kd.R_mono g0 (fun k hk => hk.1), Kd.R_mono g1 (fun k hk => hk.1), Kd.R_mono g2 (fun k hk => hk.1), Kd.R_mono g3 (fun k hk => hk.1)⟩
  · have := hc 0 _ rfl; rw [e3] at this; exact this
  · have := hc 1 _ rfl; rw [e3] at this; exact this
  · have := hc 2 _ rfl; rw [e3] at this; exact this
  · have := hc 3 _ rfl; rw [e3] at this; exact this
theorem aa_ord : Ord [ta, ta] false := by
  refine ⟨?_, ?_, ?_, (fun h => by cases h), by simp⟩
  · intro t ht
    simp only [List.mem_cons, List.not_mem_nil, or_false, or_self] at ht
    rw [ht]; exact cln_a
  · intro t ht
    simp only [List.mem_cons, List.not_mem_nil, or_false, or_self] at ht
    rw [ht, Lib.toList_data]; decide
  · intro i hi
    obtain rfl : i = 0 := by simp at hi; omega
    rw [Lib.toList_data, Lib.toList_data]; decide
theorem aa_ans : (ians (ixL [ta, ta]) (ixF [ta, ta]) ta).f0 = [0, 1] ∧ (ians (ixL [ta, ta]) (ixF [ta, ta]) ta).f1 = [1] := by
  have e : ixTo [ta, ta] [ta, ta].length = ⟨[ta], [0], 0, ta, bump (fun _ => 0) 0⟩ := by
    have e1 : ixTo [ta, ta] 1 = ⟨[ta], [0], 0, ta, fun _ => 0⟩ := by
      rw [ixTo_succ]
      unfold ixStep
      rw [if_neg (by rw [Lib.toList_data]; show ¬ _ = ByteArray.empty.toList; rw [empty_list]; decide)]
      rfl
    show ixTo [ta, ta] 2 = _
    rw [ixTo_succ, e1]
    unfold ixStep
    rw [if_pos (show ([ta, ta].getD 1 ByteArray.empty).toList = ta.toList from rfl)]
    rfl
  have e2 : ixL [ta, ta] = keysAll [ta] [0] := by unfold ixL; rw [e]
  have e3 : ixF [ta, ta] = bump (fun _ => 0) 0 := by unfold ixF; rw [e]
  rw [e2, e3]
  constructor
  · rfl
  · rfl
theorem sameI_key (l : List Int) (hl : l.length ≤ 4611686018427387904) : ∀ d i, i + d = l.length → Ev (fun k => PB.laws_same_int.l0 k l l (l.length : Int) (i : Int)) true
  | 0, i, h => Ev.step (fun k => by rw [PB.laws_same_int.l0]) (evn (by omega) (Ev.now true))
  | d + 1, i, h => by
    have ih := sameI_key l hl d (i + 1) (by omega)
    exact Ev.step (fun k => by rw [PB.laws_same_int.l0]) (evp (by omega) (evp (by omega) (evp (by omega) (evp (by omega) (evp rfl (by rw [wrap_up i (by omega)]; exact ih))))))
theorem sameI_ev (l : List Int) (hl : l.length ≤ 4611686018427387904) : Ev (fun k => PB.laws_same_int.f k l l) true := by
  have := sameI_key l hl l.length 0 (by omega)
  exact evp rfl this
set_option maxHeartbeats 16000000 in
set_option maxRecDepth 100000 in
theorem indexes_calls (W : World) : Calls Tryz.prog 8 #[] W fun e w' => e = .returned (.bool true) ∧ Below W.heap.size W w' := by
  obtain ⟨k, k2, hw⟩ := words_ok (ws := [ta, ta]) (by decide) aa_ord
  obtain ⟨e1, e2⟩ := aa_ans
  obtain ⟨ks, hks⟩ := (sameI_ev [0, 1] (by simp)).rounds
  obtain ⟨kt, hkt⟩ := (sameI_ev [1] (by simp)).rounds
  have HW := Aside0.mk hw
  have HKS := Aside0.mk hks
  have HKT := Aside0.mk hkt
  obtain ⟨a, ha⟩ : ∃ a, ians (ixL [ta, ta]) (ixF [ta, ta]) ta = a := ⟨_, rfl⟩
  rw [ha] at e1 e2
  have HAE := Aside0.mk ha
  have HT : Aside0 (∀ (w : World) (b0 b1 : Nat), Kd.C Kd.string w (some ⟨b0, 0, none⟩) 2 [ta, ta] → Kd.C Kd.string w (some ⟨b1, 0, none⟩) 1 [ta] →
      Calls Tryz.prog 14 #[.slice (some ⟨b0, 0, none⟩) 2 2, .slice (some ⟨b1, 0, none⟩) 1 1] w fun e w' => ∃ g c B0 d0 B1 d1 B2 d2 B3 d3, e = .returned (.tuple #[.slice (some ⟨g, 0, none⟩) 1 c, .int .i64 0]) ∧ (w'.cell? ⟨g, 0, none⟩ = some (.slice B0 2 d0) ∧ w'.cell? ⟨g, 1, none⟩ = some (.slice B1 1 d1) ∧ w'.cell? ⟨g, 2, none⟩ = some (.slice B2 a.f2.length d2) ∧ w'.cell? ⟨g, 3, none⟩ = some (.slice B3 a.f3.length d3)) ∧ Aside0 (Kd.R (Kd.int .i64) 3 w' w.heap.size (fun _ => True) (.slice B0 2 d0) [0, 1]) ∧ Aside0 (Kd.R (Kd.int .i64) 3 w' w.heap.size (fun _ => True) (.slice B1 1 d1) [1]) ∧ Aside0 (Below w.heap.size w w')) := ⟨fun w b0 b1 h0 h1 => by
    refine (index_calls w (some ⟨b0, 0, none⟩) (some ⟨b1, 0, none⟩) 2 1 k k2 [ta, ta] [ta] h0 (by simp) h1 HW.out ⟨by simp, fun t ht => by rw [List.mem_singleton.1 ht]; exact ⟨cln_a, by decide⟩⟩).mono ?_
    rintro e w' ⟨ov, rfl, hR, hB⟩
    obtain ⟨g, c, rfl, hg0, hg, _, _⟩ := own_head hR (by simp)
    obtain ⟨B0, d0, B1, d1, B2, d2, B3, d3, h0, h1, h2, h3, g0, g1, g2, g3⟩ := ia_at hR 0 (by simp) a (by rw [← HAE.out]; rfl)
    simp only [Nat.zero_mul, Nat.zero_add] at h0 h1 h2 h3
    rw [e1] at h0 g0
    rw [e2] at h1 g1
    exact ⟨g, c, B0, d0, B1, d1, B2, d2, B3, d3, rfl, ⟨h0, h1, h2, h3⟩, ⟨g0⟩, ⟨g1⟩, ⟨hB⟩⟩⟩
  clear hw hks hkt ha e1 e2
  go_enter Tryz.func8, Tryz.ntmps8
  go_upto_region 2 with (go_at_call 14; refine (HT.out _ _ _ (Kd.C_below (new1 _ _ rfl [ta, ta] _ _ rfl (by simp)) (below_alloc (Below.refl _ _) _)) (new1 _ _ (Own.size_alloc _ _).symm [ta] _ _ rfl (by simp))).mono ?_; rintro e_ w2 ⟨g, c, B0, d0, B1, d1, B2, d2, B3, d3, rfl, ⟨k0, k1, k2, k3⟩, HC0, HC1, HB⟩)
  obtain ⟨hl0, hC0⟩ := row_reads HC0.out
  obtain ⟨hl1, hC1⟩ := row_reads HC1.out
  have HL0 := Aside0.mk hl0
  have HL1 := Aside0.mk hl1
  have HD0 := Aside0.mk hC0
  have HD1 := Aside0.mk hC1
  have HBW : Aside0 (Below W.heap.size W w2) := ⟨below_step (below_alloc (below_alloc (Below.refl _ _) _) _) HB.out⟩
  clear hl0 hC0 hl1 hC1 HC0 HC1 HB HT
  have HQ0 : Aside0 (∀ (w1 : World) (b : Nat), b = w1.heap.size → Below w2.heap.size w2 w1 → Calls Tryz.prog 16 #[.slice B0 2 d0, .slice (some ⟨b, 0, none⟩) 2 2] (w1.alloc (.cells #[.int .i64 0, .int .i64 1] 3)) fun e w' => e = .returned (.bool true) ∧ Drawn0 (w1.alloc (.cells #[.int .i64 0, .int .i64 1] 3)) w') := ⟨fun w1 b hb hB => PB.laws_same_int.calls ks B0 d0 [0, 1] _ 2 [0, 1] true _ (Kd.C_below HD0.out (below_alloc hB _)) HL0.out (new1 _ _ hb [0, 1] _ _ rfl (by simp)) (by simp) HKS.out⟩
  have HQ1 : Aside0 (∀ (w1 : World) (b : Nat), b = w1.heap.size → Below w2.heap.size w2 w1 → Calls Tryz.prog 16 #[.slice B1 1 d1, .slice (some ⟨b, 0, none⟩) 1 1] (w1.alloc (.cells #[.int .i64 1] 3)) fun e w' => e = .returned (.bool true) ∧ Drawn0 (w1.alloc (.cells #[.int .i64 1] 3)) w') := ⟨fun w1 b hb hB => PB.laws_same_int.calls kt B1 d1 [1] _ 1 [1] true _ (Kd.C_below HD1.out (below_alloc hB _)) HL1.out (new1 _ _ hb [1] _ _ rfl (by simp)) (by simp) HKT.out⟩
  clear HKS HKT HD0 HD1 HL0 HL1 HW HAE
  go_wp2_with (first | (go_at_call 16; (with_reducible refine Calls.mono (HQ0.out _ _ rfl (by repeat (first | (with_reducible first | exact Below.refl _ _ | apply below_alloc | apply pw_below_drewN | apply below_drew1) | exact Below.refl _ _))) ?_); rintro e_ w3 ⟨rfl, ⟨q3, rfl⟩⟩; have k1b := (World.cell?_of_block (w := w2) ((pw_below_drewN (below_alloc (Below.refl _ w2) (.cells #[.int .i64 0, .int .i64 1] 3)) q3).block g (cell_lt k1))).trans k1) | (go_at_call 16; refine (HQ1.out ((w2.alloc (.cells #[.int .i64 0, .int .i64 1] 3)).drewN q3) _ (Own.size_alloc _ _).symm (by repeat (first | (with_reducible first | exact Below.refl _ _ | apply below_alloc | apply pw_below_drewN | apply below_drew1) | exact Below.refl _ _))).mono ?_; rintro e_ w4 ⟨rfl, ⟨q4, rfl⟩⟩))
  go_ret
  exact ⟨rfl, by repeat (first | (with_reducible first | exact HBW.out | apply below_alloc | apply pw_below_drewN | apply below_drew1) | exact HBW.out)⟩
end Go.Proofs.YtaejkbjepbifcabGreatDoor.Da
namespace Go.Proofs.YtaejkbjepbifcabGreatDoor.Da
open Go.RowKit Go.Proofs.YtaejkbjepbifcabGreatDoorW.PrintWords Go.Proofs.YtaejkbjepbifcabGreatDoor.Plain
set_option linter.unusedVariables false
set_option linter.unusedSimpArgs false
theorem begins_some (a b : ByteArray) : ∃ r, PB.spec_dBegins.f a b = some r := by
  unfold PB.spec_dBegins.f
  by_cases h : (a.size : Int) ≥ (b.size : Int)
  · rw [if_pos h, if_pos (by omega), if_pos h]; exact ⟨_, rfl⟩
  · rw [if_neg h]; exact ⟨_, rfl⟩
theorem half_key (l : List ByteArray) (s : ByteArray) (hl : l.length ≤ 4611686018427387904) : ∀ d i (b : Bool), i + d = l.length → ∃ r, Ev (fun k => PB.spec_Half.l0 k s b l (l.length : Int) (i : Int)) r
  | 0, i, b, h => ⟨_, Ev.step (fun k => by rw [PB.spec_Half.l0]) (evn (by omega) (Ev.now _))⟩
  | d + 1, i, b, h => by
    obtain ⟨rt, ht⟩ := half_key l s hl d (i + 1) true (by omega)
    obtain ⟨rb, hb⟩ := begins_some (rdOf ByteArray.empty l (i : Int)) s
    obtain ⟨r2, h2⟩ := half_key l s hl d (i + 1) rb (by omega)
    have go : ∃ r, Ev (fun k => if b = true then PB.spec_Half.l0 k s true l (l.length : Int) (wrap64 ((i : Int) + 1)) else (PB.spec_dBegins.f (rdOf ByteArray.empty l (i : Int)) s).bind fun t144 => PB.spec_Half.l0 k s t144 l (l.length : Int) (wrap64 ((i : Int) + 1))) r := by
      rw [wrap_up i (by omega), hb]
      by_cases e : b = true
      · exact ⟨rt, evp e ht⟩
      · exact ⟨r2, evn e h2⟩
    obtain ⟨rg, hg⟩ := go
    by_cases e1 : (rdOf ByteArray.empty l (i : Int)).toList = s.toList
    · by_cases e2 : s.toList = []
      · exact ⟨rg, Ev.step (fun k => by rw [PB.spec_Half.l0]) (evp (by omega) (evp (by omega) (evp (by omega) (evp e1 (evp e2 hg)))))⟩
      · exact ⟨false, Ev.step (fun k => by rw [PB.spec_Half.l0]) (evp (by omega) (evp (by omega) (evp (by omega) (evp e1 (evn e2 (Ev.now false))))))⟩
    · exact ⟨rg, Ev.step (fun k => by rw [PB.spec_Half.l0]) (evp (by omega) (evp (by omega) (evp (by omega) (evn e1 hg))))⟩
theorem half_ev (l : List ByteArray) (s : ByteArray) (hl : l.length ≤ 4611686018427387904) : ∃ r, Ev (fun k => PB.spec_Half.f k l s) r := half_key l s hl l.length 0 false (by omega)
theorem sint_key (l : List Int) (hl : l.length ≤ 4611686018427387904) : ∀ d i, i + d = l.length → Ev (fun k => PB.laws_same_int.l0 k l l (l.length : Int) (i : Int)) true
  | 0, i, h => Ev.step (fun k => by rw [PB.laws_same_int.l0]) (evn (by omega) (Ev.now true))
  | d + 1, i, h => by
    have ih := sint_key l hl d (i + 1) (by omega)
    exact Ev.step (fun k => by rw [PB.laws_same_int.l0]) (evp (by omega) (evp (by omega) (evp (by omega) (evp (by omega) (evp rfl (by rw [wrap_up i (by omega)]; exact ih))))))
theorem sint_ev (l : List Int) (hl : l.length ≤ 4611686018427387904) : Ev (fun k => PB.laws_same_int.f k l l) true := by
  have := sint_key l hl l.length 0 (by omega)
  exact evp rfl this
theorem slist_key (l : List (List Int)) (hl : l.length ≤ 4611686018427387904) (h2 : ∀ x ∈ l, x.length ≤ 4611686018427387904) : ∀ d i, i + d = l.length → Ev (fun k => PB.laws_sameLists_int.l0 k l l (l.length : Int) (i : Int)) true
  | 0, i, h => Ev.step (fun k => by rw [PB.laws_sameLists_int.l0]) (evn (by omega) (Ev.now true))
  | d + 1, i, h => by
    have ih := slist_key l hl h2 d (i + 1) (by omega)
    have ha := sint_ev (l.getD i []) (h2 _ (getD_mem [] (show i < l.length by omega)))
    refine Ev.step (fun k => by rw [PB.laws_sameLists_int.l0]) (evp (by omega) (evp (by omega) (evp (by omega) (evp (by omega) ?_))))
    have e : PB.rd_L4 l (i : Int) = l.getD i [] := by unfold PB.rd_L4; rw [Int.toNat_natCast]
    rw [e]
    exact Ev.bind ha (evp rfl (by rw [wrap_up i (by omega)]; exact ih))
theorem slist_ev (l : List (List Int)) (hl : l.length ≤ 4611686018427387904) (h2 : ∀ x ∈ l, x.length ≤ 4611686018427387904) : Ev (fun k => PB.laws_sameLists_int.f k l l) true := by
  have := slist_key l hl h2 l.length 0 (by omega)
  exact evp rfl this
def Small4 (a : PB.S42) : Prop := a.f0.length ≤ 4611686018427387904 ∧ a.f1.length ≤ 4611686018427387904 ∧ a.f2.length ≤ 4611686018427387904 ∧ (∀ x ∈ a.f2, x.length ≤ 4611686018427387904) ∧ a.f3.length ≤ 4611686018427387904
theorem ixa_refl (a : PB.S42) (h : Bool) (hs : Small4 a) : Ev (fun k => PB.laws_sameIndex.f k a.f0 a.f1 a.f2 a.f3 a.f0 a.f1 a.f2 a.f3 h) true := by
  obtain ⟨h0, h1, h2, h3, h4⟩ := hs
  have e0 := sint_ev a.f0 h0
  have e1 := sint_ev a.f1 h1
  have e2 := slist_ev a.f2 h2 h3
  have e3 := same_ev a.f3 h4
  unfold PB.laws_sameIndex.f
  cases h with
  | true => exact evp rfl (Ev.bind e1 (evp rfl (Ev.bind e2 (evp rfl (Ev.bind e3 (Ev.now true))))))
  | false => exact evn (by simp) (Ev.bind e0 (evp rfl (Ev.bind e1 (evp rfl (Ev.bind e2 (evp rfl (Ev.bind e3 (Ev.now true))))))))
theorem rd_ixa (l : List PB.S42) (i : Nat) : PB.rd_T42 l (i : Int) = l.getD i PB.z42 := by unfold PB.rd_T42; rw [Int.toNat_natCast]
theorem indices_key (l : List PB.S42) (ks ts : List ByteArray) (hl : l.length = ts.length) (hk : ks.length ≤ 4611686018427387904) (h : ts.length ≤ 4611686018427387904) (hs : ∀ a ∈ l, Small4 a) : ∀ d i, i + d = l.length → Ev (fun k => PB.laws_sameIndices.l0 k l l ks ts (l.length : Int) (i : Int)) true
  | 0, i, hi => Ev.step (fun k => by rw [PB.laws_sameIndices.l0]) (evn (by omega) (Ev.now true))
  | d + 1, i, hi => by
    have ih := indices_key l ks ts hl hk h hs d (i + 1) (by omega)
    obtain ⟨rh, hh⟩ := half_ev ks (rdOf ByteArray.empty ts (i : Int)) hk
    have ht := ixa_refl (l.getD i PB.z42) rh (hs _ (getD_mem PB.z42 (show i < l.length by omega)))
    refine Ev.step (fun k => by rw [PB.laws_sameIndices.l0]) (evp (by omega) (evp (by omega) (evp (by omega) (evp (by omega) (evp (by omega) ?_)))))
    refine Ev.bind hh ?_
    rw [rd_ixa]
    exact Ev.bind ht (evp rfl (by rw [wrap_up i (by omega)]; exact ih))
theorem indices_ev (l : List PB.S42) (ks ts : List ByteArray) (hl : l.length = ts.length) (hk : ks.length ≤ 4611686018427387904) (h : ts.length ≤ 4611686018427387904) (hs : ∀ a ∈ l, Small4 a) : ∃ k, PB.laws_sameIndices.f k l l ks ts = some true := by
  have := indices_key l ks ts hl hk h hs l.length 0 (by omega)
  have e : ((l.length : Int) != (ts.length : Int)) = false := by rw [hl]; simp
  have h2 : Ev (fun k => PB.laws_sameIndices.f k l l ks ts) true := by
    unfold PB.laws_sameIndices.f
    refine evp rfl ?_
    rw [e]
    rw [show ((0 : Nat) : Int) = 0 from rfl] at this
    exact Ev.step (fun k => by rw [PB.laws_sameIndices.j0]) (evn (by simp) this)
  exact h2.rounds
def toP (a : IA) : PB.S42 := ⟨a.f0, a.f1, a.f2, a.f3⟩
theorem c_toP {w : World} {A : Option Addr} {n : Nat} {l : List IA} (h : Kd.C kIA w A n l) : Kd.C PB.k42 w A n (l.map toP) := by
  refine ⟨by rw [List.length_map]; exact h.1, h.2.1, fun h0 => ?_⟩
  obtain ⟨ad, e, hx⟩ := h.2.2 (by simpa using h0)
  refine ⟨ad, e, fun j p hj => ?_⟩
  rw [List.getElem?_map] at hj
  obtain ⟨q, hq, rfl⟩ := Option.map_eq_some_iff.1 hj
  obtain ⟨cs, h1, h2, h3⟩ := hx j q hq
  exact ⟨cs, h1, h2, h3⟩
def IxO (W w' : World) (L : Keys) (f : Int → Int) (ts : List ByteArray) (e : Ending) : Prop := ∃ (A : Option Addr) (n : Nat) (l : List PB.S42), e = .returned (.tuple #[.slice A l.length n, .int .i64 0]) ∧ Aside0 (l = ts.map (fun t => toP (ians L f t))) ∧ Aside0 (Kd.C PB.k42 w' A l.length l) ∧ Aside0 (l.length ≤ n) ∧ Below W.heap.size W w'
theorem ixo_of {W w' : World} {L : Keys} {f : Int → Int} {ts : List ByteArray} {e : Ending} (h : JskE W w' L f ts e) : IxO W w' L f ts e := by
  obtain ⟨ov, rfl, hR, hB⟩ := h
  obtain ⟨A, n, rfl, l1, g1⟩ := Kd.R_reads hR
  have g2 := c_toP g1
  rw [List.map_map] at g2
  refine ⟨A, n, ts.map (fun t => toP (ians L f t)), by simp, ⟨rfl⟩, ⟨by simpa [Function.comp_def] using g2⟩, ⟨by simpa using l1⟩, hB⟩
theorem small_of (L : Keys) (f : Int → Int) (hf : ∀ k, 0 ≤ f k ∧ f k ≤ ((4000 : Nat) : Int)) {ts : List ByteArray} (h : ∀ t ∈ ts, Cln t ∧ t.size ≤ 4000) : ∀ a ∈ ts.map (fun t => toP (ians L f t)), Small4 a := by
  intro a ha
  obtain ⟨t, ht, rfl⟩ := List.mem_map.1 ha
  have hs := (h t ht).2
  have hH : (hitsN L t).length ≤ 4000 := by unfold hitsN; have := hits_len L (bs t) (bs t).length; rw [bs_len] at this ⊢; omega
  have hr : ∀ d, (run d (f d)).length ≤ 4001 := fun d => by rw [run_len]; have := hf d; omega
  refine ⟨?_, ?_, ?_, ?_, ?_⟩
  · show (idsAt L f t).length ≤ _
    unfold idsAt
    split
    · have := hr (fnd L t).1; omega
    · simp
  · show ((hitsN L t).map (·.2)).length ≤ _
    rw [List.length_map]; omega
  · show (listsAt L f t).length ≤ _
    unfold listsAt
    rw [List.length_map]; omega
  · intro x hx
    have hx : x ∈ listsAt L f t := hx
    unfold listsAt at hx
    obtain ⟨y, _, rfl⟩ := List.mem_map.1 hx
    have := hr y.1; omega
  · show (callsAt f (hitsN L t)).length ≤ _
    have h1 := callsAt_len f 4000 hf (hitsN L t)
    have h4 := Nat.mul_le_mul_right (4000 + 1) hH
    omega
end Go.Proofs.YtaejkbjepbifcabGreatDoor.Da
namespace Go.Proofs.YtaejkbjepbifcabGreatDoor.Num
open Go.RowKit Go.Proofs.YtaejkbjepbifcabGreatDoorW.PrintWords Go.Proofs.YtaejkbjepbifcabGreatDoor.Plain
set_option linter.unusedVariables false

theorem as64_8 (v : Value) (w : World) : (Instr.typeAssert (.iface 2 v) 20 68 true).run Tryz.prog w = .ok (.tuple #[.int .i8 0, .bool false]) w := by kernel_rfl
theorem as64_16 (v : Value) (w : World) : (Instr.typeAssert (.iface 2 v) 20 126 true).run Tryz.prog w = .ok (.tuple #[.int .i16 0, .bool false]) w := by kernel_rfl
theorem as64_32 (v : Value) (w : World) : (Instr.typeAssert (.iface 2 v) 20 21 true).run Tryz.prog w = .ok (.tuple #[.int .i32 0, .bool false]) w := by kernel_rfl
theorem as32_8 (v : Value) (w : World) : (Instr.typeAssert (.iface 21 v) 20 68 true).run Tryz.prog w = .ok (.tuple #[.int .i8 0, .bool false]) w := by kernel_rfl
theorem as32_16 (v : Value) (w : World) : (Instr.typeAssert (.iface 21 v) 20 126 true).run Tryz.prog w = .ok (.tuple #[.int .i16 0, .bool false]) w := by kernel_rfl
theorem as32_32 (v : Value) (w : World) : (Instr.typeAssert (.iface 21 v) 20 21 true).run Tryz.prog w = .ok (.tuple #[v, .bool true]) w := by kernel_rfl

theorem size64 (v : Int) (w : World) : Calls Tryz.prog 71 #[.int .i64 v] w fun e w' => e = .returned (.int .i64 8) ∧ w = w' := by
  have h1 := as64_8
  have h2 := as64_16
  have h3 := as64_32
  go_enter Tryz.func71, Tryz.ntmps71
  go_wp2
  go_ret
  exact ⟨rfl, rfl⟩
theorem size32 (v : Int) (w : World) : Calls Tryz.prog 73 #[.int .i32 v] w fun e w' => e = .returned (.int .i64 4) ∧ w = w' := by
  have h1 := as32_8
  have h2 := as32_16
  have h3 := as32_32
  go_enter Tryz.func73, Tryz.ntmps73
  go_wp2
  go_ret
  exact ⟨rfl, rfl⟩
end Go.Proofs.YtaejkbjepbifcabGreatDoor.Num
namespace Go.Proofs.YtaejkbjepbifcabGreatDoor.Num
open Go.RowKit Go.Proofs.YtaejkbjepbifcabGreatDoorW.PrintWords Go.Proofs.YtaejkbjepbifcabGreatDoor.Plain
set_option linter.unusedVariables false

abbrev rdr (a : Option Addr) (n c i : Nat) (pr : Int) : Obj := .cells #[.slice a n c, .int .i64 i, .int .i64 pr] 87 (0, 0)
def u8s (l : List Int) : List Value := l.map (Value.int .u8)
theorem cells_at {w : World} {b : Nat} {cs : Array Value} {t : TypeId} (h : w.heap[b]? = some (.cells cs t (0, 0))) (i : Nat) (v : Value) (hv : cs[i]? = some v) : w.cell? ⟨b, i, none⟩ = some v := by
  unfold World.cell?; simp [h, hv]
theorem froz_at {w : World} {b : Nat} {cs : Array Value} {t : TypeId} (h : w.heap[b]? = some (.cells cs t (0, 0))) (i : Nat) : w.frozen? ⟨b, i, none⟩ = false := by
  unfold World.frozen?; simp [h]
theorem heap_drewN (w : World) (n : Nat) : (w.drewN n).heap = w.heap := rfl
theorem size_setCell (w : World) (p : Addr) (v : Value) : (w.setCell p v).heap.size = w.heap.size := by simp [World.setCell]
theorem int_info : (Tryz.prog.info? 5).map (·.size) = some 1 := by kernel_rfl

def Env (w w' : World) : Prop := w'.os = w.os ∧ w'.tape = w.tape ∧ w'.output = w.output
theorem Env.trans {a b c : World} (h : Env a b) (k : Env b c) : Env a c := ⟨k.1.trans h.1, k.2.1.trans h.2.1, k.2.2.trans h.2.2⟩
structure Kp (w w' : World) (S : Nat → Prop) : Prop where
  size : w.heap.size ≤ w'.heap.size
  old : ∀ i, i < w.heap.size → ¬ S i → w'.heap[i]? = w.heap[i]?
  env : Env w w'
theorem Kp.ofN {w W : World} {S : Nat → Prop} {q : Nat} (h : Kp (w.drewN q) W S) : Kp w W S := ⟨h.1, h.2, h.3⟩
theorem Kp.toN {w W : World} {S : Nat → Prop} (h : Kp w W S) (q : Nat) : Kp w (W.drewN q) S := ⟨h.1, h.2, h.3⟩
theorem C_cells {k : IntKind} {w : World} {a : Addr} {n : Nat} {xs : List Int} (h : (Kd.int k).C w (some a) n xs) (j : Nat) (x : Int) (hj : xs[j]? = some x) : w.cell? (a.add j) = some (.int k x) := by
  have hlt : j < n := by rw [← h.1]; exact (List.getElem?_eq_some_iff.1 hj).1
  obtain ⟨ad, e, hc⟩ := h.2.2 (by omega)
  obtain rfl := Option.some.inj e
  obtain ⟨c, _, hK, hu⟩ := hc j x hj
  have hK' : c = [.int k x] := hK
  subst hK'
  have := hu 0 _ rfl
  have e1 : (Kd.int k).sz = 1 := rfl
  rwa [e1, Nat.mul_one, Nat.add_zero] at this
theorem add_add (a : Addr) (i j : Nat) : (a.add i).add j = a.add (i + j) := by
  unfold Addr.add
  by_cases h1 : i = 0 <;> by_cases h2 : j = 0 <;> simp [h1, h2] <;> omega
theorem add_block (a : Addr) (i : Nat) : (a.add i).block = a.block := by unfold Addr.add; split <;> rfl

set_option maxHeartbeats 2000000 in
set_option maxRecDepth 100000 in
theorem read_some (w : World) (r d : Nat) (a : Addr) (n c m cm i : Nat) (pr : Int) (data : List Int) (ds : Array Value)
    (hr : w.heap[r]? = some (rdr (some a) n c i pr)) (hC : (Kd.int .u8).C w (some a) n data) (hi : i < n) (hnc : n ≤ c) (hn : n ≤ 1000000000000)
    (hd : w.heap[d]? = some (.cells ds 5 (0, 0))) (hds : ds.size = m) (hm : 0 < m) (hmm : m ≤ 1000000000000) (hrd : r ≠ d) (hra : r ≠ a.block) (hda : d ≠ a.block) :
    Calls Tryz.prog 130 #[.pointer (some ⟨r, 0, none⟩), .slice (some ⟨d, 0, none⟩) m cm] w fun e w' =>
      e = .returned (.tuple #[.int .i64 ((min m (n - i) : Nat) : Int), .nilIface]) ∧ Kp w w' (fun b => b = r ∨ b = d) ∧ w'.heap[r]? = some (rdr (some a) n c (i + min m (n - i)) (-1)) ∧
      w'.heap[d]? = some (.cells (u8s ((data.drop i).take m) ++ ds.toList.drop (min m (n - i))).toArray 5 (0, 0)) := by
  have c0 := cells_at hr 0 _ rfl
  have c1 := cells_at hr 1 _ rfl
  have c2 := cells_at hr 2 _ rfl
  have f1 := froz_at hr 1
  have f2 := froz_at hr 2
  have hlt : ¬ ((i : Int) ≥ (n : Int)) := by omega
  have hci : ¬ c = i := by omega
  have p1 : (0 : Int) ≤ i := by omega
  have p2 : (i : Int) ≤ n := by omega
  go_enter Tryz.func130, Tryz.ntmps130
  have hle : decide (n ≤ i) = false := decide_eq_false (by omega)
  go_wp2
  go_quiet (fail)
  go_wp2
  obtain ⟨X, hX⟩ : ∃ X, X = (w.drewN nq).setCell ⟨r, 2, none⟩ (.int .i64 (-1)) := ⟨_, rfl⟩
  rw [← hX]
  have hr1 : X.heap[r]? = some (rdr (some a) n c i (-1)) := by
    rw [hX]; exact blk_put (by rw [heap_drewN]; exact hr) 2 _ rfl
  have hd1 : X.heap[d]? = some (.cells ds 5 (0, 0)) := by
    rw [hX]; exact blk_far (by rw [heap_drewN]; exact hd) (Ne.symm hrd) _
  have HX := Aside0.mk hX
  clear hX c0 c1 c2 f1 f2
  have c0 := cells_at hr1 0 _ rfl
  have c1 := cells_at hr1 1 _ rfl
  have hdr : ∀ p, X.drew.cell? p = X.cell? p := fun p => by simp
  go_still_tail 10, (by kernel_rfl)
  obtain ⟨Y, hY⟩ : ∃ Y, Y = X.drew := ⟨_, rfl⟩
  have hY' : ({ heap := X.heap, tape := X.tape, drawn := X.drawn + 1, os := X.os, output := X.output } : World) = Y := hY.symm
  rw [hY']
  have hYh : Y.heap = X.heap := by rw [hY]; rfl
  have hYe : Env X Y := by rw [hY]; exact ⟨rfl, rfl, rfl⟩
  have HYe := Aside0.mk hYe
  clear hY hY' hdr c0 c1 hYe
  have hk : (u8s ((data.drop i).take m)).length = min m (n - i) := by
    have := hC.1
    simp [u8s, this]
  obtain ⟨Z, hZ⟩ : ∃ Z, Z = Y.setRow d (ds.toList.take 0 ++ u8s ((data.drop i).take m) ++ ds.toList.drop (0 + (u8s ((data.drop i).take m)).length)).toArray := ⟨_, rfl⟩
  have hcp := run_copy_row (P := Tryz.prog) Y 46 46 3 5 d 0 m cm (a.add i) (n - i) (c - i) ds 5 (u8s ((data.drop i).take m)) Tryz.underlying46 int_info
    (by rw [hYh]; exact hd1) (by rw [hk]; exact Nat.min_comm _ _) (fun j v hj => by
      rw [u8s, List.getElem?_map] at hj
      obtain ⟨x, hx, rfl⟩ := Option.map_eq_some_iff.1 hj
      rw [List.getElem?_take] at hx
      split at hx
      · rw [List.getElem?_drop] at hx
        rw [add_add]
        have h_ : Y.heap[a.block]? = w.heap[a.block]? := by
          rw [hYh, HX.out, Below.heap_setCell _ _ _ _ (Ne.symm hra), heap_drewN]
        have hb := add_block a (i + j)
        have := C_cells hC (i + j) x hx
        unfold World.cell? at this ⊢
        rw [hb] at this ⊢
        rw [h_]
        exact this
      · cases hx) (by rw [hk, hds]; omega) (fun v hv => by
      simp only [u8s, List.mem_map] at hv
      obtain ⟨x, _, rfl⟩ := hv
      rfl)
  rw [← hZ, hk] at hcp
  have hZr : Z.heap[r]? = some (rdr (some a) n c i (-1)) := by rw [hZ, setRow_other _ _ _ _ hrd, hYh]; exact hr1
  have hZd : Z.heap[d]? = some (.cells (u8s ((data.drop i).take m) ++ ds.toList.drop (min m (n - i))).toArray 5 (0, 0)) := by
    rw [hZ, setRow_heap _ _ _ _ _ _ (by rw [hYh]; exact hd1), hk]; simp
  have HZ := Aside0.mk hZ
  have HEnv : Aside0 (Env w Z) := ⟨(show Env w X by rw [HX.out]; exact ⟨rfl, rfl, rfl⟩).trans (HYe.out.trans (by rw [hZ]; exact ⟨rfl, rfl, rfl⟩))⟩
  have HY := Aside0.mk hYh
  clear hZ hYh
  have c1 := cells_at hZr 1 _ rfl
  have f1 := froz_at hZr 1
  go_wp2
  go_ret2
  refine ⟨rfl, ⟨?_, fun b hb hS => ?_, HEnv.out.trans ⟨rfl, rfl, rfl⟩⟩, ?_, ?_⟩
  · rw [size_setCell, HZ.out, size_setRow, HY.out, HX.out, size_setCell, heap_drewN]; exact Nat.le_refl _
  · have hb1 : b ≠ r := fun e => hS (.inl e)
    have hb2 : b ≠ d := fun e => hS (.inr e)
    rw [Below.heap_setCell _ _ _ _ hb1, HZ.out, setRow_other _ _ _ _ hb2, HY.out, HX.out, Below.heap_setCell _ _ _ _ hb1, heap_drewN]
  · exact blk_put hZr 1 _ (by rw [show ((i + min m (n - i) : Nat) : Int) = (i : Int) + (min m (n - i) : Nat) by omega]; rfl)
  · exact blk_far hZd (Ne.symm hrd) _

theorem drewN_add (w : World) (a b : Nat) : (w.drewN a).drewN b = w.drewN (a + b) := by simp [World.drewN, Nat.add_assoc]
theorem blk_lt_cell {w : World} {p : Addr} {v : Value} (h : w.cell? p = some v) : p.block < w.heap.size := by
  rcases Nat.lt_or_ge p.block w.heap.size with h' | h'
  · exact h'
  · unfold World.cell? at h; simp [Array.getElem?_eq_none h'] at h
structure Snt (w : World) : Prop where
  eof : ∃ a, w.cell? ⟨1, 0, none⟩ = some (.iface 110 (.pointer (some a)))
  bad : ∃ t x, w.cell? ⟨2, 0, none⟩ = some (.iface t x)
theorem cell_block {w X : World} {p : Addr} (h : X.heap[p.block]? = w.heap[p.block]?) : X.cell? p = w.cell? p := by
  unfold World.cell?; rw [h]
theorem Snt.move {w w' : World} (h : Snt w) (h1 : w'.heap[1]? = w.heap[1]?) (h2 : w'.heap[2]? = w.heap[2]?) : Snt w' :=
  ⟨by obtain ⟨a, ha⟩ := h.eof; exact ⟨a, (cell_block (p := ⟨1, 0, none⟩) h1).trans ha⟩, by obtain ⟨t, x, ha⟩ := h.bad; exact ⟨t, x, (cell_block (p := ⟨2, 0, none⟩) h2).trans ha⟩⟩

set_option maxHeartbeats 2000000 in
set_option maxRecDepth 100000 in
theorem read_eof (w : World) (r : Nat) (A B : Option Addr) (n c m cm : Nat) (pr : Int) (hs : Snt w) (hr : w.heap[r]? = some (rdr A n c n pr)) :
    Calls Tryz.prog 130 #[.pointer (some ⟨r, 0, none⟩), .slice B m cm] w fun e w' =>
      ∃ a, e = .returned (.tuple #[.int .i64 0, .iface 110 (.pointer (some a))]) ∧ w.cell? ⟨1, 0, none⟩ = some (.iface 110 (.pointer (some a))) ∧ ∃ q, w' = w.drewN q := by
  have c0 := cells_at hr 0 _ rfl
  have c1 := cells_at hr 1 _ rfl
  obtain ⟨aE, hE⟩ := hs.eof
  go_enter Tryz.func130, Tryz.ntmps130
  go_wp2
  go_quiet (fail)
  go_wp2
  go_quiet (fail)
  go_wp2
  go_ret2
  exact ⟨aE, rfl, hE, _, drewN_add _ _ _⟩

theorem rd_ahead (a : Addr) (w : World) : (nilAhead 282 58 (.pointer (some a)) "Read").run Tryz.prog w = .ok (some false) w := by kernel_rfl
theorem rd_method (a : Addr) (w : World) : (method 282 58 (.pointer (some a)) "Read").run Tryz.prog w = .ok (130, .pointer (some a)) w := by kernel_rfl
set_option maxHeartbeats 2000000 in
set_option maxRecDepth 100000 in
theorem atLeast_full (w : World) (r d : Nat) (a : Addr) (n c m i : Nat) (pr : Int) (data : List Int) (ds : Array Value)
    (hr : w.heap[r]? = some (rdr (some a) n c i pr)) (hC : (Kd.int .u8).C w (some a) n data) (hi : i + m ≤ n) (hnc : n ≤ c) (hn : n ≤ 1000000000000)
    (hd : w.heap[d]? = some (.cells ds 5 (0, 0))) (hds : ds.size = m) (hm : 0 < m) (hrd : r ≠ d) (hra : r ≠ a.block) (hda : d ≠ a.block) :
    Calls Tryz.prog 76 #[.iface 58 (.pointer (some ⟨r, 0, none⟩)), .slice (some ⟨d, 0, none⟩) m m, .int .i64 m] w fun e w' =>
      e = .returned (.tuple #[.int .i64 m, .nilIface]) ∧ Kp w w' (fun b => b = r ∨ b = d) ∧ w'.heap[r]? = some (rdr (some a) n c (i + m) (-1)) ∧
      w'.heap[d]? = some (.cells (u8s ((data.drop i).take m)).toArray 5 (0, 0)) := by
  have hk : min m (n - i) = m := by omega
  have C1 := Aside0.mk fun (q : Nat) => read_some (w.drewN q) r d a n c m m i pr data ds hr (Kd.C_drewN hC q) (by omega) hnc hn hd hds hm (by omega) hrd hra hda
  simp only [hk] at C1
  have hdl : ds.toList.drop m = [] := List.drop_eq_nil_of_le (by simp [hds])
  simp only [hdl, List.append_nil] at C1
  clear hdl hk hr hC hd hnc
  have p0 : ¬ (m : Int) < m := by omega
  have p1 : (0 : Int) < m := by omega
  have p2 : m ≤ 1000000000000 := by omega
  have n1 := rd_ahead
  have n2 := rd_method
  go_enter Tryz.func76, Tryz.ntmps76
  go_wp2
  go_loopg [6, 7] 1 (fun kq v6 v7 w' => (kq = 1 ∧ v6 = .int .i64 0 ∧ v7 = .nilIface ∧ Aside0 (w' = w)) ∨ (kq = 0 ∧ v6 = .int .i64 m ∧ v7 = .nilIface ∧ Aside0 (Kp w w' (fun b => b = r ∨ b = d) ∧ w'.heap[r]? = some (rdr (some a) n c (i + m) (-1)) ∧ w'.heap[d]? = some (.cells (u8s ((data.drop i).take m)).toArray 5 (0, 0)))))
  case atStart => exact .inl ⟨rfl, rfl, rfl, ⟨rfl⟩⟩
  case round =>
    rcases hrel with ⟨hq, rfl, rfl, hw⟩ | ⟨hq, rfl, rfl, HP⟩
    · obtain ⟨hw⟩ := hw
      subst hw
      have d1 : decide ((0 : Int) < (m : Int)) = true := decide_eq_true p1
      go_wp2_with fail
      go_region_with ((go_at_call 130; refine (C1.out _).mono ?_; rintro _ W2 ⟨rfl, HP_⟩; have HP := Aside0.mk HP_; clear HP_))
      go_wp2_with fail
      subst hq
      go_roundg 0
      case measure => omega
      case rel => exact .inr ⟨rfl, rfl, rfl, ⟨HP.out.1.ofN, HP.out.2⟩⟩
    · go_wp2_with fail
      go_ret2
      exact ⟨rfl, HP.out⟩

def Short (w : World) (S : Nat → Prop) (k : Nat) (e : Ending) (w' : World) : Prop := ∃ t x, e = .returned (.tuple #[.int .i64 (k : Int), .iface t x]) ∧ Kp w w' S
theorem err_comp : (Tryz.prog.info? 110).map (·.comparable) = some true := by kernel_rfl
theorem err_size : (Tryz.prog.info? 112).map (·.size) = some 1 := by kernel_rfl
theorem eof_eq (a : Addr) (w : World) : (binOp .eql 55 (.iface 110 (.pointer (some a))) (.iface 110 (.pointer (some a)))).run Tryz.prog w = .ok (.bool true) w := by
  obtain ⟨i, hi, hcmp⟩ := Option.map_eq_some_iff.1 err_comp
  obtain ⟨j, hj, _⟩ := Option.map_eq_some_iff.1 err_size
  exact run_eql_iface_ptr_same w a Tryz.underlying55 Tryz.underlying110 hi hcmp hj

set_option maxHeartbeats 4000000 in
set_option maxRecDepth 100000 in
theorem atLeast_short (w : World) (r d : Nat) (A : Option Addr) (n c m i : Nat) (pr : Int) (data : List Int) (ds : Array Value) (hs : Snt w)
    (hr : w.heap[r]? = some (rdr A n c i pr)) (hC : (Kd.int .u8).C w A n data) (hi : n < i + m) (hin : i ≤ n) (hnc : n ≤ c) (hn : n ≤ 1000000000000)
    (hd : w.heap[d]? = some (.cells ds 5 (0, 0))) (hds : ds.size = m) (hm : 0 < m) (hmm : m ≤ 1000000000000) (hrd : r ≠ d) (hra : ∀ a, A = some a → 0 < n → r ≠ a.block ∧ d ≠ a.block)
    (hg : 1 ≠ r ∧ 1 ≠ d ∧ 2 ≠ r ∧ 2 ≠ d) :
    Calls Tryz.prog 76 #[.iface 58 (.pointer (some ⟨r, 0, none⟩)), .slice (some ⟨d, 0, none⟩) m m, .int .i64 m] w (Short w (fun b => b = r ∨ b = d) (n - i)) := by
  have n1 := rd_ahead
  have n2 := rd_method
  have n3 := eof_eq
  obtain ⟨aE, hE⟩ := hs.eof
  obtain ⟨tb, xb, hbad⟩ := hs.bad
  have HS := Aside0.mk hs
  have HR := Aside0.mk hr
  have HC := Aside0.mk hC
  have HD := Aside0.mk hd
  have HE := Aside0.mk hE
  have HBad := Aside0.mk hbad
  have HG := Aside0.mk hg
  have HRA := Aside0.mk hra
  clear hs hr hC hd hE hbad hg hra
  have p0 : ¬ (m : Int) < m := by omega
  have p1 : (0 : Int) < m := by omega
  go_enter Tryz.func76, Tryz.ntmps76
  go_wp2
  go_loopg [6, 7] 2 (fun kq v6 v7 w' => (kq = 2 ∧ v6 = .int .i64 0 ∧ v7 = .nilIface ∧ Aside0 (w' = w)) ∨ (kq = 1 ∧ v6 = .int .i64 ((n - i : Nat) : Int) ∧ v7 = .nilIface ∧ Aside0 (Kp w w' (fun b => b = r ∨ b = d) ∧ w'.heap[r]? = some (rdr A n c n (-1)))) ∨
    (kq = 0 ∧ v6 = .int .i64 ((n - i : Nat) : Int) ∧ v7 = .iface 110 (.pointer (some aE)) ∧ Aside0 (Kp w w' (fun b => b = r ∨ b = d))))
  case atStart => exact .inl ⟨rfl, rfl, rfl, ⟨rfl⟩⟩
  case round =>
    rcases hrel with ⟨hq, rfl, rfl, hw⟩ | ⟨hq, rfl, rfl, HP⟩ | ⟨hq, rfl, rfl, HP⟩
    · obtain ⟨hw⟩ := hw
      subst hw
      have d1 : decide ((0 : Int) < (m : Int)) = true := decide_eq_true p1
      by_cases hlt : i < n
      · obtain ⟨a, rfl⟩ : ∃ a, A = some a := by
          obtain ⟨a, e, _⟩ := HC.out.2.2 (by omega)
          exact ⟨a, e⟩
        have C1 := Aside0.mk fun (q : Nat) => read_some (wr.drewN q) r d a n c m m i pr data ds HR.out (Kd.C_drewN HC.out q) hlt hnc hn HD.out hds hm hmm hrd (HRA.out a rfl (by omega)).1 (HRA.out a rfl (by omega)).2
        simp only [show min m (n - i) = n - i by omega, show i + (n - i) = n by omega] at C1
        go_wp2_with fail
        go_region_with ((go_at_call 130; refine (C1.out _).mono ?_; rintro _ W2 ⟨rfl, HP_⟩; have HP := Aside0.mk HP_; clear HP_))
        go_wp2_with fail
        subst hq
        go_roundg 1
        case measure => omega
        case rel => exact .inr (.inl ⟨rfl, rfl, rfl, ⟨HP.out.1.ofN, HP.out.2.1⟩⟩)
      · obtain rfl : i = n := by omega
        have C1 := Aside0.mk fun (q : Nat) => read_eof (wr.drewN q) r A (some ⟨d, 0, none⟩) i c m m pr (HS.out.move rfl rfl) HR.out
        go_wp2_with fail
        go_region_with ((go_at_call 130; refine (C1.out _).mono ?_; rintro _ W2 ⟨a9, rfl, ha9, HP_⟩; have HP := Aside0.mk HP_; have HA := Aside0.mk ha9; clear HP_ ha9))
        obtain rfl : a9 = aE := by
          have h_ := HA.out
          have h2_ : wr.cell? ⟨1, 0, none⟩ = _ := h_
          rw [HE.out] at h2_
          simpa using h2_.symm
        go_wp2_with fail
        subst hq
        go_roundg 0
        case measure => omega
        case rel =>
          refine .inr (.inr ⟨rfl, by rw [Nat.sub_self]; rfl, rfl, ⟨?_⟩⟩)
          obtain ⟨q, hq⟩ := HP.out
          rw [hq]
          exact ⟨Nat.le_refl _, fun _ _ _ => rfl, rfl, rfl, rfl⟩
    · have hlt : ((n - i : Nat) : Int) < m := by omega
      have d1 : decide (((n - i : Nat) : Int) < (m : Int)) = true := decide_eq_true hlt
      have hS : Snt wr := HS.out.move (HP.out.1.2 _ (blk_lt_cell HE.out) (by rintro (h | h); exact HG.out.1 h; exact HG.out.2.1 h)) (HP.out.1.2 _ (blk_lt_cell HBad.out) (by rintro (h | h); exact HG.out.2.2.1 h; exact HG.out.2.2.2 h))
      have HE2 : Aside0 (wr.cell? ⟨1, 0, none⟩ = some (.iface 110 (.pointer (some aE)))) := ⟨(cell_block (HP.out.1.2 _ (blk_lt_cell HE.out) (by rintro (h | h); exact HG.out.1 h; exact HG.out.2.1 h))).trans HE.out⟩
      obtain ⟨k, hk⟩ : ∃ k, k = n - i := ⟨_, rfl⟩
      have p2 : k ≤ m := by omega
      have HK := Aside0.mk hk
      rw [← hk] at hlt d1 ⊢
      have p3 : (k : Int) ≤ m := by omega
      have p4 : ¬ m = k := by omega
      have HS2 := Aside0.mk hS
      clear hS hk
      have p6 : (0 : Int) ≤ k := by omega
      have C1 := Aside0.mk fun (q : Nat) (B : Option Addr) (x y : Nat) => read_eof (wr.drewN q) r A B n c x y (-1) (HS2.out.move rfl rfl) HP.out.2
      go_wp2_with fail
      go_region_with ((go_at_call 130; refine (C1.out _ _ _ _).mono ?_; rintro _ W2 ⟨a9, rfl, ha9, HP_⟩; have HP2 := Aside0.mk HP_; have HA := Aside0.mk ha9; clear HP_ ha9))
      obtain rfl : a9 = aE := by
        have h_ := HA.out
        have h2_ : wr.cell? ⟨1, 0, none⟩ = _ := h_
        rw [HE2.out] at h2_
        simpa using h2_.symm
      go_wp2_with fail
      subst hq
      go_roundg 0
      case measure => omega
      case rel =>
        refine .inr (.inr ⟨rfl, by rw [← HK.out], rfl, ⟨?_⟩⟩)
        obtain ⟨q, hq⟩ := HP2.out
        rw [hq]
        exact (HP.out.1.toN _).toN _
    · obtain ⟨k, hk⟩ : ∃ k, k = n - i := ⟨_, rfl⟩
      have p2 : (k : Int) < m := by omega
      have d1 : decide ((k : Int) < (m : Int)) = true := decide_eq_true p2
      rw [← hk]
      have HK := Aside0.mk hk
      have HU : Aside0 (wr.cell? ⟨2, 0, none⟩ = some (.iface tb xb)) := ⟨(cell_block (HP.out.2 _ (blk_lt_cell HBad.out) (by rintro (h | h); exact HG.out.2.2.1 h; exact HG.out.2.2.2 h))).trans HBad.out⟩
      have HE2 : Aside0 (wr.cell? ⟨1, 0, none⟩ = some (.iface 110 (.pointer (some aE)))) := ⟨(cell_block (HP.out.2 _ (blk_lt_cell HE.out) (by rintro (h | h); exact HG.out.1 h; exact HG.out.2.1 h))).trans HE.out⟩
      have hu := HU.out
      have he := HE2.out
      clear hk
      by_cases h0 : (k : Int) > 0
      · have d2 : decide ((k : Int) > 0) = true := decide_eq_true h0
        go_wp2_with fail
        go_ret2
        exact ⟨_, _, by rw [← HK.out]; rfl, HP.out⟩
      · have d2 : decide ((k : Int) > 0) = false := decide_eq_false h0
        go_wp2_with fail
        go_ret2
        exact ⟨_, _, by rw [← HK.out]; rfl, HP.out⟩
end Go.Proofs.YtaejkbjepbifcabGreatDoor.Num
namespace Go.Proofs.YtaejkbjepbifcabGreatDoor.Num
open Go.RowKit Go.Proofs.YtaejkbjepbifcabGreatDoorW.PrintWords Go.Proofs.YtaejkbjepbifcabGreatDoor.Plain
set_option linter.unusedVariables false

def leb : Nat → Int → List Int
  | 0, _ => []
  | k + 1, u => (u % 256) :: leb k (u / 256)

theorem leb_one (k : Nat) : ∀ u : Int, ∀ x ∈ leb k u, 0 ≤ x ∧ x < 256 := by
  induction k with
  | zero => intro u x hx; cases hx
  | succ k ih =>
    intro u x hx
    rcases List.mem_cons.1 hx with rfl | hx
    · omega
    · exact ih _ x hx
theorem leb_length (k : Nat) : ∀ u : Int, (leb k u).length = k := by
  induction k with
  | zero => intro u; rfl
  | succ k ih => intro u; simp [leb, ih]
theorem u8s_one (l : List Int) : ∀ v ∈ u8s l, v.oneCell' = true := fun v hv => by
  simp only [u8s, List.mem_map] at hv
  obtain ⟨x, _, rfl⟩ := hv
  rfl
theorem leb8 (u : Int) : leb 8 u = [u % 256, u / 256 % 256, u / 65536 % 256, u / 16777216 % 256, u / 4294967296 % 256, u / 1099511627776 % 256, u / 281474976710656 % 256, u / 72057594037927936 % 256] := by
  simp only [leb]
  have h1 : u / 256 / 256 = u / 65536 := by omega
  have h2 : u / 65536 / 256 = u / 16777216 := by omega
  have h3 : u / 16777216 / 256 = u / 4294967296 := by omega
  have h4 : u / 4294967296 / 256 = u / 1099511627776 := by omega
  have h5 : u / 1099511627776 / 256 = u / 281474976710656 := by omega
  have h6 : u / 281474976710656 / 256 = u / 72057594037927936 := by omega
  rw [h1, h2, h3, h4, h5, h6]
theorem leb4 (u : Int) : leb 4 u = [u % 256, u / 256 % 256, u / 65536 % 256, u / 16777216 % 256] := by
  simp only [leb]
  have h1 : u / 256 / 256 = u / 65536 := by omega
  have h2 : u / 65536 / 256 = u / 16777216 := by omega
  rw [h1, h2]
theorem wrapu (v : Int) : IntKind.u64.wrap v = v % 18446744073709551616 := by
  simp [IntKind.wrap, IntKind.bits, IntKind.signed]
theorem bufCarry {T e : TypeId} {B b : Nat} {bs : List Value} {w w' : World} (h : Lib.IsBuffer T e B b bs w) (hb : ∀ k, k < w.heap.size → w'.heap[k]? = w.heap[k]?) : Lib.IsBuffer T e B b bs w' := by
  have hlt := h.lt
  obtain ⟨hB, v, lr, hbk, hown, hne⟩ := h
  refine ⟨hB, v, lr, by rw [hb _ hlt]; exact hbk, ?_, hne⟩
  obtain ⟨h1, h2⟩ := hown
  refine ⟨h1, ?_⟩
  rcases h2 with h2 | ⟨g, cap, cur, h3, h4, h5, h6⟩
  · exact .inl h2
  · exact .inr ⟨g, cap, cur, h3, h4, by rw [hb _ (blk_lt h5)]; exact h5, h6⟩
theorem bufAlloc {T e : TypeId} {B b : Nat} {bs : List Value} {w : World} (h : Lib.IsBuffer T e B b bs w) (x : Obj) : Lib.IsBuffer T e B b bs (w.alloc x) := bufCarry h fun k hk => Below.heap_alloc w x k hk
theorem bufDrewN {T e : TypeId} {B b : Nat} {bs : List Value} {w : World} (h : Lib.IsBuffer T e B b bs w) (n : Nat) : Lib.IsBuffer T e B b bs (w.drewN n) := bufCarry h fun _ _ => rfl
theorem setCell_heap_congr {w W : World} {g : Nat} (h : W.heap[g]? = w.heap[g]?) (o : Nat) (v : Value) : (W.setCell ⟨g, o, none⟩ v).heap[g]? = (w.setCell ⟨g, o, none⟩ v).heap[g]? := by
  simp only [World.setCell, Array.getElem?_modify, h]
theorem bw_method (a : Addr) (w : World) : (method 282 74 (.pointer (some a)) "Write").run Tryz.prog w = .ok (134, .pointer (some a)) w := by kernel_rfl
set_option maxHeartbeats 4000000 in
set_option maxRecDepth 100000 in
theorem write64 (B b : Nat) (bs : List Value) (v : Int) (w : World) (h : Lib.IsBuffer 71 5 B b bs w) (hBw : B ≤ w.heap.size) (h1 : ∀ v ∈ bs, v.oneCell' = true) (hlim : bs.length + 8 ≤ 140737488355328) :
    Calls Tryz.prog 70 #[.iface 74 (.pointer (some ⟨b, 0, none⟩)), .int .i64 v] w fun e w' => e = .returned .nilIface ∧ Lib.IsBuffer 71 5 B b (bs ++ u8s (leb 8 (v % 18446744073709551616))) w' ∧ Below B w w' ∧ Lib.OthersKept 5 (some b) w w' := by
  have n1 := bw_method
  have hmk : ∀ w, (Instr.makeSlice 46 (.int .i64 8) (.int .i64 8)).run Tryz.prog w = .ok (.slice (some ⟨w.heap.size, 0, none⟩) 8 8) (w.alloc (.cells #[.int .u8 0, .int .u8 0, .int .u8 0, .int .u8 0, .int .u8 0, .int .u8 0, .int .u8 0, .int .u8 0] 5)) := fun _ => by kernel_rfl
  go_enter Tryz.func70, Tryz.ntmps70
  go_wp2_with (go_at_call 71; refine (size64 _ _).mono ?_; rintro _ _ ⟨rfl, rfl⟩)
  refine wp_loop_rounds 10 ?_
  iterate 9 (rw [rounds_succ]; go_wp2_with fail)
  have hl := leb8 (IntKind.u64.wrap v)
  have hlt := h.lt
  refine (Tryz.Buffer_Write_any B b bs (u8s (leb 8 (IntKind.u64.wrap v))) ⟨w.heap.size, 0, none⟩ 8 8 _ (bufAlloc h _) (by rw [Own.size_alloc]; omega) h1 (by simp [u8s, leb_length]) (by simp; omega) (fun j v hj => ?_) (u8s_one _) hlim).mono ?_
  · rw [hl] at hj
    have : (⟨w.heap.size, 0, none⟩ : Addr).add j = ⟨w.heap.size, j, none⟩ := by unfold Addr.add; by_cases h : j = 0 <;> simp [h]
    rw [this, Own.alloc_cell]
    simpa [u8s] using hj
  · rintro _ W2 ⟨rfl, hI, hB2, hO2⟩
    have HO2 := Aside0.mk hO2
    clear hO2
    have HI := Aside0.mk hI
    have HB2 := Aside0.mk hB2
    clear hI hB2 hl
    go_wp2_with fail
    go_ret
    exact ⟨rfl, by rw [← wrapu]; exact HI.out, (Below.refl _ _).alloc hBw _ |>.trans HB2.out, fun k o hk hne ht => HO2.out k o (by rw [Below.heap_alloc _ _ _ (blk_lt hk)]; exact hk) hne ht⟩
set_option maxHeartbeats 4000000 in
set_option maxRecDepth 100000 in
theorem write32 (B b : Nat) (bs : List Value) (v : Int) (w : World) (h : Lib.IsBuffer 71 5 B b bs w) (hBw : B ≤ w.heap.size) (h1 : ∀ v ∈ bs, v.oneCell' = true) (hlim : bs.length + 4 ≤ 140737488355328) :
    Calls Tryz.prog 72 #[.iface 74 (.pointer (some ⟨b, 0, none⟩)), .int .i32 v] w fun e w' => e = .returned .nilIface ∧ Lib.IsBuffer 71 5 B b (bs ++ u8s (leb 4 (v % 18446744073709551616))) w' ∧ Below B w w' ∧ Lib.OthersKept 5 (some b) w w' := by
  have n1 := bw_method
  have hmk : ∀ w, (Instr.makeSlice 46 (.int .i64 4) (.int .i64 4)).run Tryz.prog w = .ok (.slice (some ⟨w.heap.size, 0, none⟩) 4 4) (w.alloc (.cells #[.int .u8 0, .int .u8 0, .int .u8 0, .int .u8 0] 5)) := fun _ => by kernel_rfl
  go_enter Tryz.func72, Tryz.ntmps72
  go_wp2_with (go_at_call 73; refine (size32 _ _).mono ?_; rintro _ _ ⟨rfl, rfl⟩)
  refine wp_loop_rounds 6 ?_
  iterate 5 (rw [rounds_succ]; go_wp2_with fail)
  have hl := leb4 (IntKind.u64.wrap v)
  have hlt := h.lt
  refine (Tryz.Buffer_Write_any B b bs (u8s (leb 4 (IntKind.u64.wrap v))) ⟨w.heap.size, 0, none⟩ 4 4 _ (bufAlloc h _) (by rw [Own.size_alloc]; omega) h1 (by simp [u8s, leb_length]) (by simp; omega) (fun j v hj => ?_) (u8s_one _) hlim).mono ?_
  · rw [hl] at hj
    have : (⟨w.heap.size, 0, none⟩ : Addr).add j = ⟨w.heap.size, j, none⟩ := by unfold Addr.add; by_cases h : j = 0 <;> simp [h]
    rw [this, Own.alloc_cell]
    simpa [u8s] using hj
  · rintro _ W2 ⟨rfl, hI, hB2, hO2⟩
    have HO2 := Aside0.mk hO2
    clear hO2
    have HI := Aside0.mk hI
    have HB2 := Aside0.mk hB2
    clear hI hB2 hl
    go_wp2_with fail
    go_ret
    exact ⟨rfl, by rw [← wrapu]; exact HI.out, (Below.refl _ _).alloc hBw _ |>.trans HB2.out, fun k o hk hne ht => HO2.out k o (by rw [Below.heap_alloc _ _ _ (blk_lt hk)]; exact hk) hne ht⟩

open Go.Lib in
theorem or8 {x0 x1 x2 x3 x4 x5 x6 x7 : Int} (l0 : 0 ≤ x0) (m0 : x0 < 256) (l1 : 0 ≤ x1) (m1 : x1 < 256) (l2 : 0 ≤ x2) (m2 : x2 < 256) (l3 : 0 ≤ x3) (m3 : x3 < 256) (l4 : 0 ≤ x4) (m4 : x4 < 256) (l5 : 0 ≤ x5) (m5 : x5 < 256) (l6 : 0 ≤ x6) (m6 : x6 < 256) (l7 : 0 ≤ x7) (m7 : x7 < 256) :
    bits .or .u64 (bits .or .u64 (bits .or .u64 (bits .or .u64 (bits .or .u64 (bits .or .u64 (bits .or .u64 (bits .or .u64 0 x0) (x1 * 256)) (x2 * 65536)) (x3 * 16777216)) (x4 * 4294967296)) (x5 * 1099511627776)) (x6 * 281474976710656)) (x7 * 72057594037927936)
      = x0 + x1 * 256 + x2 * 65536 + x3 * 16777216 + x4 * 4294967296 + x5 * 1099511627776 + x6 * 281474976710656 + x7 * 72057594037927936 := by
  have e0 : bits .or .u64 0 x0 = x0 := by
    have := bits_join_low .u64 64 (by decide) (fun n h0 h1 => wraps_u64 n h0 h1) 0 0 x0 (by omega) (by omega) (by omega) l0 (by omega) (by omega)
    rw [this]; omega
  have e1 : bits .or .u64 x0 (x1 * 256) = x0 + x1 * 256 := u64_or8 _ _ l0 m0 (by omega) (by omega) (by omega)
  have e2 : bits .or .u64 (x0 + x1 * 256) (x2 * 65536) = x0 + x1 * 256 + x2 * 65536 := u64_or16 _ _ (by omega) (by omega) (by omega) (by omega) (by omega)
  have e3 : bits .or .u64 (x0 + x1 * 256 + x2 * 65536) (x3 * 16777216) = x0 + x1 * 256 + x2 * 65536 + x3 * 16777216 := u64_or24 _ _ (by omega) (by omega) (by omega) (by omega) (by omega)
  have e4 : bits .or .u64 (x0 + x1 * 256 + x2 * 65536 + x3 * 16777216) (x4 * 4294967296) = x0 + x1 * 256 + x2 * 65536 + x3 * 16777216 + x4 * 4294967296 := u64_or32 _ _ (by omega) (by omega) (by omega) (by omega) (by omega)
  have e5 : bits .or .u64 (x0 + x1 * 256 + x2 * 65536 + x3 * 16777216 + x4 * 4294967296) (x5 * 1099511627776) = x0 + x1 * 256 + x2 * 65536 + x3 * 16777216 + x4 * 4294967296 + x5 * 1099511627776 := u64_or40 _ _ (by omega) (by omega) (by omega) (by omega) (by omega)
  have e6 : bits .or .u64 (x0 + x1 * 256 + x2 * 65536 + x3 * 16777216 + x4 * 4294967296 + x5 * 1099511627776) (x6 * 281474976710656) = x0 + x1 * 256 + x2 * 65536 + x3 * 16777216 + x4 * 4294967296 + x5 * 1099511627776 + x6 * 281474976710656 := u64_or48 _ _ (by omega) (by omega) (by omega) (by omega) (by omega)
  have e7 : bits .or .u64 (x0 + x1 * 256 + x2 * 65536 + x3 * 16777216 + x4 * 4294967296 + x5 * 1099511627776 + x6 * 281474976710656) (x7 * 72057594037927936) = x0 + x1 * 256 + x2 * 65536 + x3 * 16777216 + x4 * 4294967296 + x5 * 1099511627776 + x6 * 281474976710656 + x7 * 72057594037927936 := u64_or56 _ _ (by omega) (by omega) (by omega) (by omega) (by omega)
  rw [e0, e1, e2, e3, e4, e5, e6, e7]
def valb : List Int → Int
  | [] => 0
  | x :: l => x + 256 * valb l

set_option maxHeartbeats 2000000 in
theorem full_full (w : World) (r d : Nat) (a : Addr) (n c m i : Nat) (pr : Int) (data : List Int) (ds : Array Value)
    (hr : w.heap[r]? = some (rdr (some a) n c i pr)) (hC : (Kd.int .u8).C w (some a) n data) (hi : i + m ≤ n) (hnc : n ≤ c) (hn : n ≤ 1000000000000)
    (hd : w.heap[d]? = some (.cells ds 5 (0, 0))) (hds : ds.size = m) (hm : 0 < m) (hrd : r ≠ d) (hra : r ≠ a.block) (hda : d ≠ a.block) :
    Calls Tryz.prog 60 #[.iface 58 (.pointer (some ⟨r, 0, none⟩)), .slice (some ⟨d, 0, none⟩) m m] w fun e w' =>
      e = .returned (.tuple #[.int .i64 m, .nilIface]) ∧ Kp w w' (fun b => b = r ∨ b = d) ∧ w'.heap[r]? = some (rdr (some a) n c (i + m) (-1)) ∧
      w'.heap[d]? = some (.cells (u8s ((data.drop i).take m)).toArray 5 (0, 0)) := by
  have C1 := Aside0.mk (atLeast_full w r d a n c m i pr data ds hr hC hi hnc hn hd hds hm hrd hra hda)
  clear hr hC hd hi
  go_enter Tryz.func60, Tryz.ntmps60
  go_wp2_with fail
  refine C1.out.mono ?_
  rintro _ W2 ⟨rfl, HP_⟩
  have HP := Aside0.mk HP_
  clear HP_
  go_wp2_with fail
  go_ret2
  exact ⟨rfl, HP.out⟩
set_option maxHeartbeats 2000000 in
theorem full_short (w : World) (r d : Nat) (A : Option Addr) (n c m i : Nat) (pr : Int) (data : List Int) (ds : Array Value) (hs : Snt w)
    (hr : w.heap[r]? = some (rdr A n c i pr)) (hC : (Kd.int .u8).C w A n data) (hi : n < i + m) (hin : i ≤ n) (hnc : n ≤ c) (hn : n ≤ 1000000000000)
    (hd : w.heap[d]? = some (.cells ds 5 (0, 0))) (hds : ds.size = m) (hm : 0 < m) (hmm : m ≤ 1000000000000) (hrd : r ≠ d) (hra : ∀ a, A = some a → 0 < n → r ≠ a.block ∧ d ≠ a.block)
    (hg : 1 ≠ r ∧ 1 ≠ d ∧ 2 ≠ r ∧ 2 ≠ d) :
    Calls Tryz.prog 60 #[.iface 58 (.pointer (some ⟨r, 0, none⟩)), .slice (some ⟨d, 0, none⟩) m m] w (Short w (fun b => b = r ∨ b = d) (n - i)) := by
  have C1 := Aside0.mk (atLeast_short w r d A n c m i pr data ds hs hr hC hi hin hnc hn hd hds hm hmm hrd hra hg)
  clear hr hC hd hi hs hra hg
  go_enter Tryz.func60, Tryz.ntmps60
  go_wp2_with fail
  refine C1.out.mono ?_
  rintro _ W2 ⟨t, x, rfl, HP_⟩
  have HP := Aside0.mk HP_
  clear HP_
  go_wp2_with fail
  go_ret2
  exact ⟨t, x, rfl, HP.out⟩

set_option maxHeartbeats 4000000 in
set_option maxRecDepth 100000 in
theorem read64_ok (w : World) (r : Nat) (a : Addr) (n c i : Nat) (pr : Int) (data : List Int) (g o : Nat) (old : Int)
    (hr : w.heap[r]? = some (rdr (some a) n c i pr)) (hC : (Kd.int .u8).C w (some a) n data) (hb : ∀ x ∈ data, 0 ≤ x ∧ x < 256) (hi : i + 8 ≤ n) (hnc : n ≤ c) (hn : n ≤ 1000000000000) (hra : r ≠ a.block) (hab : a.block < w.heap.size)
    (hp : w.cell? ⟨g, o, none⟩ = some (.int .i64 old)) (hf : w.frozen? ⟨g, o, none⟩ = false) (hrp : r ≠ g) :
    Calls Tryz.prog 58 #[.iface 58 (.pointer (some ⟨r, 0, none⟩)), .pointer (some ⟨g, o, none⟩)] w fun e w' =>
      e = .returned .nilIface ∧ Kp w w' (fun b => b = r ∨ b = g) ∧ w'.heap[r]? = some (rdr (some a) n c (i + 8) (-1)) ∧ w'.heap[g]? = (w.setCell ⟨g, o, none⟩ (.int .i64 (wrap64 (valb ((data.drop i).take 8))))).heap[g]? := by
  have hmk : ∀ w, (Instr.makeSlice 46 (.int .i64 8) (.int .i64 8)).run Tryz.prog w = .ok (.slice (some ⟨w.heap.size, 0, none⟩) 8 8) (w.alloc (.cells #[.int .u8 0, .int .u8 0, .int .u8 0, .int .u8 0, .int .u8 0, .int .u8 0, .int .u8 0, .int .u8 0] 5)) := fun _ => by kernel_rfl
  have hrl := blk_lt hr
  have C1 := Aside0.mk (full_full (w.alloc (.cells #[.int .u8 0, .int .u8 0, .int .u8 0, .int .u8 0, .int .u8 0, .int .u8 0, .int .u8 0, .int .u8 0] 5)) r w.heap.size a n c 8 i pr data _ (blk_alloc hr _) (Kd.C_alloc hC _) hi hnc hn (blk_new w _) rfl (by omega) (by omega) hra (by omega))
  have HB := Aside0.mk hb
  have HR := Aside0.mk hr
  have HC := Aside0.mk hC
  have hgl : g < w.heap.size := blk_lt_cell hp
  clear hb hr hC
  go_enter Tryz.func58, Tryz.ntmps58
  go_wp2_with (go_at_call 71; refine (size64 _ _).mono ?_; rintro _ _ ⟨rfl, rfl⟩)
  refine C1.out.mono ?_
  rintro _ W2 ⟨rfl, hK, hr2, hd2⟩
  have hg2 : W2.heap[g]? = w.heap[g]? := by
    rw [hK.2 g (by rw [Own.size_alloc]; omega) (by rintro (h | h) <;> omega), Below.heap_alloc _ _ _ hgl]
  have hdl : ((data.drop i).take 8).length = 8 := by have := HC.out.1; simp [this]; omega
  obtain ⟨x0, x1, x2, x3, x4, x5, x6, x7, hx⟩ : ∃ x0 x1 x2 x3 x4 x5 x6 x7, (data.drop i).take 8 = [x0, x1, x2, x3, x4, x5, x6, x7] := by
    match h : (data.drop i).take 8, hdl with
    | [x0, x1, x2, x3, x4, x5, x6, x7], _ => exact ⟨_, _, _, _, _, _, _, _, rfl⟩
  have hbx : ∀ x ∈ [x0, x1, x2, x3, x4, x5, x6, x7], 0 ≤ x ∧ x < 256 := fun x hx' => by
    rw [← hx] at hx'
    exact HB.out x (List.mem_of_mem_drop (List.mem_of_mem_take hx'))
  simp only [List.mem_cons, List.not_mem_nil, or_false, forall_eq_or_imp, forall_eq] at hbx
  obtain ⟨⟨l0, m0⟩, ⟨l1, m1⟩, ⟨l2, m2⟩, ⟨l3, m3⟩, ⟨l4, m4⟩, ⟨l5, m5⟩, ⟨l6, m6⟩, l7, m7⟩ := hbx
  rw [hx] at hd2
  have d0 : W2.cell? ⟨w.heap.size, 0, none⟩ = some (.int .u8 x0) := cells_at hd2 0 _ rfl
  have d1 : W2.cell? ⟨w.heap.size, 1, none⟩ = some (.int .u8 x1) := cells_at hd2 1 _ rfl
  have d2 : W2.cell? ⟨w.heap.size, 2, none⟩ = some (.int .u8 x2) := cells_at hd2 2 _ rfl
  have d3 : W2.cell? ⟨w.heap.size, 3, none⟩ = some (.int .u8 x3) := cells_at hd2 3 _ rfl
  have d4 : W2.cell? ⟨w.heap.size, 4, none⟩ = some (.int .u8 x4) := cells_at hd2 4 _ rfl
  have d5 : W2.cell? ⟨w.heap.size, 5, none⟩ = some (.int .u8 x5) := cells_at hd2 5 _ rfl
  have d6 : W2.cell? ⟨w.heap.size, 6, none⟩ = some (.int .u8 x6) := cells_at hd2 6 _ rfl
  have d7 : W2.cell? ⟨w.heap.size, 7, none⟩ = some (.int .u8 x7) := cells_at hd2 7 _ rfl
  have HK := Aside0.mk hK
  have HR2 := Aside0.mk hr2
  have HG2 := Aside0.mk hg2
  have HX := Aside0.mk hx
  have hp2 : W2.cell? ⟨g, o, none⟩ = some (.int .i64 old) := (cell_block (p := ⟨g, o, none⟩) hg2).trans hp
  have hf2 : W2.frozen? ⟨g, o, none⟩ = false := by
    have h_ : W2.frozen? ⟨g, o, none⟩ = w.frozen? ⟨g, o, none⟩ := by unfold World.frozen?; rw [hg2]
    rw [h_]; exact hf
  clear hK hr2 hg2 hx hdl hd2 hp hf hrl hgl
  go_wp2_with fail
  refine wp_loop_rounds 10 ?_
  iterate 9 (rw [rounds_succ]; go_wp2_with fail)
  go_ret
  have hv := or8 l0 m0 l1 m1 l2 m2 l3 m3 l4 m4 l5 m5 l6 m6 l7 m7
  refine ⟨rfl, ?_⟩
  have hval : valb [x0, x1, x2, x3, x4, x5, x6, x7] = x0 + x1 * 256 + x2 * 65536 + x3 * 16777216 + x4 * 4294967296 + x5 * 1099511627776 + x6 * 281474976710656 + x7 * 72057594037927936 := by
    simp only [valb]; omega
  rw [hv, ← hval, ← HX.out]
  refine ⟨⟨?_, fun b hb hS => ?_, Env.trans (show Env w _ from ⟨rfl, rfl, rfl⟩) (HK.out.env.trans ⟨rfl, rfl, rfl⟩)⟩, ?_, ?_⟩
  · rw [size_setCell]; exact Nat.le_trans (by rw [Own.size_alloc]; omega) HK.out.1
  · have hb1 : b ≠ r := fun e => hS (.inl e)
    have hb2 : b ≠ g := fun e => hS (.inr e)
    rw [Below.heap_setCell _ _ _ _ hb2, HK.out.2 b (by rw [Own.size_alloc]; omega) (by rintro (h | h); exact hb1 h; omega), Below.heap_alloc _ _ _ hb]
  · rw [Below.heap_setCell _ _ _ _ hrp]; exact HR2.out
  · exact setCell_heap_congr HG2.out _ _
open Go.Lib in
theorem or4 {x0 x1 x2 x3 : Int} (l0 : 0 ≤ x0) (m0 : x0 < 256) (l1 : 0 ≤ x1) (m1 : x1 < 256) (l2 : 0 ≤ x2) (m2 : x2 < 256) (l3 : 0 ≤ x3) (m3 : x3 < 256) :
    bits .or .u64 (bits .or .u64 (bits .or .u64 (bits .or .u64 0 x0) (x1 * 256)) (x2 * 65536)) (x3 * 16777216) = x0 + x1 * 256 + x2 * 65536 + x3 * 16777216 := by
  have e0 : bits .or .u64 0 x0 = x0 := by
    have := bits_join_low .u64 64 (by decide) (fun n h0 h1 => wraps_u64 n h0 h1) 0 0 x0 (by omega) (by omega) (by omega) l0 (by omega) (by omega)
    rw [this]; omega
  have e1 : bits .or .u64 x0 (x1 * 256) = x0 + x1 * 256 := u64_or8 _ _ l0 m0 (by omega) (by omega) (by omega)
  have e2 : bits .or .u64 (x0 + x1 * 256) (x2 * 65536) = x0 + x1 * 256 + x2 * 65536 := u64_or16 _ _ (by omega) (by omega) (by omega) (by omega) (by omega)
  have e3 : bits .or .u64 (x0 + x1 * 256 + x2 * 65536) (x3 * 16777216) = x0 + x1 * 256 + x2 * 65536 + x3 * 16777216 := u64_or24 _ _ (by omega) (by omega) (by omega) (by omega) (by omega)
  rw [e0, e1, e2, e3]
set_option maxHeartbeats 4000000 in
set_option maxRecDepth 100000 in
theorem read32_ok (w : World) (r : Nat) (a : Addr) (n c i : Nat) (pr : Int) (data : List Int) (g o : Nat) (old : Int)
    (hr : w.heap[r]? = some (rdr (some a) n c i pr)) (hC : (Kd.int .u8).C w (some a) n data) (hb : ∀ x ∈ data, 0 ≤ x ∧ x < 256) (hi : i + 4 ≤ n) (hnc : n ≤ c) (hn : n ≤ 1000000000000) (hra : r ≠ a.block) (hab : a.block < w.heap.size)
    (hp : w.cell? ⟨g, o, none⟩ = some (.int .i32 old)) (hf : w.frozen? ⟨g, o, none⟩ = false) (hrp : r ≠ g) :
    Calls Tryz.prog 59 #[.iface 58 (.pointer (some ⟨r, 0, none⟩)), .pointer (some ⟨g, o, none⟩)] w fun e w' =>
      e = .returned .nilIface ∧ Kp w w' (fun b => b = r ∨ b = g) ∧ w'.heap[r]? = some (rdr (some a) n c (i + 4) (-1)) ∧ w'.heap[g]? = (w.setCell ⟨g, o, none⟩ (.int .i32 (wrap32 (valb ((data.drop i).take 4))))).heap[g]? := by
  have hmk : ∀ w, (Instr.makeSlice 46 (.int .i64 4) (.int .i64 4)).run Tryz.prog w = .ok (.slice (some ⟨w.heap.size, 0, none⟩) 4 4) (w.alloc (.cells #[.int .u8 0, .int .u8 0, .int .u8 0, .int .u8 0] 5)) := fun _ => by kernel_rfl
  have hrl := blk_lt hr
  have C1 := Aside0.mk (full_full (w.alloc (.cells #[.int .u8 0, .int .u8 0, .int .u8 0, .int .u8 0] 5)) r w.heap.size a n c 4 i pr data _ (blk_alloc hr _) (Kd.C_alloc hC _) hi hnc hn (blk_new w _) rfl (by omega) (by omega) hra (by omega))
  have HB := Aside0.mk hb
  have HR := Aside0.mk hr
  have HC := Aside0.mk hC
  have hgl : g < w.heap.size := blk_lt_cell hp
  clear hb hr hC
  go_enter Tryz.func59, Tryz.ntmps59
  go_wp2_with (go_at_call 73; refine (size32 _ _).mono ?_; rintro _ _ ⟨rfl, rfl⟩)
  refine C1.out.mono ?_
  rintro _ W2 ⟨rfl, hK, hr2, hd2⟩
  have hg2 : W2.heap[g]? = w.heap[g]? := by
    rw [hK.2 g (by rw [Own.size_alloc]; omega) (by rintro (h | h) <;> omega), Below.heap_alloc _ _ _ hgl]
  have hdl : ((data.drop i).take 4).length = 4 := by have := HC.out.1; simp [this]; omega
  obtain ⟨x0, x1, x2, x3, hx⟩ : ∃ x0 x1 x2 x3, (data.drop i).take 4 = [x0, x1, x2, x3] := by
    match h : (data.drop i).take 4, hdl with
    | [x0, x1, x2, x3], _ => exact ⟨_, _, _, _, rfl⟩
  have hbx : ∀ x ∈ [x0, x1, x2, x3], 0 ≤ x ∧ x < 256 := fun x hx' => by
    rw [← hx] at hx'
    exact HB.out x (List.mem_of_mem_drop (List.mem_of_mem_take hx'))
  simp only [List.mem_cons, List.not_mem_nil, or_false, forall_eq_or_imp, forall_eq] at hbx
  obtain ⟨⟨l0, m0⟩, ⟨l1, m1⟩, ⟨l2, m2⟩, l3, m3⟩ := hbx
  rw [hx] at hd2
  have d0 : W2.cell? ⟨w.heap.size, 0, none⟩ = some (.int .u8 x0) := cells_at hd2 0 _ rfl
  have d1 : W2.cell? ⟨w.heap.size, 1, none⟩ = some (.int .u8 x1) := cells_at hd2 1 _ rfl
  have d2 : W2.cell? ⟨w.heap.size, 2, none⟩ = some (.int .u8 x2) := cells_at hd2 2 _ rfl
  have d3 : W2.cell? ⟨w.heap.size, 3, none⟩ = some (.int .u8 x3) := cells_at hd2 3 _ rfl
  have HK := Aside0.mk hK
  have HR2 := Aside0.mk hr2
  have HG2 := Aside0.mk hg2
  have HX := Aside0.mk hx
  have hp2 : W2.cell? ⟨g, o, none⟩ = some (.int .i32 old) := (cell_block (p := ⟨g, o, none⟩) hg2).trans hp
  have hf2 : W2.frozen? ⟨g, o, none⟩ = false := by
    have h_ : W2.frozen? ⟨g, o, none⟩ = w.frozen? ⟨g, o, none⟩ := by unfold World.frozen?; rw [hg2]
    rw [h_]; exact hf
  clear hK hr2 hg2 hx hdl hd2 hp hf hrl hgl
  go_wp2_with fail
  refine wp_loop_rounds 6 ?_
  iterate 5 (rw [rounds_succ]; go_wp2_with fail)
  go_ret
  have hv := or4 l0 m0 l1 m1 l2 m2 l3 m3
  refine ⟨rfl, ?_⟩
  have hval : valb [x0, x1, x2, x3] = x0 + x1 * 256 + x2 * 65536 + x3 * 16777216 := by
    simp only [valb]; omega
  rw [hv, ← hval, ← HX.out]
  refine ⟨⟨?_, fun b hb hS => ?_, Env.trans (show Env w _ from ⟨rfl, rfl, rfl⟩) (HK.out.env.trans ⟨rfl, rfl, rfl⟩)⟩, ?_, ?_⟩
  · rw [size_setCell]; exact Nat.le_trans (by rw [Own.size_alloc]; omega) HK.out.1
  · have hb1 : b ≠ r := fun e => hS (.inl e)
    have hb2 : b ≠ g := fun e => hS (.inr e)
    rw [Below.heap_setCell _ _ _ _ hb2, HK.out.2 b (by rw [Own.size_alloc]; omega) (by rintro (h | h); exact hb1 h; omega), Below.heap_alloc _ _ _ hb]
  · rw [Below.heap_setCell _ _ _ _ hrp]; exact HR2.out
  · exact setCell_heap_congr HG2.out _ _
def ShortE (w : World) (S : Nat → Prop) (e : Ending) (w' : World) : Prop := ∃ t x, e = .returned (.iface t x) ∧ Kp w w' S
set_option maxHeartbeats 4000000 in
set_option maxRecDepth 100000 in
theorem read64_short (w : World) (r : Nat) (A : Option Addr) (n c i : Nat) (pr : Int) (data : List Int) (g o : Nat) (old : Int) (hs : Snt w)
    (hr : w.heap[r]? = some (rdr A n c i pr)) (hC : (Kd.int .u8).C w A n data) (hi : n < i + 8) (hin : i ≤ n) (hnc : n ≤ c) (hn : n ≤ 1000000000000) (hra : ∀ a, A = some a → 0 < n → r ≠ a.block ∧ a.block < w.heap.size)
    (hp : w.cell? ⟨g, o, none⟩ = some (.int .i64 old)) (hg : 1 ≠ r ∧ 2 ≠ r) :
    Calls Tryz.prog 58 #[.iface 58 (.pointer (some ⟨r, 0, none⟩)), .pointer (some ⟨g, o, none⟩)] w (ShortE w (fun b => b = r)) := by
  have hmk : ∀ w, (Instr.makeSlice 46 (.int .i64 8) (.int .i64 8)).run Tryz.prog w = .ok (.slice (some ⟨w.heap.size, 0, none⟩) 8 8) (w.alloc (.cells #[.int .u8 0, .int .u8 0, .int .u8 0, .int .u8 0, .int .u8 0, .int .u8 0, .int .u8 0, .int .u8 0] 5)) := fun _ => by kernel_rfl
  have hrl := blk_lt hr
  have hE : 1 < w.heap.size := by obtain ⟨a, h⟩ := hs.eof; exact blk_lt_cell h
  have hU : 2 < w.heap.size := by obtain ⟨t, x, h⟩ := hs.bad; exact blk_lt_cell h
  have C1 := Aside0.mk (full_short (w.alloc (.cells #[.int .u8 0, .int .u8 0, .int .u8 0, .int .u8 0, .int .u8 0, .int .u8 0, .int .u8 0, .int .u8 0] 5)) r w.heap.size A n c 8 i pr data _ (hs.move (Below.heap_alloc _ _ _ hE) (Below.heap_alloc _ _ _ hU)) (blk_alloc hr _) (Kd.C_alloc hC _) hi hin hnc hn (blk_new w _) rfl (by omega) (by omega) (by omega) (fun a ha h0 => ⟨(hra a ha h0).1, by have := (hra a ha h0).2; omega⟩) ⟨hg.1, by omega, hg.2, by omega⟩)
  clear hr hC hs hra hg hE hU
  go_enter Tryz.func58, Tryz.ntmps58
  go_wp2_with (go_at_call 71; refine (size64 _ _).mono ?_; rintro _ _ ⟨rfl, rfl⟩)
  refine C1.out.mono ?_
  rintro _ W2 ⟨t, x, rfl, hK⟩
  have HK := Aside0.mk hK
  clear hK hp
  go_wp2_with fail
  go_ret
  refine ⟨t, x, rfl, ?_, fun b hb hS => ?_, Env.trans (show Env w _ from ⟨rfl, rfl, rfl⟩) HK.out.env⟩
  · exact Nat.le_trans (by rw [Own.size_alloc]; omega) HK.out.1
  · rw [HK.out.2 b (by rw [Own.size_alloc]; omega) (by rintro (h | h); exact hS h; omega), Below.heap_alloc _ _ _ hb]
set_option maxHeartbeats 4000000 in
set_option maxRecDepth 100000 in
theorem read32_short (w : World) (r : Nat) (A : Option Addr) (n c i : Nat) (pr : Int) (data : List Int) (g o : Nat) (old : Int) (hs : Snt w)
    (hr : w.heap[r]? = some (rdr A n c i pr)) (hC : (Kd.int .u8).C w A n data) (hi : n < i + 4) (hin : i ≤ n) (hnc : n ≤ c) (hn : n ≤ 1000000000000) (hra : ∀ a, A = some a → 0 < n → r ≠ a.block ∧ a.block < w.heap.size)
    (hp : w.cell? ⟨g, o, none⟩ = some (.int .i32 old)) (hg : 1 ≠ r ∧ 2 ≠ r) :
    Calls Tryz.prog 59 #[.iface 58 (.pointer (some ⟨r, 0, none⟩)), .pointer (some ⟨g, o, none⟩)] w (ShortE w (fun b => b = r)) := by
  have hmk : ∀ w, (Instr.makeSlice 46 (.int .i64 4) (.int .i64 4)).run Tryz.prog w = .ok (.slice (some ⟨w.heap.size, 0, none⟩) 4 4) (w.alloc (.cells #[.int .u8 0, .int .u8 0, .int .u8 0, .int .u8 0] 5)) := fun _ => by kernel_rfl
  have hrl := blk_lt hr
  have hE : 1 < w.heap.size := by obtain ⟨a, h⟩ := hs.eof; exact blk_lt_cell h
  have hU : 2 < w.heap.size := by obtain ⟨t, x, h⟩ := hs.bad; exact blk_lt_cell h
  have C1 := Aside0.mk (full_short (w.alloc (.cells #[.int .u8 0, .int .u8 0, .int .u8 0, .int .u8 0] 5)) r w.heap.size A n c 4 i pr data _ (hs.move (Below.heap_alloc _ _ _ hE) (Below.heap_alloc _ _ _ hU)) (blk_alloc hr _) (Kd.C_alloc hC _) hi hin hnc hn (blk_new w _) rfl (by omega) (by omega) (by omega) (fun a ha h0 => ⟨(hra a ha h0).1, by have := (hra a ha h0).2; omega⟩) ⟨hg.1, by omega, hg.2, by omega⟩)
  clear hr hC hs hra hg hE hU
  go_enter Tryz.func59, Tryz.ntmps59
  go_wp2_with (go_at_call 73; refine (size32 _ _).mono ?_; rintro _ _ ⟨rfl, rfl⟩)
  refine C1.out.mono ?_
  rintro _ W2 ⟨t, x, rfl, hK⟩
  have HK := Aside0.mk hK
  clear hK hp
  go_wp2_with fail
  go_ret
  refine ⟨t, x, rfl, ?_, fun b hb hS => ?_, Env.trans (show Env w _ from ⟨rfl, rfl, rfl⟩) HK.out.env⟩
  · exact Nat.le_trans (by rw [Own.size_alloc]; omega) HK.out.1
  · rw [HK.out.2 b (by rw [Own.size_alloc]; omega) (by rintro (h | h); exact hS h; omega), Below.heap_alloc _ _ _ hb]
end Go.Proofs.YtaejkbjepbifcabGreatDoor.Num
namespace Go.Proofs.YtaejkbjepbifcabGreatDoor.Num
open Go.RowKit Go.Proofs.YtaejkbjepbifcabGreatDoorW.PrintWords Go.Proofs.YtaejkbjepbifcabGreatDoor.Plain
set_option linter.unusedVariables false
set_option linter.unusedSimpArgs false

def val (b : Nat) (data : List Int) (j : Nat) : Int := wrap32 (valb ((data.drop (b + 4 * j)).take 4))
def rcells (b : Nat) (data : List Int) (N q : Nat) : Array Value := (Array.range N).map fun j => .int .i32 (if j < q then val b data j else 0)
theorem rcells_size (b : Nat) (data : List Int) (N q : Nat) : (rcells b data N q).size = N := by simp [rcells]
theorem rcells_get (b : Nat) (data : List Int) (N q j : Nat) (hj : j < N) : (rcells b data N q)[j]? = some (.int .i32 (if j < q then val b data j else 0)) := by
  rw [rcells, Array.getElem?_map, Array.getElem?_range]
  simp [hj]
theorem rcells_set (b : Nat) (data : List Int) (N q : Nat) (hq : q < N) : (rcells b data N q).setIfInBounds q (.int .i32 (val b data q)) = rcells b data N (q + 1) := by
  apply Array.ext_getElem?
  intro j
  rw [Array.getElem?_setIfInBounds]
  by_cases hj : j < N
  · rw [rcells_get _ _ _ _ _ hj, rcells_get _ _ _ _ _ hj, rcells_size]
    by_cases h : q = j
    · subst h; simp [hj]
    · rw [if_neg h]
      have : (j < q) = (j < q + 1) := by apply propext; omega
      simp only [this]
  · rw [if_neg (by omega), Array.getElem?_eq_none (by rw [rcells_size]; omega), Array.getElem?_eq_none (by rw [rcells_size]; omega)]
structure Ctx (w0 : World) (r : Nat) (a : Addr) (n c : Nat) (data : List Int) : Prop where
  row : (Kd.int .u8).C w0 (some a) n data
  bytes : ∀ x ∈ data, 0 ≤ x ∧ x < 256
  cap : n ≤ c
  few : n ≤ 1000000000000
  ne : r ≠ a.block
  lt : a.block < w0.heap.size
  rlt : r < w0.heap.size
  snt : Snt w0
  eof : 1 ≠ r
  bad : 2 ≠ r
structure RS (w0 W : World) (r : Nat) (a : Addr) (n c b : Nat) (data : List Int) (G N e q : Nat) : Prop where
  rd : W.heap[r]? = some (rdr (some a) n c (b + 4 * q) (-1))
  row : W.heap[G]? = some (.cells (rcells b data N q) e (0, 0))
  kept : Kp w0 W (fun x => x = r)
  new : w0.heap.size ≤ G

theorem Ctx.rowAt {w0 W : World} {r : Nat} {a : Addr} {n c : Nat} {data : List Int} (h : Ctx w0 r a n c data) (k : Kp w0 W (fun x => x = r)) : (Kd.int .u8).C W (some a) n data := by
  have hb : W.heap[a.block]? = w0.heap[a.block]? := k.2 _ h.lt (fun e => h.ne e.symm)
  refine ⟨h.row.1, h.row.2.1, fun h0 => ?_⟩
  obtain ⟨ad, e, hc⟩ := h.row.2.2 h0
  obtain rfl := Option.some.inj e
  refine ⟨a, rfl, fun j p hj => ?_⟩
  obtain ⟨cc, h1, h2, h3⟩ := hc j p hj
  exact ⟨cc, h1, h2, fun i u hu => (cell_block (by rw [add_block]; exact hb)).trans (h3 i u hu)⟩
theorem Ctx.sntAt {w0 W : World} {r : Nat} {a : Addr} {n c : Nat} {data : List Int} (h : Ctx w0 r a n c data) (k : Kp w0 W (fun x => x = r)) : Snt W := by
  have hE : 1 < w0.heap.size := by obtain ⟨a, h⟩ := h.snt.eof; exact blk_lt_cell h
  have hU : 2 < w0.heap.size := by obtain ⟨t, x, h⟩ := h.snt.bad; exact blk_lt_cell h
  exact h.snt.move (k.2 _ hE h.eof) (k.2 _ hU h.bad)
theorem Kp.thru {w0 w w' : World} {S : Nat → Prop} (k : Kp w0 w S) (h : Kp w w' S) : Kp w0 w' S :=
  ⟨Nat.le_trans k.1 h.1, fun i hi hS => (h.2 i (Nat.lt_of_lt_of_le hi k.1) hS).trans (k.2 i hi hS), k.env.trans h.env⟩

section
variable {w0 W : World} {r : Nat} {a : Addr} {n c b : Nat} {data : List Int} {G N e q : Nat}
theorem RS.step_ok (h : RS w0 W r a n c b data G N e q) (x : Ctx w0 r a n c data) (hq : q < N) (hi : b + 4 * q + 4 ≤ n) :
    Calls Tryz.prog 59 #[.iface 58 (.pointer (some ⟨r, 0, none⟩)), .pointer (some ⟨G, q, none⟩)] W fun e' w' => e' = .returned .nilIface ∧ RS w0 w' r a n c b data G N e (q + 1) := by
  have hG : r ≠ G := by have := x.rlt; have := h.new; omega
  refine (read32_ok W r a n c (b + 4 * q) (-1) data G q 0 h.rd (x.rowAt h.kept) x.bytes hi x.cap x.few x.ne (Nat.lt_of_lt_of_le x.lt h.kept.1)
    (cells_at h.row q _ (by rw [rcells_get _ _ _ _ _ hq]; simp)) (froz_at h.row q) hG).mono ?_
  rintro e' w' ⟨he, hk, h1, h2⟩
  refine ⟨he, by rw [show b + 4 * (q + 1) = b + 4 * q + 4 by omega]; exact h1, ?_, ?_, h.new⟩
  · rw [h2]
    exact blk_put h.row q _ (rcells_set b data N q hq)
  · exact ⟨Nat.le_trans h.kept.1 hk.1, fun i hi hS => by
      rw [hk.2 i (Nat.lt_of_lt_of_le hi h.kept.1) (by rintro (h' | h'); exact hS h'; have := h.new; omega)]
      exact h.kept.2 i hi hS, h.kept.env.trans hk.env⟩
theorem RS.step_short (h : RS w0 W r a n c b data G N e q) (x : Ctx w0 r a n c data) (hq : q < N) (hi : n < b + 4 * q + 4) (hin : b + 4 * q ≤ n) :
    Calls Tryz.prog 59 #[.iface 58 (.pointer (some ⟨r, 0, none⟩)), .pointer (some ⟨G, q, none⟩)] W (ShortE w0 (fun x => x = r)) := by
  refine (read32_short W r (some a) n c (b + 4 * q) (-1) data G q 0 (x.sntAt h.kept) h.rd (x.rowAt h.kept) hi hin x.cap x.few (fun a' ha _ => by obtain rfl := Option.some.inj ha; exact ⟨x.ne, Nat.lt_of_lt_of_le x.lt h.kept.1⟩)
    (cells_at h.row q _ (by rw [rcells_get _ _ _ _ _ hq]; simp)) ⟨x.eof, x.bad⟩).mono ?_
  rintro e' w' ⟨t, y, he, hk⟩
  exact ⟨t, y, he, Kp.thru h.kept hk⟩
end
end Go.Proofs.YtaejkbjepbifcabGreatDoor.Num
namespace Go.Proofs.YtaejkbjepbifcabGreatDoor.Num
open Go.RowKit Go.Proofs.YtaejkbjepbifcabGreatDoorW.PrintWords Go.Proofs.YtaejkbjepbifcabGreatDoor.Plain
set_option linter.unusedVariables false
set_option linter.unusedSimpArgs false

theorem int_eq {k : IntKind} {a b : Int} (h : a = b) : Value.int k a = .int k b := by rw [h]
theorem u8s_app (a b : List Int) : u8s (a ++ b) = u8s a ++ u8s b := by simp [u8s]
theorem R_row {α : Type} {d : Kd α} {e base : Nat} {w : World} {ok : Nat → Prop} {v : Value} {xs : List α} (h : d.R e w base ok v xs) :
    ∃ A c, v = .slice A xs.length c ∧ xs.length ≤ c ∧ d.C w A xs.length xs ∧ ∀ a, A = some a → base ≤ a.block ∧ ∃ cs, w.heap[a.block]? = some (.cells cs e (0, 0)) := by
  obtain ⟨A, c, e1, hc, hC⟩ := Kd.R_reads h
  refine ⟨A, c, e1, hc, hC, fun a ha => ?_⟩
  obtain ⟨_, inner, ho, _⟩ := h
  have hk : v.ownBlock = some a.block := by rw [e1, ha]; rfl
  exact ⟨own_base ho _ hk, own_typed ho _ hk⟩
theorem bytes_R {w : World} {base : Nat} {v : Value} {l : List Int} (h : w.ownsRow base 5 1 v (u8s l).length (u8s l)) : (Kd.int .u8).R 5 w base (fun _ => True) v l := by
  have e : (u8s l).length = l.length := by simp [u8s]
  rw [e] at h
  exact Kd.R_of_own (enc := Value.int .u8) (h1 := fun _ => rfl) h (fun _ _ => trivial)
theorem newReader (w : World) (A : Option Addr) (n c : Nat) :
    Calls Tryz.prog 21 #[.slice A n c] w fun e w' => e = .returned (.pointer (some ⟨w.heap.size, 0, none⟩)) ∧ w' = w.alloc (rdr A n c 0 (-1)) := by
  go_enter Tryz.func21, Tryz.ntmps21
  go_wp2
  go_ret
  exact ⟨rfl, rfl⟩
theorem below_kept {w W W' : World} {r : Nat} (hb : Below w.heap.size w W) (hr : w.heap.size ≤ r) (hk : Kp W W' (fun y => y = r)) : Below w.heap.size w W' :=
  ⟨hk.env.1.trans hb.os, hk.env.2.1.trans hb.tape, hk.env.2.2.trans hb.output, Nat.le_trans hb.size hk.size, fun k hlt => (hk.old k (Nat.lt_of_lt_of_le hlt hb.size) (by omega)).trans (hb.block k hlt)⟩
theorem sntAlloc {w : World} (h : Snt w) (o : Obj) : Snt (w.alloc o) := by
  have hE : 1 < w.heap.size := by obtain ⟨a, h⟩ := h.eof; exact blk_lt_cell h
  have hU : 2 < w.heap.size := by obtain ⟨t, x, h⟩ := h.bad; exact blk_lt_cell h
  exact h.move (Below.heap_alloc _ _ _ hE) (Below.heap_alloc _ _ _ hU)
theorem sntNe {w : World} (h : Snt w) : 1 ≠ w.heap.size ∧ 2 ≠ w.heap.size := by
  have hE : 1 < w.heap.size := by obtain ⟨a, h⟩ := h.eof; exact blk_lt_cell h
  have hU : 2 < w.heap.size := by obtain ⟨t, x, h⟩ := h.bad; exact blk_lt_cell h
  exact ⟨by omega, by omega⟩
theorem C_lt {k : IntKind} {w : World} {A : Option Addr} {n : Nat} {xs : List Int} (h : (Kd.int k).C w A n xs) {a : Addr} (ha : A = some a) (h0 : 0 < n) : a.block < w.heap.size := by
  subst ha
  have hlt : 0 < xs.length := by rw [h.1]; exact h0
  have := blk_lt_cell (C_cells h 0 _ (List.getElem?_eq_getElem hlt))
  rwa [add_block] at this
theorem Snt.below {w W : World} (h : Snt w) (hb : Below w.heap.size w W) : Snt W := by
  have hE : 1 < w.heap.size := by obtain ⟨a, h⟩ := h.eof; exact blk_lt_cell h
  have hU : 2 < w.heap.size := by obtain ⟨t, x, h⟩ := h.bad; exact blk_lt_cell h
  exact h.move (hb.block _ hE) (hb.block _ hU)
end Go.Proofs.YtaejkbjepbifcabGreatDoor.Num
namespace Go.Proofs.YtaejkbjepbifcabGreatDoor.NumD
open Go.RowKit Go.Proofs.YtaejkbjepbifcabGreatDoorW.PrintWords Go.Proofs.YtaejkbjepbifcabGreatDoor.Plain Go.Proofs.YtaejkbjepbifcabGreatDoor.Num
set_option linter.unusedVariables false
set_option linter.unusedSimpArgs false
theorem size64 (v : Int) (w : World) : Calls Tryz.prog 55 #[.int .i64 v] w fun e w' => e = .returned (.int .i64 8) ∧ w = w' := by
  have h1 := as64_8
  have h2 := as64_16
  have h3 := as64_32
  go_enter Tryz.func55, Tryz.ntmps55
  go_wp2
  go_ret
  exact ⟨rfl, rfl⟩
theorem size32 (v : Int) (w : World) : Calls Tryz.prog 57 #[.int .i32 v] w fun e w' => e = .returned (.int .i64 4) ∧ w = w' := by
  have h1 := as32_8
  have h2 := as32_16
  have h3 := as32_32
  go_enter Tryz.func57, Tryz.ntmps57
  go_wp2
  go_ret
  exact ⟨rfl, rfl⟩
set_option maxHeartbeats 4000000 in
set_option maxRecDepth 100000 in
theorem write64 (B b : Nat) (bs : List Value) (v : Int) (w : World) (h : Lib.IsBuffer 71 5 B b bs w) (hBw : B ≤ w.heap.size) (h1 : ∀ v ∈ bs, v.oneCell' = true) (hlim : bs.length + 8 ≤ 140737488355328) :
    Calls Tryz.prog 54 #[.iface 74 (.pointer (some ⟨b, 0, none⟩)), .int .i64 v] w fun e w' => e = .returned .nilIface ∧ Lib.IsBuffer 71 5 B b (bs ++ u8s (leb 8 (v % 18446744073709551616))) w' ∧ Below B w w' ∧ Lib.OthersKept 5 (some b) w w' := by
  have n1 := bw_method
  have hmk : ∀ w, (Instr.makeSlice 46 (.int .i64 8) (.int .i64 8)).run Tryz.prog w = .ok (.slice (some ⟨w.heap.size, 0, none⟩) 8 8) (w.alloc (.cells #[.int .u8 0, .int .u8 0, .int .u8 0, .int .u8 0, .int .u8 0, .int .u8 0, .int .u8 0, .int .u8 0] 5)) := fun _ => by kernel_rfl
  go_enter Tryz.func54, Tryz.ntmps54
  go_wp2_with (go_at_call 55; refine (size64 _ _).mono ?_; rintro _ _ ⟨rfl, rfl⟩)
  refine wp_loop_rounds 10 ?_
  iterate 9 (rw [rounds_succ]; go_wp2_with fail)
  have hl := leb8 (IntKind.u64.wrap v)
  have hlt := h.lt
  refine (Tryz.Buffer_Write_any B b bs (u8s (leb 8 (IntKind.u64.wrap v))) ⟨w.heap.size, 0, none⟩ 8 8 _ (bufAlloc h _) (by rw [Own.size_alloc]; omega) h1 (by simp [u8s, leb_length]) (by simp; omega) (fun j v hj => ?_) (u8s_one _) hlim).mono ?_
  · rw [hl] at hj
    have : (⟨w.heap.size, 0, none⟩ : Addr).add j = ⟨w.heap.size, j, none⟩ := by unfold Addr.add; by_cases h : j = 0 <;> simp [h]
    rw [this, Own.alloc_cell]
    simpa [u8s] using hj
  · rintro _ W2 ⟨rfl, hI, hB2, hO2⟩
    have HO2 := Aside0.mk hO2
    clear hO2
    have HI := Aside0.mk hI
    have HB2 := Aside0.mk hB2
    clear hI hB2 hl
    go_wp2_with fail
    go_ret
    exact ⟨rfl, by rw [← wrapu]; exact HI.out, (Below.refl _ _).alloc hBw _ |>.trans HB2.out, fun k o hk hne ht => HO2.out k o (by rw [Below.heap_alloc _ _ _ (blk_lt hk)]; exact hk) hne ht⟩
set_option maxHeartbeats 4000000 in
set_option maxRecDepth 100000 in
theorem write32 (B b : Nat) (bs : List Value) (v : Int) (w : World) (h : Lib.IsBuffer 71 5 B b bs w) (hBw : B ≤ w.heap.size) (h1 : ∀ v ∈ bs, v.oneCell' = true) (hlim : bs.length + 4 ≤ 140737488355328) :
    Calls Tryz.prog 56 #[.iface 74 (.pointer (some ⟨b, 0, none⟩)), .int .i32 v] w fun e w' => e = .returned .nilIface ∧ Lib.IsBuffer 71 5 B b (bs ++ u8s (leb 4 (v % 18446744073709551616))) w' ∧ Below B w w' ∧ Lib.OthersKept 5 (some b) w w' := by
  have n1 := bw_method
  have hmk : ∀ w, (Instr.makeSlice 46 (.int .i64 4) (.int .i64 4)).run Tryz.prog w = .ok (.slice (some ⟨w.heap.size, 0, none⟩) 4 4) (w.alloc (.cells #[.int .u8 0, .int .u8 0, .int .u8 0, .int .u8 0] 5)) := fun _ => by kernel_rfl
  go_enter Tryz.func56, Tryz.ntmps56
  go_wp2_with (go_at_call 57; refine (size32 _ _).mono ?_; rintro _ _ ⟨rfl, rfl⟩)
  refine wp_loop_rounds 6 ?_
  iterate 5 (rw [rounds_succ]; go_wp2_with fail)
  have hl := leb4 (IntKind.u64.wrap v)
  have hlt := h.lt
  refine (Tryz.Buffer_Write_any B b bs (u8s (leb 4 (IntKind.u64.wrap v))) ⟨w.heap.size, 0, none⟩ 4 4 _ (bufAlloc h _) (by rw [Own.size_alloc]; omega) h1 (by simp [u8s, leb_length]) (by simp; omega) (fun j v hj => ?_) (u8s_one _) hlim).mono ?_
  · rw [hl] at hj
    have : (⟨w.heap.size, 0, none⟩ : Addr).add j = ⟨w.heap.size, j, none⟩ := by unfold Addr.add; by_cases h : j = 0 <;> simp [h]
    rw [this, Own.alloc_cell]
    simpa [u8s] using hj
  · rintro _ W2 ⟨rfl, hI, hB2, hO2⟩
    have HO2 := Aside0.mk hO2
    clear hO2
    have HI := Aside0.mk hI
    have HB2 := Aside0.mk hB2
    clear hI hB2 hl
    go_wp2_with fail
    go_ret
    exact ⟨rfl, by rw [← wrapu]; exact HI.out, (Below.refl _ _).alloc hBw _ |>.trans HB2.out, fun k o hk hne ht => HO2.out k o (by rw [Below.heap_alloc _ _ _ (blk_lt hk)]; exact hk) hne ht⟩

set_option maxHeartbeats 4000000 in
set_option maxRecDepth 100000 in
theorem read64_ok (w : World) (r : Nat) (a : Addr) (n c i : Nat) (pr : Int) (data : List Int) (g o : Nat) (old : Int)
    (hr : w.heap[r]? = some (rdr (some a) n c i pr)) (hC : (Kd.int .u8).C w (some a) n data) (hb : ∀ x ∈ data, 0 ≤ x ∧ x < 256) (hi : i + 8 ≤ n) (hnc : n ≤ c) (hn : n ≤ 1000000000000) (hra : r ≠ a.block) (hab : a.block < w.heap.size)
    (hp : w.cell? ⟨g, o, none⟩ = some (.int .i64 old)) (hf : w.frozen? ⟨g, o, none⟩ = false) (hrp : r ≠ g) :
    Calls Tryz.prog 37 #[.iface 58 (.pointer (some ⟨r, 0, none⟩)), .pointer (some ⟨g, o, none⟩)] w fun e w' =>
      e = .returned .nilIface ∧ Kp w w' (fun b => b = r ∨ b = g) ∧ w'.heap[r]? = some (rdr (some a) n c (i + 8) (-1)) ∧ w'.heap[g]? = (w.setCell ⟨g, o, none⟩ (.int .i64 (wrap64 (valb ((data.drop i).take 8))))).heap[g]? := by
  have hmk : ∀ w, (Instr.makeSlice 46 (.int .i64 8) (.int .i64 8)).run Tryz.prog w = .ok (.slice (some ⟨w.heap.size, 0, none⟩) 8 8) (w.alloc (.cells #[.int .u8 0, .int .u8 0, .int .u8 0, .int .u8 0, .int .u8 0, .int .u8 0, .int .u8 0, .int .u8 0] 5)) := fun _ => by kernel_rfl
  have hrl := blk_lt hr
  have C1 := Aside0.mk (full_full (w.alloc (.cells #[.int .u8 0, .int .u8 0, .int .u8 0, .int .u8 0, .int .u8 0, .int .u8 0, .int .u8 0, .int .u8 0] 5)) r w.heap.size a n c 8 i pr data _ (blk_alloc hr _) (Kd.C_alloc hC _) hi hnc hn (blk_new w _) rfl (by omega) (by omega) hra (by omega))
  have HB := Aside0.mk hb
  have HR := Aside0.mk hr
  have HC := Aside0.mk hC
  have hgl : g < w.heap.size := blk_lt_cell hp
  clear hb hr hC
  go_enter Tryz.func37, Tryz.ntmps37
  go_wp2_with (go_at_call 55; refine (size64 _ _).mono ?_; rintro _ _ ⟨rfl, rfl⟩)
  refine C1.out.mono ?_
  rintro _ W2 ⟨rfl, hK, hr2, hd2⟩
  have hg2 : W2.heap[g]? = w.heap[g]? := by
    rw [hK.2 g (by rw [Own.size_alloc]; omega) (by rintro (h | h) <;> omega), Below.heap_alloc _ _ _ hgl]
  have hdl : ((data.drop i).take 8).length = 8 := by have := HC.out.1; simp [this]; omega
  obtain ⟨x0, x1, x2, x3, x4, x5, x6, x7, hx⟩ : ∃ x0 x1 x2 x3 x4 x5 x6 x7, (data.drop i).take 8 = [x0, x1, x2, x3, x4, x5, x6, x7] := by
    match h : (data.drop i).take 8, hdl with
    | [x0, x1, x2, x3, x4, x5, x6, x7], _ => exact ⟨_, _, _, _, _, _, _, _, rfl⟩
  have hbx : ∀ x ∈ [x0, x1, x2, x3, x4, x5, x6, x7], 0 ≤ x ∧ x < 256 := fun x hx' => by
    rw [← hx] at hx'
    exact HB.out x (List.mem_of_mem_drop (List.mem_of_mem_take hx'))
  simp only [List.mem_cons, List.not_mem_nil, or_false, forall_eq_or_imp, forall_eq] at hbx
  obtain ⟨⟨l0, m0⟩, ⟨l1, m1⟩, ⟨l2, m2⟩, ⟨l3, m3⟩, ⟨l4, m4⟩, ⟨l5, m5⟩, ⟨l6, m6⟩, l7, m7⟩ := hbx
  rw [hx] at hd2
  have d0 : W2.cell? ⟨w.heap.size, 0, none⟩ = some (.int .u8 x0) := cells_at hd2 0 _ rfl
  have d1 : W2.cell? ⟨w.heap.size, 1, none⟩ = some (.int .u8 x1) := cells_at hd2 1 _ rfl
  have d2 : W2.cell? ⟨w.heap.size, 2, none⟩ = some (.int .u8 x2) := cells_at hd2 2 _ rfl
  have d3 : W2.cell? ⟨w.heap.size, 3, none⟩ = some (.int .u8 x3) := cells_at hd2 3 _ rfl
  have d4 : W2.cell? ⟨w.heap.size, 4, none⟩ = some (.int .u8 x4) := cells_at hd2 4 _ rfl
  have d5 : W2.cell? ⟨w.heap.size, 5, none⟩ = some (.int .u8 x5) := cells_at hd2 5 _ rfl
  have d6 : W2.cell? ⟨w.heap.size, 6, none⟩ = some (.int .u8 x6) := cells_at hd2 6 _ rfl
  have d7 : W2.cell? ⟨w.heap.size, 7, none⟩ = some (.int .u8 x7) := cells_at hd2 7 _ rfl
  have HK := Aside0.mk hK
  have HR2 := Aside0.mk hr2
  have HG2 := Aside0.mk hg2
  have HX := Aside0.mk hx
  have hp2 : W2.cell? ⟨g, o, none⟩ = some (.int .i64 old) := (cell_block (p := ⟨g, o, none⟩) hg2).trans hp
  have hf2 : W2.frozen? ⟨g, o, none⟩ = false := by
    have h_ : W2.frozen? ⟨g, o, none⟩ = w.frozen? ⟨g, o, none⟩ := by unfold World.frozen?; rw [hg2]
    rw [h_]; exact hf
  clear hK hr2 hg2 hx hdl hd2 hp hf hrl hgl
  go_wp2_with fail
  refine wp_loop_rounds 10 ?_
  iterate 9 (rw [rounds_succ]; go_wp2_with fail)
  go_ret
  have hv := or8 l0 m0 l1 m1 l2 m2 l3 m3 l4 m4 l5 m5 l6 m6 l7 m7
  refine ⟨rfl, ?_⟩
  have hval : valb [x0, x1, x2, x3, x4, x5, x6, x7] = x0 + x1 * 256 + x2 * 65536 + x3 * 16777216 + x4 * 4294967296 + x5 * 1099511627776 + x6 * 281474976710656 + x7 * 72057594037927936 := by
    simp only [valb]; omega
  rw [hv, ← hval, ← HX.out]
  refine ⟨⟨?_, fun b hb hS => ?_, Env.trans (show Env w _ from ⟨rfl, rfl, rfl⟩) (HK.out.env.trans ⟨rfl, rfl, rfl⟩)⟩, ?_, ?_⟩
  · rw [size_setCell]; exact Nat.le_trans (by rw [Own.size_alloc]; omega) HK.out.1
  · have hb1 : b ≠ r := fun e => hS (.inl e)
    have hb2 : b ≠ g := fun e => hS (.inr e)
    rw [Below.heap_setCell _ _ _ _ hb2, HK.out.2 b (by rw [Own.size_alloc]; omega) (by rintro (h | h); exact hb1 h; omega), Below.heap_alloc _ _ _ hb]
  · rw [Below.heap_setCell _ _ _ _ hrp]; exact HR2.out
  · exact setCell_heap_congr HG2.out _ _
set_option maxHeartbeats 4000000 in
set_option maxRecDepth 100000 in
theorem read32_ok (w : World) (r : Nat) (a : Addr) (n c i : Nat) (pr : Int) (data : List Int) (g o : Nat) (old : Int)
    (hr : w.heap[r]? = some (rdr (some a) n c i pr)) (hC : (Kd.int .u8).C w (some a) n data) (hb : ∀ x ∈ data, 0 ≤ x ∧ x < 256) (hi : i + 4 ≤ n) (hnc : n ≤ c) (hn : n ≤ 1000000000000) (hra : r ≠ a.block) (hab : a.block < w.heap.size)
    (hp : w.cell? ⟨g, o, none⟩ = some (.int .i32 old)) (hf : w.frozen? ⟨g, o, none⟩ = false) (hrp : r ≠ g) :
    Calls Tryz.prog 38 #[.iface 58 (.pointer (some ⟨r, 0, none⟩)), .pointer (some ⟨g, o, none⟩)] w fun e w' =>
      e = .returned .nilIface ∧ Kp w w' (fun b => b = r ∨ b = g) ∧ w'.heap[r]? = some (rdr (some a) n c (i + 4) (-1)) ∧ w'.heap[g]? = (w.setCell ⟨g, o, none⟩ (.int .i32 (wrap32 (valb ((data.drop i).take 4))))).heap[g]? := by
  have hmk : ∀ w, (Instr.makeSlice 46 (.int .i64 4) (.int .i64 4)).run Tryz.prog w = .ok (.slice (some ⟨w.heap.size, 0, none⟩) 4 4) (w.alloc (.cells #[.int .u8 0, .int .u8 0, .int .u8 0, .int .u8 0] 5)) := fun _ => by kernel_rfl
  have hrl := blk_lt hr
  have C1 := Aside0.mk (full_full (w.alloc (.cells #[.int .u8 0, .int .u8 0, .int .u8 0, .int .u8 0] 5)) r w.heap.size a n c 4 i pr data _ (blk_alloc hr _) (Kd.C_alloc hC _) hi hnc hn (blk_new w _) rfl (by omega) (by omega) hra (by omega))
  have HB := Aside0.mk hb
  have HR := Aside0.mk hr
  have HC := Aside0.mk hC
  have hgl : g < w.heap.size := blk_lt_cell hp
  clear hb hr hC
  go_enter Tryz.func38, Tryz.ntmps38
  go_wp2_with (go_at_call 57; refine (size32 _ _).mono ?_; rintro _ _ ⟨rfl, rfl⟩)
  refine C1.out.mono ?_
  rintro _ W2 ⟨rfl, hK, hr2, hd2⟩
  have hg2 : W2.heap[g]? = w.heap[g]? := by
    rw [hK.2 g (by rw [Own.size_alloc]; omega) (by rintro (h | h) <;> omega), Below.heap_alloc _ _ _ hgl]
  have hdl : ((data.drop i).take 4).length = 4 := by have := HC.out.1; simp [this]; omega
  obtain ⟨x0, x1, x2, x3, hx⟩ : ∃ x0 x1 x2 x3, (data.drop i).take 4 = [x0, x1, x2, x3] := by
    match h : (data.drop i).take 4, hdl with
    | [x0, x1, x2, x3], _ => exact ⟨_, _, _, _, rfl⟩
  have hbx : ∀ x ∈ [x0, x1, x2, x3], 0 ≤ x ∧ x < 256 := fun x hx' => by
    rw [← hx] at hx'
    exact HB.out x (List.mem_of_mem_drop (List.mem_of_mem_take hx'))
  simp only [List.mem_cons, List.not_mem_nil, or_false, forall_eq_or_imp, forall_eq] at hbx
  obtain ⟨⟨l0, m0⟩, ⟨l1, m1⟩, ⟨l2, m2⟩, l3, m3⟩ := hbx
  rw [hx] at hd2
  have d0 : W2.cell? ⟨w.heap.size, 0, none⟩ = some (.int .u8 x0) := cells_at hd2 0 _ rfl
  have d1 : W2.cell? ⟨w.heap.size, 1, none⟩ = some (.int .u8 x1) := cells_at hd2 1 _ rfl
  have d2 : W2.cell? ⟨w.heap.size, 2, none⟩ = some (.int .u8 x2) := cells_at hd2 2 _ rfl
  have d3 : W2.cell? ⟨w.heap.size, 3, none⟩ = some (.int .u8 x3) := cells_at hd2 3 _ rfl
  have HK := Aside0.mk hK
  have HR2 := Aside0.mk hr2
  have HG2 := Aside0.mk hg2
  have HX := Aside0.mk hx
  have hp2 : W2.cell? ⟨g, o, none⟩ = some (.int .i32 old) := (cell_block (p := ⟨g, o, none⟩) hg2).trans hp
  have hf2 : W2.frozen? ⟨g, o, none⟩ = false := by
    have h_ : W2.frozen? ⟨g, o, none⟩ = w.frozen? ⟨g, o, none⟩ := by unfold World.frozen?; rw [hg2]
    rw [h_]; exact hf
  clear hK hr2 hg2 hx hdl hd2 hp hf hrl hgl
  go_wp2_with fail
  refine wp_loop_rounds 6 ?_
  iterate 5 (rw [rounds_succ]; go_wp2_with fail)
  go_ret
  have hv := or4 l0 m0 l1 m1 l2 m2 l3 m3
  refine ⟨rfl, ?_⟩
  have hval : valb [x0, x1, x2, x3] = x0 + x1 * 256 + x2 * 65536 + x3 * 16777216 := by
    simp only [valb]; omega
  rw [hv, ← hval, ← HX.out]
  refine ⟨⟨?_, fun b hb hS => ?_, Env.trans (show Env w _ from ⟨rfl, rfl, rfl⟩) (HK.out.env.trans ⟨rfl, rfl, rfl⟩)⟩, ?_, ?_⟩
  · rw [size_setCell]; exact Nat.le_trans (by rw [Own.size_alloc]; omega) HK.out.1
  · have hb1 : b ≠ r := fun e => hS (.inl e)
    have hb2 : b ≠ g := fun e => hS (.inr e)
    rw [Below.heap_setCell _ _ _ _ hb2, HK.out.2 b (by rw [Own.size_alloc]; omega) (by rintro (h | h); exact hb1 h; omega), Below.heap_alloc _ _ _ hb]
  · rw [Below.heap_setCell _ _ _ _ hrp]; exact HR2.out
  · exact setCell_heap_congr HG2.out _ _
end Go.Proofs.YtaejkbjepbifcabGreatDoor.NumD
namespace Go.Proofs.YtaejkbjepbifcabGreatDoor.Num
open Go.RowKit Go.Proofs.YtaejkbjepbifcabGreatDoorW.PrintWords Go.Proofs.YtaejkbjepbifcabGreatDoor.Plain Go.Proofs.YtaejkbjepbifcabGreatDoor.PB
set_option linter.unusedVariables false

theorem Int.pow_le_pow_right' {i j : Nat} (h : i ≤ j) : (256 : Int) ^ i ≤ 256 ^ j := by
  obtain ⟨k, rfl⟩ : ∃ k, j = i + k := ⟨j - i, by omega⟩
  rw [Int.pow_add]
  have h1 : (0 : Int) < 256 ^ i := Int.pow_pos (by decide)
  have h2 : (0 : Int) < 256 ^ k := Int.pow_pos (by decide)
  have := Int.mul_le_mul_of_nonneg_left (show (1 : Int) ≤ 256 ^ k by omega) (show (0 : Int) ≤ 256 ^ i by omega)
  omega
end Go.Proofs.YtaejkbjepbifcabGreatDoor.Num
namespace Go.Proofs.YtaejkbjepbifcabGreatDoor.Num
open Go.RowKit Go.Proofs.YtaejkbjepbifcabGreatDoorW.PrintWords Go.Proofs.YtaejkbjepbifcabGreatDoor.Plain
set_option linter.unusedVariables false
set_option linter.unusedSimpArgs false

def cby (s : Da.DA) (i : Nat) : List Int := leb 4 (s.B i % 18446744073709551616) ++ leb 4 (s.C i % 18446744073709551616)
def wrtD (s : Da.DA) (i : Nat) : List Int := leb 8 ((s.n : Int) % 18446744073709551616) ++ (List.range i).flatMap (cby s)
theorem wrtD_len (s : Da.DA) (i : Nat) : (wrtD s i).length = 8 + 8 * i := by
  have : ∀ i, ((List.range i).flatMap (cby s)).length = 8 * i := fun i => by
    induction i with
    | zero => rfl
    | succ i ih => rw [List.range_succ, List.flatMap_append, List.length_append, ih]; simp [cby, leb_length]; omega
  simp [wrtD, leb_length, this]
theorem wrtD_succ (s : Da.DA) (i : Nat) : wrtD s (i + 1) = wrtD s i ++ leb 4 (s.B i % 18446744073709551616) ++ leb 4 (s.C i % 18446744073709551616) := by
  simp [wrtD, List.range_succ, cby]

theorem oth_thru {w wr W : World} {b : Nat} (h : Lib.OthersKept 5 (some b) w wr) (x : Obj) (h1 : Lib.OthersKept 5 (some b) (wr.alloc x) W) : Lib.OthersKept 5 (some b) w W :=
  fun k o hk hne ht => h1 k o (by rw [Below.heap_alloc _ _ _ (blk_lt (h k o hk hne ht))]; exact h k o hk hne ht) hne ht
theorem oth_kept {w W : World} {b k : Nat} {cs : Array Value} {t : TypeId} (h : Lib.OthersKept 5 (some b) w W) (hk : w.heap[k]? = some (.cells cs t (0, 0))) (hb : b ≠ k) (ht : t ≠ 5) : W.heap[k]? = some (.cells cs t (0, 0)) :=
  h k _ hk (by simp only [ne_eq, Option.some.injEq]; omega) (fun c fz e => by injection e with _ e; exact ht e)
set_option maxHeartbeats 8000000 in
set_option maxRecDepth 100000 in
theorem writeTo_calls (w : World) (g : Nat) (s : Da.DA) (m : Da.Arr w g s) (B b : Nat) (hI : Lib.IsBuffer 71 5 B b [] w) (hS : B ≤ w.heap.size) (hg : g ≠ b) :
    Calls Tryz.prog 52 #[.slice (some ⟨g, 0, none⟩) s.n s.n, .iface 74 (.pointer (some ⟨b, 0, none⟩))] w fun e w' =>
      e = .returned (.tuple #[.int .i64 ((8 + 8 * s.n : Nat) : Int), .nilIface]) ∧ Lib.IsBuffer 71 5 B b (u8s (wrtD s s.n)) w' ∧ Below B w w' ∧ Lib.OthersKept 5 (some b) w w' := by
  have HC := Aside0.mk m
  have HI := Aside0.mk hI
  have HS := Aside0.mk hS
  have HN : Aside0 (s.n ≤ 1073741824) := ⟨m.big⟩
  have HG : Aside0 (∀ W, Lib.OthersKept 5 (some b) w W → W.heap[g]? = w.heap[g]?) := ⟨fun W hO => by
    obtain ⟨cells, h, _⟩ := m.ar
    rw [h]; exact hO g _ h (by simpa using hg) (fun c fz e => by injection e with _ e; exact absurd e (by decide))⟩
  have hlen : (0 : Int) ≤ s.n := by omega
  clear m hI hS hg
  go_enter Tryz.func52, Tryz.ntmps52
  go_wp2_with (first | (go_at_call 70; refine (write64 B b _ _ _ HI.out HS.out (by simp) (by simp)).mono ?_; rintro _ W0 ⟨rfl, hI_, hB_, hO_⟩; have HI_ := Aside0.mk hI_; have HB := Aside0.mk hB_; have HO := Aside0.mk hO_; have HS_ := Aside0.mk (Nat.le_trans HS.out hB_.size); clear HI HS hI_ hB_ hO_; have HI := HI_; have HS := HS_; clear HI_ HS_) | (go_at_call 71; refine (size64 _ _).mono ?_; rintro _ _ ⟨rfl, rfl⟩))
  go_loopg [4, 27] s.n (fun kq v4 v27 w' => ∃ (i : Nat), v27 = .int .i64 i ∧ v4 = .int .i64 ((8 + 8 * i : Nat) : Int) ∧ Aside0 (i + kq = s.n) ∧ Aside0 (Lib.IsBuffer 71 5 B b (u8s (wrtD s i)) w') ∧ Aside0 (Below B w w') ∧ Aside0 (B ≤ w'.heap.size) ∧ Aside0 (Lib.OthersKept 5 (some b) w w'))
  case atStart => exact ⟨0, rfl, rfl, ⟨by omega⟩, ⟨by have := HI.out; simpa [wrtD] using this⟩, HB, HS, HO⟩
  case round =>
    obtain ⟨i, rfl, rfl, HK, HI, HB, HS, HO⟩ := hrel
    by_cases c1 : (i : Int) < (s.n : Int)
    · have hgw := HG.out _ HO.out
      have y0 : wr.cell? ⟨g, i * 2, none⟩ = some (.int .i32 (s.B i)) := (cell_block (p := ⟨g, i * 2, none⟩) hgw).trans (HC.out.base i (by omega))
      have y1 : wr.cell? ⟨g, i * 2 + 1, none⟩ = some (.int .i32 (s.C i)) := (cell_block (p := ⟨g, i * 2 + 1, none⟩) hgw).trans (HC.out.chk i (by omega))
      have p1 : (0 : Int) ≤ i := by omega
      have c1b := decide_eq_true c1
      clear hgw
      have HN' := HN.out
      have e0 : wrap64 ((8 + 8 * i : Nat) : Int) = ((8 + 8 * i : Nat) : Int) := by rw [wrap_ok (by omega) (by omega)]
      have hbl : b < wr.heap.size := HI.out.lt
      have WR1 := Aside0.mk (write32 B b (u8s (wrtD s i)) (s.B i) (wr.alloc (.cells #[.int .i32 (s.B i), .int .i32 (s.C i)] 109)) (bufAlloc HI.out _) (by rw [Own.size_alloc]; have := HS.out; omega) (u8s_one _) (by have := HN.out; simp only [u8s, List.length_map, wrtD_len]; omega))
      go_wp2_with (first | (go_at_call 72; with_reducible refine Calls.mono WR2.out ?_; rintro _ W2 ⟨rfl, hI2, hB2, hO2⟩; rw [← u8s_app] at hI2; have HI2 := Aside0.mk hI2; have HB2 := Aside0.mk (HB1.out.trans hB2); have HS2 := Aside0.mk (Nat.le_trans HS1.out hB2.size); have HO2 := Aside0.mk (HO1.out.trans hO2); have z3 : W2.cell? ⟨wr.heap.size, 1, none⟩ = some (.int .i32 (s.C i)) := cells_at (oth_kept hO2 HBX.out (by omega) (by decide)) 1 _ rfl; clear hI2 hB2 hO2 z2) | (go_at_call 72; with_reducible refine Calls.mono WR1.out ?_; rintro _ W1 ⟨rfl, hI1, hB1, hO1⟩; rw [← u8s_app] at hI1; have HI1 := Aside0.mk hI1; have HB1 := Aside0.mk ((HB.out.alloc HS.out _).trans hB1); have HS1 : Aside0 (B ≤ W1.heap.size) := ⟨Nat.le_trans (by rw [Own.size_alloc]; have := HS.out; omega) hB1.size⟩; have HO1 := Aside0.mk (oth_thru HO.out _ hO1); have HBX := Aside0.mk (oth_kept hO1 (blk_new wr _) (by omega) (by decide)); have WR2 := Aside0.mk (write32 B b _ (s.C i) W1 HI1.out HS1.out (u8s_one _) (by have := HN.out; simp only [u8s, List.length_map, List.length_append, leb_length, wrtD_len]; omega)); have z1 : W1.cell? ⟨wr.heap.size, 0, none⟩ = some (.int .i32 (s.B i)) := cells_at HBX.out 0 _ rfl; have z2 : W1.cell? ⟨wr.heap.size, 1, none⟩ = some (.int .i32 (s.C i)) := cells_at HBX.out 1 _ rfl; clear hI1 hB1 hO1) | (go_at_call 73; refine (size32 _ _).mono ?_; rintro _ _ ⟨rfl, rfl⟩))
      have HK' := HK.out
      cases gk with
      | zero => omega
      | succ k9 =>
        go_roundg k9
        case measure => omega
        case rel => exact ⟨i + 1, int_eq (by omega), int_eq (by omega), ⟨by omega⟩, ⟨by rw [wrtD_succ]; exact HI2.out⟩, HB2, HS2, HO2⟩
    · have c1b := decide_eq_false c1
      obtain rfl : i = s.n := by have := HK.out; omega
      go_wp2_with fail
      go_ret2
      exact ⟨rfl, HI.out, HB.out, HO.out⟩
end Go.Proofs.YtaejkbjepbifcabGreatDoor.Num
namespace Go.Proofs.YtaejkbjepbifcabGreatDoor.Num
open Go.RowKit Go.Proofs.YtaejkbjepbifcabGreatDoorW.PrintWords Go.Proofs.YtaejkbjepbifcabGreatDoor.Plain
set_option linter.unusedVariables false
set_option linter.unusedSimpArgs false

def RdD (w : World) (r : Nat) (a : Addr) (n c l : Nat) (data : List Int) (e : Ending) (w' : World) : Prop :=
  (∃ G, e = .returned (.tuple #[.slice (some ⟨G, 0, none⟩) l l, .nilIface]) ∧ 8 + 8 * l ≤ n ∧ RS w w' r a n c 8 data G (l * 2) 109 (l * 2)) ∨
  (∃ v t x, e = .returned (.tuple #[v, .iface t x]) ∧ n < 8 + 8 * l ∧ Kp w w' (fun y => y = r))
theorem zeros_rcells (n : Nat) (data : List Int) : Da.zeros n = .cells (rcells 8 data (n * 2) 0) 109 := by
  unfold Da.zeros
  congr 1
  apply Array.ext
  · simp [rcells_size, size_madeCells]
  · intro j h1 h2
    have hj : j < n * 2 := by simpa [rcells_size] using h2
    apply Option.some.inj
    rw [← Array.getElem?_eq_getElem, ← Array.getElem?_eq_getElem, Da.madeCells_at _ _ hj, rcells_get _ _ _ _ _ hj]
    simp
theorem make_da (W : World) (l : Nat) (data : List Int) (hl : l ≤ 1073741824) :
    (Instr.makeSlice 50 (.int .i64 l) (.int .i64 l)).run Tryz.prog W = .ok (.slice (some ⟨W.heap.size, 0, none⟩) l l) (W.alloc (.cells (rcells 8 data (l * 2) 0) 109)) := by
  rw [← zeros_rcells]; exact Da.make_run W l (by omega)

set_option maxHeartbeats 8000000 in
set_option maxRecDepth 100000 in
theorem readDA_calls (w : World) (r : Nat) (a : Addr) (n c l : Nat) (pr : Int) (data : List Int) (x : Ctx w r a n c data) (hr : w.heap[r]? = some (rdr (some a) n c 0 pr))
    (h8 : 8 ≤ n) (hl : wrap64 (valb ((data.drop 0).take 8)) = l) (hln : l ≤ n) (hlb : l ≤ 1073741824) :
    Calls Tryz.prog 35 #[.iface 58 (.pointer (some ⟨r, 0, none⟩))] w (RdD w r a n c l data) := by
  have X := Aside0.mk x
  have HN : Aside0 (n ≤ 1000000000000) := ⟨x.few⟩
  have R1 := Aside0.mk (read64_ok (w.alloc (.cells #[.int .i64 0] 2)) r a n c 0 pr data w.heap.size 0 0 (blk_alloc hr _) (Kd.C_alloc x.row _) x.bytes h8 x.cap x.few x.ne (by rw [Own.size_alloc]; have := x.lt; omega)
    (cells_at (blk_new w _) 0 _ rfl) (froz_at (blk_new w _) 0) (by have := x.rlt; omega))
  have HL := Aside0.mk hl
  have MK := Aside0.mk fun (W : World) => make_da W l data hlb
  clear x hr hl
  go_enter Tryz.func35, Tryz.ntmps35
  go_wp2_with fail
  with_reducible refine Calls.mono R1.out ?_
  rintro _ W2 ⟨rfl, hk, h1, h2⟩
  have hL : W2.heap[w.heap.size]? = some (.cells #[.int .i64 l] 2 (0, 0)) := by
    rw [h2]
    exact blk_put (blk_new w _) 0 _ (by rw [HL.out]; rfl)
  have hk2 : Kp w W2 (fun y => y = r) := ⟨Nat.le_trans (by rw [Own.size_alloc]; omega) hk.1, fun i hi hS => by
    rw [hk.2 i (by rw [Own.size_alloc]; omega) (by rintro (h | h); exact hS h; omega), Below.heap_alloc _ _ _ hi], Env.trans (show Env w _ from ⟨rfl, rfl, rfl⟩) hk.env⟩
  have y0 : W2.cell? ⟨w.heap.size, 0, none⟩ = some (.int .i64 l) := cells_at hL 0 _ rfl
  have hmk := MK.out
  have HS0 : Aside0 (RS w (W2.alloc (.cells (rcells 8 data (l * 2) 0) 109)) r a n c 8 data W2.heap.size (l * 2) 109 0) :=
    ⟨⟨blk_alloc h1 _, blk_new W2 _, ⟨by rw [Own.size_alloc]; have := hk2.1; omega, fun i hi hS => by rw [Below.heap_alloc _ _ _ (Nat.lt_of_lt_of_le hi hk2.1)]; exact hk2.2 i hi hS, hk2.env.trans ⟨rfl, rfl, rfl⟩⟩, hk2.1⟩⟩
  obtain ⟨G, hG⟩ : ∃ G, G = W2.heap.size := ⟨_, rfl⟩
  clear hk hk2 h1 h2 hL
  go_wp2_with fail
  rw [← hG] at HS0 ⊢
  obtain ⟨W3, hW3⟩ : ∃ W3, W3 = W2.alloc (.cells (rcells 8 data (l * 2) 0) 109) := ⟨_, rfl⟩
  rw [← hW3] at HS0 ⊢
  clear hW3 hG hmk MK y0 R1
  go_loopg [20] l (fun kq v20 w' => ∃ (i : Nat), v20 = .int .i64 i ∧ Aside0 (i + kq = l) ∧ Aside0 (RS w w' r a n c 8 data G (l * 2) 109 (i * 2)) ∧ Aside0 (8 + 8 * i ≤ n))
  case atStart => exact ⟨0, rfl, ⟨by omega⟩, HS0, ⟨by omega⟩⟩
  case round =>
    obtain ⟨i, rfl, HK, HS, HF⟩ := hrel
    by_cases c1 : (i : Int) < (l : Int)
    · have p1 : (0 : Int) ≤ i := by omega
      have c1b := decide_eq_true c1
      by_cases f1 : 8 + 4 * (i * 2) + 4 ≤ n
      · have f1' := f1
        have S1 := Aside0.mk (HS.out.step_ok X.out (by omega) (by omega))
        go_wp2_with fail
        with_reducible refine Calls.mono S1.out ?_
        rintro _ W4 ⟨rfl, hS⟩
        have HS2 := Aside0.mk hS
        clear hS
        by_cases f2 : 8 + 4 * (i * 2 + 1) + 4 ≤ n
        · have f2' := f2
          have S2 := Aside0.mk (HS2.out.step_ok X.out (by omega) (by omega))
          go_wp2_with fail
          with_reducible refine Calls.mono S2.out ?_
          rintro _ W5 ⟨rfl, hS⟩
          have HS3 := Aside0.mk hS
          clear hS
          go_wp2_with fail
          have HK' := HK.out
          have HN' := HN.out
          cases gk with
          | zero => omega
          | succ k9 =>
            go_roundg k9
            case measure => omega
            case rel => exact ⟨i + 1, int_eq (by first | omega | (rw [wrap_ok (by omega) (by omega)]; omega)), ⟨by omega⟩, ⟨by rw [show (i + 1) * 2 = i * 2 + 1 + 1 by omega]; exact HS3.out⟩, ⟨by omega⟩⟩
        · have f2' := f2
          have S2 := Aside0.mk (HS2.out.step_short X.out (by omega) (by omega) (by have := HF.out; omega))
          go_wp2_with fail
          with_reducible refine Calls.mono S2.out ?_
          rintro _ W5 ⟨t, y, rfl, hK⟩
          have HKK := Aside0.mk hK
          clear hK
          go_wp2_with fail
          go_ret2
          exact .inr ⟨_, t, y, rfl, by omega, HKK.out⟩
      · have f1' := f1
        have S1 := Aside0.mk (HS.out.step_short X.out (by omega) (by omega) (by have := HF.out; omega))
        go_wp2_with fail
        with_reducible refine Calls.mono S1.out ?_
        rintro _ W4 ⟨t, y, rfl, hK⟩
        have HKK := Aside0.mk hK
        clear hK
        go_wp2_with fail
        go_ret2
        exact .inr ⟨_, t, y, rfl, by omega, HKK.out⟩
    · have c1b := decide_eq_false c1
      obtain rfl : i = l := by have := HK.out; omega
      go_wp2_with fail
      go_ret2
      exact .inl ⟨G, rfl, HF.out, HS.out⟩

end Go.Proofs.YtaejkbjepbifcabGreatDoor.Num
namespace Go.Proofs.YtaejkbjepbifcabGreatDoor.Num
open Go.RowKit Go.Proofs.YtaejkbjepbifcabGreatDoorW.PrintWords Go.Proofs.YtaejkbjepbifcabGreatDoor.Plain
set_option linter.unusedVariables false
set_option linter.unusedSimpArgs false

theorem valb_leb4 (u : Int) (h : 0 ≤ u) : valb (leb 4 u) = u % 4294967296 := by
  rw [leb4]; simp only [valb]; omega
theorem valb_leb8 (u : Int) (h : 0 ≤ u) (h2 : u < 18446744073709551616) : valb (leb 8 u) = u := by
  rw [leb8]; simp only [valb]; omega
theorem back32 (b : Int) (h : -2147483647 ≤ b) (h2 : b ≤ 2147483647) : wrap32 (valb (leb 4 (b % 18446744073709551616))) = b := by
  rw [valb_leb4 _ (by omega)]; unfold wrap32; omega
theorem cby_at (s : Da.DA) (n i : Nat) (hi : i < n) : ∃ r, (List.range n).flatMap (cby s) = (List.range i).flatMap (cby s) ++ (cby s i ++ r) := by
  obtain ⟨m, rfl⟩ : ∃ m, n = i + (m + 1) := ⟨n - i - 1, by omega⟩
  rw [List.range_add, List.flatMap_append, List.range_succ_eq_map, List.map_cons, List.flatMap_cons]
  exact ⟨_, rfl⟩
theorem wrtD_at (s : Da.DA) (n i : Nat) (hi : i < n) : ((wrtD s n).drop (8 + 8 * i)).take 4 = leb 4 (s.B i % 18446744073709551616) ∧ ((wrtD s n).drop (8 + 8 * i + 4)).take 4 = leb 4 (s.C i % 18446744073709551616) := by
  obtain ⟨r, hr⟩ := cby_at s n i hi
  have hw : wrtD s n = wrtD s i ++ (leb 4 (s.B i % 18446744073709551616) ++ (leb 4 (s.C i % 18446744073709551616) ++ r)) := by
    unfold wrtD
    rw [hr]; simp only [cby, List.append_assoc]
  have hl := wrtD_len s i
  rw [hw]
  constructor
  · rw [List.drop_left' hl, List.take_left' (leb_length 4 _)]
  · rw [← List.drop_drop, List.drop_left' hl, List.drop_left' (leb_length 4 _), List.take_left' (leb_length 4 _)]
theorem wrtD_head (s : Da.DA) (n : Nat) (h : s.n ≤ 1073741824) : valb ((wrtD s n).take 8) = s.n := by
  unfold wrtD
  rw [List.take_left' (leb_length 8 _), valb_leb8 _ (by omega) (by omega)]
  omega
theorem val_B (s : Da.DA) (n i : Nat) (hi : i < n) (h : -2147483647 ≤ s.B i ∧ s.B i ≤ 2147483647) : val 8 (wrtD s n) (i * 2) = s.B i := by
  unfold val
  rw [show 8 + 4 * (i * 2) = 8 + 8 * i by omega, (wrtD_at s n i hi).1, back32 _ h.1 h.2]
theorem val_C (s : Da.DA) (n i : Nat) (hi : i < n) (h : -2147483647 ≤ s.C i ∧ s.C i ≤ 2147483647) : val 8 (wrtD s n) (i * 2 + 1) = s.C i := by
  unfold val
  rw [show 8 + 4 * (i * 2 + 1) = 8 + 8 * i + 4 by omega, (wrtD_at s n i hi).2, back32 _ h.1 h.2]
theorem wrtD_bytes (s : Da.DA) (n : Nat) : ∀ x ∈ wrtD s n, 0 ≤ x ∧ x < 256 := fun x hx => by
  unfold wrtD at hx
  rcases List.mem_append.1 hx with h | h
  · exact leb_one 8 _ x h
  · obtain ⟨i, _, h⟩ := List.mem_flatMap.1 h
    unfold cby at h
    rcases List.mem_append.1 h with h | h
    · exact leb_one 4 _ x h
    · exact leb_one 4 _ x h
def Small (s : Da.DA) : Prop := (∀ i, i < s.n → -2147483647 ≤ s.B i ∧ s.B i ≤ 2147483647 ∧ -2147483647 ≤ s.C i ∧ s.C i ≤ 2147483647) ∧ s.n ≤ 1073741824
theorem arr_of {W : World} {G : Nat} {s : Da.DA} (hs : Small s) (h : W.heap[G]? = some (.cells (rcells 8 (wrtD s s.n) (s.n * 2) (s.n * 2)) 109 (0, 0))) : Da.Arr W G s :=
  ⟨⟨_, h, rcells_size _ _ _ _, fun i hi => ⟨by
    rw [rcells_get _ _ _ _ _ (by omega), if_pos (by omega), val_B s s.n i hi ⟨(hs.1 i hi).1, (hs.1 i hi).2.1⟩], by
    rw [rcells_get _ _ _ _ _ (by omega), if_pos (by omega), val_C s s.n i hi ⟨(hs.1 i hi).2.2.1, (hs.1 i hi).2.2.2⟩]⟩⟩, hs.1, hs.2⟩
end Go.Proofs.YtaejkbjepbifcabGreatDoor.Num
namespace Go.Proofs.YtaejkbjepbifcabGreatDoor.So
open Go.RowKit Go.Proofs.YtaejkbjepbifcabGreatDoorW.PrintWords Go.Proofs.YtaejkbjepbifcabGreatDoor.Da
set_option linter.unusedVariables false
set_option linter.unusedSimpArgs false
theorem iw (n : Int) : IntKind.i64.wrap n = wrap64 n := by unfold wrap64; exact IntKind.wrap_i64 n
structure RowI (w : World) (g n : Nat) (l : List Int) : Prop where
  ar : ∃ cur, w.heap[g]? = some (.cells cur 21 (0, 0)) ∧ n ≤ cur.size ∧ ∀ j, j < n → cur[j]? = some (.int .i32 (l.getD j 0))
  len : l.length = n
  few : n ≤ 1000000000
structure SrtE (W w : World) (g n : Nat) (l0 l : List Int) : Prop where
  kp : Kp W w (fun k => k = g)
  row : RowI w g n l
  perm : l.Perm l0
section
variable {W w w' : World} {g n : Nat} {l l0 l1 : List Int}
theorem RowI.lt (h : RowI w g n l) : g < w.heap.size := by
  obtain ⟨cur, h1, _⟩ := h.ar
  exact (Array.getElem?_eq_some_iff.1 h1).1
theorem RowI.cell (h : RowI w g n l) (j : Nat) (hj : j < n) : w.cell? ⟨g, j, none⟩ = some (.int .i32 (l.getD j 0)) := by
  obtain ⟨cur, h1, h2, h3⟩ := h.ar
  unfold World.cell?
  simp [h1, h3 j hj]
theorem RowI.froz (h : RowI w g n l) (j : Nat) : w.frozen? ⟨g, j, none⟩ = false := by
  obtain ⟨cur, h1, _⟩ := h.ar
  unfold World.frozen?; simp [h1]
theorem RowI.step (h : RowI w g n l) (e : w'.heap[g]? = w.heap[g]?) : RowI w' g n l := by
  obtain ⟨cur, h1, h2⟩ := h.ar
  exact ⟨⟨cur, e.trans h1, h2⟩, h.len, h.few⟩
theorem RowI.set (h : RowI w g n l) (j : Nat) (hj : j < n) (x : Int) : RowI (w.setCell ⟨g, j, none⟩ (.int .i32 x)) g n (l.set j x) := by
  obtain ⟨cur, h1, h2, h3⟩ := h.ar
  refine ⟨⟨_, setCell_heap h1, by simpa using h2, fun k hk => ?_⟩, by rw [List.length_set]; exact h.len, h.few⟩
  have hl := h.len
  rw [Array.getElem?_setIfInBounds]
  by_cases e : j = k
  · subst e
    rw [if_pos rfl, if_pos (by omega), List.getD_eq_getElem?_getD, List.getElem?_set_self (by omega)]
    rfl
  · rw [if_neg e, h3 k hk, List.getD_eq_getElem?_getD, List.getD_eq_getElem?_getD, List.getElem?_set_ne e]
theorem RowI.after (h : RowI w g n l) {i j : Nat} {x : Int} (hi : i < n) (hj : j < n) (hx : l.getD j 0 = x) (q : Nat) : ((w.drewN q).setCell ⟨g, i, none⟩ (.int .i32 x)).cell? ⟨g, j, none⟩ = some (.int .i32 x) := by
  have hl := h.len
  have h := ((h.step (w' := w.drewN q) rfl).set i hi x).cell j hj
  by_cases e : i = j
  · subst e
    rw [List.getD_eq_getElem?_getD, List.getElem?_set_self (by omega)] at h
    exact h
  · rw [List.getD_eq_getElem?_getD, List.getElem?_set_ne e, ← List.getD_eq_getElem?_getD, hx] at h
    exact h
def swp (l : List Int) (i j : Nat) : List Int := (l.set i (l.getD j 0)).set j (l.getD i 0)
theorem swp_perm (l : List Int) (i j : Nat) (hi : i < l.length) (hj : j < l.length) : (swp l i j).Perm l := by
  have h := Array.swap_perm (xs := l.toArray) (i := i) (j := j) (by simpa using hi) (by simpa using hj)
  have h2 := Array.perm_iff_toList_perm.1 h
  have e : swp l i j = (l.toArray.swap i j (by simpa using hi) (by simpa using hj)).toList := by
    unfold swp
    rw [List.getD_eq_getElem?_getD, List.getD_eq_getElem?_getD, List.getElem?_eq_getElem hi, List.getElem?_eq_getElem hj]
    simp [Array.swap_def]
  rw [e]
  simpa using h2
theorem SrtE.start (h : RowI W g n l) : SrtE W W g n l l := ⟨Kp.self _ _, h, List.Perm.refl _⟩
theorem SrtE.drewN (h : SrtE W w g n l0 l) (q : Nat) : SrtE W (w.drewN q) g n l0 l := ⟨h.kp.drewN q, h.row.step rfl, h.perm⟩
theorem SrtE.then (h : SrtE W w g n l0 l) (k : SrtE w w' g n l l1) : SrtE W w' g n l0 l1 := ⟨(h.kp.trans k.kp).mono (fun i _ hi => by rcases hi with hi | hi <;> exact hi), k.row, k.perm.trans h.perm⟩
theorem SrtE.swap (h : SrtE W w g n l0 l) (i j q : Nat) (hi : i < n) (hj : j < n) : SrtE W ((((w.drewN q).setCell ⟨g, i, none⟩ (.int .i32 (l.getD j 0)))).setCell ⟨g, j, none⟩ (.int .i32 (l.getD i 0))) g n l0 (swp l i j) := by
  have hl := h.row.len
  refine ⟨((h.kp.drewN q).setCell _ _ rfl).setCell _ _ rfl, (((h.row.step (w' := w.drewN q) rfl).set i hi _).set j hj _), (swp_perm l i j (by omega) (by omega)).trans h.perm⟩
theorem SrtE.len (h : SrtE W w g n l0 l) : l.length = n := h.row.len
end
set_option maxHeartbeats 16000000 in
set_option maxRecDepth 100000 in
theorem nan32 (x : Int) (w : World) : Calls Tryz.prog 108 #[.int .i32 x] w fun e w' => e = .returned (.bool false) ∧ w' = w := by
  go_enter Tryz.func108, Tryz.ntmps108
  have h : (x != x) = false := by simp
  go_wp2_with fail
  go_ret
  exact ⟨by simp, rfl⟩
set_option maxHeartbeats 16000000 in
set_option maxRecDepth 100000 in
theorem less32 (x y : Int) (w : World) : Calls Tryz.prog 87 #[.int .i32 x, .int .i32 y] w fun e w' => e = .returned (.bool (decide (x < y))) ∧ w' = w := by
  go_enter Tryz.func87, Tryz.ntmps87
  go_wp2_with (go_at_call 108; refine (nan32 _ _).mono ?_; rintro e_ w_ ⟨rfl, rfl⟩)
  go_ret
  exact ⟨by simp, rfl⟩
end Go.Proofs.YtaejkbjepbifcabGreatDoor.So
namespace Go.Proofs.YtaejkbjepbifcabGreatDoor.So
open Go.RowKit Go.Proofs.YtaejkbjepbifcabGreatDoorW.PrintWords Go.Proofs.YtaejkbjepbifcabGreatDoor.Da
set_option linter.unusedVariables false
set_option linter.unusedSimpArgs false
theorem wz {a b c : Int} (h : a + b = c) (h0 : -1000000000000 ≤ c) (h1 : c ≤ 1000000000000) : wrap64 (a + b) = c ∧ IntKind.i64.wrap (a + b) = c := by
  have e : wrap64 (a + b) = c := by unfold wrap64; omega
  exact ⟨e, (iw _).trans e⟩
theorem sift_nums (r first hi n gk : Nat) (hn : n ≤ 1000000000) (hc : 2 * r + 1 < hi) (hhi : first + hi ≤ n) (hk : hi ≤ r + gk) : ∃ ch ch1 fr fc fc1 : Nat, 2 * (r : Int) + 1 = (ch : Int) ∧ (wrap64 ((ch : Int) + 1) = (ch1 : Int) ∧ IntKind.i64.wrap ((ch : Int) + 1) = (ch1 : Int)) ∧ (wrap64 ((first : Int) + (ch : Int)) = (fc : Int) ∧ IntKind.i64.wrap ((first : Int) + (ch : Int)) = (fc : Int)) ∧ (wrap64 ((fc : Int) + 1) = (fc1 : Int) ∧ IntKind.i64.wrap ((fc : Int) + 1) = (fc1 : Int)) ∧ (wrap64 ((first : Int) + (r : Int)) = (fr : Int) ∧ IntKind.i64.wrap ((first : Int) + (r : Int)) = (fr : Int)) ∧ (wrap64 ((first : Int) + (ch1 : Int)) = (fc1 : Int) ∧ IntKind.i64.wrap ((first : Int) + (ch1 : Int)) = (fc1 : Int)) ∧
    fr < n ∧ fc < n ∧ fr < fc ∧ fr < fc1 ∧ (hi ≤ ch + (gk - 1) ∧ hi ≤ ch1 + (gk - 1) ∧ ch ≤ n ∧ 0 < gk) ∧ (ch1 < hi → ch1 ≤ n ∧ fc1 < n) := by
  refine ⟨2 * r + 1, 2 * r + 2, first + r, first + (2 * r + 1), first + (2 * r + 1) + 1, by omega, wz (by omega) (by omega) (by omega), wz (by omega) (by omega) (by omega), wz (by omega) (by omega) (by omega), wz (by omega) (by omega) (by omega), wz (by omega) (by omega) (by omega), by omega, by omega, by omega, by omega, ⟨by omega, by omega, by omega, by omega⟩, fun h => ⟨by omega, by omega⟩⟩
set_option maxHeartbeats 16000000 in
set_option maxRecDepth 100000 in
theorem sift_calls (W : World) (g n c lo hi first : Nat) (l : List Int) (hR : RowI W g n l) (hlo : lo ≤ n) (hhi : first + hi ≤ n) :
    Calls Tryz.prog 103 #[.slice (some ⟨g, 0, none⟩) n c, .int .i64 (lo : Int), .int .i64 (hi : Int), .int .i64 (first : Int)] W fun e w' => e = .returned (.tuple #[]) ∧ ∃ l', SrtE W w' g n l l' := by
  have HS0 := Aside0.mk (SrtE.start hR)
  have hn := hR.few
  clear hR
  go_enter Tryz.func103, Tryz.ntmps103
  go_wp2_with fail
  go_loopg [8, 9] (hi - lo) (fun kq v8 v9 w' => ∃ (r : Nat) (l' : List Int), v8 = .int .i64 (r : Int) ∧ Aside0 (hi ≤ r + kq) ∧ Aside0 (r ≤ n) ∧ Aside0 (SrtE W w' g n l l'))
  case atStart => exact ⟨lo, l, rfl, ⟨by omega⟩, ⟨hlo⟩, HS0⟩
  case round =>
    clear HS0
    obtain ⟨r, l2, rfl, HI, HA, HS⟩ := hrel
    have hi_ := HI.out
    have ha := HA.out
    by_cases hc : 2 * r + 1 < hi
    · have hcz : 2 * (r : Int) + 1 < (hi : Int) := by omega
      go_upto_region 3 with fail
      obtain ⟨ch, ch1, fr, fc, fc1, hch, ⟨w1, w1y⟩, ⟨w2, w2y⟩, ⟨w3, w3y⟩, ⟨w4, w4y⟩, ⟨w5, w5y⟩, hfrn, hfcn, hne, hne1, hm, hm1⟩ := sift_nums r first hi n gk hn hc hhi hi_
      rw [hch]
      have HNE : Aside0 (fr ≠ fc ∧ fr ≠ fc1) := ⟨⟨Nat.ne_of_lt hne, Nat.ne_of_lt hne1⟩⟩
      have y0 := HS.out.row.cell fr hfrn
      obtain ⟨x0, hx0⟩ : ∃ x, l2.getD fr 0 = x := ⟨_, rfl⟩
      rw [hx0] at y0
      have f0 := HS.out.row.froz fr
      have y1 := HS.out.row.cell fc hfcn
      obtain ⟨x1, hx1⟩ : ∃ x, l2.getD fc 0 = x := ⟨_, rfl⟩
      rw [hx1] at y1
      have f1 := HS.out.row.froz fc
      clear hch hc hcz hi_ ha hne hne1
      cases gk with
      | zero => exact absurd hm.2.2.2 (Nat.lt_irrefl 0)
      | succ kz =>
      rw [Nat.add_sub_cancel] at hm
      by_cases h1 : ch1 < hi
      · have h1z : (ch1 : Int) < (hi : Int) := by omega
        have h1b : decide ((ch1 : Int) < (hi : Int)) = true := decide_eq_true h1z
        obtain ⟨h1n, h1f⟩ := hm1 h1
        have y2 := HS.out.row.cell fc1 h1f
        obtain ⟨x2, hx2⟩ : ∃ x, l2.getD fc1 0 = x := ⟨_, rfl⟩
        rw [hx2] at y2
        have f2 := HS.out.row.froz fc1
        by_cases hl : x1 < x2
        · have hlb : decide (x1 < x2) = true := decide_eq_true hl
          go_quiet (first | (go_at_call 87; refine Calls.quiet_of_same (less32 _ _ _)))
          go_upto_region 5 with fail
          obtain ⟨wq, hwq⟩ : ∃ x, x = wr.drewN nq := ⟨_, rfl⟩
          have HSq := Aside0.mk (HS.out.drewN nq)
          rw [← hwq] at HSq ⊢
          clear hwq HS y0 f0 y1 f1 y2 f2 hlb hl
          have y0 := HSq.out.row.cell fr hfrn
          rw [hx0] at y0
          have f0 := HSq.out.row.froz fr
          have y2 := HSq.out.row.cell fc1 h1f
          rw [hx2] at y2
          have f2 := HSq.out.row.froz fc1
          have y3 : ∀ q, ((wq.drewN q).setCell ⟨g, fr, none⟩ (.int .i32 x2)).cell? ⟨g, fc1, none⟩ = some (.int .i32 x2) := fun q => HSq.out.row.after hfrn h1f hx2 q
          have f3 : ∀ q, ((wq.drewN q).setCell ⟨g, fr, none⟩ (.int .i32 x2)).frozen? ⟨g, fc1, none⟩ = false := fun q => ((HSq.out.row.step (w' := wq.drewN q) rfl).set fr hfrn x2).froz fc1
          have y3d : ((wq.setCell ⟨g, fr, none⟩ (.int .i32 x2)).drew).cell? ⟨g, fc1, none⟩ = some (.int .i32 x2) := HSq.out.row.after hfrn h1f hx2 0
          have f3d : ((wq.setCell ⟨g, fr, none⟩ (.int .i32 x2)).drew).frozen? ⟨g, fc1, none⟩ = false := (HSq.out.row.set fr hfrn x2).froz fc1
          by_cases hl2 : x0 < x2
          · have hlb2 : decide (x0 < x2) = true := decide_eq_true hl2
            go_quiet (first | (go_at_call 87; refine Calls.quiet_of_same (less32 _ _ _)))
            go_upto_region 6 with fail
            go_region
            go_wp2_with fail
            go_roundg kz
            case measure => omega
            case rel =>
              have h := HSq.out.swap fr fc1 (nq + 1) hfrn h1f
              rw [hx0, hx2] at h
              exact ⟨ch1, swp l2 fr fc1, rfl, ⟨by omega⟩, ⟨by omega⟩, ⟨h⟩⟩
          · have hlb2 : decide (x0 < x2) = false := decide_eq_false hl2
            go_quiet (first | (go_at_call 87; refine Calls.quiet_of_same (less32 _ _ _)))
            go_wp2_with fail
            (try simp only [Exit.inBlock, Exit.then])
            refine bodyPost_ret (results_none rfl _ _ _) rfl ?_
            exact ⟨rfl, _, HSq.out.drewN _⟩
        · have hlb : decide (x1 < x2) = false := decide_eq_false hl
          go_quiet (first | (go_at_call 87; refine Calls.quiet_of_same (less32 _ _ _)))
          go_upto_region 5 with fail
          obtain ⟨wq, hwq⟩ : ∃ x, x = wr.drewN nq := ⟨_, rfl⟩
          have HSq := Aside0.mk (HS.out.drewN nq)
          rw [← hwq] at HSq ⊢
          clear hwq HS y0 f0 y1 f1 y2 f2 hlb hl
          have y0 := HSq.out.row.cell fr hfrn
          rw [hx0] at y0
          have f0 := HSq.out.row.froz fr
          have y1 := HSq.out.row.cell fc hfcn
          rw [hx1] at y1
          have f1 := HSq.out.row.froz fc
          have y3 : ∀ q, ((wq.drewN q).setCell ⟨g, fr, none⟩ (.int .i32 x1)).cell? ⟨g, fc, none⟩ = some (.int .i32 x1) := fun q => HSq.out.row.after hfrn hfcn hx1 q
          have f3 : ∀ q, ((wq.drewN q).setCell ⟨g, fr, none⟩ (.int .i32 x1)).frozen? ⟨g, fc, none⟩ = false := fun q => ((HSq.out.row.step (w' := wq.drewN q) rfl).set fr hfrn x1).froz fc
          have y3d : ((wq.setCell ⟨g, fr, none⟩ (.int .i32 x1)).drew).cell? ⟨g, fc, none⟩ = some (.int .i32 x1) := HSq.out.row.after hfrn hfcn hx1 0
          have f3d : ((wq.setCell ⟨g, fr, none⟩ (.int .i32 x1)).drew).frozen? ⟨g, fc, none⟩ = false := (HSq.out.row.set fr hfrn x1).froz fc
          by_cases hl2 : x0 < x1
          · have hlb2 : decide (x0 < x1) = true := decide_eq_true hl2
            go_quiet (first | (go_at_call 87; refine Calls.quiet_of_same (less32 _ _ _)))
            go_upto_region 6 with fail
            go_region
            go_wp2_with fail
            go_roundg kz
            case measure => omega
            case rel =>
              have h := HSq.out.swap fr fc (nq + 1) hfrn hfcn
              rw [hx0, hx1] at h
              exact ⟨ch, swp l2 fr fc, rfl, ⟨by omega⟩, ⟨by omega⟩, ⟨h⟩⟩
          · have hlb2 : decide (x0 < x1) = false := decide_eq_false hl2
            go_quiet (first | (go_at_call 87; refine Calls.quiet_of_same (less32 _ _ _)))
            go_wp2_with fail
            (try simp only [Exit.inBlock, Exit.then])
            refine bodyPost_ret (results_none rfl _ _ _) rfl ?_
            exact ⟨rfl, _, HSq.out.drewN _⟩
      · have h1z : ¬ (ch1 : Int) < (hi : Int) := by omega
        have h1b : decide ((ch1 : Int) < (hi : Int)) = false := decide_eq_false h1z
        go_quiet (first | (go_at_call 87; refine Calls.quiet_of_same (less32 _ _ _)))
        go_upto_region 5 with fail
        obtain ⟨wq, hwq⟩ : ∃ x, x = wr.drewN nq := ⟨_, rfl⟩
        have HSq := Aside0.mk (HS.out.drewN nq)
        rw [← hwq] at HSq ⊢
        clear hwq HS y0 f0 y1 f1
        have y0 := HSq.out.row.cell fr hfrn
        rw [hx0] at y0
        have f0 := HSq.out.row.froz fr
        have y1 := HSq.out.row.cell fc hfcn
        rw [hx1] at y1
        have f1 := HSq.out.row.froz fc
        have y3 : ∀ q, ((wq.drewN q).setCell ⟨g, fr, none⟩ (.int .i32 x1)).cell? ⟨g, fc, none⟩ = some (.int .i32 x1) := fun q => HSq.out.row.after hfrn hfcn hx1 q
        have f3 : ∀ q, ((wq.drewN q).setCell ⟨g, fr, none⟩ (.int .i32 x1)).frozen? ⟨g, fc, none⟩ = false := fun q => ((HSq.out.row.step (w' := wq.drewN q) rfl).set fr hfrn x1).froz fc
        have y3d : ((wq.setCell ⟨g, fr, none⟩ (.int .i32 x1)).drew).cell? ⟨g, fc, none⟩ = some (.int .i32 x1) := HSq.out.row.after hfrn hfcn hx1 0
        have f3d : ((wq.setCell ⟨g, fr, none⟩ (.int .i32 x1)).drew).frozen? ⟨g, fc, none⟩ = false := (HSq.out.row.set fr hfrn x1).froz fc
        by_cases hl2 : x0 < x1
        · have hlb2 : decide (x0 < x1) = true := decide_eq_true hl2
          go_quiet (first | (go_at_call 87; refine Calls.quiet_of_same (less32 _ _ _)))
          go_upto_region 6 with fail
          go_region
          go_wp2_with fail
          go_roundg kz
          case measure => omega
          case rel =>
            have h := HSq.out.swap fr fc (nq + 1) hfrn hfcn
            rw [hx0, hx1] at h
            exact ⟨ch, swp l2 fr fc, rfl, ⟨by omega⟩, ⟨by omega⟩, ⟨h⟩⟩
        · have hlb2 : decide (x0 < x1) = false := decide_eq_false hl2
          go_quiet (first | (go_at_call 87; refine Calls.quiet_of_same (less32 _ _ _)))
          go_wp2_with fail
          (try simp only [Exit.inBlock, Exit.then])
          refine bodyPost_ret (results_none rfl _ _ _) rfl ?_
          exact ⟨rfl, _, HSq.out.drewN _⟩
    · have hcz : ¬ 2 * (r : Int) + 1 < (hi : Int) := by omega
      go_wp2_with fail
      go_end0
      exact ⟨rfl, _, HS.out⟩
end Go.Proofs.YtaejkbjepbifcabGreatDoor.So
namespace Go.Proofs.YtaejkbjepbifcabGreatDoor.So
open Go.RowKit Go.Proofs.YtaejkbjepbifcabGreatDoorW.PrintWords Go.Proofs.YtaejkbjepbifcabGreatDoor.Da
set_option linter.unusedVariables false
set_option linter.unusedSimpArgs false
theorem heap_nums (a b n : Nat) (hab : a < b) (hb : b ≤ n) (hn : n ≤ 1000000000) : ∃ hi h2 : Nat, a + hi = b ∧ 0 < hi ∧ h2 < hi ∧ wrap64 ((b : Int) - (a : Int)) = (hi : Int) ∧ Int.tdiv (wrap64 ((hi : Int) - 1)) 2 = (h2 : Int) ∧ Int.tdiv ((hi : Int) - 1) 2 = (h2 : Int) ∧ ((hi : Int) - 1) / 2 = (h2 : Int) := by
  refine ⟨b - a, (b - a - 1) / 2, by omega, by omega, by omega, by unfold wrap64; omega, ?_, ?_, by omega⟩
  · have e : wrap64 (((b - a : Nat) : Int) - 1) = ((b - a - 1 : Nat) : Int) := by unfold wrap64; omega
    rw [e]; rfl
  · have e : (((b - a : Nat) : Int) - 1) = ((b - a - 1 : Nat) : Int) := by omega
    rw [e]; rfl
theorem down_num (k : Nat) (h : k ≤ 1000000000) : wrap64 ((k : Int) - 1) = (k : Int) - 1 := by unfold wrap64; omega
set_option maxHeartbeats 16000000 in
set_option maxRecDepth 100000 in
theorem heap_calls (W : World) (g n c a b : Nat) (l : List Int) (hR : RowI W g n l) (hab : a < b) (hb : b ≤ n) :
    Calls Tryz.prog 82 #[.slice (some ⟨g, 0, none⟩) n c, .int .i64 (a : Int), .int .i64 (b : Int)] W fun e w' => e = .returned (.tuple #[]) ∧ ∃ l', SrtE W w' g n l l' := by
  have HS0 := Aside0.mk (SrtE.start hR)
  have hn := hR.few
  obtain ⟨hi, h2, e1, e2, e3, w1, w2, w3, w4⟩ := heap_nums a b n hab hb hn
  have HE := Aside0.mk e1
  have hhn : hi ≤ n := by omega
  clear hR e1
  go_enter Tryz.func82, Tryz.ntmps82
  go_upto_region 4 with fail
  rw [show (b : Int) - (a : Int) = (hi : Int) from by have := HE.out; omega, w4]
  clear w1 w2 w3 w4
  go_loopg [9] (h2 + 1) (fun kq v9 w' => ∃ (l' : List Int), v9 = .int .i64 ((kq : Int) - 1) ∧ Aside0 (kq ≤ h2 + 1) ∧ Aside0 (SrtE W w' g n l l'))
  case atStart => exact ⟨l, congrArg (Value.int .i64) (by omega), ⟨Nat.le_refl _⟩, HS0⟩
  case round =>
    clear HS0
    obtain ⟨l2, rfl, HI, HS⟩ := hrel
    cases gk with
    | zero =>
      go_wp2_with fail
      go_loopg [10] hi (fun kq v10 w' => ∃ (l' : List Int), v10 = .int .i64 ((kq : Int) - 1) ∧ Aside0 (kq ≤ hi) ∧ Aside0 (SrtE W w' g n l l'))
      case atStart => exact ⟨l2, congrArg (Value.int .i64) (by omega), ⟨Nat.le_refl _⟩, HS⟩
      case round =>
        clear HS
        obtain ⟨l3, rfl, HI3, HS⟩ := hrel
        cases gk with
        | zero =>
          go_wp2_with fail
          go_end0
          exact ⟨rfl, _, HS.out⟩
        | succ kz =>
          have hkz : kz < hi := by have := HI3.out; omega
          rw [show (((kz + 1 : Nat) : Int) - 1) = (kz : Int) from by omega]
          obtain ⟨p, hp⟩ : ∃ p : Nat, p = a + kz := ⟨_, rfl⟩
          have hpn : p < n := by have := HE.out; omega
          have han : a < n := by omega
          have hpw := wz (a := (a : Int)) (b := (kz : Int)) (c := (p : Int)) (by omega) (by omega) (by omega)
          obtain ⟨p1, p2⟩ := hpw
          have hdn := down_num kz (by omega)
          have y0 := HS.out.row.cell a han
          obtain ⟨x0, hx0⟩ : ∃ x, l3.getD a 0 = x := ⟨_, rfl⟩
          rw [hx0] at y0
          have f0 := HS.out.row.froz a
          have y1 := HS.out.row.cell p hpn
          obtain ⟨x1, hx1⟩ : ∃ x, l3.getD p 0 = x := ⟨_, rfl⟩
          rw [hx1] at y1
          have f1 := HS.out.row.froz p
          have y2 : ∀ q, ((wr.drewN q).setCell ⟨g, a, none⟩ (.int .i32 x1)).cell? ⟨g, p, none⟩ = some (.int .i32 x1) := fun q => HS.out.row.after han hpn hx1 q
          have f2 : ∀ q, ((wr.drewN q).setCell ⟨g, a, none⟩ (.int .i32 x1)).frozen? ⟨g, p, none⟩ = false := fun q => ((HS.out.row.step (w' := wr.drewN q) rfl).set a han x1).froz p
          have y2d : ((wr.setCell ⟨g, a, none⟩ (.int .i32 x1)).drew).cell? ⟨g, p, none⟩ = some (.int .i32 x1) := HS.out.row.after han hpn hx1 0
          have f2d : ((wr.setCell ⟨g, a, none⟩ (.int .i32 x1)).drew).frozen? ⟨g, p, none⟩ = false := (HS.out.row.set a han x1).froz p
          have HP := Aside0.mk hp
          clear hp
          go_upto_region 10 with fail
          go_region
          have h := HS.out.swap a p 1 han hpn
          rw [hx0, hx1] at h
          have HSW := Aside0.mk h
          clear h
          go_wp2_with (go_at_call 103; refine (sift_calls _ g n c 0 kz a _ HSW.out.row (Nat.zero_le _) (by have := HE.out; omega)).mono ?_; rintro e_ w2 ⟨rfl, l4, hs⟩; have HS4 := Aside0.mk (HSW.out.then hs); clear hs)
          go_roundg kz
          case measure => omega
          case rel => exact ⟨l4, congrArg (Value.int .i64) (by first | exact hdn | omega), ⟨by omega⟩, HS4⟩
    | succ kz =>
      have hkz : kz ≤ h2 := by have := HI.out; omega
      rw [show (((kz + 1 : Nat) : Int) - 1) = (kz : Int) from by omega]
      have hdn := down_num kz (by omega)
      have HSF := Aside0.mk (sift_calls wr g n c kz hi a l2 HS.out.row (by omega) (by have := HE.out; omega))
      go_wp2_with (go_at_call 103; refine HSF.out.mono ?_; rintro e_ w2 ⟨rfl, l3, hs⟩; have HS3 := Aside0.mk (HS.out.then hs); clear hs)
      go_roundg kz
      case measure => omega
      case rel => exact ⟨l3, congrArg (Value.int .i64) (by first | exact hdn | omega), ⟨by omega⟩, HS3⟩
end Go.Proofs.YtaejkbjepbifcabGreatDoor.So
namespace Go.Proofs.YtaejkbjepbifcabGreatDoor.So
open Go.RowKit Go.Proofs.YtaejkbjepbifcabGreatDoorW.PrintWords Go.Proofs.YtaejkbjepbifcabGreatDoor.Da
set_option linter.unusedVariables false
set_option linter.unusedSimpArgs false
theorem rev_nums (j : Nat) (h : 0 < j) (hn : j ≤ 1000000000) : ∃ j1 : Nat, j = j1 + 1 ∧ wrap64 ((j : Int) - 1) = (j1 : Int) := ⟨j - 1, by omega, by unfold wrap64; omega⟩
set_option maxHeartbeats 16000000 in
set_option maxRecDepth 100000 in
theorem rev_calls (W : World) (g n c a b : Nat) (l : List Int) (hR : RowI W g n l) (hab : a < b) (hb : b ≤ n) :
    Calls Tryz.prog 85 #[.slice (some ⟨g, 0, none⟩) n c, .int .i64 (a : Int), .int .i64 (b : Int)] W fun e w' => e = .returned (.tuple #[]) ∧ ∃ l', SrtE W w' g n l l' := by
  have HS0 := Aside0.mk (SrtE.start hR)
  have hn := hR.few
  obtain ⟨b1, hb1, hbw⟩ := rev_nums b (by omega) (by omega)
  have hb1n : b1 < n := by omega
  have HB1 := Aside0.mk hb1
  clear hR hb1
  go_enter Tryz.func85, Tryz.ntmps85
  go_wp2_with fail
  go_loopg [6, 7] (b - a) (fun kq v6 v7 w' => ∃ (i j : Nat) (l' : List Int), v6 = .int .i64 (i : Int) ∧ v7 = .int .i64 (j : Int) ∧ Aside0 (j < i + kq) ∧ Aside0 (j < n) ∧ Aside0 (SrtE W w' g n l l'))
  case atStart =>
    have := HB1.out
    exact ⟨a, b1, l, rfl, congrArg (Value.int .i64) (by first | exact hbw | omega), ⟨by omega⟩, ⟨hb1n⟩, HS0⟩
  case round =>
    clear HS0 hbw
    obtain ⟨i, j, l2, rfl, rfl, HI, HJ, HS⟩ := hrel
    have hi := HI.out
    have hjn := HJ.out
    by_cases hij : i < j
    · have hijz : (i : Int) < (j : Int) := by omega
      have hin : i < n := by omega
      obtain ⟨j1, hj1, hjw⟩ := rev_nums j (by omega) (by omega)
      have HJ1 := Aside0.mk hj1
      have y0 := HS.out.row.cell i hin
      obtain ⟨x0, hx0⟩ : ∃ x, l2.getD i 0 = x := ⟨_, rfl⟩
      rw [hx0] at y0
      have f0 := HS.out.row.froz i
      have y1 := HS.out.row.cell j hjn
      obtain ⟨x1, hx1⟩ : ∃ x, l2.getD j 0 = x := ⟨_, rfl⟩
      rw [hx1] at y1
      have f1 := HS.out.row.froz j
      have y2 : ∀ q, ((wr.drewN q).setCell ⟨g, i, none⟩ (.int .i32 x1)).cell? ⟨g, j, none⟩ = some (.int .i32 x1) := fun q => HS.out.row.after hin hjn hx1 q
      have f2 : ∀ q, ((wr.drewN q).setCell ⟨g, i, none⟩ (.int .i32 x1)).frozen? ⟨g, j, none⟩ = false := fun q => ((HS.out.row.step (w' := wr.drewN q) rfl).set i hin x1).froz j
      have y2d : ((wr.setCell ⟨g, i, none⟩ (.int .i32 x1)).drew).cell? ⟨g, j, none⟩ = some (.int .i32 x1) := HS.out.row.after hin hjn hx1 0
      have f2d : ((wr.setCell ⟨g, i, none⟩ (.int .i32 x1)).drew).frozen? ⟨g, j, none⟩ = false := (HS.out.row.set i hin x1).froz j
      cases gk with
      | zero => omega
      | succ kz =>
      clear hj1 hi
      go_upto_region 3 with fail
      go_region
      go_wp2_with fail
      go_roundg kz
      case measure => omega
      case rel =>
        have h := HS.out.swap i j 1 hin hjn
        rw [hx0, hx1] at h
        have := HI.out
        have := HJ1.out
        exact ⟨i + 1, j1, swp l2 i j, congrArg (Value.int .i64) (by omega), congrArg (Value.int .i64) (by first | exact hjw | omega), ⟨by omega⟩, ⟨by omega⟩, ⟨h⟩⟩
    · have hijz : ¬ (i : Int) < (j : Int) := by omega
      go_wp2_with fail
      go_end0
      exact ⟨rfl, _, HS.out⟩
end Go.Proofs.YtaejkbjepbifcabGreatDoor.So
namespace Go.Proofs.YtaejkbjepbifcabGreatDoor.So
open Go.RowKit Go.Proofs.YtaejkbjepbifcabGreatDoorW.PrintWords Go.Proofs.YtaejkbjepbifcabGreatDoor.Da
set_option linter.unusedVariables false
set_option linter.unusedSimpArgs false
def BoxN (w : World) (sb : Nat) (s : Nat) : Prop := w.heap[sb]? = some (.cells #[.int .i64 (s : Int)] 3 (0, 0))
section
variable {W w w' : World} {sb g n s : Nat} {l : List Int}
theorem BoxN.cell (h : BoxN w sb s) : w.cell? ⟨sb, 0, none⟩ = some (.int .i64 (s : Int)) := by
  have h := h; unfold BoxN at h
  unfold World.cell?; simp [h]
theorem BoxN.froz (h : BoxN w sb s) : w.frozen? ⟨sb, 0, none⟩ = false := by
  have h := h; unfold BoxN at h
  unfold World.frozen?; simp [h]
theorem BoxN.step (h : BoxN w sb s) (e : w'.heap[sb]? = w.heap[sb]?) : BoxN w' sb s := by
  have h := h; unfold BoxN at h
  exact e.trans h
theorem BoxN.set (h : BoxN w sb s) (t : Nat) : BoxN (w.setCell ⟨sb, 0, none⟩ (.int .i64 (t : Int))) sb t := by
  have h := h; unfold BoxN at h
  show _ = _; rw [setCell_heap h]; rfl
theorem BoxN.ne (h : BoxN w sb s) (hR : RowI w g n l) : g ≠ sb := by
  have h := h; unfold BoxN at h
  obtain ⟨cur, h1, _⟩ := hR.ar
  intro e
  rw [e, h] at h1
  injection h1 with h1
  injection h1 with _ h2
  exact absurd h2 (by decide)
theorem RowI.far {S : Nat → Prop} (h : RowI W g n l) (k : Kp W w S) (hS : ¬ S g) : RowI w g n l := h.step (k.old g h.lt hS)
end
def OrdE (W w : World) (g n : Nat) (l : List Int) (sb s lo hi : Nat) (e : Ending) : Prop :=
  ∃ (x y s' : Nat), e = .returned (.tuple #[.int .i64 (x : Int), .int .i64 (y : Int)]) ∧ (lo ≤ x ∧ x < hi) ∧ (lo ≤ y ∧ y < hi) ∧ s' ≤ s + 1 ∧ BoxN w sb s' ∧ RowI w g n l ∧ Kp W w (fun k => k = sb)
def MedE (W w : World) (g n : Nat) (l : List Int) (sb s lo hi : Nat) (e : Ending) : Prop :=
  ∃ (x s' : Nat), e = .returned (.int .i64 (x : Int)) ∧ (lo ≤ x ∧ x < hi) ∧ s' ≤ s + 3 ∧ BoxN w sb s' ∧ RowI w g n l ∧ Kp W w (fun k => k = sb)
set_option maxHeartbeats 16000000 in
set_option maxRecDepth 100000 in
theorem ord_calls (W : World) (g n c sb s lo hi a b : Nat) (l : List Int) (hR : RowI W g n l) (hB : BoxN W sb s) (hs : s ≤ 1000) (hh : hi ≤ n) (ha : lo ≤ a ∧ a < hi) (hb : lo ≤ b ∧ b < hi) :
    Calls Tryz.prog 112 #[.slice (some ⟨g, 0, none⟩) n c, .int .i64 (a : Int), .int .i64 (b : Int), .pointer (some ⟨sb, 0, none⟩)] W fun e w' => OrdE W w' g n l sb s lo hi e := by
  have hn := hR.few
  have han : a < n := by omega
  have hbn : b < n := by omega
  have HR := Aside0.mk hR
  have HB := Aside0.mk hB
  have y0 := hR.cell b hbn
  obtain ⟨x0, hx0⟩ : ∃ x, l.getD b 0 = x := ⟨_, rfl⟩
  rw [hx0] at y0
  have f0 := hR.froz b
  have y1 := hR.cell a han
  obtain ⟨x1, hx1⟩ : ∃ x, l.getD a 0 = x := ⟨_, rfl⟩
  rw [hx1] at y1
  have f1 := hR.froz a
  have z0 := hB.cell
  have z1 := hB.froz
  have HA := Aside0.mk (And.intro ha hb)
  clear hR hB hx0 hx1 ha hb hh
  by_cases hl : x0 < x1
  · have hlb : decide (x0 < x1) = true := decide_eq_true hl
    go_enter Tryz.func112, Tryz.ntmps112
    go_upto_region 1 with fail
    go_quiet (first | (go_at_call 87; refine Calls.quiet_of_same (less32 _ _ _)))
    go_wp2_with fail
    go_ret2
    refine ⟨b, a, s + 1, rfl, HA.out.2, HA.out.1, Nat.le_refl _, ?_, ?_, ?_⟩
    · exact (HB.out.step (w' := W.drewN nq) rfl).set (s + 1)
    · exact (HR.out.step (w' := W.drewN nq) rfl).step (Below.heap_setCell _ _ _ _ (HB.out.ne HR.out))
    · exact ((Kp.self W (fun k => k = sb)).drewN nq).setCell _ _ rfl
  · have hlb : decide (x0 < x1) = false := decide_eq_false hl
    go_enter Tryz.func112, Tryz.ntmps112
    go_upto_region 1 with fail
    go_quiet (first | (go_at_call 87; refine Calls.quiet_of_same (less32 _ _ _)))
    go_wp2_with fail
    go_ret2
    exact ⟨a, b, s, rfl, HA.out.1, HA.out.2, Nat.le_succ _, HB.out.step rfl, HR.out.step rfl, (Kp.self W (fun k => k = sb)).drewN nq⟩
set_option maxHeartbeats 16000000 in
set_option maxRecDepth 100000 in
theorem med_calls (W : World) (g n c sb s lo hi a b d : Nat) (l : List Int) (hR : RowI W g n l) (hB : BoxN W sb s) (hs : s ≤ 900) (hh : hi ≤ n) (ha : lo ≤ a ∧ a < hi) (hb : lo ≤ b ∧ b < hi) (hd : lo ≤ d ∧ d < hi) :
    Calls Tryz.prog 107 #[.slice (some ⟨g, 0, none⟩) n c, .int .i64 (a : Int), .int .i64 (b : Int), .int .i64 (d : Int), .pointer (some ⟨sb, 0, none⟩)] W fun e w' => MedE W w' g n l sb s lo hi e := by
  have HC := Aside0.mk (ord_calls W g n c sb s lo hi a b l hR hB (by omega) hh ha hb)
  have HA := Aside0.mk (And.intro hh (And.intro hs hd))
  have HR := Aside0.mk (hB.ne hR)
  clear hR hB hh hs ha hb hd
  go_enter Tryz.func107, Tryz.ntmps107
  go_wp2_with fail
  with_reducible refine Calls.mono HC.out ?_
  rintro e_ w1 ⟨x1, y1, s1, rfl, hx1, hy1, hs1, hB1, hR1, hK1⟩
  have HC2 := Aside0.mk (ord_calls w1 g n c sb s1 lo hi y1 d l hR1 hB1 (by have := HA.out; omega) HA.out.1 hy1 HA.out.2.2)
  have H1 := Aside0.mk (And.intro hx1 (And.intro hs1 hK1))
  clear hx1 hy1 hs1 hB1 hR1 hK1
  go_wp2_with fail
  with_reducible refine Calls.mono HC2.out ?_
  rintro e_ w2 ⟨x2, y2, s2, rfl, hx2, hy2, hs2, hB2, hR2, hK2⟩
  have HC3 := Aside0.mk (ord_calls w2 g n c sb s2 lo hi x1 x2 l hR2 hB2 (by have := HA.out; have := H1.out.2.1; omega) HA.out.1 H1.out.1 hx2)
  have H2 := Aside0.mk (And.intro hs2 hK2)
  clear hx2 hy2 hs2 hB2 hR2 hK2
  go_wp2_with fail
  with_reducible refine Calls.mono HC3.out ?_
  rintro e_ w3 ⟨x3, y3, s3, rfl, hx3, hy3, hs3, hB3, hR3, hK3⟩
  have H3 := Aside0.mk (And.intro hy3 (And.intro hs3 (And.intro hB3 (And.intro hR3 hK3))))
  clear hx3 hy3 hs3 hB3 hR3 hK3
  go_wp2_with fail
  go_ret
  obtain ⟨hy3, hs3, hB3, hR3, hK3⟩ := H3.out
  have e1 := H1.out.2.1
  have e2 := H2.out.1
  exact ⟨y3, s3, rfl, hy3, by omega, hB3, hR3, ((H1.out.2.2.trans H2.out.2).trans hK3).mono (fun i _ hi => by rcases hi with (hi | hi) | hi <;> exact hi)⟩
set_option maxHeartbeats 16000000 in
set_option maxRecDepth 100000 in
theorem adj_calls (W : World) (g n c sb s lo hi a : Nat) (l : List Int) (hR : RowI W g n l) (hB : BoxN W sb s) (hs : s ≤ 900) (hh : hi ≤ n) (ha : lo < a ∧ a + 1 < hi) :
    Calls Tryz.prog 106 #[.slice (some ⟨g, 0, none⟩) n c, .int .i64 (a : Int), .pointer (some ⟨sb, 0, none⟩)] W fun e w' => MedE W w' g n l sb s lo hi e := by
  have hn := hR.few
  obtain ⟨a1, ha1, hw1⟩ := rev_nums a (by omega) (by omega)
  obtain ⟨a2, ha2⟩ : ∃ a2, a2 = a + 1 := ⟨_, rfl⟩
  have hw2 := wz (a := (a : Int)) (b := 1) (c := (a2 : Int)) (by omega) (by omega) (by omega)
  have HC := Aside0.mk (med_calls W g n c sb s lo hi a1 a a2 l hR hB hs hh (by omega) (by omega) (by omega))
  obtain ⟨hw3, hw4⟩ := hw2
  clear hR hB hs hh ha ha1 ha2 hn
  go_enter Tryz.func106, Tryz.ntmps106
  go_wp2_with fail
  with_reducible refine Calls.mono HC.out ?_
  rintro e_ w1 ⟨x1, s1, rfl, h1, h2, h3, h4, h5⟩
  have H1 := Aside0.mk (And.intro h1 (And.intro h2 (And.intro h3 (And.intro h4 h5))))
  clear h1 h2 h3 h4 h5
  go_wp2_with fail
  go_ret
  obtain ⟨h1, h2, h3, h4, h5⟩ := H1.out
  exact ⟨x1, s1, rfl, h1, h2, h3, h4, h5⟩
end Go.Proofs.YtaejkbjepbifcabGreatDoor.So
namespace Go.Proofs.YtaejkbjepbifcabGreatDoor.So
open Go.RowKit Go.Proofs.YtaejkbjepbifcabGreatDoorW.PrintWords Go.Proofs.YtaejkbjepbifcabGreatDoor.Da
set_option linter.unusedVariables false
set_option linter.unusedSimpArgs false
def PivE (W w : World) (g n : Nat) (l : List Int) (a b : Nat) (e : Ending) : Prop :=
  ∃ (p : Nat) (h : Int), e = .returned (.tuple #[.int .i64 (p : Int), .int .i64 h]) ∧ (a ≤ p ∧ p < b) ∧ (h = 0 ∨ h = 1 ∨ h = 2) ∧ RowI w g n l ∧ Kp W w (fun _ => False)
def PivC (W : World) (g n : Nat) (l : List Int) (a b sb : Nat) (v : Value) (w : World) : Prop :=
  ∃ (p s : Nat), v = .int .i64 (p : Int) ∧ (a ≤ p ∧ p < b) ∧ s ≤ 12 ∧ BoxN w sb s ∧ RowI w g n l ∧ Kp W w (fun _ => False)
theorem PivC.mk {W w : World} {g n a b sb p s : Nat} {l : List Int} {v : Value} (h : v = .int .i64 (p : Int)) (h1 : a ≤ p ∧ p < b) (h2 : s ≤ 12) (h3 : BoxN w sb s) (h4 : RowI w g n l) (h5 : Kp W w (fun _ => False)) : PivC W g n l a b sb v w := ⟨p, s, h, h1, h2, h3, h4, h5⟩
theorem box_new (W : World) : BoxN (W.alloc (.cells #[.int .i64 0] 3)) W.heap.size 0 := heap_alloc_new W _
theorem kp_new {W w1 w2 : World} {sb : Nat} (h : Kp W w1 (fun _ => False)) (k : Kp w1 w2 (fun k => k = sb)) (hs : W.heap.size ≤ sb) : Kp W w2 (fun _ => False) :=
  (h.trans k).mono (fun i hi e => by rcases e with e | e; exact e; omega)
theorem piv_nums (a b n : Nat) (hab : a < b) (hb : b ≤ n) (hn : n ≤ 1000000000) : ∃ L q I J K : Nat, a + L = b ∧ q = L / 4 ∧ I = a + q ∧ J = a + q * 2 ∧ K = a + q * 3 ∧ ((b : Int) - (a : Int) = (L : Int)) ∧ ((L : Int) / 4 = (q : Int)) ∧ ((a : Int) + (q : Int) = (I : Int)) ∧ ((a : Int) + (q : Int) * 2 = (J : Int)) ∧ ((a : Int) + (q : Int) * 3 = (K : Int)) :=
  ⟨b - a, (b - a) / 4, _, _, _, by omega, rfl, rfl, rfl, rfl, by omega, by omega, by omega, by omega, by omega⟩
set_option maxHeartbeats 16000000 in
set_option maxRecDepth 100000 in
theorem piv_calls (W : World) (g n c a b : Nat) (l : List Int) (hR : RowI W g n l) (hab : a < b) (hb : b ≤ n) :
    Calls Tryz.prog 84 #[.slice (some ⟨g, 0, none⟩) n c, .int .i64 (a : Int), .int .i64 (b : Int)] W fun e w' => PivE W w' g n l a b e := by
  have hn := hR.few
  obtain ⟨L, q, I, J, K, n1, n2, n3, n4, n5, e1, e2, e3, e4, e5⟩ := piv_nums a b n hab hb hn
  have hLn : (L : Int) ≤ 1000000000 := by omega
  have hqn : (q : Int) ≤ 1000000000 := by omega
  have HN := Aside0.mk (And.intro n1 (And.intro n2 (And.intro n3 (And.intro n4 (And.intro n5 (And.intro hb hn))))))
  have HR := Aside0.mk (hR.step (w' := W.alloc (.cells #[.int .i64 0] 3)) (heap_alloc_old W _ hR.lt))
  have HB := Aside0.mk (box_new W)
  have HK := Aside0.mk ((Kp.self W (fun _ => False)).alloc (.cells #[.int .i64 0] 3))
  clear hR n1 n2 n3 n4 n5
  go_enter Tryz.func84, Tryz.ntmps84
  go_upto_region 6 with fail
  go_upto_if 32 with fail
  go_cut [10, 11, 12] from 32 to 48 (fun s10 s11 s12 wc => PivC W g n l a b W.heap.size s11 wc)
  case first =>
    by_cases h8 : 8 ≤ L
    · have h8z : (8 : Int) ≤ (L : Int) := by omega
      by_cases h50 : 50 ≤ L
      · have h50z : (50 : Int) ≤ (L : Int) := by omega
        have HC := Aside0.mk (adj_calls _ g n c W.heap.size 0 a b I l HR.out HB.out (by omega) (by have := HN.out; omega) (by have := HN.out; omega))
        go_wp2_with fail
        with_reducible refine Calls.mono HC.out ?_
        rintro e_ w1 ⟨x1, s1, rfl, h1, h2, h3, h4, h5⟩
        have HC2 := Aside0.mk (adj_calls w1 g n c W.heap.size s1 a b J l h4 h3 (by omega) (by have := HN.out; omega) (by have := HN.out; omega))
        have HK1 := Aside0.mk (kp_new HK.out h5 (by omega))
        have H1 := Aside0.mk (And.intro h1 h2)
        clear h1 h2 h3 h4 h5 HC
        go_wp2_with fail
        with_reducible refine Calls.mono HC2.out ?_
        rintro e_ w2 ⟨x2, s2, rfl, h1, h2, h3, h4, h5⟩
        have HC3 := Aside0.mk (adj_calls w2 g n c W.heap.size s2 a b K l h4 h3 (by have := H1.out; omega) (by have := HN.out; omega) (by have := HN.out; omega))
        have HK2 := Aside0.mk (kp_new HK1.out h5 (by omega))
        have H2 := Aside0.mk (And.intro h1 h2)
        clear h1 h2 h3 h4 h5 HC2
        go_wp2_with fail
        with_reducible refine Calls.mono HC3.out ?_
        rintro e_ w3 ⟨x3, s3, rfl, h1, h2, h3, h4, h5⟩
        have HC4 := Aside0.mk (med_calls w3 g n c W.heap.size s3 a b x1 x2 x3 l h4 h3 (by have := H1.out; have := H2.out; omega) (by have := HN.out; omega) H1.out.1 H2.out.1 h1)
        have HK3 := Aside0.mk (kp_new HK2.out h5 (by omega))
        have H3 := Aside0.mk (And.intro h1 h2)
        clear h1 h2 h3 h4 h5 HC3
        go_wp2_with fail
        with_reducible refine Calls.mono HC4.out ?_
        rintro e_ w4 ⟨x4, s4, rfl, h1, h2, h3, h4, h5⟩
        have HX := Aside0.mk (PivC.mk (p := x4) (v := .int .i64 (x4 : Int)) rfl h1 (by have := H1.out; have := H2.out; have := H3.out; omega : s4 ≤ 12) h3 h4 (kp_new HK3.out h5 (by omega)))
        clear h1 h2 h3 h4 h5 HC4
        go_wp2_with fail
        go_meet
        case rel => exact HX.out
      · have h50z : ¬ (50 : Int) ≤ (L : Int) := by omega
        have HC4 := Aside0.mk (med_calls _ g n c W.heap.size 0 a b I J K l HR.out HB.out (by omega) (by have := HN.out; omega) (by have := HN.out; omega) (by have := HN.out; omega) (by have := HN.out; omega))
        go_wp2_with fail
        with_reducible refine Calls.mono HC4.out ?_
        rintro e_ w4 ⟨x4, s4, rfl, h1, h2, h3, h4, h5⟩
        have HX := Aside0.mk (PivC.mk (p := x4) (v := .int .i64 (x4 : Int)) rfl h1 (by omega : s4 ≤ 12) h3 h4 (kp_new HK.out h5 (by omega)))
        clear h1 h2 h3 h4 h5 HC4
        go_wp2_with fail
        go_meet
        case rel => exact HX.out
    · have h8z : ¬ (8 : Int) ≤ (L : Int) := by omega
      go_wp2_with fail
      go_meet
      case rel => exact PivC.mk rfl (by have := HN.out; omega) (by omega : 0 ≤ 12) HB.out HR.out HK.out
  case rest =>
    obtain ⟨p, s, rfl, h1, h2, h3, h4, h5⟩ := hcut
    have y0 := h3.cell
    have y1 := h3.froz
    have H1 := Aside0.mk (And.intro h1 (And.intro h4 h5))
    clear h1 h3 h4 h5 HR HB HK
    by_cases z0 : s = 0
    · have z1 : ((s : Int) == 0) = true := beq_iff_eq.2 (by omega)
      clear z0
      go_wp2_with fail
      go_ret2
      exact ⟨p, 1, rfl, H1.out.1, by omega, H1.out.2.1, H1.out.2.2⟩
    · have z1 : ((s : Int) == 0) = false := beq_false_of_ne (by omega)
      by_cases z2 : s = 12
      · have z3 : ((s : Int) == 12) = true := beq_iff_eq.2 (by omega)
        clear z0 z2
        go_wp2_with fail
        go_ret2
        exact ⟨p, 2, rfl, H1.out.1, by omega, H1.out.2.1, H1.out.2.2⟩
      · have z3 : ((s : Int) == 12) = false := beq_false_of_ne (by omega)
        clear z0 z2
        go_wp2_with fail
        go_ret2
        exact ⟨p, 0, rfl, H1.out.1, by omega, H1.out.2.1, H1.out.2.2⟩
end Go.Proofs.YtaejkbjepbifcabGreatDoor.So
namespace Go.Proofs.YtaejkbjepbifcabGreatDoor.So
open Go.RowKit Go.Proofs.YtaejkbjepbifcabGreatDoorW.PrintWords Go.Proofs.YtaejkbjepbifcabGreatDoor.Da
set_option linter.unusedVariables false
set_option linter.unusedSimpArgs false
def U64 (r : Nat) : Prop := r < 18446744073709551616
def BoxU (w : World) (xb : Nat) (r : Nat) : Prop := w.heap[xb]? = some (.cells #[.int .u64 (r : Int)] 151 (0, 0))
section
variable {W w w' : World} {xb g n r : Nat} {l : List Int}
theorem BoxU.cell (h : BoxU w xb r) : w.cell? ⟨xb, 0, none⟩ = some (.int .u64 (r : Int)) := by
  have h := h; unfold BoxU at h
  unfold World.cell?; simp [h]
theorem BoxU.froz (h : BoxU w xb r) : w.frozen? ⟨xb, 0, none⟩ = false := by
  have h := h; unfold BoxU at h
  unfold World.frozen?; simp [h]
theorem BoxU.step (h : BoxU w xb r) (e : w'.heap[xb]? = w.heap[xb]?) : BoxU w' xb r := by
  have h := h; unfold BoxU at h
  exact e.trans h
theorem BoxU.set (h : BoxU w xb r) (t : Nat) : BoxU (w.setCell ⟨xb, 0, none⟩ (.int .u64 (t : Int))) xb t := by
  have h := h; unfold BoxU at h
  show _ = _; rw [setCell_heap h]; rfl
theorem BoxU.swap (h : BoxU w xb r) (hg : g ≠ xb) (q i j : Nat) (x y : Value) : BoxU ((((w.drewN q).setCell ⟨g, i, none⟩ x)).setCell ⟨g, j, none⟩ y) xb r :=
  (h.step (w' := w.drewN q) rfl).step ((Below.heap_setCell _ _ _ _ (Ne.symm hg)).trans (Below.heap_setCell _ _ _ _ (Ne.symm hg)))
end
def NextE (W : World) (xb : Nat) (e : Ending) (w : World) : Prop := ∃ R : Nat, e = .returned (.int .u64 (R : Int)) ∧ U64 R ∧ BoxU w xb R ∧ Kp W w (fun k => k = xb)
theorem next_calls (W : World) (xb r : Nat) (hB : BoxU W xb r) (hr : U64 r) : Calls Tryz.prog 105 #[.pointer (some ⟨xb, 0, none⟩)] W fun e w' => NextE W xb e w' := by
  have h : Calls Tryz.prog 105 #[.pointer (some ⟨xb, 0, none⟩)] W fun e w' => e = .returned (.int .u64 (Go.Sort.xorNextN r : Nat)) ∧ w' = (W.setCell ⟨xb, 0, none⟩ (.int .u64 (Go.Sort.xorNextN r : Nat))).drewN 3 :=
    calls_of_every_depth fun D => AnyS.xorshift_NextInS (P := Tryz.prog) (ρ := Tryz.lays190_ren) { Tryz.lays190 with } D xb 0 r hr W hB.cell hB.froz
  refine h.mono ?_
  rintro e w' ⟨rfl, rfl⟩
  exact ⟨_, rfl, Go.Sort.xorNextN_lt r hr, (hB.set _).step rfl, ((Kp.self W (fun k => k = xb)).setCell _ _ rfl).drewN 3⟩
def OtherC (W : World) (a b : Nat) (v : Value) (w : World) : Prop := ∃ o : Nat, v = .int .i64 (o : Int) ∧ a + o < b ∧ w = W
def PowE (W : World) (L : Nat) (e : Ending) (w : World) : Prop := ∃ M : Nat, e = .returned (.int .u64 (M : Int)) ∧ 1 ≤ M ∧ M ≤ 2 * L ∧ w = W
theorem pow_calls (W : World) (L : Nat) (h8 : 8 ≤ L) (hL : L ≤ 1000000000) : Calls Tryz.prog 104 #[.int .i64 (L : Int)] W fun e w' => PowE W L e w' := by
  have h : Calls Tryz.prog 104 #[.int .i64 (L : Int)] W fun e w' => e = .returned (.int .u64 ((1 <<< Go.Sort.bitsLen L : Nat) : Int)) ∧ w' = W :=
    calls_of_every_depth fun D => AnyS.nextPowerOfTwoInS (P := Tryz.prog) (ρ := Tryz.lays190_ren) { Tryz.lays190 with } D L (by omega) W
  refine h.mono ?_
  rintro e w' ⟨rfl, rfl⟩
  exact ⟨_, rfl, by rw [Nat.one_shiftLeft]; exact Nat.two_pow_pos _, by rw [Nat.one_shiftLeft]; exact Go.Sort.two_pow_bitsLen_le (by omega), rfl⟩
theorem brk_nums (a b n : Nat) (hb : b ≤ n) (hn : n ≤ 1000000000) (h8 : 8 ≤ b - a) : ∃ L q J i0 : Nat, a + L = b ∧ 8 ≤ L ∧ L ≤ 1000000000 ∧ (a ≤ i0 ∧ i0 + 3 ≤ b) ∧ J = i0 + 1 ∧ ((b : Int) - (a : Int) = (L : Int)) ∧ ((L : Int) / 4 = (q : Int)) ∧ ((a : Int) + (q : Int) * 2 = (J : Int)) ∧ ((J : Int) - 1 = (i0 : Int)) ∧ (q ≤ 1000000000) :=
  ⟨b - a, (b - a) / 4, a + (b - a) / 4 * 2, a + (b - a) / 4 * 2 - 1, by omega, by omega, by omega, by omega, by omega, by omega, by omega, by omega, by omega, by omega⟩
theorem and_num (R M L : Nat) (hR : U64 R) (hM : 1 ≤ M) (hL : M ≤ 2 * L) (hL2 : L ≤ 1000000000) : ∃ O : Nat, bits .and .u64 (R : Int) ((M : Int) - 1) = (O : Int) ∧ O < M := by
  refine ⟨R &&& (M - 1), ?_, ?_⟩
  · rw [show ((M : Int) - 1) = ((M - 1 : Nat) : Int) by omega]
    exact bits_and_u64_nat _ _ hR (by omega)
  · have := Nat.and_le_right (n := R) (m := M - 1)
    omega
set_option maxHeartbeats 16000000 in
set_option maxRecDepth 100000 in
theorem brk_calls (W : World) (g n c a b : Nat) (l : List Int) (hR : RowI W g n l) (hab : a ≤ b) (hb : b ≤ n) :
    Calls Tryz.prog 83 #[.slice (some ⟨g, 0, none⟩) n c, .int .i64 (a : Int), .int .i64 (b : Int)] W fun e w' => e = .returned (.tuple #[]) ∧ ∃ l', SrtE W w' g n l l' := by
  have HS0 := Aside0.mk (SrtE.start hR)
  have hn := hR.few
  have hgl := hR.lt
  clear hR
  by_cases h8 : 8 ≤ b - a
  · obtain ⟨L, q, J, i0, n1, h8L, hL, n2, n3, e1, e2, e3, e4, hq⟩ := brk_nums a b n hb hn h8
    have h8z : (8 : Int) ≤ (L : Int) := by omega
    have hLz : (L : Int) ≤ 1000000000 := by omega
    have hqz : (q : Int) ≤ 1000000000 := by omega
    have hJz : (J : Int) ≤ 1000000000 := by omega
    have HN := Aside0.mk (And.intro n1 (And.intro n2 (And.intro n3 (And.intro h8L hL))))
    have HP := Aside0.mk (fun w => pow_calls w L h8L hL)
    clear n1 n2 n3 h8 h8L
    go_enter Tryz.func83, Tryz.ntmps83
    go_upto_region 3 with fail
    go_wp2_with fail
    with_reducible refine Calls.mono (HP.out _) ?_
    rintro e_ w1 ⟨M, rfl, hM1, hM2, rfl⟩
    have HB0 : Aside0 (BoxU (W.alloc (.cells #[.int .u64 (L : Int)] 151)) W.heap.size L) := ⟨heap_alloc_new W _⟩
    have HS1 : Aside0 (SrtE W (W.alloc (.cells #[.int .u64 (L : Int)] 151)) g n l l) := ⟨(HS0.out.kp.alloc _), HS0.out.row.step (heap_alloc_old W _ hgl), HS0.out.perm⟩
    have hM1z : (1 : Int) ≤ (M : Int) := by omega
    have hM2z : (M : Int) ≤ 2000000000 := by omega
    have HM := Aside0.mk (And.intro hM1 hM2)
    clear HS0 HP hM1 hM2
    go_wp2_with fail
    go_loopg [9] 3 (fun kq v9 w' => ∃ (i r : Nat) (l' : List Int), v9 = .int .i64 (i : Int) ∧ Aside0 (i + kq = i0 + 3 ∧ i0 ≤ i) ∧ Aside0 (U64 r ∧ BoxU w' W.heap.size r) ∧ Aside0 (SrtE W w' g n l l'))
    case atStart => exact ⟨i0, L, l, congrArg (Value.int .i64) (by omega), ⟨by omega⟩, ⟨by have := HN.out; unfold U64; omega, HB0.out⟩, HS1⟩
    case round =>
      clear HB0 HS1
      obtain ⟨i, r, l1, rfl, HI, HB, HS⟩ := hrel
      cases gk with
      | zero =>
        have hgt : ¬ (i : Int) ≤ (J : Int) + 1 := by have := HI.out; have := HN.out; omega
        go_wp2_with fail
        go_end0
        exact ⟨rfl, l1, HS.out⟩
      | succ kz =>
        have hle : (i : Int) ≤ (J : Int) + 1 := by have := HI.out; have := HN.out; omega
        have hin : i < n := by have := HI.out; have := HN.out; omega
        have HC := Aside0.mk (next_calls wr W.heap.size r HB.out.2 HB.out.1)
        go_wp2_with fail
        with_reducible refine Calls.mono HC.out ?_
        rintro e_ w5 ⟨R, rfl, hR, hB5, hK5⟩
        obtain ⟨O, hO, hOM⟩ := and_num R M L hR HM.out.1 HM.out.2 hL
        have HS5 : Aside0 (SrtE W w5 g n l l1) := ⟨(HS.out.kp.trans hK5).mono (fun k hk hi => by rcases hi with hi | hi; exact hi; omega), HS.out.row.far hK5 (by omega), HS.out.perm⟩
        have HB5 := Aside0.mk (And.intro hR hB5)
        have hOz : (O : Int) ≤ 2000000000 := by omega
        have HO := Aside0.mk hOM
        clear HC HB HS hR hB5 hK5 hOM
        go_upto_if 43 with fail
        go_cut [10] from 43 to 46 (fun s10 wc => OtherC w5 a b s10 wc)
        case first =>
          by_cases hLO : L ≤ O
          · have hLOz : (L : Int) ≤ (O : Int) := by omega
            go_wp2_with fail
            go_meet
            case rel => exact ⟨O - L, congrArg (Value.int .i64) (by omega), by have := HO.out; have := HM.out; have := HN.out; omega, rfl⟩
          · have hLOz : ¬ (L : Int) ≤ (O : Int) := by omega
            go_wp2_with fail
            go_meet
            case rel => exact ⟨O, rfl, by have := HN.out; omega, rfl⟩
        case rest =>
          obtain ⟨o, rfl, ho, rfl⟩ := hcut
          obtain ⟨q2, hq2⟩ : ∃ q2, q2 = a + o := ⟨_, rfl⟩
          have hq2n : q2 < n := by omega
          have hqz1 : (a : Int) + (o : Int) = (q2 : Int) := by omega
          have hoz : (o : Int) ≤ 1000000000 := by omega
          have HQ := Aside0.mk hq2
          clear hq2
          have y0 := HS5.out.row.cell i hin
          obtain ⟨x0, hx0⟩ : ∃ x, l1.getD i 0 = x := ⟨_, rfl⟩
          rw [hx0] at y0
          have f0 := HS5.out.row.froz i
          by_cases hEq : i = q2
          · subst hEq
            have h := HS5.out.swap i i 1 hin hin
            rw [hx0] at h
            have HSW := Aside0.mk h
            have y2 : ∀ q, ((wc.drewN q).setCell ⟨g, i, none⟩ (.int .i32 x0)).cell? ⟨g, i, none⟩ = some (.int .i32 x0) := fun q => HS5.out.row.after hin hin hx0 q
            have f2 : ∀ q, ((wc.drewN q).setCell ⟨g, i, none⟩ (.int .i32 x0)).frozen? ⟨g, i, none⟩ = false := fun q => ((HS5.out.row.step (w' := wc.drewN q) rfl).set i hin x0).froz i
            have y2d : ((wc.setCell ⟨g, i, none⟩ (.int .i32 x0)).drew).cell? ⟨g, i, none⟩ = some (.int .i32 x0) := HS5.out.row.after hin hin hx0 0
            have f2d : ((wc.setCell ⟨g, i, none⟩ (.int .i32 x0)).drew).frozen? ⟨g, i, none⟩ = false := (HS5.out.row.set i hin x0).froz i
            clear h hx0
            go_upto_region 10 with fail
            go_region
            go_wp2_with fail
            go_roundg kz
            case measure => omega
            case rel => exact ⟨i + 1, R, _, congrArg (Value.int .i64) (by omega), ⟨by have := HI.out; omega⟩, ⟨HB5.out.1, HB5.out.2.swap (by omega) 1 _ _ _ _⟩, HSW⟩
          · have y1 := HS5.out.row.cell q2 hq2n
            obtain ⟨x1, hx1⟩ : ∃ x, l1.getD q2 0 = x := ⟨_, rfl⟩
            rw [hx1] at y1
            have f1 := HS5.out.row.froz q2
            have h := HS5.out.swap i q2 1 hin hq2n
            rw [hx0, hx1] at h
            have HSW := Aside0.mk h
            have y2 : ∀ q, ((wc.drewN q).setCell ⟨g, i, none⟩ (.int .i32 x1)).cell? ⟨g, q2, none⟩ = some (.int .i32 x1) := fun q => HS5.out.row.after hin hq2n hx1 q
            have f2 : ∀ q, ((wc.drewN q).setCell ⟨g, i, none⟩ (.int .i32 x1)).frozen? ⟨g, q2, none⟩ = false := fun q => ((HS5.out.row.step (w' := wc.drewN q) rfl).set i hin x1).froz q2
            have y2d : ((wc.setCell ⟨g, i, none⟩ (.int .i32 x1)).drew).cell? ⟨g, q2, none⟩ = some (.int .i32 x1) := HS5.out.row.after hin hq2n hx1 0
            have f2d : ((wc.setCell ⟨g, i, none⟩ (.int .i32 x1)).drew).frozen? ⟨g, q2, none⟩ = false := (HS5.out.row.set i hin x1).froz q2
            have hEqz : ¬ (i : Int) = (q2 : Int) := by omega
            clear hx1
            clear h hx0
            go_upto_region 10 with fail
            go_region
            go_wp2_with fail
            go_roundg kz
            case measure => omega
            case rel => exact ⟨i + 1, R, _, congrArg (Value.int .i64) (by omega), ⟨by have := HI.out; omega⟩, ⟨HB5.out.1, HB5.out.2.swap (by omega) 1 _ _ _ _⟩, HSW⟩
  · have h8z : ¬ (8 : Int) ≤ (b : Int) - (a : Int) := by omega
    go_enter Tryz.func83, Tryz.ntmps83
    go_wp2_with fail
    go_end0
    exact ⟨rfl, l, HS0.out⟩
end Go.Proofs.YtaejkbjepbifcabGreatDoor.So
namespace Go.Proofs.YtaejkbjepbifcabGreatDoor.So
open Go.RowKit Go.Proofs.YtaejkbjepbifcabGreatDoorW.PrintWords Go.Proofs.YtaejkbjepbifcabGreatDoor.Da
set_option linter.unusedVariables false
set_option linter.unusedSimpArgs false
def cL : Code → Code
  | .seq a _ => a
  | .cond _ a _ => a
  | .block _ c => c
  | .loop c => c
  | .scope c => c
  | c => c
def cR : Code → Code
  | .seq _ b => b
  | .cond _ _ b => b
  | c => c
def pth : List Bool → Code → Code
  | [], c => c
  | true :: l, c => pth l (cR c)
  | false :: l, c => pth l (cL c)
noncomputable def sp1C : Code := pth [true, true, true, false, false] (Tryz.f89.body.getD .skip)
set_option maxHeartbeats 16000000 in
set_option maxRecDepth 100000 in
theorem sp1 (W w : World) (g n c a i j : Nat) (l0 l : List Int) (HS : Aside0 (SrtE W w g n l0 l)) (hn : n ≤ 1000000000) (HA : Aside0 (a < i ∧ a ≤ j ∧ j < n)) {Q : Exit → Act → World → Prop} {v2 v3 v4 v5 v6 v7 v8 v9 v12 v13 v14 v15 v16 v17 v18 v19 v20 v21 v22 v23 v24 v25 v26 v27 v28 v29 v30 v31 v32 v33 v34 v35 v36 v37 v38 v39 v40 v41 v42 v43 v44 v45 v46 v47 v48 v49 v50 v51 v52 v53 v54 v55 v56 v57 v58 v59 v60 v61 v62 v63 v64 v65 v66 v67 v68 v69 v70 v71 v72 v73 v74 v75 v76 v77 v78 v79 v80 v81 v82 v83 v84 v85 v86 v87 v88 v89 v90 v91 v92 v93 v94 v95 v96 v97 v98 v99 v100 v101 v102 v103 v104 v105 v106 v107 v108 v109 v110 v111 v112 v113 v114 v115 v116 v117 v118 v119 v120 v121 v122 v123 v124 v125 v126 v127 v128 v129 v130 v131 v132 v133 v134 v135 v136 v137 v138 v139 v140 v141 v142 v143 v144 v145 v146 v147 v148 v149 v150 v151 v152 v153 v154 v155 v156 v157 v158 v159 v160 v161 v162 v163 v164 v165 v166 v167 : Value}
    (hN : Aside0 (∀ (n30 n31 n32 n33 n34 n35 n36 n37 n38 n39 n40 n41 n42 n43 n44 n45 : Value) (i' : Nat) (w' : World), Aside0 (i ≤ i' ∧ (i' ≤ j + 1 ∨ i' = i)) → Aside0 (SrtE W w' g n l0 l) → Q (.exit 0) ⟨#[.slice (some ⟨g, 0, none⟩) n c, .int .i64 (a : Int), v2, v3, v4, v5, v6, v7, v8, v9, .int .i64 (i' : Int), .int .i64 (j : Int), v12, v13, v14, v15, v16, v17, v18, v19, v20, v21, v22, v23, v24, v25, v26, v27, v28, v29, n30, n31, n32, n33, n34, n35, n36, n37, n38, n39, n40, n41, n42, n43, n44, n45, v46, v47, v48, v49, v50, v51, v52, v53, v54, v55, v56, v57, v58, v59, v60, v61, v62, v63, v64, v65, v66, v67, v68, v69, v70, v71, v72, v73, v74, v75, v76, v77, v78, v79, v80, v81, v82, v83, v84, v85, v86, v87, v88, v89, v90, v91, v92, v93, v94, v95, v96, v97, v98, v99, v100, v101, v102, v103, v104, v105, v106, v107, v108, v109, v110, v111, v112, v113, v114, v115, v116, v117, v118, v119, v120, v121, v122, v123, v124, v125, v126, v127, v128, v129, v130, v131, v132, v133, v134, v135, v136, v137, v138, v139, v140, v141, v142, v143, v144, v145, v146, v147, v148, v149, v150, v151, v152, v153, v154, v155, v156, v157, v158, v159, v160, v161, v162, v163, v164, v165, v166, v167], []⟩ w')) :
    Code.wp Tryz.prog sp1C Q ⟨#[.slice (some ⟨g, 0, none⟩) n c, .int .i64 (a : Int), v2, v3, v4, v5, v6, v7, v8, v9, .int .i64 (i : Int), .int .i64 (j : Int), v12, v13, v14, v15, v16, v17, v18, v19, v20, v21, v22, v23, v24, v25, v26, v27, v28, v29, v30, v31, v32, v33, v34, v35, v36, v37, v38, v39, v40, v41, v42, v43, v44, v45, v46, v47, v48, v49, v50, v51, v52, v53, v54, v55, v56, v57, v58, v59, v60, v61, v62, v63, v64, v65, v66, v67, v68, v69, v70, v71, v72, v73, v74, v75, v76, v77, v78, v79, v80, v81, v82, v83, v84, v85, v86, v87, v88, v89, v90, v91, v92, v93, v94, v95, v96, v97, v98, v99, v100, v101, v102, v103, v104, v105, v106, v107, v108, v109, v110, v111, v112, v113, v114, v115, v116, v117, v118, v119, v120, v121, v122, v123, v124, v125, v126, v127, v128, v129, v130, v131, v132, v133, v134, v135, v136, v137, v138, v139, v140, v141, v142, v143, v144, v145, v146, v147, v148, v149, v150, v151, v152, v153, v154, v155, v156, v157, v158, v159, v160, v161, v162, v163, v164, v165, v166, v167], []⟩ w := by
  conv => arg 2; whnf
  conv => arg 4; zeta
  have hjn : j < n := HA.out.2.2
  have han : a < n := by have := HA.out; omega
  go_loopg [10] (j + 1 - i) (fun kq v10 w' => ∃ (i' : Nat), v10 = .int .i64 (i' : Int) ∧ Aside0 (i ≤ i' ∧ (i' ≤ j + 1 ∨ i' = i)) ∧ Aside0 (j + 1 ≤ i' + kq) ∧ Aside0 (SrtE W w' g n l0 l))
  case atStart => exact ⟨i, rfl, ⟨by have := HA.out; omega⟩, ⟨by omega⟩, HS⟩
  case round =>
    clear HS
    obtain ⟨i', rfl, HF, HM, HS⟩ := hrel
    by_cases hij : i' ≤ j
    · have hijz : (i' : Int) ≤ (j : Int) := by omega
      have hijb : decide ((i' : Int) ≤ (j : Int)) = true := decide_eq_true hijz
      have hen : i' < n := by have := HF.out; omega
      have ya := HS.out.row.cell a han
      obtain ⟨xa, hxa⟩ : ∃ x, l.getD a 0 = x := ⟨_, rfl⟩
      rw [hxa] at ya
      have ye := HS.out.row.cell i' hen
      obtain ⟨xe, hxe⟩ : ∃ x, l.getD i' 0 = x := ⟨_, rfl⟩
      rw [hxe] at ye
      by_cases hl : xe < xa
      · have hlb : decide (xe < xa) = true := decide_eq_true hl
        cases gk with
        | zero => have := HM.out; omega
        | succ kz =>
        skip
        go_upto_region 3 with fail
        go_quiet (first | (go_at_call 87; refine Calls.quiet_of_same (less32 _ _ _)))
        go_wp2_with fail
        go_roundg kz
        case measure => omega
        case rel =>
          have := HF.out
          have := HM.out
          have := HA.out
          exact ⟨i' + 1, congrArg (Value.int .i64) (by omega), ⟨by omega⟩, ⟨by omega⟩, ⟨HS.out.drewN _⟩⟩
      · have hlb : decide (xe < xa) = false := decide_eq_false hl
        go_upto_region 3 with fail
        go_quiet (first | (go_at_call 87; refine Calls.quiet_of_same (less32 _ _ _)))
        go_wp2_with fail
        exact hN.out _ _ _ _ _ _ _ _ _ _ _ _ _ _ _ _ i' _ HF ⟨HS.out.drewN _⟩
    · have hijz : ¬ (i' : Int) ≤ (j : Int) := by omega
      have hijb : decide ((i' : Int) ≤ (j : Int)) = false := decide_eq_false hijz
      go_upto_region 3 with fail
      go_quiet (first | (go_at_call 87; refine Calls.quiet_of_same (less32 _ _ _)))
      go_wp2_with fail
      exact hN.out _ _ _ _ _ _ _ _ _ _ _ _ _ _ _ _ i' _ HF ⟨HS.out.drewN _⟩
noncomputable def sp2C : Code := pth [true, true, true, true, false, false] (Tryz.f89.body.getD .skip)
set_option maxHeartbeats 16000000 in
set_option maxRecDepth 100000 in
theorem sp2 (W w : World) (g n c a i j : Nat) (l0 l : List Int) (HS : Aside0 (SrtE W w g n l0 l)) (hn : n ≤ 1000000000) (HA : Aside0 (a < i ∧ a ≤ j ∧ j < n)) {Q : Exit → Act → World → Prop} {v2 v3 v4 v5 v6 v7 v8 v9 v12 v13 v14 v15 v16 v17 v18 v19 v20 v21 v22 v23 v24 v25 v26 v27 v28 v29 v30 v31 v32 v33 v34 v35 v36 v37 v38 v39 v40 v41 v42 v43 v44 v45 v46 v47 v48 v49 v50 v51 v52 v53 v54 v55 v56 v57 v58 v59 v60 v61 v62 v63 v64 v65 v66 v67 v68 v69 v70 v71 v72 v73 v74 v75 v76 v77 v78 v79 v80 v81 v82 v83 v84 v85 v86 v87 v88 v89 v90 v91 v92 v93 v94 v95 v96 v97 v98 v99 v100 v101 v102 v103 v104 v105 v106 v107 v108 v109 v110 v111 v112 v113 v114 v115 v116 v117 v118 v119 v120 v121 v122 v123 v124 v125 v126 v127 v128 v129 v130 v131 v132 v133 v134 v135 v136 v137 v138 v139 v140 v141 v142 v143 v144 v145 v146 v147 v148 v149 v150 v151 v152 v153 v154 v155 v156 v157 v158 v159 v160 v161 v162 v163 v164 v165 v166 v167 : Value}
    (hN : Aside0 (∀ (n46 n47 n48 n49 n50 n51 n52 n53 n54 n55 n56 n57 n58 n59 n60 n61 n62 : Value) (j' : Nat) (w' : World), Aside0 (j' ≤ j ∧ (i ≤ j' + 1 ∨ j' = j) ∧ a ≤ j') → Aside0 (SrtE W w' g n l0 l) → Q (.exit 2) ⟨#[.slice (some ⟨g, 0, none⟩) n c, .int .i64 (a : Int), v2, v3, v4, v5, v6, v7, v8, v9, .int .i64 (i : Int), .int .i64 (j' : Int), v12, v13, v14, v15, v16, v17, v18, v19, v20, v21, v22, v23, v24, v25, v26, v27, v28, v29, v30, v31, v32, v33, v34, v35, v36, v37, v38, v39, v40, v41, v42, v43, v44, v45, n46, n47, n48, n49, n50, n51, n52, n53, n54, n55, n56, n57, n58, n59, n60, n61, n62, v63, v64, v65, v66, v67, v68, v69, v70, v71, v72, v73, v74, v75, v76, v77, v78, v79, v80, v81, v82, v83, v84, v85, v86, v87, v88, v89, v90, v91, v92, v93, v94, v95, v96, v97, v98, v99, v100, v101, v102, v103, v104, v105, v106, v107, v108, v109, v110, v111, v112, v113, v114, v115, v116, v117, v118, v119, v120, v121, v122, v123, v124, v125, v126, v127, v128, v129, v130, v131, v132, v133, v134, v135, v136, v137, v138, v139, v140, v141, v142, v143, v144, v145, v146, v147, v148, v149, v150, v151, v152, v153, v154, v155, v156, v157, v158, v159, v160, v161, v162, v163, v164, v165, v166, v167], []⟩ w')) :
    Code.wp Tryz.prog sp2C Q ⟨#[.slice (some ⟨g, 0, none⟩) n c, .int .i64 (a : Int), v2, v3, v4, v5, v6, v7, v8, v9, .int .i64 (i : Int), .int .i64 (j : Int), v12, v13, v14, v15, v16, v17, v18, v19, v20, v21, v22, v23, v24, v25, v26, v27, v28, v29, v30, v31, v32, v33, v34, v35, v36, v37, v38, v39, v40, v41, v42, v43, v44, v45, v46, v47, v48, v49, v50, v51, v52, v53, v54, v55, v56, v57, v58, v59, v60, v61, v62, v63, v64, v65, v66, v67, v68, v69, v70, v71, v72, v73, v74, v75, v76, v77, v78, v79, v80, v81, v82, v83, v84, v85, v86, v87, v88, v89, v90, v91, v92, v93, v94, v95, v96, v97, v98, v99, v100, v101, v102, v103, v104, v105, v106, v107, v108, v109, v110, v111, v112, v113, v114, v115, v116, v117, v118, v119, v120, v121, v122, v123, v124, v125, v126, v127, v128, v129, v130, v131, v132, v133, v134, v135, v136, v137, v138, v139, v140, v141, v142, v143, v144, v145, v146, v147, v148, v149, v150, v151, v152, v153, v154, v155, v156, v157, v158, v159, v160, v161, v162, v163, v164, v165, v166, v167], []⟩ w := by
  conv => arg 2; whnf
  conv => arg 4; zeta
  have hjn : j < n := HA.out.2.2
  have han : a < n := by have := HA.out; omega
  go_loopg [11] (j + 1 - i) (fun kq v11 w' => ∃ (j' : Nat), v11 = .int .i64 (j' : Int) ∧ Aside0 (j' ≤ j ∧ (i ≤ j' + 1 ∨ j' = j) ∧ a ≤ j') ∧ Aside0 (j' + 1 ≤ i + kq) ∧ Aside0 (SrtE W w' g n l0 l))
  case atStart => exact ⟨j, rfl, ⟨by have := HA.out; omega⟩, ⟨by omega⟩, HS⟩
  case round =>
    clear HS
    obtain ⟨j', rfl, HF, HM, HS⟩ := hrel
    by_cases hij : i ≤ j'
    · have hijz : (i : Int) ≤ (j' : Int) := by omega
      have hijb : decide ((i : Int) ≤ (j' : Int)) = true := decide_eq_true hijz
      have hen : j' < n := by have := HF.out; omega
      have ya := HS.out.row.cell a han
      obtain ⟨xa, hxa⟩ : ∃ x, l.getD a 0 = x := ⟨_, rfl⟩
      rw [hxa] at ya
      have ye := HS.out.row.cell j' hen
      obtain ⟨xe, hxe⟩ : ∃ x, l.getD j' 0 = x := ⟨_, rfl⟩
      rw [hxe] at ye
      by_cases hl : ¬ xe < xa
      · have hlb : decide (xe < xa) = false := decide_eq_false hl
        cases gk with
        | zero => have := HM.out; omega
        | succ kz =>
        obtain ⟨j1, hj1, hjw⟩ := rev_nums j' (by have := HA.out; omega) (by omega)
        have HJ1 := Aside0.mk hj1
        clear hj1
        go_upto_region 5 with fail
        go_quiet (first | (go_at_call 87; refine Calls.quiet_of_same (less32 _ _ _)))
        go_wp2_with fail
        go_roundg kz
        case measure => omega
        case rel =>
          have := HF.out
          have := HM.out
          have := HA.out
          have := HJ1.out
          exact ⟨j1, congrArg (Value.int .i64) (by first | exact hjw | omega), ⟨by omega⟩, ⟨by omega⟩, ⟨HS.out.drewN _⟩⟩
      · have hlb : decide (xe < xa) = true := decide_eq_true (by omega)
        go_upto_region 5 with fail
        go_quiet (first | (go_at_call 87; refine Calls.quiet_of_same (less32 _ _ _)))
        go_wp2_with fail
        exact hN.out _ _ _ _ _ _ _ _ _ _ _ _ _ _ _ _ _ j' _ HF ⟨HS.out.drewN _⟩
    · have hijz : ¬ (i : Int) ≤ (j' : Int) := by omega
      have hijb : decide ((i : Int) ≤ (j' : Int)) = false := decide_eq_false hijz
      go_upto_region 5 with fail
      go_quiet (first | (go_at_call 87; refine Calls.quiet_of_same (less32 _ _ _)))
      go_wp2_with fail
      exact hN.out _ _ _ _ _ _ _ _ _ _ _ _ _ _ _ _ _ j' _ HF ⟨HS.out.drewN _⟩
noncomputable def sp3C : Code := pth [true, true, true, true, true, true, true, true, true, false, false, false, false, false, false] (Tryz.f89.body.getD .skip)
set_option maxHeartbeats 16000000 in
set_option maxRecDepth 100000 in
theorem sp3 (W w : World) (g n c a i j : Nat) (l0 l : List Int) (HS : Aside0 (SrtE W w g n l0 l)) (hn : n ≤ 1000000000) (HA : Aside0 (a < i ∧ a ≤ j ∧ j < n)) {Q : Exit → Act → World → Prop} {v2 v3 v4 v5 v6 v7 v8 v9 v12 v13 v14 v15 v16 v17 v18 v19 v20 v21 v22 v23 v24 v25 v26 v27 v28 v29 v30 v31 v32 v33 v34 v35 v36 v37 v38 v39 v40 v41 v42 v43 v44 v45 v46 v47 v48 v49 v50 v51 v52 v53 v54 v55 v56 v57 v58 v59 v60 v61 v62 v63 v64 v65 v66 v67 v68 v69 v70 v71 v72 v73 v74 v75 v76 v77 v78 v79 v80 v81 v82 v83 v84 v85 v86 v87 v88 v89 v90 v91 v92 v93 v94 v95 v96 v97 v98 v99 v100 v101 v102 v103 v104 v105 v106 v107 v108 v109 v110 v111 v112 v113 v114 v115 v116 v117 v118 v119 v120 v121 v122 v123 v124 v125 v126 v127 v128 v129 v130 v131 v132 v133 v134 v135 v136 v137 v138 v139 v140 v141 v142 v143 v144 v145 v146 v147 v148 v149 v150 v151 v152 v153 v154 v155 v156 v157 v158 v159 v160 v161 v162 v163 v164 v165 v166 v167 : Value}
    (hN : Aside0 (∀ (n99 n100 n101 n102 n103 n104 n105 n106 n107 n108 n109 n110 n111 n112 n113 n114 : Value) (i' : Nat) (w' : World), Aside0 (i ≤ i' ∧ (i' ≤ j + 1 ∨ i' = i)) → Aside0 (SrtE W w' g n l0 l) → Q (.exit 6) ⟨#[.slice (some ⟨g, 0, none⟩) n c, .int .i64 (a : Int), v2, v3, v4, v5, v6, v7, v8, v9, .int .i64 (i' : Int), .int .i64 (j : Int), v12, v13, v14, v15, v16, v17, v18, v19, v20, v21, v22, v23, v24, v25, v26, v27, v28, v29, v30, v31, v32, v33, v34, v35, v36, v37, v38, v39, v40, v41, v42, v43, v44, v45, v46, v47, v48, v49, v50, v51, v52, v53, v54, v55, v56, v57, v58, v59, v60, v61, v62, v63, v64, v65, v66, v67, v68, v69, v70, v71, v72, v73, v74, v75, v76, v77, v78, v79, v80, v81, v82, v83, v84, v85, v86, v87, v88, v89, v90, v91, v92, v93, v94, v95, v96, v97, v98, n99, n100, n101, n102, n103, n104, n105, n106, n107, n108, n109, n110, n111, n112, n113, n114, v115, v116, v117, v118, v119, v120, v121, v122, v123, v124, v125, v126, v127, v128, v129, v130, v131, v132, v133, v134, v135, v136, v137, v138, v139, v140, v141, v142, v143, v144, v145, v146, v147, v148, v149, v150, v151, v152, v153, v154, v155, v156, v157, v158, v159, v160, v161, v162, v163, v164, v165, v166, v167], []⟩ w')) :
    Code.wp Tryz.prog sp3C Q ⟨#[.slice (some ⟨g, 0, none⟩) n c, .int .i64 (a : Int), v2, v3, v4, v5, v6, v7, v8, v9, .int .i64 (i : Int), .int .i64 (j : Int), v12, v13, v14, v15, v16, v17, v18, v19, v20, v21, v22, v23, v24, v25, v26, v27, v28, v29, v30, v31, v32, v33, v34, v35, v36, v37, v38, v39, v40, v41, v42, v43, v44, v45, v46, v47, v48, v49, v50, v51, v52, v53, v54, v55, v56, v57, v58, v59, v60, v61, v62, v63, v64, v65, v66, v67, v68, v69, v70, v71, v72, v73, v74, v75, v76, v77, v78, v79, v80, v81, v82, v83, v84, v85, v86, v87, v88, v89, v90, v91, v92, v93, v94, v95, v96, v97, v98, v99, v100, v101, v102, v103, v104, v105, v106, v107, v108, v109, v110, v111, v112, v113, v114, v115, v116, v117, v118, v119, v120, v121, v122, v123, v124, v125, v126, v127, v128, v129, v130, v131, v132, v133, v134, v135, v136, v137, v138, v139, v140, v141, v142, v143, v144, v145, v146, v147, v148, v149, v150, v151, v152, v153, v154, v155, v156, v157, v158, v159, v160, v161, v162, v163, v164, v165, v166, v167], []⟩ w := by
  conv => arg 2; whnf
  conv => arg 4; zeta
  have hjn : j < n := HA.out.2.2
  have han : a < n := by have := HA.out; omega
  go_loopg [10] (j + 1 - i) (fun kq v10 w' => ∃ (i' : Nat), v10 = .int .i64 (i' : Int) ∧ Aside0 (i ≤ i' ∧ (i' ≤ j + 1 ∨ i' = i)) ∧ Aside0 (j + 1 ≤ i' + kq) ∧ Aside0 (SrtE W w' g n l0 l))
  case atStart => exact ⟨i, rfl, ⟨by have := HA.out; omega⟩, ⟨by omega⟩, HS⟩
  case round =>
    clear HS
    obtain ⟨i', rfl, HF, HM, HS⟩ := hrel
    by_cases hij : i' ≤ j
    · have hijz : (i' : Int) ≤ (j : Int) := by omega
      have hijb : decide ((i' : Int) ≤ (j : Int)) = true := decide_eq_true hijz
      have hen : i' < n := by have := HF.out; omega
      have ya := HS.out.row.cell a han
      obtain ⟨xa, hxa⟩ : ∃ x, l.getD a 0 = x := ⟨_, rfl⟩
      rw [hxa] at ya
      have ye := HS.out.row.cell i' hen
      obtain ⟨xe, hxe⟩ : ∃ x, l.getD i' 0 = x := ⟨_, rfl⟩
      rw [hxe] at ye
      by_cases hl : xe < xa
      · have hlb : decide (xe < xa) = true := decide_eq_true hl
        cases gk with
        | zero => have := HM.out; omega
        | succ kz =>
        skip
        go_upto_region 13 with fail
        go_quiet (first | (go_at_call 87; refine Calls.quiet_of_same (less32 _ _ _)))
        go_wp2_with fail
        go_roundg kz
        case measure => omega
        case rel =>
          have := HF.out
          have := HM.out
          have := HA.out
          exact ⟨i' + 1, congrArg (Value.int .i64) (by omega), ⟨by omega⟩, ⟨by omega⟩, ⟨HS.out.drewN _⟩⟩
      · have hlb : decide (xe < xa) = false := decide_eq_false hl
        go_upto_region 13 with fail
        go_quiet (first | (go_at_call 87; refine Calls.quiet_of_same (less32 _ _ _)))
        go_wp2_with fail
        exact hN.out _ _ _ _ _ _ _ _ _ _ _ _ _ _ _ _ i' _ HF ⟨HS.out.drewN _⟩
    · have hijz : ¬ (i' : Int) ≤ (j : Int) := by omega
      have hijb : decide ((i' : Int) ≤ (j : Int)) = false := decide_eq_false hijz
      go_upto_region 13 with fail
      go_quiet (first | (go_at_call 87; refine Calls.quiet_of_same (less32 _ _ _)))
      go_wp2_with fail
      exact hN.out _ _ _ _ _ _ _ _ _ _ _ _ _ _ _ _ i' _ HF ⟨HS.out.drewN _⟩
noncomputable def sp4C : Code := pth [true, true, true, true, true, true, true, true, true, false, false, false, false, true, false, false] (Tryz.f89.body.getD .skip)
set_option maxHeartbeats 16000000 in
set_option maxRecDepth 100000 in
theorem sp4 (W w : World) (g n c a i j : Nat) (l0 l : List Int) (HS : Aside0 (SrtE W w g n l0 l)) (hn : n ≤ 1000000000) (HA : Aside0 (a < i ∧ a ≤ j ∧ j < n)) {Q : Exit → Act → World → Prop} {v2 v3 v4 v5 v6 v7 v8 v9 v12 v13 v14 v15 v16 v17 v18 v19 v20 v21 v22 v23 v24 v25 v26 v27 v28 v29 v30 v31 v32 v33 v34 v35 v36 v37 v38 v39 v40 v41 v42 v43 v44 v45 v46 v47 v48 v49 v50 v51 v52 v53 v54 v55 v56 v57 v58 v59 v60 v61 v62 v63 v64 v65 v66 v67 v68 v69 v70 v71 v72 v73 v74 v75 v76 v77 v78 v79 v80 v81 v82 v83 v84 v85 v86 v87 v88 v89 v90 v91 v92 v93 v94 v95 v96 v97 v98 v99 v100 v101 v102 v103 v104 v105 v106 v107 v108 v109 v110 v111 v112 v113 v114 v115 v116 v117 v118 v119 v120 v121 v122 v123 v124 v125 v126 v127 v128 v129 v130 v131 v132 v133 v134 v135 v136 v137 v138 v139 v140 v141 v142 v143 v144 v145 v146 v147 v148 v149 v150 v151 v152 v153 v154 v155 v156 v157 v158 v159 v160 v161 v162 v163 v164 v165 v166 v167 : Value}
    (hN : Aside0 (∀ (n115 n116 n117 n118 n119 n120 n121 n122 n123 n124 n125 n126 n127 n128 n129 n130 n131 : Value) (j' : Nat) (w' : World), Aside0 (j' ≤ j ∧ (i ≤ j' + 1 ∨ j' = j) ∧ a ≤ j') → Aside0 (SrtE W w' g n l0 l) → Q (.exit 8) ⟨#[.slice (some ⟨g, 0, none⟩) n c, .int .i64 (a : Int), v2, v3, v4, v5, v6, v7, v8, v9, .int .i64 (i : Int), .int .i64 (j' : Int), v12, v13, v14, v15, v16, v17, v18, v19, v20, v21, v22, v23, v24, v25, v26, v27, v28, v29, v30, v31, v32, v33, v34, v35, v36, v37, v38, v39, v40, v41, v42, v43, v44, v45, v46, v47, v48, v49, v50, v51, v52, v53, v54, v55, v56, v57, v58, v59, v60, v61, v62, v63, v64, v65, v66, v67, v68, v69, v70, v71, v72, v73, v74, v75, v76, v77, v78, v79, v80, v81, v82, v83, v84, v85, v86, v87, v88, v89, v90, v91, v92, v93, v94, v95, v96, v97, v98, v99, v100, v101, v102, v103, v104, v105, v106, v107, v108, v109, v110, v111, v112, v113, v114, n115, n116, n117, n118, n119, n120, n121, n122, n123, n124, n125, n126, n127, n128, n129, n130, n131, v132, v133, v134, v135, v136, v137, v138, v139, v140, v141, v142, v143, v144, v145, v146, v147, v148, v149, v150, v151, v152, v153, v154, v155, v156, v157, v158, v159, v160, v161, v162, v163, v164, v165, v166, v167], []⟩ w')) :
    Code.wp Tryz.prog sp4C Q ⟨#[.slice (some ⟨g, 0, none⟩) n c, .int .i64 (a : Int), v2, v3, v4, v5, v6, v7, v8, v9, .int .i64 (i : Int), .int .i64 (j : Int), v12, v13, v14, v15, v16, v17, v18, v19, v20, v21, v22, v23, v24, v25, v26, v27, v28, v29, v30, v31, v32, v33, v34, v35, v36, v37, v38, v39, v40, v41, v42, v43, v44, v45, v46, v47, v48, v49, v50, v51, v52, v53, v54, v55, v56, v57, v58, v59, v60, v61, v62, v63, v64, v65, v66, v67, v68, v69, v70, v71, v72, v73, v74, v75, v76, v77, v78, v79, v80, v81, v82, v83, v84, v85, v86, v87, v88, v89, v90, v91, v92, v93, v94, v95, v96, v97, v98, v99, v100, v101, v102, v103, v104, v105, v106, v107, v108, v109, v110, v111, v112, v113, v114, v115, v116, v117, v118, v119, v120, v121, v122, v123, v124, v125, v126, v127, v128, v129, v130, v131, v132, v133, v134, v135, v136, v137, v138, v139, v140, v141, v142, v143, v144, v145, v146, v147, v148, v149, v150, v151, v152, v153, v154, v155, v156, v157, v158, v159, v160, v161, v162, v163, v164, v165, v166, v167], []⟩ w := by
  conv => arg 2; whnf
  conv => arg 4; zeta
  have hjn : j < n := HA.out.2.2
  have han : a < n := by have := HA.out; omega
  go_loopg [11] (j + 1 - i) (fun kq v11 w' => ∃ (j' : Nat), v11 = .int .i64 (j' : Int) ∧ Aside0 (j' ≤ j ∧ (i ≤ j' + 1 ∨ j' = j) ∧ a ≤ j') ∧ Aside0 (j' + 1 ≤ i + kq) ∧ Aside0 (SrtE W w' g n l0 l))
  case atStart => exact ⟨j, rfl, ⟨by have := HA.out; omega⟩, ⟨by omega⟩, HS⟩
  case round =>
    clear HS
    obtain ⟨j', rfl, HF, HM, HS⟩ := hrel
    by_cases hij : i ≤ j'
    · have hijz : (i : Int) ≤ (j' : Int) := by omega
      have hijb : decide ((i : Int) ≤ (j' : Int)) = true := decide_eq_true hijz
      have hen : j' < n := by have := HF.out; omega
      have ya := HS.out.row.cell a han
      obtain ⟨xa, hxa⟩ : ∃ x, l.getD a 0 = x := ⟨_, rfl⟩
      rw [hxa] at ya
      have ye := HS.out.row.cell j' hen
      obtain ⟨xe, hxe⟩ : ∃ x, l.getD j' 0 = x := ⟨_, rfl⟩
      rw [hxe] at ye
      by_cases hl : ¬ xe < xa
      · have hlb : decide (xe < xa) = false := decide_eq_false hl
        cases gk with
        | zero => have := HM.out; omega
        | succ kz =>
        obtain ⟨j1, hj1, hjw⟩ := rev_nums j' (by have := HA.out; omega) (by omega)
        have HJ1 := Aside0.mk hj1
        clear hj1
        go_upto_region 15 with fail
        go_quiet (first | (go_at_call 87; refine Calls.quiet_of_same (less32 _ _ _)))
        go_wp2_with fail
        go_roundg kz
        case measure => omega
        case rel =>
          have := HF.out
          have := HM.out
          have := HA.out
          have := HJ1.out
          exact ⟨j1, congrArg (Value.int .i64) (by first | exact hjw | omega), ⟨by omega⟩, ⟨by omega⟩, ⟨HS.out.drewN _⟩⟩
      · have hlb : decide (xe < xa) = true := decide_eq_true (by omega)
        go_upto_region 15 with fail
        go_quiet (first | (go_at_call 87; refine Calls.quiet_of_same (less32 _ _ _)))
        go_wp2_with fail
        exact hN.out _ _ _ _ _ _ _ _ _ _ _ _ _ _ _ _ _ j' _ HF ⟨HS.out.drewN _⟩
    · have hijz : ¬ (i : Int) ≤ (j' : Int) := by omega
      have hijb : decide ((i : Int) ≤ (j' : Int)) = false := decide_eq_false hijz
      go_upto_region 15 with fail
      go_quiet (first | (go_at_call 87; refine Calls.quiet_of_same (less32 _ _ _)))
      go_wp2_with fail
      exact hN.out _ _ _ _ _ _ _ _ _ _ _ _ _ _ _ _ _ j' _ HF ⟨HS.out.drewN _⟩
noncomputable def se1C : Code := pth [true, true, true, false, false, false, false, false, false] (Tryz.f88.body.getD .skip)
set_option maxHeartbeats 16000000 in
set_option maxRecDepth 100000 in
theorem se1 (W w : World) (g n c a i j : Nat) (l0 l : List Int) (HS : Aside0 (SrtE W w g n l0 l)) (hn : n ≤ 1000000000) (HA : Aside0 (a < i ∧ a ≤ j ∧ j < n)) {Q : Exit → Act → World → Prop} {v2 v3 v4 v5 v6 v7 v8 v11 v12 v13 v14 v15 v16 v17 v18 v19 v20 v21 v22 v23 v24 v25 v26 v27 v28 v29 v30 v31 v32 v33 v34 v35 v36 v37 v38 v39 v40 v41 v42 v43 v44 v45 v46 v47 v48 v49 v50 v51 v52 v53 v54 v55 v56 v57 v58 v59 v60 v61 v62 v63 v64 v65 v66 v67 v68 v69 v70 v71 v72 v73 v74 v75 v76 v77 v78 v79 v80 v81 v82 v83 : Value}
    (hN : Aside0 (∀ (n29 n30 n31 n32 n33 n34 n35 n36 n37 n38 n39 n40 n41 n42 n43 n44 n45 : Value) (i' : Nat) (w' : World), Aside0 (i ≤ i' ∧ (i' ≤ j + 1 ∨ i' = i)) → Aside0 (SrtE W w' g n l0 l) → Q (.exit 2) ⟨#[.slice (some ⟨g, 0, none⟩) n c, .int .i64 (a : Int), v2, v3, v4, v5, v6, v7, v8, .int .i64 (i' : Int), .int .i64 (j : Int), v11, v12, v13, v14, v15, v16, v17, v18, v19, v20, v21, v22, v23, v24, v25, v26, v27, v28, n29, n30, n31, n32, n33, n34, n35, n36, n37, n38, n39, n40, n41, n42, n43, n44, n45, v46, v47, v48, v49, v50, v51, v52, v53, v54, v55, v56, v57, v58, v59, v60, v61, v62, v63, v64, v65, v66, v67, v68, v69, v70, v71, v72, v73, v74, v75, v76, v77, v78, v79, v80, v81, v82, v83], []⟩ w')) :
    Code.wp Tryz.prog se1C Q ⟨#[.slice (some ⟨g, 0, none⟩) n c, .int .i64 (a : Int), v2, v3, v4, v5, v6, v7, v8, .int .i64 (i : Int), .int .i64 (j : Int), v11, v12, v13, v14, v15, v16, v17, v18, v19, v20, v21, v22, v23, v24, v25, v26, v27, v28, v29, v30, v31, v32, v33, v34, v35, v36, v37, v38, v39, v40, v41, v42, v43, v44, v45, v46, v47, v48, v49, v50, v51, v52, v53, v54, v55, v56, v57, v58, v59, v60, v61, v62, v63, v64, v65, v66, v67, v68, v69, v70, v71, v72, v73, v74, v75, v76, v77, v78, v79, v80, v81, v82, v83], []⟩ w := by
  conv => arg 2; whnf
  conv => arg 4; zeta
  have hjn : j < n := HA.out.2.2
  have han : a < n := by have := HA.out; omega
  go_loopg [9] (j + 1 - i) (fun kq v9 w' => ∃ (i' : Nat), v9 = .int .i64 (i' : Int) ∧ Aside0 (i ≤ i' ∧ (i' ≤ j + 1 ∨ i' = i)) ∧ Aside0 (j + 1 ≤ i' + kq) ∧ Aside0 (SrtE W w' g n l0 l))
  case atStart => exact ⟨i, rfl, ⟨by have := HA.out; omega⟩, ⟨by omega⟩, HS⟩
  case round =>
    clear HS
    obtain ⟨i', rfl, HF, HM, HS⟩ := hrel
    by_cases hij : i' ≤ j
    · have hijz : (i' : Int) ≤ (j : Int) := by omega
      have hijb : decide ((i' : Int) ≤ (j : Int)) = true := decide_eq_true hijz
      have hen : i' < n := by have := HF.out; omega
      have ya := HS.out.row.cell a han
      obtain ⟨xa, hxa⟩ : ∃ x, l.getD a 0 = x := ⟨_, rfl⟩
      rw [hxa] at ya
      have ye := HS.out.row.cell i' hen
      obtain ⟨xe, hxe⟩ : ∃ x, l.getD i' 0 = x := ⟨_, rfl⟩
      rw [hxe] at ye
      by_cases hl : ¬ xa < xe
      · have hlb : decide (xa < xe) = false := decide_eq_false hl
        cases gk with
        | zero => have := HM.out; omega
        | succ kz =>
        skip
        go_upto_region 3 with fail
        go_quiet (first | (go_at_call 87; refine Calls.quiet_of_same (less32 _ _ _)))
        go_wp2_with fail
        go_roundg kz
        case measure => omega
        case rel =>
          have := HF.out
          have := HM.out
          have := HA.out
          exact ⟨i' + 1, congrArg (Value.int .i64) (by omega), ⟨by omega⟩, ⟨by omega⟩, ⟨HS.out.drewN _⟩⟩
      · have hlb : decide (xa < xe) = true := decide_eq_true (by omega)
        go_upto_region 3 with fail
        go_quiet (first | (go_at_call 87; refine Calls.quiet_of_same (less32 _ _ _)))
        go_wp2_with fail
        exact hN.out _ _ _ _ _ _ _ _ _ _ _ _ _ _ _ _ _ i' _ HF ⟨HS.out.drewN _⟩
    · have hijz : ¬ (i' : Int) ≤ (j : Int) := by omega
      have hijb : decide ((i' : Int) ≤ (j : Int)) = false := decide_eq_false hijz
      go_upto_region 3 with fail
      go_quiet (first | (go_at_call 87; refine Calls.quiet_of_same (less32 _ _ _)))
      go_wp2_with fail
      exact hN.out _ _ _ _ _ _ _ _ _ _ _ _ _ _ _ _ _ i' _ HF ⟨HS.out.drewN _⟩
noncomputable def se2C : Code := pth [true, true, true, false, false, false, false, true, false, false] (Tryz.f88.body.getD .skip)
set_option maxHeartbeats 16000000 in
set_option maxRecDepth 100000 in
theorem se2 (W w : World) (g n c a i j : Nat) (l0 l : List Int) (HS : Aside0 (SrtE W w g n l0 l)) (hn : n ≤ 1000000000) (HA : Aside0 (a < i ∧ a ≤ j ∧ j < n)) {Q : Exit → Act → World → Prop} {v2 v3 v4 v5 v6 v7 v8 v11 v12 v13 v14 v15 v16 v17 v18 v19 v20 v21 v22 v23 v24 v25 v26 v27 v28 v29 v30 v31 v32 v33 v34 v35 v36 v37 v38 v39 v40 v41 v42 v43 v44 v45 v46 v47 v48 v49 v50 v51 v52 v53 v54 v55 v56 v57 v58 v59 v60 v61 v62 v63 v64 v65 v66 v67 v68 v69 v70 v71 v72 v73 v74 v75 v76 v77 v78 v79 v80 v81 v82 v83 : Value}
    (hN : Aside0 (∀ (n46 n47 n48 n49 n50 n51 n52 n53 n54 n55 n56 n57 n58 n59 n60 n61 : Value) (j' : Nat) (w' : World), Aside0 (j' ≤ j ∧ (i ≤ j' + 1 ∨ j' = j) ∧ a ≤ j') → Aside0 (SrtE W w' g n l0 l) → Q (.exit 4) ⟨#[.slice (some ⟨g, 0, none⟩) n c, .int .i64 (a : Int), v2, v3, v4, v5, v6, v7, v8, .int .i64 (i : Int), .int .i64 (j' : Int), v11, v12, v13, v14, v15, v16, v17, v18, v19, v20, v21, v22, v23, v24, v25, v26, v27, v28, v29, v30, v31, v32, v33, v34, v35, v36, v37, v38, v39, v40, v41, v42, v43, v44, v45, n46, n47, n48, n49, n50, n51, n52, n53, n54, n55, n56, n57, n58, n59, n60, n61, v62, v63, v64, v65, v66, v67, v68, v69, v70, v71, v72, v73, v74, v75, v76, v77, v78, v79, v80, v81, v82, v83], []⟩ w')) :
    Code.wp Tryz.prog se2C Q ⟨#[.slice (some ⟨g, 0, none⟩) n c, .int .i64 (a : Int), v2, v3, v4, v5, v6, v7, v8, .int .i64 (i : Int), .int .i64 (j : Int), v11, v12, v13, v14, v15, v16, v17, v18, v19, v20, v21, v22, v23, v24, v25, v26, v27, v28, v29, v30, v31, v32, v33, v34, v35, v36, v37, v38, v39, v40, v41, v42, v43, v44, v45, v46, v47, v48, v49, v50, v51, v52, v53, v54, v55, v56, v57, v58, v59, v60, v61, v62, v63, v64, v65, v66, v67, v68, v69, v70, v71, v72, v73, v74, v75, v76, v77, v78, v79, v80, v81, v82, v83], []⟩ w := by
  conv => arg 2; whnf
  conv => arg 4; zeta
  have hjn : j < n := HA.out.2.2
  have han : a < n := by have := HA.out; omega
  go_loopg [10] (j + 1 - i) (fun kq v10 w' => ∃ (j' : Nat), v10 = .int .i64 (j' : Int) ∧ Aside0 (j' ≤ j ∧ (i ≤ j' + 1 ∨ j' = j) ∧ a ≤ j') ∧ Aside0 (j' + 1 ≤ i + kq) ∧ Aside0 (SrtE W w' g n l0 l))
  case atStart => exact ⟨j, rfl, ⟨by have := HA.out; omega⟩, ⟨by omega⟩, HS⟩
  case round =>
    clear HS
    obtain ⟨j', rfl, HF, HM, HS⟩ := hrel
    by_cases hij : i ≤ j'
    · have hijz : (i : Int) ≤ (j' : Int) := by omega
      have hijb : decide ((i : Int) ≤ (j' : Int)) = true := decide_eq_true hijz
      have hen : j' < n := by have := HF.out; omega
      have ya := HS.out.row.cell a han
      obtain ⟨xa, hxa⟩ : ∃ x, l.getD a 0 = x := ⟨_, rfl⟩
      rw [hxa] at ya
      have ye := HS.out.row.cell j' hen
      obtain ⟨xe, hxe⟩ : ∃ x, l.getD j' 0 = x := ⟨_, rfl⟩
      rw [hxe] at ye
      by_cases hl : xa < xe
      · have hlb : decide (xa < xe) = true := decide_eq_true hl
        cases gk with
        | zero => have := HM.out; omega
        | succ kz =>
        obtain ⟨j1, hj1, hjw⟩ := rev_nums j' (by have := HA.out; omega) (by omega)
        have HJ1 := Aside0.mk hj1
        clear hj1
        go_upto_region 5 with fail
        go_quiet (first | (go_at_call 87; refine Calls.quiet_of_same (less32 _ _ _)))
        go_wp2_with fail
        go_roundg kz
        case measure => omega
        case rel =>
          have := HF.out
          have := HM.out
          have := HA.out
          have := HJ1.out
          exact ⟨j1, congrArg (Value.int .i64) (by first | exact hjw | omega), ⟨by omega⟩, ⟨by omega⟩, ⟨HS.out.drewN _⟩⟩
      · have hlb : decide (xa < xe) = false := decide_eq_false hl
        go_upto_region 5 with fail
        go_quiet (first | (go_at_call 87; refine Calls.quiet_of_same (less32 _ _ _)))
        go_wp2_with fail
        exact hN.out _ _ _ _ _ _ _ _ _ _ _ _ _ _ _ _ j' _ HF ⟨HS.out.drewN _⟩
    · have hijz : ¬ (i : Int) ≤ (j' : Int) := by omega
      have hijb : decide ((i : Int) ≤ (j' : Int)) = false := decide_eq_false hijz
      go_upto_region 5 with fail
      go_quiet (first | (go_at_call 87; refine Calls.quiet_of_same (less32 _ _ _)))
      go_wp2_with fail
      exact hN.out _ _ _ _ _ _ _ _ _ _ _ _ _ _ _ _ j' _ HF ⟨HS.out.drewN _⟩
end Go.Proofs.YtaejkbjepbifcabGreatDoor.So
namespace Go.Proofs.YtaejkbjepbifcabGreatDoor.So
open Go.RowKit Go.Proofs.YtaejkbjepbifcabGreatDoorW.PrintWords Go.Proofs.YtaejkbjepbifcabGreatDoor.Da
set_option linter.unusedVariables false
set_option linter.unusedSimpArgs false
set_option maxHeartbeats 16000000 in
set_option maxRecDepth 100000 in
theorem peq_calls (wr : World) (g n c a b p : Nat) (l2 : List Int) (hR : RowI wr g n l2) (hab : a < b) (hb : b ≤ n) (hp : p < b) :
    Calls Tryz.prog 88 #[.slice (some ⟨g, 0, none⟩) n c, .int .i64 (a : Int), .int .i64 (b : Int), .int .i64 (p : Int)] wr fun e w' => ∃ (m : Nat) (l' : List Int), e = .returned (.int .i64 (m : Int)) ∧ a < m ∧ m ≤ b ∧ SrtE wr w' g n l2 l' := by
  have HS := Aside0.mk (SrtE.start hR)
  have hn := hR.few
  have han : a < n := by omega
  have hpn : p < n := by omega
  obtain ⟨b1, hb1, hbw⟩ := rev_nums b (by omega) (by omega)
  have hb1n : b1 < n := by omega
  have HB1 := Aside0.mk hb1
  have y0 := HS.out.row.cell a han
  obtain ⟨x0, hx0⟩ : ∃ x, l2.getD a 0 = x := ⟨_, rfl⟩
  rw [hx0] at y0
  have f0 := HS.out.row.froz a
  have y1 := HS.out.row.cell p hpn
  obtain ⟨x1, hx1⟩ : ∃ x, l2.getD p 0 = x := ⟨_, rfl⟩
  rw [hx1] at y1
  have f1 := HS.out.row.froz p
  have y2 : ∀ q, ((wr.drewN q).setCell ⟨g, a, none⟩ (.int .i32 x1)).cell? ⟨g, p, none⟩ = some (.int .i32 x1) := fun q => HS.out.row.after han hpn hx1 q
  have f2 : ∀ q, ((wr.drewN q).setCell ⟨g, a, none⟩ (.int .i32 x1)).frozen? ⟨g, p, none⟩ = false := fun q => ((HS.out.row.step (w' := wr.drewN q) rfl).set a han x1).froz p
  have y2d : ((wr.setCell ⟨g, a, none⟩ (.int .i32 x1)).drew).cell? ⟨g, p, none⟩ = some (.int .i32 x1) := HS.out.row.after han hpn hx1 0
  have f2d : ((wr.setCell ⟨g, a, none⟩ (.int .i32 x1)).drew).frozen? ⟨g, p, none⟩ = false := (HS.out.row.set a han x1).froz p
  clear hR hb1
  go_enter Tryz.func88, Tryz.ntmps88
  go_upto_region 1 with fail
  go_region
  have h0 := HS.out.swap a p 1 han hpn
  rw [hx0, hx1] at h0
  have HS0 : Aside0 (∃ l', SrtE wr (((wr.drewN 1).setCell ⟨g, a, none⟩ (.int .i32 x1)).setCell ⟨g, p, none⟩ (.int .i32 x0)) g n l2 l') := ⟨_, h0⟩
  clear h0 y0 y1 f0 f1 y2 f2 y2d f2d hx0 hx1 HS
  go_wp2_with fail
  go_loopg [9, 10] (b - a) (fun kq v9 v10 w' => ∃ (i j : Nat) (l' : List Int), v9 = .int .i64 (i : Int) ∧ v10 = .int .i64 (j : Int) ∧ Aside0 (j + 1 ≤ i + kq ∧ a < i ∧ a ≤ j ∧ j < b ∧ i ≤ b) ∧ Aside0 (SrtE wr w' g n l2 l'))
  case atStart =>
    have := HB1.out
    obtain ⟨l', h⟩ := HS0.out
    exact ⟨a + 1, b1, l', congrArg (Value.int .i64) (by omega), congrArg (Value.int .i64) (by first | exact hbw | omega), ⟨by omega⟩, ⟨h⟩⟩
  case round =>
    clear HS0 hbw
    obtain ⟨i, j, l3, rfl, rfl, HI, HS⟩ := hrel
    go_wp2_with fail
    refine se1 _ _ g n c a i j l2 l3 HS hn ⟨by have := HI.out; omega⟩ ⟨?_⟩
    intro _ _ _ _ _ _ _ _ _ _ _ _ _ _ _ _ _ i1 w3 HF1 HS3
    dsimp only
    go_wp2_with fail
    refine se2 _ _ g n c a i1 j l2 l3 HS3 hn ⟨by have := HI.out; have := HF1.out; omega⟩ ⟨?_⟩
    intro _ _ _ _ _ _ _ _ _ _ _ _ _ _ _ _ j1 w4 HF2 HS4
    dsimp only
    by_cases hgt : j1 < i1
    · have hgtz : (j1 : Int) < (i1 : Int) := by omega
      go_wp2_with fail
      go_ret
      exact ⟨i1, l3, rfl, by have := HI.out; have := HF1.out; omega, by have := HI.out; have := HF1.out; omega, HS4.out⟩
    · have hgtz : ¬ (j1 : Int) < (i1 : Int) := by omega
      have hin : i1 < n := by have := HI.out; have := HF2.out; omega
      have hjn : j1 < n := by have := HI.out; have := HF2.out; omega
      obtain ⟨j2, hj2, hjw⟩ := rev_nums j1 (by have := HI.out; have := HF1.out; omega) (by omega)
      have HJ2 := Aside0.mk hj2
      have y0 := HS4.out.row.cell i1 hin
      obtain ⟨x0, hx0⟩ : ∃ x, l3.getD i1 0 = x := ⟨_, rfl⟩
      rw [hx0] at y0
      have f0 := HS4.out.row.froz i1
      have y1 := HS4.out.row.cell j1 hjn
      obtain ⟨x1, hx1⟩ : ∃ x, l3.getD j1 0 = x := ⟨_, rfl⟩
      rw [hx1] at y1
      have f1 := HS4.out.row.froz j1
      have y2 : ∀ q, ((w4.drewN q).setCell ⟨g, i1, none⟩ (.int .i32 x1)).cell? ⟨g, j1, none⟩ = some (.int .i32 x1) := fun q => HS4.out.row.after hin hjn hx1 q
      have f2 : ∀ q, ((w4.drewN q).setCell ⟨g, i1, none⟩ (.int .i32 x1)).frozen? ⟨g, j1, none⟩ = false := fun q => ((HS4.out.row.step (w' := w4.drewN q) rfl).set i1 hin x1).froz j1
      have y2d : ((w4.setCell ⟨g, i1, none⟩ (.int .i32 x1)).drew).cell? ⟨g, j1, none⟩ = some (.int .i32 x1) := HS4.out.row.after hin hjn hx1 0
      have f2d : ((w4.setCell ⟨g, i1, none⟩ (.int .i32 x1)).drew).frozen? ⟨g, j1, none⟩ = false := (HS4.out.row.set i1 hin x1).froz j1
      cases gk with
      | zero => have := HI.out; have := HF1.out; have := HF2.out; omega
      | succ kz =>
      clear hj2
      go_upto_region 8 with fail
      go_region
      go_wp2_with fail
      go_roundg kz
      case measure => omega
      case rel =>
        have h := HS4.out.swap i1 j1 1 hin hjn
        rw [hx0, hx1] at h
        have := HI.out
        have := HF1.out
        have := HF2.out
        have := HJ2.out
        exact ⟨i1 + 1, j2, _, congrArg (Value.int .i64) (by omega), congrArg (Value.int .i64) (by first | exact hjw | omega), ⟨by omega⟩, ⟨h⟩⟩
end Go.Proofs.YtaejkbjepbifcabGreatDoor.So
namespace Go.Proofs.YtaejkbjepbifcabGreatDoor.So
open Go.RowKit Go.Proofs.YtaejkbjepbifcabGreatDoorW.PrintWords Go.Proofs.YtaejkbjepbifcabGreatDoor.Da
set_option linter.unusedVariables false
set_option linter.unusedSimpArgs false
set_option maxHeartbeats 16000000 in
set_option maxRecDepth 100000 in
theorem part_calls (wr : World) (g n c a b p : Nat) (l2 : List Int) (hR : RowI wr g n l2) (hab : a < b) (hb : b ≤ n) (hp : p < b) :
    Calls Tryz.prog 89 #[.slice (some ⟨g, 0, none⟩) n c, .int .i64 (a : Int), .int .i64 (b : Int), .int .i64 (p : Int)] wr fun e w' => ∃ (m : Nat) (ap : Bool) (l' : List Int), e = .returned (.tuple #[.int .i64 (m : Int), .bool ap]) ∧ a ≤ m ∧ m < b ∧ SrtE wr w' g n l2 l' := by
  have HS := Aside0.mk (SrtE.start hR)
  have hn := hR.few
  have han : a < n := by omega
  have hpn : p < n := by omega
  obtain ⟨b1, hb1, hbw⟩ := rev_nums b (by omega) (by omega)
  have hb1n : b1 < n := by omega
  have HB1 := Aside0.mk hb1
  have y0 := HS.out.row.cell a han
  obtain ⟨x0, hx0⟩ : ∃ x, l2.getD a 0 = x := ⟨_, rfl⟩
  rw [hx0] at y0
  have f0 := HS.out.row.froz a
  have y1 := HS.out.row.cell p hpn
  obtain ⟨x1, hx1⟩ : ∃ x, l2.getD p 0 = x := ⟨_, rfl⟩
  rw [hx1] at y1
  have f1 := HS.out.row.froz p
  have y2 : ∀ q, ((wr.drewN q).setCell ⟨g, a, none⟩ (.int .i32 x1)).cell? ⟨g, p, none⟩ = some (.int .i32 x1) := fun q => HS.out.row.after han hpn hx1 q
  have f2 : ∀ q, ((wr.drewN q).setCell ⟨g, a, none⟩ (.int .i32 x1)).frozen? ⟨g, p, none⟩ = false := fun q => ((HS.out.row.step (w' := wr.drewN q) rfl).set a han x1).froz p
  have y2d : ((wr.setCell ⟨g, a, none⟩ (.int .i32 x1)).drew).cell? ⟨g, p, none⟩ = some (.int .i32 x1) := HS.out.row.after han hpn hx1 0
  have f2d : ((wr.setCell ⟨g, a, none⟩ (.int .i32 x1)).drew).frozen? ⟨g, p, none⟩ = false := (HS.out.row.set a han x1).froz p
  clear hR hb1
  go_enter Tryz.func89, Tryz.ntmps89
  go_upto_region 1 with fail
  go_region
  have h0 := HS.out.swap a p 1 han hpn
  rw [hx0, hx1] at h0
  obtain ⟨l3, hl3⟩ : ∃ l3, l3 = swp l2 a p := ⟨_, rfl⟩
  rw [← hl3] at h0
  have HS0 := Aside0.mk h0
  clear h0 y0 y1 f0 f1 y2 f2 y2d f2d hx0 hx1 HS hl3
  go_upto_region 3 with fail
  try rw [show (b : Int) - 1 = (b1 : Int) from by have := HB1.out; omega]
  try rw [show (a : Int) + 1 = ((a + 1 : Nat) : Int) from by omega]
  obtain ⟨i, hi⟩ : ∃ i, i = a + 1 := ⟨_, rfl⟩
  rw [← hi]
  have HIE := Aside0.mk hi
  clear hi hbw
  refine sp1 _ _ g n c a i b1 l2 l3 HS0 hn ⟨by have := HIE.out; have := HB1.out; omega⟩ ⟨?_⟩
  intro _ _ _ _ _ _ _ _ _ _ _ _ _ _ _ _ i1 w3 HF1 HS3
  dsimp only
  go_wp2_with fail
  refine sp2 _ _ g n c a i1 b1 l2 l3 HS3 hn ⟨by have := HIE.out; have := HB1.out; have := HF1.out; omega⟩ ⟨?_⟩
  intro _ _ _ _ _ _ _ _ _ _ _ _ _ _ _ _ _ j1 w4 HF2 HS4
  dsimp only
  have HI : Aside0 (a < i1 ∧ a ≤ j1 ∧ j1 < b ∧ i1 ≤ b ∧ (i1 ≤ j1 → i1 < b)) := ⟨by have := HIE.out; have := HB1.out; have := HF1.out; have := HF2.out; omega⟩
  clear HF1 HF2 HS3 HS0 HIE HB1
  have hjn : j1 < n := by have := HI.out; omega
  by_cases hgt : j1 < i1
  · have hgtz : (j1 : Int) < (i1 : Int) := by omega
    have y0 := HS4.out.row.cell j1 hjn
    obtain ⟨x0, hx0⟩ : ∃ x, l3.getD j1 0 = x := ⟨_, rfl⟩
    rw [hx0] at y0
    have f0 := HS4.out.row.froz j1
    have y1 := HS4.out.row.cell a han
    obtain ⟨x1, hx1⟩ : ∃ x, l3.getD a 0 = x := ⟨_, rfl⟩
    rw [hx1] at y1
    have f1 := HS4.out.row.froz a
    have y2 : ∀ q, ((w4.drewN q).setCell ⟨g, j1, none⟩ (.int .i32 x1)).cell? ⟨g, a, none⟩ = some (.int .i32 x1) := fun q => HS4.out.row.after hjn han hx1 q
    have f2 : ∀ q, ((w4.drewN q).setCell ⟨g, j1, none⟩ (.int .i32 x1)).frozen? ⟨g, a, none⟩ = false := fun q => ((HS4.out.row.step (w' := w4.drewN q) rfl).set j1 hjn x1).froz a
    have y2d : ((w4.setCell ⟨g, j1, none⟩ (.int .i32 x1)).drew).cell? ⟨g, a, none⟩ = some (.int .i32 x1) := HS4.out.row.after hjn han hx1 0
    have f2d : ((w4.setCell ⟨g, j1, none⟩ (.int .i32 x1)).drew).frozen? ⟨g, a, none⟩ = false := (HS4.out.row.set j1 hjn x1).froz a
    go_upto_region 8 with fail
    go_region
    have h := HS4.out.swap j1 a 1 hjn han
    rw [hx0, hx1] at h
    have HSZ := Aside0.mk h
    clear h
    go_wp2_with fail
    go_ret2
    exact ⟨j1, true, _, rfl, HI.out.2.1, HI.out.2.2.1, HSZ.out⟩
  · have hgtz : ¬ (j1 : Int) < (i1 : Int) := by omega
    have hin : i1 < n := by omega
    obtain ⟨j2, hj2, hjw⟩ := rev_nums j1 (by have := HI.out; omega) (by omega)
    have HJ2 := Aside0.mk hj2
    have y0 := HS4.out.row.cell i1 hin
    obtain ⟨x0, hx0⟩ : ∃ x, l3.getD i1 0 = x := ⟨_, rfl⟩
    rw [hx0] at y0
    have f0 := HS4.out.row.froz i1
    have y1 := HS4.out.row.cell j1 hjn
    obtain ⟨x1, hx1⟩ : ∃ x, l3.getD j1 0 = x := ⟨_, rfl⟩
    rw [hx1] at y1
    have f1 := HS4.out.row.froz j1
    have y2 : ∀ q, ((w4.drewN q).setCell ⟨g, i1, none⟩ (.int .i32 x1)).cell? ⟨g, j1, none⟩ = some (.int .i32 x1) := fun q => HS4.out.row.after hin hjn hx1 q
    have f2 : ∀ q, ((w4.drewN q).setCell ⟨g, i1, none⟩ (.int .i32 x1)).frozen? ⟨g, j1, none⟩ = false := fun q => ((HS4.out.row.step (w' := w4.drewN q) rfl).set i1 hin x1).froz j1
    have y2d : ((w4.setCell ⟨g, i1, none⟩ (.int .i32 x1)).drew).cell? ⟨g, j1, none⟩ = some (.int .i32 x1) := HS4.out.row.after hin hjn hx1 0
    have f2d : ((w4.setCell ⟨g, i1, none⟩ (.int .i32 x1)).drew).frozen? ⟨g, j1, none⟩ = false := (HS4.out.row.set i1 hin x1).froz j1
    clear hj2
    go_upto_region 10 with fail
    go_region
    have h := HS4.out.swap i1 j1 1 hin hjn
    rw [hx0, hx1] at h
    have HS5 := Aside0.mk h
    clear h y0 y1 f0 f1 y2 f2 y2d f2d hx0 hx1 HS4
    go_wp2_with fail
    go_loopg [10, 11] (b - a) (fun kq v10 v11 w' => ∃ (i j : Nat) (l' : List Int), v10 = .int .i64 (i : Int) ∧ v11 = .int .i64 (j : Int) ∧ Aside0 (j + 1 ≤ i + kq ∧ a < i ∧ a ≤ j ∧ j < b ∧ i ≤ b) ∧ Aside0 (SrtE wr w' g n l2 l'))
    case atStart =>
      have := HJ2.out
      have := HI.out
      exact ⟨i1 + 1, j2, _, congrArg (Value.int .i64) (by omega), congrArg (Value.int .i64) (by first | exact hjw | omega), ⟨by omega⟩, HS5⟩
    case round =>
      clear HS5 hjw HJ2
      obtain ⟨i, j, l4, rfl, rfl, HK, HS⟩ := hrel
      go_wp2_with fail
      refine sp3 _ _ g n c a i j l2 l4 HS hn ⟨by have := HK.out; omega⟩ ⟨?_⟩
      intro _ _ _ _ _ _ _ _ _ _ _ _ _ _ _ _ i3 w5 HF3 HS6
      dsimp only
      go_wp2_with fail
      refine sp4 _ _ g n c a i3 j l2 l4 HS6 hn ⟨by have := HK.out; have := HF3.out; omega⟩ ⟨?_⟩
      intro _ _ _ _ _ _ _ _ _ _ _ _ _ _ _ _ _ j3 w6 HF4 HS7
      dsimp only
      have hjn3 : j3 < n := by have := HK.out; have := HF4.out; omega
      by_cases hgt3 : j3 < i3
      · have hgtz3 : (j3 : Int) < (i3 : Int) := by omega
        have y0 := HS7.out.row.cell j3 hjn3
        obtain ⟨x0, hx0⟩ : ∃ x, l4.getD j3 0 = x := ⟨_, rfl⟩
        rw [hx0] at y0
        have f0 := HS7.out.row.froz j3
        have y1 := HS7.out.row.cell a han
        obtain ⟨x1, hx1⟩ : ∃ x, l4.getD a 0 = x := ⟨_, rfl⟩
        rw [hx1] at y1
        have f1 := HS7.out.row.froz a
        have y2 : ∀ q, ((w6.drewN q).setCell ⟨g, j3, none⟩ (.int .i32 x1)).cell? ⟨g, a, none⟩ = some (.int .i32 x1) := fun q => HS7.out.row.after hjn3 han hx1 q
        have f2 : ∀ q, ((w6.drewN q).setCell ⟨g, j3, none⟩ (.int .i32 x1)).frozen? ⟨g, a, none⟩ = false := fun q => ((HS7.out.row.step (w' := w6.drewN q) rfl).set j3 hjn3 x1).froz a
        have y2d : ((w6.setCell ⟨g, j3, none⟩ (.int .i32 x1)).drew).cell? ⟨g, a, none⟩ = some (.int .i32 x1) := HS7.out.row.after hjn3 han hx1 0
        have f2d : ((w6.setCell ⟨g, j3, none⟩ (.int .i32 x1)).drew).frozen? ⟨g, a, none⟩ = false := (HS7.out.row.set j3 hjn3 x1).froz a
        go_upto_region 21 with fail
        go_region
        have h := HS7.out.swap j3 a 1 hjn3 han
        rw [hx0, hx1] at h
        have HSZ := Aside0.mk h
        clear h
        go_wp2_with fail
        go_ret2
        exact ⟨j3, false, _, rfl, by have := HK.out; have := HF4.out; omega, by have := HK.out; have := HF4.out; omega, HSZ.out⟩
      · have hgtz3 : ¬ (j3 : Int) < (i3 : Int) := by omega
        have hin3 : i3 < n := by omega
        obtain ⟨j4, hj4, hjw⟩ := rev_nums j3 (by have := HK.out; have := HF3.out; omega) (by omega)
        have HJ4 := Aside0.mk hj4
        have y0 := HS7.out.row.cell i3 hin3
        obtain ⟨x0, hx0⟩ : ∃ x, l4.getD i3 0 = x := ⟨_, rfl⟩
        rw [hx0] at y0
        have f0 := HS7.out.row.froz i3
        have y1 := HS7.out.row.cell j3 hjn3
        obtain ⟨x1, hx1⟩ : ∃ x, l4.getD j3 0 = x := ⟨_, rfl⟩
        rw [hx1] at y1
        have f1 := HS7.out.row.froz j3
        have y2 : ∀ q, ((w6.drewN q).setCell ⟨g, i3, none⟩ (.int .i32 x1)).cell? ⟨g, j3, none⟩ = some (.int .i32 x1) := fun q => HS7.out.row.after hin3 hjn3 hx1 q
        have f2 : ∀ q, ((w6.drewN q).setCell ⟨g, i3, none⟩ (.int .i32 x1)).frozen? ⟨g, j3, none⟩ = false := fun q => ((HS7.out.row.step (w' := w6.drewN q) rfl).set i3 hin3 x1).froz j3
        have y2d : ((w6.setCell ⟨g, i3, none⟩ (.int .i32 x1)).drew).cell? ⟨g, j3, none⟩ = some (.int .i32 x1) := HS7.out.row.after hin3 hjn3 hx1 0
        have f2d : ((w6.setCell ⟨g, i3, none⟩ (.int .i32 x1)).drew).frozen? ⟨g, j3, none⟩ = false := (HS7.out.row.set i3 hin3 x1).froz j3
        cases gk with
        | zero => have := HK.out; have := HF3.out; have := HF4.out; omega
        | succ kz =>
        clear hj4
        go_upto_region 18 with fail
        go_region
        go_wp2_with fail
        go_roundg kz
        case measure => omega
        case rel =>
          have h := HS7.out.swap i3 j3 1 hin3 hjn3
          rw [hx0, hx1] at h
          have := HK.out
          have := HF3.out
          have := HF4.out
          have := HJ4.out
          exact ⟨i3 + 1, j4, _, congrArg (Value.int .i64) (by omega), congrArg (Value.int .i64) (by first | exact hjw | omega), ⟨by omega⟩, ⟨h⟩⟩
end Go.Proofs.YtaejkbjepbifcabGreatDoor.So
namespace Go.Proofs.YtaejkbjepbifcabGreatDoor.So
open Go.RowKit Go.Proofs.YtaejkbjepbifcabGreatDoorW.PrintWords Go.Proofs.YtaejkbjepbifcabGreatDoor.Da
set_option linter.unusedVariables false
set_option linter.unusedSimpArgs false
def onlyNormal (Q : Exit → Act → World → Prop) : Exit → Act → World → Prop
  | .normal, a, w => Q .normal a w
  | _, _, _ => False
theorem only_normal {Q : Exit → Act → World → Prop} {e : Exit} {a : Act} {w : World} (h : onlyNormal Q e a w) : Q e a w := by
  cases e with
  | normal => exact h
  | _ => exact h.elim
noncomputable def sw11C : Code := pth [true, true, false, true, false, false, true, false, false, true, true, true, false] (Tryz.f86.body.getD .skip)
set_option maxHeartbeats 16000000 in
set_option maxRecDepth 100000 in
theorem sw11 (W w : World) (g n c j j1 : Nat) (l0 l : List Int) (HS : Aside0 (SrtE W w g n l0 l)) (hjw : wrap64 ((j : Int) - 1) = (j1 : Int)) (hn : n ≤ 1000000000) (hjn : j < n) (hj1n : j1 < n) (h1 : (1 : Int) ≤ (j : Int))
    {Q : Exit → Act → World → Prop} {v1 v2 v3 v4 v5 v6 v8 v9 v10 v11 v12 v13 v14 v15 v16 v17 v18 v19 v20 v21 v22 v23 v24 v25 v26 v27 v28 v29 v30 v31 v32 v33 v34 v35 v36 v37 v38 v39 v40 v41 v42 v43 v44 v45 v46 v47 v48 v49 v50 v51 v52 v53 v54 v55 v56 v57 v58 v59 v60 v61 v62 v63 v64 v65 v66 v67 v68 v69 v70 v71 v72 v73 v74 v75 v76 v77 v78 v79 v80 v81 v82 v83 v84 v85 v86 v87 v88 v89 v90 v91 v92 v93 v94 v95 v96 v97 v98 v99 v100 v101 v102 v103 v104 v105 v106 v107 v108 v109 v110 v111 v112 v113 v114 v115 v116 v117 v118 v119 v120 v121 v122 v123 v124 v125 v126 v127 v128 v129 v130 v131 v132 : Value} (hN : Aside0 (∀ (n42 n43 n44 n45 n46 n47 n48 n49 n50 n51 n52 n53 n54 n55 n56 n57 : Value) (l' : List Int) (w' : World), Aside0 (SrtE W w' g n l0 l') → Q .normal ⟨#[.slice (some ⟨g, 0, none⟩) n c, v1, v2, v3, v4, v5, v6, .int .i64 (j : Int), v8, v9, v10, v11, v12, v13, v14, v15, v16, v17, v18, v19, v20, v21, v22, v23, v24, v25, v26, v27, v28, v29, v30, v31, v32, v33, v34, v35, v36, v37, v38, v39, v40, v41, n42, n43, n44, n45, n46, n47, n48, n49, n50, n51, n52, n53, n54, n55, n56, n57, v58, v59, v60, v61, v62, v63, v64, v65, v66, v67, v68, v69, v70, v71, v72, v73, v74, v75, v76, v77, v78, v79, v80, v81, v82, v83, v84, v85, v86, v87, v88, v89, v90, v91, v92, v93, v94, v95, v96, v97, v98, v99, v100, v101, v102, v103, v104, v105, v106, v107, v108, v109, v110, v111, v112, v113, v114, v115, v116, v117, v118, v119, v120, v121, v122, v123, v124, v125, v126, v127, v128, v129, v130, v131, v132], []⟩ w')) :
    Code.wp Tryz.prog sw11C Q ⟨#[.slice (some ⟨g, 0, none⟩) n c, v1, v2, v3, v4, v5, v6, .int .i64 (j : Int), v8, v9, v10, v11, v12, v13, v14, v15, v16, v17, v18, v19, v20, v21, v22, v23, v24, v25, v26, v27, v28, v29, v30, v31, v32, v33, v34, v35, v36, v37, v38, v39, v40, v41, v42, v43, v44, v45, v46, v47, v48, v49, v50, v51, v52, v53, v54, v55, v56, v57, v58, v59, v60, v61, v62, v63, v64, v65, v66, v67, v68, v69, v70, v71, v72, v73, v74, v75, v76, v77, v78, v79, v80, v81, v82, v83, v84, v85, v86, v87, v88, v89, v90, v91, v92, v93, v94, v95, v96, v97, v98, v99, v100, v101, v102, v103, v104, v105, v106, v107, v108, v109, v110, v111, v112, v113, v114, v115, v116, v117, v118, v119, v120, v121, v122, v123, v124, v125, v126, v127, v128, v129, v130, v131, v132], []⟩ w := by
  have hjy : IntKind.i64.wrap ((j : Int) - 1) = (j1 : Int) := (iw _).trans hjw
  have y0 := HS.out.row.cell j hjn
  obtain ⟨x0, hx0⟩ : ∃ x, l.getD j 0 = x := ⟨_, rfl⟩
  rw [hx0] at y0
  have f0 := HS.out.row.froz j
  have y1 := HS.out.row.cell j1 hj1n
  obtain ⟨x1, hx1⟩ : ∃ x, l.getD j1 0 = x := ⟨_, rfl⟩
  rw [hx1] at y1
  have f1 := HS.out.row.froz j1
  have y2 : ((w.setCell ⟨g, j, none⟩ (.int .i32 x1)).drew).cell? ⟨g, j1, none⟩ = some (.int .i32 x1) := HS.out.row.after hjn hj1n hx1 0
  have f2 : ((w.setCell ⟨g, j, none⟩ (.int .i32 x1)).drew).frozen? ⟨g, j1, none⟩ = false := (HS.out.row.set j hjn x1).froz j1
  have h := HS.out.swap j j1 1 hjn hj1n
  rw [hx0, hx1] at h
  have HX := Aside0.mk h
  clear h hx0 hx1 HS
  refine Code.wp_mono (Q := onlyNormal Q) (fun e a w h => only_normal h) ?_
  conv => arg 2; whnf
  conv => arg 4; zeta
  go_region
  exact hN.out _ _ _ _ _ _ _ _ _ _ _ _ _ _ _ _ _ _ HX
noncomputable def sw17C : Code := pth [true, true, false, true, false, false, true, false, false, true, true, true, true, false, true, false, true, false, false, true, false, false, true] (Tryz.f86.body.getD .skip)
set_option maxHeartbeats 16000000 in
set_option maxRecDepth 100000 in
theorem sw17 (W w : World) (g n c j j1 : Nat) (l0 l : List Int) (HS : Aside0 (SrtE W w g n l0 l)) (hjw : wrap64 ((j : Int) - 1) = (j1 : Int)) (hn : n ≤ 1000000000) (hjn : j < n) (hj1n : j1 < n) (h1 : (1 : Int) ≤ (j : Int))
    {Q : Exit → Act → World → Prop} {v1 v2 v3 v4 v5 v6 v7 v8 v10 v11 v12 v13 v14 v15 v16 v17 v18 v19 v20 v21 v22 v23 v24 v25 v26 v27 v28 v29 v30 v31 v32 v33 v34 v35 v36 v37 v38 v39 v40 v41 v42 v43 v44 v45 v46 v47 v48 v49 v50 v51 v52 v53 v54 v55 v56 v57 v58 v59 v60 v61 v62 v63 v64 v65 v66 v67 v68 v69 v70 v71 v72 v73 v74 v75 v76 v77 v78 v79 v80 v81 v82 v83 v84 v85 v86 v87 v88 v89 v90 v91 v92 v93 v94 v95 v96 v97 v98 v99 v100 v101 v102 v103 v104 v105 v106 v107 v108 v109 v110 v111 v112 v113 v114 v115 v116 v117 v118 v119 v120 v121 v122 v123 v124 v125 v126 v127 v128 v129 v130 v131 v132 : Value} (hN : Aside0 (∀ (n79 n80 n81 n82 n83 n84 n85 n86 n87 n88 n89 n90 n91 n92 n93 n94 : Value) (l' : List Int) (w' : World), Aside0 (SrtE W w' g n l0 l') → Q .normal ⟨#[.slice (some ⟨g, 0, none⟩) n c, v1, v2, v3, v4, v5, v6, v7, v8, .int .i64 (j : Int), v10, v11, v12, v13, v14, v15, v16, v17, v18, v19, v20, v21, v22, v23, v24, v25, v26, v27, v28, v29, v30, v31, v32, v33, v34, v35, v36, v37, v38, v39, v40, v41, v42, v43, v44, v45, v46, v47, v48, v49, v50, v51, v52, v53, v54, v55, v56, v57, v58, v59, v60, v61, v62, v63, v64, v65, v66, v67, v68, v69, v70, v71, v72, v73, v74, v75, v76, v77, v78, n79, n80, n81, n82, n83, n84, n85, n86, n87, n88, n89, n90, n91, n92, n93, n94, v95, v96, v97, v98, v99, v100, v101, v102, v103, v104, v105, v106, v107, v108, v109, v110, v111, v112, v113, v114, v115, v116, v117, v118, v119, v120, v121, v122, v123, v124, v125, v126, v127, v128, v129, v130, v131, v132], []⟩ w')) :
    Code.wp Tryz.prog sw17C Q ⟨#[.slice (some ⟨g, 0, none⟩) n c, v1, v2, v3, v4, v5, v6, v7, v8, .int .i64 (j : Int), v10, v11, v12, v13, v14, v15, v16, v17, v18, v19, v20, v21, v22, v23, v24, v25, v26, v27, v28, v29, v30, v31, v32, v33, v34, v35, v36, v37, v38, v39, v40, v41, v42, v43, v44, v45, v46, v47, v48, v49, v50, v51, v52, v53, v54, v55, v56, v57, v58, v59, v60, v61, v62, v63, v64, v65, v66, v67, v68, v69, v70, v71, v72, v73, v74, v75, v76, v77, v78, v79, v80, v81, v82, v83, v84, v85, v86, v87, v88, v89, v90, v91, v92, v93, v94, v95, v96, v97, v98, v99, v100, v101, v102, v103, v104, v105, v106, v107, v108, v109, v110, v111, v112, v113, v114, v115, v116, v117, v118, v119, v120, v121, v122, v123, v124, v125, v126, v127, v128, v129, v130, v131, v132], []⟩ w := by
  have hjy : IntKind.i64.wrap ((j : Int) - 1) = (j1 : Int) := (iw _).trans hjw
  have y0 := HS.out.row.cell j hjn
  obtain ⟨x0, hx0⟩ : ∃ x, l.getD j 0 = x := ⟨_, rfl⟩
  rw [hx0] at y0
  have f0 := HS.out.row.froz j
  have y1 := HS.out.row.cell j1 hj1n
  obtain ⟨x1, hx1⟩ : ∃ x, l.getD j1 0 = x := ⟨_, rfl⟩
  rw [hx1] at y1
  have f1 := HS.out.row.froz j1
  have y2 : ((w.setCell ⟨g, j, none⟩ (.int .i32 x1)).drew).cell? ⟨g, j1, none⟩ = some (.int .i32 x1) := HS.out.row.after hjn hj1n hx1 0
  have f2 : ((w.setCell ⟨g, j, none⟩ (.int .i32 x1)).drew).frozen? ⟨g, j1, none⟩ = false := (HS.out.row.set j hjn x1).froz j1
  have h := HS.out.swap j j1 1 hjn hj1n
  rw [hx0, hx1] at h
  have HX := Aside0.mk h
  clear h hx0 hx1 HS
  refine Code.wp_mono (Q := onlyNormal Q) (fun e a w h => only_normal h) ?_
  conv => arg 2; whnf
  conv => arg 4; zeta
  go_region
  exact hN.out _ _ _ _ _ _ _ _ _ _ _ _ _ _ _ _ _ _ HX
noncomputable def sw23C : Code := pth [true, true, false, true, false, false, true, false, false, true, true, true, true, true, true, false, true, false, false, true, false, false, true] (Tryz.f86.body.getD .skip)
set_option maxHeartbeats 16000000 in
set_option maxRecDepth 100000 in
theorem sw23 (W w : World) (g n c j j1 : Nat) (l0 l : List Int) (HS : Aside0 (SrtE W w g n l0 l)) (hjw : wrap64 ((j : Int) - 1) = (j1 : Int)) (hn : n ≤ 1000000000) (hjn : j < n) (hj1n : j1 < n) (h1 : (1 : Int) ≤ (j : Int))
    {Q : Exit → Act → World → Prop} {v1 v2 v3 v4 v5 v6 v7 v8 v9 v11 v12 v13 v14 v15 v16 v17 v18 v19 v20 v21 v22 v23 v24 v25 v26 v27 v28 v29 v30 v31 v32 v33 v34 v35 v36 v37 v38 v39 v40 v41 v42 v43 v44 v45 v46 v47 v48 v49 v50 v51 v52 v53 v54 v55 v56 v57 v58 v59 v60 v61 v62 v63 v64 v65 v66 v67 v68 v69 v70 v71 v72 v73 v74 v75 v76 v77 v78 v79 v80 v81 v82 v83 v84 v85 v86 v87 v88 v89 v90 v91 v92 v93 v94 v95 v96 v97 v98 v99 v100 v101 v102 v103 v104 v105 v106 v107 v108 v109 v110 v111 v112 v113 v114 v115 v116 v117 v118 v119 v120 v121 v122 v123 v124 v125 v126 v127 v128 v129 v130 v131 v132 : Value} (hN : Aside0 (∀ (n117 n118 n119 n120 n121 n122 n123 n124 n125 n126 n127 n128 n129 n130 n131 n132 : Value) (l' : List Int) (w' : World), Aside0 (SrtE W w' g n l0 l') → Q .normal ⟨#[.slice (some ⟨g, 0, none⟩) n c, v1, v2, v3, v4, v5, v6, v7, v8, v9, .int .i64 (j : Int), v11, v12, v13, v14, v15, v16, v17, v18, v19, v20, v21, v22, v23, v24, v25, v26, v27, v28, v29, v30, v31, v32, v33, v34, v35, v36, v37, v38, v39, v40, v41, v42, v43, v44, v45, v46, v47, v48, v49, v50, v51, v52, v53, v54, v55, v56, v57, v58, v59, v60, v61, v62, v63, v64, v65, v66, v67, v68, v69, v70, v71, v72, v73, v74, v75, v76, v77, v78, v79, v80, v81, v82, v83, v84, v85, v86, v87, v88, v89, v90, v91, v92, v93, v94, v95, v96, v97, v98, v99, v100, v101, v102, v103, v104, v105, v106, v107, v108, v109, v110, v111, v112, v113, v114, v115, v116, n117, n118, n119, n120, n121, n122, n123, n124, n125, n126, n127, n128, n129, n130, n131, n132], []⟩ w')) :
    Code.wp Tryz.prog sw23C Q ⟨#[.slice (some ⟨g, 0, none⟩) n c, v1, v2, v3, v4, v5, v6, v7, v8, v9, .int .i64 (j : Int), v11, v12, v13, v14, v15, v16, v17, v18, v19, v20, v21, v22, v23, v24, v25, v26, v27, v28, v29, v30, v31, v32, v33, v34, v35, v36, v37, v38, v39, v40, v41, v42, v43, v44, v45, v46, v47, v48, v49, v50, v51, v52, v53, v54, v55, v56, v57, v58, v59, v60, v61, v62, v63, v64, v65, v66, v67, v68, v69, v70, v71, v72, v73, v74, v75, v76, v77, v78, v79, v80, v81, v82, v83, v84, v85, v86, v87, v88, v89, v90, v91, v92, v93, v94, v95, v96, v97, v98, v99, v100, v101, v102, v103, v104, v105, v106, v107, v108, v109, v110, v111, v112, v113, v114, v115, v116, v117, v118, v119, v120, v121, v122, v123, v124, v125, v126, v127, v128, v129, v130, v131, v132], []⟩ w := by
  have hjy : IntKind.i64.wrap ((j : Int) - 1) = (j1 : Int) := (iw _).trans hjw
  have y0 := HS.out.row.cell j hjn
  obtain ⟨x0, hx0⟩ : ∃ x, l.getD j 0 = x := ⟨_, rfl⟩
  rw [hx0] at y0
  have f0 := HS.out.row.froz j
  have y1 := HS.out.row.cell j1 hj1n
  obtain ⟨x1, hx1⟩ : ∃ x, l.getD j1 0 = x := ⟨_, rfl⟩
  rw [hx1] at y1
  have f1 := HS.out.row.froz j1
  have y2 : ((w.setCell ⟨g, j, none⟩ (.int .i32 x1)).drew).cell? ⟨g, j1, none⟩ = some (.int .i32 x1) := HS.out.row.after hjn hj1n hx1 0
  have f2 : ((w.setCell ⟨g, j, none⟩ (.int .i32 x1)).drew).frozen? ⟨g, j1, none⟩ = false := (HS.out.row.set j hjn x1).froz j1
  have h := HS.out.swap j j1 1 hjn hj1n
  rw [hx0, hx1] at h
  have HX := Aside0.mk h
  clear h hx0 hx1 HS
  refine Code.wp_mono (Q := onlyNormal Q) (fun e a w h => only_normal h) ?_
  conv => arg 2; whnf
  conv => arg 4; zeta
  go_region
  exact hN.out _ _ _ _ _ _ _ _ _ _ _ _ _ _ _ _ _ _ HX
end Go.Proofs.YtaejkbjepbifcabGreatDoor.So
