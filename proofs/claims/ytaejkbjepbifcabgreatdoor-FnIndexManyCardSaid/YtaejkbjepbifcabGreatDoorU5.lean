/- The walks over tries and what they compute: part 5 of several, put together by a program. -/
import Derived.Test.YtaejkbjepbifcabGreatDoorU4
import Derived.Laws.CopyRow
import Derived.LaidEql
import Derived.StillTailTactics
import Derived.Deep.QuietTactic
import Derived.BigQuiet
import Derived.Deep.RegionWith
import Derived.Test.YtaejkbjepbifcabGreatDoorShelf
import Derived.LoopN
import Derived.Lib.EndianBits
import Derived.Lib.Buffer
import Derived.Test.YtaejkbjepbifcabGreatDoorU0
import Derived.Test.YtaejkbjepbifcabGreatDoorU1
import Derived.Test.YtaejkbjepbifcabGreatDoorU2
import Derived.Laws.Rows
import Derived.Laws.MakeOwn
import Derived.Maps.RangeWalk
import Derived.Maps.OwnSet
import Derived.Test.YtaejkbjepbifcabGreatDoorRows
import Derived.LaidLaws
import Derived.LaidMore
import Derived.Stop.ErrReads
import Derived.RowKitTokens
namespace Go.Proofs.YtaejkbjepbifcabGreatDoor.Num
open Go.RowKit Go.Proofs.YtaejkbjepbifcabGreatDoorW.PrintWords Go.Proofs.YtaejkbjepbifcabGreatDoor.Plain
set_option linter.unusedVariables false

abbrev rdr (a : Option Addr) (n c i : Nat) (pr : Int) : Obj := .cells #[.slice a n c, .int .i64 i, .int .i64 pr] 87 (0, 0)
def u8s (l : List Int) : List Value := l.map (Value.int .u8)
theorem cells_at {w : World} {b : Nat} {cs : Array Value} {t : TypeId} (h : w.heap[b]? = some (.cells cs t (0, 0))) (i : Nat) (v : Value) (hv : cs[i]? = some v) : w.cell? ⟨b, i, none⟩ = some v := by
  unfold World.cell?; simp [h, hv]
theorem froz_at {w : World} {b : Nat} {cs : Array Value} {t : TypeId} (h : w.heap[b]? = some (.cells cs t (0, 0))) (i : Nat) : w.frozen? ⟨b, i, none⟩ = false := by
  unfold World.frozen?; simp [h]
theorem heap_drewN (w : World) (n : Nat) : (w.drewN n).heap = w.heap := rfl
theorem size_setCell (w : World) (p : Addr) (v : Value) : (w.setCell p v).heap.size = w.heap.size := by simp [World.setCell]
theorem int_info : (Tryz.prog.info? 5).map (·.size) = some 1 := by kernel_rfl

def Env (w w' : World) : Prop := w'.os = w.os ∧ w'.tape = w.tape ∧ w'.output = w.output
theorem Env.trans {a b c : World} (h : Env a b) (k : Env b c) : Env a c := ⟨k.1.trans h.1, k.2.1.trans h.2.1, k.2.2.trans h.2.2⟩
structure Kp (w w' : World) (S : Nat → Prop) : Prop where
  size : w.heap.size ≤ w'.heap.size
  old : ∀ i, i < w.heap.size → ¬ S i → w'.heap[i]? = w.heap[i]?
  env : Env w w'
theorem Kp.ofN {w W : World} {S : Nat → Prop} {q : Nat} (h : Kp (w.drewN q) W S) : Kp w W S := ⟨h.1, h.2, h.3⟩
theorem Kp.toN {w W : World} {S : Nat → Prop} (h : Kp w W S) (q : Nat) : Kp w (W.drewN q) S := ⟨h.1, h.2, h.3⟩
theorem C_cells {k : IntKind} {w : World} {a : Addr} {n : Nat} {xs : List Int} (h : (Kd.int k).C w (some a) n xs) (j : Nat) (x : Int) (hj : xs[j]? = some x) : w.cell? (a.add j) = some (.int k x) := by
  have hlt : j < n := by rw [← h.1]; exact (List.getElem?_eq_some_iff.1 hj).1
  obtain ⟨ad, e, hc⟩ := h.2.2 (by omega)
  obtain rfl := Option.some.inj e
  obtain ⟨c, _, hK, hu⟩ := hc j x hj
  have hK' : c = [.int k x] := hK
  subst hK'
  have := hu 0 _ rfl
  have e1 : (Kd.int k).sz = 1 := rfl
  rwa [e1, Nat.mul_one, Nat.add_zero] at this
theorem add_add (a : Addr) (i j : Nat) : (a.add i).add j = a.add (i + j) := by
  unfold Addr.add
  by_cases h1 : i = 0 <;> by_cases h2 : j = 0 <;> simp [h1, h2] <;> omega
theorem add_block (a : Addr) (i : Nat) : (a.add i).block = a.block := by unfold Addr.add; split <;> rfl

set_option maxHeartbeats 2000000 in
set_option maxRecDepth 100000 in
theorem read_some (w : World) (r d : Nat) (a : Addr) (n c m cm i : Nat) (pr : Int) (data : List Int) (ds : Array Value)
    (hr : w.heap[r]? = some (rdr (some a) n c i pr)) (hC : (Kd.int .u8).C w (some a) n data) (hi : i < n) (hnc : n ≤ c) (hn : n ≤ 1000000000000)
    (hd : w.heap[d]? = some (.cells ds 5 (0, 0))) (hds : ds.size = m) (hm : 0 < m) (hmm : m ≤ 1000000000000) (hrd : r ≠ d) (hra : r ≠ a.block) (hda : d ≠ a.block) :
    Calls Tryz.prog 130 #[.pointer (some ⟨r, 0, none⟩), .slice (some ⟨d, 0, none⟩) m cm] w fun e w' =>
      e = .returned (.tuple #[.int .i64 ((min m (n - i) : Nat) : Int), .nilIface]) ∧ Kp w w' (fun b => b = r ∨ b = d) ∧ w'.heap[r]? = some (rdr (some a) n c (i + min m (n - i)) (-1)) ∧
      w'.heap[d]? = some (.cells (u8s ((data.drop i).take m) ++ ds.toList.drop (min m (n - i))).toArray 5 (0, 0)) := by
  have c0 := cells_at hr 0 _ rfl
  have c1 := cells_at hr 1 _ rfl
  have c2 := cells_at hr 2 _ rfl
  have f1 := froz_at hr 1
  have f2 := froz_at hr 2
  have hlt : ¬ ((i : Int) ≥ (n : Int)) := by omega
  have hci : ¬ c = i := by omega
  have p1 : (0 : Int) ≤ i := by omega
  have p2 : (i : Int) ≤ n := by omega
  go_enter Tryz.func130, Tryz.ntmps130
  have hle : decide (n ≤ i) = false := decide_eq_false (by omega)
  go_wp2
  go_quiet (fail)
  go_wp2
  obtain ⟨X, hX⟩ : ∃ X, X = (w.drewN nq).setCell ⟨r, 2, none⟩ (.int .i64 (-1)) := ⟨_, rfl⟩
  rw [← hX]
  have hr1 : X.heap[r]? = some (rdr (some a) n c i (-1)) := by
    rw [hX]; exact blk_put (by rw [heap_drewN]; exact hr) 2 _ rfl
  have hd1 : X.heap[d]? = some (.cells ds 5 (0, 0)) := by
    rw [hX]; exact blk_far (by rw [heap_drewN]; exact hd) (Ne.symm hrd) _
  have HX := Aside0.mk hX
  clear hX c0 c1 c2 f1 f2
  have c0 := cells_at hr1 0 _ rfl
  have c1 := cells_at hr1 1 _ rfl
  have hdr : ∀ p, X.drew.cell? p = X.cell? p := fun p => by simp
  go_still_tail 10, (by kernel_rfl)
  obtain ⟨Y, hY⟩ : ∃ Y, Y = X.drew := ⟨_, rfl⟩
  have hY' : ({ heap := X.heap, tape := X.tape, drawn := X.drawn + 1, os := X.os, output := X.output } : World) = Y := hY.symm
  rw [hY']
  have hYh : Y.heap = X.heap := by rw [hY]; rfl
  have hYe : Env X Y := by rw [hY]; exact ⟨rfl, rfl, rfl⟩
  have HYe := Aside0.mk hYe
  clear hY hY' hdr c0 c1 hYe
  have hk : (u8s ((data.drop i).take m)).length = min m (n - i) := by
    have := hC.1
    simp [u8s, this]
  obtain ⟨Z, hZ⟩ : ∃ Z, Z = Y.setRow d (ds.toList.take 0 ++ u8s ((data.drop i).take m) ++ ds.toList.drop (0 + (u8s ((data.drop i).take m)).length)).toArray := ⟨_, rfl⟩
  have hcp := run_copy_row (P := Tryz.prog) Y 46 46 3 5 d 0 m cm (a.add i) (n - i) (c - i) ds 5 (u8s ((data.drop i).take m)) Tryz.underlying46 int_info
    (by rw [hYh]; exact hd1) (by rw [hk]; exact Nat.min_comm _ _) (fun j v hj => by
      rw [u8s, List.getElem?_map] at hj
      obtain ⟨x, hx, rfl⟩ := Option.map_eq_some_iff.1 hj
      rw [List.getElem?_take] at hx
      split at hx
      · rw [List.getElem?_drop] at hx
        rw [add_add]
        have h_ : Y.heap[a.block]? = w.heap[a.block]? := by
          rw [hYh, HX.out, Below.heap_setCell _ _ _ _ (Ne.symm hra), heap_drewN]
        have hb := add_block a (i + j)
        have := C_cells hC (i + j) x hx
        unfold World.cell? at this ⊢
        rw [hb] at this ⊢
        rw [h_]
        exact this
      · cases hx) (by rw [hk, hds]; omega) (fun v hv => by
      simp only [u8s, List.mem_map] at hv
      obtain ⟨x, _, rfl⟩ := hv
      rfl)
  rw [← hZ, hk] at hcp
  have hZr : Z.heap[r]? = some (rdr (some a) n c i (-1)) := by rw [hZ, setRow_other _ _ _ _ hrd, hYh]; exact hr1
  have hZd : Z.heap[d]? = some (.cells (u8s ((data.drop i).take m) ++ ds.toList.drop (min m (n - i))).toArray 5 (0, 0)) := by
    rw [hZ, setRow_heap _ _ _ _ _ _ (by rw [hYh]; exact hd1), hk]; simp
  have HZ := Aside0.mk hZ
  have HEnv : Aside0 (Env w Z) := ⟨(show Env w X by rw [HX.out]; exact ⟨rfl, rfl, rfl⟩).trans (HYe.out.trans (by rw [hZ]; exact ⟨rfl, rfl, rfl⟩))⟩
  have HY := Aside0.mk hYh
  clear hZ hYh
  have c1 := cells_at hZr 1 _ rfl
  have f1 := froz_at hZr 1
  go_wp2
  go_ret2
  refine ⟨rfl, ⟨?_, fun b hb hS => ?_, HEnv.out.trans ⟨rfl, rfl, rfl⟩⟩, ?_, ?_⟩
  · rw [size_setCell, HZ.out, size_setRow, HY.out, HX.out, size_setCell, heap_drewN]; exact Nat.le_refl _
  · have hb1 : b ≠ r := fun e => hS (.inl e)
    have hb2 : b ≠ d := fun e => hS (.inr e)
    rw [Below.heap_setCell _ _ _ _ hb1, HZ.out, setRow_other _ _ _ _ hb2, HY.out, HX.out, Below.heap_setCell _ _ _ _ hb1, heap_drewN]
  · exact blk_put hZr 1 _ (by rw [show ((i + min m (n - i) : Nat) : Int) = (i : Int) + (min m (n - i) : Nat) by omega]; rfl)
  · exact blk_far hZd (Ne.symm hrd) _

theorem drewN_add (w : World) (a b : Nat) : (w.drewN a).drewN b = w.drewN (a + b) := by simp [World.drewN, Nat.add_assoc]
theorem blk_lt_cell {w : World} {p : Addr} {v : Value} (h : w.cell? p = some v) : p.block < w.heap.size := by
  rcases Nat.lt_or_ge p.block w.heap.size with h' | h'
  · exact h'
  · unfold World.cell? at h; simp [Array.getElem?_eq_none h'] at h
structure Snt (w : World) : Prop where
  eof : ∃ a, w.cell? ⟨1, 0, none⟩ = some (.iface 110 (.pointer (some a)))
  bad : ∃ t x, w.cell? ⟨2, 0, none⟩ = some (.iface t x)
theorem cell_block {w X : World} {p : Addr} (h : X.heap[p.block]? = w.heap[p.block]?) : X.cell? p = w.cell? p := by
  unfold World.cell?; rw [h]
theorem Snt.move {w w' : World} (h : Snt w) (h1 : w'.heap[1]? = w.heap[1]?) (h2 : w'.heap[2]? = w.heap[2]?) : Snt w' :=
  ⟨by obtain ⟨a, ha⟩ := h.eof; exact ⟨a, (cell_block (p := ⟨1, 0, none⟩) h1).trans ha⟩, by obtain ⟨t, x, ha⟩ := h.bad; exact ⟨t, x, (cell_block (p := ⟨2, 0, none⟩) h2).trans ha⟩⟩

set_option maxHeartbeats 2000000 in
set_option maxRecDepth 100000 in
theorem read_eof (w : World) (r : Nat) (A B : Option Addr) (n c m cm : Nat) (pr : Int) (hs : Snt w) (hr : w.heap[r]? = some (rdr A n c n pr)) :
    Calls Tryz.prog 130 #[.pointer (some ⟨r, 0, none⟩), .slice B m cm] w fun e w' =>
      ∃ a, e = .returned (.tuple #[.int .i64 0, .iface 110 (.pointer (some a))]) ∧ w.cell? ⟨1, 0, none⟩ = some (.iface 110 (.pointer (some a))) ∧ ∃ q, w' = w.drewN q := by
  have c0 := cells_at hr 0 _ rfl
  have c1 := cells_at hr 1 _ rfl
  obtain ⟨aE, hE⟩ := hs.eof
  go_enter Tryz.func130, Tryz.ntmps130
  go_wp2
  go_quiet (fail)
  go_wp2
  go_quiet (fail)
  go_wp2
  go_ret2
  exact ⟨aE, rfl, hE, _, drewN_add _ _ _⟩

theorem rd_ahead (a : Addr) (w : World) : (nilAhead 282 58 (.pointer (some a)) "Read").run Tryz.prog w = .ok (some false) w := by kernel_rfl
theorem rd_method (a : Addr) (w : World) : (method 282 58 (.pointer (some a)) "Read").run Tryz.prog w = .ok (130, .pointer (some a)) w := by kernel_rfl
set_option maxHeartbeats 2000000 in
set_option maxRecDepth 100000 in
theorem atLeast_full (w : World) (r d : Nat) (a : Addr) (n c m i : Nat) (pr : Int) (data : List Int) (ds : Array Value)
    (hr : w.heap[r]? = some (rdr (some a) n c i pr)) (hC : (Kd.int .u8).C w (some a) n data) (hi : i + m ≤ n) (hnc : n ≤ c) (hn : n ≤ 1000000000000)
    (hd : w.heap[d]? = some (.cells ds 5 (0, 0))) (hds : ds.size = m) (hm : 0 < m) (hrd : r ≠ d) (hra : r ≠ a.block) (hda : d ≠ a.block) :
    Calls Tryz.prog 76 #[.iface 58 (.pointer (some ⟨r, 0, none⟩)), .slice (some ⟨d, 0, none⟩) m m, .int .i64 m] w fun e w' =>
      e = .returned (.tuple #[.int .i64 m, .nilIface]) ∧ Kp w w' (fun b => b = r ∨ b = d) ∧ w'.heap[r]? = some (rdr (some a) n c (i + m) (-1)) ∧
      w'.heap[d]? = some (.cells (u8s ((data.drop i).take m)).toArray 5 (0, 0)) := by
  have hk : min m (n - i) = m := by omega
  have C1 := Aside0.mk fun (q : Nat) => read_some (w.drewN q) r d a n c m m i pr data ds hr (Kd.C_drewN hC q) (by omega) hnc hn hd hds hm (by omega) hrd hra hda
  simp only [hk] at C1
  have hdl : ds.toList.drop m = [] := List.drop_eq_nil_of_le (by simp [hds])
  simp only [hdl, List.append_nil] at C1
  clear hdl hk hr hC hd hnc
  have p0 : ¬ (m : Int) < m := by omega
  have p1 : (0 : Int) < m := by omega
  have p2 : m ≤ 1000000000000 := by omega
  have n1 := rd_ahead
  have n2 := rd_method
  go_enter Tryz.func76, Tryz.ntmps76
  go_wp2
  go_loopg [6, 7] 1 (fun kq v6 v7 w' => (kq = 1 ∧ v6 = .int .i64 0 ∧ v7 = .nilIface ∧ Aside0 (w' = w)) ∨ (kq = 0 ∧ v6 = .int .i64 m ∧ v7 = .nilIface ∧ Aside0 (Kp w w' (fun b => b = r ∨ b = d) ∧ w'.heap[r]? = some (rdr (some a) n c (i + m) (-1)) ∧ w'.heap[d]? = some (.cells (u8s ((data.drop i).take m)).toArray 5 (0, 0)))))
  case atStart => exact .inl ⟨rfl, rfl, rfl, ⟨rfl⟩⟩
  case round =>
    rcases hrel with ⟨hq, rfl, rfl, hw⟩ | ⟨hq, rfl, rfl, HP⟩
    · obtain ⟨hw⟩ := hw
      subst hw
      have d1 : decide ((0 : Int) < (m : Int)) = true := decide_eq_true p1
      go_wp2_with fail
      go_region_with ((go_at_call 130; refine (C1.out _).mono ?_; rintro _ W2 ⟨rfl, HP_⟩; have HP := Aside0.mk HP_; clear HP_))
      go_wp2_with fail
      subst hq
      go_roundg 0
      case measure => omega
      case rel => exact .inr ⟨rfl, rfl, rfl, ⟨HP.out.1.ofN, HP.out.2⟩⟩
    · go_wp2_with fail
      go_ret2
      exact ⟨rfl, HP.out⟩

def Short (w : World) (S : Nat → Prop) (k : Nat) (e : Ending) (w' : World) : Prop := ∃ t x, e = .returned (.tuple #[.int .i64 (k : Int), .iface t x]) ∧ Kp w w' S
theorem err_comp : (Tryz.prog.info? 110).map (·.comparable) = some true := by kernel_rfl
theorem err_size : (Tryz.prog.info? 112).map (·.size) = some 1 := by kernel_rfl
theorem eof_eq (a : Addr) (w : World) : (binOp .eql 55 (.iface 110 (.pointer (some a))) (.iface 110 (.pointer (some a)))).run Tryz.prog w = .ok (.bool true) w := by
  obtain ⟨i, hi, hcmp⟩ := Option.map_eq_some_iff.1 err_comp
  obtain ⟨j, hj, _⟩ := Option.map_eq_some_iff.1 err_size
  exact run_eql_iface_ptr_same w a Tryz.underlying55 Tryz.underlying110 hi hcmp hj

set_option maxHeartbeats 4000000 in
set_option maxRecDepth 100000 in
theorem atLeast_short (w : World) (r d : Nat) (A : Option Addr) (n c m i : Nat) (pr : Int) (data : List Int) (ds : Array Value) (hs : Snt w)
    (hr : w.heap[r]? = some (rdr A n c i pr)) (hC : (Kd.int .u8).C w A n data) (hi : n < i + m) (hin : i ≤ n) (hnc : n ≤ c) (hn : n ≤ 1000000000000)
    (hd : w.heap[d]? = some (.cells ds 5 (0, 0))) (hds : ds.size = m) (hm : 0 < m) (hmm : m ≤ 1000000000000) (hrd : r ≠ d) (hra : ∀ a, A = some a → 0 < n → r ≠ a.block ∧ d ≠ a.block)
    (hg : 1 ≠ r ∧ 1 ≠ d ∧ 2 ≠ r ∧ 2 ≠ d) :
    Calls Tryz.prog 76 #[.iface 58 (.pointer (some ⟨r, 0, none⟩)), .slice (some ⟨d, 0, none⟩) m m, .int .i64 m] w (Short w (fun b => b = r ∨ b = d) (n - i)) := by
  have n1 := rd_ahead
  have n2 := rd_method
  have n3 := eof_eq
  obtain ⟨aE, hE⟩ := hs.eof
  obtain ⟨tb, xb, hbad⟩ := hs.bad
  have HS := Aside0.mk hs
  have HR := Aside0.mk hr
  have HC := Aside0.mk hC
  have HD := Aside0.mk hd
  have HE := Aside0.mk hE
  have HBad := Aside0.mk hbad
  have HG := Aside0.mk hg
  have HRA := Aside0.mk hra
  clear hs hr hC hd hE hbad hg hra
  have p0 : ¬ (m : Int) < m := by omega
  have p1 : (0 : Int) < m := by omega
  go_enter Tryz.func76, Tryz.ntmps76
  go_wp2
  go_loopg [6, 7] 2 (fun kq v6 v7 w' => (kq = 2 ∧ v6 = .int .i64 0 ∧ v7 = .nilIface ∧ Aside0 (w' = w)) ∨ (kq = 1 ∧ v6 = .int .i64 ((n - i : Nat) : Int) ∧ v7 = .nilIface ∧ Aside0 (Kp w w' (fun b => b = r ∨ b = d) ∧ w'.heap[r]? = some (rdr A n c n (-1)))) ∨
    (kq = 0 ∧ v6 = .int .i64 ((n - i : Nat) : Int) ∧ v7 = .iface 110 (.pointer (some aE)) ∧ Aside0 (Kp w w' (fun b => b = r ∨ b = d))))
  case atStart => exact .inl ⟨rfl, rfl, rfl, ⟨rfl⟩⟩
  case round =>
    rcases hrel with ⟨hq, rfl, rfl, hw⟩ | ⟨hq, rfl, rfl, HP⟩ | ⟨hq, rfl, rfl, HP⟩
    · obtain ⟨hw⟩ := hw
      subst hw
      have d1 : decide ((0 : Int) < (m : Int)) = true := decide_eq_true p1
      by_cases hlt : i < n
      · obtain ⟨a, rfl⟩ : ∃ a, A = some a := by
          obtain ⟨a, e, _⟩ := HC.out.2.2 (by omega)
          exact ⟨a, e⟩
        have C1 := Aside0.mk fun (q : Nat) => read_some (wr.drewN q) r d a n c m m i pr data ds HR.out (Kd.C_drewN HC.out q) hlt hnc hn HD.out hds hm hmm hrd (HRA.out a rfl (by omega)).1 (HRA.out a rfl (by omega)).2
        simp only [show min m (n - i) = n - i by omega, show i + (n - i) = n by omega] at C1
        go_wp2_with fail
        go_region_with ((go_at_call 130; refine (C1.out _).mono ?_; rintro _ W2 ⟨rfl, HP_⟩; have HP := Aside0.mk HP_; clear HP_))
        go_wp2_with fail
        subst hq
        go_roundg 1
        case measure => omega
        case rel => exact .inr (.inl ⟨rfl, rfl, rfl, ⟨HP.out.1.ofN, HP.out.2.1⟩⟩)
      · obtain rfl : i = n := by omega
        have C1 := Aside0.mk fun (q : Nat) => read_eof (wr.drewN q) r A (some ⟨d, 0, none⟩) i c m m pr (HS.out.move rfl rfl) HR.out
        go_wp2_with fail
        go_region_with ((go_at_call 130; refine (C1.out _).mono ?_; rintro _ W2 ⟨a9, rfl, ha9, HP_⟩; have HP := Aside0.mk HP_; have HA := Aside0.mk ha9; clear HP_ ha9))
        obtain rfl : a9 = aE := by
          have h_ := HA.out
          have h2_ : wr.cell? ⟨1, 0, none⟩ = _ := h_
          rw [HE.out] at h2_
          simpa using h2_.symm
        go_wp2_with fail
        subst hq
        go_roundg 0
        case measure => omega
        case rel =>
          refine .inr (.inr ⟨rfl, by rw [Nat.sub_self]; rfl, rfl, ⟨?_⟩⟩)
          obtain ⟨q, hq⟩ := HP.out
          rw [hq]
          exact ⟨Nat.le_refl _, fun _ _ _ => rfl, rfl, rfl, rfl⟩
    · have hlt : ((n - i : Nat) : Int) < m := by omega
      have d1 : decide (((n - i : Nat) : Int) < (m : Int)) = true := decide_eq_true hlt
      have hS : Snt wr := HS.out.move (HP.out.1.2 _ (blk_lt_cell HE.out) (by rintro (h | h); exact HG.out.1 h; exact HG.out.2.1 h)) (HP.out.1.2 _ (blk_lt_cell HBad.out) (by rintro (h | h); exact HG.out.2.2.1 h; exact HG.out.2.2.2 h))
      have HE2 : Aside0 (wr.cell? ⟨1, 0, none⟩ = some (.iface 110 (.pointer (some aE)))) := ⟨(cell_block (HP.out.1.2 _ (blk_lt_cell HE.out) (by rintro (h | h); exact HG.out.1 h; exact HG.out.2.1 h))).trans HE.out⟩
      obtain ⟨k, hk⟩ : ∃ k, k = n - i := ⟨_, rfl⟩
      have p2 : k ≤ m := by omega
      have HK := Aside0.mk hk
      rw [← hk] at hlt d1 ⊢
      have p3 : (k : Int) ≤ m := by omega
      have p4 : ¬ m = k := by omega
      have HS2 := Aside0.mk hS
      clear hS hk
      have p6 : (0 : Int) ≤ k := by omega
      have C1 := Aside0.mk fun (q : Nat) (B : Option Addr) (x y : Nat) => read_eof (wr.drewN q) r A B n c x y (-1) (HS2.out.move rfl rfl) HP.out.2
      go_wp2_with fail
      go_region_with ((go_at_call 130; refine (C1.out _ _ _ _).mono ?_; rintro _ W2 ⟨a9, rfl, ha9, HP_⟩; have HP2 := Aside0.mk HP_; have HA := Aside0.mk ha9; clear HP_ ha9))
      obtain rfl : a9 = aE := by
        have h_ := HA.out
        have h2_ : wr.cell? ⟨1, 0, none⟩ = _ := h_
        rw [HE2.out] at h2_
        simpa using h2_.symm
      go_wp2_with fail
      subst hq
      go_roundg 0
      case measure => omega
      case rel =>
        refine .inr (.inr ⟨rfl, by rw [← HK.out], rfl, ⟨?_⟩⟩)
        obtain ⟨q, hq⟩ := HP2.out
        rw [hq]
        exact (HP.out.1.toN _).toN _
    · obtain ⟨k, hk⟩ : ∃ k, k = n - i := ⟨_, rfl⟩
      have p2 : (k : Int) < m := by omega
      have d1 : decide ((k : Int) < (m : Int)) = true := decide_eq_true p2
      rw [← hk]
      have HK := Aside0.mk hk
      have HU : Aside0 (wr.cell? ⟨2, 0, none⟩ = some (.iface tb xb)) := ⟨(cell_block (HP.out.2 _ (blk_lt_cell HBad.out) (by rintro (h | h); exact HG.out.2.2.1 h; exact HG.out.2.2.2 h))).trans HBad.out⟩
      have HE2 : Aside0 (wr.cell? ⟨1, 0, none⟩ = some (.iface 110 (.pointer (some aE)))) := ⟨(cell_block (HP.out.2 _ (blk_lt_cell HE.out) (by rintro (h | h); exact HG.out.1 h; exact HG.out.2.1 h))).trans HE.out⟩
      have hu := HU.out
      have he := HE2.out
      clear hk
      by_cases h0 : (k : Int) > 0
      · have d2 : decide ((k : Int) > 0) = true := decide_eq_true h0
        go_wp2_with fail
        go_ret2
        exact ⟨_, _, by rw [← HK.out]; rfl, HP.out⟩
      · have d2 : decide ((k : Int) > 0) = false := decide_eq_false h0
        go_wp2_with fail
        go_ret2
        exact ⟨_, _, by rw [← HK.out]; rfl, HP.out⟩
end Go.Proofs.YtaejkbjepbifcabGreatDoor.Num
namespace Go.Proofs.YtaejkbjepbifcabGreatDoor.Num
open Go.RowKit Go.Proofs.YtaejkbjepbifcabGreatDoorW.PrintWords Go.Proofs.YtaejkbjepbifcabGreatDoor.Plain
set_option linter.unusedVariables false

def leb : Nat → Int → List Int
  | 0, _ => []
  | k + 1, u => (u % 256) :: leb k (u / 256)

theorem leb_one (k : Nat) : ∀ u : Int, ∀ x ∈ leb k u, 0 ≤ x ∧ x < 256 := by
  induction k with
  | zero => intro u x hx; cases hx
  | succ k ih =>
    intro u x hx
    rcases List.mem_cons.1 hx with rfl | hx
    · omega
    · exact ih _ x hx
theorem leb_length (k : Nat) : ∀ u : Int, (leb k u).length = k := by
  induction k with
  | zero => intro u; rfl
  | succ k ih => intro u; simp [leb, ih]
theorem u8s_one (l : List Int) : ∀ v ∈ u8s l, v.oneCell' = true := fun v hv => by
  simp only [u8s, List.mem_map] at hv
  obtain ⟨x, _, rfl⟩ := hv
  rfl
theorem leb8 (u : Int) : leb 8 u = [u % 256, u / 256 % 256, u / 65536 % 256, u / 16777216 % 256, u / 4294967296 % 256, u / 1099511627776 % 256, u / 281474976710656 % 256, u / 72057594037927936 % 256] := by
  simp only [leb]
  have h1 : u / 256 / 256 = u / 65536 := by omega
  have h2 : u / 65536 / 256 = u / 16777216 := by omega
  have h3 : u / 16777216 / 256 = u / 4294967296 := by omega
  have h4 : u / 4294967296 / 256 = u / 1099511627776 := by omega
  have h5 : u / 1099511627776 / 256 = u / 281474976710656 := by omega
  have h6 : u / 281474976710656 / 256 = u / 72057594037927936 := by omega
  rw [h1, h2, h3, h4, h5, h6]
theorem leb4 (u : Int) : leb 4 u = [u % 256, u / 256 % 256, u / 65536 % 256, u / 16777216 % 256] := by
  simp only [leb]
  have h1 : u / 256 / 256 = u / 65536 := by omega
  have h2 : u / 65536 / 256 = u / 16777216 := by omega
  rw [h1, h2]
theorem wrapu (v : Int) : IntKind.u64.wrap v = v % 18446744073709551616 := by
  simp [IntKind.wrap, IntKind.bits, IntKind.signed]
theorem bufCarry {T e : TypeId} {B b : Nat} {bs : List Value} {w w' : World} (h : Lib.IsBuffer T e B b bs w) (hb : ∀ k, k < w.heap.size → w'.heap[k]? = w.heap[k]?) : Lib.IsBuffer T e B b bs w' := by
  have hlt := h.lt
  obtain ⟨hB, v, lr, hbk, hown, hne⟩ := h
  refine ⟨hB, v, lr, by rw [hb _ hlt]; exact hbk, ?_, hne⟩
  obtain ⟨h1, h2⟩ := hown
  refine ⟨h1, ?_⟩
  rcases h2 with h2 | ⟨g, cap, cur, h3, h4, h5, h6⟩
  · exact .inl h2
  · exact .inr ⟨g, cap, cur, h3, h4, by rw [hb _ (blk_lt h5)]; exact h5, h6⟩
theorem bufAlloc {T e : TypeId} {B b : Nat} {bs : List Value} {w : World} (h : Lib.IsBuffer T e B b bs w) (x : Obj) : Lib.IsBuffer T e B b bs (w.alloc x) := bufCarry h fun k hk => Below.heap_alloc w x k hk
theorem bufDrewN {T e : TypeId} {B b : Nat} {bs : List Value} {w : World} (h : Lib.IsBuffer T e B b bs w) (n : Nat) : Lib.IsBuffer T e B b bs (w.drewN n) := bufCarry h fun _ _ => rfl
theorem setCell_heap_congr {w W : World} {g : Nat} (h : W.heap[g]? = w.heap[g]?) (o : Nat) (v : Value) : (W.setCell ⟨g, o, none⟩ v).heap[g]? = (w.setCell ⟨g, o, none⟩ v).heap[g]? := by
  simp only [World.setCell, Array.getElem?_modify, h]
theorem bw_method (a : Addr) (w : World) : (method 282 74 (.pointer (some a)) "Write").run Tryz.prog w = .ok (134, .pointer (some a)) w := by kernel_rfl
set_option maxHeartbeats 4000000 in
set_option maxRecDepth 100000 in
theorem write64 (B b : Nat) (bs : List Value) (v : Int) (w : World) (h : Lib.IsBuffer 71 5 B b bs w) (hBw : B ≤ w.heap.size) (h1 : ∀ v ∈ bs, v.oneCell' = true) (hlim : bs.length + 8 ≤ 140737488355328) :
    Calls Tryz.prog 70 #[.iface 74 (.pointer (some ⟨b, 0, none⟩)), .int .i64 v] w fun e w' => e = .returned .nilIface ∧ Lib.IsBuffer 71 5 B b (bs ++ u8s (leb 8 (v % 18446744073709551616))) w' ∧ Below B w w' ∧ Lib.OthersKept 5 (some b) w w' := by
  have n1 := bw_method
  have hmk : ∀ w, (Instr.makeSlice 46 (.int .i64 8) (.int .i64 8)).run Tryz.prog w = .ok (.slice (some ⟨w.heap.size, 0, none⟩) 8 8) (w.alloc (.cells #[.int .u8 0, .int .u8 0, .int .u8 0, .int .u8 0, .int .u8 0, .int .u8 0, .int .u8 0, .int .u8 0] 5)) := fun _ => by kernel_rfl
  go_enter Tryz.func70, Tryz.ntmps70
  go_wp2_with (go_at_call 71; refine (size64 _ _).mono ?_; rintro _ _ ⟨rfl, rfl⟩)
  refine wp_loop_rounds 10 ?_
  iterate 9 (rw [rounds_succ]; go_wp2_with fail)
  have hl := leb8 (IntKind.u64.wrap v)
  have hlt := h.lt
  refine (Tryz.Buffer_Write_any B b bs (u8s (leb 8 (IntKind.u64.wrap v))) ⟨w.heap.size, 0, none⟩ 8 8 _ (bufAlloc h _) (by rw [Own.size_alloc]; omega) h1 (by simp [u8s, leb_length]) (by simp; omega) (fun j v hj => ?_) (u8s_one _) hlim).mono ?_
  · rw [hl] at hj
    have : (⟨w.heap.size, 0, none⟩ : Addr).add j = ⟨w.heap.size, j, none⟩ := by unfold Addr.add; by_cases h : j = 0 <;> simp [h]
    rw [this, Own.alloc_cell]
    simpa [u8s] using hj
  · rintro _ W2 ⟨rfl, hI, hB2, hO2⟩
    have HO2 := Aside0.mk hO2
    clear hO2
    have HI := Aside0.mk hI
    have HB2 := Aside0.mk hB2
    clear hI hB2 hl
    go_wp2_with fail
    go_ret
    exact ⟨rfl, by rw [← wrapu]; exact HI.out, (Below.refl _ _).alloc hBw _ |>.trans HB2.out, fun k o hk hne ht => HO2.out k o (by rw [Below.heap_alloc _ _ _ (blk_lt hk)]; exact hk) hne ht⟩
set_option maxHeartbeats 4000000 in
set_option maxRecDepth 100000 in
theorem write32 (B b : Nat) (bs : List Value) (v : Int) (w : World) (h : Lib.IsBuffer 71 5 B b bs w) (hBw : B ≤ w.heap.size) (h1 : ∀ v ∈ bs, v.oneCell' = true) (hlim : bs.length + 4 ≤ 140737488355328) :
    Calls Tryz.prog 72 #[.iface 74 (.pointer (some ⟨b, 0, none⟩)), .int .i32 v] w fun e w' => e = .returned .nilIface ∧ Lib.IsBuffer 71 5 B b (bs ++ u8s (leb 4 (v % 18446744073709551616))) w' ∧ Below B w w' ∧ Lib.OthersKept 5 (some b) w w' := by
  have n1 := bw_method
  have hmk : ∀ w, (Instr.makeSlice 46 (.int .i64 4) (.int .i64 4)).run Tryz.prog w = .ok (.slice (some ⟨w.heap.size, 0, none⟩) 4 4) (w.alloc (.cells #[.int .u8 0, .int .u8 0, .int .u8 0, .int .u8 0] 5)) := fun _ => by kernel_rfl
  go_enter Tryz.func72, Tryz.ntmps72
  go_wp2_with (go_at_call 73; refine (size32 _ _).mono ?_; rintro _ _ ⟨rfl, rfl⟩)
  refine wp_loop_rounds 6 ?_
  iterate 5 (rw [rounds_succ]; go_wp2_with fail)
  have hl := leb4 (IntKind.u64.wrap v)
  have hlt := h.lt
  refine (Tryz.Buffer_Write_any B b bs (u8s (leb 4 (IntKind.u64.wrap v))) ⟨w.heap.size, 0, none⟩ 4 4 _ (bufAlloc h _) (by rw [Own.size_alloc]; omega) h1 (by simp [u8s, leb_length]) (by simp; omega) (fun j v hj => ?_) (u8s_one _) hlim).mono ?_
  · rw [hl] at hj
    have : (⟨w.heap.size, 0, none⟩ : Addr).add j = ⟨w.heap.size, j, none⟩ := by unfold Addr.add; by_cases h : j = 0 <;> simp [h]
    rw [this, Own.alloc_cell]
    simpa [u8s] using hj
  · rintro _ W2 ⟨rfl, hI, hB2, hO2⟩
    have HO2 := Aside0.mk hO2
    clear hO2
    have HI := Aside0.mk hI
    have HB2 := Aside0.mk hB2
    clear hI hB2 hl
    go_wp2_with fail
    go_ret
    exact ⟨rfl, by rw [← wrapu]; exact HI.out, (Below.refl _ _).alloc hBw _ |>.trans HB2.out, fun k o hk hne ht => HO2.out k o (by rw [Below.heap_alloc _ _ _ (blk_lt hk)]; exact hk) hne ht⟩

open Go.Lib in
theorem or8 {x0 x1 x2 x3 x4 x5 x6 x7 : Int} (l0 : 0 ≤ x0) (m0 : x0 < 256) (l1 : 0 ≤ x1) (m1 : x1 < 256) (l2 : 0 ≤ x2) (m2 : x2 < 256) (l3 : 0 ≤ x3) (m3 : x3 < 256) (l4 : 0 ≤ x4) (m4 : x4 < 256) (l5 : 0 ≤ x5) (m5 : x5 < 256) (l6 : 0 ≤ x6) (m6 : x6 < 256) (l7 : 0 ≤ x7) (m7 : x7 < 256) :
    bits .or .u64 (bits .or .u64 (bits .or .u64 (bits .or .u64 (bits .or .u64 (bits .or .u64 (bits .or .u64 (bits .or .u64 0 x0) (x1 * 256)) (x2 * 65536)) (x3 * 16777216)) (x4 * 4294967296)) (x5 * 1099511627776)) (x6 * 281474976710656)) (x7 * 72057594037927936)
      = x0 + x1 * 256 + x2 * 65536 + x3 * 16777216 + x4 * 4294967296 + x5 * 1099511627776 + x6 * 281474976710656 + x7 * 72057594037927936 := by
  have e0 : bits .or .u64 0 x0 = x0 := by
    have := bits_join_low .u64 64 (by decide) (fun n h0 h1 => wraps_u64 n h0 h1) 0 0 x0 (by omega) (by omega) (by omega) l0 (by omega) (by omega)
    rw [this]; omega
  have e1 : bits .or .u64 x0 (x1 * 256) = x0 + x1 * 256 := u64_or8 _ _ l0 m0 (by omega) (by omega) (by omega)
  have e2 : bits .or .u64 (x0 + x1 * 256) (x2 * 65536) = x0 + x1 * 256 + x2 * 65536 := u64_or16 _ _ (by omega) (by omega) (by omega) (by omega) (by omega)
  have e3 : bits .or .u64 (x0 + x1 * 256 + x2 * 65536) (x3 * 16777216) = x0 + x1 * 256 + x2 * 65536 + x3 * 16777216 := u64_or24 _ _ (by omega) (by omega) (by omega) (by omega) (by omega)
  have e4 : bits .or .u64 (x0 + x1 * 256 + x2 * 65536 + x3 * 16777216) (x4 * 4294967296) = x0 + x1 * 256 + x2 * 65536 + x3 * 16777216 + x4 * 4294967296 := u64_or32 _ _ (by omega) (by omega) (by omega) (by omega) (by omega)
  have e5 : bits .or .u64 (x0 + x1 * 256 + x2 * 65536 + x3 * 16777216 + x4 * 4294967296) (x5 * 1099511627776) = x0 + x1 * 256 + x2 * 65536 + x3 * 16777216 + x4 * 4294967296 + x5 * 1099511627776 := u64_or40 _ _ (by omega) (by omega) (by omega) (by omega) (by omega)
  have e6 : bits .or .u64 (x0 + x1 * 256 + x2 * 65536 + x3 * 16777216 + x4 * 4294967296 + x5 * 1099511627776) (x6 * 281474976710656) = x0 + x1 * 256 + x2 * 65536 + x3 * 16777216 + x4 * 4294967296 + x5 * 1099511627776 + x6 * 281474976710656 := u64_or48 _ _ (by omega) (by omega) (by omega) (by omega) (by omega)
  have e7 : bits .or .u64 (x0 + x1 * 256 + x2 * 65536 + x3 * 16777216 + x4 * 4294967296 + x5 * 1099511627776 + x6 * 281474976710656) (x7 * 72057594037927936) = x0 + x1 * 256 + x2 * 65536 + x3 * 16777216 + x4 * 4294967296 + x5 * 1099511627776 + x6 * 281474976710656 + x7 * 72057594037927936 := u64_or56 _ _ (by omega) (by omega) (by omega) (by omega) (by omega)
  rw [e0, e1, e2, e3, e4, e5, e6, e7]
def valb : List Int → Int
  | [] => 0
  | x :: l => x + 256 * valb l

set_option maxHeartbeats 2000000 in
theorem full_full (w : World) (r d : Nat) (a : Addr) (n c m i : Nat) (pr : Int) (data : List Int) (ds : Array Value)
    (hr : w.heap[r]? = some (rdr (some a) n c i pr)) (hC : (Kd.int .u8).C w (some a) n data) (hi : i + m ≤ n) (hnc : n ≤ c) (hn : n ≤ 1000000000000)
    (hd : w.heap[d]? = some (.cells ds 5 (0, 0))) (hds : ds.size = m) (hm : 0 < m) (hrd : r ≠ d) (hra : r ≠ a.block) (hda : d ≠ a.block) :
    Calls Tryz.prog 60 #[.iface 58 (.pointer (some ⟨r, 0, none⟩)), .slice (some ⟨d, 0, none⟩) m m] w fun e w' =>
      e = .returned (.tuple #[.int .i64 m, .nilIface]) ∧ Kp w w' (fun b => b = r ∨ b = d) ∧ w'.heap[r]? = some (rdr (some a) n c (i + m) (-1)) ∧
      w'.heap[d]? = some (.cells (u8s ((data.drop i).take m)).toArray 5 (0, 0)) := by
  have C1 := Aside0.mk (atLeast_full w r d a n c m i pr data ds hr hC hi hnc hn hd hds hm hrd hra hda)
  clear hr hC hd hi
  go_enter Tryz.func60, Tryz.ntmps60
  go_wp2_with fail
  refine C1.out.mono ?_
  rintro _ W2 ⟨rfl, HP_⟩
  have HP := Aside0.mk HP_
  clear HP_
  go_wp2_with fail
  go_ret2
  exact ⟨rfl, HP.out⟩
set_option maxHeartbeats 2000000 in
theorem full_short (w : World) (r d : Nat) (A : Option Addr) (n c m i : Nat) (pr : Int) (data : List Int) (ds : Array Value) (hs : Snt w)
    (hr : w.heap[r]? = some (rdr A n c i pr)) (hC : (Kd.int .u8).C w A n data) (hi : n < i + m) (hin : i ≤ n) (hnc : n ≤ c) (hn : n ≤ 1000000000000)
    (hd : w.heap[d]? = some (.cells ds 5 (0, 0))) (hds : ds.size = m) (hm : 0 < m) (hmm : m ≤ 1000000000000) (hrd : r ≠ d) (hra : ∀ a, A = some a → 0 < n → r ≠ a.block ∧ d ≠ a.block)
    (hg : 1 ≠ r ∧ 1 ≠ d ∧ 2 ≠ r ∧ 2 ≠ d) :
    Calls Tryz.prog 60 #[.iface 58 (.pointer (some ⟨r, 0, none⟩)), .slice (some ⟨d, 0, none⟩) m m] w (Short w (fun b => b = r ∨ b = d) (n - i)) := by
  have C1 := Aside0.mk (atLeast_short w r d A n c m i pr data ds hs hr hC hi hin hnc hn hd hds hm hmm hrd hra hg)
  clear hr hC hd hi hs hra hg
  go_enter Tryz.func60, Tryz.ntmps60
  go_wp2_with fail
  refine C1.out.mono ?_
  rintro _ W2 ⟨t, x, rfl, HP_⟩
  have HP := Aside0.mk HP_
  clear HP_
  go_wp2_with fail
  go_ret2
  exact ⟨t, x, rfl, HP.out⟩

set_option maxHeartbeats 4000000 in
set_option maxRecDepth 100000 in
theorem read64_ok (w : World) (r : Nat) (a : Addr) (n c i : Nat) (pr : Int) (data : List Int) (g o : Nat) (old : Int)
    (hr : w.heap[r]? = some (rdr (some a) n c i pr)) (hC : (Kd.int .u8).C w (some a) n data) (hb : ∀ x ∈ data, 0 ≤ x ∧ x < 256) (hi : i + 8 ≤ n) (hnc : n ≤ c) (hn : n ≤ 1000000000000) (hra : r ≠ a.block) (hab : a.block < w.heap.size)
    (hp : w.cell? ⟨g, o, none⟩ = some (.int .i64 old)) (hf : w.frozen? ⟨g, o, none⟩ = false) (hrp : r ≠ g) :
    Calls Tryz.prog 58 #[.iface 58 (.pointer (some ⟨r, 0, none⟩)), .pointer (some ⟨g, o, none⟩)] w fun e w' =>
      e = .returned .nilIface ∧ Kp w w' (fun b => b = r ∨ b = g) ∧ w'.heap[r]? = some (rdr (some a) n c (i + 8) (-1)) ∧ w'.heap[g]? = (w.setCell ⟨g, o, none⟩ (.int .i64 (wrap64 (valb ((data.drop i).take 8))))).heap[g]? := by
  have hmk : ∀ w, (Instr.makeSlice 46 (.int .i64 8) (.int .i64 8)).run Tryz.prog w = .ok (.slice (some ⟨w.heap.size, 0, none⟩) 8 8) (w.alloc (.cells #[.int .u8 0, .int .u8 0, .int .u8 0, .int .u8 0, .int .u8 0, .int .u8 0, .int .u8 0, .int .u8 0] 5)) := fun _ => by kernel_rfl
  have hrl := blk_lt hr
  have C1 := Aside0.mk (full_full (w.alloc (.cells #[.int .u8 0, .int .u8 0, .int .u8 0, .int .u8 0, .int .u8 0, .int .u8 0, .int .u8 0, .int .u8 0] 5)) r w.heap.size a n c 8 i pr data _ (blk_alloc hr _) (Kd.C_alloc hC _) hi hnc hn (blk_new w _) rfl (by omega) (by omega) hra (by omega))
  have HB := Aside0.mk hb
  have HR := Aside0.mk hr
  have HC := Aside0.mk hC
  have hgl : g < w.heap.size := blk_lt_cell hp
  clear hb hr hC
  go_enter Tryz.func58, Tryz.ntmps58
  go_wp2_with (go_at_call 71; refine (size64 _ _).mono ?_; rintro _ _ ⟨rfl, rfl⟩)
  refine C1.out.mono ?_
  rintro _ W2 ⟨rfl, hK, hr2, hd2⟩
  have hg2 : W2.heap[g]? = w.heap[g]? := by
    rw [hK.2 g (by rw [Own.size_alloc]; omega) (by rintro (h | h) <;> omega), Below.heap_alloc _ _ _ hgl]
  have hdl : ((data.drop i).take 8).length = 8 := by have := HC.out.1; simp [this]; omega
  obtain ⟨x0, x1, x2, x3, x4, x5, x6, x7, hx⟩ : ∃ x0 x1 x2 x3 x4 x5 x6 x7, (data.drop i).take 8 = [x0, x1, x2, x3, x4, x5, x6, x7] := by
    match h : (data.drop i).take 8, hdl with
    | [x0, x1, x2, x3, x4, x5, x6, x7], _ => exact ⟨_, _, _, _, _, _, _, _, rfl⟩
  have hbx : ∀ x ∈ [x0, x1, x2, x3, x4, x5, x6, x7], 0 ≤ x ∧ x < 256 := fun x hx' => by
    rw [← hx] at hx'
    exact HB.out x (List.mem_of_mem_drop (List.mem_of_mem_take hx'))
  simp only [List.mem_cons, List.not_mem_nil, or_false, forall_eq_or_imp, forall_eq] at hbx
  obtain ⟨⟨l0, m0⟩, ⟨l1, m1⟩, ⟨l2, m2⟩, ⟨l3, m3⟩, ⟨l4, m4⟩, ⟨l5, m5⟩, ⟨l6, m6⟩, l7, m7⟩ := hbx
  rw [hx] at hd2
  have d0 : W2.cell? ⟨w.heap.size, 0, none⟩ = some (.int .u8 x0) := cells_at hd2 0 _ rfl
  have d1 : W2.cell? ⟨w.heap.size, 1, none⟩ = some (.int .u8 x1) := cells_at hd2 1 _ rfl
  have d2 : W2.cell? ⟨w.heap.size, 2, none⟩ = some (.int .u8 x2) := cells_at hd2 2 _ rfl
  have d3 : W2.cell? ⟨w.heap.size, 3, none⟩ = some (.int .u8 x3) := cells_at hd2 3 _ rfl
  have d4 : W2.cell? ⟨w.heap.size, 4, none⟩ = some (.int .u8 x4) := cells_at hd2 4 _ rfl
  have d5 : W2.cell? ⟨w.heap.size, 5, none⟩ = some (.int .u8 x5) := cells_at hd2 5 _ rfl
  have d6 : W2.cell? ⟨w.heap.size, 6, none⟩ = some (.int .u8 x6) := cells_at hd2 6 _ rfl
  have d7 : W2.cell? ⟨w.heap.size, 7, none⟩ = some (.int .u8 x7) := cells_at hd2 7 _ rfl
  have HK := Aside0.mk hK
  have HR2 := Aside0.mk hr2
  have HG2 := Aside0.mk hg2
  have HX := Aside0.mk hx
  have hp2 : W2.cell? ⟨g, o, none⟩ = some (.int .i64 old) := (cell_block (p := ⟨g, o, none⟩) hg2).trans hp
  have hf2 : W2.frozen? ⟨g, o, none⟩ = false := by
    have h_ : W2.frozen? ⟨g, o, none⟩ = w.frozen? ⟨g, o, none⟩ := by unfold World.frozen?; rw [hg2]
    rw [h_]; exact hf
  clear hK hr2 hg2 hx hdl hd2 hp hf hrl hgl
  go_wp2_with fail
  refine wp_loop_rounds 10 ?_
  iterate 9 (rw [rounds_succ]; go_wp2_with fail)
  go_ret
  have hv := or8 l0 m0 l1 m1 l2 m2 l3 m3 l4 m4 l5 m5 l6 m6 l7 m7
  refine ⟨rfl, ?_⟩
  have hval : valb [x0, x1, x2, x3, x4, x5, x6, x7] = x0 + x1 * 256 + x2 * 65536 + x3 * 16777216 + x4 * 4294967296 + x5 * 1099511627776 + x6 * 281474976710656 + x7 * 72057594037927936 := by
    simp only [valb]; omega
  rw [hv, ← hval, ← HX.out]
  refine ⟨⟨?_, fun b hb hS => ?_, Env.trans (show Env w _ from ⟨rfl, rfl, rfl⟩) (HK.out.env.trans ⟨rfl, rfl, rfl⟩)⟩, ?_, ?_⟩
  · rw [size_setCell]; exact Nat.le_trans (by rw [Own.size_alloc]; omega) HK.out.1
  · have hb1 : b ≠ r := fun e => hS (.inl e)
    have hb2 : b ≠ g := fun e => hS (.inr e)
    rw [Below.heap_setCell _ _ _ _ hb2, HK.out.2 b (by rw [Own.size_alloc]; omega) (by rintro (h | h); exact hb1 h; omega), Below.heap_alloc _ _ _ hb]
  · rw [Below.heap_setCell _ _ _ _ hrp]; exact HR2.out
  · exact setCell_heap_congr HG2.out _ _
open Go.Lib in
theorem or4 {x0 x1 x2 x3 : Int} (l0 : 0 ≤ x0) (m0 : x0 < 256) (l1 : 0 ≤ x1) (m1 : x1 < 256) (l2 : 0 ≤ x2) (m2 : x2 < 256) (l3 : 0 ≤ x3) (m3 : x3 < 256) :
    bits .or .u64 (bits .or .u64 (bits .or .u64 (bits .or .u64 0 x0) (x1 * 256)) (x2 * 65536)) (x3 * 16777216) = x0 + x1 * 256 + x2 * 65536 + x3 * 16777216 := by
  have e0 : bits .or .u64 0 x0 = x0 := by
    have := bits_join_low .u64 64 (by decide) (fun n h0 h1 => wraps_u64 n h0 h1) 0 0 x0 (by omega) (by omega) (by omega) l0 (by omega) (by omega)
    rw [this]; omega
  have e1 : bits .or .u64 x0 (x1 * 256) = x0 + x1 * 256 := u64_or8 _ _ l0 m0 (by omega) (by omega) (by omega)
  have e2 : bits .or .u64 (x0 + x1 * 256) (x2 * 65536) = x0 + x1 * 256 + x2 * 65536 := u64_or16 _ _ (by omega) (by omega) (by omega) (by omega) (by omega)
  have e3 : bits .or .u64 (x0 + x1 * 256 + x2 * 65536) (x3 * 16777216) = x0 + x1 * 256 + x2 * 65536 + x3 * 16777216 := u64_or24 _ _ (by omega) (by omega) (by omega) (by omega) (by omega)
  rw [e0, e1, e2, e3]
set_option maxHeartbeats 4000000 in
set_option maxRecDepth 100000 in
theorem read32_ok (w : World) (r : Nat) (a : Addr) (n c i : Nat) (pr : Int) (data : List Int) (g o : Nat) (old : Int)
    (hr : w.heap[r]? = some (rdr (some a) n c i pr)) (hC : (Kd.int .u8).C w (some a) n data) (hb : ∀ x ∈ data, 0 ≤ x ∧ x < 256) (hi : i + 4 ≤ n) (hnc : n ≤ c) (hn : n ≤ 1000000000000) (hra : r ≠ a.block) (hab : a.block < w.heap.size)
    (hp : w.cell? ⟨g, o, none⟩ = some (.int .i32 old)) (hf : w.frozen? ⟨g, o, none⟩ = false) (hrp : r ≠ g) :
    Calls Tryz.prog 59 #[.iface 58 (.pointer (some ⟨r, 0, none⟩)), .pointer (some ⟨g, o, none⟩)] w fun e w' =>
      e = .returned .nilIface ∧ Kp w w' (fun b => b = r ∨ b = g) ∧ w'.heap[r]? = some (rdr (some a) n c (i + 4) (-1)) ∧ w'.heap[g]? = (w.setCell ⟨g, o, none⟩ (.int .i32 (wrap32 (valb ((data.drop i).take 4))))).heap[g]? := by
  have hmk : ∀ w, (Instr.makeSlice 46 (.int .i64 4) (.int .i64 4)).run Tryz.prog w = .ok (.slice (some ⟨w.heap.size, 0, none⟩) 4 4) (w.alloc (.cells #[.int .u8 0, .int .u8 0, .int .u8 0, .int .u8 0] 5)) := fun _ => by kernel_rfl
  have hrl := blk_lt hr
  have C1 := Aside0.mk (full_full (w.alloc (.cells #[.int .u8 0, .int .u8 0, .int .u8 0, .int .u8 0] 5)) r w.heap.size a n c 4 i pr data _ (blk_alloc hr _) (Kd.C_alloc hC _) hi hnc hn (blk_new w _) rfl (by omega) (by omega) hra (by omega))
  have HB := Aside0.mk hb
  have HR := Aside0.mk hr
  have HC := Aside0.mk hC
  have hgl : g < w.heap.size := blk_lt_cell hp
  clear hb hr hC
  go_enter Tryz.func59, Tryz.ntmps59
  go_wp2_with (go_at_call 73; refine (size32 _ _).mono ?_; rintro _ _ ⟨rfl, rfl⟩)
  refine C1.out.mono ?_
  rintro _ W2 ⟨rfl, hK, hr2, hd2⟩
  have hg2 : W2.heap[g]? = w.heap[g]? := by
    rw [hK.2 g (by rw [Own.size_alloc]; omega) (by rintro (h | h) <;> omega), Below.heap_alloc _ _ _ hgl]
  have hdl : ((data.drop i).take 4).length = 4 := by have := HC.out.1; simp [this]; omega
  obtain ⟨x0, x1, x2, x3, hx⟩ : ∃ x0 x1 x2 x3, (data.drop i).take 4 = [x0, x1, x2, x3] := by
    match h : (data.drop i).take 4, hdl with
    | [x0, x1, x2, x3], _ => exact ⟨_, _, _, _, rfl⟩
  have hbx : ∀ x ∈ [x0, x1, x2, x3], 0 ≤ x ∧ x < 256 := fun x hx' => by
    rw [← hx] at hx'
    exact HB.out x (List.mem_of_mem_drop (List.mem_of_mem_take hx'))
  simp only [List.mem_cons, List.not_mem_nil, or_false, forall_eq_or_imp, forall_eq] at hbx
  obtain ⟨⟨l0, m0⟩, ⟨l1, m1⟩, ⟨l2, m2⟩, l3, m3⟩ := hbx
  rw [hx] at hd2
  have d0 : W2.cell? ⟨w.heap.size, 0, none⟩ = some (.int .u8 x0) := cells_at hd2 0 _ rfl
  have d1 : W2.cell? ⟨w.heap.size, 1, none⟩ = some (.int .u8 x1) := cells_at hd2 1 _ rfl
  have d2 : W2.cell? ⟨w.heap.size, 2, none⟩ = some (.int .u8 x2) := cells_at hd2 2 _ rfl
  have d3 : W2.cell? ⟨w.heap.size, 3, none⟩ = some (.int .u8 x3) := cells_at hd2 3 _ rfl
  have HK := Aside0.mk hK
  have HR2 := Aside0.mk hr2
  have HG2 := Aside0.mk hg2
  have HX := Aside0.mk hx
  have hp2 : W2.cell? ⟨g, o, none⟩ = some (.int .i32 old) := (cell_block (p := ⟨g, o, none⟩) hg2).trans hp
  have hf2 : W2.frozen? ⟨g, o, none⟩ = false := by
    have h_ : W2.frozen? ⟨g, o, none⟩ = w.frozen? ⟨g, o, none⟩ := by unfold World.frozen?; rw [hg2]
    rw [h_]; exact hf
  clear hK hr2 hg2 hx hdl hd2 hp hf hrl hgl
  go_wp2_with fail
  refine wp_loop_rounds 6 ?_
  iterate 5 (rw [rounds_succ]; go_wp2_with fail)
  go_ret
  have hv := or4 l0 m0 l1 m1 l2 m2 l3 m3
  refine ⟨rfl, ?_⟩
  have hval : valb [x0, x1, x2, x3] = x0 + x1 * 256 + x2 * 65536 + x3 * 16777216 := by
    simp only [valb]; omega
  rw [hv, ← hval, ← HX.out]
  refine ⟨⟨?_, fun b hb hS => ?_, Env.trans (show Env w _ from ⟨rfl, rfl, rfl⟩) (HK.out.env.trans ⟨rfl, rfl, rfl⟩)⟩, ?_, ?_⟩
  · rw [size_setCell]; exact Nat.le_trans (by rw [Own.size_alloc]; omega) HK.out.1
  · have hb1 : b ≠ r := fun e => hS (.inl e)
    have hb2 : b ≠ g := fun e => hS (.inr e)
    rw [Below.heap_setCell _ _ _ _ hb2, HK.out.2 b (by rw [Own.size_alloc]; omega) (by rintro (h | h); exact hb1 h; omega), Below.heap_alloc _ _ _ hb]
  · rw [Below.heap_setCell _ _ _ _ hrp]; exact HR2.out
  · exact setCell_heap_congr HG2.out _ _
def ShortE (w : World) (S : Nat → Prop) (e : Ending) (w' : World) : Prop := ∃ t x, e = .returned (.iface t x) ∧ Kp w w' S
set_option maxHeartbeats 4000000 in
set_option maxRecDepth 100000 in
theorem read64_short (w : World) (r : Nat) (A : Option Addr) (n c i : Nat) (pr : Int) (data : List Int) (g o : Nat) (old : Int) (hs : Snt w)
    (hr : w.heap[r]? = some (rdr A n c i pr)) (hC : (Kd.int .u8).C w A n data) (hi : n < i + 8) (hin : i ≤ n) (hnc : n ≤ c) (hn : n ≤ 1000000000000) (hra : ∀ a, A = some a → 0 < n → r ≠ a.block ∧ a.block < w.heap.size)
    (hp : w.cell? ⟨g, o, none⟩ = some (.int .i64 old)) (hg : 1 ≠ r ∧ 2 ≠ r) :
    Calls Tryz.prog 58 #[.iface 58 (.pointer (some ⟨r, 0, none⟩)), .pointer (some ⟨g, o, none⟩)] w (ShortE w (fun b => b = r)) := by
  have hmk : ∀ w, (Instr.makeSlice 46 (.int .i64 8) (.int .i64 8)).run Tryz.prog w = .ok (.slice (some ⟨w.heap.size, 0, none⟩) 8 8) (w.alloc (.cells #[.int .u8 0, .int .u8 0, .int .u8 0, .int .u8 0, .int .u8 0, .int .u8 0, .int .u8 0, .int .u8 0] 5)) := fun _ => by kernel_rfl
  have hrl := blk_lt hr
  have hE : 1 < w.heap.size := by obtain ⟨a, h⟩ := hs.eof; exact blk_lt_cell h
  have hU : 2 < w.heap.size := by obtain ⟨t, x, h⟩ := hs.bad; exact blk_lt_cell h
  have C1 := Aside0.mk (full_short (w.alloc (.cells #[.int .u8 0, .int .u8 0, .int .u8 0, .int .u8 0, .int .u8 0, .int .u8 0, .int .u8 0, .int .u8 0] 5)) r w.heap.size A n c 8 i pr data _ (hs.move (Below.heap_alloc _ _ _ hE) (Below.heap_alloc _ _ _ hU)) (blk_alloc hr _) (Kd.C_alloc hC _) hi hin hnc hn (blk_new w _) rfl (by omega) (by omega) (by omega) (fun a ha h0 => ⟨(hra a ha h0).1, by have := (hra a ha h0).2; omega⟩) ⟨hg.1, by omega, hg.2, by omega⟩)
  clear hr hC hs hra hg hE hU
  go_enter Tryz.func58, Tryz.ntmps58
  go_wp2_with (go_at_call 71; refine (size64 _ _).mono ?_; rintro _ _ ⟨rfl, rfl⟩)
  refine C1.out.mono ?_
  rintro _ W2 ⟨t, x, rfl, hK⟩
  have HK := Aside0.mk hK
  clear hK hp
  go_wp2_with fail
  go_ret
  refine ⟨t, x, rfl, ?_, fun b hb hS => ?_, Env.trans (show Env w _ from ⟨rfl, rfl, rfl⟩) HK.out.env⟩
  · exact Nat.le_trans (by rw [Own.size_alloc]; omega) HK.out.1
  · rw [HK.out.2 b (by rw [Own.size_alloc]; omega) (by rintro (h | h); exact hS h; omega), Below.heap_alloc _ _ _ hb]
set_option maxHeartbeats 4000000 in
set_option maxRecDepth 100000 in
theorem read32_short (w : World) (r : Nat) (A : Option Addr) (n c i : Nat) (pr : Int) (data : List Int) (g o : Nat) (old : Int) (hs : Snt w)
    (hr : w.heap[r]? = some (rdr A n c i pr)) (hC : (Kd.int .u8).C w A n data) (hi : n < i + 4) (hin : i ≤ n) (hnc : n ≤ c) (hn : n ≤ 1000000000000) (hra : ∀ a, A = some a → 0 < n → r ≠ a.block ∧ a.block < w.heap.size)
    (hp : w.cell? ⟨g, o, none⟩ = some (.int .i32 old)) (hg : 1 ≠ r ∧ 2 ≠ r) :
    Calls Tryz.prog 59 #[.iface 58 (.pointer (some ⟨r, 0, none⟩)), .pointer (some ⟨g, o, none⟩)] w (ShortE w (fun b => b = r)) := by
  have hmk : ∀ w, (Instr.makeSlice 46 (.int .i64 4) (.int .i64 4)).run Tryz.prog w = .ok (.slice (some ⟨w.heap.size, 0, none⟩) 4 4) (w.alloc (.cells #[.int .u8 0, .int .u8 0, .int .u8 0, .int .u8 0] 5)) := fun _ => by kernel_rfl
  have hrl := blk_lt hr
  have hE : 1 < w.heap.size := by obtain ⟨a, h⟩ := hs.eof; exact blk_lt_cell h
  have hU : 2 < w.heap.size := by obtain ⟨t, x, h⟩ := hs.bad; exact blk_lt_cell h
  have C1 := Aside0.mk (full_short (w.alloc (.cells #[.int .u8 0, .int .u8 0, .int .u8 0, .int .u8 0] 5)) r w.heap.size A n c 4 i pr data _ (hs.move (Below.heap_alloc _ _ _ hE) (Below.heap_alloc _ _ _ hU)) (blk_alloc hr _) (Kd.C_alloc hC _) hi hin hnc hn (blk_new w _) rfl (by omega) (by omega) (by omega) (fun a ha h0 => ⟨(hra a ha h0).1, by have := (hra a ha h0).2; omega⟩) ⟨hg.1, by omega, hg.2, by omega⟩)
  clear hr hC hs hra hg hE hU
  go_enter Tryz.func59, Tryz.ntmps59
  go_wp2_with (go_at_call 73; refine (size32 _ _).mono ?_; rintro _ _ ⟨rfl, rfl⟩)
  refine C1.out.mono ?_
  rintro _ W2 ⟨t, x, rfl, hK⟩
  have HK := Aside0.mk hK
  clear hK hp
  go_wp2_with fail
  go_ret
  refine ⟨t, x, rfl, ?_, fun b hb hS => ?_, Env.trans (show Env w _ from ⟨rfl, rfl, rfl⟩) HK.out.env⟩
  · exact Nat.le_trans (by rw [Own.size_alloc]; omega) HK.out.1
  · rw [HK.out.2 b (by rw [Own.size_alloc]; omega) (by rintro (h | h); exact hS h; omega), Below.heap_alloc _ _ _ hb]
end Go.Proofs.YtaejkbjepbifcabGreatDoor.Num
namespace Go.Proofs.YtaejkbjepbifcabGreatDoor.Num
open Go.RowKit Go.Proofs.YtaejkbjepbifcabGreatDoorW.PrintWords Go.Proofs.YtaejkbjepbifcabGreatDoor.Plain
set_option linter.unusedVariables false
set_option linter.unusedSimpArgs false

def val (b : Nat) (data : List Int) (j : Nat) : Int := wrap32 (valb ((data.drop (b + 4 * j)).take 4))
def rcells (b : Nat) (data : List Int) (N q : Nat) : Array Value := (Array.range N).map fun j => .int .i32 (if j < q then val b data j else 0)
theorem rcells_size (b : Nat) (data : List Int) (N q : Nat) : (rcells b data N q).size = N := by simp [rcells]
theorem rcells_get (b : Nat) (data : List Int) (N q j : Nat) (hj : j < N) : (rcells b data N q)[j]? = some (.int .i32 (if j < q then val b data j else 0)) := by
  rw [rcells, Array.getElem?_map, Array.getElem?_range]
  simp [hj]
theorem rcells_set (b : Nat) (data : List Int) (N q : Nat) (hq : q < N) : (rcells b data N q).setIfInBounds q (.int .i32 (val b data q)) = rcells b data N (q + 1) := by
  apply Array.ext_getElem?
  intro j
  rw [Array.getElem?_setIfInBounds]
  by_cases hj : j < N
  · rw [rcells_get _ _ _ _ _ hj, rcells_get _ _ _ _ _ hj, rcells_size]
    by_cases h : q = j
    · subst h; simp [hj]
    · rw [if_neg h]
      have : (j < q) = (j < q + 1) := by apply propext; omega
      simp only [this]
  · rw [if_neg (by omega), Array.getElem?_eq_none (by rw [rcells_size]; omega), Array.getElem?_eq_none (by rw [rcells_size]; omega)]
structure Ctx (w0 : World) (r : Nat) (a : Addr) (n c : Nat) (data : List Int) : Prop where
  row : (Kd.int .u8).C w0 (some a) n data
  bytes : ∀ x ∈ data, 0 ≤ x ∧ x < 256
  cap : n ≤ c
  few : n ≤ 1000000000000
  ne : r ≠ a.block
  lt : a.block < w0.heap.size
  rlt : r < w0.heap.size
  snt : Snt w0
  eof : 1 ≠ r
  bad : 2 ≠ r
structure RS (w0 W : World) (r : Nat) (a : Addr) (n c b : Nat) (data : List Int) (G N e q : Nat) : Prop where
  rd : W.heap[r]? = some (rdr (some a) n c (b + 4 * q) (-1))
  row : W.heap[G]? = some (.cells (rcells b data N q) e (0, 0))
  kept : Kp w0 W (fun x => x = r)
  new : w0.heap.size ≤ G

theorem Ctx.rowAt {w0 W : World} {r : Nat} {a : Addr} {n c : Nat} {data : List Int} (h : Ctx w0 r a n c data) (k : Kp w0 W (fun x => x = r)) : (Kd.int .u8).C W (some a) n data := by
  have hb : W.heap[a.block]? = w0.heap[a.block]? := k.2 _ h.lt (fun e => h.ne e.symm)
  refine ⟨h.row.1, h.row.2.1, fun h0 => ?_⟩
  obtain ⟨ad, e, hc⟩ := h.row.2.2 h0
  obtain rfl := Option.some.inj e
  refine ⟨a, rfl, fun j p hj => ?_⟩
  obtain ⟨cc, h1, h2, h3⟩ := hc j p hj
  exact ⟨cc, h1, h2, fun i u hu => (cell_block (by rw [add_block]; exact hb)).trans (h3 i u hu)⟩
theorem Ctx.sntAt {w0 W : World} {r : Nat} {a : Addr} {n c : Nat} {data : List Int} (h : Ctx w0 r a n c data) (k : Kp w0 W (fun x => x = r)) : Snt W := by
  have hE : 1 < w0.heap.size := by obtain ⟨a, h⟩ := h.snt.eof; exact blk_lt_cell h
  have hU : 2 < w0.heap.size := by obtain ⟨t, x, h⟩ := h.snt.bad; exact blk_lt_cell h
  exact h.snt.move (k.2 _ hE h.eof) (k.2 _ hU h.bad)
theorem Kp.thru {w0 w w' : World} {S : Nat → Prop} (k : Kp w0 w S) (h : Kp w w' S) : Kp w0 w' S :=
  ⟨Nat.le_trans k.1 h.1, fun i hi hS => (h.2 i (Nat.lt_of_lt_of_le hi k.1) hS).trans (k.2 i hi hS), k.env.trans h.env⟩

section
variable {w0 W : World} {r : Nat} {a : Addr} {n c b : Nat} {data : List Int} {G N e q : Nat}
theorem RS.step_ok (h : RS w0 W r a n c b data G N e q) (x : Ctx w0 r a n c data) (hq : q < N) (hi : b + 4 * q + 4 ≤ n) :
    Calls Tryz.prog 59 #[.iface 58 (.pointer (some ⟨r, 0, none⟩)), .pointer (some ⟨G, q, none⟩)] W fun e' w' => e' = .returned .nilIface ∧ RS w0 w' r a n c b data G N e (q + 1) := by
  have hG : r ≠ G := by have := x.rlt; have := h.new; omega
  refine (read32_ok W r a n c (b + 4 * q) (-1) data G q 0 h.rd (x.rowAt h.kept) x.bytes hi x.cap x.few x.ne (Nat.lt_of_lt_of_le x.lt h.kept.1)
    (cells_at h.row q _ (by rw [rcells_get _ _ _ _ _ hq]; simp)) (froz_at h.row q) hG).mono ?_
  rintro e' w' ⟨he, hk, h1, h2⟩
  refine ⟨he, by rw [show b + 4 * (q + 1) = b + 4 * q + 4 by omega]; exact h1, ?_, ?_, h.new⟩
  · rw [h2]
    exact blk_put h.row q _ (rcells_set b data N q hq)
  · exact ⟨Nat.le_trans h.kept.1 hk.1, fun i hi hS => by
      rw [hk.2 i (Nat.lt_of_lt_of_le hi h.kept.1) (by rintro (h' | h'); exact hS h'; have := h.new; omega)]
      exact h.kept.2 i hi hS, h.kept.env.trans hk.env⟩
theorem RS.step_short (h : RS w0 W r a n c b data G N e q) (x : Ctx w0 r a n c data) (hq : q < N) (hi : n < b + 4 * q + 4) (hin : b + 4 * q ≤ n) :
    Calls Tryz.prog 59 #[.iface 58 (.pointer (some ⟨r, 0, none⟩)), .pointer (some ⟨G, q, none⟩)] W (ShortE w0 (fun x => x = r)) := by
  refine (read32_short W r (some a) n c (b + 4 * q) (-1) data G q 0 (x.sntAt h.kept) h.rd (x.rowAt h.kept) hi hin x.cap x.few (fun a' ha _ => by obtain rfl := Option.some.inj ha; exact ⟨x.ne, Nat.lt_of_lt_of_le x.lt h.kept.1⟩)
    (cells_at h.row q _ (by rw [rcells_get _ _ _ _ _ hq]; simp)) ⟨x.eof, x.bad⟩).mono ?_
  rintro e' w' ⟨t, y, he, hk⟩
  exact ⟨t, y, he, Kp.thru h.kept hk⟩
end
end Go.Proofs.YtaejkbjepbifcabGreatDoor.Num
namespace Go.Proofs.YtaejkbjepbifcabGreatDoor.Num
open Go.RowKit Go.Proofs.YtaejkbjepbifcabGreatDoorW.PrintWords Go.Proofs.YtaejkbjepbifcabGreatDoor.Plain
set_option linter.unusedVariables false
set_option linter.unusedSimpArgs false

theorem int_eq {k : IntKind} {a b : Int} (h : a = b) : Value.int k a = .int k b := by rw [h]
theorem u8s_app (a b : List Int) : u8s (a ++ b) = u8s a ++ u8s b := by simp [u8s]
theorem R_row {α : Type} {d : Kd α} {e base : Nat} {w : World} {ok : Nat → Prop} {v : Value} {xs : List α} (h : d.R e w base ok v xs) :
    ∃ A c, v = .slice A xs.length c ∧ xs.length ≤ c ∧ d.C w A xs.length xs ∧ ∀ a, A = some a → base ≤ a.block ∧ ∃ cs, w.heap[a.block]? = some (.cells cs e (0, 0)) := by
  obtain ⟨A, c, e1, hc, hC⟩ := Kd.R_reads h
  refine ⟨A, c, e1, hc, hC, fun a ha => ?_⟩
  obtain ⟨_, inner, ho, _⟩ := h
  have hk : v.ownBlock = some a.block := by rw [e1, ha]; rfl
  exact ⟨own_base ho _ hk, own_typed ho _ hk⟩
theorem bytes_R {w : World} {base : Nat} {v : Value} {l : List Int} (h : w.ownsRow base 5 1 v (u8s l).length (u8s l)) : (Kd.int .u8).R 5 w base (fun _ => True) v l := by
  have e : (u8s l).length = l.length := by simp [u8s]
  rw [e] at h
  exact Kd.R_of_own (enc := Value.int .u8) (h1 := fun _ => rfl) h (fun _ _ => trivial)
theorem newReader (w : World) (A : Option Addr) (n c : Nat) :
    Calls Tryz.prog 21 #[.slice A n c] w fun e w' => e = .returned (.pointer (some ⟨w.heap.size, 0, none⟩)) ∧ w' = w.alloc (rdr A n c 0 (-1)) := by
  go_enter Tryz.func21, Tryz.ntmps21
  go_wp2
  go_ret
  exact ⟨rfl, rfl⟩
theorem below_kept {w W W' : World} {r : Nat} (hb : Below w.heap.size w W) (hr : w.heap.size ≤ r) (hk : Kp W W' (fun y => y = r)) : Below w.heap.size w W' :=
  ⟨hk.env.1.trans hb.os, hk.env.2.1.trans hb.tape, hk.env.2.2.trans hb.output, Nat.le_trans hb.size hk.size, fun k hlt => (hk.old k (Nat.lt_of_lt_of_le hlt hb.size) (by omega)).trans (hb.block k hlt)⟩
theorem sntAlloc {w : World} (h : Snt w) (o : Obj) : Snt (w.alloc o) := by
  have hE : 1 < w.heap.size := by obtain ⟨a, h⟩ := h.eof; exact blk_lt_cell h
  have hU : 2 < w.heap.size := by obtain ⟨t, x, h⟩ := h.bad; exact blk_lt_cell h
  exact h.move (Below.heap_alloc _ _ _ hE) (Below.heap_alloc _ _ _ hU)
theorem sntNe {w : World} (h : Snt w) : 1 ≠ w.heap.size ∧ 2 ≠ w.heap.size := by
  have hE : 1 < w.heap.size := by obtain ⟨a, h⟩ := h.eof; exact blk_lt_cell h
  have hU : 2 < w.heap.size := by obtain ⟨t, x, h⟩ := h.bad; exact blk_lt_cell h
  exact ⟨by omega, by omega⟩
theorem C_lt {k : IntKind} {w : World} {A : Option Addr} {n : Nat} {xs : List Int} (h : (Kd.int k).C w A n xs) {a : Addr} (ha : A = some a) (h0 : 0 < n) : a.block < w.heap.size := by
  subst ha
  have hlt : 0 < xs.length := by rw [h.1]; exact h0
  have := blk_lt_cell (C_cells h 0 _ (List.getElem?_eq_getElem hlt))
  rwa [add_block] at this
theorem Snt.below {w W : World} (h : Snt w) (hb : Below w.heap.size w W) : Snt W := by
  have hE : 1 < w.heap.size := by obtain ⟨a, h⟩ := h.eof; exact blk_lt_cell h
  have hU : 2 < w.heap.size := by obtain ⟨t, x, h⟩ := h.bad; exact blk_lt_cell h
  exact h.move (hb.block _ hE) (hb.block _ hU)
end Go.Proofs.YtaejkbjepbifcabGreatDoor.Num
namespace Go.Proofs.YtaejkbjepbifcabGreatDoor.NumD
open Go.RowKit Go.Proofs.YtaejkbjepbifcabGreatDoorW.PrintWords Go.Proofs.YtaejkbjepbifcabGreatDoor.Plain Go.Proofs.YtaejkbjepbifcabGreatDoor.Num
set_option linter.unusedVariables false
set_option linter.unusedSimpArgs false
theorem size64 (v : Int) (w : World) : Calls Tryz.prog 55 #[.int .i64 v] w fun e w' => e = .returned (.int .i64 8) ∧ w = w' := by
  have h1 := as64_8
  have h2 := as64_16
  have h3 := as64_32
  go_enter Tryz.func55, Tryz.ntmps55
  go_wp2
  go_ret
  exact ⟨rfl, rfl⟩
theorem size32 (v : Int) (w : World) : Calls Tryz.prog 57 #[.int .i32 v] w fun e w' => e = .returned (.int .i64 4) ∧ w = w' := by
  have h1 := as32_8
  have h2 := as32_16
  have h3 := as32_32
  go_enter Tryz.func57, Tryz.ntmps57
  go_wp2
  go_ret
  exact ⟨rfl, rfl⟩
set_option maxHeartbeats 4000000 in
set_option maxRecDepth 100000 in
theorem write64 (B b : Nat) (bs : List Value) (v : Int) (w : World) (h : Lib.IsBuffer 71 5 B b bs w) (hBw : B ≤ w.heap.size) (h1 : ∀ v ∈ bs, v.oneCell' = true) (hlim : bs.length + 8 ≤ 140737488355328) :
    Calls Tryz.prog 54 #[.iface 74 (.pointer (some ⟨b, 0, none⟩)), .int .i64 v] w fun e w' => e = .returned .nilIface ∧ Lib.IsBuffer 71 5 B b (bs ++ u8s (leb 8 (v % 18446744073709551616))) w' ∧ Below B w w' ∧ Lib.OthersKept 5 (some b) w w' := by
  have n1 := bw_method
  have hmk : ∀ w, (Instr.makeSlice 46 (.int .i64 8) (.int .i64 8)).run Tryz.prog w = .ok (.slice (some ⟨w.heap.size, 0, none⟩) 8 8) (w.alloc (.cells #[.int .u8 0, .int .u8 0, .int .u8 0, .int .u8 0, .int .u8 0, .int .u8 0, .int .u8 0, .int .u8 0] 5)) := fun _ => by kernel_rfl
  go_enter Tryz.func54, Tryz.ntmps54
  go_wp2_with (go_at_call 55; refine (size64 _ _).mono ?_; rintro _ _ ⟨rfl, rfl⟩)
  refine wp_loop_rounds 10 ?_
  iterate 9 (rw [rounds_succ]; go_wp2_with fail)
  have hl := leb8 (IntKind.u64.wrap v)
  have hlt := h.lt
  refine (Tryz.Buffer_Write_any B b bs (u8s (leb 8 (IntKind.u64.wrap v))) ⟨w.heap.size, 0, none⟩ 8 8 _ (bufAlloc h _) (by rw [Own.size_alloc]; omega) h1 (by simp [u8s, leb_length]) (by simp; omega) (fun j v hj => ?_) (u8s_one _) hlim).mono ?_
  · rw [hl] at hj
    have : (⟨w.heap.size, 0, none⟩ : Addr).add j = ⟨w.heap.size, j, none⟩ := by unfold Addr.add; by_cases h : j = 0 <;> simp [h]
    rw [this, Own.alloc_cell]
    simpa [u8s] using hj
  · rintro _ W2 ⟨rfl, hI, hB2, hO2⟩
    have HO2 := Aside0.mk hO2
    clear hO2
    have HI := Aside0.mk hI
    have HB2 := Aside0.mk hB2
    clear hI hB2 hl
    go_wp2_with fail
    go_ret
    exact ⟨rfl, by rw [← wrapu]; exact HI.out, (Below.refl _ _).alloc hBw _ |>.trans HB2.out, fun k o hk hne ht => HO2.out k o (by rw [Below.heap_alloc _ _ _ (blk_lt hk)]; exact hk) hne ht⟩
set_option maxHeartbeats 4000000 in
set_option maxRecDepth 100000 in
theorem write32 (B b : Nat) (bs : List Value) (v : Int) (w : World) (h : Lib.IsBuffer 71 5 B b bs w) (hBw : B ≤ w.heap.size) (h1 : ∀ v ∈ bs, v.oneCell' = true) (hlim : bs.length + 4 ≤ 140737488355328) :
    Calls Tryz.prog 56 #[.iface 74 (.pointer (some ⟨b, 0, none⟩)), .int .i32 v] w fun e w' => e = .returned .nilIface ∧ Lib.IsBuffer 71 5 B b (bs ++ u8s (leb 4 (v % 18446744073709551616))) w' ∧ Below B w w' ∧ Lib.OthersKept 5 (some b) w w' := by
  have n1 := bw_method
  have hmk : ∀ w, (Instr.makeSlice 46 (.int .i64 4) (.int .i64 4)).run Tryz.prog w = .ok (.slice (some ⟨w.heap.size, 0, none⟩) 4 4) (w.alloc (.cells #[.int .u8 0, .int .u8 0, .int .u8 0, .int .u8 0] 5)) := fun _ => by kernel_rfl
  go_enter Tryz.func56, Tryz.ntmps56
  go_wp2_with (go_at_call 57; refine (size32 _ _).mono ?_; rintro _ _ ⟨rfl, rfl⟩)
  refine wp_loop_rounds 6 ?_
  iterate 5 (rw [rounds_succ]; go_wp2_with fail)
  have hl := leb4 (IntKind.u64.wrap v)
  have hlt := h.lt
  refine (Tryz.Buffer_Write_any B b bs (u8s (leb 4 (IntKind.u64.wrap v))) ⟨w.heap.size, 0, none⟩ 4 4 _ (bufAlloc h _) (by rw [Own.size_alloc]; omega) h1 (by simp [u8s, leb_length]) (by simp; omega) (fun j v hj => ?_) (u8s_one _) hlim).mono ?_
  · rw [hl] at hj
    have : (⟨w.heap.size, 0, none⟩ : Addr).add j = ⟨w.heap.size, j, none⟩ := by unfold Addr.add; by_cases h : j = 0 <;> simp [h]
    rw [this, Own.alloc_cell]
    simpa [u8s] using hj
  · rintro _ W2 ⟨rfl, hI, hB2, hO2⟩
    have HO2 := Aside0.mk hO2
    clear hO2
    have HI := Aside0.mk hI
    have HB2 := Aside0.mk hB2
    clear hI hB2 hl
    go_wp2_with fail
    go_ret
    exact ⟨rfl, by rw [← wrapu]; exact HI.out, (Below.refl _ _).alloc hBw _ |>.trans HB2.out, fun k o hk hne ht => HO2.out k o (by rw [Below.heap_alloc _ _ _ (blk_lt hk)]; exact hk) hne ht⟩

set_option maxHeartbeats 4000000 in
set_option maxRecDepth 100000 in
theorem read64_ok (w : World) (r : Nat) (a : Addr) (n c i : Nat) (pr : Int) (data : List Int) (g o : Nat) (old : Int)
    (hr : w.heap[r]? = some (rdr (some a) n c i pr)) (hC : (Kd.int .u8).C w (some a) n data) (hb : ∀ x ∈ data, 0 ≤ x ∧ x < 256) (hi : i + 8 ≤ n) (hnc : n ≤ c) (hn : n ≤ 1000000000000) (hra : r ≠ a.block) (hab : a.block < w.heap.size)
    (hp : w.cell? ⟨g, o, none⟩ = some (.int .i64 old)) (hf : w.frozen? ⟨g, o, none⟩ = false) (hrp : r ≠ g) :
    Calls Tryz.prog 37 #[.iface 58 (.pointer (some ⟨r, 0, none⟩)), .pointer (some ⟨g, o, none⟩)] w fun e w' =>
      e = .returned .nilIface ∧ Kp w w' (fun b => b = r ∨ b = g) ∧ w'.heap[r]? = some (rdr (some a) n c (i + 8) (-1)) ∧ w'.heap[g]? = (w.setCell ⟨g, o, none⟩ (.int .i64 (wrap64 (valb ((data.drop i).take 8))))).heap[g]? := by
  have hmk : ∀ w, (Instr.makeSlice 46 (.int .i64 8) (.int .i64 8)).run Tryz.prog w = .ok (.slice (some ⟨w.heap.size, 0, none⟩) 8 8) (w.alloc (.cells #[.int .u8 0, .int .u8 0, .int .u8 0, .int .u8 0, .int .u8 0, .int .u8 0, .int .u8 0, .int .u8 0] 5)) := fun _ => by kernel_rfl
  have hrl := blk_lt hr
  have C1 := Aside0.mk (full_full (w.alloc (.cells #[.int .u8 0, .int .u8 0, .int .u8 0, .int .u8 0, .int .u8 0, .int .u8 0, .int .u8 0, .int .u8 0] 5)) r w.heap.size a n c 8 i pr data _ (blk_alloc hr _) (Kd.C_alloc hC _) hi hnc hn (blk_new w _) rfl (by omega) (by omega) hra (by omega))
  have HB := Aside0.mk hb
  have HR := Aside0.mk hr
  have HC := Aside0.mk hC
  have hgl : g < w.heap.size := blk_lt_cell hp
  clear hb hr hC
  go_enter Tryz.func37, Tryz.ntmps37
  go_wp2_with (go_at_call 55; refine (size64 _ _).mono ?_; rintro _ _ ⟨rfl, rfl⟩)
  refine C1.out.mono ?_
  rintro _ W2 ⟨rfl, hK, hr2, hd2⟩
  have hg2 : W2.heap[g]? = w.heap[g]? := by
    rw [hK.2 g (by rw [Own.size_alloc]; omega) (by rintro (h | h) <;> omega), Below.heap_alloc _ _ _ hgl]
  have hdl : ((data.drop i).take 8).length = 8 := by have := HC.out.1; simp [this]; omega
  obtain ⟨x0, x1, x2, x3, x4, x5, x6, x7, hx⟩ : ∃ x0 x1 x2 x3 x4 x5 x6 x7, (data.drop i).take 8 = [x0, x1, x2, x3, x4, x5, x6, x7] := by
    match h : (data.drop i).take 8, hdl with
    | [x0, x1, x2, x3, x4, x5, x6, x7], _ => exact ⟨_, _, _, _, _, _, _, _, rfl⟩
  have hbx : ∀ x ∈ [x0, x1, x2, x3, x4, x5, x6, x7], 0 ≤ x ∧ x < 256 := fun x hx' => by
    rw [← hx] at hx'
    exact HB.out x (List.mem_of_mem_drop (List.mem_of_mem_take hx'))
  simp only [List.mem_cons, List.not_mem_nil, or_false, forall_eq_or_imp, forall_eq] at hbx
  obtain ⟨⟨l0, m0⟩, ⟨l1, m1⟩, ⟨l2, m2⟩, ⟨l3, m3⟩, ⟨l4, m4⟩, ⟨l5, m5⟩, ⟨l6, m6⟩, l7, m7⟩ := hbx
  rw [hx] at hd2
  have d0 : W2.cell? ⟨w.heap.size, 0, none⟩ = some (.int .u8 x0) := cells_at hd2 0 _ rfl
  have d1 : W2.cell? ⟨w.heap.size, 1, none⟩ = some (.int .u8 x1) := cells_at hd2 1 _ rfl
  have d2 : W2.cell? ⟨w.heap.size, 2, none⟩ = some (.int .u8 x2) := cells_at hd2 2 _ rfl
  have d3 : W2.cell? ⟨w.heap.size, 3, none⟩ = some (.int .u8 x3) := cells_at hd2 3 _ rfl
  have d4 : W2.cell? ⟨w.heap.size, 4, none⟩ = some (.int .u8 x4) := cells_at hd2 4 _ rfl
  have d5 : W2.cell? ⟨w.heap.size, 5, none⟩ = some (.int .u8 x5) := cells_at hd2 5 _ rfl
  have d6 : W2.cell? ⟨w.heap.size, 6, none⟩ = some (.int .u8 x6) := cells_at hd2 6 _ rfl
  have d7 : W2.cell? ⟨w.heap.size, 7, none⟩ = some (.int .u8 x7) := cells_at hd2 7 _ rfl
  have HK := Aside0.mk hK
  have HR2 := Aside0.mk hr2
  have HG2 := Aside0.mk hg2
  have HX := Aside0.mk hx
  have hp2 : W2.cell? ⟨g, o, none⟩ = some (.int .i64 old) := (cell_block (p := ⟨g, o, none⟩) hg2).trans hp
  have hf2 : W2.frozen? ⟨g, o, none⟩ = false := by
    have h_ : W2.frozen? ⟨g, o, none⟩ = w.frozen? ⟨g, o, none⟩ := by unfold World.frozen?; rw [hg2]
    rw [h_]; exact hf
  clear hK hr2 hg2 hx hdl hd2 hp hf hrl hgl
  go_wp2_with fail
  refine wp_loop_rounds 10 ?_
  iterate 9 (rw [rounds_succ]; go_wp2_with fail)
  go_ret
  have hv := or8 l0 m0 l1 m1 l2 m2 l3 m3 l4 m4 l5 m5 l6 m6 l7 m7
  refine ⟨rfl, ?_⟩
  have hval : valb [x0, x1, x2, x3, x4, x5, x6, x7] = x0 + x1 * 256 + x2 * 65536 + x3 * 16777216 + x4 * 4294967296 + x5 * 1099511627776 + x6 * 281474976710656 + x7 * 72057594037927936 := by
    simp only [valb]; omega
  rw [hv, ← hval, ← HX.out]
  refine ⟨⟨?_, fun b hb hS => ?_, Env.trans (show Env w _ from ⟨rfl, rfl, rfl⟩) (HK.out.env.trans ⟨rfl, rfl, rfl⟩)⟩, ?_, ?_⟩
  · rw [size_setCell]; exact Nat.le_trans (by rw [Own.size_alloc]; omega) HK.out.1
  · have hb1 : b ≠ r := fun e => hS (.inl e)
    have hb2 : b ≠ g := fun e => hS (.inr e)
    rw [Below.heap_setCell _ _ _ _ hb2, HK.out.2 b (by rw [Own.size_alloc]; omega) (by rintro (h | h); exact hb1 h; omega), Below.heap_alloc _ _ _ hb]
  · rw [Below.heap_setCell _ _ _ _ hrp]; exact HR2.out
  · exact setCell_heap_congr HG2.out _ _
set_option maxHeartbeats 4000000 in
set_option maxRecDepth 100000 in
theorem read32_ok (w : World) (r : Nat) (a : Addr) (n c i : Nat) (pr : Int) (data : List Int) (g o : Nat) (old : Int)
    (hr : w.heap[r]? = some (rdr (some a) n c i pr)) (hC : (Kd.int .u8).C w (some a) n data) (hb : ∀ x ∈ data, 0 ≤ x ∧ x < 256) (hi : i + 4 ≤ n) (hnc : n ≤ c) (hn : n ≤ 1000000000000) (hra : r ≠ a.block) (hab : a.block < w.heap.size)
    (hp : w.cell? ⟨g, o, none⟩ = some (.int .i32 old)) (hf : w.frozen? ⟨g, o, none⟩ = false) (hrp : r ≠ g) :
    Calls Tryz.prog 38 #[.iface 58 (.pointer (some ⟨r, 0, none⟩)), .pointer (some ⟨g, o, none⟩)] w fun e w' =>
      e = .returned .nilIface ∧ Kp w w' (fun b => b = r ∨ b = g) ∧ w'.heap[r]? = some (rdr (some a) n c (i + 4) (-1)) ∧ w'.heap[g]? = (w.setCell ⟨g, o, none⟩ (.int .i32 (wrap32 (valb ((data.drop i).take 4))))).heap[g]? := by
  have hmk : ∀ w, (Instr.makeSlice 46 (.int .i64 4) (.int .i64 4)).run Tryz.prog w = .ok (.slice (some ⟨w.heap.size, 0, none⟩) 4 4) (w.alloc (.cells #[.int .u8 0, .int .u8 0, .int .u8 0, .int .u8 0] 5)) := fun _ => by kernel_rfl
  have hrl := blk_lt hr
  have C1 := Aside0.mk (full_full (w.alloc (.cells #[.int .u8 0, .int .u8 0, .int .u8 0, .int .u8 0] 5)) r w.heap.size a n c 4 i pr data _ (blk_alloc hr _) (Kd.C_alloc hC _) hi hnc hn (blk_new w _) rfl (by omega) (by omega) hra (by omega))
  have HB := Aside0.mk hb
  have HR := Aside0.mk hr
  have HC := Aside0.mk hC
  have hgl : g < w.heap.size := blk_lt_cell hp
  clear hb hr hC
  go_enter Tryz.func38, Tryz.ntmps38
  go_wp2_with (go_at_call 57; refine (size32 _ _).mono ?_; rintro _ _ ⟨rfl, rfl⟩)
  refine C1.out.mono ?_
  rintro _ W2 ⟨rfl, hK, hr2, hd2⟩
  have hg2 : W2.heap[g]? = w.heap[g]? := by
    rw [hK.2 g (by rw [Own.size_alloc]; omega) (by rintro (h | h) <;> omega), Below.heap_alloc _ _ _ hgl]
  have hdl : ((data.drop i).take 4).length = 4 := by have := HC.out.1; simp [this]; omega
  obtain ⟨x0, x1, x2, x3, hx⟩ : ∃ x0 x1 x2 x3, (data.drop i).take 4 = [x0, x1, x2, x3] := by
    match h : (data.drop i).take 4, hdl with
    | [x0, x1, x2, x3], _ => exact ⟨_, _, _, _, rfl⟩
  have hbx : ∀ x ∈ [x0, x1, x2, x3], 0 ≤ x ∧ x < 256 := fun x hx' => by
    rw [← hx] at hx'
    exact HB.out x (List.mem_of_mem_drop (List.mem_of_mem_take hx'))
  simp only [List.mem_cons, List.not_mem_nil, or_false, forall_eq_or_imp, forall_eq] at hbx
  obtain ⟨⟨l0, m0⟩, ⟨l1, m1⟩, ⟨l2, m2⟩, l3, m3⟩ := hbx
  rw [hx] at hd2
  have d0 : W2.cell? ⟨w.heap.size, 0, none⟩ = some (.int .u8 x0) := cells_at hd2 0 _ rfl
  have d1 : W2.cell? ⟨w.heap.size, 1, none⟩ = some (.int .u8 x1) := cells_at hd2 1 _ rfl
  have d2 : W2.cell? ⟨w.heap.size, 2, none⟩ = some (.int .u8 x2) := cells_at hd2 2 _ rfl
  have d3 : W2.cell? ⟨w.heap.size, 3, none⟩ = some (.int .u8 x3) := cells_at hd2 3 _ rfl
  have HK := Aside0.mk hK
  have HR2 := Aside0.mk hr2
  have HG2 := Aside0.mk hg2
  have HX := Aside0.mk hx
  have hp2 : W2.cell? ⟨g, o, none⟩ = some (.int .i32 old) := (cell_block (p := ⟨g, o, none⟩) hg2).trans hp
  have hf2 : W2.frozen? ⟨g, o, none⟩ = false := by
    have h_ : W2.frozen? ⟨g, o, none⟩ = w.frozen? ⟨g, o, none⟩ := by unfold World.frozen?; rw [hg2]
    rw [h_]; exact hf
  clear hK hr2 hg2 hx hdl hd2 hp hf hrl hgl
  go_wp2_with fail
  refine wp_loop_rounds 6 ?_
  iterate 5 (rw [rounds_succ]; go_wp2_with fail)
  go_ret
  have hv := or4 l0 m0 l1 m1 l2 m2 l3 m3
  refine ⟨rfl, ?_⟩
  have hval : valb [x0, x1, x2, x3] = x0 + x1 * 256 + x2 * 65536 + x3 * 16777216 := by
    simp only [valb]; omega
  rw [hv, ← hval, ← HX.out]
  refine ⟨⟨?_, fun b hb hS => ?_, Env.trans (show Env w _ from ⟨rfl, rfl, rfl⟩) (HK.out.env.trans ⟨rfl, rfl, rfl⟩)⟩, ?_, ?_⟩
  · rw [size_setCell]; exact Nat.le_trans (by rw [Own.size_alloc]; omega) HK.out.1
  · have hb1 : b ≠ r := fun e => hS (.inl e)
    have hb2 : b ≠ g := fun e => hS (.inr e)
    rw [Below.heap_setCell _ _ _ _ hb2, HK.out.2 b (by rw [Own.size_alloc]; omega) (by rintro (h | h); exact hb1 h; omega), Below.heap_alloc _ _ _ hb]
  · rw [Below.heap_setCell _ _ _ _ hrp]; exact HR2.out
  · exact setCell_heap_congr HG2.out _ _
end Go.Proofs.YtaejkbjepbifcabGreatDoor.NumD
namespace Go.Proofs.YtaejkbjepbifcabGreatDoor.Num
open Go.RowKit Go.Proofs.YtaejkbjepbifcabGreatDoorW.PrintWords Go.Proofs.YtaejkbjepbifcabGreatDoor.Plain Go.Proofs.YtaejkbjepbifcabGreatDoor.PB
set_option linter.unusedVariables false

theorem Int.pow_le_pow_right' {i j : Nat} (h : i ≤ j) : (256 : Int) ^ i ≤ 256 ^ j := by
  obtain ⟨k, rfl⟩ : ∃ k, j = i + k := ⟨j - i, by omega⟩
  rw [Int.pow_add]
  have h1 : (0 : Int) < 256 ^ i := Int.pow_pos (by decide)
  have h2 : (0 : Int) < 256 ^ k := Int.pow_pos (by decide)
  have := Int.mul_le_mul_of_nonneg_left (show (1 : Int) ≤ 256 ^ k by omega) (show (0 : Int) ≤ 256 ^ i by omega)
  omega
end Go.Proofs.YtaejkbjepbifcabGreatDoor.Num
namespace Go.Proofs.YtaejkbjepbifcabGreatDoor.Num
open Go.RowKit Go.Proofs.YtaejkbjepbifcabGreatDoorW.PrintWords Go.Proofs.YtaejkbjepbifcabGreatDoor.Plain
set_option linter.unusedVariables false
set_option linter.unusedSimpArgs false

def cby (s : Da.DA) (i : Nat) : List Int := leb 4 (s.B i % 18446744073709551616) ++ leb 4 (s.C i % 18446744073709551616)
def wrtD (s : Da.DA) (i : Nat) : List Int := leb 8 ((s.n : Int) % 18446744073709551616) ++ (List.range i).flatMap (cby s)
theorem wrtD_len (s : Da.DA) (i : Nat) : (wrtD s i).length = 8 + 8 * i := by
  have : ∀ i, ((List.range i).flatMap (cby s)).length = 8 * i := fun i => by
    induction i with
    | zero => rfl
    | succ i ih => rw [List.range_succ, List.flatMap_append, List.length_append, ih]; simp [cby, leb_length]; omega
  simp [wrtD, leb_length, this]
theorem wrtD_succ (s : Da.DA) (i : Nat) : wrtD s (i + 1) = wrtD s i ++ leb 4 (s.B i % 18446744073709551616) ++ leb 4 (s.C i % 18446744073709551616) := by
  simp [wrtD, List.range_succ, cby]

theorem oth_thru {w wr W : World} {b : Nat} (h : Lib.OthersKept 5 (some b) w wr) (x : Obj) (h1 : Lib.OthersKept 5 (some b) (wr.alloc x) W) : Lib.OthersKept 5 (some b) w W :=
  fun k o hk hne ht => h1 k o (by rw [Below.heap_alloc _ _ _ (blk_lt (h k o hk hne ht))]; exact h k o hk hne ht) hne ht
theorem oth_kept {w W : World} {b k : Nat} {cs : Array Value} {t : TypeId} (h : Lib.OthersKept 5 (some b) w W) (hk : w.heap[k]? = some (.cells cs t (0, 0))) (hb : b ≠ k) (ht : t ≠ 5) : W.heap[k]? = some (.cells cs t (0, 0)) :=
  h k _ hk (by simp only [ne_eq, Option.some.injEq]; omega) (fun c fz e => by injection e with _ e; exact ht e)
set_option maxHeartbeats 8000000 in
set_option maxRecDepth 100000 in
theorem writeTo_calls (w : World) (g : Nat) (s : Da.DA) (m : Da.Arr w g s) (B b : Nat) (hI : Lib.IsBuffer 71 5 B b [] w) (hS : B ≤ w.heap.size) (hg : g ≠ b) :
    Calls Tryz.prog 52 #[.slice (some ⟨g, 0, none⟩) s.n s.n, .iface 74 (.pointer (some ⟨b, 0, none⟩))] w fun e w' =>
      e = .returned (.tuple #[.int .i64 ((8 + 8 * s.n : Nat) : Int), .nilIface]) ∧ Lib.IsBuffer 71 5 B b (u8s (wrtD s s.n)) w' ∧ Below B w w' ∧ Lib.OthersKept 5 (some b) w w' := by
  have HC := Aside0.mk m
  have HI := Aside0.mk hI
  have HS := Aside0.mk hS
  have HN : Aside0 (s.n ≤ 1073741824) := ⟨m.big⟩
  have HG : Aside0 (∀ W, Lib.OthersKept 5 (some b) w W → W.heap[g]? = w.heap[g]?) := ⟨fun W hO => by
    obtain ⟨cells, h, _⟩ := m.ar
    rw [h]; exact hO g _ h (by simpa using hg) (fun c fz e => by injection e with _ e; exact absurd e (by decide))⟩
  have hlen : (0 : Int) ≤ s.n := by omega
  clear m hI hS hg
  go_enter Tryz.func52, Tryz.ntmps52
  go_wp2_with (first | (go_at_call 70; refine (write64 B b _ _ _ HI.out HS.out (by simp) (by simp)).mono ?_; rintro _ W0 ⟨rfl, hI_, hB_, hO_⟩; have HI_ := Aside0.mk hI_; have HB := Aside0.mk hB_; have HO := Aside0.mk hO_; have HS_ := Aside0.mk (Nat.le_trans HS.out hB_.size); clear HI HS hI_ hB_ hO_; have HI := HI_; have HS := HS_; clear HI_ HS_) | (go_at_call 71; refine (size64 _ _).mono ?_; rintro _ _ ⟨rfl, rfl⟩))
  go_loopg [4, 27] s.n (fun kq v4 v27 w' => ∃ (i : Nat), v27 = .int .i64 i ∧ v4 = .int .i64 ((8 + 8 * i : Nat) : Int) ∧ Aside0 (i + kq = s.n) ∧ Aside0 (Lib.IsBuffer 71 5 B b (u8s (wrtD s i)) w') ∧ Aside0 (Below B w w') ∧ Aside0 (B ≤ w'.heap.size) ∧ Aside0 (Lib.OthersKept 5 (some b) w w'))
  case atStart => exact ⟨0, rfl, rfl, ⟨by omega⟩, ⟨by have := HI.out; simpa [wrtD] using this⟩, HB, HS, HO⟩
  case round =>
    obtain ⟨i, rfl, rfl, HK, HI, HB, HS, HO⟩ := hrel
    by_cases c1 : (i : Int) < (s.n : Int)
    · have hgw := HG.out _ HO.out
      have y0 : wr.cell? ⟨g, i * 2, none⟩ = some (.int .i32 (s.B i)) := (cell_block (p := ⟨g, i * 2, none⟩) hgw).trans (HC.out.base i (by omega))
      have y1 : wr.cell? ⟨g, i * 2 + 1, none⟩ = some (.int .i32 (s.C i)) := (cell_block (p := ⟨g, i * 2 + 1, none⟩) hgw).trans (HC.out.chk i (by omega))
      have p1 : (0 : Int) ≤ i := by omega
      have c1b := decide_eq_true c1
      clear hgw
      have HN' := HN.out
      have e0 : wrap64 ((8 + 8 * i : Nat) : Int) = ((8 + 8 * i : Nat) : Int) := by rw [wrap_ok (by omega) (by omega)]
      have hbl : b < wr.heap.size := HI.out.lt
      have WR1 := Aside0.mk (write32 B b (u8s (wrtD s i)) (s.B i) (wr.alloc (.cells #[.int .i32 (s.B i), .int .i32 (s.C i)] 109)) (bufAlloc HI.out _) (by rw [Own.size_alloc]; have := HS.out; omega) (u8s_one _) (by have := HN.out; simp only [u8s, List.length_map, wrtD_len]; omega))
      go_wp2_with (first | (go_at_call 72; with_reducible refine Calls.mono WR2.out ?_; rintro _ W2 ⟨rfl, hI2, hB2, hO2⟩; rw [← u8s_app] at hI2; have HI2 := Aside0.mk hI2; have HB2 := Aside0.mk (HB1.out.trans hB2); have HS2 := Aside0.mk (Nat.le_trans HS1.out hB2.size); have HO2 := Aside0.mk (HO1.out.trans hO2); have z3 : W2.cell? ⟨wr.heap.size, 1, none⟩ = some (.int .i32 (s.C i)) := cells_at (oth_kept hO2 HBX.out (by omega) (by decide)) 1 _ rfl; clear hI2 hB2 hO2 z2) | (go_at_call 72; with_reducible refine Calls.mono WR1.out ?_; rintro _ W1 ⟨rfl, hI1, hB1, hO1⟩; rw [← u8s_app] at hI1; have HI1 := Aside0.mk hI1; have HB1 := Aside0.mk ((HB.out.alloc HS.out _).trans hB1); have HS1 : Aside0 (B ≤ W1.heap.size) := ⟨Nat.le_trans (by rw [Own.size_alloc]; have := HS.out; omega) hB1.size⟩; have HO1 := Aside0.mk (oth_thru HO.out _ hO1); have HBX := Aside0.mk (oth_kept hO1 (blk_new wr _) (by omega) (by decide)); have WR2 := Aside0.mk (write32 B b _ (s.C i) W1 HI1.out HS1.out (u8s_one _) (by have := HN.out; simp only [u8s, List.length_map, List.length_append, leb_length, wrtD_len]; omega)); have z1 : W1.cell? ⟨wr.heap.size, 0, none⟩ = some (.int .i32 (s.B i)) := cells_at HBX.out 0 _ rfl; have z2 : W1.cell? ⟨wr.heap.size, 1, none⟩ = some (.int .i32 (s.C i)) := cells_at HBX.out 1 _ rfl; clear hI1 hB1 hO1) | (go_at_call 73; refine (size32 _ _).mono ?_; rintro _ _ ⟨rfl, rfl⟩))
      have HK' := HK.out
      cases gk with
      | zero => omega
      | succ k9 =>
        go_roundg k9
        case measure => omega
        case rel => exact ⟨i + 1, int_eq (by omega), int_eq (by omega), ⟨by omega⟩, ⟨by rw [wrtD_succ]; exact HI2.out⟩, HB2, HS2, HO2⟩
    · have c1b := decide_eq_false c1
      obtain rfl : i = s.n := by have := HK.out; omega
      go_wp2_with fail
      go_ret2
      exact ⟨rfl, HI.out, HB.out, HO.out⟩
end Go.Proofs.YtaejkbjepbifcabGreatDoor.Num
namespace Go.Proofs.YtaejkbjepbifcabGreatDoor.Num
open Go.RowKit Go.Proofs.YtaejkbjepbifcabGreatDoorW.PrintWords Go.Proofs.YtaejkbjepbifcabGreatDoor.Plain
set_option linter.unusedVariables false
set_option linter.unusedSimpArgs false

def RdD (w : World) (r : Nat) (a : Addr) (n c l : Nat) (data : List Int) (e : Ending) (w' : World) : Prop :=
  (∃ G, e = .returned (.tuple #[.slice (some ⟨G, 0, none⟩) l l, .nilIface]) ∧ 8 + 8 * l ≤ n ∧ RS w w' r a n c 8 data G (l * 2) 109 (l * 2)) ∨
  (∃ v t x, e = .returned (.tuple #[v, .iface t x]) ∧ n < 8 + 8 * l ∧ Kp w w' (fun y => y = r))
theorem zeros_rcells (n : Nat) (data : List Int) : Da.zeros n = .cells (rcells 8 data (n * 2) 0) 109 := by
  unfold Da.zeros
  congr 1
  apply Array.ext
  · simp [rcells_size, size_madeCells]
  · intro j h1 h2
    have hj : j < n * 2 := by simpa [rcells_size] using h2
    apply Option.some.inj
    rw [← Array.getElem?_eq_getElem, ← Array.getElem?_eq_getElem, Da.madeCells_at _ _ hj, rcells_get _ _ _ _ _ hj]
    simp
theorem make_da (W : World) (l : Nat) (data : List Int) (hl : l ≤ 1073741824) :
    (Instr.makeSlice 50 (.int .i64 l) (.int .i64 l)).run Tryz.prog W = .ok (.slice (some ⟨W.heap.size, 0, none⟩) l l) (W.alloc (.cells (rcells 8 data (l * 2) 0) 109)) := by
  rw [← zeros_rcells]; exact Da.make_run W l (by omega)

set_option maxHeartbeats 8000000 in
set_option maxRecDepth 100000 in
theorem readDA_calls (w : World) (r : Nat) (a : Addr) (n c l : Nat) (pr : Int) (data : List Int) (x : Ctx w r a n c data) (hr : w.heap[r]? = some (rdr (some a) n c 0 pr))
    (h8 : 8 ≤ n) (hl : wrap64 (valb ((data.drop 0).take 8)) = l) (hln : l ≤ n) (hlb : l ≤ 1073741824) :
    Calls Tryz.prog 35 #[.iface 58 (.pointer (some ⟨r, 0, none⟩))] w (RdD w r a n c l data) := by
  have X := Aside0.mk x
  have HN : Aside0 (n ≤ 1000000000000) := ⟨x.few⟩
  have R1 := Aside0.mk (read64_ok (w.alloc (.cells #[.int .i64 0] 2)) r a n c 0 pr data w.heap.size 0 0 (blk_alloc hr _) (Kd.C_alloc x.row _) x.bytes h8 x.cap x.few x.ne (by rw [Own.size_alloc]; have := x.lt; omega)
    (cells_at (blk_new w _) 0 _ rfl) (froz_at (blk_new w _) 0) (by have := x.rlt; omega))
  have HL := Aside0.mk hl
  have MK := Aside0.mk fun (W : World) => make_da W l data hlb
  clear x hr hl
  go_enter Tryz.func35, Tryz.ntmps35
  go_wp2_with fail
  with_reducible refine Calls.mono R1.out ?_
  rintro _ W2 ⟨rfl, hk, h1, h2⟩
  have hL : W2.heap[w.heap.size]? = some (.cells #[.int .i64 l] 2 (0, 0)) := by
    rw [h2]
    exact blk_put (blk_new w _) 0 _ (by rw [HL.out]; rfl)
  have hk2 : Kp w W2 (fun y => y = r) := ⟨Nat.le_trans (by rw [Own.size_alloc]; omega) hk.1, fun i hi hS => by
    rw [hk.2 i (by rw [Own.size_alloc]; omega) (by rintro (h | h); exact hS h; omega), Below.heap_alloc _ _ _ hi], Env.trans (show Env w _ from ⟨rfl, rfl, rfl⟩) hk.env⟩
  have y0 : W2.cell? ⟨w.heap.size, 0, none⟩ = some (.int .i64 l) := cells_at hL 0 _ rfl
  have hmk := MK.out
  have HS0 : Aside0 (RS w (W2.alloc (.cells (rcells 8 data (l * 2) 0) 109)) r a n c 8 data W2.heap.size (l * 2) 109 0) :=
    ⟨⟨blk_alloc h1 _, blk_new W2 _, ⟨by rw [Own.size_alloc]; have := hk2.1; omega, fun i hi hS => by rw [Below.heap_alloc _ _ _ (Nat.lt_of_lt_of_le hi hk2.1)]; exact hk2.2 i hi hS, hk2.env.trans ⟨rfl, rfl, rfl⟩⟩, hk2.1⟩⟩
  obtain ⟨G, hG⟩ : ∃ G, G = W2.heap.size := ⟨_, rfl⟩
  clear hk hk2 h1 h2 hL
  go_wp2_with fail
  rw [← hG] at HS0 ⊢
  obtain ⟨W3, hW3⟩ : ∃ W3, W3 = W2.alloc (.cells (rcells 8 data (l * 2) 0) 109) := ⟨_, rfl⟩
  rw [← hW3] at HS0 ⊢
  clear hW3 hG hmk MK y0 R1
  go_loopg [20] l (fun kq v20 w' => ∃ (i : Nat), v20 = .int .i64 i ∧ Aside0 (i + kq = l) ∧ Aside0 (RS w w' r a n c 8 data G (l * 2) 109 (i * 2)) ∧ Aside0 (8 + 8 * i ≤ n))
  case atStart => exact ⟨0, rfl, ⟨by omega⟩, HS0, ⟨by omega⟩⟩
  case round =>
    obtain ⟨i, rfl, HK, HS, HF⟩ := hrel
    by_cases c1 : (i : Int) < (l : Int)
    · have p1 : (0 : Int) ≤ i := by omega
      have c1b := decide_eq_true c1
      by_cases f1 : 8 + 4 * (i * 2) + 4 ≤ n
      · have f1' := f1
        have S1 := Aside0.mk (HS.out.step_ok X.out (by omega) (by omega))
        go_wp2_with fail
        with_reducible refine Calls.mono S1.out ?_
        rintro _ W4 ⟨rfl, hS⟩
        have HS2 := Aside0.mk hS
        clear hS
        by_cases f2 : 8 + 4 * (i * 2 + 1) + 4 ≤ n
        · have f2' := f2
          have S2 := Aside0.mk (HS2.out.step_ok X.out (by omega) (by omega))
          go_wp2_with fail
          with_reducible refine Calls.mono S2.out ?_
          rintro _ W5 ⟨rfl, hS⟩
          have HS3 := Aside0.mk hS
          clear hS
          go_wp2_with fail
          have HK' := HK.out
          have HN' := HN.out
          cases gk with
          | zero => omega
          | succ k9 =>
            go_roundg k9
            case measure => omega
            case rel => exact ⟨i + 1, int_eq (by first | omega | (rw [wrap_ok (by omega) (by omega)]; omega)), ⟨by omega⟩, ⟨by rw [show (i + 1) * 2 = i * 2 + 1 + 1 by omega]; exact HS3.out⟩, ⟨by omega⟩⟩
        · have f2' := f2
          have S2 := Aside0.mk (HS2.out.step_short X.out (by omega) (by omega) (by have := HF.out; omega))
          go_wp2_with fail
          with_reducible refine Calls.mono S2.out ?_
          rintro _ W5 ⟨t, y, rfl, hK⟩
          have HKK := Aside0.mk hK
          clear hK
          go_wp2_with fail
          go_ret2
          exact .inr ⟨_, t, y, rfl, by omega, HKK.out⟩
      · have f1' := f1
        have S1 := Aside0.mk (HS.out.step_short X.out (by omega) (by omega) (by have := HF.out; omega))
        go_wp2_with fail
        with_reducible refine Calls.mono S1.out ?_
        rintro _ W4 ⟨t, y, rfl, hK⟩
        have HKK := Aside0.mk hK
        clear hK
        go_wp2_with fail
        go_ret2
        exact .inr ⟨_, t, y, rfl, by omega, HKK.out⟩
    · have c1b := decide_eq_false c1
      obtain rfl : i = l := by have := HK.out; omega
      go_wp2_with fail
      go_ret2
      exact .inl ⟨G, rfl, HF.out, HS.out⟩

end Go.Proofs.YtaejkbjepbifcabGreatDoor.Num
namespace Go.Proofs.YtaejkbjepbifcabGreatDoor.Num
open Go.RowKit Go.Proofs.YtaejkbjepbifcabGreatDoorW.PrintWords Go.Proofs.YtaejkbjepbifcabGreatDoor.Plain
set_option linter.unusedVariables false
set_option linter.unusedSimpArgs false

theorem valb_leb4 (u : Int) (h : 0 ≤ u) : valb (leb 4 u) = u % 4294967296 := by
  rw [leb4]; simp only [valb]; omega
theorem valb_leb8 (u : Int) (h : 0 ≤ u) (h2 : u < 18446744073709551616) : valb (leb 8 u) = u := by
  rw [leb8]; simp only [valb]; omega
theorem back32 (b : Int) (h : -2147483647 ≤ b) (h2 : b ≤ 2147483647) : wrap32 (valb (leb 4 (b % 18446744073709551616))) = b := by
  rw [valb_leb4 _ (by omega)]; unfold wrap32; omega
theorem cby_at (s : Da.DA) (n i : Nat) (hi : i < n) : ∃ r, (List.range n).flatMap (cby s) = (List.range i).flatMap (cby s) ++ (cby s i ++ r) := by
  obtain ⟨m, rfl⟩ : ∃ m, n = i + (m + 1) := ⟨n - i - 1, by omega⟩
  rw [List.range_add, List.flatMap_append, List.range_succ_eq_map, List.map_cons, List.flatMap_cons]
  exact ⟨_, rfl⟩
theorem wrtD_at (s : Da.DA) (n i : Nat) (hi : i < n) : ((wrtD s n).drop (8 + 8 * i)).take 4 = leb 4 (s.B i % 18446744073709551616) ∧ ((wrtD s n).drop (8 + 8 * i + 4)).take 4 = leb 4 (s.C i % 18446744073709551616) := by
  obtain ⟨r, hr⟩ := cby_at s n i hi
  have hw : wrtD s n = wrtD s i ++ (leb 4 (s.B i % 18446744073709551616) ++ (leb 4 (s.C i % 18446744073709551616) ++ r)) := by
    unfold wrtD
    rw [hr]; simp only [cby, List.append_assoc]
  have hl := wrtD_len s i
  rw [hw]
  constructor
  · rw [List.drop_left' hl, List.take_left' (leb_length 4 _)]
  · rw [← List.drop_drop, List.drop_left' hl, List.drop_left' (leb_length 4 _), List.take_left' (leb_length 4 _)]
theorem wrtD_head (s : Da.DA) (n : Nat) (h : s.n ≤ 1073741824) : valb ((wrtD s n).take 8) = s.n := by
  unfold wrtD
  rw [List.take_left' (leb_length 8 _), valb_leb8 _ (by omega) (by omega)]
  omega
theorem val_B (s : Da.DA) (n i : Nat) (hi : i < n) (h : -2147483647 ≤ s.B i ∧ s.B i ≤ 2147483647) : val 8 (wrtD s n) (i * 2) = s.B i := by
  unfold val
  rw [show 8 + 4 * (i * 2) = 8 + 8 * i by omega, (wrtD_at s n i hi).1, back32 _ h.1 h.2]
theorem val_C (s : Da.DA) (n i : Nat) (hi : i < n) (h : -2147483647 ≤ s.C i ∧ s.C i ≤ 2147483647) : val 8 (wrtD s n) (i * 2 + 1) = s.C i := by
  unfold val
  rw [show 8 + 4 * (i * 2 + 1) = 8 + 8 * i + 4 by omega, (wrtD_at s n i hi).2, back32 _ h.1 h.2]
theorem wrtD_bytes (s : Da.DA) (n : Nat) : ∀ x ∈ wrtD s n, 0 ≤ x ∧ x < 256 := fun x hx => by
  unfold wrtD at hx
  rcases List.mem_append.1 hx with h | h
  · exact leb_one 8 _ x h
  · obtain ⟨i, _, h⟩ := List.mem_flatMap.1 h
    unfold cby at h
    rcases List.mem_append.1 h with h | h
    · exact leb_one 4 _ x h
    · exact leb_one 4 _ x h
def Small (s : Da.DA) : Prop := (∀ i, i < s.n → -2147483647 ≤ s.B i ∧ s.B i ≤ 2147483647 ∧ -2147483647 ≤ s.C i ∧ s.C i ≤ 2147483647) ∧ s.n ≤ 1073741824
theorem arr_of {W : World} {G : Nat} {s : Da.DA} (hs : Small s) (h : W.heap[G]? = some (.cells (rcells 8 (wrtD s s.n) (s.n * 2) (s.n * 2)) 109 (0, 0))) : Da.Arr W G s :=
  ⟨⟨_, h, rcells_size _ _ _ _, fun i hi => ⟨by
    rw [rcells_get _ _ _ _ _ (by omega), if_pos (by omega), val_B s s.n i hi ⟨(hs.1 i hi).1, (hs.1 i hi).2.1⟩], by
    rw [rcells_get _ _ _ _ _ (by omega), if_pos (by omega), val_C s s.n i hi ⟨(hs.1 i hi).2.2.1, (hs.1 i hi).2.2.2⟩]⟩⟩, hs.1, hs.2⟩
end Go.Proofs.YtaejkbjepbifcabGreatDoor.Num
namespace Go.Proofs.YtaejkbjepbifcabGreatDoor.IxN
open Go.RowKit Go.Maps Go.Proofs.YtaejkbjepbifcabGreatDoorW.PrintWords Go.Proofs.YtaejkbjepbifcabGreatDoor.Plain Go.Proofs.YtaejkbjepbifcabGreatDoor.Num
set_option linter.unusedVariables false
set_option linter.unusedSimpArgs false
structure KeysFor (f : Int → Int) (ks : List Int) : Prop where
  all : ∀ k, f k ≠ 0 → k ∈ ks
  wf : ∀ k ∈ ks, -2147483648 ≤ k ∧ k ≤ 2147483647
  nz : ∀ k ∈ ks, f k ≠ 0
  few : ks.length ≤ 1000000
theorem KeysFor.perm {f : Int → Int} {ks l : List Int} (h : KeysFor f ks) (p : l.Perm ks) : KeysFor f l :=
  ⟨fun k hk => p.mem_iff.2 (h.all k hk), fun k hk => h.wf k (p.mem_iff.1 hk), fun k hk => h.nz k (p.mem_iff.1 hk), by rw [p.length_eq]; exact h.few⟩
def eby (f : Int → Int) (k : Int) : List Int := leb 4 (k % 18446744073709551616) ++ leb 4 (f k % 18446744073709551616)
def ixB (s : Da.DA) (f : Int → Int) (ks : List Int) (i : Nat) : List Int := wrtD s s.n ++ leb 8 ((ks.length : Int) % 18446744073709551616) ++ (ks.take i).flatMap (eby f)
theorem ebys_len (f : Int → Int) : ∀ l : List Int, (l.flatMap (eby f)).length = 8 * l.length
  | [] => rfl
  | k :: l => by rw [List.flatMap_cons, List.length_append, ebys_len f l]; simp [eby, leb_length]; omega
theorem ixB_len (s : Da.DA) (f : Int → Int) (ks : List Int) (i : Nat) (hi : i ≤ ks.length) : (ixB s f ks i).length = 16 + 8 * s.n + 8 * i := by
  simp only [ixB, List.length_append, wrtD_len, leb_length, ebys_len, List.length_take]; omega
theorem ixB_zero (s : Da.DA) (f : Int → Int) (ks : List Int) : ixB s f ks 0 = wrtD s s.n ++ leb 8 ((ks.length : Int) % 18446744073709551616) := by simp [ixB]
theorem ixB_succ (s : Da.DA) (f : Int → Int) (ks : List Int) (i : Nat) (hi : i < ks.length) : ixB s f ks (i + 1) = ixB s f ks i ++ leb 4 (ks.getD i 0 % 18446744073709551616) ++ leb 4 (f (ks.getD i 0) % 18446744073709551616) := by
  have e : ks.take (i + 1) = ks.take i ++ [ks.getD i 0] := by
    rw [List.take_succ_eq_append_getElem hi, List.getD_eq_getElem?_getD, List.getElem?_eq_getElem hi]; rfl
  simp only [ixB, e, List.flatMap_append, List.flatMap_cons, List.flatMap_nil, List.append_nil, eby, List.append_assoc]
structure WS (w wr : World) (B b xb g n mb : Nat) (f : Int → Int) (bs : List Int) : Prop where
  buf : Lib.IsBuffer 71 5 B b (u8s bs) wr
  below : Below B w wr
  sz : B ≤ wr.heap.size
  box : wr.heap[xb]? = some (.cells #[.slice (some ⟨g, 0, none⟩) n n, .map (some mb)] 53 (0, 0))
  bx : b ≠ xb
  dup : Da.DupM wr mb f
  mlt : mb < B
theorem WS.blt {w wr : World} {B b xb g n mb : Nat} {f : Int → Int} {bs : List Int} (h : WS w wr B b xb g n mb f bs) : b < wr.heap.size := h.buf.lt
theorem WS.put {w wr w2 : World} {B b xb g n mb : Nat} {f : Int → Int} {bs l : List Int} (h : WS w wr B b xb g n mb f bs) (hI : Lib.IsBuffer 71 5 B b (u8s bs ++ u8s l) w2) (hB : Below B wr w2) (hO : Lib.OthersKept 5 (some b) wr w2) : WS w w2 B b xb g n mb f (bs ++ l) :=
  ⟨by rw [u8s_app]; exact hI, h.below.trans hB, Nat.le_trans h.sz hB.size, oth_kept hO h.box h.bx (by decide), h.bx, h.dup.step (hB.block _ h.mlt), h.mlt⟩
theorem WS.carry {w wr w2 : World} {B b xb g n mb : Nat} {f : Int → Int} {bs : List Int} (h : WS w wr B b xb g n mb f bs) (hB : Below wr.heap.size wr w2) : WS w w2 B b xb g n mb f bs :=
  ⟨bufCarry h.buf (fun k hk => hB.block k hk), h.below.trans (hB.mono h.sz), Nat.le_trans h.sz hB.size, (hB.block _ (blk_lt h.box)).trans h.box, h.bx, h.dup.step (hB.block _ h.dup.lt), h.mlt⟩
theorem WS.cells {w wr : World} {B b xb g n mb : Nat} {f : Int → Int} {bs : List Int} (h : WS w wr B b xb g n mb f bs) : wr.cell? ⟨xb, 0, none⟩ = some (.slice (some ⟨g, 0, none⟩) n n) ∧ wr.cell? ⟨xb, 1, none⟩ = some (.map (some mb)) :=
  ⟨cells_at h.box 0 _ rfl, cells_at h.box 1 _ rfl⟩
theorem dup_look {w : World} {mb : Nat} {f : Int → Int} (h : Da.DupM w mb f) (k : Int) (hk : -2147483648 ≤ k ∧ k ≤ 2147483647) : (Instr.lookup 51 (.map (some mb)) (.int .i32 k) false).run Tryz.prog w = .ok (.int .i32 (f k)) w := by
  obtain ⟨n, D, h1, h2, h3, h4⟩ := h
  have hkey : keyOf Tryz.prog 21 (.int .i32 k) = some (.int .i32 k) := keyOf_int_mk Tryz.underlying21 (Go.WalkArith.wf_i32 (by omega))
  obtain ⟨c, hrun, hat, hwc⟩ := h2.lookup_int Da.key_i32 Tryz.underlying51 Tryz.underlying21 (Da.zero_i32 w) hkey
  rw [h3.at_] at hat
  rw [hrun]
  by_cases e : f k = 0
  · rw [if_pos e] at hat
    rw [← Da.lit_eq hat, e]
  · rw [if_neg e] at hat
    rw [← Da.lit_eq hat]
theorem size_le {w : World} {mb N : Nat} {D : DataW Unit} (h : Da.OMap w mb N D) : Maps.size D ≤ N := by
  obtain ⟨es, clock, hb, F, hs, rfl⟩ := h
  simpa [Maps.size, length_sorted] using hs
structure RgS (W wr : World) (mb r N : Nat) (D : DataW Unit) (f : Int → Int) (left : Lit → Bool) (cnt : Nat) (v : Value) (ks : List Int) : Prop where
  rg : wr.ranges Tryz.prog 21 (plainElem (H := Unit) Tryz.prog 21) mb r N D left cnt
  bel : Below W.heap.size W wr
  row : ∃ G cap, v = .slice (some ⟨G, 0, none⟩) ks.length cap ∧ W.heap.size ≤ G ∧ G ≠ r
  own : wr.ownsRow W.heap.size 21 1 v ks.length (ks.map (Value.int .i32))
  come : ∀ k : Int, has D (.int .i32 k) = true → left (.int .i32 k) = true ∨ k ∈ ks
  wf : ∀ k ∈ ks, -2147483648 ≤ k ∧ k ≤ 2147483647
  nz : ∀ k ∈ ks, f k ≠ 0
  few : ks.length + cnt ≤ Maps.size D
theorem wf_of {x : Int} (h : (Lit.int .i32 x).wf = true) : -2147483648 ≤ x ∧ x ≤ 2147483647 := by
  simp [Lit.wf, IntKind.min, IntKind.max, IntKind.signed, IntKind.bits] at h
  omega
theorem RgS.done {W wr : World} {mb r N : Nat} {D : DataW Unit} {f : Int → Int} {left : Lit → Bool} {cnt : Nat} {v : Value} {ks : List Int} (h : RgS W wr mb r N D f left cnt v ks) (hl : ∀ kl, left kl = false) (hD : Da.DupD D f) (hN : Maps.size D ≤ 1000000) : KeysFor f ks := by
  refine ⟨fun k hk => ?_, h.wf, h.nz, by have := h.few; omega⟩
  have hh : has D (.int .i32 k) = true := has_true_of_atKey (y := .lit (.int .i32 (f k))) (fun z => by rw [hD.at_, if_neg hk])
  rcases h.come k hh with e | e
  · rw [hl] at e; cases e
  · exact e
theorem own_carry {w w' : World} {base G n cap : Nat} {xs : List Value} (h : w.ownsRow base 21 1 (.slice (some ⟨G, 0, none⟩) n cap) n xs) (e : w'.heap[G]? = w.heap[G]?) : w'.ownsRow base 21 1 (.slice (some ⟨G, 0, none⟩) n cap) n xs := by
  obtain ⟨h0, h | ⟨g, cap', cur, e0, h1, h2, h3⟩⟩ := h
  · cases h.1
  · have e1 := e0
    injection e1 with e1 e2 e3
    injection e1 with e1
    injection e1 with e1
    subst e1
    exact ⟨h0, .inr ⟨G, cap', cur, e0, h1, e.trans h2, h3⟩⟩
theorem own_lt {w : World} {base G n cap : Nat} {xs : List Value} (h : w.ownsRow base 21 1 (.slice (some ⟨G, 0, none⟩) n cap) n xs) : G < w.heap.size := by
  obtain ⟨h0, h | ⟨g, cap', cur, e0, h1, h2, h3⟩⟩ := h
  · cases h.1
  · injection e0 with e1 e2 e3
    injection e1 with e1
    injection e1 with e1
    subst e1
    exact blk_lt h2
theorem RgS.took {W wr w3 : World} {mb r N : Nat} {D : DataW Unit} {f : Int → Int} {left : Lit → Bool} {cnt G cap : Nat} {ks : List Int} (h : RgS W wr mb r N D f left cnt (.slice (some ⟨G, 0, none⟩) ks.length cap) ks) (hg : wr.grownBy w3 (some r)) (hGr : G ≠ r) (hr : W.heap.size ≤ r) :
    w3.ownsRow W.heap.size 21 1 (.slice (some ⟨G, 0, none⟩) ks.length cap) ks.length (ks.map (Value.int .i32)) ∧ Below W.heap.size W w3 :=
  ⟨own_carry h.own (hg.block G (own_lt h.own) (by simpa using hGr)), ⟨by rw [hg.os, h.bel.os], by rw [hg.tape, h.bel.tape], by rw [hg.output, h.bel.output], Nat.le_trans h.bel.size hg.size, fun k hk => by
    rw [hg.block k (Nat.lt_of_lt_of_le hk h.bel.size) (by simp only [ne_eq, Option.some.injEq]; omega), h.bel.block k hk]⟩⟩
theorem RgS.step {W wr w3 w4 : World} {mb r N : Nat} {D : DataW Unit} {f : Int → Int} {left : Lit → Bool} {cnt cnt1 G cap : Nat} {ks : List Int} {x : Int} {v1 : Value} (h : RgS W wr mb r N D f left cnt (.slice (some ⟨G, 0, none⟩) ks.length cap) ks)
    (hrg1 : w3.ranges Tryz.prog 21 (plainElem (H := Unit) Tryz.prog 21) mb r N D (fun z => left z && !z.sameKey (.int .i32 x)) cnt1) (hlt : cnt1 < cnt) (hx : -2147483648 ≤ x ∧ x ≤ 2147483647) (hfx : f x ≠ 0) (hGr : G ≠ r) (hG : W.heap.size ≤ G) (hmb : mb < W.heap.size)
    (hown : w4.ownsRow W.heap.size 21 1 v1 (ks.length + 1) (ks.map (Value.int .i32) ++ [.int .i32 x])) (hb : Below W.heap.size W w4) (hg : w3.grownBy w4 (Value.slice (some ⟨G, 0, none⟩) ks.length cap).ownBlock) (hat : v1.ownBlock = (Value.slice (some ⟨G, 0, none⟩) ks.length cap).ownBlock ∨ ∃ b, v1.ownBlock = some b ∧ w3.heap.size ≤ b) :
    RgS W w4 mb r N D f (fun z => left z && !z.sameKey (.int .i32 x)) cnt1 v1 (ks ++ [x]) := by
  have hrl := hrg1.lt
  have hrow : ∃ G' cap', v1 = .slice (some ⟨G', 0, none⟩) (ks.length + 1) cap' ∧ W.heap.size ≤ G' := by
    obtain ⟨h0, h | ⟨g, cap', cur, e0, h1, h2, h3⟩⟩ := hown
    · have := h.2; omega
    · exact ⟨g, cap', e0, h1⟩
  obtain ⟨G', cap', rfl, hG'⟩ := hrow
  have hne : G' ≠ r := by
    rcases hat with e | ⟨b, e, hbb⟩
    · simp only [Value.ownBlock, Option.some.injEq] at e; omega
    · simp only [Value.ownBlock, Option.some.injEq] at e; omega
  refine ⟨hrg1.kept hg (by simp only [Value.ownBlock, ne_eq, Option.some.injEq]; omega) (by simp only [Value.ownBlock, ne_eq, Option.some.injEq]; omega), hb, ⟨G', cap', by simp, hG', hne⟩, by simpa using hown, fun k hk => ?_, fun k hk => ?_, fun k hk => ?_, by have := h.few; simp; omega⟩
  · rcases h.come k hk with e | e
    · by_cases ek : k = x
      · exact .inr (by rw [ek]; simp)
      · refine .inl ?_
        have : (Lit.int .i32 k).sameKey (.int .i32 x) = false := by simp [Lit.sameKey, ek]
        simp [e, this]
    · exact .inr (by simp [e])
  · rcases List.mem_append.1 hk with e | e
    · exact h.wf k e
    · rw [List.mem_singleton.1 e]; exact hx
  · rcases List.mem_append.1 hk with e | e
    · exact h.nz k e
    · rw [List.mem_singleton.1 e]; exact hfx
theorem nz_of {D : DataW Unit} {f : Int → Int} (h : Da.DupD D f) {x c : Int} (hat : ∀ zd, D.atKey (.int .i32 x) zd = .lit (.int .i32 c)) : f x ≠ 0 := by
  intro e
  have := (h.at_ x .nil).symm.trans (hat .nil)
  rw [if_pos e] at this
  cases this
theorem info_i32 : (Tryz.prog.info? 21).map (fun i => (i.zero, i.size, i.bytes)) = some (some (.int .i32 0), 1, 4) := by kernel_rfl
abbrev i32Zeros (n : Nat) : Obj := .cells (madeCells #[.int .i32 0] n) 21 (0, 0)
theorem make_room32 (W : World) (n : Nat) (hn : n ≤ 1073741824) : (Instr.makeSlice 103 (.int .i64 0) (.int .i64 (n : Int))).run Tryz.prog W = .ok (.slice (some ⟨W.heap.size, 0, none⟩) 0 n) (W.alloc (i32Zeros n)) := by
  obtain ⟨i, hi, hz⟩ := Option.map_eq_some_iff.1 info_i32
  simp only [Prod.mk.injEq] at hz
  obtain ⟨h1, h2, h3⟩ := hz
  have := run_make (P := Tryz.prog) W 103 21 i _ Tryz.underlying103 hi h1 .i64 .i64 0 (n : Int) (by omega) (by omega) (by rw [h3]; omega) (by omega)
  rw [this, h2]
  simp only [Int.toNat_natCast, Nat.mul_one]
  rfl
theorem row_of {wr : World} {base n G cap : Nat} {ks : List Int} (h : wr.ownsRow base 21 1 (.slice (some ⟨G, 0, none⟩) n cap) n (ks.map (Value.int .i32))) (hl : ks.length = n) (hn : n ≤ 1000000000) : So.RowI wr G n ks := by
  obtain ⟨h0, h | ⟨g, cap', cur, e, h1, h2, h3, h4, h5, h6⟩⟩ := h
  · cases h.1
  · injection e with e1 e2 e3
    injection e1 with e1
    injection e1 with e1
    subst e1
    refine ⟨⟨cur, h2, by omega, fun j hj => ?_⟩, hl, hn⟩
    have e4 : cur.toList[j]? = (ks.map (Value.int .i32))[j]? := by rw [← h6, List.getElem?_take_of_lt (by omega)]
    rw [Array.getElem?_toList] at e4
    rw [e4, List.getElem?_map, List.getElem?_eq_getElem (by omega), List.getD_eq_getElem?_getD, List.getElem?_eq_getElem (by omega)]
    rfl
theorem row_keep {w w2 : World} {G n b : Nat} {l : List Int} (h : So.RowI w G n l) (hO : Lib.OthersKept 5 (some b) w w2) (hb : b ≠ G) : So.RowI w2 G n l := by
  obtain ⟨cur, h1, _⟩ := h.ar
  exact h.step (by rw [h1]; exact oth_kept hO h1 hb (by decide))
theorem srt_below {W wr w5 : World} {G n : Nat} {l0 l : List Int} (h : Below W.heap.size W wr) (k : So.SrtE wr w5 G n l0 l) (hG : W.heap.size ≤ G) : Below W.heap.size W w5 :=
  ⟨by rw [k.kp.env.1, h.os], by rw [k.kp.env.2.1, h.tape], by rw [k.kp.env.2.2, h.output], Nat.le_trans h.size k.kp.size, fun i hi => by rw [k.kp.old i (Nat.lt_of_lt_of_le hi h.size) (by omega), h.block i hi]⟩
end Go.Proofs.YtaejkbjepbifcabGreatDoor.IxN
namespace Go.Proofs.YtaejkbjepbifcabGreatDoor.IxN
open Go.RowKit Go.Maps Go.Proofs.YtaejkbjepbifcabGreatDoorW.PrintWords Go.Proofs.YtaejkbjepbifcabGreatDoor.Plain Go.Proofs.YtaejkbjepbifcabGreatDoor.Num
set_option linter.unusedVariables false
set_option linter.unusedSimpArgs false
def IWE (w w' : World) (s : Da.DA) (f : Int → Int) (B b : Nat) (e : Ending) : Prop :=
  ∃ ks : List Int, e = .returned (.tuple #[.int .i64 ((16 + 8 * s.n + 8 * ks.length : Nat) : Int), .nilIface]) ∧ KeysFor f ks ∧ Lib.IsBuffer 71 5 B b (u8s (ixB s f ks ks.length)) w' ∧ Below B w w' ∧ B ≤ w'.heap.size
set_option maxHeartbeats 16000000 in
set_option maxRecDepth 100000 in
theorem iwriteTo_calls (w : World) (g mb : Nat) (s : Da.DA) (L : Da.Keys) (f : Int → Int) (X : Da.IxW w g s mb L f) (B b : Nat) (hI : Lib.IsBuffer 71 5 B b [] w) (hS : B ≤ w.heap.size) (hg : g < B) (hm : mb < B) :
    Calls Tryz.prog 32 #[.agg #[.slice (some ⟨g, 0, none⟩) s.n s.n, .map (some mb)], .iface 74 (.pointer (some ⟨b, 0, none⟩))] w fun e w' => IWE w w' s f B b e := by
  have hbB : B ≤ b := hI.1
  have hbw := hI.lt
  have hbig : s.n ≤ 1073741824 := X.arr.big
  have h1 := Aside0.mk (writeTo_calls (w.alloc (.cells #[.slice (some ⟨g, 0, none⟩) s.n s.n, .map (some mb)] 53)) g s (X.arr.step (heap_alloc_old w _ X.arr.lt)) B b (bufAlloc hI _) (by rw [Own.size_alloc]; omega) (by omega))
  have HX := Aside0.mk X
  have HN := Aside0.mk (And.intro hS (And.intro hg (And.intro hm (And.intro hbB hbw))))
  have hx0 : (w.alloc (.cells #[.slice (some ⟨g, 0, none⟩) s.n s.n, .map (some mb)] 53)).heap[w.heap.size]? = some (.cells #[.slice (some ⟨g, 0, none⟩) s.n s.n, .map (some mb)] 53 (0, 0)) := blk_new w _
  have HX0 := Aside0.mk hx0
  obtain ⟨xb, hxb⟩ : ∃ xb, w.heap.size = xb := ⟨_, rfl⟩
  clear X hI hx0 hbB hbw hS hg hm
  go_enter Tryz.func32, Tryz.ntmps32
  go_wp2_with fail
  with_reducible refine Calls.mono h1.out ?_
  rintro e_ W0 ⟨rfl, hI0, hB0, hO0⟩
  have hWS : WS w W0 B b xb g s.n mb f (wrtD s s.n) := by
    have hB1 : Below B w W0 := (below_alloc (Below.refl _ w) _ |>.mono HN.out.1).trans hB0
    exact ⟨hI0, hB1, Nat.le_trans HN.out.1 hB1.size, by rw [← hxb]; exact oth_kept hO0 HX0.out (by have := HN.out; omega) (by decide), by have := HN.out; omega, HX.out.dup.step (hB1.block _ HN.out.2.2.1), HN.out.2.2.1⟩
  have HW0 := Aside0.mk hWS
  obtain ⟨N, D, hN, hD1, hD2, hD3⟩ := hWS.dup
  have hMN : Maps.size D ≤ 1000000 := Nat.le_trans (size_le hD1) hN
  obtain ⟨M, hM⟩ : ∃ M, M = Maps.size D := ⟨_, rfl⟩
  have hlen : ∀ ty, (Builtin.len_ #[51] ty #[.map (some mb)]).run Tryz.prog W0 = .ok (.int .i64 (M : Int)) W0 := fun ty => by rw [hM]; exact hD1.len (P := Tryz.prog) Tryz.underlying51 ty
  rw [← hM] at hMN
  have hmk := make_room32 W0 M (by omega)
  have HM := Aside0.mk hM
  have HD := Aside0.mk hD2
  have HSZ := Aside0.mk (And.intro hMN hN)
  have HMB : Aside0 (mb < W0.heap.size) := ⟨hD1.lt⟩
  obtain ⟨c0, c1⟩ := hWS.cells
  have d1 : (W0.alloc (i32Zeros M)).cell? ⟨xb, 1, none⟩ = some (.map (some mb)) := cells_at (show (W0.alloc (i32Zeros M)).heap[xb]? = _ from (heap_alloc_old W0 _ (blk_lt hWS.box)).trans hWS.box) 1 _ rfl
  have hown := hD1.kept (World.grownBy_alloc W0 (i32Zeros M) none) (by simp)
  have hs1 : (W0.alloc (i32Zeros M)).heap.size = W0.heap.size + 1 := Own.size_alloc _ _
  have HO1 := Aside0.mk hown
  obtain ⟨Z, hZ⟩ : ∃ Z, Z = i32Zeros M := ⟨_, rfl⟩
  rw [← hZ] at hmk d1 hown hs1 HO1
  have HZ := Aside0.mk hZ
  clear hWS hI0 hB0 hO0 hM hD1 hD2 hD3 hN hMN h1 hZ hown hs1
  go_upto_region 5 with fail
  obtain ⟨w1, hw1⟩ : ∃ w1, w1 = W0.alloc Z := ⟨_, rfl⟩
  rw [← hw1] at d1 HO1
  rw [← hw1]
  have HW1 := Aside0.mk hw1
  clear hw1 hlen hmk c0 c1
  go_wp2_with (at_range; refine wpList_range_own _ rfl _ 51 rfl 21 21 Da.key_i32 Tryz.underlying51 _ mb N D rfl HO1.out ?_; intro w2 hrg0 hg0 hs0)
  go_frame
  have hsz1 : w1.heap.size = W0.heap.size + 1 := by rw [HW1.out, Own.size_alloc]
  obtain ⟨r, hr⟩ : ∃ r, w1.heap.size = r := ⟨_, rfl⟩
  rw [hr] at hrg0 ⊢
  have hR0 : RgS W0 w2 mb r N D f (has D) (Maps.size D) (.slice (some ⟨W0.heap.size, 0, none⟩) 0 M) [] := by
    refine ⟨hrg0, ?_, ⟨W0.heap.size, M, rfl, Nat.le_refl _, by omega⟩, ?_, fun k hk => .inl hk, (fun k hk => by cases hk), (fun k hk => by cases hk), by simp⟩
    · exact ⟨by rw [hg0.os, HW1.out]; rfl, by rw [hg0.tape, HW1.out]; rfl, by rw [hg0.output, HW1.out]; rfl, by omega, fun k hk => by rw [hg0.block k (by omega) (by simp), HW1.out]; exact heap_alloc_old W0 _ hk⟩
    · have e : w2.heap[W0.heap.size]? = some (i32Zeros M) := by rw [hg0.block _ (by omega) (by simp), HW1.out, HZ.out]; exact blk_new W0 _
      refine ⟨rfl, .inr ⟨W0.heap.size, M, _, rfl, Nat.le_refl _, e, Nat.zero_le _, by have := HSZ.out; unfold maxLen; omega, by rw [size_madeCells, Nat.mul_one], by simp⟩⟩
  have HR0 := Aside0.mk hR0
  clear hrg0 hg0 hs0 hR0 d1 HO1
  go_loopw [6] (fun v6 wr => ∃ (left : Lit → Bool) (cnt : Nat) (ks : List Int), Aside0 (RgS W0 wr mb r N D f left cnt v6 ks)) (fun _ wr => wr.rangeLeft mb r)
  case atStart => exact ⟨_, _, [], HR0⟩
  case round =>
    clear HR0
    obtain ⟨left, cnt, ks, HR⟩ := hrel
    go_wp2_with (at_next; refine wpList_next_ranges_ii _ rfl _ rfl 21 21 .i32 .i32 Da.key_i32 Tryz.underlying21 Tryz.underlying21 mb r N _ _ _ rfl HR.out.rg ?_ ?_)
    · intro hc0 hl0
      have HK := Aside0.mk (HR.out.done hl0 HD.out (by rw [← HM.out]; exact HSZ.out.1))
      obtain ⟨G, cap, rfl, hG, hGr⟩ := HR.out.row
      have hks : ks.length ≤ 1000000 := HK.out.few
      obtain ⟨n, hn⟩ : ∃ n, n = ks.length := ⟨_, rfl⟩
      have hown := HR.out.own
      rw [← hn] at hown hks ⊢
      have HC := Aside0.mk (So.sort_calls wr G n cap ks (row_of hown hn.symm (by omega)))
      have HN2 := Aside0.mk (And.intro hn (And.intro hG hks))
      have hnz : (n : Int) ≤ 1000000 := by omega
      clear hl0 hown hn hG hGr hks hc0
      go_wp2_with fail
      with_reducible refine Calls.mono HC.out ?_
      rintro e_ w5 ⟨rfl, l, hSE⟩
      have hW5 : WS w w5 B b xb g s.n mb f (wrtD s s.n) := HW0.out.carry (srt_below HR.out.bel hSE HN2.out.2.1)
      have HKL := Aside0.mk (HK.out.perm hSE.perm)
      have hbG : b ≠ G := by have := HW0.out.blt; have := HN2.out; omega
      have hll : l.length = n := hSE.row.len
      have HW5 := Aside0.mk hW5
      have HR5 := Aside0.mk hSE.row
      have HWR := Aside0.mk (NumD.write64 B b _ (n : Int) w5 hW5.buf hW5.sz (u8s_one _) (by simp only [u8s, List.length_map, wrtD_len]; omega))
      have HLL := Aside0.mk hll
      have HBG := Aside0.mk hbG
      clear hSE hW5 hbG hll HC HK HR
      go_wp2_with fail
      with_reducible refine Calls.mono HWR.out ?_
      rintro e_ w6 ⟨rfl, hI6, hB6, hO6⟩
      have HW6 : Aside0 (WS w w6 B b xb g s.n mb f (ixB s f l 0)) := ⟨by rw [ixB_zero, HLL.out]; exact HW5.out.put hI6 hB6 hO6⟩
      have HR6 := Aside0.mk (row_keep HR5.out hO6 HBG.out)
      clear hI6 hB6 hO6 HW5 HR5 HWR
      have hsz : (s.n : Int) ≤ 1073741824 := by omega
      go_wp2_with fail
      with_reducible refine Calls.mono (NumD.size64 _ _) ?_
      rintro _ _ ⟨rfl, rfl⟩
      go_wp2_with fail
      go_loopg [4, 58] n (fun kq v4 v58 w' => ∃ (i A : Nat), v4 = .int .i64 (A : Int) ∧ v58 = .int .i64 (i : Int) ∧ Aside0 (i + kq = n ∧ A = 16 + 8 * s.n + 8 * i) ∧ Aside0 (WS w w' B b xb g s.n mb f (ixB s f l i)) ∧ Aside0 (So.RowI w' G n l))
      case atStart => exact ⟨0, 16 + 8 * s.n, congrArg (Value.int .i64) (by omega), rfl, ⟨by omega⟩, HW6, HR6⟩
      case round =>
        clear HW6 HR6
        obtain ⟨i, A, rfl, rfl, HI, HW, HRo⟩ := hrel
        have hA : (A : Int) ≤ 1000000000000 := by have := HI.out; omega
        have hA0 : (0 : Int) ≤ (A : Int) := by omega
        cases gk with
        | zero =>
          have hlt : ¬ (i : Int) < (n : Int) := by have := HI.out; omega
          go_wp2_with fail
          go_ret2
          exact ⟨l, by rw [show 16 + 8 * s.n + 8 * l.length = A from by have := HI.out; have := HLL.out; omega]; rfl, HKL.out, by rw [show l.length = i from by have := HI.out; have := HLL.out; omega]; exact HW.out.buf, HW.out.below, HW.out.sz⟩
        | succ kz =>
          have hlt : (i : Int) < (n : Int) := by have := HI.out; omega
          have hin : i < n := by omega
          have y0 := HRo.out.cell i hin
          have hli : i < l.length := by rw [HLL.out]; exact hin
          have hsucc := ixB_succ s f l i hli
          have hxw : -2147483648 ≤ l.getD i 0 ∧ l.getD i 0 ≤ 2147483647 := HKL.out.wf _ (by rw [List.getD_eq_getElem?_getD, List.getElem?_eq_getElem hli]; exact List.getElem_mem hli)
          obtain ⟨x, hx⟩ : ∃ x, l.getD i 0 = x := ⟨_, rfl⟩
          rw [hx] at y0 hsucc hxw
          have hbl : (ixB s f l i).length = 16 + 8 * s.n + 8 * i := ixB_len s f l i (by omega)
          have hlen1 : (u8s (ixB s f l i)).length + 4 ≤ 140737488355328 := by simp only [u8s, List.length_map, hbl]; omega
          have HBL := Aside0.mk hbl
          have HWR := Aside0.mk (NumD.write32 B b _ x wr HW.out.buf HW.out.sz (u8s_one _) hlen1)
          have HSU := Aside0.mk hsucc
          have HXW := Aside0.mk hxw
          clear hx hli hsucc hxw hbl hlen1
          go_wp2_with fail
          with_reducible refine Calls.mono HWR.out ?_
          rintro e_ w7 ⟨rfl, hI7, hB7, hO7⟩
          have HW7 := Aside0.mk (HW.out.put hI7 hB7 hO7)
          have HR7 := Aside0.mk (row_keep HRo.out hO7 HBG.out)
          clear hI7 hB7 hO7 HW HRo HWR y0
          go_wp2_with fail
          with_reducible refine Calls.mono (NumD.size32 _ _) ?_
          rintro _ _ ⟨rfl, rfl⟩
          obtain ⟨c0, c1⟩ := HW7.out.cells
          have hlook := dup_look HW7.out.dup x HXW.out
          have HWR := Aside0.mk (NumD.write32 B b _ (f x) w7 HW7.out.buf HW7.out.sz (u8s_one _) (by simp only [u8s, List.length_map, List.length_append, leb_length, HBL.out]; omega))
          go_wp2_with fail
          with_reducible refine Calls.mono HWR.out ?_
          rintro e_ w8 ⟨rfl, hI8, hB8, hO8⟩
          have HW8 : Aside0 (WS w w8 B b xb g s.n mb f (ixB s f l (i + 1))) := ⟨by rw [HSU.out]; exact HW7.out.put hI8 hB8 hO8⟩
          have HR8 := Aside0.mk (row_keep HR7.out hO8 HBG.out)
          clear hI8 hB8 hO8 HW7 HR7 HWR c0 c1 hlook
          go_wp2_with fail
          with_reducible refine Calls.mono (NumD.size32 _ _) ?_
          rintro _ _ ⟨rfl, rfl⟩
          go_wp2_with fail
          go_roundg kz
          case measure => omega
          case rel => exact ⟨i + 1, A + 8, congrArg (Value.int .i64) (by omega), congrArg (Value.int .i64) (by omega), ⟨by have := HI.out; omega⟩, HW8, HR8⟩
    · intro x c w3 cnt1 hwx hwc hlx hat hrg1 hlt hg1 hs1 hen
      obtain ⟨G, cap, rfl, hG, hGr⟩ := HR.out.row
      have hrW : W0.heap.size ≤ r := by omega
      obtain ⟨hown3, hbel3⟩ := HR.out.took hg1 hGr hrW
      have HO3 := Aside0.mk hown3
      have HB3 := Aside0.mk hbel3
      have HRG := Aside0.mk hrg1
      have HX := Aside0.mk (wf_of hwx)
      have HNZ := Aside0.mk (nz_of HD.out hat)
      have HG := Aside0.mk (And.intro hG hGr)
      have hkl : ks.length ≤ 1000000 := by have := HR.out.few; have := HM.out; have := HSZ.out; omega
      have HL := Aside0.mk (And.intro hlt hkl)
      clear hown3 hbel3 hrg1 hwx hwc hat hlx hg1 hs1 hG hGr hlt hrW hkl
      go_wp2_with ((with_reducible refine gate_builtin (b := .append) (xs := #[.tmp 37, .tmp 39]) rfl ?_); at_builtin; refine print_append_cells W0.heap.size rfl (.tmp 37) (.tmp 39) 103 21 (.int .i32 0) 1 4 rfl Tryz.underlying103 info_i32 rfl (by decide) (by decide) (.slice (some ⟨G, 0, none⟩) ks.length cap) ks.length (ks.map (Value.int .i32)) [.int .i32 x] rfl rfl rfl (fun u hu => by rw [List.mem_singleton.1 hu]; rfl) HO3.out HB3.out HB3.out.size (by have := HL.out.2; omega) ?_; intro v1 w4 ho hb hg hat)
      have HS := Aside0.mk (HR.out.step HRG.out HL.out.1 HX.out HNZ.out HG.out.2 HG.out.1 HMB.out ho hb hg hat)
      clear ho hb hg hat
      go_roundw
      case rel => exact ⟨_, cnt1, ks ++ [x], HS⟩
      case measure => rw [HS.out.rg.left_eq, HR.out.rg.left_eq]; exact HL.out.1
end Go.Proofs.YtaejkbjepbifcabGreatDoor.IxN
namespace Go.Proofs.YtaejkbjepbifcabGreatDoor.IxN
open Go.RowKit Go.Maps Go.Proofs.YtaejkbjepbifcabGreatDoorW.PrintWords Go.Proofs.YtaejkbjepbifcabGreatDoor.Plain Go.Proofs.YtaejkbjepbifcabGreatDoor.Num
set_option linter.unusedVariables false
set_option linter.unusedSimpArgs false
theorem ebys_at (f : Int → Int) (l : List Int) (i : Nat) (hi : i < l.length) : ∃ r, l.flatMap (eby f) = (l.take i).flatMap (eby f) ++ (eby f (l.getD i 0) ++ r) := by
  refine ⟨(l.drop (i + 1)).flatMap (eby f), ?_⟩
  have e : l.getD i 0 = l[i] := by rw [List.getD_eq_getElem?_getD, List.getElem?_eq_getElem hi]; rfl
  conv => lhs; rw [← List.take_append_drop i l, List.drop_eq_getElem_cons hi]
  rw [List.flatMap_append, List.flatMap_cons, e]
theorem back32' (b : Int) (h : -2147483648 ≤ b ∧ b ≤ 2147483647) : wrap32 (valb (leb 4 (b % 18446744073709551616))) = b := by
  rw [valb_leb4 _ (by omega)]; unfold wrap32; omega
theorem data_head (s : Da.DA) (f : Int → Int) (ks : List Int) (h : s.n ≤ 1073741824) : valb ((ixB s f ks ks.length).take 8) = s.n := by
  have e : (ixB s f ks ks.length).take 8 = (wrtD s s.n).take 8 := by
    unfold ixB
    rw [List.append_assoc, List.take_append_of_le_length (by rw [wrtD_len]; omega)]
  rw [e, wrtD_head s s.n h]
theorem data_val (s : Da.DA) (f : Int → Int) (ks : List Int) (j : Nat) (hj : j < s.n * 2) : val 8 (ixB s f ks ks.length) j = val 8 (wrtD s s.n) j := by
  have hl := wrtD_len s s.n
  unfold val ixB
  rw [List.append_assoc, List.drop_append_of_le_length (by omega), List.take_append_of_le_length (by rw [List.length_drop]; omega)]
theorem data_cells (s : Da.DA) (f : Int → Int) (ks : List Int) : rcells 8 (ixB s f ks ks.length) (s.n * 2) (s.n * 2) = rcells 8 (wrtD s s.n) (s.n * 2) (s.n * 2) := by
  unfold rcells
  apply Array.ext
  · simp
  · intro j h1 h2
    have hj : j < s.n * 2 := by simpa using h1
    simp only [Array.getElem_map, Array.getElem_range, if_pos hj]
    rw [data_val s f ks j hj]
theorem data_size (s : Da.DA) (f : Int → Int) (ks : List Int) (h : ks.length ≤ 1000000) : wrap64 (valb (((ixB s f ks ks.length).drop (8 + 8 * s.n)).take 8)) = (ks.length : Int) := by
  have e : ((ixB s f ks ks.length).drop (8 + 8 * s.n)).take 8 = leb 8 ((ks.length : Int) % 18446744073709551616) := by
    unfold ixB
    rw [List.append_assoc, List.drop_left' (wrtD_len s s.n), List.take_left' (leb_length 8 _)]
  rw [e, valb_leb8 _ (by omega) (by omega)]
  unfold wrap64; omega
theorem data_entry (s : Da.DA) (f : Int → Int) (ks : List Int) (i : Nat) (hi : i < ks.length) :
    ((ixB s f ks ks.length).drop (16 + 8 * s.n + 8 * i)).take 4 = leb 4 (ks.getD i 0 % 18446744073709551616) ∧ ((ixB s f ks ks.length).drop (16 + 8 * s.n + 8 * i + 4)).take 4 = leb 4 (f (ks.getD i 0) % 18446744073709551616) := by
  obtain ⟨r, hr⟩ := ebys_at f ks i hi
  have e : ixB s f ks ks.length = ixB s f ks i ++ (leb 4 (ks.getD i 0 % 18446744073709551616) ++ (leb 4 (f (ks.getD i 0) % 18446744073709551616) ++ r)) := by
    unfold ixB
    rw [List.take_length, hr]
    simp only [eby, List.append_assoc]
  have hl := ixB_len s f ks i (by omega)
  rw [e]
  constructor
  · rw [List.drop_left' hl, List.take_left' (leb_length 4 _)]
  · rw [← List.drop_drop, List.drop_left' hl, List.drop_left' (leb_length 4 _), List.take_left' (leb_length 4 _)]
theorem data_bytes (s : Da.DA) (f : Int → Int) (ks : List Int) (m : Nat) : ∀ x ∈ ixB s f ks m, 0 ≤ x ∧ x < 256 := fun x hx => by
  unfold ixB at hx
  rcases List.mem_append.1 hx with h | h
  · rcases List.mem_append.1 h with h | h
    · exact wrtD_bytes s s.n x h
    · exact leb_one 8 _ x h
  · obtain ⟨i, _, h⟩ := List.mem_flatMap.1 h
    unfold eby at h
    rcases List.mem_append.1 h with h | h
    · exact leb_one 4 _ x h
    · exact leb_one 4 _ x h
def fI (f : Int → Int) (ks : List Int) (i : Nat) (k : Int) : Int := if k ∈ ks.take i then f k else 0
theorem fI_zero (f : Int → Int) (ks : List Int) : fI f ks 0 = fun _ => 0 := by funext k; simp [fI]
theorem fI_all (f : Int → Int) (ks : List Int) (h : KeysFor f ks) : fI f ks ks.length = f := by
  funext k
  unfold fI
  rw [List.take_length]
  by_cases e : k ∈ ks
  · rw [if_pos e]
  · rw [if_neg e]
    by_cases e2 : f k = 0
    · exact e2.symm
    · exact absurd (h.all k e2) e
theorem dup_put {D : DataW Unit} {f : Int → Int} {ks : List Int} {i : Nat} (h : Da.DupD D (fI f ks i)) (hi : i < ks.length) (hk : f (ks.getD i 0) ≠ 0) : Da.DupD (D.put (.int .i32 (ks.getD i 0)) (.lit (.int .i32 (f (ks.getD i 0))))) (fI f ks (i + 1)) := by
  have e1 : ks.take (i + 1) = ks.take i ++ [ks.getD i 0] := by
    rw [List.take_succ_eq_append_getElem hi, List.getD_eq_getElem?_getD, List.getElem?_eq_getElem hi]; rfl
  refine ⟨h.tidy.put (by simp [Go.WideAt.IsKeyLit]) _, fun k z => ?_⟩
  unfold fI
  rw [e1]
  by_cases e : k = ks.getD i 0
  · subst e
    rw [show (if ks.getD i 0 ∈ ks.take i ++ [ks.getD i 0] then f (ks.getD i 0) else 0) = f (ks.getD i 0) from if_pos (List.mem_append_right _ (List.mem_singleton_self _)), if_neg hk, atKey_put_same h.tidy.isMap (by simp [Go.WideAt.IsKeyLit])]
  · rw [atKey_put_other (by intro h; injection h with _ h; exact e h), h.at_]
    unfold fI
    simp only [List.mem_append, List.mem_singleton, e, or_false]
theorem make_hint (w : World) (n : Int) : (Instr.makeMap 51 (some (.int .i64 n))).run Tryz.prog w = .ok (.map (some w.heap.size)) (w.alloc (.map #[] 0)) := by
  simp [Instr.makeMap, run_underlying Tryz.underlying51, asInt, asIntOf, Result.andThen]
structure Rd1 (w w' : World) (r : Nat) (a : Addr) (n c pos : Nat) (x : Int) : Prop where
  rd : w'.heap[r]? = some (rdr (some a) n c pos (-1))
  bx : w'.heap[w.heap.size]? = some (.cells #[.int .i32 x] 21 (0, 0))
  size : w.heap.size < w'.heap.size
  old : ∀ i, i < w.heap.size → i ≠ r → w'.heap[i]? = w.heap[i]?
  env : Env w w'
theorem rd_box (w : World) (r : Nat) (a : Addr) (n c i : Nat) (pr : Int) (data : List Int) (hr : w.heap[r]? = some (rdr (some a) n c i pr)) (hC : (Kd.int .u8).C w (some a) n data) (hb : ∀ x ∈ data, 0 ≤ x ∧ x < 256) (hi : i + 4 ≤ n) (hnc : n ≤ c) (hn : n ≤ 1000000000000) (hra : r ≠ a.block) (hab : a.block < w.heap.size) :
    Calls Tryz.prog 38 #[.iface 58 (.pointer (some ⟨r, 0, none⟩)), .pointer (some ⟨w.heap.size, 0, none⟩)] (w.alloc (.cells #[.int .i32 0] 21)) fun e w' => e = .returned .nilIface ∧ Rd1 w w' r a n c (i + 4) (wrap32 (valb ((data.drop i).take 4))) := by
  have hrl := blk_lt hr
  refine (NumD.read32_ok (w.alloc (.cells #[.int .i32 0] 21)) r a n c i pr data w.heap.size 0 0 (blk_alloc hr _) (Kd.C_alloc hC _) hb hi hnc hn hra (by rw [Own.size_alloc]; omega) (cells_at (blk_new w _) 0 _ rfl) (froz_at (blk_new w _) 0) (by omega)).mono ?_
  rintro e w' ⟨he, hk, h1, h2⟩
  refine ⟨he, h1, ?_, by have := hk.1; rw [Own.size_alloc] at this; omega, fun j hj hne => ?_, hk.env⟩
  · rw [h2]
    exact blk_put (blk_new w _) 0 _ rfl
  · rw [hk.2 j (by rw [Own.size_alloc]; omega) (by omega)]
    exact heap_alloc_old w _ hj
end Go.Proofs.YtaejkbjepbifcabGreatDoor.IxN
namespace Go.Proofs.YtaejkbjepbifcabGreatDoor.IxN
open Go.RowKit Go.Maps Go.Proofs.YtaejkbjepbifcabGreatDoorW.PrintWords Go.Proofs.YtaejkbjepbifcabGreatDoor.Plain Go.Proofs.YtaejkbjepbifcabGreatDoor.Num
set_option linter.unusedVariables false
set_option linter.unusedSimpArgs false
abbrev ixBox (v m : Value) : Obj := .cells #[v, m] 53 (0, 0)
structure RdS (W w : World) (r : Nat) (a : Addr) (n c rb ib G mb i : Nat) (s : Da.DA) (f : Int → Int) (ks : List Int) : Prop where
  kept : Kp W w (fun y => y = r)
  rd : w.heap[r]? = some (rdr (some a) n c (16 + 8 * s.n + 8 * i) (-1))
  rbx : w.heap[rb]? = some (ixBox (.slice none 0 0) (.map none))
  ibx : w.heap[ib]? = some (ixBox (.slice (some ⟨G, 0, none⟩) s.n s.n) (.map (some mb)))
  ar : Da.Arr w G s
  mp : ∃ N D, N ≤ i ∧ Da.OMap w mb N D ∧ Da.DupD D (fI f ks i)
  new : W.heap.size ≤ rb ∧ rb < ib ∧ W.heap.size ≤ G ∧ W.heap.size ≤ mb ∧ r < W.heap.size ∧ rb ≠ mb ∧ ib ≠ mb ∧ G ≠ mb
def RdE (W w' : World) (r : Nat) (s : Da.DA) (f : Int → Int) (L : Da.Keys) (e : Ending) : Prop := ∃ G mb, e = .returned (.tuple #[.agg #[.slice (some ⟨G, 0, none⟩) s.n s.n, .map (some mb)], .nilIface]) ∧ Da.IxW w' G s mb L f ∧ W.heap.size ≤ G ∧ W.heap.size ≤ mb ∧ Kp W w' (fun y => y = r)
set_option maxHeartbeats 16000000 in
set_option maxRecDepth 100000 in
theorem iread_calls (W : World) (r : Nat) (a : Addr) (n c : Nat) (pr : Int) (s : Da.DA) (f : Int → Int) (ks : List Int) (L : Da.Keys) (x : Ctx W r a n c (ixB s f ks ks.length)) (hr : W.heap[r]? = some (rdr (some a) n c 0 pr)) (hn : n = (ixB s f ks ks.length).length) (hK : KeysFor f ks) (hf : ∀ k, 0 ≤ f k ∧ f k ≤ 1000000) (hS : Small s) (hG : Da.Good s 0 L) (h0 : 0 < s.n) :
    Calls Tryz.prog 20 #[.iface 58 (.pointer (some ⟨r, 0, none⟩))] W fun e w' => RdE W w' r s f L e := by
  have hlen := ixB_len s f ks ks.length (Nat.le_refl _)
  rw [← hn] at hlen
  have hbig := hS.2
  obtain ⟨data, hdata⟩ : ∃ data, data = ixB s f ks ks.length := ⟨_, rfl⟩
  rw [← hdata] at x hn
  have HK := Aside0.mk hK
  have HF := Aside0.mk hf
  have HS := Aside0.mk hS
  have HG := Aside0.mk (And.intro hG h0)
  have HX := Aside0.mk x
  have HR := Aside0.mk hr
  have HL := Aside0.mk hlen
  have HD := Aside0.mk hdata
  have hks := hK.few
  have hrl := blk_lt hr
  have hx2 : Ctx ((W.alloc (ixBox (.slice none 0 0) (.map none))).alloc (ixBox (.slice none 0 0) (.map none))) r a n c data :=
    ⟨Kd.C_alloc (Kd.C_alloc x.row _) _, x.bytes, x.cap, x.few, x.ne, by rw [Own.size_alloc, Own.size_alloc]; have := x.lt; omega, by rw [Own.size_alloc, Own.size_alloc]; have := x.rlt; omega, sntAlloc (sntAlloc x.snt _) _, x.eof, x.bad⟩
  have hv : valb ((data.drop 0).take 8) = s.n := by rw [List.drop_zero, hdata]; exact data_head s f ks hbig
  have T1 := Aside0.mk (readDA_calls ((W.alloc (ixBox (.slice none 0 0) (.map none))).alloc (ixBox (.slice none 0 0) (.map none))) r a n c s.n pr data hx2 (blk_alloc (blk_alloc hr _) _) (by omega) (by rw [hv, wrap_ok (by omega) (by omega)]) (by omega) hbig)
  obtain ⟨W2, hW2⟩ : ∃ W2, W2 = (W.alloc (ixBox (.slice none 0 0) (.map none))).alloc (ixBox (.slice none 0 0) (.map none)) := ⟨_, rfl⟩
  rw [← hW2] at T1
  have hs2 : W2.heap.size = W.heap.size + 2 := by rw [hW2, Own.size_alloc, Own.size_alloc]
  have k2 : Kp W W2 (fun y => y = r) := ⟨by omega, fun i hi _ => by rw [hW2, heap_alloc_old _ _ (by rw [Own.size_alloc]; omega), heap_alloc_old _ _ hi], by rw [hW2]; exact ⟨rfl, rfl, rfl⟩⟩
  have b2 : W2.heap[W.heap.size]? = some (ixBox (.slice none 0 0) (.map none)) := by rw [hW2]; exact blk_alloc (blk_new W _) _
  have b3 : W2.heap[W.heap.size + 1]? = some (ixBox (.slice none 0 0) (.map none)) := by rw [hW2, ← Own.size_alloc W (ixBox (.slice none 0 0) (.map none))]; exact blk_new _ _
  have HB2 := Aside0.mk (And.intro hs2 (And.intro k2 (And.intro b2 b3)))
  have HW2 := Aside0.mk hW2
  obtain ⟨rb, hrb⟩ : ∃ rb, rb = W.heap.size := ⟨_, rfl⟩
  obtain ⟨ib, hib⟩ : ∃ ib, ib = W.heap.size + 1 := ⟨_, rfl⟩
  have HRB := Aside0.mk (And.intro hrb (And.intro hib hrl))
  have hksz : (ks.length : Int) ≤ 1000000 := by omega
  clear x hr hn hdata hlen hx2 hv hs2 k2 b2 b3 hW2 hK hf hS hG h0 hks
  go_enter Tryz.func20, Tryz.ntmps20
  go_upto_region 2 with fail
  rw [← HW2.out]
  rw [← hib, ← hrb]
  clear hib hrb
  go_wp2_with fail
  with_reducible refine Calls.mono T1.out ?_
  rintro e_ w3 (⟨G, rfl, hfit, hrs⟩ | ⟨v, t, y, rfl, hsh, hk⟩)
  · obtain ⟨hs2, k2, b2, b3⟩ := HB2.out
    obtain ⟨hrb, hib, hrl⟩ := HRB.out
    have hGn := hrs.new
    have k3 := hrs.kept
    have b3' : w3.heap[ib]? = some (ixBox (.slice none 0 0) (.map none)) := by rw [hib, k3.old _ (by omega) (by omega)]; exact b3
    have b2' : w3.heap[rb]? = some (ixBox (.slice none 0 0) (.map none)) := by rw [hrb, k3.old _ (by omega) (by omega)]; exact b2
    have hGlt := blk_lt hrs.row
    have hk3 : Kp W w3 (fun y => y = r) := Kp.thru k2 k3
    have H3 := Aside0.mk (And.intro hrs (And.intro hk3 (And.intro b2' b3')))
    have HGN : Aside0 (G ≠ ib ∧ G ≠ rb ∧ rb < ib ∧ r < rb ∧ W.heap.size ≤ rb ∧ W.heap.size ≤ G ∧ ib < w3.heap.size ∧ G < w3.heap.size ∧ W.heap.size < w3.heap.size) := ⟨by have := k3.size; omega⟩
    have c0 := cells_at b3' 0 _ rfl
    have f0 := froz_at b3' 0
    clear hs2 k2 b2 b3 hrb hib hrl hGn k3 b3' b2' hGlt hk3 hrs hfit T1
    go_upto_region 7 with fail
    obtain ⟨w4, hw4⟩ : ∃ w4, w4 = (w3.setCell ⟨ib, 0, none⟩ (.slice (some ⟨G, 0, none⟩) s.n s.n)).alloc (.cells #[.int .i64 0] 2) := ⟨_, rfl⟩
    rw [← hw4]
    clear c0 f0
    obtain ⟨hrs, hk3, b2, b3⟩ := H3.out
    obtain ⟨g1, g2, g3, g4, g5, g6, g7, g8, g9⟩ := HGN.out
    have z4 : w4.heap.size = w3.heap.size + 1 := by rw [hw4, Own.size_alloc, size_setCell]
    have o4 : ∀ i, i < w3.heap.size → i ≠ ib → w4.heap[i]? = w3.heap[i]? := fun i hi hne => by rw [hw4, heap_alloc_old _ _ (by rw [size_setCell]; exact hi), Below.heap_setCell _ _ _ _ hne]
    have e4 : Env w3 w4 := by rw [hw4]; exact ⟨rfl, rfl, rfl⟩
    have i4 : w4.heap[ib]? = some (ixBox (.slice (some ⟨G, 0, none⟩) s.n s.n) (.map none)) := by rw [hw4]; exact blk_alloc (blk_put b3 0 _ rfl) _
    have s4 : w4.heap[w3.heap.size]? = some (.cells #[.int .i64 0] 2 (0, 0)) := by rw [hw4, ← size_setCell w3 ⟨ib, 0, none⟩ (.slice (some ⟨G, 0, none⟩) s.n s.n)]; exact blk_new _ _
    have k4 : Kp W w4 (fun y => y = r) := ⟨by omega, fun i hi hne => by rw [o4 i (by omega) (by omega)]; exact hk3.old i hi hne, hk3.env.trans e4⟩
    have r4 : w4.heap[r]? = some (rdr (some a) n c (8 + 8 * s.n) (-1)) := by rw [o4 r (by omega) (by omega), hrs.rd]; rw [show 8 + 4 * (s.n * 2) = 8 + 8 * s.n from by omega]
    have a4 : Da.Arr w4 G s := by
      have h := hrs.row
      rw [HD.out, data_cells] at h
      exact (arr_of HS.out h).step (o4 G (by omega) g1)
    have q4 : w4.heap[rb]? = some (ixBox (.slice none 0 0) (.map none)) := by rw [o4 rb (by omega) (by omega)]; exact b2
    obtain ⟨szb, hszb⟩ : ∃ szb, szb = w3.heap.size := ⟨_, rfl⟩
    rw [← hszb] at s4 z4 ⊢
    have T2 := Aside0.mk (NumD.read64_ok w4 r a n c (8 + 8 * s.n) (-1) data szb 0 0 r4 (HX.out.rowAt k4) HX.out.bytes (by have := HL.out; omega) HX.out.cap HX.out.few HX.out.ne (Nat.lt_of_lt_of_le HX.out.lt k4.size) (cells_at s4 0 _ rfl) (froz_at s4 0) (by omega))
    have H4 := Aside0.mk (And.intro z4 (And.intro k4 (And.intro i4 (And.intro a4 (And.intro q4 s4)))))
    have HSZ := Aside0.mk hszb
    clear hw4 hrs hk3 b2 b3 g1 g2 g3 g4 g5 g6 g7 g8 g9 z4 o4 e4 i4 s4 k4 r4 a4 q4 hszb
    go_wp2_with fail
    with_reducible refine Calls.mono T2.out ?_
    rintro e_ w5 ⟨rfl, hk5, hr5, hs5⟩
    obtain ⟨z4, k4, i4, a4, q4, s4⟩ := H4.out
    obtain ⟨g1, g2, g3, g4, g5, g6, g7, g8, g9⟩ := HGN.out
    have hszb := HSZ.out
    have z5 := hk5.size
    have i5 : w5.heap[ib]? = some (ixBox (.slice (some ⟨G, 0, none⟩) s.n s.n) (.map none)) := by rw [hk5.old _ (by omega) (by omega)]; exact i4
    have q5 : w5.heap[rb]? = some (ixBox (.slice none 0 0) (.map none)) := by rw [hk5.old _ (by omega) (by omega)]; exact q4
    have a5 : Da.Arr w5 G s := a4.step (hk5.old _ (by omega) (by omega))
    have k5 : Kp W w5 (fun y => y = r) := ⟨by omega, fun i hi hne => by rw [hk5.old i (by omega) (by omega)]; exact k4.old i hi hne, k4.env.trans hk5.env⟩
    have s5 : w5.heap[szb]? = some (.cells #[.int .i64 (ks.length : Int)] 2 (0, 0)) := by
      rw [hs5, HD.out, data_size s f ks HK.out.few]
      exact blk_put s4 0 _ rfl
    have c5 : w5.cell? ⟨szb, 0, none⟩ = some (.int .i64 (ks.length : Int)) := cells_at s5 0 _ rfl
    have hmm := make_hint w5 (ks.length : Int)
    have c6 : (w5.alloc (.map #[] 0)).cell? ⟨ib, 1, none⟩ = some (.map none) := cells_at (blk_alloc i5 _) 1 _ rfl
    have f6 : (w5.alloc (.map #[] 0)).frozen? ⟨ib, 1, none⟩ = false := froz_at (blk_alloc i5 _) 1
    have HMB : Aside0 (r ≠ w5.heap.size ∧ ib < w5.heap.size ∧ rb < w5.heap.size ∧ G < w5.heap.size ∧ szb < w5.heap.size ∧ szb ≠ ib ∧ W.heap.size ≤ w5.heap.size) := ⟨by omega⟩
    have H5 := Aside0.mk (And.intro i5 (And.intro q5 (And.intro a5 (And.intro k5 (And.intro s5 hr5)))))
    have HZ5 : Aside0 (szb + 1 ≤ w5.heap.size) := ⟨by omega⟩
    clear hk5 hr5 hs5 z4 k4 i4 a4 q4 s4 g1 g2 g3 g4 g5 g6 g7 g8 g9 hszb z5 i5 q5 a5 k5 s5 T2
    go_upto_region 11 with fail
    obtain ⟨mb, hmb⟩ : ∃ mb, mb = w5.heap.size := ⟨_, rfl⟩
    rw [← hmb]
    obtain ⟨w6, hw6⟩ : ∃ w6, w6 = (w5.alloc (.map #[] 0)).setCell ⟨ib, 1, none⟩ (.map (some mb)) := ⟨_, rfl⟩
    rw [← hw6]
    obtain ⟨i5, q5, a5, k5, s5, hr5⟩ := H5.out
    obtain ⟨m1, m2, m3, m4, m5, m6, m7⟩ := HMB.out
    obtain ⟨g1, g2, g3, g4, g5, g6, g7, g8, g9⟩ := HGN.out
    have o6 : ∀ i, i < w5.heap.size → i ≠ ib → w6.heap[i]? = w5.heap[i]? := fun i hi hne => by rw [hw6, Below.heap_setCell _ _ _ _ hne]; exact heap_alloc_old w5 _ hi
    have hR6 : RdS W w6 r a n c rb ib G mb 0 s f ks := by
      refine ⟨⟨by rw [hw6, size_setCell, Own.size_alloc]; omega, fun i hi hne => by rw [o6 i (by omega) (by omega)]; exact k5.old i hi hne, k5.env.trans (by rw [hw6]; exact ⟨rfl, rfl, rfl⟩)⟩, by rw [o6 r (by omega) (by omega), hr5]; rw [show 8 + 8 * s.n + 8 = 16 + 8 * s.n + 8 * 0 from by omega], by rw [o6 rb m3 (by omega)]; exact q5, ?_, a5.step (o6 G m4 g1), ⟨0, .map [], Nat.le_refl _, ?_, by rw [fI_zero]; exact Da.dup_start⟩, by omega⟩
      · rw [hw6]; exact blk_put (blk_alloc i5 _) 1 _ rfl
      · have h0 : Da.OMap (w5.alloc (.map #[] 0)) mb 0 (.map []) := by rw [hmb]; exact World.ownsMap_made (H := Unit) w5 Tryz.prog 21 (plainElem Tryz.prog 21)
        exact Da.own_mapD h0 (by rw [hw6]; exact Below.heap_setCell _ _ _ _ (by show mb ≠ ib; omega))
    have c7 : w6.cell? ⟨szb, 0, none⟩ = some (.int .i64 (ks.length : Int)) := cells_at (show w6.heap[szb]? = _ from (o6 szb m5 m6).trans s5) 0 _ rfl
    have HR6 := Aside0.mk hR6
    clear i5 q5 a5 k5 s5 hr5 m1 m2 m3 m4 m5 m6 m7 g1 g2 g3 g4 g5 g6 g7 g8 g9 o6 hR6 hw6 hmb c5 c6 f6 hmm H5 HMB HGN HZ5 HSZ H4 H3
    go_wp2_with fail
    go_loopg [35] ks.length (fun kq v35 w' => ∃ (i : Nat), v35 = .int .i64 (i : Int) ∧ Aside0 (i + kq = ks.length) ∧ Aside0 (RdS W w' r a n c rb ib G mb i s f ks))
    case atStart => exact ⟨0, rfl, ⟨by omega⟩, HR6⟩
    case round =>
      clear HR6 c7
      obtain ⟨i, rfl, HI, HRS⟩ := hrel
      cases gk with
      | zero =>
        have hlt : ¬ (i : Int) < (ks.length : Int) := by have := HI.out; omega
        have hi : i = ks.length := by have := HI.out; omega
        obtain ⟨h1, h2, h3, h4, h5, ⟨N, D, h6, h7, h8⟩, h9⟩ := HRS.out
        have c0 : wr.cell? ⟨ib, 0, none⟩ = some (.slice (some ⟨G, 0, none⟩) s.n s.n) := cells_at h4 0 _ rfl
        have c1 : wr.cell? ⟨ib, 1, none⟩ = some (.map (some mb)) := cells_at h4 1 _ rfl
        have d0 : wr.cell? ⟨rb, 0, none⟩ = some (.slice none 0 0) := cells_at h3 0 _ rfl
        have d1 : wr.cell? ⟨rb, 1, none⟩ = some (.map none) := cells_at h3 1 _ rfl
        have f0 : ∀ j, wr.frozen? ⟨rb, j, none⟩ = false := fun j => froz_at h3 j
        have HD' := Aside0.mk (And.intro h6 (And.intro h7 h8))
        have HI2 := Aside0.mk hi
        clear h1 h2 h3 h4 h5 h6 h7 h8 h9 hi
        go_wp2_with fail
        obtain ⟨h1, h2, h3, h4, h5, -, h9⟩ := HRS.out
        obtain ⟨h6, h7, h8⟩ := HD'.out
        have q : ((wr.setCell ⟨rb, 0, none⟩ (.slice (some ⟨G, 0, none⟩) s.n s.n)).setCell ⟨rb, 1, none⟩ (.map (some mb))).heap[rb]? = some (ixBox (.slice (some ⟨G, 0, none⟩) s.n s.n) (.map (some mb))) := blk_put (blk_put h3 0 _ rfl) 1 _ rfl
        have y0 := cells_at q 0 _ rfl
        have y1 := cells_at q 1 _ rfl
        have o9 : ∀ j, j ≠ rb → ((wr.setCell ⟨rb, 0, none⟩ (.slice (some ⟨G, 0, none⟩) s.n s.n)).setCell ⟨rb, 1, none⟩ (.map (some mb))).heap[j]? = wr.heap[j]? := fun j hj => by rw [Below.heap_setCell _ _ _ _ hj, Below.heap_setCell _ _ _ _ hj]
        have hix : Da.IxW ((wr.setCell ⟨rb, 0, none⟩ (.slice (some ⟨G, 0, none⟩) s.n s.n)).setCell ⟨rb, 1, none⟩ (.map (some mb))) G s mb L f := by
          refine ⟨h5.step (o9 G ?_), HG.out.1, HG.out.2, ⟨N, D, by have := HK.out.few; have := HI2.out; omega, Da.own_mapD h7 (o9 mb ?_), ?_, HF.out⟩⟩
          · intro e
            rw [← e] at h3
            obtain ⟨cs, hc, _⟩ := h5.ar
            rw [hc] at h3
            injection h3 with h3
            injection h3 with _ h3
            exact absurd h3 (by decide)
          · exact Ne.symm h9.2.2.2.2.2.1
          · rw [HI2.out, fI_all f ks HK.out] at h8; exact h8
        have hkE : Kp W ((wr.setCell ⟨rb, 0, none⟩ (.slice (some ⟨G, 0, none⟩) s.n s.n)).setCell ⟨rb, 1, none⟩ (.map (some mb))) (fun y => y = r) := ⟨by rw [size_setCell, size_setCell]; exact h1.size, fun j hj hne => by rw [o9 j (by have := h9.1; omega)]; exact h1.old j hj hne, h1.env.trans ⟨rfl, rfl, rfl⟩⟩
        exact bodyPost_ret (v := .tuple #[.agg #[.slice (some ⟨G, 0, none⟩) s.n s.n, .map (some mb)], .nilIface]) (by simp [results, Tryz.results20, go_sem, y0, y1]) rfl ⟨G, mb, rfl, hix, h9.2.2.1, h9.2.2.2.1, hkE⟩
      | succ kz =>
        have hlt : (i : Int) < (ks.length : Int) := by have := HI.out; omega
        have hik : i < ks.length := by omega
        obtain ⟨e1, e2⟩ := data_entry s f ks i hik
        rw [← HD.out] at e1 e2
        have hkm : ks.getD i 0 ∈ ks := by rw [List.getD_eq_getElem?_getD, List.getElem?_eq_getElem hik]; exact List.getElem_mem hik
        have hkw := HK.out.wf _ hkm
        have hkz := HK.out.nz _ hkm
        have hfw := HF.out (ks.getD i 0)
        have T7 := Aside0.mk (rd_box wr r a n c (16 + 8 * s.n + 8 * i) (-1) data HRS.out.rd (HX.out.rowAt HRS.out.kept) HX.out.bytes (by have := HL.out; omega) HX.out.cap HX.out.few HX.out.ne (Nat.lt_of_lt_of_le HX.out.lt HRS.out.kept.size))
        rw [e1, back32' _ hkw] at T7
        obtain ⟨x, hx⟩ : ∃ x, ks.getD i 0 = x := ⟨_, rfl⟩
        rw [hx] at T7 e2 hkw hkz hfw
        have HKW := Aside0.mk (And.intro hx (And.intro hkw (And.intro hkz (And.intro hfw e2))))
        have HIK := Aside0.mk hik
        clear e1 e2 hkm hkw hkz hfw hx hik
        go_wp2_with fail
        with_reducible refine Calls.mono T7.out ?_
        rintro e_ w7 ⟨rfl, R7⟩
        have k7 : Kp W w7 (fun y => y = r) := ⟨Nat.le_trans HRS.out.kept.size (Nat.le_of_lt R7.size), fun j hj hne => by rw [R7.old j (Nat.lt_of_lt_of_le hj HRS.out.kept.size) hne]; exact HRS.out.kept.old j hj hne, HRS.out.kept.env.trans R7.env⟩
        have T8 := Aside0.mk (rd_box w7 r a n c (16 + 8 * s.n + 8 * i + 4) (-1) data R7.rd (HX.out.rowAt k7) HX.out.bytes (by have := HL.out; have := HIK.out; omega) HX.out.cap HX.out.few HX.out.ne (Nat.lt_of_lt_of_le HX.out.lt k7.size))
        rw [HKW.out.2.2.2.2, back32' _ (by have := HKW.out.2.2.2.1; omega)] at T8
        have HR7 := Aside0.mk R7
        have HK7 := Aside0.mk k7
        clear R7 k7 T7
        go_wp2_with fail
        with_reducible refine Calls.mono T8.out ?_
        rintro e_ w8 ⟨rfl, R8⟩
        obtain ⟨h1, h2, h3, h4, h5, ⟨N, D, h6, h7, h8⟩, h9⟩ := HRS.out
        have hl4 := blk_lt h4
        have hl3 := blk_lt h3
        have hl7 := h7.lt
        have z7 := HR7.out.size
        have z8 := R8.size
        have zW := h1.size
        have o8 : ∀ j, j < wr.heap.size → j ≠ r → w8.heap[j]? = wr.heap[j]? := fun j hj hne => by rw [R8.old j (by omega) hne, HR7.out.old j hj hne]
        have i8 : w8.heap[ib]? = some (ixBox (.slice (some ⟨G, 0, none⟩) s.n s.n) (.map (some mb))) := by rw [o8 ib hl4 (by omega)]; exact h4
        have c1 : w8.cell? ⟨ib, 1, none⟩ = some (.map (some mb)) := cells_at i8 1 _ rfl
        have kb8 : w8.heap[wr.heap.size]? = some (.cells #[.int .i32 x] 21 (0, 0)) := by rw [R8.old _ (by omega) (by omega)]; exact HR7.out.bx
        have c2 : w8.cell? ⟨wr.heap.size, 0, none⟩ = some (.int .i32 x) := cells_at kb8 0 _ rfl
        have c3 : w8.cell? ⟨w7.heap.size, 0, none⟩ = some (.int .i32 (f x)) := cells_at R8.bx 0 _ rfl
        have m8 : Da.OMap w8 mb N D := Da.own_mapD h7 (o8 mb hl7 (by omega))
        have H8 := Aside0.mk (And.intro R8 (And.intro o8 (And.intro i8 (And.intro z8 (And.intro z7 (And.intro hl3 hl7))))))
        have HD8 := Aside0.mk (And.intro h6 h8)
        have HM8 := Aside0.mk m8
        have hNk : N < maxLen := by have := HIK.out; have := HK.out.few; unfold maxLen; omega
        have HNK := Aside0.mk hNk
        clear R8 h1 h2 h3 h4 h5 h6 h7 h8 h9 hl4 hl3 hl7 z7 z8 zW o8 i8 kb8 m8 T8 hNk
        go_wp2_with (at_mapUpdate; refine wpList_mapUpdate_own _ rfl _ _ _ 51 rfl 21 21 Da.key_i32 Tryz.underlying51 _ mb N D rfl HM8.out HNK.out _ _ _ rfl rfl (keyOf_int_mk Tryz.underlying21 (Go.WalkArith.wf_i32 HKW.out.2.1)) _ [] (plainElem_int Tryz.underlying21 (Go.WalkArith.wf_i32 (by have := HKW.out.2.2.2.1; omega))) ?_; intro w9 hm9 hg9; have HM9 := Aside0.mk hm9; have HG9 := Aside0.mk hg9; clear hm9 hg9; go_frame)
        have HRN : Aside0 (RdS W w9 r a n c rb ib G mb (i + 1) s f ks) := by
          obtain ⟨R8, o8, i8, z8, z7, hl3, hl7⟩ := H8.out
          obtain ⟨h1, h2, h3, h4, h5, -, h9⟩ := HRS.out
          have hg := HG9.out
          have hll := blk_lt h4
          have hlG := h5.lt
          have hrr := blk_lt h2
          have zW := h1.size
          have o9 : ∀ j, j < wr.heap.size → j ≠ r → j ≠ mb → w9.heap[j]? = wr.heap[j]? := fun j hj hne hm => by rw [hg.block j (by omega) (by simpa using hm)]; exact o8 j hj hne
          have hik := HIK.out
          refine ⟨⟨⟨by have := hg.size; omega, fun j hj hne => by rw [o9 j (by omega) hne (by omega)]; exact h1.old j hj hne, (h1.env.trans (HR7.out.env.trans R8.env)).trans ⟨hg.os, hg.tape, hg.output⟩⟩, ?_, by rw [o9 rb hl3 (by omega) (by omega)]; exact h3, by rw [o9 ib hll (by omega) (by omega)]; exact h4, h5.step (o9 G hlG (by omega) (by omega)), ⟨N + 1, _, by have := HD8.out.1; omega, HM9.out, ?_⟩, h9⟩⟩
          · rw [hg.block r (by omega) (by simp only [ne_eq, Option.some.injEq]; omega), R8.rd, show 16 + 8 * s.n + 8 * i + 4 + 4 = 16 + 8 * s.n + 8 * (i + 1) from by omega]
          · have h := dup_put HD8.out.2 hik (by rw [HKW.out.1]; exact HKW.out.2.2.1)
            rw [HKW.out.1] at h
            exact h
        go_roundg kz
        case measure => omega
        case rel => exact ⟨i + 1, congrArg (Value.int .i64) (by omega), ⟨by have := HI.out; omega⟩, HRN⟩
  · exfalso; have := HL.out; omega
end Go.Proofs.YtaejkbjepbifcabGreatDoor.IxN
namespace Go.Proofs.YtaejkbjepbifcabGreatDoor.Num
open Go.RowKit Go.ChangeShapes Go.WideShapes
theorem err_cells : Tryz.prog.cellsOf 112 = 1 := by kernel_rfl
theorem str_cells : Tryz.prog.cellsOf 9 = 1 := by kernel_rfl
theorem err_row (u : TypeId) (h : Tryz.prog.typeName? 3 u = some ("*" ++ "errors.errorString")) : u = 110 :=
  typeName_ptr_named (nm := "errors.errorString") (by kernel_rfl) (by kernel_rfl) (by decide) u h
theorem g_short : Tryz.prog.globalNamed "io.ErrShortBuffer" = some 0 := by kernel_rfl
theorem g_eof : Tryz.prog.globalNamed "io.EOF" = some 1 := by kernel_rfl
theorem g_bad : Tryz.prog.globalNamed "io.ErrUnexpectedEOF" = some 2 := by kernel_rfl
theorem ty_short : (Tryz.prog.globals[0]?).map (·.type) = some 55 := by kernel_rfl
theorem ty_eof : (Tryz.prog.globals[1]?).map (·.type) = some 55 := by kernel_rfl
theorem ty_bad : (Tryz.prog.globals[2]?).map (·.type) = some 55 := by kernel_rfl

set_option maxRecDepth 100000 in
theorem snt_of_laid {W : World} (h : laidMet Tryz.prog [("io.ErrShortBuffer", Rows.laid_io_ErrShortBuffer), ("io.EOF", Rows.laid_io_EOF), ("io.ErrUnexpectedEOF", Rows.laid_io_ErrUnexpectedEOF)] W) : Snt W := by
  obtain ⟨ps, ⟨g0, t0, cs0, f0, p0, q0, hg0, ht0, hv0, hd0, ⟨g1, t1, cs1, f1, p1, q1, hg1, ht1, hv1, hd1, ⟨g2, t2, cs2, f2, p2, q2, hg2, ht2, hv2, hd2, hq2, e2⟩, e1⟩, e0⟩, hnd, hrows⟩ := h
  obtain rfl := Option.some.inj (g_short.symm.trans hg0)
  obtain rfl := Option.some.inj (g_eof.symm.trans hg1)
  obtain rfl := Option.some.inj (g_bad.symm.trans hg2)
  obtain rfl := Option.some.inj (ty_short.symm.trans ht0)
  obtain rfl := Option.some.inj (ty_eof.symm.trans ht1)
  obtain rfl := Option.some.inj (ty_bad.symm.trans ht2)
  have hq2' : q2 = [] := hq2
  subst hq2'
  subst e2
  subst e1
  subst e0
  obtain ⟨l1⟩ := cs1
  obtain ⟨l2⟩ := cs2
  have ok1 : ∀ u v, l1 = [.iface u v] → Value.okWide Tryz.prog W .any 0 u v := fun u v e => by
    subst e
    exact (hrows 1 0 (by simp [MemPlace.row])).2 u v (by simpa using World.var?_cell hg1 hv1 0)
  have ok2 : ∀ u v, l2 = [.iface u v] → Value.okWide Tryz.prog W .any 0 u v := fun u v e => by
    subst e
    exact (hrows 2 0 (by simp [MemPlace.row])).2 u v (by simpa using World.var?_cell hg2 hv2 0)
  have T1 := fun hrow => errorString_of_trod Tryz.underlying55 hrow Tryz.underlying110 Tryz.underlying112 rfl rfl Tryz.underlying9 err_cells str_cells hd1 ok1
  obtain ⟨a1, s1, rfl, _⟩ := T1 (fun u hu => err_row u (hu.trans (by decide)))
  have T2 := fun hrow => errorString_of_trod Tryz.underlying55 hrow Tryz.underlying110 Tryz.underlying112 rfl rfl Tryz.underlying9 err_cells str_cells hd2 ok2
  obtain ⟨a2, s2, rfl, _⟩ := T2 (fun u hu => err_row u (hu.trans (by decide)))
  exact ⟨⟨a1, by simpa using World.var?_cell hg1 hv1 0⟩, ⟨_, _, by simpa using World.var?_cell hg2 hv2 0⟩⟩
end Go.Proofs.YtaejkbjepbifcabGreatDoor.Num
namespace Go.Proofs.YtaejkbjepbifcabGreatDoor.IxN
open Go.RowKit Go.Maps Go.Proofs.YtaejkbjepbifcabGreatDoorW.PrintWords Go.Proofs.YtaejkbjepbifcabGreatDoor.Plain Go.Proofs.YtaejkbjepbifcabGreatDoor.Num
set_option linter.unusedVariables false
set_option linter.unusedSimpArgs false
structure Told (L : Da.Keys) (f : Int → Int) (s : Da.DA) (ks : List Int) : Prop where
  keys : KeysFor f ks
  small : Small s
  good : Da.Good s 0 L
  pos : 0 < s.n
  dup : ∀ k, 0 ≤ f k ∧ f k ≤ 1000000
def IBy (w w' : World) (L : Da.Keys) (f : Int → Int) (e : Ending) : Prop := ∃ (A : Option Addr) (c : Nat) (s : Da.DA) (ks : List Int), e = .returned (.tuple #[.slice A (ixB s f ks ks.length).length c, .int .i64 0]) ∧ Aside0 (Told L f s ks) ∧ Aside0 ((Kd.int .u8).C w' A (ixB s f ks ks.length).length (ixB s f ks ks.length)) ∧ Aside0 ((ixB s f ks ks.length).length ≤ c) ∧ Below w.heap.size w w'
set_option maxHeartbeats 8000000 in
set_option maxRecDepth 100000 in
theorem ibytes_calls (W : World) (A0 : Option Addr) (c0 k k2 : Nat) (ws : List ByteArray) (hr0 : Kd.C Kd.string W A0 ws.length ws) (hc0 : ws.length ≤ c0) (hw : Da.WordsOk k k2 ws) :
    Calls Tryz.prog 19 #[.slice A0 ws.length c0] W fun e w' => IBy W w' (Da.ixL ws) (Da.ixF ws) e := by
  have HW := Aside0.mk hw
  have hfew := hw.few
  have HNE : Aside0 (ws ≠ []) := ⟨fun e => hw.ok.ne (by rw [e]; rfl)⟩
  have h1 := Aside0.mk (PB.slices_Clone_string_string.calls A0 c0 ws ws W hr0 hc0 (Da.clone_strs ws (by omega)))
  clear hr0 hc0 hw
  go_enter Tryz.func19, Tryz.ntmps19
  go_upto_region 5 with (first | (go_at_call 27; refine h1.out.mono ?_; rintro e_ w1 ⟨v1, rfl, hv, hB⟩; have HB1 := Aside0.mk hB; obtain ⟨kb, kc, rfl, b1, b2, b3, b4⟩ := Da.own_head hv HNE.out; have h2 := Aside0.mk (Da.bix_calls w1 (some ⟨kb, 0, none⟩) kc k k2 ws b4 b3 HW.out.srt HW.out.up HW.out.srt2 HW.out.ok (by omega) HW.out.sz); clear hB hv b4) | (go_at_call 26; refine h2.out.mono ?_; rintro e_ w2 ⟨g, s, mb, rfl, hX, hg, hm, hK⟩; have HX := Aside0.mk hX; have HK := Aside0.mk hK; clear hX hK))
  have hgl : g < w2.heap.size := HX.out.arr.lt
  have hml : mb < w2.heap.size := HX.out.dup.lt
  obtain ⟨w3, hw3⟩ : ∃ w3, w3 = w2.alloc (.cells #[.slice (some ⟨g, 0, none⟩) s.n s.n, .map (some mb)] 53) := ⟨_, rfl⟩
  rw [← hw3]
  have z3 : w3.heap.size = w2.heap.size + 1 := by rw [hw3, Own.size_alloc]
  have k3 : Da.Kp w2 w3 (fun _ => False) := by rw [hw3]; exact (Da.Kp.self w2 _).alloc _
  have bx : w3.heap[w2.heap.size]? = some (ixBox (.slice (some ⟨g, 0, none⟩) s.n s.n) (.map (some mb))) := by rw [hw3]; exact blk_new _ _
  have h4 := Aside0.mk (iwriteTo_calls (w3.alloc (.cells #[.slice none 0 0, .int .i64 0, .int .i8 0] 71)) g mb s (Da.ixL ws) (Da.ixF ws) (HX.out.kept (k3.alloc _) id id) w3.heap.size w3.heap.size (Lib.fresh_isBuffer 71 5 w3) (by rw [Own.size_alloc]; omega) (by omega) (by omega))
  have hb3 := below_step (w := W) HB1.out (Da.kp_below ((HK.out.trans k3).mono (fun i _ hi => by rcases hi with hi | hi <;> exact hi)))
  have HB3 := Aside0.mk hb3
  obtain ⟨xb, hxb⟩ : ∃ xb, w2.heap.size = xb := ⟨_, rfl⟩
  rw [hxb] at bx z3 ⊢
  rw [z3] at h4
  have HZ3 := Aside0.mk z3
  have x0 : (w3.alloc (.cells #[.slice none 0 0, .int .i64 0, .int .i8 0] 71)).cell? ⟨xb, 0, none⟩ = some (.slice (some ⟨g, 0, none⟩) s.n s.n) := cells_at (blk_alloc bx _) 0 _ rfl
  have x1 : (w3.alloc (.cells #[.slice none 0 0, .int .i64 0, .int .i8 0] 71)).cell? ⟨xb, 1, none⟩ = some (.map (some mb)) := cells_at (blk_alloc bx _) 1 _ rfl
  have HT : Aside0 (Small s ∧ Da.Good s 0 (Da.ixL ws) ∧ 0 < s.n) := ⟨⟨HX.out.arr.i32, HX.out.arr.big⟩, HX.out.good, HX.out.pos⟩
  clear hw3 z3 k3 bx hxb hb3 h1 h2 HB1 HK hgl hml
  go_wp2_with fail
  with_reducible refine Calls.mono h4.out ?_
  rintro e_ w4 ⟨ks, rfl, hKF, hI4, hB4, hS4⟩
  obtain ⟨T, hT⟩ : ∃ T, T = 16 + 8 * s.n + 8 * ks.length := ⟨_, rfl⟩
  have hlen : (u8s (ixB s (Da.ixF ws) ks ks.length)).length = T := by simp only [u8s, List.length_map, ixB_len _ _ _ _ (Nat.le_refl _), hT]
  have HI4 := Aside0.mk hI4
  have HB4 := Aside0.mk hB4
  have HKF := Aside0.mk hKF
  have HL := Aside0.mk hlen
  rw [← hT]
  clear hI4 hB4 hKF hlen hT hS4 x0 x1 h4
  go_wp2_with (first | (go_at_call 33; refine (Tryz.Buffer_Len _ _ _ _ HI4.out).mono ?_; rw [HL.out]; rintro _ _ ⟨rfl, n3, rfl⟩) | (go_at_call 34; refine (Tryz.Buffer_Bytes _ _ _ _ (bufDrewN HI4.out _)).mono ?_; rintro _ _ ⟨v4, rfl, hv4, n4, rfl⟩; have HV := Aside0.mk hv4; clear hv4))
  have hb4 : Below w3.heap.size w3 w4 := (below_alloc (Below.refl _ _) _).trans (by rw [HZ3.out]; exact HB4.out)
  have hR := bytes_R HV.out
  rw [drewN_add] at hR
  obtain ⟨A, c, rfl, hc, hC, -⟩ := R_row hR
  have HCC := Aside0.mk hC
  have HHC := Aside0.mk hc
  have HBB := Aside0.mk (pw_below_drewN (below_step (w := W) HB3.out hb4) (n3 + n4))
  clear hb4 hR hC hc
  go_ret2
  exact ⟨A, c, s, ks, rfl, ⟨HKF.out, HT.out.1, HT.out.2.1, HT.out.2.2, fun x => by have := HW.out.fb x; omega⟩, HCC, HHC, HBB.out⟩
set_option maxHeartbeats 8000000 in
set_option maxRecDepth 100000 in
theorem iagain_calls (W : World) (A0 A1 : Option Addr) (c0 c1 k k2 : Nat) (ws ts : List ByteArray) (hs : Snt W) (hr0 : Kd.C Kd.string W A0 ws.length ws) (hc0 : ws.length ≤ c0) (hr1 : Kd.C Kd.string W A1 ts.length ts) (hw : Da.WordsOk k k2 ws) (hT : Da.TxsOk ts) :
    Calls Tryz.prog 10 #[.slice A0 ws.length c0, .slice A1 ts.length c1] W fun e w' => Da.JskE W w' (Da.ixL ws) (Da.ixF ws) ts e := by
  have HR1 := Aside0.mk hr1
  have HW := Aside0.mk hw
  have HT := Aside0.mk hT
  have HS := Aside0.mk hs
  have h1 := Aside0.mk (ibytes_calls W A0 c0 k k2 ws hr0 hc0 hw)
  clear hr0 hr1 hw hT hs hc0
  go_enter Tryz.func10, Tryz.ntmps10
  go_wp2_with fail
  with_reducible refine Calls.mono h1.out ?_
  rintro e_ w1 ⟨A, c, s, ks, rfl, HTo, HC, HCc, hB1⟩
  have hlen : (ixB s (Da.ixF ws) ks ks.length).length = 16 + 8 * s.n + 8 * ks.length := ixB_len _ _ _ _ (Nat.le_refl _)
  obtain ⟨a, rfl⟩ : ∃ a, A = some a := by
    obtain ⟨a, e, _⟩ := HC.out.2.2 (by omega)
    exact ⟨a, e⟩
  have hla := C_lt HC.out rfl (by omega)
  have hs1 : Snt w1 := Snt.below HS.out hB1
  have hbig := HTo.out.small.2
  have hfew := HTo.out.keys.few
  have hx : Ctx (w1.alloc (rdr (some a) (ixB s (Da.ixF ws) ks ks.length).length c 0 (-1))) w1.heap.size a (ixB s (Da.ixF ws) ks ks.length).length c (ixB s (Da.ixF ws) ks ks.length) :=
    ⟨Kd.C_alloc HC.out _, data_bytes _ _ _ _, HCc.out, by omega, by omega, by rw [Own.size_alloc]; omega, by rw [Own.size_alloc]; omega, sntAlloc hs1 _, (sntNe hs1).1, (sntNe hs1).2⟩
  have T1 := Aside0.mk (iread_calls (w1.alloc (rdr (some a) (ixB s (Da.ixF ws) ks ks.length).length c 0 (-1))) w1.heap.size a (ixB s (Da.ixF ws) ks ks.length).length c (-1) s (Da.ixF ws) ks (Da.ixL ws) hx (blk_new w1 _) rfl HTo.out.keys HTo.out.dup HTo.out.small HTo.out.good HTo.out.pos)
  have HB1 := Aside0.mk hB1
  obtain ⟨n, hn⟩ : ∃ n, n = (ixB s (Da.ixF ws) ks ks.length).length := ⟨_, rfl⟩
  rw [← hn] at T1 ⊢
  clear hn hlen hla hs1 hbig hfew hx hB1 h1
  go_wp2_with fail
  with_reducible refine Calls.mono (newReader _ _ _ _) ?_
  rintro _ _ ⟨rfl, rfl⟩
  go_wp2_with fail
  with_reducible refine Calls.mono T1.out ?_
  rintro e_ w2 ⟨G, mb, rfl, hX, hG, hm, hK⟩
  have hb2 : Below W.heap.size W w2 := below_kept (HB1.out.trans ((below_alloc (Below.refl _ w1) _).mono HB1.out.size)) HB1.out.size hK
  have HX := Aside0.mk hX
  have HB2 := Aside0.mk hb2
  clear hX hG hm hK hb2 T1
  go_upto_region 7 with fail
  obtain ⟨w3, hw3, hk3, bx⟩ : ∃ w3, w3 = w2.alloc (.cells #[.slice (some ⟨G, 0, none⟩) s.n s.n, .map (some mb)] 53) ∧ Da.Kp w2 w3 (fun _ => False) ∧ w3.heap[w2.heap.size]? = some (.cells #[.slice (some ⟨G, 0, none⟩) s.n s.n, .map (some mb)] 53 (0, 0)) := ⟨_, rfl, (Da.Kp.self w2 _).alloc _, blk_new _ _⟩
  rw [← hw3]
  obtain ⟨xb, hxb⟩ : ∃ xb, w2.heap.size = xb := ⟨_, rfl⟩
  rw [hxb] at bx ⊢
  have x0 : w3.cell? ⟨xb, 0, none⟩ = some (.slice (some ⟨G, 0, none⟩) s.n s.n) := cells_at bx 0 _ rfl
  have x1 : w3.cell? ⟨xb, 1, none⟩ = some (.map (some mb)) := cells_at bx 1 _ rfl
  have hb3 := below_step HB2.out (Da.kp_below hk3)
  have h4 := Aside0.mk (Da.jsk_calls w3 G mb c1 4000 s (Da.ixL ws) (Da.ixF ws) ts A1 (HX.out.kept hk3 id id) HW.out.kb (fun t ht => ⟨(HT.out.2 t ht).1, by have := (HT.out.2 t ht).2; omega, Nat.le_trans (Nat.mul_le_mul_right _ (Nat.succ_le_succ (HT.out.2 t ht).2)) (by decide)⟩) HW.out.fb (Kd.C_below HR1.out hb3) HT.out.1)
  have HB3 := Aside0.mk hb3
  clear hw3 hk3 bx hxb hb3
  go_wp2_with fail
  with_reducible refine Calls.mono h4.out ?_
  rintro e_ w4 ⟨ov, rfl, hR, hB⟩
  have HR4 := Aside0.mk hR
  have HB4 := Aside0.mk hB
  clear hR hB h4 x0 x1
  go_wp2_with fail
  go_ret2
  exact ⟨ov, rfl, Kd.R_lower HR4.out HB3.out.size, below_step HB3.out HB4.out⟩
end Go.Proofs.YtaejkbjepbifcabGreatDoor.IxN
