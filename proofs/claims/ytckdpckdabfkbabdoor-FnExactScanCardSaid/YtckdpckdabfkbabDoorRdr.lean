/- A reader of bytes: what one Read does, and what io.ReadFull does with a new row. -/
import Derived.Test.YtckdpckdabfkbabDoorNum
import Derived.Laws.CopyRow
import Derived.LaidEql
import Derived.StillTailTactics
import Derived.Deep.QuietTactic
import Derived.BigQuiet
import Derived.Deep.RegionWith
namespace Go.Proofs.YtckdpckdabfkbabDoor.Num
open Go.RowKit Go.Proofs.YtckdpckdabfkbabDoorW.PrintWords Go.Proofs.YtckdpckdabfkbabDoor.Plain
set_option linter.unusedVariables false

/-- The block of a bytes.Reader. -/
abbrev rdr (a : Option Addr) (n c i : Nat) (pr : Int) : Obj := .cells #[.slice a n c, .int .i64 i, .int .i64 pr] 97 (0, 0)
def u8s (l : List Int) : List Value := l.map (Value.int .u8)
theorem cells_at {w : World} {b : Nat} {cs : Array Value} {t : TypeId} (h : w.heap[b]? = some (.cells cs t (0, 0))) (i : Nat) (v : Value) (hv : cs[i]? = some v) : w.cell? ⟨b, i, none⟩ = some v := by
  unfold World.cell?; simp [h, hv]
theorem froz_at {w : World} {b : Nat} {cs : Array Value} {t : TypeId} (h : w.heap[b]? = some (.cells cs t (0, 0))) (i : Nat) : w.frozen? ⟨b, i, none⟩ = false := by
  unfold World.frozen?; simp [h]
theorem heap_drewN (w : World) (n : Nat) : (w.drewN n).heap = w.heap := rfl
theorem size_setCell (w : World) (p : Addr) (v : Value) : (w.setCell p v).heap.size = w.heap.size := by simp [World.setCell]
theorem int_info : (Tryd.prog.info? 5).map (·.size) = some 1 := by kernel_rfl

/-- What the world shows outside the memory stays. -/
def Env (w w' : World) : Prop := w'.os = w.os ∧ w'.tape = w.tape ∧ w'.output = w.output
theorem Env.trans {a b c : World} (h : Env a b) (k : Env b c) : Env a c := ⟨k.1.trans h.1, k.2.1.trans h.2.1, k.2.2.trans h.2.2⟩
/-- Old blocks stay, but those of S. -/
structure Kp (w w' : World) (S : Nat → Prop) : Prop where
  size : w.heap.size ≤ w'.heap.size
  old : ∀ i, i < w.heap.size → ¬ S i → w'.heap[i]? = w.heap[i]?
  env : Env w w'
theorem Kp.ofN {w W : World} {S : Nat → Prop} {q : Nat} (h : Kp (w.drewN q) W S) : Kp w W S := ⟨h.1, h.2, h.3⟩
theorem Kp.toN {w W : World} {S : Nat → Prop} (h : Kp w W S) (q : Nat) : Kp w (W.drewN q) S := ⟨h.1, h.2, h.3⟩
theorem C_cells {k : IntKind} {w : World} {a : Addr} {n : Nat} {xs : List Int} (h : (Kd.int k).C w (some a) n xs) (j : Nat) (x : Int) (hj : xs[j]? = some x) : w.cell? (a.add j) = some (.int k x) := by
  have hlt : j < n := by rw [← h.1]; exact (List.getElem?_eq_some_iff.1 hj).1
  obtain ⟨ad, e, hc⟩ := h.2.2 (by omega)
  obtain rfl := Option.some.inj e
  obtain ⟨c, _, hK, hu⟩ := hc j x hj
  have hK' : c = [.int k x] := hK
  subst hK'
  have := hu 0 _ rfl
  have e1 : (Kd.int k).sz = 1 := rfl
  rwa [e1, Nat.mul_one, Nat.add_zero] at this
theorem add_add (a : Addr) (i j : Nat) : (a.add i).add j = a.add (i + j) := by
  unfold Addr.add
  by_cases h1 : i = 0 <;> by_cases h2 : j = 0 <;> simp [h1, h2] <;> omega
theorem add_block (a : Addr) (i : Nat) : (a.add i).block = a.block := by unfold Addr.add; split <;> rfl

set_option maxHeartbeats 2000000 in
set_option maxRecDepth 100000 in
theorem read_some (w : World) (r d : Nat) (a : Addr) (n c m cm i : Nat) (pr : Int) (data : List Int) (ds : Array Value)
    (hr : w.heap[r]? = some (rdr (some a) n c i pr)) (hC : (Kd.int .u8).C w (some a) n data) (hi : i < n) (hnc : n ≤ c) (hn : n ≤ 1000000000000)
    (hd : w.heap[d]? = some (.cells ds 5 (0, 0))) (hds : ds.size = m) (hm : 0 < m) (hmm : m ≤ 1000000000000) (hrd : r ≠ d) (hra : r ≠ a.block) (hda : d ≠ a.block) :
    Calls Tryd.prog 79 #[.pointer (some ⟨r, 0, none⟩), .slice (some ⟨d, 0, none⟩) m cm] w fun e w' =>
      e = .returned (.tuple #[.int .i64 ((min m (n - i) : Nat) : Int), .nilIface]) ∧ Kp w w' (fun b => b = r ∨ b = d) ∧ w'.heap[r]? = some (rdr (some a) n c (i + min m (n - i)) (-1)) ∧
      w'.heap[d]? = some (.cells (u8s ((data.drop i).take m) ++ ds.toList.drop (min m (n - i))).toArray 5 (0, 0)) := by
  have c0 := cells_at hr 0 _ rfl
  have c1 := cells_at hr 1 _ rfl
  have c2 := cells_at hr 2 _ rfl
  have f1 := froz_at hr 1
  have f2 := froz_at hr 2
  have hlt : ¬ ((i : Int) ≥ (n : Int)) := by omega
  have hci : ¬ c = i := by omega
  have p1 : (0 : Int) ≤ i := by omega
  have p2 : (i : Int) ≤ n := by omega
  go_enter Tryd.func79, Tryd.ntmps79
  have hle : decide (n ≤ i) = false := decide_eq_false (by omega)
  go_wp2
  go_quiet (fail)
  go_wp2
  obtain ⟨X, hX⟩ : ∃ X, X = (w.drewN nq).setCell ⟨r, 2, none⟩ (.int .i64 (-1)) := ⟨_, rfl⟩
  rw [← hX]
  have hr1 : X.heap[r]? = some (rdr (some a) n c i (-1)) := by
    rw [hX]; exact blk_put (by rw [heap_drewN]; exact hr) 2 _ rfl
  have hd1 : X.heap[d]? = some (.cells ds 5 (0, 0)) := by
    rw [hX]; exact blk_far (by rw [heap_drewN]; exact hd) (Ne.symm hrd) _
  have HX := Aside0.mk hX
  clear hX c0 c1 c2 f1 f2
  have c0 := cells_at hr1 0 _ rfl
  have c1 := cells_at hr1 1 _ rfl
  have hdr : ∀ p, X.drew.cell? p = X.cell? p := fun p => by simp
  go_still_tail 10, (by kernel_rfl)
  obtain ⟨Y, hY⟩ : ∃ Y, Y = X.drew := ⟨_, rfl⟩
  have hY' : ({ heap := X.heap, tape := X.tape, drawn := X.drawn + 1, os := X.os, output := X.output } : World) = Y := hY.symm
  rw [hY']
  have hYh : Y.heap = X.heap := by rw [hY]; rfl
  have hYe : Env X Y := by rw [hY]; exact ⟨rfl, rfl, rfl⟩
  have HYe := Aside0.mk hYe
  clear hY hY' hdr c0 c1 hYe
  have hk : (u8s ((data.drop i).take m)).length = min m (n - i) := by
    have := hC.1
    simp [u8s, this]
  obtain ⟨Z, hZ⟩ : ∃ Z, Z = Y.setRow d (ds.toList.take 0 ++ u8s ((data.drop i).take m) ++ ds.toList.drop (0 + (u8s ((data.drop i).take m)).length)).toArray := ⟨_, rfl⟩
  have hcp := run_copy_row (P := Tryd.prog) Y 22 22 3 5 d 0 m cm (a.add i) (n - i) (c - i) ds 5 (u8s ((data.drop i).take m)) Tryd.underlying22 int_info
    (by rw [hYh]; exact hd1) (by rw [hk]; exact Nat.min_comm _ _) (fun j v hj => by
      rw [u8s, List.getElem?_map] at hj
      obtain ⟨x, hx, rfl⟩ := Option.map_eq_some_iff.1 hj
      rw [List.getElem?_take] at hx
      split at hx
      · rw [List.getElem?_drop] at hx
        rw [add_add]
        have h_ : Y.heap[a.block]? = w.heap[a.block]? := by
          rw [hYh, HX.out, Below.heap_setCell _ _ _ _ (Ne.symm hra), heap_drewN]
        have hb := add_block a (i + j)
        have := C_cells hC (i + j) x hx
        unfold World.cell? at this ⊢
        rw [hb] at this ⊢
        rw [h_]
        exact this
      · cases hx) (by rw [hk, hds]; omega) (fun v hv => by
      simp only [u8s, List.mem_map] at hv
      obtain ⟨x, _, rfl⟩ := hv
      rfl)
  rw [← hZ, hk] at hcp
  have hZr : Z.heap[r]? = some (rdr (some a) n c i (-1)) := by rw [hZ, setRow_other _ _ _ _ hrd, hYh]; exact hr1
  have hZd : Z.heap[d]? = some (.cells (u8s ((data.drop i).take m) ++ ds.toList.drop (min m (n - i))).toArray 5 (0, 0)) := by
    rw [hZ, setRow_heap _ _ _ _ _ _ (by rw [hYh]; exact hd1), hk]; simp
  have HZ := Aside0.mk hZ
  have HEnv : Aside0 (Env w Z) := ⟨(show Env w X by rw [HX.out]; exact ⟨rfl, rfl, rfl⟩).trans (HYe.out.trans (by rw [hZ]; exact ⟨rfl, rfl, rfl⟩))⟩
  have HY := Aside0.mk hYh
  clear hZ hYh
  have c1 := cells_at hZr 1 _ rfl
  have f1 := froz_at hZr 1
  go_wp2
  go_ret2
  refine ⟨rfl, ⟨?_, fun b hb hS => ?_, HEnv.out.trans ⟨rfl, rfl, rfl⟩⟩, ?_, ?_⟩
  · rw [size_setCell, HZ.out, size_setRow, HY.out, HX.out, size_setCell, heap_drewN]; exact Nat.le_refl _
  · have hb1 : b ≠ r := fun e => hS (.inl e)
    have hb2 : b ≠ d := fun e => hS (.inr e)
    rw [Below.heap_setCell _ _ _ _ hb1, HZ.out, setRow_other _ _ _ _ hb2, HY.out, HX.out, Below.heap_setCell _ _ _ _ hb1, heap_drewN]
  · exact blk_put hZr 1 _ (by rw [show ((i + min m (n - i) : Nat) : Int) = (i : Int) + (min m (n - i) : Nat) by omega]; rfl)
  · exact blk_far hZd (Ne.symm hrd) _

theorem drewN_add (w : World) (a b : Nat) : (w.drewN a).drewN b = w.drewN (a + b) := by simp [World.drewN, Nat.add_assoc]
theorem blk_lt_cell {w : World} {p : Addr} {v : Value} (h : w.cell? p = some v) : p.block < w.heap.size := by
  rcases Nat.lt_or_ge p.block w.heap.size with h' | h'
  · exact h'
  · unfold World.cell? at h; simp [Array.getElem?_eq_none h'] at h
/-- What the readers ask of the sentinels. -/
structure Snt (w : World) : Prop where
  eof : ∃ a, w.cell? ⟨4, 0, none⟩ = some (.iface 132 (.pointer (some a)))
  bad : ∃ t x, w.cell? ⟨5, 0, none⟩ = some (.iface t x)
theorem cell_block {w X : World} {p : Addr} (h : X.heap[p.block]? = w.heap[p.block]?) : X.cell? p = w.cell? p := by
  unfold World.cell?; rw [h]
theorem Snt.move {w w' : World} (h : Snt w) (h1 : w'.heap[4]? = w.heap[4]?) (h2 : w'.heap[5]? = w.heap[5]?) : Snt w' :=
  ⟨by obtain ⟨a, ha⟩ := h.eof; exact ⟨a, (cell_block (p := ⟨4, 0, none⟩) h1).trans ha⟩, by obtain ⟨t, x, ha⟩ := h.bad; exact ⟨t, x, (cell_block (p := ⟨5, 0, none⟩) h2).trans ha⟩⟩

set_option maxHeartbeats 2000000 in
set_option maxRecDepth 100000 in
theorem read_eof (w : World) (r : Nat) (A B : Option Addr) (n c m cm : Nat) (pr : Int) (hs : Snt w) (hr : w.heap[r]? = some (rdr A n c n pr)) :
    Calls Tryd.prog 79 #[.pointer (some ⟨r, 0, none⟩), .slice B m cm] w fun e w' =>
      ∃ a, e = .returned (.tuple #[.int .i64 0, .iface 132 (.pointer (some a))]) ∧ w.cell? ⟨4, 0, none⟩ = some (.iface 132 (.pointer (some a))) ∧ ∃ q, w' = w.drewN q := by
  have c0 := cells_at hr 0 _ rfl
  have c1 := cells_at hr 1 _ rfl
  obtain ⟨aE, hE⟩ := hs.eof
  go_enter Tryd.func79, Tryd.ntmps79
  go_wp2
  go_quiet (fail)
  go_wp2
  go_quiet (fail)
  go_wp2
  go_ret2
  exact ⟨aE, rfl, hE, _, drewN_add _ _ _⟩

theorem rd_ahead (a : Addr) (w : World) : (nilAhead 255 63 (.pointer (some a)) "Read").run Tryd.prog w = .ok (some false) w := by kernel_rfl
theorem rd_method (a : Addr) (w : World) : (method 255 63 (.pointer (some a)) "Read").run Tryd.prog w = .ok (79, .pointer (some a)) w := by kernel_rfl
set_option maxHeartbeats 2000000 in
set_option maxRecDepth 100000 in
theorem atLeast_full (w : World) (r d : Nat) (a : Addr) (n c m i : Nat) (pr : Int) (data : List Int) (ds : Array Value)
    (hr : w.heap[r]? = some (rdr (some a) n c i pr)) (hC : (Kd.int .u8).C w (some a) n data) (hi : i + m ≤ n) (hnc : n ≤ c) (hn : n ≤ 1000000000000)
    (hd : w.heap[d]? = some (.cells ds 5 (0, 0))) (hds : ds.size = m) (hm : 0 < m) (hrd : r ≠ d) (hra : r ≠ a.block) (hda : d ≠ a.block) :
    Calls Tryd.prog 62 #[.iface 63 (.pointer (some ⟨r, 0, none⟩)), .slice (some ⟨d, 0, none⟩) m m, .int .i64 m] w fun e w' =>
      e = .returned (.tuple #[.int .i64 m, .nilIface]) ∧ Kp w w' (fun b => b = r ∨ b = d) ∧ w'.heap[r]? = some (rdr (some a) n c (i + m) (-1)) ∧
      w'.heap[d]? = some (.cells (u8s ((data.drop i).take m)).toArray 5 (0, 0)) := by
  have hk : min m (n - i) = m := by omega
  have C1 := Aside0.mk fun (q : Nat) => read_some (w.drewN q) r d a n c m m i pr data ds hr (Kd.C_drewN hC q) (by omega) hnc hn hd hds hm (by omega) hrd hra hda
  simp only [hk] at C1
  have hdl : ds.toList.drop m = [] := List.drop_eq_nil_of_le (by simp [hds])
  simp only [hdl, List.append_nil] at C1
  clear hdl hk hr hC hd hnc
  have p0 : ¬ (m : Int) < m := by omega
  have p1 : (0 : Int) < m := by omega
  have p2 : m ≤ 1000000000000 := by omega
  have n1 := rd_ahead
  have n2 := rd_method
  go_enter Tryd.func62, Tryd.ntmps62
  go_wp2
  go_loopg [6, 7] 1 (fun kq v6 v7 w' => (kq = 1 ∧ v6 = .int .i64 0 ∧ v7 = .nilIface ∧ Aside0 (w' = w)) ∨ (kq = 0 ∧ v6 = .int .i64 m ∧ v7 = .nilIface ∧ Aside0 (Kp w w' (fun b => b = r ∨ b = d) ∧ w'.heap[r]? = some (rdr (some a) n c (i + m) (-1)) ∧ w'.heap[d]? = some (.cells (u8s ((data.drop i).take m)).toArray 5 (0, 0)))))
  case atStart => exact .inl ⟨rfl, rfl, rfl, ⟨rfl⟩⟩
  case round =>
    rcases hrel with ⟨hq, rfl, rfl, hw⟩ | ⟨hq, rfl, rfl, HP⟩
    · obtain ⟨hw⟩ := hw
      subst hw
      have d1 : decide ((0 : Int) < (m : Int)) = true := decide_eq_true p1
      go_wp2_with fail
      go_region_with ((go_at_call 79; refine (C1.out _).mono ?_; rintro _ W2 ⟨rfl, HP_⟩; have HP := Aside0.mk HP_; clear HP_))
      go_wp2_with fail
      subst hq
      go_roundg 0
      case measure => omega
      case rel => exact .inr ⟨rfl, rfl, rfl, ⟨HP.out.1.ofN, HP.out.2⟩⟩
    · go_wp2_with fail
      go_ret2
      exact ⟨rfl, HP.out⟩

/-- A reading that comes to the end. -/
def Short (w : World) (S : Nat → Prop) (k : Nat) (e : Ending) (w' : World) : Prop := ∃ t x, e = .returned (.tuple #[.int .i64 (k : Int), .iface t x]) ∧ Kp w w' S
theorem err_comp : (Tryd.prog.info? 132).map (·.comparable) = some true := by kernel_rfl
theorem err_size : (Tryd.prog.info? 152).map (·.size) = some 1 := by kernel_rfl
theorem eof_eq (a : Addr) (w : World) : (binOp .eql 60 (.iface 132 (.pointer (some a))) (.iface 132 (.pointer (some a)))).run Tryd.prog w = .ok (.bool true) w := by
  obtain ⟨i, hi, hcmp⟩ := Option.map_eq_some_iff.1 err_comp
  obtain ⟨j, hj, _⟩ := Option.map_eq_some_iff.1 err_size
  exact run_eql_iface_ptr_same w a Tryd.underlying60 Tryd.underlying132 hi hcmp hj

set_option maxHeartbeats 4000000 in
set_option maxRecDepth 100000 in
theorem atLeast_short (w : World) (r d : Nat) (A : Option Addr) (n c m i : Nat) (pr : Int) (data : List Int) (ds : Array Value) (hs : Snt w)
    (hr : w.heap[r]? = some (rdr A n c i pr)) (hC : (Kd.int .u8).C w A n data) (hi : n < i + m) (hin : i ≤ n) (hnc : n ≤ c) (hn : n ≤ 1000000000000)
    (hd : w.heap[d]? = some (.cells ds 5 (0, 0))) (hds : ds.size = m) (hm : 0 < m) (hmm : m ≤ 1000000000000) (hrd : r ≠ d) (hra : ∀ a, A = some a → 0 < n → r ≠ a.block ∧ d ≠ a.block)
    (hg : 4 ≠ r ∧ 4 ≠ d ∧ 5 ≠ r ∧ 5 ≠ d) :
    Calls Tryd.prog 62 #[.iface 63 (.pointer (some ⟨r, 0, none⟩)), .slice (some ⟨d, 0, none⟩) m m, .int .i64 m] w (Short w (fun b => b = r ∨ b = d) (n - i)) := by
  have n1 := rd_ahead
  have n2 := rd_method
  have n3 := eof_eq
  obtain ⟨aE, hE⟩ := hs.eof
  obtain ⟨tb, xb, hbad⟩ := hs.bad
  have HS := Aside0.mk hs
  have HR := Aside0.mk hr
  have HC := Aside0.mk hC
  have HD := Aside0.mk hd
  have HE := Aside0.mk hE
  have HBad := Aside0.mk hbad
  have HG := Aside0.mk hg
  have HRA := Aside0.mk hra
  clear hs hr hC hd hE hbad hg hra
  have p0 : ¬ (m : Int) < m := by omega
  have p1 : (0 : Int) < m := by omega
  go_enter Tryd.func62, Tryd.ntmps62
  go_wp2
  go_loopg [6, 7] 2 (fun kq v6 v7 w' => (kq = 2 ∧ v6 = .int .i64 0 ∧ v7 = .nilIface ∧ Aside0 (w' = w)) ∨ (kq = 1 ∧ v6 = .int .i64 ((n - i : Nat) : Int) ∧ v7 = .nilIface ∧ Aside0 (Kp w w' (fun b => b = r ∨ b = d) ∧ w'.heap[r]? = some (rdr A n c n (-1)))) ∨
    (kq = 0 ∧ v6 = .int .i64 ((n - i : Nat) : Int) ∧ v7 = .iface 132 (.pointer (some aE)) ∧ Aside0 (Kp w w' (fun b => b = r ∨ b = d))))
  case atStart => exact .inl ⟨rfl, rfl, rfl, ⟨rfl⟩⟩
  case round =>
    rcases hrel with ⟨hq, rfl, rfl, hw⟩ | ⟨hq, rfl, rfl, HP⟩ | ⟨hq, rfl, rfl, HP⟩
    · obtain ⟨hw⟩ := hw
      subst hw
      have d1 : decide ((0 : Int) < (m : Int)) = true := decide_eq_true p1
      by_cases hlt : i < n
      · obtain ⟨a, rfl⟩ : ∃ a, A = some a := by
          obtain ⟨a, e, _⟩ := HC.out.2.2 (by omega)
          exact ⟨a, e⟩
        have C1 := Aside0.mk fun (q : Nat) => read_some (wr.drewN q) r d a n c m m i pr data ds HR.out (Kd.C_drewN HC.out q) hlt hnc hn HD.out hds hm hmm hrd (HRA.out a rfl (by omega)).1 (HRA.out a rfl (by omega)).2
        simp only [show min m (n - i) = n - i by omega, show i + (n - i) = n by omega] at C1
        go_wp2_with fail
        go_region_with ((go_at_call 79; refine (C1.out _).mono ?_; rintro _ W2 ⟨rfl, HP_⟩; have HP := Aside0.mk HP_; clear HP_))
        go_wp2_with fail
        subst hq
        go_roundg 1
        case measure => omega
        case rel => exact .inr (.inl ⟨rfl, rfl, rfl, ⟨HP.out.1.ofN, HP.out.2.1⟩⟩)
      · obtain rfl : i = n := by omega
        have C1 := Aside0.mk fun (q : Nat) => read_eof (wr.drewN q) r A (some ⟨d, 0, none⟩) i c m m pr (HS.out.move rfl rfl) HR.out
        go_wp2_with fail
        go_region_with ((go_at_call 79; refine (C1.out _).mono ?_; rintro _ W2 ⟨a9, rfl, ha9, HP_⟩; have HP := Aside0.mk HP_; have HA := Aside0.mk ha9; clear HP_ ha9))
        obtain rfl : a9 = aE := by
          have h_ := HA.out
          have h2_ : wr.cell? ⟨4, 0, none⟩ = _ := h_
          rw [HE.out] at h2_
          simpa using h2_.symm
        go_wp2_with fail
        subst hq
        go_roundg 0
        case measure => omega
        case rel =>
          refine .inr (.inr ⟨rfl, by rw [Nat.sub_self]; rfl, rfl, ⟨?_⟩⟩)
          obtain ⟨q, hq⟩ := HP.out
          rw [hq]
          exact ⟨Nat.le_refl _, fun _ _ _ => rfl, rfl, rfl, rfl⟩
    · have hlt : ((n - i : Nat) : Int) < m := by omega
      have d1 : decide (((n - i : Nat) : Int) < (m : Int)) = true := decide_eq_true hlt
      have hS : Snt wr := HS.out.move (HP.out.1.2 _ (blk_lt_cell HE.out) (by rintro (h | h); exact HG.out.1 h; exact HG.out.2.1 h)) (HP.out.1.2 _ (blk_lt_cell HBad.out) (by rintro (h | h); exact HG.out.2.2.1 h; exact HG.out.2.2.2 h))
      have HE2 : Aside0 (wr.cell? ⟨4, 0, none⟩ = some (.iface 132 (.pointer (some aE)))) := ⟨(cell_block (HP.out.1.2 _ (blk_lt_cell HE.out) (by rintro (h | h); exact HG.out.1 h; exact HG.out.2.1 h))).trans HE.out⟩
      obtain ⟨k, hk⟩ : ∃ k, k = n - i := ⟨_, rfl⟩
      have p2 : k ≤ m := by omega
      have HK := Aside0.mk hk
      rw [← hk] at hlt d1 ⊢
      have p3 : (k : Int) ≤ m := by omega
      have p4 : ¬ m = k := by omega
      have HS2 := Aside0.mk hS
      clear hS hk
      have p6 : (0 : Int) ≤ k := by omega
      have C1 := Aside0.mk fun (q : Nat) (B : Option Addr) (x y : Nat) => read_eof (wr.drewN q) r A B n c x y (-1) (HS2.out.move rfl rfl) HP.out.2
      go_wp2_with fail
      go_region_with ((go_at_call 79; refine (C1.out _ _ _ _).mono ?_; rintro _ W2 ⟨a9, rfl, ha9, HP_⟩; have HP2 := Aside0.mk HP_; have HA := Aside0.mk ha9; clear HP_ ha9))
      obtain rfl : a9 = aE := by
        have h_ := HA.out
        have h2_ : wr.cell? ⟨4, 0, none⟩ = _ := h_
        rw [HE2.out] at h2_
        simpa using h2_.symm
      go_wp2_with fail
      subst hq
      go_roundg 0
      case measure => omega
      case rel =>
        refine .inr (.inr ⟨rfl, by rw [← HK.out], rfl, ⟨?_⟩⟩)
        obtain ⟨q, hq⟩ := HP2.out
        rw [hq]
        exact (HP.out.1.toN _).toN _
    · obtain ⟨k, hk⟩ : ∃ k, k = n - i := ⟨_, rfl⟩
      have p2 : (k : Int) < m := by omega
      have d1 : decide ((k : Int) < (m : Int)) = true := decide_eq_true p2
      rw [← hk]
      have HK := Aside0.mk hk
      have HU : Aside0 (wr.cell? ⟨5, 0, none⟩ = some (.iface tb xb)) := ⟨(cell_block (HP.out.2 _ (blk_lt_cell HBad.out) (by rintro (h | h); exact HG.out.2.2.1 h; exact HG.out.2.2.2 h))).trans HBad.out⟩
      have HE2 : Aside0 (wr.cell? ⟨4, 0, none⟩ = some (.iface 132 (.pointer (some aE)))) := ⟨(cell_block (HP.out.2 _ (blk_lt_cell HE.out) (by rintro (h | h); exact HG.out.1 h; exact HG.out.2.1 h))).trans HE.out⟩
      have hu := HU.out
      have he := HE2.out
      clear hk
      by_cases h0 : (k : Int) > 0
      · have d2 : decide ((k : Int) > 0) = true := decide_eq_true h0
        go_wp2_with fail
        go_ret2
        exact ⟨_, _, by rw [← HK.out]; rfl, HP.out⟩
      · have d2 : decide ((k : Int) > 0) = false := decide_eq_false h0
        go_wp2_with fail
        go_ret2
        exact ⟨_, _, by rw [← HK.out]; rfl, HP.out⟩
end Go.Proofs.YtckdpckdabfkbabDoor.Num
