/- Numbers: written to a buffer, read of a reader. -/
import Derived.Test.YtckdpckdabfkbabDoorRdr
import Derived.Test.YtckdpckdabfkbabDoorShelf
import Derived.LoopN
import Derived.Lib.EndianBits
import Derived.Lib.Buffer
namespace Go.Proofs.YtckdpckdabfkbabDoor.Num
open Go.RowKit Go.Proofs.YtckdpckdabfkbabDoorW.PrintWords Go.Proofs.YtckdpckdabfkbabDoor.Plain
set_option linter.unusedVariables false

/-- The k lowest bytes of a number, the least one first. -/
def leb : Nat → Int → List Int
  | 0, _ => []
  | k + 1, u => (u % 256) :: leb k (u / 256)

theorem leb_one (k : Nat) : ∀ u : Int, ∀ x ∈ leb k u, 0 ≤ x ∧ x < 256 := by
  induction k with
  | zero => intro u x hx; cases hx
  | succ k ih =>
    intro u x hx
    rcases List.mem_cons.1 hx with rfl | hx
    · omega
    · exact ih _ x hx
theorem leb_length (k : Nat) : ∀ u : Int, (leb k u).length = k := by
  induction k with
  | zero => intro u; rfl
  | succ k ih => intro u; simp [leb, ih]
theorem u8s_one (l : List Int) : ∀ v ∈ u8s l, v.oneCell' = true := fun v hv => by
  simp only [u8s, List.mem_map] at hv
  obtain ⟨x, _, rfl⟩ := hv
  rfl
theorem leb8 (u : Int) : leb 8 u = [u % 256, u / 256 % 256, u / 65536 % 256, u / 16777216 % 256, u / 4294967296 % 256, u / 1099511627776 % 256, u / 281474976710656 % 256, u / 72057594037927936 % 256] := by
  simp only [leb]
  have h1 : u / 256 / 256 = u / 65536 := by omega
  have h2 : u / 65536 / 256 = u / 16777216 := by omega
  have h3 : u / 16777216 / 256 = u / 4294967296 := by omega
  have h4 : u / 4294967296 / 256 = u / 1099511627776 := by omega
  have h5 : u / 1099511627776 / 256 = u / 281474976710656 := by omega
  have h6 : u / 281474976710656 / 256 = u / 72057594037927936 := by omega
  rw [h1, h2, h3, h4, h5, h6]
theorem leb2 (u : Int) : leb 2 u = [u % 256, u / 256 % 256] := rfl
theorem wrapu (v : Int) : IntKind.u64.wrap v = v % 18446744073709551616 := by
  simp [IntKind.wrap, IntKind.bits, IntKind.signed]
theorem bufCarry {T e : TypeId} {B b : Nat} {bs : List Value} {w w' : World} (h : Lib.IsBuffer T e B b bs w) (hb : ∀ k, k < w.heap.size → w'.heap[k]? = w.heap[k]?) : Lib.IsBuffer T e B b bs w' := by
  have hlt := h.lt
  obtain ⟨hB, v, lr, hbk, hown, hne⟩ := h
  refine ⟨hB, v, lr, by rw [hb _ hlt]; exact hbk, ?_, hne⟩
  obtain ⟨h1, h2⟩ := hown
  refine ⟨h1, ?_⟩
  rcases h2 with h2 | ⟨g, cap, cur, h3, h4, h5, h6⟩
  · exact .inl h2
  · exact .inr ⟨g, cap, cur, h3, h4, by rw [hb _ (blk_lt h5)]; exact h5, h6⟩
theorem bufAlloc {T e : TypeId} {B b : Nat} {bs : List Value} {w : World} (h : Lib.IsBuffer T e B b bs w) (x : Obj) : Lib.IsBuffer T e B b bs (w.alloc x) := bufCarry h fun k hk => Below.heap_alloc w x k hk
theorem bufDrewN {T e : TypeId} {B b : Nat} {bs : List Value} {w : World} (h : Lib.IsBuffer T e B b bs w) (n : Nat) : Lib.IsBuffer T e B b bs (w.drewN n) := bufCarry h fun _ _ => rfl
theorem setCell_heap_congr {w W : World} {g : Nat} (h : W.heap[g]? = w.heap[g]?) (o : Nat) (v : Value) : (W.setCell ⟨g, o, none⟩ v).heap[g]? = (w.setCell ⟨g, o, none⟩ v).heap[g]? := by
  simp only [World.setCell, Array.getElem?_modify, h]
theorem bw_method (a : Addr) (w : World) : (method 255 75 (.pointer (some a)) "Write").run Tryd.prog w = .ok (83, .pointer (some a)) w := by kernel_rfl
set_option maxHeartbeats 4000000 in
set_option maxRecDepth 100000 in
theorem write64 (B b : Nat) (bs : List Value) (v : Int) (w : World) (h : Lib.IsBuffer 71 5 B b bs w) (hBw : B ≤ w.heap.size) (h1 : ∀ v ∈ bs, v.oneCell' = true) (hlim : bs.length + 8 ≤ 140737488355328) :
    Calls Tryd.prog 46 #[.iface 75 (.pointer (some ⟨b, 0, none⟩)), .int .i64 v] w fun e w' => e = .returned .nilIface ∧ Lib.IsBuffer 71 5 B b (bs ++ u8s (leb 8 (v % 18446744073709551616))) w' ∧ Below B w w' ∧ Lib.OthersKept 5 (some b) w w' := by
  have n1 := bw_method
  have hmk : ∀ w, (Instr.makeSlice 22 (.int .i64 8) (.int .i64 8)).run Tryd.prog w = .ok (.slice (some ⟨w.heap.size, 0, none⟩) 8 8) (w.alloc (.cells #[.int .u8 0, .int .u8 0, .int .u8 0, .int .u8 0, .int .u8 0, .int .u8 0, .int .u8 0, .int .u8 0] 5)) := fun _ => by kernel_rfl
  go_enter Tryd.func46, Tryd.ntmps46
  go_wp2_with (go_at_call 47; refine (size64 _ _).mono ?_; rintro _ _ ⟨rfl, rfl⟩)
  refine wp_loop_rounds 10 ?_
  iterate 9 (rw [rounds_succ]; go_wp2_with fail)
  have hl := leb8 (IntKind.u64.wrap v)
  have hlt := h.lt
  refine (Tryd.Buffer_Write_any B b bs (u8s (leb 8 (IntKind.u64.wrap v))) ⟨w.heap.size, 0, none⟩ 8 8 _ (bufAlloc h _) (by rw [Own.size_alloc]; omega) h1 (by simp [u8s, leb_length]) (by simp; omega) (fun j v hj => ?_) (u8s_one _) hlim).mono ?_
  · rw [hl] at hj
    have : (⟨w.heap.size, 0, none⟩ : Addr).add j = ⟨w.heap.size, j, none⟩ := by unfold Addr.add; by_cases h : j = 0 <;> simp [h]
    rw [this, Own.alloc_cell]
    simpa [u8s] using hj
  · rintro _ W2 ⟨rfl, hI, hB2, hO2⟩
    have HO2 := Aside0.mk hO2
    clear hO2
    have HI := Aside0.mk hI
    have HB2 := Aside0.mk hB2
    clear hI hB2 hl
    go_wp2_with fail
    go_ret
    exact ⟨rfl, by rw [← wrapu]; exact HI.out, (Below.refl _ _).alloc hBw _ |>.trans HB2.out, fun k o hk hne ht => HO2.out k o (by rw [Below.heap_alloc _ _ _ (blk_lt hk)]; exact hk) hne ht⟩
set_option maxHeartbeats 4000000 in
set_option maxRecDepth 100000 in
theorem write16 (B b : Nat) (bs : List Value) (v : Int) (w : World) (h : Lib.IsBuffer 71 5 B b bs w) (hBw : B ≤ w.heap.size) (h1 : ∀ v ∈ bs, v.oneCell' = true) (hlim : bs.length + 2 ≤ 140737488355328) :
    Calls Tryd.prog 48 #[.iface 75 (.pointer (some ⟨b, 0, none⟩)), .int .i16 v] w fun e w' => e = .returned .nilIface ∧ Lib.IsBuffer 71 5 B b (bs ++ u8s (leb 2 (v % 18446744073709551616))) w' ∧ Below B w w' ∧ Lib.OthersKept 5 (some b) w w' := by
  have n1 := bw_method
  have hmk : ∀ w, (Instr.makeSlice 22 (.int .i64 2) (.int .i64 2)).run Tryd.prog w = .ok (.slice (some ⟨w.heap.size, 0, none⟩) 2 2) (w.alloc (.cells #[.int .u8 0, .int .u8 0] 5)) := fun _ => by kernel_rfl
  go_enter Tryd.func48, Tryd.ntmps48
  go_wp2_with (go_at_call 49; refine (size16 _ _).mono ?_; rintro _ _ ⟨rfl, rfl⟩)
  refine wp_loop_rounds 4 ?_
  iterate 3 (rw [rounds_succ]; go_wp2_with fail)
  have hl := leb2 (IntKind.u64.wrap v)
  have hlt := h.lt
  refine (Tryd.Buffer_Write_any B b bs (u8s (leb 2 (IntKind.u64.wrap v))) ⟨w.heap.size, 0, none⟩ 2 2 _ (bufAlloc h _) (by rw [Own.size_alloc]; omega) h1 (by simp [u8s, leb_length]) (by simp; omega) (fun j v hj => ?_) (u8s_one _) hlim).mono ?_
  · rw [hl] at hj
    have : (⟨w.heap.size, 0, none⟩ : Addr).add j = ⟨w.heap.size, j, none⟩ := by unfold Addr.add; by_cases h : j = 0 <;> simp [h]
    rw [this, Own.alloc_cell]
    simpa [u8s] using hj
  · rintro _ W2 ⟨rfl, hI, hB2, hO2⟩
    have HO2 := Aside0.mk hO2
    clear hO2
    have HI := Aside0.mk hI
    have HB2 := Aside0.mk hB2
    clear hI hB2 hl
    go_wp2_with fail
    go_ret
    exact ⟨rfl, by rw [← wrapu]; exact HI.out, (Below.refl _ _).alloc hBw _ |>.trans HB2.out, fun k o hk hne ht => HO2.out k o (by rw [Below.heap_alloc _ _ _ (blk_lt hk)]; exact hk) hne ht⟩

open Go.Lib in
theorem or8 {x0 x1 x2 x3 x4 x5 x6 x7 : Int} (l0 : 0 ≤ x0) (m0 : x0 < 256) (l1 : 0 ≤ x1) (m1 : x1 < 256) (l2 : 0 ≤ x2) (m2 : x2 < 256) (l3 : 0 ≤ x3) (m3 : x3 < 256) (l4 : 0 ≤ x4) (m4 : x4 < 256) (l5 : 0 ≤ x5) (m5 : x5 < 256) (l6 : 0 ≤ x6) (m6 : x6 < 256) (l7 : 0 ≤ x7) (m7 : x7 < 256) :
    bits .or .u64 (bits .or .u64 (bits .or .u64 (bits .or .u64 (bits .or .u64 (bits .or .u64 (bits .or .u64 (bits .or .u64 0 x0) (x1 * 256)) (x2 * 65536)) (x3 * 16777216)) (x4 * 4294967296)) (x5 * 1099511627776)) (x6 * 281474976710656)) (x7 * 72057594037927936)
      = x0 + x1 * 256 + x2 * 65536 + x3 * 16777216 + x4 * 4294967296 + x5 * 1099511627776 + x6 * 281474976710656 + x7 * 72057594037927936 := by
  have e0 : bits .or .u64 0 x0 = x0 := by
    have := bits_join_low .u64 64 (by decide) (fun n h0 h1 => wraps_u64 n h0 h1) 0 0 x0 (by omega) (by omega) (by omega) l0 (by omega) (by omega)
    rw [this]; omega
  have e1 : bits .or .u64 x0 (x1 * 256) = x0 + x1 * 256 := u64_or8 _ _ l0 m0 (by omega) (by omega) (by omega)
  have e2 : bits .or .u64 (x0 + x1 * 256) (x2 * 65536) = x0 + x1 * 256 + x2 * 65536 := u64_or16 _ _ (by omega) (by omega) (by omega) (by omega) (by omega)
  have e3 : bits .or .u64 (x0 + x1 * 256 + x2 * 65536) (x3 * 16777216) = x0 + x1 * 256 + x2 * 65536 + x3 * 16777216 := u64_or24 _ _ (by omega) (by omega) (by omega) (by omega) (by omega)
  have e4 : bits .or .u64 (x0 + x1 * 256 + x2 * 65536 + x3 * 16777216) (x4 * 4294967296) = x0 + x1 * 256 + x2 * 65536 + x3 * 16777216 + x4 * 4294967296 := u64_or32 _ _ (by omega) (by omega) (by omega) (by omega) (by omega)
  have e5 : bits .or .u64 (x0 + x1 * 256 + x2 * 65536 + x3 * 16777216 + x4 * 4294967296) (x5 * 1099511627776) = x0 + x1 * 256 + x2 * 65536 + x3 * 16777216 + x4 * 4294967296 + x5 * 1099511627776 := u64_or40 _ _ (by omega) (by omega) (by omega) (by omega) (by omega)
  have e6 : bits .or .u64 (x0 + x1 * 256 + x2 * 65536 + x3 * 16777216 + x4 * 4294967296 + x5 * 1099511627776) (x6 * 281474976710656) = x0 + x1 * 256 + x2 * 65536 + x3 * 16777216 + x4 * 4294967296 + x5 * 1099511627776 + x6 * 281474976710656 := u64_or48 _ _ (by omega) (by omega) (by omega) (by omega) (by omega)
  have e7 : bits .or .u64 (x0 + x1 * 256 + x2 * 65536 + x3 * 16777216 + x4 * 4294967296 + x5 * 1099511627776 + x6 * 281474976710656) (x7 * 72057594037927936) = x0 + x1 * 256 + x2 * 65536 + x3 * 16777216 + x4 * 4294967296 + x5 * 1099511627776 + x6 * 281474976710656 + x7 * 72057594037927936 := u64_or56 _ _ (by omega) (by omega) (by omega) (by omega) (by omega)
  rw [e0, e1, e2, e3, e4, e5, e6, e7]
def valb : List Int → Int
  | [] => 0
  | x :: l => x + 256 * valb l

set_option maxHeartbeats 2000000 in
theorem full_full (w : World) (r d : Nat) (a : Addr) (n c m i : Nat) (pr : Int) (data : List Int) (ds : Array Value)
    (hr : w.heap[r]? = some (rdr (some a) n c i pr)) (hC : (Kd.int .u8).C w (some a) n data) (hi : i + m ≤ n) (hnc : n ≤ c) (hn : n ≤ 1000000000000)
    (hd : w.heap[d]? = some (.cells ds 5 (0, 0))) (hds : ds.size = m) (hm : 0 < m) (hrd : r ≠ d) (hra : r ≠ a.block) (hda : d ≠ a.block) :
    Calls Tryd.prog 57 #[.iface 63 (.pointer (some ⟨r, 0, none⟩)), .slice (some ⟨d, 0, none⟩) m m] w fun e w' =>
      e = .returned (.tuple #[.int .i64 m, .nilIface]) ∧ Kp w w' (fun b => b = r ∨ b = d) ∧ w'.heap[r]? = some (rdr (some a) n c (i + m) (-1)) ∧
      w'.heap[d]? = some (.cells (u8s ((data.drop i).take m)).toArray 5 (0, 0)) := by
  have C1 := Aside0.mk (atLeast_full w r d a n c m i pr data ds hr hC hi hnc hn hd hds hm hrd hra hda)
  clear hr hC hd hi
  go_enter Tryd.func57, Tryd.ntmps57
  go_wp2_with fail
  refine C1.out.mono ?_
  rintro _ W2 ⟨rfl, HP_⟩
  have HP := Aside0.mk HP_
  clear HP_
  go_wp2_with fail
  go_ret2
  exact ⟨rfl, HP.out⟩
set_option maxHeartbeats 2000000 in
theorem full_short (w : World) (r d : Nat) (A : Option Addr) (n c m i : Nat) (pr : Int) (data : List Int) (ds : Array Value) (hs : Snt w)
    (hr : w.heap[r]? = some (rdr A n c i pr)) (hC : (Kd.int .u8).C w A n data) (hi : n < i + m) (hin : i ≤ n) (hnc : n ≤ c) (hn : n ≤ 1000000000000)
    (hd : w.heap[d]? = some (.cells ds 5 (0, 0))) (hds : ds.size = m) (hm : 0 < m) (hmm : m ≤ 1000000000000) (hrd : r ≠ d) (hra : ∀ a, A = some a → 0 < n → r ≠ a.block ∧ d ≠ a.block)
    (hg : 4 ≠ r ∧ 4 ≠ d ∧ 5 ≠ r ∧ 5 ≠ d) :
    Calls Tryd.prog 57 #[.iface 63 (.pointer (some ⟨r, 0, none⟩)), .slice (some ⟨d, 0, none⟩) m m] w (Short w (fun b => b = r ∨ b = d) (n - i)) := by
  have C1 := Aside0.mk (atLeast_short w r d A n c m i pr data ds hs hr hC hi hin hnc hn hd hds hm hmm hrd hra hg)
  clear hr hC hd hi hs hra hg
  go_enter Tryd.func57, Tryd.ntmps57
  go_wp2_with fail
  refine C1.out.mono ?_
  rintro _ W2 ⟨t, x, rfl, HP_⟩
  have HP := Aside0.mk HP_
  clear HP_
  go_wp2_with fail
  go_ret2
  exact ⟨t, x, rfl, HP.out⟩

set_option maxHeartbeats 4000000 in
set_option maxRecDepth 100000 in
theorem read64_ok (w : World) (r : Nat) (a : Addr) (n c i : Nat) (pr : Int) (data : List Int) (g o : Nat) (old : Int)
    (hr : w.heap[r]? = some (rdr (some a) n c i pr)) (hC : (Kd.int .u8).C w (some a) n data) (hb : ∀ x ∈ data, 0 ≤ x ∧ x < 256) (hi : i + 8 ≤ n) (hnc : n ≤ c) (hn : n ≤ 1000000000000) (hra : r ≠ a.block) (hab : a.block < w.heap.size)
    (hp : w.cell? ⟨g, o, none⟩ = some (.int .i64 old)) (hf : w.frozen? ⟨g, o, none⟩ = false) (hrp : r ≠ g) :
    Calls Tryd.prog 44 #[.iface 63 (.pointer (some ⟨r, 0, none⟩)), .pointer (some ⟨g, o, none⟩)] w fun e w' =>
      e = .returned .nilIface ∧ Kp w w' (fun b => b = r ∨ b = g) ∧ w'.heap[r]? = some (rdr (some a) n c (i + 8) (-1)) ∧ w'.heap[g]? = (w.setCell ⟨g, o, none⟩ (.int .i64 (wrap64 (valb ((data.drop i).take 8))))).heap[g]? := by
  have hmk : ∀ w, (Instr.makeSlice 22 (.int .i64 8) (.int .i64 8)).run Tryd.prog w = .ok (.slice (some ⟨w.heap.size, 0, none⟩) 8 8) (w.alloc (.cells #[.int .u8 0, .int .u8 0, .int .u8 0, .int .u8 0, .int .u8 0, .int .u8 0, .int .u8 0, .int .u8 0] 5)) := fun _ => by kernel_rfl
  have hrl := blk_lt hr
  have C1 := Aside0.mk (full_full (w.alloc (.cells #[.int .u8 0, .int .u8 0, .int .u8 0, .int .u8 0, .int .u8 0, .int .u8 0, .int .u8 0, .int .u8 0] 5)) r w.heap.size a n c 8 i pr data _ (blk_alloc hr _) (Kd.C_alloc hC _) hi hnc hn (blk_new w _) rfl (by omega) (by omega) hra (by omega))
  have HB := Aside0.mk hb
  have HR := Aside0.mk hr
  have HC := Aside0.mk hC
  have hgl : g < w.heap.size := blk_lt_cell hp
  clear hb hr hC
  go_enter Tryd.func44, Tryd.ntmps44
  go_wp2_with (go_at_call 47; refine (size64 _ _).mono ?_; rintro _ _ ⟨rfl, rfl⟩)
  refine C1.out.mono ?_
  rintro _ W2 ⟨rfl, hK, hr2, hd2⟩
  have hg2 : W2.heap[g]? = w.heap[g]? := by
    rw [hK.2 g (by rw [Own.size_alloc]; omega) (by rintro (h | h) <;> omega), Below.heap_alloc _ _ _ hgl]
  have hdl : ((data.drop i).take 8).length = 8 := by have := HC.out.1; simp [this]; omega
  obtain ⟨x0, x1, x2, x3, x4, x5, x6, x7, hx⟩ : ∃ x0 x1 x2 x3 x4 x5 x6 x7, (data.drop i).take 8 = [x0, x1, x2, x3, x4, x5, x6, x7] := by
    match h : (data.drop i).take 8, hdl with
    | [x0, x1, x2, x3, x4, x5, x6, x7], _ => exact ⟨_, _, _, _, _, _, _, _, rfl⟩
  have hbx : ∀ x ∈ [x0, x1, x2, x3, x4, x5, x6, x7], 0 ≤ x ∧ x < 256 := fun x hx' => by
    rw [← hx] at hx'
    exact HB.out x (List.mem_of_mem_drop (List.mem_of_mem_take hx'))
  simp only [List.mem_cons, List.not_mem_nil, or_false, forall_eq_or_imp, forall_eq] at hbx
  obtain ⟨⟨l0, m0⟩, ⟨l1, m1⟩, ⟨l2, m2⟩, ⟨l3, m3⟩, ⟨l4, m4⟩, ⟨l5, m5⟩, ⟨l6, m6⟩, l7, m7⟩ := hbx
  rw [hx] at hd2
  have d0 : W2.cell? ⟨w.heap.size, 0, none⟩ = some (.int .u8 x0) := cells_at hd2 0 _ rfl
  have d1 : W2.cell? ⟨w.heap.size, 1, none⟩ = some (.int .u8 x1) := cells_at hd2 1 _ rfl
  have d2 : W2.cell? ⟨w.heap.size, 2, none⟩ = some (.int .u8 x2) := cells_at hd2 2 _ rfl
  have d3 : W2.cell? ⟨w.heap.size, 3, none⟩ = some (.int .u8 x3) := cells_at hd2 3 _ rfl
  have d4 : W2.cell? ⟨w.heap.size, 4, none⟩ = some (.int .u8 x4) := cells_at hd2 4 _ rfl
  have d5 : W2.cell? ⟨w.heap.size, 5, none⟩ = some (.int .u8 x5) := cells_at hd2 5 _ rfl
  have d6 : W2.cell? ⟨w.heap.size, 6, none⟩ = some (.int .u8 x6) := cells_at hd2 6 _ rfl
  have d7 : W2.cell? ⟨w.heap.size, 7, none⟩ = some (.int .u8 x7) := cells_at hd2 7 _ rfl
  have HK := Aside0.mk hK
  have HR2 := Aside0.mk hr2
  have HG2 := Aside0.mk hg2
  have HX := Aside0.mk hx
  have hp2 : W2.cell? ⟨g, o, none⟩ = some (.int .i64 old) := (cell_block (p := ⟨g, o, none⟩) hg2).trans hp
  have hf2 : W2.frozen? ⟨g, o, none⟩ = false := by
    have h_ : W2.frozen? ⟨g, o, none⟩ = w.frozen? ⟨g, o, none⟩ := by unfold World.frozen?; rw [hg2]
    rw [h_]; exact hf
  clear hK hr2 hg2 hx hdl hd2 hp hf hrl hgl
  go_wp2_with fail
  refine wp_loop_rounds 10 ?_
  iterate 9 (rw [rounds_succ]; go_wp2_with fail)
  go_ret
  have hv := or8 l0 m0 l1 m1 l2 m2 l3 m3 l4 m4 l5 m5 l6 m6 l7 m7
  refine ⟨rfl, ?_⟩
  have hval : valb [x0, x1, x2, x3, x4, x5, x6, x7] = x0 + x1 * 256 + x2 * 65536 + x3 * 16777216 + x4 * 4294967296 + x5 * 1099511627776 + x6 * 281474976710656 + x7 * 72057594037927936 := by
    simp only [valb]; omega
  rw [hv, ← hval, ← HX.out]
  refine ⟨⟨?_, fun b hb hS => ?_, Env.trans (show Env w _ from ⟨rfl, rfl, rfl⟩) (HK.out.env.trans ⟨rfl, rfl, rfl⟩)⟩, ?_, ?_⟩
  · rw [size_setCell]; exact Nat.le_trans (by rw [Own.size_alloc]; omega) HK.out.1
  · have hb1 : b ≠ r := fun e => hS (.inl e)
    have hb2 : b ≠ g := fun e => hS (.inr e)
    rw [Below.heap_setCell _ _ _ _ hb2, HK.out.2 b (by rw [Own.size_alloc]; omega) (by rintro (h | h); exact hb1 h; omega), Below.heap_alloc _ _ _ hb]
  · rw [Below.heap_setCell _ _ _ _ hrp]; exact HR2.out
  · exact setCell_heap_congr HG2.out _ _
open Go.Lib in
theorem or2 {x0 x1 : Int} (l0 : 0 ≤ x0) (m0 : x0 < 256) (l1 : 0 ≤ x1) (m1 : x1 < 256) : bits .or .u64 (bits .or .u64 0 x0) (x1 * 256) = x0 + x1 * 256 := by
  have e0 : bits .or .u64 0 x0 = x0 := by
    have := bits_join_low .u64 64 (by decide) (fun n h0 h1 => wraps_u64 n h0 h1) 0 0 x0 (by omega) (by omega) (by omega) l0 (by omega) (by omega)
    rw [this]; omega
  rw [e0, u64_or8 _ _ l0 m0 (by omega) (by omega) (by omega)]
set_option maxHeartbeats 4000000 in
set_option maxRecDepth 100000 in
theorem read16_ok (w : World) (r : Nat) (a : Addr) (n c i : Nat) (pr : Int) (data : List Int) (g o : Nat) (old : Int)
    (hr : w.heap[r]? = some (rdr (some a) n c i pr)) (hC : (Kd.int .u8).C w (some a) n data) (hb : ∀ x ∈ data, 0 ≤ x ∧ x < 256) (hi : i + 2 ≤ n) (hnc : n ≤ c) (hn : n ≤ 1000000000000) (hra : r ≠ a.block) (hab : a.block < w.heap.size)
    (hp : w.cell? ⟨g, o, none⟩ = some (.int .i16 old)) (hf : w.frozen? ⟨g, o, none⟩ = false) (hrp : r ≠ g) :
    Calls Tryd.prog 45 #[.iface 63 (.pointer (some ⟨r, 0, none⟩)), .pointer (some ⟨g, o, none⟩)] w fun e w' =>
      e = .returned .nilIface ∧ Kp w w' (fun b => b = r ∨ b = g) ∧ w'.heap[r]? = some (rdr (some a) n c (i + 2) (-1)) ∧ w'.heap[g]? = (w.setCell ⟨g, o, none⟩ (.int .i16 (IntKind.i16.wrap (valb ((data.drop i).take 2))))).heap[g]? := by
  have hmk : ∀ w, (Instr.makeSlice 22 (.int .i64 2) (.int .i64 2)).run Tryd.prog w = .ok (.slice (some ⟨w.heap.size, 0, none⟩) 2 2) (w.alloc (.cells #[.int .u8 0, .int .u8 0] 5)) := fun _ => by kernel_rfl
  have hrl := blk_lt hr
  have C1 := Aside0.mk (full_full (w.alloc (.cells #[.int .u8 0, .int .u8 0] 5)) r w.heap.size a n c 2 i pr data _ (blk_alloc hr _) (Kd.C_alloc hC _) hi hnc hn (blk_new w _) rfl (by omega) (by omega) hra (by omega))
  have HB := Aside0.mk hb
  have HR := Aside0.mk hr
  have HC := Aside0.mk hC
  have hgl : g < w.heap.size := blk_lt_cell hp
  clear hb hr hC
  go_enter Tryd.func45, Tryd.ntmps45
  go_wp2_with (go_at_call 49; refine (size16 _ _).mono ?_; rintro _ _ ⟨rfl, rfl⟩)
  refine C1.out.mono ?_
  rintro _ W2 ⟨rfl, hK, hr2, hd2⟩
  have hg2 : W2.heap[g]? = w.heap[g]? := by
    rw [hK.2 g (by rw [Own.size_alloc]; omega) (by rintro (h | h) <;> omega), Below.heap_alloc _ _ _ hgl]
  have hdl : ((data.drop i).take 2).length = 2 := by have := HC.out.1; simp [this]; omega
  obtain ⟨x0, x1, hx⟩ : ∃ x0 x1, (data.drop i).take 2 = [x0, x1] := by
    match h : (data.drop i).take 2, hdl with
    | [x0, x1], _ => exact ⟨_, _, rfl⟩
  have hbx : ∀ x ∈ [x0, x1], 0 ≤ x ∧ x < 256 := fun x hx' => by
    rw [← hx] at hx'
    exact HB.out x (List.mem_of_mem_drop (List.mem_of_mem_take hx'))
  simp only [List.mem_cons, List.not_mem_nil, or_false, forall_eq_or_imp, forall_eq] at hbx
  obtain ⟨⟨l0, m0⟩, l1, m1⟩ := hbx
  rw [hx] at hd2
  have d0 : W2.cell? ⟨w.heap.size, 0, none⟩ = some (.int .u8 x0) := cells_at hd2 0 _ rfl
  have d1 : W2.cell? ⟨w.heap.size, 1, none⟩ = some (.int .u8 x1) := cells_at hd2 1 _ rfl
  have HK := Aside0.mk hK
  have HR2 := Aside0.mk hr2
  have HG2 := Aside0.mk hg2
  have HX := Aside0.mk hx
  have hp2 : W2.cell? ⟨g, o, none⟩ = some (.int .i16 old) := (cell_block (p := ⟨g, o, none⟩) hg2).trans hp
  have hf2 : W2.frozen? ⟨g, o, none⟩ = false := by
    have h_ : W2.frozen? ⟨g, o, none⟩ = w.frozen? ⟨g, o, none⟩ := by unfold World.frozen?; rw [hg2]
    rw [h_]; exact hf
  clear hK hr2 hg2 hx hdl hd2 hp hf hrl hgl
  go_wp2_with fail
  refine wp_loop_rounds 4 ?_
  iterate 3 (rw [rounds_succ]; go_wp2_with fail)
  go_ret
  have hv := or2 l0 m0 l1 m1
  refine ⟨rfl, ?_⟩
  have hval : valb [x0, x1] = x0 + x1 * 256 := by
    simp only [valb]; omega
  rw [hv, ← hval, ← HX.out]
  refine ⟨⟨?_, fun b hb hS => ?_, Env.trans (show Env w _ from ⟨rfl, rfl, rfl⟩) (HK.out.env.trans ⟨rfl, rfl, rfl⟩)⟩, ?_, ?_⟩
  · rw [size_setCell]; exact Nat.le_trans (by rw [Own.size_alloc]; omega) HK.out.1
  · have hb1 : b ≠ r := fun e => hS (.inl e)
    have hb2 : b ≠ g := fun e => hS (.inr e)
    rw [Below.heap_setCell _ _ _ _ hb2, HK.out.2 b (by rw [Own.size_alloc]; omega) (by rintro (h | h); exact hb1 h; omega), Below.heap_alloc _ _ _ hb]
  · rw [Below.heap_setCell _ _ _ _ hrp]; exact HR2.out
  · exact setCell_heap_congr HG2.out _ _
/-- A reading of a number that comes to the end. -/
def ShortE (w : World) (S : Nat → Prop) (e : Ending) (w' : World) : Prop := ∃ t x, e = .returned (.iface t x) ∧ Kp w w' S
set_option maxHeartbeats 4000000 in
set_option maxRecDepth 100000 in
theorem read64_short (w : World) (r : Nat) (A : Option Addr) (n c i : Nat) (pr : Int) (data : List Int) (g o : Nat) (old : Int) (hs : Snt w)
    (hr : w.heap[r]? = some (rdr A n c i pr)) (hC : (Kd.int .u8).C w A n data) (hi : n < i + 8) (hin : i ≤ n) (hnc : n ≤ c) (hn : n ≤ 1000000000000) (hra : ∀ a, A = some a → 0 < n → r ≠ a.block ∧ a.block < w.heap.size)
    (hp : w.cell? ⟨g, o, none⟩ = some (.int .i64 old)) (hg : 4 ≠ r ∧ 5 ≠ r) :
    Calls Tryd.prog 44 #[.iface 63 (.pointer (some ⟨r, 0, none⟩)), .pointer (some ⟨g, o, none⟩)] w (ShortE w (fun b => b = r)) := by
  have hmk : ∀ w, (Instr.makeSlice 22 (.int .i64 8) (.int .i64 8)).run Tryd.prog w = .ok (.slice (some ⟨w.heap.size, 0, none⟩) 8 8) (w.alloc (.cells #[.int .u8 0, .int .u8 0, .int .u8 0, .int .u8 0, .int .u8 0, .int .u8 0, .int .u8 0, .int .u8 0] 5)) := fun _ => by kernel_rfl
  have hrl := blk_lt hr
  have hE : 4 < w.heap.size := by obtain ⟨a, h⟩ := hs.eof; exact blk_lt_cell h
  have hU : 5 < w.heap.size := by obtain ⟨t, x, h⟩ := hs.bad; exact blk_lt_cell h
  have C1 := Aside0.mk (full_short (w.alloc (.cells #[.int .u8 0, .int .u8 0, .int .u8 0, .int .u8 0, .int .u8 0, .int .u8 0, .int .u8 0, .int .u8 0] 5)) r w.heap.size A n c 8 i pr data _ (hs.move (Below.heap_alloc _ _ _ hE) (Below.heap_alloc _ _ _ hU)) (blk_alloc hr _) (Kd.C_alloc hC _) hi hin hnc hn (blk_new w _) rfl (by omega) (by omega) (by omega) (fun a ha h0 => ⟨(hra a ha h0).1, by have := (hra a ha h0).2; omega⟩) ⟨hg.1, by omega, hg.2, by omega⟩)
  clear hr hC hs hra hg hE hU
  go_enter Tryd.func44, Tryd.ntmps44
  go_wp2_with (go_at_call 47; refine (size64 _ _).mono ?_; rintro _ _ ⟨rfl, rfl⟩)
  refine C1.out.mono ?_
  rintro _ W2 ⟨t, x, rfl, hK⟩
  have HK := Aside0.mk hK
  clear hK hp
  go_wp2_with fail
  go_ret
  refine ⟨t, x, rfl, ?_, fun b hb hS => ?_, Env.trans (show Env w _ from ⟨rfl, rfl, rfl⟩) HK.out.env⟩
  · exact Nat.le_trans (by rw [Own.size_alloc]; omega) HK.out.1
  · rw [HK.out.2 b (by rw [Own.size_alloc]; omega) (by rintro (h | h); exact hS h; omega), Below.heap_alloc _ _ _ hb]
set_option maxHeartbeats 4000000 in
set_option maxRecDepth 100000 in
theorem read16_short (w : World) (r : Nat) (A : Option Addr) (n c i : Nat) (pr : Int) (data : List Int) (g o : Nat) (old : Int) (hs : Snt w)
    (hr : w.heap[r]? = some (rdr A n c i pr)) (hC : (Kd.int .u8).C w A n data) (hi : n < i + 2) (hin : i ≤ n) (hnc : n ≤ c) (hn : n ≤ 1000000000000) (hra : ∀ a, A = some a → 0 < n → r ≠ a.block ∧ a.block < w.heap.size)
    (hp : w.cell? ⟨g, o, none⟩ = some (.int .i16 old)) (hg : 4 ≠ r ∧ 5 ≠ r) :
    Calls Tryd.prog 45 #[.iface 63 (.pointer (some ⟨r, 0, none⟩)), .pointer (some ⟨g, o, none⟩)] w (ShortE w (fun b => b = r)) := by
  have hmk : ∀ w, (Instr.makeSlice 22 (.int .i64 2) (.int .i64 2)).run Tryd.prog w = .ok (.slice (some ⟨w.heap.size, 0, none⟩) 2 2) (w.alloc (.cells #[.int .u8 0, .int .u8 0] 5)) := fun _ => by kernel_rfl
  have hrl := blk_lt hr
  have hE : 4 < w.heap.size := by obtain ⟨a, h⟩ := hs.eof; exact blk_lt_cell h
  have hU : 5 < w.heap.size := by obtain ⟨t, x, h⟩ := hs.bad; exact blk_lt_cell h
  have C1 := Aside0.mk (full_short (w.alloc (.cells #[.int .u8 0, .int .u8 0] 5)) r w.heap.size A n c 2 i pr data _ (hs.move (Below.heap_alloc _ _ _ hE) (Below.heap_alloc _ _ _ hU)) (blk_alloc hr _) (Kd.C_alloc hC _) hi hin hnc hn (blk_new w _) rfl (by omega) (by omega) (by omega) (fun a ha h0 => ⟨(hra a ha h0).1, by have := (hra a ha h0).2; omega⟩) ⟨hg.1, by omega, hg.2, by omega⟩)
  clear hr hC hs hra hg hE hU
  go_enter Tryd.func45, Tryd.ntmps45
  go_wp2_with (go_at_call 49; refine (size16 _ _).mono ?_; rintro _ _ ⟨rfl, rfl⟩)
  refine C1.out.mono ?_
  rintro _ W2 ⟨t, x, rfl, hK⟩
  have HK := Aside0.mk hK
  clear hK hp
  go_wp2_with fail
  go_ret
  refine ⟨t, x, rfl, ?_, fun b hb hS => ?_, Env.trans (show Env w _ from ⟨rfl, rfl, rfl⟩) HK.out.env⟩
  · exact Nat.le_trans (by rw [Own.size_alloc]; omega) HK.out.1
  · rw [HK.out.2 b (by rw [Own.size_alloc]; omega) (by rintro (h | h); exact hS h; omega), Below.heap_alloc _ _ _ hb]
end Go.Proofs.YtckdpckdabfkbabDoor.Num
