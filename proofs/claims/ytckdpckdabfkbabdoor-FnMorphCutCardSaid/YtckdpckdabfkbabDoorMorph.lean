/- Rows of three numbers: turned, written, read. -/
import Derived.Test.YtckdpckdabfkbabDoorNum2
import Derived.Laws.Rows
namespace Go.Proofs.YtckdpckdabfkbabDoor.Num
open Go.RowKit Go.Proofs.YtckdpckdabfkbabDoorW.PrintWords Go.Proofs.YtckdpckdabfkbabDoor.Plain
set_option linter.unusedVariables false
set_option linter.unusedSimpArgs false

abbrev T3 := Int × Int × Int
def tri (k : IntKind) : Kd T3 := Kd.pair (Kd.int k) (Kd.pair (Kd.int k) (Kd.int k))
def vals (k : IntKind) (m : T3) : List Value := [.int k m.1, .int k m.2.1, .int k m.2.2]
theorem tri_K {k : IntKind} {w : World} {m : T3} {cs : List Value} (h : (tri k).K w m cs) : cs = vals k m := by
  obtain ⟨c0, c1, rfl, h0, d0, d1, rfl, h1, h2⟩ := h
  have h0' : c0 = [.int k m.1] := h0
  have h1' : d0 = [.int k m.2.1] := h1
  have h2' : d1 = [.int k m.2.2] := h2
  subst h0' h1' h2'
  rfl
theorem K_tri {k : IntKind} {w : World} {m : T3} : (tri k).K w m (vals k m) := ⟨[_], [_, _], rfl, rfl, [_], [_], rfl, rfl, rfl⟩
theorem M_tri {k : IntKind} {w : World} {base : Nat} {ok : Nat → Prop} {m : T3} : (tri k).M w base ok m (vals k m) := ⟨[_], [_, _], rfl, rfl, [_], [_], rfl, rfl, rfl⟩
theorem add_plus (a : Addr) (j k : Nat) (hk : 0 < k) : a.add (j + k) = ⟨(a.add j).block, (a.add j).off + k, none⟩ := by
  unfold Addr.add
  rw [if_neg (by omega)]
  by_cases h : j = 0
  · subst h; simp
  · simp [h]; omega
theorem tri_at {k : IntKind} {w : World} {A : Option Addr} {n : Nat} {xs : List T3} (h : (tri k).C w A n xs) (i : Nat) (hi : i < n) :
    ∃ ad m, A = some ad ∧ xs[i]? = some m ∧ w.cell? (ad.add (i * 3)) = some (.int k m.1) ∧ w.cell? ⟨(ad.add (i * 3)).block, (ad.add (i * 3)).off + 1, none⟩ = some (.int k m.2.1) ∧ w.cell? ⟨(ad.add (i * 3)).block, (ad.add (i * 3)).off + 2, none⟩ = some (.int k m.2.2) := by
  obtain ⟨ad, rfl, hc⟩ := h.2.2 (by omega)
  have hm := List.getElem?_eq_getElem (l := xs) (i := i) (by have := h.1; omega)
  obtain ⟨c, hl, hK, hu⟩ := hc i _ hm
  have := tri_K hK
  subst this
  have h1 := hu 1 _ rfl
  have h2 := hu 2 _ rfl
  have h1 : w.cell? (ad.add (i * 3 + 1)) = some (.int k (xs[i]'(by have := h.1; omega)).2.1) := h1
  have h2 : w.cell? (ad.add (i * 3 + 2)) = some (.int k (xs[i]'(by have := h.1; omega)).2.2) := h2
  rw [add_plus _ _ _ (by decide)] at h1 h2
  exact ⟨ad, _, rfl, hm, hu 0 _ rfl, h1, h2⟩
def conv (m : T3) : T3 := (IntKind.i16.wrap m.1, IntKind.i16.wrap m.2.1, IntKind.i16.wrap m.2.2)

set_option maxHeartbeats 4000000 in
set_option maxRecDepth 100000 in
theorem morphs_calls (w : World) (A : Option Addr) (c : Nat) (l : List T3) (hC : (tri .i64).C w A l.length l) (hc : l.length ≤ c) (hl : l.length ≤ 1000000000000) :
    Calls Tryd.prog 30 #[.slice A l.length c] w fun e w' => ∃ v, e = .returned v ∧ (tri .i16).R 67 w' w.heap.size (fun _ => True) v (l.map conv) ∧ Below w.heap.size w w' := by
  have HC := Aside0.mk hC
  have HL : Aside0 (l.length ≤ 1000000000000) := ⟨hl⟩
  clear hC hl
  go_enter Tryd.func30, Tryd.ntmps30
  go_wp2
  go_loopg [3, 8] l.length (fun kq v3 v8 w' => ∃ (i : Nat) (A2 : Option Addr) (c2 : Nat), v8 = .int .i64 i ∧ v3 = .slice A2 i c2 ∧ Aside0 (i + kq = l.length) ∧ Aside0 ((tri .i16).R 67 w' w.heap.size (fun _ => True) (.slice A2 i c2) ((l.take i).map conv)) ∧ Aside0 (Below w.heap.size w w'))
  case atStart => exact ⟨0, none, 0, rfl, rfl, ⟨by omega⟩, ⟨Kd.R_nil _ _ _ _ _⟩, ⟨Below.refl _ _⟩⟩
  case round =>
    obtain ⟨i, A2, c2, rfl, rfl, HK, HR, HB⟩ := hrel
    by_cases c1 : (i : Int) < (l.length : Int)
    · obtain ⟨ad, m, rfl, hm, y0, y1, y2⟩ := tri_at (Kd.C_below HC.out HB.out) i (by omega)
      have HM := Aside0.mk hm
      have p1 : (0 : Int) ≤ i := by omega
      have c1b := decide_eq_true c1
      clear hm
      go_wp2_with (first | ((with_reducible refine gate_builtin (b := .append) (xs := #[.tmp 12, .tmp 23]) rfl ?_); at_builtin; refine Kd.R_append (tri .i16) (w0 := w) w.heap.size rfl (.tmp 12) (.tmp 23) 58 67 (.agg #[.int .i16 0, .int .i16 0, .int .i16 0]) 6 rfl Tryd.underlying58 (by kernel_rfl) rfl (by decide) (by omega) (.slice A2 i c2) ((l.take i).map conv) (conv m) (vals .i16 (conv m)) (fun _ => True) (fun _ => False) rfl ?aX M_tri (fun _ h_ => h_.elim) (fun _ _ => trivial) ?aO ?aB ?aS ?aL ?aK; (case aX => first | rfl | (go_simp; done) | (go_simp; rfl)); (case aO => exact Kd.R_alloc HR.out _); (case aB => exact below_alloc HB.out _); (case aS => rw [Own.size_alloc]; have := HB.out.size; omega); (case aL => have := HL.out; simp; omega); intro v1 w1 hR1 hB1 hG1 hA1; obtain ⟨A9, c9, e9⟩ := Kd.R_slice hR1; subst e9; have HR1 := Aside0.mk hR1; have HB1' := Aside0.mk hB1; clear hR1 hB1 hG1 hA1))
      have hlen : ((l.take i).map conv ++ [conv m]).length = i + 1 := by simp; omega
      have hR1 := HR1.out
      have HK' := HK.out
      rw [hlen] at hR1
      have hlt : i < l.length := by omega
      have hmap : (l.take (i + 1)).map conv = (l.take i).map conv ++ [conv m] := by
        rw [List.take_add_one, List.map_append, HM.out]; rfl
      have hmin : min i l.length = i := Nat.min_eq_left (by omega)
      have HL' := HL.out
      cases gk with
      | zero => omega
      | succ k9 =>
        go_roundg k9
        case measure => omega
        case rel => exact ⟨i + 1, A9, c9, by first | rfl | (rw [wrap_ok (by omega) (by omega)]; rfl), by rw [hmin], ⟨by omega⟩, ⟨by rw [hmap]; exact hR1⟩, HB1'⟩
    · have c1b := decide_eq_false c1
      go_wp2_with fail
      go_ret
      have hR := HR.out
      rw [List.take_of_length_le (by have := HK.out; omega)] at hR
      exact ⟨_, rfl, hR, HB.out⟩

theorem int_eq {k : IntKind} {a b : Int} (h : a = b) : Value.int k a = .int k b := by rw [h]
theorem u8s_app (a b : List Int) : u8s (a ++ b) = u8s a ++ u8s b := by simp [u8s]
theorem cellB {B : Nat} {w W : World} (h : Below B w W) {p : Addr} {v : Value} (hv : w.cell? p = some v) (hp : p.block < B) : W.cell? p = some v := (h.cell hp).trans hv
theorem triC_move {k : IntKind} {w W : World} {A : Option Addr} {n : Nat} {xs : List T3} (h : (tri k).C w A n xs) (hb : ∀ a, A = some a → W.heap[a.block]? = w.heap[a.block]?) : (tri k).C W A n xs := by
  refine ⟨h.1, h.2.1, fun h0 => ?_⟩
  obtain ⟨ad, e, hc⟩ := h.2.2 h0
  refine ⟨ad, e, fun j p hj => ?_⟩
  obtain ⟨c, h1, h2, h3⟩ := hc j p hj
  have := tri_K h2
  subst this
  exact ⟨_, h1, K_tri, fun i u hu => (cell_block (by rw [add_block]; exact hb ad e)).trans (h3 i u hu)⟩
def mby (m : T3) : List Int := leb 2 (m.1 % 18446744073709551616) ++ leb 2 (m.2.1 % 18446744073709551616) ++ leb 2 (m.2.2 % 18446744073709551616)
/-- What is written when i rows are. -/
def wrt (ms : List T3) (i : Nat) : List Int := leb 8 ((ms.length : Int) % 18446744073709551616) ++ (ms.take i).flatMap mby
theorem wrt_len (ms : List T3) (i : Nat) : (wrt ms i).length = 8 + 6 * min i ms.length := by
  have : ∀ l : List T3, (l.flatMap mby).length = 6 * l.length := fun l => by
    induction l with
    | nil => rfl
    | cons a l ih => simp [List.flatMap_cons, ih, mby, leb_length]; omega
  simp [wrt, leb_length, this]
theorem wrt_succ (ms : List T3) (i : Nat) (m : T3) (h : ms[i]? = some m) : wrt ms (i + 1) = wrt ms i ++ leb 2 (m.1 % 18446744073709551616) ++ leb 2 (m.2.1 % 18446744073709551616) ++ leb 2 (m.2.2 % 18446744073709551616) := by
  simp [wrt, List.take_add_one, h, mby]

theorem othC {w : World} {b : Nat} {a : Addr} (h : a.block ≠ b ∧ ∃ cs t, w.heap[a.block]? = some (.cells cs t (0, 0)) ∧ t ≠ 5) :
    ∀ W, Lib.OthersKept 5 (some b) w W → ∀ p v, w.cell? p = some v → p.block = a.block → W.cell? p = some v := fun W hO p v hv hq => by
  obtain ⟨h1, cs, t, h2, h3⟩ := h
  rw [← hv]
  exact cell_block (by rw [hq, h2]; exact hO _ _ h2 (by simpa using h1) (fun c fz e => by injection e with _ e; exact h3 e))
set_option maxHeartbeats 8000000 in
set_option maxRecDepth 100000 in
theorem morphsTo_calls (w : World) (A : Option Addr) (c : Nat) (ms : List T3) (hC : (tri .i16).C w A ms.length ms) (hc : ms.length ≤ c) (hl : ms.length ≤ 1000000000000)
    (B b : Nat) (hI : Lib.IsBuffer 71 5 B b [] w) (hS : B ≤ w.heap.size) (hA : ∀ a, A = some a → a.block ≠ b ∧ ∃ cs t, w.heap[a.block]? = some (.cells cs t (0, 0)) ∧ t ≠ 5) :
    Calls Tryd.prog 31 #[.slice A ms.length c, .iface 75 (.pointer (some ⟨b, 0, none⟩))] w fun e w' =>
      e = .returned (.tuple #[.int .i64 ((8 + 6 * ms.length : Nat) : Int), .nilIface]) ∧ Lib.IsBuffer 71 5 B b (u8s (wrt ms ms.length)) w' ∧ Below B w w' ∧ Lib.OthersKept 5 (some b) w w' := by
  have HC := Aside0.mk hC
  have HI := Aside0.mk hI
  have HS := Aside0.mk hS
  have HA := Aside0.mk hA
  have HN : Aside0 (ms.length ≤ 1000000000000) := ⟨hl⟩
  clear hC hI hS hA
  go_enter Tryd.func31, Tryd.ntmps31
  go_wp2_with (first | (go_at_call 46; refine (write64 B b _ _ _ HI.out HS.out (by simp) (by simp)).mono ?_; rintro _ W0 ⟨rfl, hI_, hB_, hO_⟩; have HI_ := Aside0.mk hI_; have HB := Aside0.mk hB_; have HO := Aside0.mk hO_; have HS_ := Aside0.mk (Nat.le_trans HS.out hB_.size); clear HI HS hI_ hB_ hO_; have HI := HI_; have HS := HS_; clear HI_ HS_) | (go_at_call 47; refine (size64 _ _).mono ?_; rintro _ _ ⟨rfl, rfl⟩))
  go_loopg [4, 27] ms.length (fun kq v4 v27 w' => ∃ (i : Nat), v27 = .int .i64 i ∧ v4 = .int .i64 ((8 + 6 * i : Nat) : Int) ∧ Aside0 (i + kq = ms.length) ∧ Aside0 (Lib.IsBuffer 71 5 B b (u8s (wrt ms i)) w') ∧ Aside0 (Below B w w') ∧ Aside0 (B ≤ w'.heap.size) ∧ Aside0 (Lib.OthersKept 5 (some b) w w'))
  case atStart => exact ⟨0, rfl, rfl, ⟨by omega⟩, ⟨by have := HI.out; simpa [wrt] using this⟩, HB, HS, HO⟩
  case round =>
    obtain ⟨i, rfl, rfl, HK, HI, HB, HS, HO⟩ := hrel
    by_cases c1 : (i : Int) < (ms.length : Int)
    · obtain ⟨ad, m, rfl, hm, z0, z1, z2⟩ := tri_at HC.out i (by omega)
      have HZ := Aside0.mk (othC (HA.out ad rfl))
      have Z0 := Aside0.mk z0
      have Z1 := Aside0.mk z1
      have Z2 := Aside0.mk z2
      have y0 := HZ.out _ HO.out _ _ z0 (add_block ad (i * 3))
      have y1 := HZ.out _ HO.out _ _ z1 (add_block ad (i * 3))
      have y2 := HZ.out _ HO.out _ _ z2 (add_block ad (i * 3))
      clear z0 z1 z2
      have HM := Aside0.mk hm
      have p1 : (0 : Int) ≤ i := by omega
      have c1b := decide_eq_true c1
      clear hm
      have HN' := HN.out
      have e0 : wrap64 ((8 + 6 * i : Nat) : Int) = ((8 + 6 * i : Nat) : Int) := by rw [wrap_ok (by omega) (by omega)]
      go_wp2_with (first | (go_at_call 48; refine (write16 B b _ _ _ HI.out HS.out (u8s_one _) (by have := HN.out; simp [leb_length, wrt_len, u8s]; omega)).mono ?_; rintro _ W_ ⟨rfl, hI_, hB_, hO_⟩; rw [← u8s_app] at hI_; have HI_ := Aside0.mk hI_; have HB_ := Aside0.mk (HB.out.trans hB_); have HS_ := Aside0.mk (Nat.le_trans HS.out hB_.size); have HO_ := Aside0.mk (HO.out.trans hO_); have y0_ := HZ.out _ HO_.out _ _ Z0.out (add_block ad (i * 3)); have y1_ := HZ.out _ HO_.out _ _ Z1.out (add_block ad (i * 3)); have y2_ := HZ.out _ HO_.out _ _ Z2.out (add_block ad (i * 3)); clear HI HB HS HO y0 y1 y2 hI_ hB_ hO_; have HO := HO_; have HI := HI_; have HB := HB_; have HS := HS_; have y0 := y0_; have y1 := y1_; have y2 := y2_; clear HO_ HI_ HB_ HS_ y0_ y1_ y2_) | (go_at_call 49; refine (size16 _ _).mono ?_; rintro _ _ ⟨rfl, rfl⟩))
      have HK' := HK.out
      cases gk with
      | zero => omega
      | succ k9 =>
        go_roundg k9
        case measure => omega
        case rel => exact ⟨i + 1, int_eq (by omega), int_eq (by omega), ⟨by omega⟩, ⟨by rw [wrt_succ _ _ _ HM.out]; exact HI.out⟩, HB, HS, HO⟩
    · have c1b := decide_eq_false c1
      obtain rfl : i = ms.length := by have := HK.out; omega
      go_wp2_with fail
      go_ret2
      exact ⟨rfl, HI.out, HB.out, HO.out⟩

theorem R_row {α : Type} {d : Kd α} {e base : Nat} {w : World} {ok : Nat → Prop} {v : Value} {xs : List α} (h : d.R e w base ok v xs) :
    ∃ A c, v = .slice A xs.length c ∧ xs.length ≤ c ∧ d.C w A xs.length xs ∧ ∀ a, A = some a → base ≤ a.block ∧ ∃ cs, w.heap[a.block]? = some (.cells cs e (0, 0)) := by
  obtain ⟨A, c, e1, hc, hC⟩ := Kd.R_reads h
  refine ⟨A, c, e1, hc, hC, fun a ha => ?_⟩
  obtain ⟨_, inner, ho, _⟩ := h
  have hk : v.ownBlock = some a.block := by rw [e1, ha]; rfl
  exact ⟨own_base ho _ hk, own_typed ho _ hk⟩
theorem bytes_R {w : World} {base : Nat} {v : Value} {l : List Int} (h : w.ownsRow base 5 1 v (u8s l).length (u8s l)) : (Kd.int .u8).R 5 w base (fun _ => True) v l := by
  have e : (u8s l).length = l.length := by simp [u8s]
  rw [e] at h
  exact Kd.R_of_own (enc := Value.int .u8) (h1 := fun _ => rfl) h (fun _ _ => trivial)

set_option maxHeartbeats 8000000 in
set_option maxRecDepth 100000 in
theorem morphBytes_calls (w : World) (A : Option Addr) (c : Nat) (l : List T3) (hC : (tri .i64).C w A l.length l) (hc : l.length ≤ c) (hl : l.length ≤ 1000000000000) :
    Calls Tryd.prog 13 #[.slice A l.length c] w fun e w' => ∃ v, e = .returned (.tuple #[v, .int .i64 0]) ∧ (Kd.int .u8).R 5 w' w.heap.size (fun _ => True) v (wrt (l.map conv) l.length) ∧ Below w.heap.size w w' := by
  obtain ⟨ms, hms⟩ : ∃ ms, ms = l.map conv := ⟨_, rfl⟩
  have hml : ms.length = l.length := by rw [hms]; simp
  have H1 := Aside0.mk fun (x : Obj) => morphs_calls (w.alloc x) A c l (Kd.C_alloc hC x) hc hl
  rw [← hms] at H1 ⊢
  rw [← hml]
  have HN : Aside0 (ms.length ≤ 1000000000000) := ⟨by omega⟩
  rw [← hml] at H1
  clear hms
  have HML := Aside0.mk hml
  clear hml
  clear hC hl
  go_enter Tryd.func13, Tryd.ntmps13
  go_wp2_with fail
  with_reducible refine Calls.mono (H1.out _) ?_
  rintro _ W1 ⟨v1, rfl, hR, hB⟩
  obtain ⟨A1, c1, rfl, hc1, hC1, hA1⟩ := R_row hR
  have hI : Lib.IsBuffer 71 5 w.heap.size w.heap.size [] W1 := bufCarry (Lib.fresh_isBuffer 71 5 w) (fun k hk => hB.block k hk)
  rw [Own.size_alloc] at hA1
  have hB1 : Below w.heap.size w W1 := (below_alloc (Below.refl _ _) _).trans (hB.mono (by rw [Own.size_alloc]; omega))
  have H2 := Aside0.mk (morphsTo_calls W1 A1 c1 ms hC1 hc1 HN.out w.heap.size w.heap.size hI hB1.size (fun a ha => ⟨by have := (hA1 a ha).1; omega, by obtain ⟨cs, h_⟩ := (hA1 a ha).2; exact ⟨cs, _, h_, by decide⟩⟩))
  have HB1 := Aside0.mk hB1
  clear hI hA1 hC1 hR hB hc1 hB1
  go_wp2_with fail
  with_reducible refine Calls.mono H2.out ?_
  rintro _ W2 ⟨rfl, hI2, hB2, -⟩
  have HI2 := Aside0.mk hI2
  have HB2 := Aside0.mk (HB1.out.trans hB2)
  have hlen : (u8s (wrt ms ms.length)).length = 8 + 6 * ms.length := by simp [u8s, wrt_len]
  have HL := Aside0.mk hlen
  clear hI2 hB2 hlen
  go_wp2_with (first | (go_at_call 32; refine (Tryd.Buffer_Len w.heap.size w.heap.size _ _ HI2.out).mono ?_; rw [HL.out]; rintro _ _ ⟨rfl, n3, rfl⟩) | (go_at_call 33; refine (Tryd.Buffer_Bytes w.heap.size w.heap.size _ _ (bufDrewN HI2.out _)).mono ?_; rintro _ _ ⟨v4, rfl, hv4, n4, rfl⟩; have HV := Aside0.mk hv4; clear hv4))
  go_ret2
  refine ⟨v4, rfl, ?_, pw_below_drewN HB2.out _⟩
  have := bytes_R HV.out
  rwa [drewN_add] at this
end Go.Proofs.YtckdpckdabfkbabDoor.Num
