/- laws.FnScanMore: the walk. -/
import Derived.Test.YtckdpckdabfkbabDoorSkip
import Derived.Test.YtckdpckdabfkbabDoorSents
import Derived.Test.YtckdpckdabfkbabDoorScan3
import Derived.Test.YtckdpckdabfkbabDoorShelf
import Derived.Test.YtckdpckdabfkbabDoorRows
import Derived.Lib.LaidU8
import Derived.Test.YtckdpckdabfkbabDoorParts
import Derived.Deep.Cut
namespace Go.Proofs.YtckdpckdabfkbabDoor.Scan
open Go.RowKit Go.Proofs.YtckdpckdabfkbabDoorW.PrintWords Go.Proofs.YtckdpckdabfkbabDoor.Plain Go.Proofs.YtckdpckdabfkbabDoor.Num Go.Proofs.YtckdpckdabfkbabDoor.PC
set_option linter.unusedVariables false
set_option linter.unusedSimpArgs false
theorem decN_more {n n' b0 b1 b2 b3 c1 c2 c3 : Nat} (hn : n ≤ n') (h1 : 1 < n → c1 = b1) (h2 : 2 < n → c2 = b2) (h3 : 3 < n → c3 = b3) (hr : (Lib.decodeN n b0 b1 b2 b3).1 ≠ 65533) : Lib.decodeN n' b0 c1 c2 c3 = Lib.decodeN n b0 b1 b2 b3 := by
  unfold Lib.decodeN at hr ⊢
  by_cases a0 : b0 < 128
  · rw [if_pos a0, if_pos a0]
  · rw [if_neg a0] at hr
    rw [if_neg a0, if_neg a0]
    by_cases a1 : b0 / 32 = 6 ∧ (1 < n ∧ b1 / 64 = 2)
    · rw [if_pos a1, if_pos ⟨a1.1, by omega, by rw [h1 a1.2.1]; exact a1.2.2⟩, h1 a1.2.1]
    · rw [if_neg a1] at hr
      rw [if_neg a1]
      by_cases a2 : b0 / 16 = 14 ∧ (1 < n ∧ b1 / 64 = 2) ∧ (2 < n ∧ b2 / 64 = 2)
      · rw [if_pos a2, if_neg (by omega), if_pos ⟨a2.1, ⟨by omega, by rw [h1 a2.2.1.1]; exact a2.2.1.2⟩, by omega, by rw [h2 a2.2.2.1]; exact a2.2.2.2⟩, h1 a2.2.1.1, h2 a2.2.2.1]
      · rw [if_neg a2] at hr
        rw [if_neg a2]
        by_cases a3 : b0 / 8 = 30 ∧ (1 < n ∧ b1 / 64 = 2) ∧ (2 < n ∧ b2 / 64 = 2) ∧ (3 < n ∧ b3 / 64 = 2)
        · rw [if_pos a3, if_neg (by omega), if_neg (by omega), if_pos ⟨a3.1, ⟨by omega, by rw [h1 a3.2.1.1]; exact a3.2.1.2⟩, ⟨by omega, by rw [h2 a3.2.2.1.1]; exact a3.2.2.1.2⟩, by omega, by rw [h3 a3.2.2.2.1]; exact a3.2.2.2.2⟩, h1 a3.2.1.1, h2 a3.2.2.1.1, h3 a3.2.2.2.1]
        · rw [if_neg a3] at hr
          exact absurd rfl hr
theorem get_app {D M : ByteArray} {j : Nat} (h : j < D.size) : (D ++ M).get! j = D.get! j := by
  have h1 : (D ++ M).get! j = (D ++ M).data[j]! := rfl
  have h2 : D.get! j = D.data[j]! := rfl
  have hz : D.size = D.data.size := rfl
  rw [h1, h2, ByteArray.data_append, getElem!_def, getElem!_def, Array.getElem?_append_left (by omega)]
theorem size_app (D M : ByteArray) : (D ++ M).size = D.size + M.size := ByteArray.size_append
theorem rn_app {D M : ByteArray} {p : Nat} (hp : p < D.size) (hr : (rn D p).1 ≠ 65533) : rn (D ++ M) p = rn D p := by
  unfold rn at hr ⊢
  rw [Lib.decode_at] at hr ⊢
  rw [Lib.decode_at, get_app hp]
  have hs := size_app D M
  exact decN_more (by omega) (fun h => by rw [get_app (by omega)]) (fun h => by rw [get_app (by omega)]) (fun h => by rw [get_app (by omega)]) hr
theorem by_app {D M : ByteArray} {j : Nat} (h : j < D.size) : by' (D ++ M) j = by' D j := by unfold by'; rw [get_app h]
theorem seg_app {D M : ByteArray} {p k : Nat} (h : p + k ≤ D.size) : seg (D ++ M) p k = seg D p k := by
  unfold seg
  apply List.map_congr_left
  intro i hi
  rw [List.mem_range] at hi
  exact by_app (by omega)
theorem seg_join (D : ByteArray) (p k : Nat) : seg D 0 p ++ seg D p k = seg D 0 (p + k) := by
  unfold seg
  rw [List.range_add, List.map_append, List.map_map]
  congr 1
  apply List.map_congr_left
  intro i _
  simp
theorem no_sp {S : Sp} (hsk : S.skip = false) (hdb : S.dbl = false) (r : Nat) : S.sp r = false := by simp [Sp.sp, hsk]
theorem no_lf {S : Sp} (hsk : S.skip = false) (hdb : S.dbl = false) (r : Nat) : S.lf r = false := by simp [Sp.lf, hdb]
theorem inner_seg {S : Sp} (hsk : S.skip = false) (hdb : S.dbl = false) (E : ByteArray) : ∀ (k p : Nat) (nn : Bool), p ≤ E.size → ∃ q, inner S E k p (seg E 0 p) nn = (q, seg E 0 q) ∧ p ≤ q ∧ q ≤ E.size := by
  intro k
  induction k with
  | zero => intro p nn h; exact ⟨p, rfl, Nat.le_refl _, h⟩
  | succ k ih =>
    intro p nn h
    by_cases hp : p < E.size
    · obtain ⟨r, hr⟩ : ∃ r, (rn E p).1 = r := ⟨_, rfl⟩
      obtain ⟨sz, hsz⟩ : ∃ sz, (rn E p).2 = sz := ⟨_, rfl⟩
      have hrs : rn E p = (r, sz) := by rw [← hr, ← hsz]
      obtain ⟨q1, q2⟩ := rn_pos hp hrs
      cases hd : (S.isD r || S.isF r) with
      | true =>
        rw [inner_4 hp hrs (no_sp hsk hdb r) hd, seg_join]
        obtain ⟨q, e, h1, h2⟩ := ih (p + sz) nn q2
        exact ⟨q, e, by omega, h2⟩
      | false => exact ⟨p, inner_5 hp hrs (no_sp hsk hdb r) hd, Nat.le_refl _, h⟩
    · exact ⟨p, inner_end hp, Nat.le_refl _, h⟩
theorem inner_two {S : Sp} (hsk : S.skip = false) (hdb : S.dbl = false) (D M : ByteArray) : ∀ (k k' p : Nat) (nn nn' : Bool), p ≤ D.size → D.size ≤ p + k → (D ++ M).size ≤ p + k' → noErr D k p = true → ∃ q q', inner S D k p (seg D 0 p) nn = (q, seg D 0 q) ∧ inner S (D ++ M) k' p (seg (D ++ M) 0 p) nn' = (q', seg (D ++ M) 0 q') ∧ p ≤ q ∧ q ≤ D.size ∧ q ≤ q' ∧ q' ≤ (D ++ M).size ∧ (q = D.size ∨ q' = q) := by
  have hs := size_app D M
  intro k
  induction k with
  | zero =>
    intro k' p nn nn' h hk hk' hne
    obtain ⟨q', e, h1, h2⟩ := inner_seg hsk hdb (D ++ M) k' p nn' (by omega)
    exact ⟨p, q', rfl, e, Nat.le_refl _, h, h1, h2, Or.inl (by omega)⟩
  | succ k ih =>
    intro k' p nn nn' h hk hk' hne
    by_cases hp : p < D.size
    · obtain ⟨r, hr⟩ : ∃ r, (rn D p).1 = r := ⟨_, rfl⟩
      obtain ⟨sz, hsz⟩ : ∃ sz, (rn D p).2 = sz := ⟨_, rfl⟩
      have hrs : rn D p = (r, sz) := by rw [← hr, ← hsz]
      obtain ⟨q1, q2⟩ := rn_pos hp hrs
      rw [noErr, if_pos hp, hr, hsz] at hne
      have hr5 : r ≠ 65533 := by intro e; rw [e] at hne; simp at hne
      have hne2 : noErr D k (p + sz) = true := by simpa [hr5] using hne
      have hrs' : rn (D ++ M) p = (r, sz) := by rw [rn_app hp (by rw [hr]; exact hr5), hrs]
      cases k' with
      | zero => omega
      | succ k' =>
        cases hd : (S.isD r || S.isF r) with
        | true =>
          rw [inner_4 hp hrs (no_sp hsk hdb r) hd, seg_join, inner_4 (by omega) hrs' (no_sp hsk hdb r) hd, seg_join]
          obtain ⟨q, q', e, e', h1, h2, h3, h4, h5⟩ := ih k' (p + sz) nn nn' q2 (by omega) (by omega) hne2
          exact ⟨q, q', e, e', by omega, h2, h3, h4, h5⟩
        | false => exact ⟨p, p, inner_5 hp hrs (no_sp hsk hdb r) hd, inner_5 (by omega) hrs' (no_sp hsk hdb r) hd, Nat.le_refl _, h, Nat.le_refl _, by omega, Or.inr rfl⟩
    · obtain ⟨q', e, h1, h2⟩ := inner_seg hsk hdb (D ++ M) k' p nn' (by omega)
      exact ⟨p, q', inner_end hp, e, Nat.le_refl _, h, h1, h2, Or.inl (by omega)⟩
theorem outer_two {S : Sp} (hsk : S.skip = false) (hdb : S.dbl = false) (D M : ByteArray) : ∀ (k k' p cnt : Nat) (head head' nn nn' : Bool), p ≤ D.size → D.size ≤ p + k → (D ++ M).size ≤ p + k' → noErr D (k + 1) p = true → (outer S D false (k + 1) p 0 (seg D 0 p) cnt head nn).tok = true →
    ∃ q q', outer S D false (k + 1) p 0 (seg D 0 p) cnt head nn = ⟨q, true, 0, seg D 0 q⟩ ∧ outer S (D ++ M) true (k' + 1) p 0 (seg (D ++ M) 0 p) cnt head' nn' = ⟨q', true, 0, seg (D ++ M) 0 q'⟩ ∧ q ≤ D.size ∧ q ≤ q' ∧ q' ≤ (D ++ M).size ∧ (q = D.size ∨ q' = q) := by
  have hs := size_app D M
  intro k
  induction k with
  | zero =>
    intro k' p cnt head head' nn nn' h hk hk' hne ht
    rw [outer_end (by omega), if_neg (by simp)] at ht
    cases ht
  | succ k ih =>
    intro k' p cnt head head' nn nn' h hk hk' hne ht
    by_cases hp : p < D.size
    · obtain ⟨r, hr⟩ : ∃ r, (rn D p).1 = r := ⟨_, rfl⟩
      obtain ⟨sz, hsz⟩ : ∃ sz, (rn D p).2 = sz := ⟨_, rfl⟩
      have hrs : rn D p = (r, sz) := by rw [← hr, ← hsz]
      obtain ⟨q1, q2⟩ := rn_pos hp hrs
      rw [noErr, if_pos hp, hr, hsz] at hne
      have hr5 : r ≠ 65533 := by intro e; rw [e] at hne; simp at hne
      have hne2 : noErr D (k + 1) (p + sz) = true := by simpa [hr5] using hne
      have hrs' : rn (D ++ M) p = (r, sz) := by rw [rn_app hp (by rw [hr]; exact hr5), hrs]
      have hl : ∀ b, (S.lf r && b) = false := fun b => by rw [no_lf hsk hdb]; rfl
      cases k' with
      | zero => omega
      | succ k' =>
        cases hv : ((!S.isD r) && decide (((cnt + 1 : Nat) : Int) < S.most)) with
        | true =>
          rw [outer_b2 hp hrs (no_sp hsk hdb r) (hl _) hv, seg_join] at ht ⊢
          rw [outer_b2 (by omega) hrs' (no_sp hsk hdb r) (hl _) hv, seg_join]
          exact ih k' (p + sz) (cnt + 1) false false _ _ q2 (by omega) (by omega) hne2 ht
        | false =>
          rw [outer_b3 hp hrs (no_sp hsk hdb r) (hl _) hv, seg_join, outer_b3 (by omega) hrs' (no_sp hsk hdb r) (hl _) hv, seg_join]
          obtain ⟨q, q', e, e', h1, h2, h3, h4, h5⟩ := inner_two hsk hdb D M (k + 1) (k' + 1) (p + sz) false false q2 (by omega) (by omega) hne2
          exact ⟨q, q', by rw [e], by rw [e'], h2, h3, h4, h5⟩
    · rw [outer_end hp, if_neg (by simp)] at ht
      cases ht
/-- A sentence that is told before the end is known. -/
theorem scan_two {S : Sp} (hsk : S.skip = false) (hdb : S.dbl = false) (D M : ByteArray) (hne : noErr D (D.size + 1) 0 = true) (ht : (scan S D false).tok = true) :
    ∃ q q', scan S D false = ⟨q, true, 0, seg D 0 q⟩ ∧ scan S (D ++ M) true = ⟨q', true, 0, seg (D ++ M) 0 q'⟩ ∧ q ≤ D.size ∧ q ≤ q' ∧ q' ≤ (D ++ M).size ∧ (q = D.size ∨ q' = q) :=
  outer_two hsk hdb D M D.size (D ++ M).size 0 0 true true false false (Nat.zero_le _) (by omega) (by omega) hne ht
theorem nums_get (D : ByteArray) (q : Nat) (h : q ≤ D.size) : strOfNums (seg D 0 q) = D.extract 0 q := by
  apply ByteArray.ext
  have h1 : (D.extract 0 q).data = D.data.extract 0 q := by simp
  rw [h1]
  have hz : D.size = D.data.size := rfl
  apply Array.ext
  · simp [strOfNums, seg_len]; omega
  · intro i h2 h3
    simp only [strOfNums, List.size_toArray, List.length_map, seg_len] at h2
    have h5 : D.get! i = D.data[i] := getElem!_pos D.data i (by omega)
    simp only [strOfNums, List.getElem_toArray, List.getElem_map, seg, List.getElem_range, by', Nat.zero_add, Int.toNat_natCast, Array.getElem_extract]
    rw [h5]
    simp
theorem begins_f {D M : ByteArray} {q q' : Nat} (h1 : q ≤ D.size) (h2 : q ≤ q') (h3 : q' ≤ (D ++ M).size) : laws_begins.f (strOfNums (seg (D ++ M) 0 q')) (strOfNums (seg D 0 q)) = some true := by
  unfold laws_begins.f
  have e1 : (strOfNums (seg (D ++ M) 0 q')).size = q' := by rw [strOfNums_size, seg_len]
  have e2 : (strOfNums (seg D 0 q)).size = q := by rw [strOfNums_size, seg_len]
  rw [e1, e2, if_pos (by omega), if_pos (by omega), if_pos (by omega)]
  have hs := size_app D M
  have : (strOfNums (seg (D ++ M) 0 q')).extract 0 ((q : Int)).toNat = strOfNums (seg D 0 q) := by
    rw [nums_get _ _ h3, ← seg_app (M := M) (by omega : 0 + q ≤ D.size), nums_get _ _ (by omega)]
    apply ByteArray.ext
    simp only [Int.toNat_natCast, ByteArray.data_extract, Array.extract_extract]
    congr 1
    omega
  rw [this]
  simp
end Go.Proofs.YtckdpckdabfkbabDoor.Scan
namespace Go.Proofs.YtckdpckdabfkbabDoor.Scan
open Go.RowKit Go.Proofs.YtckdpckdabfkbabDoorW.PrintWords Go.Proofs.YtckdpckdabfkbabDoor.Plain Go.Proofs.YtckdpckdabfkbabDoor.Num Go.Proofs.YtckdpckdabfkbabDoor.PC
set_option linter.unusedVariables false
set_option linter.unusedSimpArgs false
theorem results_tmp4 {fn : Func} {t u v x : Tmp} (h : fn.results = #[.tmp t, .tmp u, .tmp v, .tmp x]) (tmps : Array Value) (P : Program) (w : World) :
    (results fn tmps).run P w = .ok (.tuple #[tmps.getD t undef, tmps.getD u undef, tmps.getD v undef, tmps.getD x undef]) w := by
  simp [results, h]
theorem cloneb_f (l : List Int) (h : l.length ≤ 2147483647) : slices_Clone_byte_byte.f l = some l := by
  simp only [slices_Clone_byte_byte.f, Option.bind_some, List.length_nil, List.nil_append]
  rw [if_pos (by omega)]
theorem add_off (b x j : Nat) : (⟨b, x, none⟩ : Addr).add j = ⟨b, x + j, none⟩ := by unfold Addr.add; by_cases h : j = 0 <;> simp [h]
theorem C_cells {w : World} {b x : Nat} {k : IntKind} {xs : List Int} (hn : xs.length ≤ 9223372036854775807) (h : ∀ i, i < xs.length → w.cell? ⟨b, x + i, none⟩ = some (.int k (xs.getD i 0))) : (Kd.int k).C w (some ⟨b, x, none⟩) xs.length xs :=
  Kd.C_of_reads (enc := Value.int k) (d := (0 : Int)) (h1 := fun _ => rfl) ⟨rfl, hn, fun _ => ⟨⟨b, x, none⟩, rfl, fun j hj => by rw [add_off]; exact h j hj⟩⟩
theorem cells_row {w : World} {base g n cap : Nat} {e : TypeId} {ok : Nat → Prop} {D : ByteArray} (h : (Kd.int .u8).R e w base ok (.slice (some ⟨g, 0, none⟩) (seg D 0 D.size).length cap) (seg D 0 D.size)) {cells : Array Value} (hc : w.heap[g]? = some (.cells cells e (0, 0))) : Row w g 0 D.size (by' D) := by
  refine ⟨cells, e, ⟨_, hc, Or.inl rfl⟩, fun j hj => ?_⟩
  have h1 := (Kd.R_cell (enc := Value.int .u8) (h1 := fun _ => rfl) (0 : Int) h (j : Int) (by omega) (by rw [seg_len]; omega)).1
  have h2 : w.cell? ⟨g, j, none⟩ = cells[j]? := by unfold World.cell?; simp [hc]
  rw [Int.toNat_natCast, h2] at h1
  rw [Nat.zero_add, h1]
  simp only [rdOf, Int.toNat_natCast]
  rw [List.getD_eq_getElem?_getD, List.getElem?_eq_getElem (by rw [seg_len]; omega)]
  simp [seg]
def Res.tk (R : Res) : List Int := if R.tok then R.out else []
theorem tok_reads {w W : World} {b c : Nat} {D : ByteArray} {R : Res} (h : SI w W b 0 D.size (R.mem D)) (ho : R.start + R.out.length ≤ D.size) (hc : D.size ≤ c) (hn : D.size ≤ 2147483647) :
    ∃ At ct, tokv R b 0 c = .slice At R.tk.length ct ∧ R.tk.length ≤ ct ∧ (Kd.int .u8).C W At R.tk.length R.tk ∧ (!At.isNone) = R.tok ∧ R.tk.length ≤ 2147483647 := by
  cases ht : R.tok with
  | true =>
    obtain ⟨x, hx, hx2⟩ := tokv_is ht b 0 c
    have e : R.tk = R.out := by unfold Res.tk; rw [ht]; rfl
    rw [e]
    exact ⟨_, _, hx, by omega, C_cells (by omega) (Res.cells h ht ho hc hx2), rfl, by omega⟩
  | false =>
    have e : R.tk = [] := by unfold Res.tk; rw [ht]; rfl
    rw [e]
    exact ⟨none, 0, by unfold tokv; rw [ht]; rfl, Nat.le_refl _, Kd.C_nil _ _, rfl, by simp⟩
theorem scan_any (fin : Bool) (w : World) (S : Sp) (Ad Af : Option Addr) (cd cf b off c : Nat) (D : ByteArray) (hb : Base w b S Ad Af cd cf) (hrow : Row w b off D.size (by' D)) (hc : D.size ≤ c) (hn : D.size ≤ 1000000000000) (h0 : 0 < D.size) (R : Res) (hR : scan S D fin = R) :
    Calls Tryd.prog 37 #[.agg (sv S Ad Af cd cf), .slice (some ⟨b, off, none⟩) D.size c, .bool fin] w fun e w' =>
      e = .returned (.tuple #[.int .i64 R.adv, tokv R b off c, .nilIface]) ∧ SI w w' b off D.size (R.mem D) := by
  cases fin with
  | true => exact scan_true w S Ad Af cd cf b off c D hb hrow hc hn h0 R hR
  | false => exact scan_false w S Ad Af cd cf b off c D hb hrow hc hn h0 R hR
set_option maxHeartbeats 16000000 in
set_option maxRecDepth 100000 in
theorem scanI_calls (fin : Bool) (w : World) (S : Sp) (Ad Af : Option Addr) (cd cf : Nat) (D : ByteArray) (A : Option Addr) (c : Nat) (hd : (Kd.int .i32).C w Ad S.del.length S.del) (hcd : S.del.length ≤ cd) (hf : (Kd.int .i32).C w Af S.fol.length S.fol) (hcf : S.fol.length ≤ cf) (hl1 : S.del.length ≤ 2147483647) (hl2 : S.fol.length ≤ 2147483647)
    (hA : (Kd.int .u8).C w A D.size (seg D 0 D.size)) (hAc : D.size ≤ c) (h0 : 0 < D.size) (hn : D.size ≤ 1000000000) (ht : Lib.Utf8Tabs 1 2 w) (hw : Lib.WhiteTab 0 w) (R : Res) (hR : scan S D fin = R) :
    Calls Tryd.prog 21 #[.agg (sv S Ad Af cd cf), .slice A D.size c, .bool fin] w fun e w' => ∃ (v : Value) (Ab : Option Addr) (cb : Nat), e = .returned (.tuple #[.int .i64 R.adv, v, .bool R.tok, .slice Ab D.size cb]) ∧ Kd.R (Kd.int .u8) 5 w' w.heap.size (fun _ => True) v R.tk ∧ D.size ≤ cb ∧ (Kd.int .u8).C w' Ab D.size ((List.range D.size).map (R.mem D)) ∧ Below w.heap.size w w' := by
  obtain ⟨del, fol, skip, dbl, most⟩ := S
  obtain ⟨w1, hw1⟩ : ∃ w1, w1 = w.alloc (.cells (sv ⟨del, fol, skip, dbl, most⟩ Ad Af cd cf) 38) := ⟨_, rfl⟩
  have HB : Aside0 (Below w.heap.size w w1) := ⟨by rw [hw1]; exact below_alloc (Below.refl _ _) _⟩
  have HX : Aside0 (w1.heap[w.heap.size]? = some (.cells (sv ⟨del, fol, skip, dbl, most⟩ Ad Af cd cf) 38 (0, 0))) := ⟨by rw [hw1]; exact blk_new w _⟩
  have HCD := Aside0.mk hd
  have HCF := Aside0.mk hf
  have HT := Aside0.mk ht
  have HWT := Aside0.mk hw
  have hlen := seg_len D 0 D.size
  have HK : Aside0 (Calls Tryd.prog 38 #[.slice A D.size c] w1 fun e w' => ∃ v0_ : Value, e = .returned (v0_) ∧ Kd.R (Kd.int .u8) 5 w' w1.heap.size (fun _ => True) v0_ (seg D 0 D.size) ∧ Below w1.heap.size w1 w') := ⟨by
    have := slices_Clone_byte_byte.calls A c (seg D 0 D.size) (seg D 0 D.size) w1 (by rw [hlen]; exact Kd.C_below hA HB.out) (by rw [hlen]; exact hAc) (cloneb_f _ (by rw [hlen]; omega))
    rwa [hlen] at this⟩
  have HRR := Aside0.mk hR
  have hok : ROk D fin 0 R := by rw [← hR]; exact scan_ok _ _ _
  have HOK := Aside0.mk hok
  clear hd hf ht hw hA hR hok
  go_enter Tryd.func21, Tryd.ntmps21
  go_wp2_with fail
  rw [← hw1]
  clear hw1
  refine HK.out.mono ?_
  rintro _ W1 ⟨v0, rfl, hr0, hb0⟩
  obtain ⟨g, cap, e0, g1, g2, cells, g3⟩ := Kd.R_form hr0 (by rw [hlen]; exact h0)
  subst e0
  have hcap := (Kd.R_reads' hr0).2.1
  rw [hlen] at hcap
  have HRow := Aside0.mk (cells_row (n := 0) hr0 g3)
  have HB1 := Aside0.mk (HB.out.trans (hb0.mono HB.out.size))
  have HX1 : Aside0 (W1.heap[w.heap.size]? = some (.cells (sv ⟨del, fol, skip, dbl, most⟩ Ad Af cd cf) 38 (0, 0))) := ⟨(hb0.block _ (Array.getElem?_eq_some_iff.1 HX.out).1).trans HX.out⟩
  have hg : w.heap.size ≤ g := Nat.le_trans HB.out.size g1
  have hgx : w.heap.size ≠ g := by have := (Array.getElem?_eq_some_iff.1 HX.out).1; omega
  clear hr0 hb0 g3 HB HX HK
  rw [hlen]
  have z0 := cells_at HX1.out 0 _ rfl; have z1 := cells_at HX1.out 1 _ rfl; have z2 := cells_at HX1.out 2 _ rfl; have z3 := cells_at HX1.out 3 _ rfl; have z4 := cells_at HX1.out 4 _ rfl
  have HCall := Aside0.mk (impl_splitterOf.calls Ad cd del Af cf fol skip dbl most _ _ _ _ _ W1 (Kd.C_below HCD.out HB1.out) hcd (Kd.C_below HCF.out HB1.out) hcf (split_f _ _ _ _ _ hl1 hl2))
  go_wp2_with fail
  refine HCall.out.mono ?_
  rintro _ W2 ⟨v0_, v1_, rfl, q0, q1, qb⟩
  obtain ⟨A0, c0, rfl, l0, C0⟩ := row_form q0 g2
  obtain ⟨A1, c1, rfl, l1, C1⟩ := row_form q1 g2
  have B2 := HB1.out.trans (qb.mono HB1.out.size)
  have HScan := Aside0.mk (scan_any fin W2 ⟨del, fol, skip, dbl, most⟩ A0 A1 c0 c1 g 0 cap D (base_of hg B2 HT.out HWT.out C0 l0 C1 l1) (HRow.out.step qb) hcap (by omega) h0 R HRR.out)
  have HB2 := Aside0.mk B2
  clear q0 q1 qb C0 C1 l0 l1 B2 z0 z1 z2 z3 z4 HCall HX1 HB1 HRow
  go_wp2_with fail
  refine HScan.out.mono ?_
  rintro _ W3 ⟨rfl, hSI⟩
  obtain ⟨At, ct, hat, htl, htC, htn, hts⟩ := tok_reads hSI HOK.out.o hcap (by omega)
  have HB3 := Aside0.mk (kp_below HB2.out hSI.kept hg HB2.out.size)
  have HSI := Aside0.mk hSI
  rw [hat]
  have HCl := Aside0.mk (slices_Clone_byte_byte.calls At ct R.tk R.tk W3 htC htl (cloneb_f _ hts))
  clear HScan hSI htC hat HB2
  go_wp2_with fail
  refine HCl.out.mono ?_
  rintro _ W4 ⟨v4, rfl, hr4, hb4⟩
  have HR4 := Aside0.mk (Kd.R_lower hr4 HB3.out.size)
  have HB4 := Aside0.mk (HB3.out.trans (hb4.mono HB3.out.size))
  have HSI4 := Aside0.mk (HSI.out.step hb4)
  clear hr4 hb4 HCl
  go_wp2_with fail
  (try simp only [Exit.inBlock, Exit.then]); refine bodyPost_ret (results_tmp4 rfl _ _ _) rfl ?_
  refine ⟨v4, some ⟨g, 0, none⟩, cap, ?_, HR4.out, hcap, ?_, HB4.out⟩
  · rfl
  · have := C_cells (w := W4) (b := g) (x := 0) (k := .u8) (xs := (List.range D.size).map (R.mem D)) (by simp; omega) (fun i hi => by
      simp only [List.length_map, List.length_range] at hi
      rw [HSI4.out.cell i hi, List.getD_eq_getElem?_getD, List.getElem?_eq_getElem (by simpa using hi)]
      simp)
    simpa using this
end Go.Proofs.YtckdpckdabfkbabDoor.Scan
namespace Go.Proofs.YtckdpckdabfkbabDoor.Tabs
open Go.RowKit Go.Lib
set_option linter.unusedVariables false
set_option linter.unusedSimpArgs false
noncomputable def tF : Nat := ((Tryd.prog.globals[1]?).map (·.type)).getD 0
noncomputable def tA : Nat := ((Tryd.prog.globals[2]?).map (·.type)).getD 0
noncomputable def elemOf (t : Nat) : Nat := match Tryd.prog.underlying t with
  | some (.array _ e) => e
  | _ => 0
noncomputable def u8 : Nat := elemOf tF
theorem n3 : Tryd.prog.globalNamed "unicode/utf8.first" = some 1 := by kernel_rfl
theorem n4 : Tryd.prog.globalNamed "unicode/utf8.acceptRanges" = some 2 := by kernel_rfl
theorem y3 : (Tryd.prog.globals[1]?).map (·.type) = some tF := by kernel_rfl
theorem y4 : (Tryd.prog.globals[2]?).map (·.type) = some tA := by kernel_rfl
theorem t119 : Tryd.prog.underlying tF = some (.array 256 u8) := by kernel_rfl
theorem t5 : Tryd.prog.underlying u8 = some (.int .u8) := by kernel_rfl
theorem t139 : Tryd.prog.underlying tA = some (.array 16 (elemOf tA)) := by kernel_rfl
noncomputable def fieldsOf (t : Nat) : Array Field := match Tryd.prog.underlying t with
  | some (.struct fs) => fs
  | _ => #[]
theorem t138 : Tryd.prog.underlying (elemOf tA) = some (.struct (fieldsOf (elemOf tA))) := by kernel_rfl
theorem c5 : Tryd.prog.cellsOf u8 = 1 := by kernel_rfl
theorem c119 : Tryd.prog.cellsOf tF = 256 := by kernel_rfl
theorem c138 : Tryd.prog.cellsOf (elemOf tA) = 2 := by kernel_rfl
theorem fm : (fieldsOf (elemOf tA)).toList.map (fun f => (Tryd.prog.underlying f.type, f.offset, Tryd.prog.cellsOf f.type)) = [(some (.int .u8), 0, 1), (some (.int .u8), 1, 1)] := by kernel_rfl
theorem fss : (fieldsOf (elemOf tA)).size = 2 := by kernel_rfl
theorem fields_of {X : Type} (fs : Array Field) (g : Field → X) (l : List X) (h : fs.toList.map g = l) (j : Nat) (f : Field) (hj : fs[j]? = some f) : l[j]? = some (g f) := by
  rw [← h, List.getElem?_map, Array.getElem?_toList, hj]; rfl
theorem two_of {X : Type} {a b c : X} {j : Nat} (h : [a, b][j]? = some c) : (j = 0 ∧ a = c) ∨ (j = 1 ∧ b = c) := by
  match j, h with
  | 0, h => exact Or.inl ⟨rfl, Option.some.inj h⟩
  | 1, h => exact Or.inr ⟨rfl, Option.some.inj h⟩
  | j + 2, h => simp at h
theorem fields_gen (u : Nat → Option TypeDesc) (c : Nat → Nat) (fs : Array Field) (h : fs.toList.map (fun f => (u f.type, f.offset, c f.type)) = [(some (.int .u8), 0, 1), (some (.int .u8), 1, 1)]) (j : Nat) (f : Field) (hj : fs[j]? = some f) : u f.type = some (.int .u8) ∧ f.offset = j ∧ c f.type = 1 := by
  rcases two_of (fields_of _ _ _ h j f hj) with ⟨rfl, h⟩ | ⟨rfl, h⟩ <;>
  · simp only [Prod.mk.injEq] at h
    exact ⟨h.1.symm, h.2.1.symm, h.2.2.symm⟩
theorem fields (j : Nat) (f : Field) (hj : (fieldsOf (elemOf tA))[j]? = some f) : Tryd.prog.underlying f.type = some (.int .u8) ∧ f.offset = j ∧ Tryd.prog.cellsOf f.type = 1 :=
  fields_gen _ _ _ fm j f hj
theorem utf8Tabs {w : World} (h3 : VarReads Tryd.prog w "unicode/utf8.first" firstData) (h4 : VarReads Tryd.prog w "unicode/utf8.acceptRanges" acceptData) : Lib.Utf8Tabs 1 2 w := by
  refine ⟨fun c hc => ?_, fun i hi => ?_⟩
  · obtain ⟨g, t, cs, fuel, p, hg, hty, hvar, hd⟩ := h3
    obtain rfl := Option.some.inj (n3.symm.trans hg)
    obtain rfl := Option.some.inj (y3.symm.trans hty)
    have hcs := cells_of_tab t119 t5 c5 c119 hd
    have := World.var?_cell hg hvar c
    rw [this, ← Array.getElem?_toList, hcs]
    simp [firstTab, hc]
  · obtain ⟨g, t, cs, fuel, p, hg, hty, hvar, hd⟩ := h4
    obtain rfl := Option.some.inj (n4.symm.trans hg)
    obtain rfl := Option.some.inj (y4.symm.trans hty)
    obtain ⟨fuel', d, q, hdi, he⟩ := array_elem t139 hd i hi
    simp only [List.getElem?_map, List.getElem?_range hi, Option.map_some, Option.some.injEq] at hdi
    subst hdi
    rw [c138] at he
    have hcs := ints_of_struct t138 fields (by rw [c138, fss]) he
    have e0 := congrArg (·[0]?) hcs
    have e1 := congrArg (·[1]?) hcs
    simp only [List.getElem?_take, List.getElem?_drop] at e0 e1
    constructor
    · rw [World.var?_cell hg hvar (2 * i), ← Array.getElem?_toList]
      simpa [Nat.mul_comm] using e0
    · rw [World.var?_cell hg hvar (2 * i + 1), ← Array.getElem?_toList]
      simpa [Nat.mul_comm] using e1
theorem wx : Go.Proofs.WhiteExtra Tryd.prog Tryd.lays199_ren := ⟨by kernel_rfl, by kernel_rfl, by kernel_rfl, by kernel_rfl, by kernel_rfl, by kernel_rfl, by kernel_rfl, by kernel_rfl⟩
theorem whiteTab {w : World} (h6 : VarReads Tryd.prog w "unicode.White_Space" whiteData) : Lib.WhiteTab 0 w := Go.Proofs.whiteTab_of_reads Tryd.lays199 wx h6
theorem met {w : World} {l : List (String × DataW Unit)} (h : laidMet Tryd.prog l w) (h3 : ("unicode/utf8.first", firstData) ∈ l) (h4 : ("unicode/utf8.acceptRanges", acceptData) ∈ l) (h6 : ("unicode.White_Space", whiteData) ∈ l) :
    Lib.Utf8Tabs 1 2 w ∧ Lib.WhiteTab 0 w :=
  ⟨utf8Tabs (laidMet.reads h h3) (laidMet.reads h h4), whiteTab (laidMet.reads h h6)⟩
theorem d3 : Rows.laid_unicode_utf8_first = firstData := by kernel_rfl
theorem d4 : Rows.laid_unicode_utf8_acceptRanges = acceptData := by kernel_rfl
theorem d6 : Rows.laid_unicode_White_Space = whiteData := by kernel_rfl
end Go.Proofs.YtckdpckdabfkbabDoor.Tabs
namespace Go.Proofs.YtckdpckdabfkbabDoor.Scan
open Go.RowKit Go.Proofs.YtckdpckdabfkbabDoorW.PrintWords Go.Proofs.YtckdpckdabfkbabDoor.Plain Go.Proofs.YtckdpckdabfkbabDoor.Num Go.Proofs.YtckdpckdabfkbabDoor.PC
set_option linter.unusedVariables false
set_option linter.unusedSimpArgs false
theorem row_C {W : World} {b n : Nat} {D : ByteArray} (h : Row W b 0 n (by' D)) (hn : n ≤ 9223372036854775807) : (Kd.int .u8).C W (some ⟨b, 0, none⟩) n (seg D 0 n) := by
  obtain ⟨cs, t, h1, h2⟩ := h
  have := C_cells (w := W) (b := b) (x := 0) (k := .u8) (xs := seg D 0 n) (by rw [seg_len]; exact hn) (fun i hi => by
    rw [seg_len] at hi
    rw [h1.cell _ _ (h2 i hi), List.getD_eq_getElem?_getD, List.getElem?_eq_getElem (by rw [seg_len]; exact hi)]
    simp [seg])
  rwa [seg_len] at this
set_option maxHeartbeats 16000000 in
set_option maxRecDepth 100000 in
theorem more_calls (w : World) (S : Sp) (Ad Af : Option Addr) (cd cf : Nat) (D M : ByteArray) (hd : (Kd.int .i32).C w Ad S.del.length S.del) (hcd : S.del.length ≤ cd) (hf : (Kd.int .i32).C w Af S.fol.length S.fol) (hcf : S.fol.length ≤ cf)
    (ht : Lib.Utf8Tabs 1 2 w) (hw : Lib.WhiteTab 0 w) (hgD : D.size ≤ 140737488351232) (hgM : M.size ≤ 140737488351232) :
    Calls Tryd.prog 6 #[.agg (sv S Ad Af cd cf), .string D, .string M] w fun e w' => e = .returned (.bool true) ∧ Below w.heap.size w w' := by
  obtain ⟨del, fol, skip, dbl, most⟩ := S
  obtain ⟨w1, hw1⟩ : ∃ w1, w1 = w.alloc (.cells (sv ⟨del, fol, skip, dbl, most⟩ Ad Af cd cf) 38) := ⟨_, rfl⟩
  have HB : Aside0 (Below w.heap.size w w1) := ⟨by rw [hw1]; exact below_alloc (Below.refl _ _) _⟩
  have HX : Aside0 (w1.heap[w.heap.size]? = some (.cells (sv ⟨del, fol, skip, dbl, most⟩ Ad Af cd cf) 38 (0, 0))) := ⟨by rw [hw1]; exact blk_new w _⟩
  have HCD := Aside0.mk hd
  have HCF := Aside0.mk hf
  have HT := Aside0.mk ht
  have HW := Aside0.mk hw
  clear hd hf ht hw
  have z0 := cells_at HX.out 0 _ rfl; have z1 := cells_at HX.out 1 _ rfl; have z2 := cells_at HX.out 2 _ rfl; have z3 := cells_at HX.out 3 _ rfl; have z4 := cells_at HX.out 4 _ rfl
  go_enter Tryd.func6, Tryd.ntmps6
  go_wp2_with fail
  rw [← hw1]
  clear hw1
  by_cases hl1 : del.length ≤ 2147483647
  · by_cases hl2 : fol.length ≤ 2147483647
    · have hfb : (decide (del.length ≤ 2147483647) && decide (fol.length ≤ 2147483647)) = true := by simp [hl1, hl2]
      have HFT : Aside0 (laws_zzFits18.f del fol skip dbl most = some true) := ⟨by rw [fits_f, hfb]⟩
      clear hfb
      by_cases hD : D.size ≤ 2147483647
      · have hDb : ¬ (D.size : Int) > 2147483647 := by omega
        by_cases hM : M.size ≤ 2147483647
        · have hMb : ¬ (M.size : Int) > 2147483647 := by omega
          obtain ⟨rs, js, hjs⟩ := splits_ev del fol skip dbl most hl1 hl2
          have HSP := Aside0.mk (hjs js (Nat.le_refl _))
          clear hjs
          cases rs with
          | false =>
            go_wp2_with (first | (go_at_call 14; refine (laws_zzFits18.calls Ad cd del Af cf fol _ _ _ _ _ (Kd.C_below HCD.out HB.out) hcd (Kd.C_below HCF.out HB.out) hcf HFT.out).mono ?_; rintro _ W_ ⟨rfl, hb_⟩; have HB_ := Aside0.mk (HB.out.trans (hb_.mono HB.out.size)); have HX_ := Aside0.mk ((hb_.block _ (Array.getElem?_eq_some_iff.1 HX.out).1).trans HX.out); clear hb_ HB HX z0 z1 z2 z3 z4; have HB := HB_; have HX := HX_; clear HB_ HX_; have z0 := cells_at HX.out 0 _ rfl; have z1 := cells_at HX.out 1 _ rfl; have z2 := cells_at HX.out 2 _ rfl; have z3 := cells_at HX.out 3 _ rfl; have z4 := cells_at HX.out 4 _ rfl) | (go_at_call 15; refine (laws_splits.calls js Ad cd del Af cf fol _ _ _ _ _ (Kd.C_below HCD.out HB.out) hcd (Kd.C_below HCF.out HB.out) hcf HSP.out).mono ?_; rintro _ W_ ⟨rfl, hb_⟩; have HB_ := Aside0.mk (HB.out.trans (hb_.mono HB.out.size)); have HX_ := Aside0.mk ((hb_.block _ (Array.getElem?_eq_some_iff.1 HX.out).1).trans HX.out); clear hb_ HB HX z0 z1 z2 z3 z4; have HB := HB_; have HX := HX_; clear HB_ HX_; have z0 := cells_at HX.out 0 _ rfl; have z1 := cells_at HX.out 1 _ rfl; have z2 := cells_at HX.out 2 _ rfl; have z3 := cells_at HX.out 3 _ rfl; have z4 := cells_at HX.out 4 _ rfl) | (go_at_call 16; refine (readable_calls _ _).mono ?_; rintro _ W_ ⟨rfl, hb_⟩; (first | rw [HRD.out] | rw [HRM.out]); have HB_ := Aside0.mk (HB.out.trans (hb_.mono HB.out.size)); have HX_ := Aside0.mk ((hb_.block _ (Array.getElem?_eq_some_iff.1 HX.out).1).trans HX.out); clear hb_ HB HX z0 z1 z2 z3 z4; have HB := HB_; have HX := HX_; clear HB_ HX_; have z0 := cells_at HX.out 0 _ rfl; have z1 := cells_at HX.out 1 _ rfl; have z2 := cells_at HX.out 2 _ rfl; have z3 := cells_at HX.out 3 _ rfl; have z4 := cells_at HX.out 4 _ rfl) | (go_at_call 17; refine (parts_calls _ (Utf8Tabs_below HT.out HB.out) (WhiteTab_below HW.out HB.out)).mono ?_; rintro _ W_ ⟨rfl, hb_⟩; have HB_ := Aside0.mk (HB.out.trans (hb_.mono HB.out.size)); have HX_ := Aside0.mk ((hb_.block _ (Array.getElem?_eq_some_iff.1 HX.out).1).trans HX.out); clear hb_ HB HX z0 z1 z2 z3 z4; have HB := HB_; have HX := HX_; clear HB_ HX_; have z0 := cells_at HX.out 0 _ rfl; have z1 := cells_at HX.out 1 _ rfl; have z2 := cells_at HX.out 2 _ rfl; have z3 := cells_at HX.out 3 _ rfl; have z4 := cells_at HX.out 4 _ rfl))
            go_ret
            exact ⟨rfl, HB.out⟩
          | true =>
            cases hrd : rdb D with
            | false =>
              have HRD := Aside0.mk hrd
              clear hrd
              go_wp2_with (first | (go_at_call 14; refine (laws_zzFits18.calls Ad cd del Af cf fol _ _ _ _ _ (Kd.C_below HCD.out HB.out) hcd (Kd.C_below HCF.out HB.out) hcf HFT.out).mono ?_; rintro _ W_ ⟨rfl, hb_⟩; have HB_ := Aside0.mk (HB.out.trans (hb_.mono HB.out.size)); have HX_ := Aside0.mk ((hb_.block _ (Array.getElem?_eq_some_iff.1 HX.out).1).trans HX.out); clear hb_ HB HX z0 z1 z2 z3 z4; have HB := HB_; have HX := HX_; clear HB_ HX_; have z0 := cells_at HX.out 0 _ rfl; have z1 := cells_at HX.out 1 _ rfl; have z2 := cells_at HX.out 2 _ rfl; have z3 := cells_at HX.out 3 _ rfl; have z4 := cells_at HX.out 4 _ rfl) | (go_at_call 15; refine (laws_splits.calls js Ad cd del Af cf fol _ _ _ _ _ (Kd.C_below HCD.out HB.out) hcd (Kd.C_below HCF.out HB.out) hcf HSP.out).mono ?_; rintro _ W_ ⟨rfl, hb_⟩; have HB_ := Aside0.mk (HB.out.trans (hb_.mono HB.out.size)); have HX_ := Aside0.mk ((hb_.block _ (Array.getElem?_eq_some_iff.1 HX.out).1).trans HX.out); clear hb_ HB HX z0 z1 z2 z3 z4; have HB := HB_; have HX := HX_; clear HB_ HX_; have z0 := cells_at HX.out 0 _ rfl; have z1 := cells_at HX.out 1 _ rfl; have z2 := cells_at HX.out 2 _ rfl; have z3 := cells_at HX.out 3 _ rfl; have z4 := cells_at HX.out 4 _ rfl) | (go_at_call 16; refine (readable_calls _ _).mono ?_; rintro _ W_ ⟨rfl, hb_⟩; (first | rw [HRD.out] | rw [HRM.out]); have HB_ := Aside0.mk (HB.out.trans (hb_.mono HB.out.size)); have HX_ := Aside0.mk ((hb_.block _ (Array.getElem?_eq_some_iff.1 HX.out).1).trans HX.out); clear hb_ HB HX z0 z1 z2 z3 z4; have HB := HB_; have HX := HX_; clear HB_ HX_; have z0 := cells_at HX.out 0 _ rfl; have z1 := cells_at HX.out 1 _ rfl; have z2 := cells_at HX.out 2 _ rfl; have z3 := cells_at HX.out 3 _ rfl; have z4 := cells_at HX.out 4 _ rfl) | (go_at_call 17; refine (parts_calls _ (Utf8Tabs_below HT.out HB.out) (WhiteTab_below HW.out HB.out)).mono ?_; rintro _ W_ ⟨rfl, hb_⟩; have HB_ := Aside0.mk (HB.out.trans (hb_.mono HB.out.size)); have HX_ := Aside0.mk ((hb_.block _ (Array.getElem?_eq_some_iff.1 HX.out).1).trans HX.out); clear hb_ HB HX z0 z1 z2 z3 z4; have HB := HB_; have HX := HX_; clear HB_ HX_; have z0 := cells_at HX.out 0 _ rfl; have z1 := cells_at HX.out 1 _ rfl; have z2 := cells_at HX.out 2 _ rfl; have z3 := cells_at HX.out 3 _ rfl; have z4 := cells_at HX.out 4 _ rfl))
              go_ret
              exact ⟨rfl, HB.out⟩
            | true =>
              have HRD := Aside0.mk hrd
              clear hrd
              cases hrm : rdb M with
              | false =>
                have HRM := Aside0.mk hrm
                clear hrm
                go_wp2_with (first | (go_at_call 14; refine (laws_zzFits18.calls Ad cd del Af cf fol _ _ _ _ _ (Kd.C_below HCD.out HB.out) hcd (Kd.C_below HCF.out HB.out) hcf HFT.out).mono ?_; rintro _ W_ ⟨rfl, hb_⟩; have HB_ := Aside0.mk (HB.out.trans (hb_.mono HB.out.size)); have HX_ := Aside0.mk ((hb_.block _ (Array.getElem?_eq_some_iff.1 HX.out).1).trans HX.out); clear hb_ HB HX z0 z1 z2 z3 z4; have HB := HB_; have HX := HX_; clear HB_ HX_; have z0 := cells_at HX.out 0 _ rfl; have z1 := cells_at HX.out 1 _ rfl; have z2 := cells_at HX.out 2 _ rfl; have z3 := cells_at HX.out 3 _ rfl; have z4 := cells_at HX.out 4 _ rfl) | (go_at_call 15; refine (laws_splits.calls js Ad cd del Af cf fol _ _ _ _ _ (Kd.C_below HCD.out HB.out) hcd (Kd.C_below HCF.out HB.out) hcf HSP.out).mono ?_; rintro _ W_ ⟨rfl, hb_⟩; have HB_ := Aside0.mk (HB.out.trans (hb_.mono HB.out.size)); have HX_ := Aside0.mk ((hb_.block _ (Array.getElem?_eq_some_iff.1 HX.out).1).trans HX.out); clear hb_ HB HX z0 z1 z2 z3 z4; have HB := HB_; have HX := HX_; clear HB_ HX_; have z0 := cells_at HX.out 0 _ rfl; have z1 := cells_at HX.out 1 _ rfl; have z2 := cells_at HX.out 2 _ rfl; have z3 := cells_at HX.out 3 _ rfl; have z4 := cells_at HX.out 4 _ rfl) | (go_at_call 16; refine (readable_calls _ _).mono ?_; rintro _ W_ ⟨rfl, hb_⟩; (first | rw [HRD.out] | rw [HRM.out]); have HB_ := Aside0.mk (HB.out.trans (hb_.mono HB.out.size)); have HX_ := Aside0.mk ((hb_.block _ (Array.getElem?_eq_some_iff.1 HX.out).1).trans HX.out); clear hb_ HB HX z0 z1 z2 z3 z4; have HB := HB_; have HX := HX_; clear HB_ HX_; have z0 := cells_at HX.out 0 _ rfl; have z1 := cells_at HX.out 1 _ rfl; have z2 := cells_at HX.out 2 _ rfl; have z3 := cells_at HX.out 3 _ rfl; have z4 := cells_at HX.out 4 _ rfl) | (go_at_call 17; refine (parts_calls _ (Utf8Tabs_below HT.out HB.out) (WhiteTab_below HW.out HB.out)).mono ?_; rintro _ W_ ⟨rfl, hb_⟩; have HB_ := Aside0.mk (HB.out.trans (hb_.mono HB.out.size)); have HX_ := Aside0.mk ((hb_.block _ (Array.getElem?_eq_some_iff.1 HX.out).1).trans HX.out); clear hb_ HB HX z0 z1 z2 z3 z4; have HB := HB_; have HX := HX_; clear HB_ HX_; have z0 := cells_at HX.out 0 _ rfl; have z1 := cells_at HX.out 1 _ rfl; have z2 := cells_at HX.out 2 _ rfl; have z3 := cells_at HX.out 3 _ rfl; have z4 := cells_at HX.out 4 _ rfl))
                go_ret
                exact ⟨rfl, HB.out⟩
              | true =>
                have HRM := Aside0.mk hrm
                clear hrm
                cases skip with
                | true =>
                  go_wp2_with (first | (go_at_call 14; refine (laws_zzFits18.calls Ad cd del Af cf fol _ _ _ _ _ (Kd.C_below HCD.out HB.out) hcd (Kd.C_below HCF.out HB.out) hcf HFT.out).mono ?_; rintro _ W_ ⟨rfl, hb_⟩; have HB_ := Aside0.mk (HB.out.trans (hb_.mono HB.out.size)); have HX_ := Aside0.mk ((hb_.block _ (Array.getElem?_eq_some_iff.1 HX.out).1).trans HX.out); clear hb_ HB HX z0 z1 z2 z3 z4; have HB := HB_; have HX := HX_; clear HB_ HX_; have z0 := cells_at HX.out 0 _ rfl; have z1 := cells_at HX.out 1 _ rfl; have z2 := cells_at HX.out 2 _ rfl; have z3 := cells_at HX.out 3 _ rfl; have z4 := cells_at HX.out 4 _ rfl) | (go_at_call 15; refine (laws_splits.calls js Ad cd del Af cf fol _ _ _ _ _ (Kd.C_below HCD.out HB.out) hcd (Kd.C_below HCF.out HB.out) hcf HSP.out).mono ?_; rintro _ W_ ⟨rfl, hb_⟩; have HB_ := Aside0.mk (HB.out.trans (hb_.mono HB.out.size)); have HX_ := Aside0.mk ((hb_.block _ (Array.getElem?_eq_some_iff.1 HX.out).1).trans HX.out); clear hb_ HB HX z0 z1 z2 z3 z4; have HB := HB_; have HX := HX_; clear HB_ HX_; have z0 := cells_at HX.out 0 _ rfl; have z1 := cells_at HX.out 1 _ rfl; have z2 := cells_at HX.out 2 _ rfl; have z3 := cells_at HX.out 3 _ rfl; have z4 := cells_at HX.out 4 _ rfl) | (go_at_call 16; refine (readable_calls _ _).mono ?_; rintro _ W_ ⟨rfl, hb_⟩; (first | rw [HRD.out] | rw [HRM.out]); have HB_ := Aside0.mk (HB.out.trans (hb_.mono HB.out.size)); have HX_ := Aside0.mk ((hb_.block _ (Array.getElem?_eq_some_iff.1 HX.out).1).trans HX.out); clear hb_ HB HX z0 z1 z2 z3 z4; have HB := HB_; have HX := HX_; clear HB_ HX_; have z0 := cells_at HX.out 0 _ rfl; have z1 := cells_at HX.out 1 _ rfl; have z2 := cells_at HX.out 2 _ rfl; have z3 := cells_at HX.out 3 _ rfl; have z4 := cells_at HX.out 4 _ rfl) | (go_at_call 17; refine (parts_calls _ (Utf8Tabs_below HT.out HB.out) (WhiteTab_below HW.out HB.out)).mono ?_; rintro _ W_ ⟨rfl, hb_⟩; have HB_ := Aside0.mk (HB.out.trans (hb_.mono HB.out.size)); have HX_ := Aside0.mk ((hb_.block _ (Array.getElem?_eq_some_iff.1 HX.out).1).trans HX.out); clear hb_ HB HX z0 z1 z2 z3 z4; have HB := HB_; have HX := HX_; clear HB_ HX_; have z0 := cells_at HX.out 0 _ rfl; have z1 := cells_at HX.out 1 _ rfl; have z2 := cells_at HX.out 2 _ rfl; have z3 := cells_at HX.out 3 _ rfl; have z4 := cells_at HX.out 4 _ rfl))
                  go_ret
                  exact ⟨rfl, HB.out⟩
                | false =>
                  cases dbl with
                  | true =>
                    go_wp2_with (first | (go_at_call 14; refine (laws_zzFits18.calls Ad cd del Af cf fol _ _ _ _ _ (Kd.C_below HCD.out HB.out) hcd (Kd.C_below HCF.out HB.out) hcf HFT.out).mono ?_; rintro _ W_ ⟨rfl, hb_⟩; have HB_ := Aside0.mk (HB.out.trans (hb_.mono HB.out.size)); have HX_ := Aside0.mk ((hb_.block _ (Array.getElem?_eq_some_iff.1 HX.out).1).trans HX.out); clear hb_ HB HX z0 z1 z2 z3 z4; have HB := HB_; have HX := HX_; clear HB_ HX_; have z0 := cells_at HX.out 0 _ rfl; have z1 := cells_at HX.out 1 _ rfl; have z2 := cells_at HX.out 2 _ rfl; have z3 := cells_at HX.out 3 _ rfl; have z4 := cells_at HX.out 4 _ rfl) | (go_at_call 15; refine (laws_splits.calls js Ad cd del Af cf fol _ _ _ _ _ (Kd.C_below HCD.out HB.out) hcd (Kd.C_below HCF.out HB.out) hcf HSP.out).mono ?_; rintro _ W_ ⟨rfl, hb_⟩; have HB_ := Aside0.mk (HB.out.trans (hb_.mono HB.out.size)); have HX_ := Aside0.mk ((hb_.block _ (Array.getElem?_eq_some_iff.1 HX.out).1).trans HX.out); clear hb_ HB HX z0 z1 z2 z3 z4; have HB := HB_; have HX := HX_; clear HB_ HX_; have z0 := cells_at HX.out 0 _ rfl; have z1 := cells_at HX.out 1 _ rfl; have z2 := cells_at HX.out 2 _ rfl; have z3 := cells_at HX.out 3 _ rfl; have z4 := cells_at HX.out 4 _ rfl) | (go_at_call 16; refine (readable_calls _ _).mono ?_; rintro _ W_ ⟨rfl, hb_⟩; (first | rw [HRD.out] | rw [HRM.out]); have HB_ := Aside0.mk (HB.out.trans (hb_.mono HB.out.size)); have HX_ := Aside0.mk ((hb_.block _ (Array.getElem?_eq_some_iff.1 HX.out).1).trans HX.out); clear hb_ HB HX z0 z1 z2 z3 z4; have HB := HB_; have HX := HX_; clear HB_ HX_; have z0 := cells_at HX.out 0 _ rfl; have z1 := cells_at HX.out 1 _ rfl; have z2 := cells_at HX.out 2 _ rfl; have z3 := cells_at HX.out 3 _ rfl; have z4 := cells_at HX.out 4 _ rfl) | (go_at_call 17; refine (parts_calls _ (Utf8Tabs_below HT.out HB.out) (WhiteTab_below HW.out HB.out)).mono ?_; rintro _ W_ ⟨rfl, hb_⟩; have HB_ := Aside0.mk (HB.out.trans (hb_.mono HB.out.size)); have HX_ := Aside0.mk ((hb_.block _ (Array.getElem?_eq_some_iff.1 HX.out).1).trans HX.out); clear hb_ HB HX z0 z1 z2 z3 z4; have HB := HB_; have HX := HX_; clear HB_ HX_; have z0 := cells_at HX.out 0 _ rfl; have z1 := cells_at HX.out 1 _ rfl; have z2 := cells_at HX.out 2 _ rfl; have z3 := cells_at HX.out 3 _ rfl; have z4 := cells_at HX.out 4 _ rfl))
                    go_ret
                    exact ⟨rfl, HB.out⟩
                  | false =>
                    by_cases h0 : D.size = 0
                    · obtain rfl : D = ⟨#[]⟩ := by apply ByteArray.ext; exact Array.eq_empty_of_size_eq_zero h0
                      go_wp2_with (first | (go_at_call 14; refine (laws_zzFits18.calls Ad cd del Af cf fol _ _ _ _ _ (Kd.C_below HCD.out HB.out) hcd (Kd.C_below HCF.out HB.out) hcf HFT.out).mono ?_; rintro _ W_ ⟨rfl, hb_⟩; have HB_ := Aside0.mk (HB.out.trans (hb_.mono HB.out.size)); have HX_ := Aside0.mk ((hb_.block _ (Array.getElem?_eq_some_iff.1 HX.out).1).trans HX.out); clear hb_ HB HX z0 z1 z2 z3 z4; have HB := HB_; have HX := HX_; clear HB_ HX_; have z0 := cells_at HX.out 0 _ rfl; have z1 := cells_at HX.out 1 _ rfl; have z2 := cells_at HX.out 2 _ rfl; have z3 := cells_at HX.out 3 _ rfl; have z4 := cells_at HX.out 4 _ rfl) | (go_at_call 15; refine (laws_splits.calls js Ad cd del Af cf fol _ _ _ _ _ (Kd.C_below HCD.out HB.out) hcd (Kd.C_below HCF.out HB.out) hcf HSP.out).mono ?_; rintro _ W_ ⟨rfl, hb_⟩; have HB_ := Aside0.mk (HB.out.trans (hb_.mono HB.out.size)); have HX_ := Aside0.mk ((hb_.block _ (Array.getElem?_eq_some_iff.1 HX.out).1).trans HX.out); clear hb_ HB HX z0 z1 z2 z3 z4; have HB := HB_; have HX := HX_; clear HB_ HX_; have z0 := cells_at HX.out 0 _ rfl; have z1 := cells_at HX.out 1 _ rfl; have z2 := cells_at HX.out 2 _ rfl; have z3 := cells_at HX.out 3 _ rfl; have z4 := cells_at HX.out 4 _ rfl) | (go_at_call 16; refine (readable_calls _ _).mono ?_; rintro _ W_ ⟨rfl, hb_⟩; (first | rw [HRD.out] | rw [HRM.out]); have HB_ := Aside0.mk (HB.out.trans (hb_.mono HB.out.size)); have HX_ := Aside0.mk ((hb_.block _ (Array.getElem?_eq_some_iff.1 HX.out).1).trans HX.out); clear hb_ HB HX z0 z1 z2 z3 z4; have HB := HB_; have HX := HX_; clear HB_ HX_; have z0 := cells_at HX.out 0 _ rfl; have z1 := cells_at HX.out 1 _ rfl; have z2 := cells_at HX.out 2 _ rfl; have z3 := cells_at HX.out 3 _ rfl; have z4 := cells_at HX.out 4 _ rfl) | (go_at_call 17; refine (parts_calls _ (Utf8Tabs_below HT.out HB.out) (WhiteTab_below HW.out HB.out)).mono ?_; rintro _ W_ ⟨rfl, hb_⟩; have HB_ := Aside0.mk (HB.out.trans (hb_.mono HB.out.size)); have HX_ := Aside0.mk ((hb_.block _ (Array.getElem?_eq_some_iff.1 HX.out).1).trans HX.out); clear hb_ HB HX z0 z1 z2 z3 z4; have HB := HB_; have HX := HX_; clear HB_ HX_; have z0 := cells_at HX.out 0 _ rfl; have z1 := cells_at HX.out 1 _ rfl; have z2 := cells_at HX.out 2 _ rfl; have z3 := cells_at HX.out 3 _ rfl; have z4 := cells_at HX.out 4 _ rfl))
                      go_ret
                      exact ⟨rfl, HB.out⟩
                    · have hz : D.toList.isEmpty = false := by rw [ByteArray.toList_eq]; cases D with | mk d => cases d with | mk l => cases l with | nil => exact absurd rfl h0 | cons a l => rfl
                      have hne : noErr D (D.size + 1) 0 = true ∧ D.size ≤ 300 := by
                        have := HRD.out; unfold rdb at this; simpa using this
                      have hnm : M.size ≤ 300 := by
                        have := HRM.out; unfold rdb at this; simp only [Bool.and_eq_true, decide_eq_true_eq] at this; exact this.2
                      obtain ⟨hne, h300⟩ := hne
                      have hss := size_app D M
                      have hsum : D.size + M.size ≤ 9223372036854775807 := by omega
                      have hcv := fun (W : World) (X : ByteArray) => Lib.run_convert_string_bytes (P := Tryd.prog) W 9 22 5 X Tryd.underlying9 Tryd.underlying22 Tryd.underlying5
                      cases htok : (scan ⟨del, fol, false, false, most⟩ D false).tok with
                      | false =>
                        clear hne
                        obtain ⟨R, hR⟩ : ∃ R, scan ⟨del, fol, false, false, most⟩ D false = R := ⟨_, rfl⟩
                        rw [hR] at htok
                        have HRR := Aside0.mk hR
                        clear hR
                        go_wp2_with (first | (go_at_call 14; refine (laws_zzFits18.calls Ad cd del Af cf fol _ _ _ _ _ (Kd.C_below HCD.out HB.out) hcd (Kd.C_below HCF.out HB.out) hcf HFT.out).mono ?_; rintro _ W_ ⟨rfl, hb_⟩; have HB_ := Aside0.mk (HB.out.trans (hb_.mono HB.out.size)); have HX_ := Aside0.mk ((hb_.block _ (Array.getElem?_eq_some_iff.1 HX.out).1).trans HX.out); clear hb_ HB HX z0 z1 z2 z3 z4; have HB := HB_; have HX := HX_; clear HB_ HX_; have z0 := cells_at HX.out 0 _ rfl; have z1 := cells_at HX.out 1 _ rfl; have z2 := cells_at HX.out 2 _ rfl; have z3 := cells_at HX.out 3 _ rfl; have z4 := cells_at HX.out 4 _ rfl) | (go_at_call 15; refine (laws_splits.calls js Ad cd del Af cf fol _ _ _ _ _ (Kd.C_below HCD.out HB.out) hcd (Kd.C_below HCF.out HB.out) hcf HSP.out).mono ?_; rintro _ W_ ⟨rfl, hb_⟩; have HB_ := Aside0.mk (HB.out.trans (hb_.mono HB.out.size)); have HX_ := Aside0.mk ((hb_.block _ (Array.getElem?_eq_some_iff.1 HX.out).1).trans HX.out); clear hb_ HB HX z0 z1 z2 z3 z4; have HB := HB_; have HX := HX_; clear HB_ HX_; have z0 := cells_at HX.out 0 _ rfl; have z1 := cells_at HX.out 1 _ rfl; have z2 := cells_at HX.out 2 _ rfl; have z3 := cells_at HX.out 3 _ rfl; have z4 := cells_at HX.out 4 _ rfl) | (go_at_call 16; refine (readable_calls _ _).mono ?_; rintro _ W_ ⟨rfl, hb_⟩; (first | rw [HRD.out] | rw [HRM.out]); have HB_ := Aside0.mk (HB.out.trans (hb_.mono HB.out.size)); have HX_ := Aside0.mk ((hb_.block _ (Array.getElem?_eq_some_iff.1 HX.out).1).trans HX.out); clear hb_ HB HX z0 z1 z2 z3 z4; have HB := HB_; have HX := HX_; clear HB_ HX_; have z0 := cells_at HX.out 0 _ rfl; have z1 := cells_at HX.out 1 _ rfl; have z2 := cells_at HX.out 2 _ rfl; have z3 := cells_at HX.out 3 _ rfl; have z4 := cells_at HX.out 4 _ rfl) | (go_at_call 17; refine (parts_calls _ (Utf8Tabs_below HT.out HB.out) (WhiteTab_below HW.out HB.out)).mono ?_; rintro _ W_ ⟨rfl, hb_⟩; have HB_ := Aside0.mk (HB.out.trans (hb_.mono HB.out.size)); have HX_ := Aside0.mk ((hb_.block _ (Array.getElem?_eq_some_iff.1 HX.out).1).trans HX.out); clear hb_ HB HX z0 z1 z2 z3 z4; have HB := HB_; have HX := HX_; clear HB_ HX_; have z0 := cells_at HX.out 0 _ rfl; have z1 := cells_at HX.out 1 _ rfl; have z2 := cells_at HX.out 2 _ rfl; have z3 := cells_at HX.out 3 _ rfl; have z4 := cells_at HX.out 4 _ rfl))
                        obtain ⟨Wb1, hWb⟩ : ∃ Wb, Wb = Lib.bytesWorld W_ 5 D := ⟨_, rfl⟩
                        obtain ⟨gc1, hgc⟩ : ∃ gc, gc = grownCap W_ (D).size 0 5 := ⟨_, rfl⟩
                        have hgl1 : (D).size ≤ gc1 := by rw [hgc]; exact grownCap_ge _ _ _ _
                        have HRow1 : Aside0 ((Kd.int .u8).C Wb1 (some ⟨W_.heap.size, 0, none⟩) (D).size (seg D 0 (D).size)) := ⟨by rw [hWb]; exact row_C (Row.fresh (W := W_) D) (by omega)⟩
                        have hb_ : Below W_.heap.size W_ Wb1 := by rw [hWb]; exact below_bytes _ _ _
                        rw [← hWb, ← hgc]
                        clear hWb hgc
                        have HB_ := Aside0.mk (HB.out.trans (hb_.mono HB.out.size)); have HX_ := Aside0.mk ((hb_.block _ (Array.getElem?_eq_some_iff.1 HX.out).1).trans HX.out); clear hb_ HB HX z0 z1 z2 z3 z4; have HB := HB_; have HX := HX_; clear HB_ HX_; have z0 := cells_at HX.out 0 _ rfl; have z1 := cells_at HX.out 1 _ rfl; have z2 := cells_at HX.out 2 _ rfl; have z3 := cells_at HX.out 3 _ rfl; have z4 := cells_at HX.out 4 _ rfl
                        go_wp2_with (first | (go_at_call 21; refine (scanI_calls false _ ⟨del, fol, false, false, most⟩ Ad Af cd cf (D) _ gc1 (Kd.C_below HCD.out HB.out) hcd (Kd.C_below HCF.out HB.out) hcf hl1 hl2 HRow1.out hgl1 (by omega) (by omega) (Utf8Tabs_below HT.out HB.out) (WhiteTab_below HW.out HB.out) R HRR.out).mono ?_; rintro _ W_ ⟨v_, Ab_, cb_, rfl, hr_, hcb_, hC_, hb_⟩; obtain ⟨A1, c1, e_, l_, C1_⟩ := Kd.R_reads hr_; subst e_; have HO1 := Aside0.mk C1_; clear hr_ hcb_ hC_ C1_ l_; have HB_ := Aside0.mk (HB.out.trans (hb_.mono HB.out.size)); have HX_ := Aside0.mk ((hb_.block _ (Array.getElem?_eq_some_iff.1 HX.out).1).trans HX.out); clear hb_ HB HX z0 z1 z2 z3 z4; have HB := HB_; have HX := HX_; clear HB_ HX_; have z0 := cells_at HX.out 0 _ rfl; have z1 := cells_at HX.out 1 _ rfl; have z2 := cells_at HX.out 2 _ rfl; have z3 := cells_at HX.out 3 _ rfl; have z4 := cells_at HX.out 4 _ rfl) | (go_at_call 17; refine (parts_calls _ (Utf8Tabs_below HT.out HB.out) (WhiteTab_below HW.out HB.out)).mono ?_; rintro _ W_ ⟨rfl, hb_⟩; have HB_ := Aside0.mk (HB.out.trans (hb_.mono HB.out.size)); have HX_ := Aside0.mk ((hb_.block _ (Array.getElem?_eq_some_iff.1 HX.out).1).trans HX.out); clear hb_ HB HX z0 z1 z2 z3 z4; have HB := HB_; have HX := HX_; clear HB_ HX_; have z0 := cells_at HX.out 0 _ rfl; have z1 := cells_at HX.out 1 _ rfl; have z2 := cells_at HX.out 2 _ rfl; have z3 := cells_at HX.out 3 _ rfl; have z4 := cells_at HX.out 4 _ rfl))
                        go_ret
                        exact ⟨rfl, HB.out⟩
                      | true =>
                        obtain ⟨q, q', e1, e2, h1, h2, h3, h4⟩ := scan_two (S := ⟨del, fol, false, false, most⟩) rfl rfl D M hne htok
                        have HE1 := Aside0.mk e1
                        have HE2 := Aside0.mk e2
                        clear e1 e2 hne htok
                        go_wp2_with (first | (go_at_call 14; refine (laws_zzFits18.calls Ad cd del Af cf fol _ _ _ _ _ (Kd.C_below HCD.out HB.out) hcd (Kd.C_below HCF.out HB.out) hcf HFT.out).mono ?_; rintro _ W_ ⟨rfl, hb_⟩; have HB_ := Aside0.mk (HB.out.trans (hb_.mono HB.out.size)); have HX_ := Aside0.mk ((hb_.block _ (Array.getElem?_eq_some_iff.1 HX.out).1).trans HX.out); clear hb_ HB HX z0 z1 z2 z3 z4; have HB := HB_; have HX := HX_; clear HB_ HX_; have z0 := cells_at HX.out 0 _ rfl; have z1 := cells_at HX.out 1 _ rfl; have z2 := cells_at HX.out 2 _ rfl; have z3 := cells_at HX.out 3 _ rfl; have z4 := cells_at HX.out 4 _ rfl) | (go_at_call 15; refine (laws_splits.calls js Ad cd del Af cf fol _ _ _ _ _ (Kd.C_below HCD.out HB.out) hcd (Kd.C_below HCF.out HB.out) hcf HSP.out).mono ?_; rintro _ W_ ⟨rfl, hb_⟩; have HB_ := Aside0.mk (HB.out.trans (hb_.mono HB.out.size)); have HX_ := Aside0.mk ((hb_.block _ (Array.getElem?_eq_some_iff.1 HX.out).1).trans HX.out); clear hb_ HB HX z0 z1 z2 z3 z4; have HB := HB_; have HX := HX_; clear HB_ HX_; have z0 := cells_at HX.out 0 _ rfl; have z1 := cells_at HX.out 1 _ rfl; have z2 := cells_at HX.out 2 _ rfl; have z3 := cells_at HX.out 3 _ rfl; have z4 := cells_at HX.out 4 _ rfl) | (go_at_call 16; refine (readable_calls _ _).mono ?_; rintro _ W_ ⟨rfl, hb_⟩; (first | rw [HRD.out] | rw [HRM.out]); have HB_ := Aside0.mk (HB.out.trans (hb_.mono HB.out.size)); have HX_ := Aside0.mk ((hb_.block _ (Array.getElem?_eq_some_iff.1 HX.out).1).trans HX.out); clear hb_ HB HX z0 z1 z2 z3 z4; have HB := HB_; have HX := HX_; clear HB_ HX_; have z0 := cells_at HX.out 0 _ rfl; have z1 := cells_at HX.out 1 _ rfl; have z2 := cells_at HX.out 2 _ rfl; have z3 := cells_at HX.out 3 _ rfl; have z4 := cells_at HX.out 4 _ rfl) | (go_at_call 17; refine (parts_calls _ (Utf8Tabs_below HT.out HB.out) (WhiteTab_below HW.out HB.out)).mono ?_; rintro _ W_ ⟨rfl, hb_⟩; have HB_ := Aside0.mk (HB.out.trans (hb_.mono HB.out.size)); have HX_ := Aside0.mk ((hb_.block _ (Array.getElem?_eq_some_iff.1 HX.out).1).trans HX.out); clear hb_ HB HX z0 z1 z2 z3 z4; have HB := HB_; have HX := HX_; clear HB_ HX_; have z0 := cells_at HX.out 0 _ rfl; have z1 := cells_at HX.out 1 _ rfl; have z2 := cells_at HX.out 2 _ rfl; have z3 := cells_at HX.out 3 _ rfl; have z4 := cells_at HX.out 4 _ rfl))
                        obtain ⟨Wb1, hWb⟩ : ∃ Wb, Wb = Lib.bytesWorld W_ 5 D := ⟨_, rfl⟩
                        obtain ⟨gc1, hgc⟩ : ∃ gc, gc = grownCap W_ (D).size 0 5 := ⟨_, rfl⟩
                        have hgl1 : (D).size ≤ gc1 := by rw [hgc]; exact grownCap_ge _ _ _ _
                        have HRow1 : Aside0 ((Kd.int .u8).C Wb1 (some ⟨W_.heap.size, 0, none⟩) (D).size (seg D 0 (D).size)) := ⟨by rw [hWb]; exact row_C (Row.fresh (W := W_) D) (by omega)⟩
                        have hb_ : Below W_.heap.size W_ Wb1 := by rw [hWb]; exact below_bytes _ _ _
                        rw [← hWb, ← hgc]
                        clear hWb hgc
                        have HB_ := Aside0.mk (HB.out.trans (hb_.mono HB.out.size)); have HX_ := Aside0.mk ((hb_.block _ (Array.getElem?_eq_some_iff.1 HX.out).1).trans HX.out); clear hb_ HB HX z0 z1 z2 z3 z4; have HB := HB_; have HX := HX_; clear HB_ HX_; have z0 := cells_at HX.out 0 _ rfl; have z1 := cells_at HX.out 1 _ rfl; have z2 := cells_at HX.out 2 _ rfl; have z3 := cells_at HX.out 3 _ rfl; have z4 := cells_at HX.out 4 _ rfl
                        go_upto_region 8 with (first | (go_at_call 21; refine (scanI_calls false _ ⟨del, fol, false, false, most⟩ Ad Af cd cf (D) _ gc1 (Kd.C_below HCD.out HB.out) hcd (Kd.C_below HCF.out HB.out) hcf hl1 hl2 HRow1.out hgl1 (by omega) (by omega) (Utf8Tabs_below HT.out HB.out) (WhiteTab_below HW.out HB.out) _ HE1.out).mono ?_; rintro _ W_ ⟨v_, Ab_, cb_, rfl, hr_, hcb_, hC_, hb_⟩; obtain ⟨A1, c1, e_, l_, C1_⟩ := Kd.R_reads hr_; subst e_; have HO1 := Aside0.mk C1_; clear hr_ hcb_ hC_ C1_ l_; have HB_ := Aside0.mk (HB.out.trans (hb_.mono HB.out.size)); have HX_ := Aside0.mk ((hb_.block _ (Array.getElem?_eq_some_iff.1 HX.out).1).trans HX.out); clear hb_ HB HX z0 z1 z2 z3 z4; have HB := HB_; have HX := HX_; clear HB_ HX_; have z0 := cells_at HX.out 0 _ rfl; have z1 := cells_at HX.out 1 _ rfl; have z2 := cells_at HX.out 2 _ rfl; have z3 := cells_at HX.out 3 _ rfl; have z4 := cells_at HX.out 4 _ rfl))
                        go_wp2_with fail
                        obtain ⟨Wb2, hWb⟩ : ∃ Wb, Wb = Lib.bytesWorld W_ 5 (D ++ M) := ⟨_, rfl⟩
                        obtain ⟨gc2, hgc⟩ : ∃ gc, gc = grownCap W_ (D.size + M.size) 0 5 := ⟨_, rfl⟩
                        have hgl2 : (D ++ M).size ≤ gc2 := by rw [hgc, hss]; exact grownCap_ge _ _ _ _
                        have HRow2 : Aside0 ((Kd.int .u8).C Wb2 (some ⟨W_.heap.size, 0, none⟩) (D ++ M).size (seg (D ++ M) 0 (D ++ M).size)) := ⟨by rw [hWb]; exact row_C (Row.fresh (W := W_) (D ++ M)) (by omega)⟩
                        have hb_ : Below W_.heap.size W_ Wb2 := by rw [hWb]; exact below_bytes _ _ _
                        rw [← hWb, ← hgc]
                        clear hWb hgc
                        have hw1_ : Wb1.heap.size ≤ Wb1.heap.size := Nat.le_refl _
                        have HO1b := Aside0.mk (Kd.C_below HO1.out hb_)
                        have HB_ := Aside0.mk (HB.out.trans (hb_.mono HB.out.size)); have HX_ := Aside0.mk ((hb_.block _ (Array.getElem?_eq_some_iff.1 HX.out).1).trans HX.out); clear hb_ HB HX z0 z1 z2 z3 z4; have HB := HB_; have HX := HX_; clear HB_ HX_; have z0 := cells_at HX.out 0 _ rfl; have z1 := cells_at HX.out 1 _ rfl; have z2 := cells_at HX.out 2 _ rfl; have z3 := cells_at HX.out 3 _ rfl; have z4 := cells_at HX.out 4 _ rfl
                        have HS2 := Aside0.mk (scanI_calls true Wb2 ⟨del, fol, false, false, most⟩ Ad Af cd cf (D ++ M) _ gc2 (Kd.C_below HCD.out HB.out) hcd (Kd.C_below HCF.out HB.out) hcf hl1 hl2 HRow2.out hgl2 (by omega) (by omega) (Utf8Tabs_below HT.out HB.out) (WhiteTab_below HW.out HB.out) _ HE2.out)
                        rw [hss] at HS2
                        have hge : (q : Int) ≤ (q' : Int) := by omega
                        go_upto_region 9 with (first | (go_at_call 21; refine HS2.out.mono ?_; rintro _ W_ ⟨v_, Ab2_, cb2_, rfl, hr_, hcb_, hC_, hb_⟩; obtain ⟨A2, c2, e_, l_, C2_⟩ := Kd.R_reads hr_; subst e_; have HO2 := Aside0.mk C2_; have HO1c := Aside0.mk (Kd.C_below HO1b.out hb_); clear hr_ hcb_ hC_ C2_ l_; have HB_ := Aside0.mk (HB.out.trans (hb_.mono HB.out.size)); have HX_ := Aside0.mk ((hb_.block _ (Array.getElem?_eq_some_iff.1 HX.out).1).trans HX.out); clear hb_ HB HX z0 z1 z2 z3 z4; have HB := HB_; have HX := HX_; clear HB_ HX_; have z0 := cells_at HX.out 0 _ rfl; have z1 := cells_at HX.out 1 _ rfl; have z2 := cells_at HX.out 2 _ rfl; have z3 := cells_at HX.out 3 _ rfl; have z4 := cells_at HX.out 4 _ rfl))
                        have hs2 := Kd.C_string (P := Tryd.prog) Tryd.underlying22 Tryd.underlying5 Tryd.underlying9 (c := c2) HO2.out
                        have hs1 := Kd.C_string (P := Tryd.prog) Tryd.underlying22 Tryd.underlying5 Tryd.underlying9 (c := c1) HO1c.out
                        by_cases hq : q = D.size
                        · subst hq
                          have hqb : ((D.size : Int) == (D.size : Int)) = true := by rw [beq_iff_eq]
                          go_wp2_with (first | (go_at_call 22; refine (laws_begins.calls _ _ _ _ (begins_f h1 h2 h3)).mono ?_; rintro _ W_ ⟨rfl, hd_⟩; have hb_ := hd_.below; clear hd_; have HB_ := Aside0.mk (HB.out.trans (hb_.mono HB.out.size)); have HX_ := Aside0.mk ((hb_.block _ (Array.getElem?_eq_some_iff.1 HX.out).1).trans HX.out); clear hb_ HB HX z0 z1 z2 z3 z4; have HB := HB_; have HX := HX_; clear HB_ HX_; have z0 := cells_at HX.out 0 _ rfl; have z1 := cells_at HX.out 1 _ rfl; have z2 := cells_at HX.out 2 _ rfl; have z3 := cells_at HX.out 3 _ rfl; have z4 := cells_at HX.out 4 _ rfl) | (go_at_call 17; refine (parts_calls _ (Utf8Tabs_below HT.out HB.out) (WhiteTab_below HW.out HB.out)).mono ?_; rintro _ W_ ⟨rfl, hb_⟩; have HB_ := Aside0.mk (HB.out.trans (hb_.mono HB.out.size)); have HX_ := Aside0.mk ((hb_.block _ (Array.getElem?_eq_some_iff.1 HX.out).1).trans HX.out); clear hb_ HB HX z0 z1 z2 z3 z4; have HB := HB_; have HX := HX_; clear HB_ HX_; have z0 := cells_at HX.out 0 _ rfl; have z1 := cells_at HX.out 1 _ rfl; have z2 := cells_at HX.out 2 _ rfl; have z3 := cells_at HX.out 3 _ rfl; have z4 := cells_at HX.out 4 _ rfl))
                          go_ret
                          exact ⟨rfl, HB.out⟩
                        · have hqb : ((q : Int) == (D.size : Int)) = false := by rw [beq_eq_false_iff_ne]; omega
                          have hq2 : ((q' : Int) == (q : Int)) = true := by rw [beq_iff_eq]; omega
                          go_wp2_with (first | (go_at_call 22; refine (laws_begins.calls _ _ _ _ (begins_f h1 h2 h3)).mono ?_; rintro _ W_ ⟨rfl, hd_⟩; have hb_ := hd_.below; clear hd_; have HB_ := Aside0.mk (HB.out.trans (hb_.mono HB.out.size)); have HX_ := Aside0.mk ((hb_.block _ (Array.getElem?_eq_some_iff.1 HX.out).1).trans HX.out); clear hb_ HB HX z0 z1 z2 z3 z4; have HB := HB_; have HX := HX_; clear HB_ HX_; have z0 := cells_at HX.out 0 _ rfl; have z1 := cells_at HX.out 1 _ rfl; have z2 := cells_at HX.out 2 _ rfl; have z3 := cells_at HX.out 3 _ rfl; have z4 := cells_at HX.out 4 _ rfl) | (go_at_call 17; refine (parts_calls _ (Utf8Tabs_below HT.out HB.out) (WhiteTab_below HW.out HB.out)).mono ?_; rintro _ W_ ⟨rfl, hb_⟩; have HB_ := Aside0.mk (HB.out.trans (hb_.mono HB.out.size)); have HX_ := Aside0.mk ((hb_.block _ (Array.getElem?_eq_some_iff.1 HX.out).1).trans HX.out); clear hb_ HB HX z0 z1 z2 z3 z4; have HB := HB_; have HX := HX_; clear HB_ HX_; have z0 := cells_at HX.out 0 _ rfl; have z1 := cells_at HX.out 1 _ rfl; have z2 := cells_at HX.out 2 _ rfl; have z3 := cells_at HX.out 3 _ rfl; have z4 := cells_at HX.out 4 _ rfl))
                          go_ret
                          exact ⟨rfl, HB.out⟩
        · have hMb : (M.size : Int) > 2147483647 := by omega
          go_wp2_with (first | (go_at_call 14; refine (laws_zzFits18.calls Ad cd del Af cf fol _ _ _ _ _ (Kd.C_below HCD.out HB.out) hcd (Kd.C_below HCF.out HB.out) hcf HFT.out).mono ?_; rintro _ W_ ⟨rfl, hb_⟩; have HB_ := Aside0.mk (HB.out.trans (hb_.mono HB.out.size)); have HX_ := Aside0.mk ((hb_.block _ (Array.getElem?_eq_some_iff.1 HX.out).1).trans HX.out); clear hb_ HB HX z0 z1 z2 z3 z4; have HB := HB_; have HX := HX_; clear HB_ HX_; have z0 := cells_at HX.out 0 _ rfl; have z1 := cells_at HX.out 1 _ rfl; have z2 := cells_at HX.out 2 _ rfl; have z3 := cells_at HX.out 3 _ rfl; have z4 := cells_at HX.out 4 _ rfl) | (go_at_call 15; refine (laws_splits.calls js Ad cd del Af cf fol _ _ _ _ _ (Kd.C_below HCD.out HB.out) hcd (Kd.C_below HCF.out HB.out) hcf HSP.out).mono ?_; rintro _ W_ ⟨rfl, hb_⟩; have HB_ := Aside0.mk (HB.out.trans (hb_.mono HB.out.size)); have HX_ := Aside0.mk ((hb_.block _ (Array.getElem?_eq_some_iff.1 HX.out).1).trans HX.out); clear hb_ HB HX z0 z1 z2 z3 z4; have HB := HB_; have HX := HX_; clear HB_ HX_; have z0 := cells_at HX.out 0 _ rfl; have z1 := cells_at HX.out 1 _ rfl; have z2 := cells_at HX.out 2 _ rfl; have z3 := cells_at HX.out 3 _ rfl; have z4 := cells_at HX.out 4 _ rfl) | (go_at_call 16; refine (readable_calls _ _).mono ?_; rintro _ W_ ⟨rfl, hb_⟩; (first | rw [HRD.out] | rw [HRM.out]); have HB_ := Aside0.mk (HB.out.trans (hb_.mono HB.out.size)); have HX_ := Aside0.mk ((hb_.block _ (Array.getElem?_eq_some_iff.1 HX.out).1).trans HX.out); clear hb_ HB HX z0 z1 z2 z3 z4; have HB := HB_; have HX := HX_; clear HB_ HX_; have z0 := cells_at HX.out 0 _ rfl; have z1 := cells_at HX.out 1 _ rfl; have z2 := cells_at HX.out 2 _ rfl; have z3 := cells_at HX.out 3 _ rfl; have z4 := cells_at HX.out 4 _ rfl) | (go_at_call 17; refine (parts_calls _ (Utf8Tabs_below HT.out HB.out) (WhiteTab_below HW.out HB.out)).mono ?_; rintro _ W_ ⟨rfl, hb_⟩; have HB_ := Aside0.mk (HB.out.trans (hb_.mono HB.out.size)); have HX_ := Aside0.mk ((hb_.block _ (Array.getElem?_eq_some_iff.1 HX.out).1).trans HX.out); clear hb_ HB HX z0 z1 z2 z3 z4; have HB := HB_; have HX := HX_; clear HB_ HX_; have z0 := cells_at HX.out 0 _ rfl; have z1 := cells_at HX.out 1 _ rfl; have z2 := cells_at HX.out 2 _ rfl; have z3 := cells_at HX.out 3 _ rfl; have z4 := cells_at HX.out 4 _ rfl))
          go_ret
          exact ⟨rfl, HB.out⟩
      · have hDb : (D.size : Int) > 2147483647 := by omega
        go_wp2_with (first | (go_at_call 14; refine (laws_zzFits18.calls Ad cd del Af cf fol _ _ _ _ _ (Kd.C_below HCD.out HB.out) hcd (Kd.C_below HCF.out HB.out) hcf HFT.out).mono ?_; rintro _ W_ ⟨rfl, hb_⟩; have HB_ := Aside0.mk (HB.out.trans (hb_.mono HB.out.size)); have HX_ := Aside0.mk ((hb_.block _ (Array.getElem?_eq_some_iff.1 HX.out).1).trans HX.out); clear hb_ HB HX z0 z1 z2 z3 z4; have HB := HB_; have HX := HX_; clear HB_ HX_; have z0 := cells_at HX.out 0 _ rfl; have z1 := cells_at HX.out 1 _ rfl; have z2 := cells_at HX.out 2 _ rfl; have z3 := cells_at HX.out 3 _ rfl; have z4 := cells_at HX.out 4 _ rfl) | (go_at_call 15; refine (laws_splits.calls js Ad cd del Af cf fol _ _ _ _ _ (Kd.C_below HCD.out HB.out) hcd (Kd.C_below HCF.out HB.out) hcf HSP.out).mono ?_; rintro _ W_ ⟨rfl, hb_⟩; have HB_ := Aside0.mk (HB.out.trans (hb_.mono HB.out.size)); have HX_ := Aside0.mk ((hb_.block _ (Array.getElem?_eq_some_iff.1 HX.out).1).trans HX.out); clear hb_ HB HX z0 z1 z2 z3 z4; have HB := HB_; have HX := HX_; clear HB_ HX_; have z0 := cells_at HX.out 0 _ rfl; have z1 := cells_at HX.out 1 _ rfl; have z2 := cells_at HX.out 2 _ rfl; have z3 := cells_at HX.out 3 _ rfl; have z4 := cells_at HX.out 4 _ rfl) | (go_at_call 16; refine (readable_calls _ _).mono ?_; rintro _ W_ ⟨rfl, hb_⟩; (first | rw [HRD.out] | rw [HRM.out]); have HB_ := Aside0.mk (HB.out.trans (hb_.mono HB.out.size)); have HX_ := Aside0.mk ((hb_.block _ (Array.getElem?_eq_some_iff.1 HX.out).1).trans HX.out); clear hb_ HB HX z0 z1 z2 z3 z4; have HB := HB_; have HX := HX_; clear HB_ HX_; have z0 := cells_at HX.out 0 _ rfl; have z1 := cells_at HX.out 1 _ rfl; have z2 := cells_at HX.out 2 _ rfl; have z3 := cells_at HX.out 3 _ rfl; have z4 := cells_at HX.out 4 _ rfl) | (go_at_call 17; refine (parts_calls _ (Utf8Tabs_below HT.out HB.out) (WhiteTab_below HW.out HB.out)).mono ?_; rintro _ W_ ⟨rfl, hb_⟩; have HB_ := Aside0.mk (HB.out.trans (hb_.mono HB.out.size)); have HX_ := Aside0.mk ((hb_.block _ (Array.getElem?_eq_some_iff.1 HX.out).1).trans HX.out); clear hb_ HB HX z0 z1 z2 z3 z4; have HB := HB_; have HX := HX_; clear HB_ HX_; have z0 := cells_at HX.out 0 _ rfl; have z1 := cells_at HX.out 1 _ rfl; have z2 := cells_at HX.out 2 _ rfl; have z3 := cells_at HX.out 3 _ rfl; have z4 := cells_at HX.out 4 _ rfl))
        go_ret
        exact ⟨rfl, HB.out⟩
    · have hfb : (decide (del.length ≤ 2147483647) && decide (fol.length ≤ 2147483647)) = false := by simp [hl2]
      have HFT : Aside0 (laws_zzFits18.f del fol skip dbl most = some false) := ⟨by rw [fits_f, hfb]⟩
      clear hfb
      go_wp2_with (first | (go_at_call 14; refine (laws_zzFits18.calls Ad cd del Af cf fol _ _ _ _ _ (Kd.C_below HCD.out HB.out) hcd (Kd.C_below HCF.out HB.out) hcf HFT.out).mono ?_; rintro _ W_ ⟨rfl, hb_⟩; have HB_ := Aside0.mk (HB.out.trans (hb_.mono HB.out.size)); have HX_ := Aside0.mk ((hb_.block _ (Array.getElem?_eq_some_iff.1 HX.out).1).trans HX.out); clear hb_ HB HX z0 z1 z2 z3 z4; have HB := HB_; have HX := HX_; clear HB_ HX_; have z0 := cells_at HX.out 0 _ rfl; have z1 := cells_at HX.out 1 _ rfl; have z2 := cells_at HX.out 2 _ rfl; have z3 := cells_at HX.out 3 _ rfl; have z4 := cells_at HX.out 4 _ rfl) | (go_at_call 15; refine (laws_splits.calls js Ad cd del Af cf fol _ _ _ _ _ (Kd.C_below HCD.out HB.out) hcd (Kd.C_below HCF.out HB.out) hcf HSP.out).mono ?_; rintro _ W_ ⟨rfl, hb_⟩; have HB_ := Aside0.mk (HB.out.trans (hb_.mono HB.out.size)); have HX_ := Aside0.mk ((hb_.block _ (Array.getElem?_eq_some_iff.1 HX.out).1).trans HX.out); clear hb_ HB HX z0 z1 z2 z3 z4; have HB := HB_; have HX := HX_; clear HB_ HX_; have z0 := cells_at HX.out 0 _ rfl; have z1 := cells_at HX.out 1 _ rfl; have z2 := cells_at HX.out 2 _ rfl; have z3 := cells_at HX.out 3 _ rfl; have z4 := cells_at HX.out 4 _ rfl) | (go_at_call 16; refine (readable_calls _ _).mono ?_; rintro _ W_ ⟨rfl, hb_⟩; (first | rw [HRD.out] | rw [HRM.out]); have HB_ := Aside0.mk (HB.out.trans (hb_.mono HB.out.size)); have HX_ := Aside0.mk ((hb_.block _ (Array.getElem?_eq_some_iff.1 HX.out).1).trans HX.out); clear hb_ HB HX z0 z1 z2 z3 z4; have HB := HB_; have HX := HX_; clear HB_ HX_; have z0 := cells_at HX.out 0 _ rfl; have z1 := cells_at HX.out 1 _ rfl; have z2 := cells_at HX.out 2 _ rfl; have z3 := cells_at HX.out 3 _ rfl; have z4 := cells_at HX.out 4 _ rfl) | (go_at_call 17; refine (parts_calls _ (Utf8Tabs_below HT.out HB.out) (WhiteTab_below HW.out HB.out)).mono ?_; rintro _ W_ ⟨rfl, hb_⟩; have HB_ := Aside0.mk (HB.out.trans (hb_.mono HB.out.size)); have HX_ := Aside0.mk ((hb_.block _ (Array.getElem?_eq_some_iff.1 HX.out).1).trans HX.out); clear hb_ HB HX z0 z1 z2 z3 z4; have HB := HB_; have HX := HX_; clear HB_ HX_; have z0 := cells_at HX.out 0 _ rfl; have z1 := cells_at HX.out 1 _ rfl; have z2 := cells_at HX.out 2 _ rfl; have z3 := cells_at HX.out 3 _ rfl; have z4 := cells_at HX.out 4 _ rfl))
      go_ret
      exact ⟨rfl, HB.out⟩
  · have hfb : (decide (del.length ≤ 2147483647) && decide (fol.length ≤ 2147483647)) = false := by simp [hl1]
    have HFT : Aside0 (laws_zzFits18.f del fol skip dbl most = some false) := ⟨by rw [fits_f, hfb]⟩
    clear hfb
    go_wp2_with (first | (go_at_call 14; refine (laws_zzFits18.calls Ad cd del Af cf fol _ _ _ _ _ (Kd.C_below HCD.out HB.out) hcd (Kd.C_below HCF.out HB.out) hcf HFT.out).mono ?_; rintro _ W_ ⟨rfl, hb_⟩; have HB_ := Aside0.mk (HB.out.trans (hb_.mono HB.out.size)); have HX_ := Aside0.mk ((hb_.block _ (Array.getElem?_eq_some_iff.1 HX.out).1).trans HX.out); clear hb_ HB HX z0 z1 z2 z3 z4; have HB := HB_; have HX := HX_; clear HB_ HX_; have z0 := cells_at HX.out 0 _ rfl; have z1 := cells_at HX.out 1 _ rfl; have z2 := cells_at HX.out 2 _ rfl; have z3 := cells_at HX.out 3 _ rfl; have z4 := cells_at HX.out 4 _ rfl) | (go_at_call 15; refine (laws_splits.calls js Ad cd del Af cf fol _ _ _ _ _ (Kd.C_below HCD.out HB.out) hcd (Kd.C_below HCF.out HB.out) hcf HSP.out).mono ?_; rintro _ W_ ⟨rfl, hb_⟩; have HB_ := Aside0.mk (HB.out.trans (hb_.mono HB.out.size)); have HX_ := Aside0.mk ((hb_.block _ (Array.getElem?_eq_some_iff.1 HX.out).1).trans HX.out); clear hb_ HB HX z0 z1 z2 z3 z4; have HB := HB_; have HX := HX_; clear HB_ HX_; have z0 := cells_at HX.out 0 _ rfl; have z1 := cells_at HX.out 1 _ rfl; have z2 := cells_at HX.out 2 _ rfl; have z3 := cells_at HX.out 3 _ rfl; have z4 := cells_at HX.out 4 _ rfl) | (go_at_call 16; refine (readable_calls _ _).mono ?_; rintro _ W_ ⟨rfl, hb_⟩; (first | rw [HRD.out] | rw [HRM.out]); have HB_ := Aside0.mk (HB.out.trans (hb_.mono HB.out.size)); have HX_ := Aside0.mk ((hb_.block _ (Array.getElem?_eq_some_iff.1 HX.out).1).trans HX.out); clear hb_ HB HX z0 z1 z2 z3 z4; have HB := HB_; have HX := HX_; clear HB_ HX_; have z0 := cells_at HX.out 0 _ rfl; have z1 := cells_at HX.out 1 _ rfl; have z2 := cells_at HX.out 2 _ rfl; have z3 := cells_at HX.out 3 _ rfl; have z4 := cells_at HX.out 4 _ rfl) | (go_at_call 17; refine (parts_calls _ (Utf8Tabs_below HT.out HB.out) (WhiteTab_below HW.out HB.out)).mono ?_; rintro _ W_ ⟨rfl, hb_⟩; have HB_ := Aside0.mk (HB.out.trans (hb_.mono HB.out.size)); have HX_ := Aside0.mk ((hb_.block _ (Array.getElem?_eq_some_iff.1 HX.out).1).trans HX.out); clear hb_ HB HX z0 z1 z2 z3 z4; have HB := HB_; have HX := HX_; clear HB_ HX_; have z0 := cells_at HX.out 0 _ rfl; have z1 := cells_at HX.out 1 _ rfl; have z2 := cells_at HX.out 2 _ rfl; have z3 := cells_at HX.out 3 _ rfl; have z4 := cells_at HX.out 4 _ rfl))
    go_ret
    exact ⟨rfl, HB.out⟩
theorem walk_more (Aa0_0 : Option Addr) (ca0_0 : Nat) (a0_0 : (List Int)) (Aa0_1 : Option Addr) (ca0_1 : Nat) (a0_1 : (List Int)) (a0_2 : Bool) (a0_3 : Bool) (a0_4 : Int) (a1 : ByteArray) (a2 : ByteArray) (w : World) (hL : laidMet Tryd.prog Rows.fnScanMoreRow.laid w) (hra0_0 : Kd.C (Kd.int .i32) w Aa0_0 a0_0.length a0_0) (hca0_0 : a0_0.length ≤ ca0_0) (hga0_0 : a0_0.length * 4 ≤ 140737488351232 ∧ ∀ y0 ∈ a0_0, (Lit.int .i32 y0).wf = true) (hra0_1 : Kd.C (Kd.int .i32) w Aa0_1 a0_1.length a0_1) (hca0_1 : a0_1.length ≤ ca0_1) (hga0_1 : a0_1.length * 4 ≤ 140737488351232 ∧ ∀ y0 ∈ a0_1, (Lit.int .i32 y0).wf = true) (hga0_4 : (Lit.int .i64 a0_4).wf = true) (hg1 : a1.size ≤ 140737488351232) (hg2 : a2.size ≤ 140737488351232) :
    Calls Tryd.prog 6 #[.agg #[.slice Aa0_0 a0_0.length ca0_0, .slice Aa0_1 a0_1.length ca0_1, .bool a0_2, .bool a0_3, .int .i64 a0_4], .string a1, .string a2] w fun e w' => e = .returned (.bool true) ∧ Below w.heap.size w w' := by
  have hT := Tabs.met hL (by rw [← Tabs.d3]; simp [Rows.fnScanMoreRow]) (by rw [← Tabs.d4]; simp [Rows.fnScanMoreRow]) (by rw [← Tabs.d6]; simp [Rows.fnScanMoreRow])
  exact more_calls w ⟨a0_0, a0_1, a0_2, a0_3, a0_4⟩ Aa0_0 Aa0_1 ca0_0 ca0_1 a1 a2 hra0_0 hca0_0 hra0_1 hca0_1 hT.1 hT.2 hg1 hg2
end Go.Proofs.YtckdpckdabfkbabDoor.Scan
